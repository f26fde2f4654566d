import JvmDerived
import JvmDerived.Pilot.@@N@@Statement
import JvmDerived.Pilot.@@N@@Code
set_option linter.unusedVariables false
set_option linter.unusedSimpArgs false
@@BLOCK:HandJ.lean.txt@@
@@BLOCK:SymMore.lean.txt@@
namespace Jvm.Wk
open Sem ClassFile Op Lib Jvm.Stand Jvm.Free Jvm.LawKit Jvm.RoadKit
/-! THE SYMBOLIC HEAP: a list of known cells (items): an address, whether this run may write it (then it is new and no booked literal), what it is (an object of a described class | an array), and its values. -/
abbrev Kd : Type := String × List (String × String × String)
abbrev Item : Type := Addr × Bool × (Kd ⊕ FieldType) × List Value
abbrev key (x : Item) : Addr × Bool := (x.1, x.2.1)
def Ob (Z : State) (h : Heap) (a : Addr) (K : Kd) (vs : List Value) : Prop :=
  Exa Z h a K.1 ∧ ∀ (i : Nat) (f : String × String × String) (v : Value), K.2[i]? = some f → vs[i]? = some v → Fld Z h a f.1 f.2.1 f.2.2 v
def Ay (Z : State) (h : Heap) (a : Addr) (w : Bool) (ty : FieldType) (vs : List Value) : Prop :=
  ∃ c : Cell, Arr Z h a c ty ∧ c.slots = vs.toArray ∧ vs.length < 2 ^ 31 ∧ (∀ v ∈ vs, fits ty v = true) ∧ (w = true → ∀ C, ty = .object C → Ovr Z c.cls C)
def It (Z : State) (h : Heap) (x : Item) : Prop := match x.2.2.1 with
  | .inl K => Ob Z h x.1 K x.2.2.2
  | .inr ty => Ay Z h x.1 x.2.1 ty x.2.2.2
def ApK (p q : Addr × Bool) : Prop := (p.2 || q.2) = true → p.1 ≠ q.1
def Hp (Z : State) (EL : List (String × Nat)) (vm : Vm) (h : Heap) (L : List Item) : Prop :=
  Ext Z.heap h ∧ CHv Z EL vm h ∧ (∀ x ∈ L, It Z h x) ∧ (L.map key).Pairwise ApK ∧ ∀ k ∈ L.map key, k.2 = true → Z.heap.size ≤ k.1 ∧ Safe Z EL vm h k.1
section Heaps
variable {Z : State} {EL : List (String × Nat)} {vm : Vm} {h h' : Heap} {L L' : List Item} {x : Item} {a : Addr} {sl : Nat} {v : Value}
theorem ApK.symm {p q : Addr × Bool} (k : ApK p q) : ApK q p := fun e => Ne.symm (k (by rw [Bool.or_comm]; exact e))
theorem It.lt (I : It Z h x) : x.1 < h.size := by
  obtain ⟨b, w, D, vs⟩ := x
  cases D with
  | inl K => exact (I.1 : Exa Z h b K.1).lt
  | inr ty => obtain ⟨c, A, -⟩ := I; exact A.lt
theorem It.ext (E : Ext h h') (I : It Z h x) : It Z h' x := by
  obtain ⟨b, w, D, vs⟩ := x
  cases D with
  | inl K => exact ⟨(I.1 : Exa Z h b K.1).ext E, fun i f v p q => (I.2 i f v p q).ext E⟩
  | inr ty => obtain ⟨c, A, r⟩ := I; exact ⟨c, A.ext E, r⟩
theorem It.other (W : Wr h h' a sl v) (q : x.1 ≠ a) (I : It Z h x) : It Z h' x := by
  obtain ⟨b, w, D, vs⟩ := x
  cases D with
  | inl K => exact ⟨(I.1 : Exa Z h b K.1).wr W, fun i f v p r => (I.2 i f v p r).other W (Or.inl q)⟩
  | inr ty => obtain ⟨c, A, r⟩ := I; exact ⟨c, A.other W q, r⟩
theorem extT {h1 h2 h3 : Heap} (A : Ext h1 h2) (B : Ext h2 h3) : Ext h1 h3 := ⟨Nat.le_trans A.1 B.1, fun x c q => B.2 x c (A.2 x c q)⟩
theorem Hp.push {D : Kd ⊕ FieldType} {vs : List Value} (H : Hp Z EL vm h L) (E : Ext h h') (I : It Z h' (h.size, true, D, vs)) : Hp Z EL vm h' ((h.size, true, D, vs) :: L) := by
  obtain ⟨H1, H2, H3, H4, H5⟩ := H
  refine ⟨extT H1 E, H2.ext E, ?_, ?_, ?_⟩
  · intro y hy
    rcases List.mem_cons.mp hy with rfl | hy
    · exact I
    · exact (H3 y hy).ext E
  · rw [List.map_cons]
    refine List.pairwise_cons.mpr ⟨fun k hk _ => ?_, H4⟩
    obtain ⟨y, hy, rfl⟩ := List.mem_map.mp hk
    exact Nat.ne_of_gt (H3 y hy).lt
  · intro k hk hw
    rcases List.mem_cons.mp hk with rfl | hk
    · exact ⟨H1.1, Safe.ext E H2 (Safe.new (Nat.le_refl _))⟩
    · exact ⟨(H5 k hk hw).1, Safe.ext E H2 (H5 k hk hw).2⟩
theorem Hp.add {D : Kd ⊕ FieldType} {vs : List Value} (H : Hp Z EL vm h L) (hn : ∀ k ∈ L.map key, k.2 = true → a ≠ k.1) (I : It Z h (a, false, D, vs)) : Hp Z EL vm h ((a, false, D, vs) :: L) := by
  obtain ⟨H1, H2, H3, H4, H5⟩ := H
  refine ⟨H1, H2, ?_, ?_, ?_⟩
  · intro y hy
    rcases List.mem_cons.mp hy with rfl | hy
    · exact I
    · exact H3 y hy
  · rw [List.map_cons]
    exact List.pairwise_cons.mpr ⟨fun k hk e => hn k hk (by simpa using e), H4⟩
  · intro k hk hw
    rcases List.mem_cons.mp hk with rfl | hk
    · cases hw
    · exact H5 k hk hw
theorem set_same {α : Type} {M : List α} {i : Nat} {k : α} (q : M[i]? = some k) : M.set i k = M := by
  obtain ⟨hi, rfl⟩ := List.getElem?_eq_some_iff.mp q
  exact List.set_getElem_self hi
theorem Hp.put {i : Nat} {D : Kd ⊕ FieldType} {vs vs' : List Value} (H : Hp Z EL vm h L) (hi : L[i]? = some (a, true, D, vs)) (W : Wr h h' a sl v) (I : It Z h' (a, true, D, vs')) : Hp Z EL vm h' (L.set i (a, true, D, vs')) := by
  obtain ⟨H1, H2, H3, H4, H5⟩ := H
  have hk : (L.map key)[i]? = some (a, true) := by rw [List.getElem?_map, hi]; rfl
  have em : (L.set i (a, true, D, vs')).map key = L.map key := by rw [List.map_set]; exact set_same hk
  have ha := H5 _ (List.mem_of_getElem? hk) rfl
  refine ⟨(Old.wr ⟨rfl, H1⟩ W ha.1).2, H2.wr W ha.2, ?_, by rw [em]; exact H4, ?_⟩
  · intro y hy
    obtain ⟨j, hj⟩ := List.mem_iff_getElem?.mp hy
    rw [List.getElem?_set] at hj
    split at hj
    · split at hj
      · cases hj; exact I
      · cases hj
    · rename_i hne
      refine (H3 y (List.mem_of_getElem? hj)).other W ?_
      have hkj : (L.map key)[j]? = some (key y) := by rw [List.getElem?_map, hj]; rfl
      obtain ⟨hi1, hi2⟩ := List.getElem?_eq_some_iff.mp hk
      obtain ⟨hj1, hj2⟩ := List.getElem?_eq_some_iff.mp hkj
      have P := List.pairwise_iff_getElem.mp H4
      rcases Nat.lt_or_gt_of_ne hne with q | q
      · have := P i j hi1 hj1 q
        rw [hi2, hj2] at this
        exact Ne.symm (this rfl)
      · have := P j i hj1 hi1 q
        rw [hi2, hj2] at this
        exact this (by simp)
  · rw [em]
    exact fun k hk hw => ⟨(H5 k hk hw).1, Safe.wr W ha.2 H2 (H5 k hk hw).2⟩
theorem Hp.perm (q : L.Perm L') (H : Hp Z EL vm h L) : Hp Z EL vm h L' := by
  obtain ⟨H1, H2, H3, H4, H5⟩ := H
  have qm := q.map key
  exact ⟨H1, H2, fun x hx => H3 x (q.mem_iff.mpr hx), (qm.pairwise_iff (fun {_ _} k => ApK.symm k)).mp H4, fun k hk => H5 k (qm.mem_iff.mpr hk)⟩
theorem Hp.sub (q : L'.Sublist L) (H : Hp Z EL vm h L) : Hp Z EL vm h L' := by
  obtain ⟨H1, H2, H3, H4, H5⟩ := H
  have qm := q.map key
  exact ⟨H1, H2, fun x hx => H3 x (q.subset hx), H4.sublist qm, fun k hk => H5 k (qm.subset hk)⟩
theorem Hp.later {vm1 : Vm} (H : Hp Z EL vm h L) (E : Ext h h') (Q : CHr Z EL vm h vm1 h') : Hp Z EL vm1 h' L := by
  obtain ⟨H1, H2, H3, H4, H5⟩ := H
  refine ⟨extT H1 E, Q.1, fun x hx => (H3 x hx).ext E, H4, fun k hk hw => ⟨(H5 k hk hw).1, ?_⟩⟩
  obtain ⟨y, hy, rfl⟩ := List.mem_map.mp hk
  exact Q.safe (H3 y hy).lt (H5 _ hk hw).2
theorem Hp.obj {i : Nat} {w : Bool} {K : Kd} {vs : List Value} (H : Hp Z EL vm h L) (hi : L[i]? = some (a, w, .inl K, vs)) : Ob Z h a K vs := H.2.2.1 _ (List.mem_of_getElem? hi)
theorem Hp.arr {i : Nat} {w : Bool} {ty : FieldType} {vs : List Value} (H : Hp Z EL vm h L) (hi : L[i]? = some (a, w, .inr ty, vs)) : Ay Z h a w ty vs := H.2.2.1 _ (List.mem_of_getElem? hi)
theorem Hp.new {i : Nat} {D : Kd ⊕ FieldType} {vs : List Value} (H : Hp Z EL vm h L) (hi : L[i]? = some (a, true, D, vs)) : Z.heap.size ≤ a ∧ Safe Z EL vm h a :=
  H.2.2.2.2 (a, true) (List.mem_map.mpr ⟨_, List.mem_of_getElem? hi, rfl⟩) rfl
theorem app_at {F : List Item} {i : Nat} (hi : L[i]? = some x) : (L ++ F)[i]? = some x := by
  rw [List.getElem?_append_left (List.getElem?_eq_some_iff.mp hi).1]; exact hi
theorem app_set {F : List Item} {i : Nat} {y : Item} (hi : L[i]? = some x) : (L ++ F).set i y = L.set i y ++ F :=
  List.set_append_left _ _ (List.getElem?_eq_some_iff.mp hi).1
/-- what the sheet says of a class: each field laid, each descriptor read -/
def LaidAll (Z : State) (a0 : Array Value) (C : String) : List (String × String × String) → Prop
  | [] => True
  | f :: r => (Laid Z a0 C f.1 f.2.1 f.2.2 ∧ (parseFieldDescriptor f.2.2).isSome = true) ∧ LaidAll Z a0 C r
theorem LaidAll.mem {a0 : Array Value} {C : String} : ∀ {l : List (String × String × String)}, LaidAll Z a0 C l → ∀ f ∈ l, Laid Z a0 C f.1 f.2.1 f.2.2 ∧ (parseFieldDescriptor f.2.2).isSome = true
  | [], _, _, q => nomatch q
  | g :: r, k, f, q => by
    rcases List.mem_cons.mp q with rfl | q
    · exact k.1
    · exact LaidAll.mem k.2 f q
def KOk (Z : State) (a0 : Array Value) (K : Kd) : Prop := LaidAll Z a0 K.1 K.2 ∧ (K.2.map (·.2.1)).Nodup
theorem KOk.ne {a0 : Array Value} {K : Kd} (k : KOk Z a0 K) {i j : Nat} {f g : String × String × String} (hi : K.2[i]? = some f) (hj : K.2[j]? = some g) (hne : i ≠ j) : Jvm.RoadKit.slotOf Z f.1 f.2.1 f.2.2 ≠ Jvm.RoadKit.slotOf Z g.1 g.2.1 g.2.2 := by
  obtain ⟨l1, p1⟩ := k.1.mem f (List.mem_of_getElem? hi)
  obtain ⟨l2, p2⟩ := k.1.mem g (List.mem_of_getElem? hj)
  obtain ⟨t1, q1⟩ := Option.isSome_iff_exists.mp p1
  obtain ⟨t2, q2⟩ := Option.isSome_iff_exists.mp p2
  refine slot_ne l1 l2 (fun e => hne ?_) q1 q2
  obtain ⟨hi1, rfl⟩ := List.getElem?_eq_some_iff.mp hi
  obtain ⟨hj1, rfl⟩ := List.getElem?_eq_some_iff.mp hj
  have N := k.2
  refine (List.getElem_inj (xs := K.2.map (·.2.1)) (i := i) (j := j) (h₀ := by simpa using hi1) (h₁ := by simpa using hj1) N).mp ?_
  simpa using e
theorem Ob.set {a0 : Array Value} {K : Kd} (k : KOk Z a0 K) {vs : List Value} {j : Nat} {f : String × String × String} (hj : K.2[j]? = some f) (W : Wr h h' a (Jvm.RoadKit.slotOf Z f.1 f.2.1 f.2.2) v) (I : Ob Z h a K vs) (hv : j < vs.length) : Ob Z h' a K (vs.set j v) := by
  refine ⟨I.1.wr W, fun i g u hg hu => ?_⟩
  rw [List.getElem?_set] at hu
  split at hu
  · rename_i e; subst e
    cases hu
    cases hj.symm.trans hg
    exact (I.2 j f _ hg (List.getElem?_eq_getElem hv)).same W
  · rename_i hne
    exact (I.2 i g u hg hu).other W (Or.inr (k.ne hg hj (Ne.symm hne)))
theorem Ay.set {w : Bool} {ty : FieldType} {vs : List Value} {j : Nat} (I : Ay Z h a w ty vs) (W : Wr h h' a j v) (hv : fits ty v = true) : Ay Z h' a w ty (vs.set j v) := by
  obtain ⟨c, A, e, hl, hf, ho⟩ := I
  refine ⟨c.setSlot j v, A.same W, ?_, by simpa using hl, ?_, ?_⟩
  · show c.slots.setIfInBounds j v = _
    rw [e]; simp
  · intro u hu
    rcases List.mem_or_eq_of_mem_set hu with q | rfl
    · exact hf u q
    · exact hv
  · exact fun q C r => ho q C r
end Heaps
end Jvm.Wk
namespace Jvm.Wk
open Sem ClassFile Op Lib Jvm.Stand Jvm.Free Jvm.LawKit Jvm.RoadKit
/-! A BODY AS A LIST OF ITS INSTRUCTIONS, and the plain ones run by evaluation. -/
abbrev Prog : Type := List (Nat × Instr × Nat)
def okB (code : ByteArray) : Prog → Bool
  | [] => true
  | (pc, i, n) :: r => decide (decode code pc = .ok (i, n)) && okB code r
theorem okB_at {code : ByteArray} : ∀ {B : Prog}, okB code B = true → ∀ {j pc : Nat} {i : Instr} {n : Nat}, B[j]? = some (pc, i, n) → decode code pc = .ok (i, n)
  | [], _, j, _, _, _, q => by simp at q
  | (pc0, i0, n0) :: r, h, 0, pc, i, n, q => by
    simp only [okB, Bool.and_eq_true, decide_eq_true_eq] at h
    simp only [List.getElem?_cons_zero, Option.some.injEq, Prod.mk.injEq] at q
    obtain ⟨rfl, rfl, rfl⟩ := q
    exact h.1
  | (pc0, i0, n0) :: r, h, j + 1, pc, i, n, q => by
    simp only [okB, Bool.and_eq_true] at h
    rw [List.getElem?_cons_succ] at q
    exact okB_at h.2 q
abbrev Cf : Type := Nat × List Slot × List Value
/-- Java's shifts -/
def ush (x y : Int32) : Int32 := (x.toUInt32 >>> (y &&& 31).toUInt32).toInt32
def shlL (x : Int64) (y : Int32) : Int64 := x <<< (y &&& 0x3f).toInt64
def shrL (x : Int64) (y : Int32) : Int64 := x >>> (y &&& 0x3f).toInt64
def ushL (x : Int64) (y : Int32) : Int64 := (x.toUInt64 >>> (y &&& 0x3f).toInt64.toUInt64).toInt64
def b2 (f : Int32 → Int32 → Int32) (n pc : Nat) (ls : List Slot) (st : List Value) : Option Cf := match n, st with
  | 1, .int y :: .int x :: r => some (pc + 1, ls, .int (f x y) :: r)
  | _, _ => none
def b2l (f : Int64 → Int64 → Int64) (n pc : Nat) (ls : List Slot) (st : List Value) : Option Cf := match n, st with
  | 1, .long y :: .long x :: r => some (pc + 1, ls, .long (f x y) :: r)
  | _, _ => none
def bsl (f : Int64 → Int32 → Int64) (n pc : Nat) (ls : List Slot) (st : List Value) : Option Cf := match n, st with
  | 1, .int y :: .long x :: r => some (pc + 1, ls, .long (f x y) :: r)
  | _, _ => none
def ucm (n pc : Nat) (ls : List Slot) (st : List Value) : Option Cf := match n, st with
  | 1, .long y :: .long x :: r => some (pc + 1, ls, .int (XT.cmpL x y) :: r)
  | _, _ => none
def u1 (f : Int32 → Value) (n pc : Nat) (ls : List Slot) (st : List Value) : Option Cf := match n, st with
  | 1, .int x :: r => some (pc + 1, ls, f x :: r)
  | _, _ => none
def u1l (f : Int64 → Value) (n pc : Nat) (ls : List Slot) (st : List Value) : Option Cf := match n, st with
  | 1, .long x :: r => some (pc + 1, ls, f x :: r)
  | _, _ => none
def gi (k ln n pc : Nat) (ls : List Slot) (st : List Value) : Option Cf := if n = ln then (match ls[k]? with
  | some (.val (.int v)) => some (pc + ln, ls, .int v :: st)
  | _ => none) else none
def gl (k ln n pc : Nat) (ls : List Slot) (st : List Value) : Option Cf := if n = ln then (match ls[k]? with
  | some (.val (.long v)) => some (pc + ln, ls, .long v :: st)
  | _ => none) else none
def ga (k ln n pc : Nat) (ls : List Slot) (st : List Value) : Option Cf := if n = ln then (match ls[k]? with
  | some (.val (.ref v)) => some (pc + ln, ls, .ref v :: st)
  | some (.val .null) => some (pc + ln, ls, .null :: st)
  | _ => none) else none
def sv (k ln n pc : Nat) (ls : List Slot) (v : Value) (r : List Value) : Option Cf := if n = ln then (match storeLocals ls.toArray k v with
  | some l' => some (pc + ln, l'.toList, r)
  | none => none) else none
def si (k ln n pc : Nat) (ls : List Slot) (st : List Value) : Option Cf := match st with
  | .int x :: r => sv k ln n pc ls (.int x) r
  | _ => none
def sl (k ln n pc : Nat) (ls : List Slot) (st : List Value) : Option Cf := match st with
  | .long x :: r => sv k ln n pc ls (.long x) r
  | _ => none
def sa (k ln n pc : Nat) (ls : List Slot) (st : List Value) : Option Cf := match st with
  | .ref x :: r => sv k ln n pc ls (.ref x) r
  | .null :: r => sv k ln n pc ls .null r
  | _ => none
def cn (v : Value) (ln n pc : Nat) (ls : List Slot) (st : List Value) : Option Cf := if n = ln then some (pc + ln, ls, v :: st) else none
def dpp (n pc : Nat) (ls : List Slot) (st : List Value) : Option Cf := match n, st with
  | 1, .int x :: r => some (pc + 1, ls, .int x :: .int x :: r)
  | 1, .ref x :: r => some (pc + 1, ls, .ref x :: .ref x :: r)
  | 1, .null :: r => some (pc + 1, ls, .null :: .null :: r)
  | _, _ => none
def dpx (n pc : Nat) (ls : List Slot) (st : List Value) : Option Cf := match n, st with
  | 1, .int x :: .ref y :: r => some (pc + 1, ls, .int x :: .ref y :: .int x :: r)
  | 1, .int x :: .int y :: r => some (pc + 1, ls, .int x :: .int y :: .int x :: r)
  | 1, .ref x :: .ref y :: r => some (pc + 1, ls, .ref x :: .ref y :: .ref x :: r)
  | _, _ => none
def dp2 (n pc : Nat) (ls : List Slot) (st : List Value) : Option Cf := match n, st with
  | 1, .long x :: r => some (pc + 1, ls, .long x :: .long x :: r)
  | 1, .int x :: .ref y :: r => some (pc + 1, ls, .int x :: .ref y :: .int x :: .ref y :: r)
  | 1, .int x :: .int y :: r => some (pc + 1, ls, .int x :: .int y :: .int x :: .int y :: r)
  | _, _ => none
def pp (n pc : Nat) (ls : List Slot) (st : List Value) : Option Cf := match n, st with
  | 1, .int _ :: r => some (pc + 1, ls, r)
  | 1, .ref _ :: r => some (pc + 1, ls, r)
  | 1, .null :: r => some (pc + 1, ls, r)
  | _, _ => none
def gt (o : Int) (n pc : Nat) (ls : List Slot) (st : List Value) : Option Cf := if n = 3 then (if 0 ≤ (pc : Int) + o then some (((pc : Int) + o).toNat, ls, st) else none) else none
def inc (k : Nat) (d : Int) (n pc : Nat) (ls : List Slot) (st : List Value) : Option Cf := match ls[k]? with
  | some (.val (.int x)) => sv k 3 n pc ls (.int (x + Int32.ofInt d)) st
  | _ => none
def st1 (i : Instr) (n pc : Nat) (ls : List Slot) (st : List Value) : Option Cf := match i with
  | .iload_n k => gi k.val 1 n pc ls st
  | .iload k => gi k 2 n pc ls st
  | .lload_n k => gl k.val 1 n pc ls st
  | .lload k => gl k 2 n pc ls st
  | .aload_n k => ga k.val 1 n pc ls st
  | .aload k => ga k 2 n pc ls st
  | .istore_n k => si k.val 1 n pc ls st
  | .istore k => si k 2 n pc ls st
  | .lstore_n k => sl k.val 1 n pc ls st
  | .lstore k => sl k 2 n pc ls st
  | .astore_n k => sa k.val 1 n pc ls st
  | .astore k => sa k 2 n pc ls st
  | .iconst z => cn (.int (Int32.ofInt z)) 1 n pc ls st
  | .bipush z => cn (.int (Int8.ofInt z).toInt32) 2 n pc ls st
  | .sipush z => cn (.int (Int16.ofInt z).toInt32) 3 n pc ls st
  | .lconst k => cn (.long (Int64.ofNat k)) 1 n pc ls st
  | .aconst_null => cn .null 1 n pc ls st
  | .iadd => b2 (· + ·) n pc ls st
  | .isub => b2 (· - ·) n pc ls st
  | .imul => b2 (· * ·) n pc ls st
  | .iand => b2 (· &&& ·) n pc ls st
  | .ior => b2 (· ||| ·) n pc ls st
  | .ixor => b2 (· ^^^ ·) n pc ls st
  | .ishl => b2 (fun x y => x <<< (y &&& 31)) n pc ls st
  | .ishr => b2 (fun x y => x >>> (y &&& 31)) n pc ls st
  | .iushr => b2 ush n pc ls st
  | .ladd => b2l (· + ·) n pc ls st
  | .lsub => b2l (· - ·) n pc ls st
  | .lmul => b2l (· * ·) n pc ls st
  | .land => b2l (· &&& ·) n pc ls st
  | .lor => b2l (· ||| ·) n pc ls st
  | .lxor => b2l (· ^^^ ·) n pc ls st
  | .lshl => bsl shlL n pc ls st
  | .lshr => bsl shrL n pc ls st
  | .lushr => bsl ushL n pc ls st
  | .lcmp => ucm n pc ls st
  | .ineg => u1 (fun x => .int (-x)) n pc ls st
  | .i2b => u1 (fun x => .int x.toInt8.toInt32) n pc ls st
  | .i2c => u1 (fun x => .int x.toUInt32.toUInt16.toUInt32.toInt32) n pc ls st
  | .i2s => u1 (fun x => .int x.toInt16.toInt32) n pc ls st
  | .i2l => u1 (fun x => .long x.toInt64) n pc ls st
  | .l2i => u1l (fun x => .int x.toInt32) n pc ls st
  | .lneg => u1l (fun x => .long (-x)) n pc ls st
  | .dup => dpp n pc ls st
  | .dup_x1 => dpx n pc ls st
  | .dup2 => dp2 n pc ls st
  | .pop => pp n pc ls st
  | .goto o => gt o n pc ls st
  | .iinc k d => inc k d n pc ls st
  | _ => none
section Inv
variable {n pc k ln : Nat} {ls : List Slot} {st : List Value} {z : Cf} {v : Value} {r : List Value}
theorem b2_inv {f : Int32 → Int32 → Int32} (h : b2 f n pc ls st = some z) : ∃ y x r, n = 1 ∧ st = .int y :: .int x :: r ∧ z = (pc + 1, ls, .int (f x y) :: r) := by
  unfold b2 at h; split at h
  · cases h; exact ⟨_, _, _, rfl, rfl, rfl⟩
  · cases h
theorem b2l_inv {f : Int64 → Int64 → Int64} (h : b2l f n pc ls st = some z) : ∃ y x r, n = 1 ∧ st = .long y :: .long x :: r ∧ z = (pc + 1, ls, .long (f x y) :: r) := by
  unfold b2l at h; split at h
  · cases h; exact ⟨_, _, _, rfl, rfl, rfl⟩
  · cases h
theorem bsl_inv {f : Int64 → Int32 → Int64} (h : bsl f n pc ls st = some z) : ∃ y x r, n = 1 ∧ st = .int y :: .long x :: r ∧ z = (pc + 1, ls, .long (f x y) :: r) := by
  unfold bsl at h; split at h
  · cases h; exact ⟨_, _, _, rfl, rfl, rfl⟩
  · cases h
theorem ucm_inv (h : ucm n pc ls st = some z) : ∃ y x r, n = 1 ∧ st = .long y :: .long x :: r ∧ z = (pc + 1, ls, .int (XT.cmpL x y) :: r) := by
  unfold ucm at h; split at h
  · cases h; exact ⟨_, _, _, rfl, rfl, rfl⟩
  · cases h
theorem u1_inv {f : Int32 → Value} (h : u1 f n pc ls st = some z) : ∃ x r, n = 1 ∧ st = .int x :: r ∧ z = (pc + 1, ls, f x :: r) := by
  unfold u1 at h; split at h
  · cases h; exact ⟨_, _, rfl, rfl, rfl⟩
  · cases h
theorem u1l_inv {f : Int64 → Value} (h : u1l f n pc ls st = some z) : ∃ x r, n = 1 ∧ st = .long x :: r ∧ z = (pc + 1, ls, f x :: r) := by
  unfold u1l at h; split at h
  · cases h; exact ⟨_, _, rfl, rfl, rfl⟩
  · cases h
theorem gi_inv (h : gi k ln n pc ls st = some z) : ∃ v, n = ln ∧ ls[k]? = some (.val (.int v)) ∧ z = (pc + ln, ls, .int v :: st) := by
  unfold gi at h; split at h
  · split at h
    · cases h; exact ⟨_, by assumption, by assumption, rfl⟩
    · cases h
  · cases h
theorem gl_inv (h : gl k ln n pc ls st = some z) : ∃ v, n = ln ∧ ls[k]? = some (.val (.long v)) ∧ z = (pc + ln, ls, .long v :: st) := by
  unfold gl at h; split at h
  · split at h
    · cases h; exact ⟨_, by assumption, by assumption, rfl⟩
    · cases h
  · cases h
theorem ga_inv (h : ga k ln n pc ls st = some z) : ∃ v : Value, v.isRef = true ∧ n = ln ∧ ls[k]? = some (.val v) ∧ z = (pc + ln, ls, v :: st) := by
  unfold ga at h; split at h
  · split at h
    · cases h; exact ⟨_, rfl, by assumption, by assumption, rfl⟩
    · cases h; exact ⟨_, rfl, by assumption, by assumption, rfl⟩
    · cases h
  · cases h
theorem sv_inv (h : sv k ln n pc ls v r = some z) : ∃ l', n = ln ∧ storeLocals ls.toArray k v = some l' ∧ z = (pc + ln, l'.toList, r) := by
  unfold sv at h; split at h
  · split at h
    · cases h; exact ⟨_, by assumption, by assumption, rfl⟩
    · cases h
  · cases h
theorem si_inv (h : si k ln n pc ls st = some z) : ∃ x r l', n = ln ∧ st = .int x :: r ∧ storeLocals ls.toArray k (.int x) = some l' ∧ z = (pc + ln, l'.toList, r) := by
  unfold si at h; split at h
  · obtain ⟨l', a, b, c⟩ := sv_inv h; exact ⟨_, _, l', a, rfl, b, c⟩
  · cases h
theorem sl_inv (h : sl k ln n pc ls st = some z) : ∃ x r l', n = ln ∧ st = .long x :: r ∧ storeLocals ls.toArray k (.long x) = some l' ∧ z = (pc + ln, l'.toList, r) := by
  unfold sl at h; split at h
  · obtain ⟨l', a, b, c⟩ := sv_inv h; exact ⟨_, _, l', a, rfl, b, c⟩
  · cases h
theorem sa_inv (h : sa k ln n pc ls st = some z) : ∃ x r l', Value.isRef x = true ∧ n = ln ∧ st = x :: r ∧ storeLocals ls.toArray k x = some l' ∧ z = (pc + ln, l'.toList, r) := by
  unfold sa at h; split at h
  · obtain ⟨l', a, b, c⟩ := sv_inv h; exact ⟨_, _, l', rfl, a, rfl, b, c⟩
  · obtain ⟨l', a, b, c⟩ := sv_inv h; exact ⟨_, _, l', rfl, a, rfl, b, c⟩
  · cases h
theorem cn_inv (h : cn v ln n pc ls st = some z) : n = ln ∧ z = (pc + ln, ls, v :: st) := by
  unfold cn at h; split at h
  · cases h; exact ⟨by assumption, rfl⟩
  · cases h
theorem dpp_inv (h : dpp n pc ls st = some z) : ∃ x r, Value.category x = 1 ∧ n = 1 ∧ st = x :: r ∧ z = (pc + 1, ls, x :: x :: r) := by
  unfold dpp at h; split at h
  all_goals first | (cases h; exact ⟨_, _, rfl, rfl, rfl, rfl⟩) | cases h
theorem dpx_inv (h : dpx n pc ls st = some z) : ∃ x y r, Value.category x = 1 ∧ Value.category y = 1 ∧ n = 1 ∧ st = x :: y :: r ∧ z = (pc + 1, ls, x :: y :: x :: r) := by
  unfold dpx at h; split at h
  all_goals first | (cases h; exact ⟨_, _, _, rfl, rfl, rfl, rfl, rfl⟩) | cases h
theorem dp2_inv (h : dp2 n pc ls st = some z) : (∃ x r, n = 1 ∧ st = .long x :: r ∧ z = (pc + 1, ls, .long x :: .long x :: r)) ∨ ∃ x y r, Value.category x = 1 ∧ Value.category y = 1 ∧ n = 1 ∧ st = x :: y :: r ∧ z = (pc + 1, ls, x :: y :: x :: y :: r) := by
  unfold dp2 at h; split at h
  all_goals first | (cases h; exact Or.inl ⟨_, _, rfl, rfl, rfl⟩) | (cases h; exact Or.inr ⟨_, _, _, rfl, rfl, rfl, rfl, rfl⟩) | cases h
theorem pp_inv (h : pp n pc ls st = some z) : ∃ x r, Value.category x = 1 ∧ n = 1 ∧ st = x :: r ∧ z = (pc + 1, ls, r) := by
  unfold pp at h; split at h
  all_goals first | (cases h; exact ⟨_, _, rfl, rfl, rfl, rfl⟩) | cases h
theorem gt_inv {o : Int} (h : gt o n pc ls st = some z) : n = 3 ∧ 0 ≤ (pc : Int) + o ∧ z = (((pc : Int) + o).toNat, ls, st) := by
  unfold gt at h; split at h
  · split at h
    · cases h; exact ⟨by assumption, by assumption, rfl⟩
    · cases h
  · cases h
theorem inc_inv {d : Int} (h : inc k d n pc ls st = some z) : ∃ x l', n = 3 ∧ ls[k]? = some (.val (.int x)) ∧ storeLocals ls.toArray k (.int (x + Int32.ofInt d)) = some l' ∧ z = (pc + 3, l'.toList, st) := by
  unfold inc at h; split at h
  · obtain ⟨l', a, b, c⟩ := sv_inv h; exact ⟨_, l', a, by assumption, b, c⟩
  · cases h
end Inv
theorem arrL {ls : List Slot} {k : Nat} {v : Slot} (h : ls[k]? = some v) : ls.toArray[k]? = some v := by simpa using h
theorem st1_ok {p : Program} {e : Env} {below : List Frame} {T target : State} {m : MethodId} {c : Code} (hA : At T m c below) (hx : p.tables.exec = Jvm.exec) {i : Instr} {n pc : Nat} {ls : List Slot} {st : List Value} {z : Cf} (hd : decode c.code pc = .ok (i, n)) (h : st1 i n pc ls st = some z)
    (hr : Steps p.tables e below (T.setTop (mkF m z.1 z.2.1.toArray z.2.2)) target) : Steps p.tables e below (T.setTop (mkF m pc ls.toArray st)) target := by
  cases i
  case iload_n k => obtain ⟨v, rfl, hl, rfl⟩ := gi_inv h; exact XS.iloadN hA hx rfl hd (arrL hl) hr
  case iload k => obtain ⟨v, rfl, hl, rfl⟩ := gi_inv h; exact XS.iload hA hx rfl hd (arrL hl) hr
  case lload_n k => obtain ⟨v, rfl, hl, rfl⟩ := gl_inv h; exact XT.lloadN hA hx rfl hd (arrL hl) hr
  case lload k => obtain ⟨v, rfl, hl, rfl⟩ := gl_inv h; exact XT.lload hA hx rfl hd (arrL hl) hr
  case aload_n k => obtain ⟨v, hv, rfl, hl, rfl⟩ := ga_inv h; exact XS.aloadN hA hx rfl hd (arrL hl) hv hr
  case aload k => obtain ⟨v, hv, rfl, hl, rfl⟩ := ga_inv h; exact XS.aload hA hx rfl hd (arrL hl) hv hr
  case istore_n k => obtain ⟨x, r, l', rfl, rfl, hl, rfl⟩ := si_inv h; exact XS.istoreN hA hx rfl hd rfl hl hr
  case istore k => obtain ⟨x, r, l', rfl, rfl, hl, rfl⟩ := si_inv h; exact XS.istore hA hx rfl hd rfl hl hr
  case lstore_n k => obtain ⟨x, r, l', rfl, rfl, hl, rfl⟩ := sl_inv h; exact XT.lstoreN hA hx rfl hd rfl hl hr
  case lstore k => obtain ⟨x, r, l', rfl, rfl, hl, rfl⟩ := sl_inv h; exact XT.lstore hA hx rfl hd rfl hl hr
  case astore_n k => obtain ⟨x, r, l', hv, rfl, rfl, hl, rfl⟩ := sa_inv h; exact XS.astoreN hA hx rfl hd rfl hv hl hr
  case astore k => obtain ⟨x, r, l', hv, rfl, rfl, hl, rfl⟩ := sa_inv h; exact XS.astore hA hx rfl hd rfl hv hl hr
  case iconst k => obtain ⟨rfl, rfl⟩ := cn_inv h; exact XS.iconst hA hx rfl hd hr
  case bipush k => obtain ⟨rfl, rfl⟩ := cn_inv h; exact XS.bipush hA hx rfl hd hr
  case sipush k => obtain ⟨rfl, rfl⟩ := cn_inv h; exact XS.sipush hA hx rfl hd hr
  case lconst k => obtain ⟨rfl, rfl⟩ := cn_inv h; exact XT.lconst hA hx rfl hd hr
  case aconst_null => obtain ⟨rfl, rfl⟩ := cn_inv h; exact XS.aconstNull hA hx rfl hd hr
  case iadd => obtain ⟨y, x, r, rfl, rfl, rfl⟩ := b2_inv h; exact XS.iadd hA hx rfl hd rfl hr
  case isub => obtain ⟨y, x, r, rfl, rfl, rfl⟩ := b2_inv h; exact XS.isub hA hx rfl hd rfl hr
  case imul => obtain ⟨y, x, r, rfl, rfl, rfl⟩ := b2_inv h; exact XS.imul hA hx rfl hd rfl hr
  case iand => obtain ⟨y, x, r, rfl, rfl, rfl⟩ := b2_inv h; exact XS.iand hA hx rfl hd rfl hr
  case ior => obtain ⟨y, x, r, rfl, rfl, rfl⟩ := b2_inv h; exact XT.ior hA hx rfl hd rfl hr
  case ixor => obtain ⟨y, x, r, rfl, rfl, rfl⟩ := b2_inv h; exact XT.ixor hA hx rfl hd rfl hr
  case ishl => obtain ⟨y, x, r, rfl, rfl, rfl⟩ := b2_inv h; exact XT.ishl hA hx rfl hd rfl hr
  case ishr => obtain ⟨y, x, r, rfl, rfl, rfl⟩ := b2_inv h; exact XT.ishr hA hx rfl hd rfl hr
  case iushr => obtain ⟨y, x, r, rfl, rfl, rfl⟩ := b2_inv h; exact XS.iushr hA hx rfl hd rfl hr
  case ladd => obtain ⟨y, x, r, rfl, rfl, rfl⟩ := b2l_inv h; exact XT.ladd hA hx rfl hd rfl hr
  case lsub => obtain ⟨y, x, r, rfl, rfl, rfl⟩ := b2l_inv h; exact XT.lsub hA hx rfl hd rfl hr
  case lmul => obtain ⟨y, x, r, rfl, rfl, rfl⟩ := b2l_inv h; exact XT.lmul hA hx rfl hd rfl hr
  case land => obtain ⟨y, x, r, rfl, rfl, rfl⟩ := b2l_inv h; exact XT.land hA hx rfl hd rfl hr
  case lor => obtain ⟨y, x, r, rfl, rfl, rfl⟩ := b2l_inv h; exact XT.lor hA hx rfl hd rfl hr
  case lxor => obtain ⟨y, x, r, rfl, rfl, rfl⟩ := b2l_inv h; exact XT.lxor hA hx rfl hd rfl hr
  case lshl => obtain ⟨y, x, r, rfl, rfl, rfl⟩ := bsl_inv h; exact XS.lshl hA hx rfl hd rfl hr
  case lshr => obtain ⟨y, x, r, rfl, rfl, rfl⟩ := bsl_inv h; exact XS.lshr hA hx rfl hd rfl hr
  case lushr => obtain ⟨y, x, r, rfl, rfl, rfl⟩ := bsl_inv h; exact XS.lushr hA hx rfl hd rfl hr
  case lcmp => obtain ⟨y, x, r, rfl, rfl, rfl⟩ := ucm_inv h; exact XT.lcmp hA hx rfl hd rfl hr
  case ineg => obtain ⟨x, r, rfl, rfl, rfl⟩ := u1_inv h; exact XS.ineg hA hx rfl hd rfl hr
  case i2b => obtain ⟨x, r, rfl, rfl, rfl⟩ := u1_inv h; exact XT.i2b hA hx rfl hd rfl hr
  case i2c => obtain ⟨x, r, rfl, rfl, rfl⟩ := u1_inv h; exact XT.i2c hA hx rfl hd rfl hr
  case i2s => obtain ⟨x, r, rfl, rfl, rfl⟩ := u1_inv h; exact XT.i2s hA hx rfl hd rfl hr
  case i2l => obtain ⟨x, r, rfl, rfl, rfl⟩ := u1_inv h; exact XT.i2l hA hx rfl hd rfl hr
  case l2i => obtain ⟨x, r, rfl, rfl, rfl⟩ := u1l_inv h; exact XT.l2i hA hx rfl hd rfl hr
  case lneg => obtain ⟨x, r, rfl, rfl, rfl⟩ := u1l_inv h; exact XT.lneg hA hx rfl hd rfl hr
  case dup => obtain ⟨x, r, hc, rfl, rfl, rfl⟩ := dpp_inv h; exact XS.dup hA hx rfl hd rfl hc hr
  case dup_x1 => obtain ⟨x, y, r, hc, hc', rfl, rfl, rfl⟩ := dpx_inv h; exact XT.dupX1 hA hx rfl hd rfl hc hc' hr
  case dup2 =>
    rcases dp2_inv h with ⟨x, r, rfl, rfl, rfl⟩ | ⟨x, y, r, hc, hc', rfl, rfl, rfl⟩
    · exact XT.dup2L hA hx rfl hd rfl hr
    · exact XT.dup2 hA hx rfl hd rfl hc hc' hr
  case pop => obtain ⟨x, r, hc, rfl, rfl, rfl⟩ := pp_inv h; exact XT.pop hA hx rfl hd rfl hc hr
  case goto o => obtain ⟨rfl, ho, rfl⟩ := gt_inv h; exact XS.goto hA hx rfl rfl hd ho rfl hr
  case iinc k d => obtain ⟨x, l', rfl, hl, hl', rfl⟩ := inc_inv h; exact XS.iinc hA hx rfl hd (arrL hl) hl' hr
  all_goals exact absurd (show (none : Option Cf) = some z from h) (by simp)
def runB : Nat → Prog → Nat → List Slot → List Value → Option Cf
  | 0, _, pc, ls, st => some (pc, ls, st)
  | _ + 1, [], _, _, _ => none
  | k + 1, (q, i, n) :: B, pc, ls, st => if q = pc then (match st1 i n pc ls st with
    | some z => runB k B z.1 z.2.1 z.2.2
    | none => none) else none
theorem runB_ok {p : Program} {e : Env} {below : List Frame} {T target : State} {m : MethodId} {c : Code} (hA : At T m c below) (hx : p.tables.exec = Jvm.exec) {z : Cf} (hr : Steps p.tables e below (T.setTop (mkF m z.1 z.2.1.toArray z.2.2)) target) :
    ∀ (k : Nat) (B : Prog), okB c.code B = true → ∀ (pc : Nat) (ls : List Slot) (st : List Value), runB k B pc ls st = some z → Steps p.tables e below (T.setTop (mkF m pc ls.toArray st)) target
  | 0, B, _, pc, ls, st, h => by
    cases B <;> (unfold runB at h; cases h; exact hr)
  | k + 1, [], _, pc, ls, st, h => by unfold runB at h; cases h
  | k + 1, (q, i, n) :: B, hB, pc, ls, st, h => by
    unfold runB at h
    split at h
    · rename_i e; subst e
      split at h
      · rename_i w hw
        simp only [okB, Bool.and_eq_true, decide_eq_true_eq] at hB
        exact st1_ok hA hx hB.1 hw (runB_ok hA hx hr k B hB.2 _ _ _ h)
      · cases h
    · cases h
theorem okB_drop {code : ByteArray} : ∀ (j : Nat) {B : Prog}, okB code B = true → okB code (B.drop j) = true
  | 0, _, h => h
  | _ + 1, [], _ => rfl
  | j + 1, _ :: B, h => by
    simp only [okB, Bool.and_eq_true] at h
    exact okB_drop j h.2
end Jvm.Wk
namespace Jvm.Wk
open Sem ClassFile Op Lib Jvm.Stand Jvm.Free Jvm.LawKit Jvm.RoadKit
/-! THE WALK'S GOAL, over the symbolic heap: from this configuration the invocation returns, and what it returns and leaves is as G says. -/
abbrev Cxt : Type := Launch × Program × Env × Room × State × MethodId × Array Value × List Frame × Method × Code × State × List (String × Nat) × Bool × (Option Value → List Item → Prop) × List Item
def Fin (R : Room) (s : State) (Z : State) (EL : List (String × Nat)) (nw : Bool) (G : Option Value → List Item → Prop) (F : List Item) (o : Outcome) (t : State) : Prop :=
  ∃ (v : Option Value) (Lc : List Loc) (L' : List Item), o = .returned v ∧ G v L' ∧ Hp Z EL t.vm t.heap (L' ++ F) ∧ Fr Z.heap.size Lc ∧ (nw = true → s.WarmedH t.vm) ∧ s.heap.size ≤ t.heap.size ∧ ReturnedEndW s o t Lc R.cells R.slots
def Wp : Cxt → Nat → Nat → List Item → Nat → List Slot → List Value → Prop
  | (l, p, e, R, s, m, args, below, meth, c, Z, EL, nw, G, F), cells, slots, L, pc, ls, st =>
    ∀ (vm0 : Vm) (k0 : Nat) (T : State) (locs : List Loc), Stand p l e R (s.setVm vm0) m args below meth c T locs cells slots → s.Since vm0 k0 → k0 ≤ T.heap.size → (nw = true → s.WarmedH vm0) → Z.Warmed39 vm0 → Fr Z.heap.size locs → s.heap.size ≤ T.heap.size → Hp Z EL vm0 T.heap (L ++ F) →
      ∃ t o, Steps p.tables e below (T.setTop (mkF m pc ls.toArray st)) t ∧ t.status = .running ∧ Ended t below o ∧ Fin R s Z EL nw G F o t
def Cx (K : Cxt) (l : Launch) (Z : State) (a0 : Array Value) (EL : List (String × Nat)) (nw : Bool) (y : MethodName) (bytes : ByteArray) (maxL : Nat) (ret : Option FieldType) (rm : Room) (G : Option Value → List Item → Prop) (B : Prog) : Prop :=
  ∃ (p : Program) (e : Env) (s : State) (m : MethodId) (args : Array Value) (below : List Frame) (meth : Method) (c : Code) (F : List Item), K = (l, p, e, rm, s, m, args, below, meth, c, Z, EL, nw, G, F) ∧ p.tables.exec = Jvm.exec ∧ c.code = bytes ∧ c.maxLocals = maxL ∧ meth.sig.returnType = ret ∧ meth.locks = false ∧ s.vm.findClass y.cls = some m.cls ∧ meth.name = y.name ∧ EW Z a0 EL ∧ okB bytes B = true
/-- A BODY's CONTRACT: asked at the arguments 'as' in a heap that holds L and whatever else (F); it gives back v and the items L' (F as it was) -/
def Ct (l : Launch) (Z : State) (EL : List (String × Nat)) (nw : Bool) (y : MethodName) (bytes : ByteArray) (maxL : Nat) (ret : Option FieldType) (ws : List Cond) (rm : Room) (as : List Value) (L : List Item) (G : Option Value → List Item → Prop) : Prop :=
  ∀ F : List Item, MetFree l y (head1 (Cond.code y bytes maxL ret :: ws) rm) (fun a U => a = as.toArray ∧ Z.Warmed39 U.vm ∧ Hp Z EL U.vm U.heap (L ++ F)) (fun _ _ _ _ _ => True) (fun _ U o U' => Fin rm U Z EL nw G F o U')
section Rules
variable {K : Cxt} {l : Launch} {Z : State} {a0 : Array Value} {EL : List (String × Nat)} {nw : Bool} {y : MethodName} {bytes : ByteArray} {maxL : Nat} {ret : Option FieldType} {rm : Room} {G : Option Value → List Item → Prop} {B : Prog} {cells slots pc j : Nat} {L : List Item} {ls : List Slot} {st : List Value}
theorem Hp.at {p : Program} {e : Env} {R : Room} {s : State} {m : MethodId} {args : Array Value} {below : List Frame} {meth : Method} {c : Code} {T : State} {locs : List Loc} {vm0 : Vm} {h : Heap} (X : Stand p l e R (s.setVm vm0) m args below meth c T locs cells slots) (hZ : Z.Warmed39 vm0) (w : EW Z a0 EL) (H : Hp Z EL vm0 h L) : Hp Z EL T.vm h L :=
  H.later ⟨Nat.le_refl _, fun _ _ q => q⟩ (CHv.at X hZ w H.2.1)
theorem ct_of {as : List Value} {ws : List Cond} (hpl : plainFor y = true) (hB : okB bytes B = true) (hEL : EW Z a0 EL) (he : ∀ m : MethodId, entryFrame m as.toArray maxL = mkF m 0 ls.toArray [])
    (body : ∀ K, Cx K l Z a0 EL nw y bytes maxL ret rm G B → Wp K 0 0 L 0 ls []) : Ct l Z EL nw y bytes maxL ret ws rm as L G := by
  intro F
  refine MetFree.of_bodySF hpl hisR ?_
  intro p e s m args below meth c s₁ Bd hml0 hP hK
  obtain ⟨rfl, hZ, hH⟩ := hP
  have X0 : Stand p l e rm (s.setVm s.vm) m as.toArray below meth c s₁ [] 0 0 := Stand.of_body Bd
  have hh : s₁.heap = s.heap := by rw [Bd.state]; rfl
  have hb := body (l, p, e, rm, s, m, as.toArray, below, meth, c, Z, EL, nw, G, F) ⟨p, e, s, m, as.toArray, below, meth, c, F, rfl, Bd.exec, Bd.bytes, hml0, Bd.returns, Bd.notSynchronized, findClass_of_methodNamed Bd.named, (name_of_methodNamed Bd.named Bd.method).1, hEL, hB⟩
  obtain ⟨t, o, h1, h2, h3, h4⟩ := hb s.vm 0 s₁ [] X0 ((State.WarmedH.refl s).since 0) (Nat.zero_le _) (fun _ => State.WarmedH.refl s) hZ (Fr.nil _) (Nat.le_of_eq (by rw [hh])) (by rw [hh]; exact hH)
  exact ⟨t, o, castTop (he m) h1, h2, h3, h4⟩
theorem ct_ws {as : List Value} (h : ∀ ws, Ct l Z EL nw y bytes maxL ret ws rm as L G) : Ct l Z EL nw y bytes maxL ret [] rm as L G := h []
theorem wp_blk (C : Cx K l Z a0 EL nw y bytes maxL ret rm G B) (j n : Nat) {pc' : Nat} {ls' : List Slot} {st' : List Value} (hr : runB n (B.drop j) pc ls st = some (pc', ls', st')) (k : Wp K cells slots L pc' ls' st') : Wp K cells slots L pc ls st := by
  obtain ⟨p, e, s, m, args, below, meth, c, F, rfl, hx, hb, -, -, -, -, -, -, hB⟩ := C
  intro vm0 k0 T locs X hS hk hn hZ hF hg hH
  obtain ⟨t, o, h1, h2⟩ := k vm0 k0 T locs X hS hk hn hZ hF hg hH
  exact ⟨t, o, runB_ok X.here hx h1 n (B.drop j) (by rw [hb]; exact okB_drop j hB) pc ls st hr, h2⟩
/-- a step that leaves the heap and moves the tables at most -/
theorem wp_step (C : Cx K l Z a0 EL nw y bytes maxL ret rm G B) {pc' : Nat} {ls' : List Slot} {st' : List Value}
    (hs : ∀ (p : Program) (e : Env) (s : State) (m : MethodId) (args : Array Value) (below : List Frame) (meth : Method) (c : Code) (vm0 : Vm) (T : State) (locs : List Loc) (F : List Item), p.tables.exec = Jvm.exec → c.code = bytes → c.maxLocals = maxL → (s.setVm vm0).vm.findClass y.cls = some m.cls → Z.Warmed39 vm0 → Hp Z EL vm0 T.heap (L ++ F) →
      Stand p l e rm (s.setVm vm0) m args below meth c T locs cells slots → ∃ T', Stand p l e rm (s.setVm vm0) m args below meth c T' locs cells slots ∧ T'.heap = T.heap ∧ ∀ target, Steps p.tables e below (T'.setTop (mkF m pc' ls'.toArray st')) target → Steps p.tables e below (T.setTop (mkF m pc ls.toArray st)) target)
    (k : Wp K cells slots L pc' ls' st') : Wp K cells slots L pc ls st := by
  obtain ⟨p, e, s, m, args, below, meth, c, F, rfl, hx, hb, hml, hret, hlk, hown, hnm, hEL, hB⟩ := C
  intro vm0 k0 T locs X hS hk hn hZ hF hg hH
  obtain ⟨T', X', eh, stp⟩ := hs p e s m args below meth c vm0 T locs F hx hb hml (by rw [show (s.setVm vm0).vm = vm0 from rfl, hS.1.alike.findClass]; exact hown) hZ hH X
  obtain ⟨t, o, h1, h2⟩ := k vm0 k0 T' locs X' hS (by rw [eh]; exact hk) hn hZ hF (by rw [eh]; exact hg) (by rw [eh]; exact hH)
  exact ⟨t, o, stp t h1, h2⟩
/-- a step that makes one cell -/
theorem wp_make (C : Cx K l Z a0 EL nw y bytes maxL ret rm G B) {pc' cells' slots' : Nat} {ls' : List Slot} {st' : Addr → List Value} {D : Kd ⊕ FieldType} {vs : List Value}
    (hs : ∀ (p : Program) (e : Env) (s : State) (m : MethodId) (args : Array Value) (below : List Frame) (meth : Method) (c : Code) (vm0 : Vm) (T : State) (locs : List Loc), p.tables.exec = Jvm.exec → c.code = bytes → (s.setVm vm0).vm.findClass y.cls = some m.cls → Z.Warmed39 vm0 →
      Stand p l e rm (s.setVm vm0) m args below meth c T locs cells slots → ∃ T', Stand p l e rm (s.setVm vm0) m args below meth c T' locs cells' slots' ∧ Ext T.heap T'.heap ∧ It Z T'.heap (T.heap.size, true, D, vs) ∧ ∀ target, Steps p.tables e below (T'.setTop (mkF m pc' ls'.toArray (st' T.heap.size))) target → Steps p.tables e below (T.setTop (mkF m pc ls.toArray st)) target)
    (k : ∀ a : Addr, Wp K cells' slots' ((a, true, D, vs) :: L) pc' ls' (st' a)) : Wp K cells slots L pc ls st := by
  obtain ⟨p, e, s, m, args, below, meth, c, F, rfl, hx, hb, hml, hret, hlk, hown, hnm, hEL, hB⟩ := C
  intro vm0 k0 T locs X hS hk hn hZ hF hg hH
  obtain ⟨T', X', E, I, stp⟩ := hs p e s m args below meth c vm0 T locs hx hb (by rw [show (s.setVm vm0).vm = vm0 from rfl, hS.1.alike.findClass]; exact hown) hZ X
  obtain ⟨t, o, h1, h2⟩ := k T.heap.size vm0 k0 T' locs X' hS (Nat.le_trans hk E.1) hn hZ hF (Nat.le_trans hg E.1) (hH.push E I)
  exact ⟨t, o, stp t h1, h2⟩
/-- a step that writes one place of one known, new cell -/
theorem wp_write (C : Cx K l Z a0 EL nw y bytes maxL ret rm G B) {pc' i : Nat} {ls' : List Slot} {st' : List Value} {a : Addr} {D : Kd ⊕ FieldType} {vs vs' : List Value} (hi : L[i]? = some (a, true, D, vs))
    (hs : ∀ (p : Program) (e : Env) (s : State) (m : MethodId) (args : Array Value) (below : List Frame) (meth : Method) (c : Code) (vm0 : Vm) (T : State) (locs : List Loc), p.tables.exec = Jvm.exec → c.code = bytes → (s.setVm vm0).vm.findClass y.cls = some m.cls → meth.name = y.name → Z.Warmed39 vm0 → It Z T.heap (a, true, D, vs) →
      Stand p l e rm (s.setVm vm0) m args below meth c T locs cells slots → ∃ T' sl v, Stand p l e rm (s.setVm vm0) m args below meth c T' (locs ++ [⟨a, sl⟩]) cells slots ∧ Wr T.heap T'.heap a sl v ∧ It Z T'.heap (a, true, D, vs') ∧ ∀ target, Steps p.tables e below (T'.setTop (mkF m pc' ls'.toArray st')) target → Steps p.tables e below (T.setTop (mkF m pc ls.toArray st)) target)
    (k : Wp K cells slots (L.set i (a, true, D, vs')) pc' ls' st') : Wp K cells slots L pc ls st := by
  obtain ⟨p, e, s, m, args, below, meth, c, F, rfl, hx, hb, hml, hret, hlk, hown, hnm, hEL, hB⟩ := C
  intro vm0 k0 T locs X hS hk hn hZ hF hg hH
  obtain ⟨T', sl, v, X', W, I, stp⟩ := hs p e s m args below meth c vm0 T locs hx hb (by rw [show (s.setVm vm0).vm = vm0 from rfl, hS.1.alike.findClass]; exact hown) hnm hZ (hH.2.2.1 _ (List.mem_of_getElem? (app_at hi))) X
  have hH' := hH.put (app_at hi) W I
  rw [app_set hi] at hH'
  obtain ⟨t, o, h1, h2⟩ := k vm0 k0 T' _ X' hS (by rw [W.size]; exact hk) hn hZ (Fr.snoc X' hF (hH.new (app_at hi)).1) (by rw [W.size]; exact hg) hH'
  exact ⟨t, o, stp t h1, h2⟩
/-- the world in another order; fewer of it; more of it (old objects) -/
theorem wp_perm {L' : List Item} (C : Cx K l Z a0 EL nw y bytes maxL ret rm G B) (q : L.Perm L') (k : Wp K cells slots L' pc ls st) : Wp K cells slots L pc ls st := by
  obtain ⟨p, e, s, m, args, below, meth, c, F, rfl, -⟩ := C
  intro vm0 k0 T locs X hS hk hn hZ hF hg hH
  exact k vm0 k0 T locs X hS hk hn hZ hF hg (hH.perm (q.append_right F))
theorem wp_sub {L' : List Item} (C : Cx K l Z a0 EL nw y bytes maxL ret rm G B) (q : L'.Sublist L) (k : Wp K cells slots L' pc ls st) : Wp K cells slots L pc ls st := by
  obtain ⟨p, e, s, m, args, below, meth, c, F, rfl, -⟩ := C
  intro vm0 k0 T locs X hS hk hn hZ hF hg hH
  exact k vm0 k0 T locs X hS hk hn hZ hF hg (hH.sub (q.append_right F))
theorem wp_old {a : Addr} {D : Kd ⊕ FieldType} {vs : List Value} (C : Cx K l Z a0 EL nw y bytes maxL ret rm G B) (I : It Z Z.heap (a, false, D, vs)) (k : Wp K cells slots ((a, false, D, vs) :: L) pc ls st) : Wp K cells slots L pc ls st := by
  obtain ⟨p, e, s, m, args, below, meth, c, F, rfl, -⟩ := C
  intro vm0 k0 T locs X hS hk hn hZ hF hg hH
  refine k vm0 k0 T locs X hS hk hn hZ hF hg (hH.add (fun q hq hw => Nat.ne_of_lt (Nat.lt_of_lt_of_le I.lt (hH.2.2.2.2 q hq hw).1)) (I.ext hH.1))
def front (i : Nat) (L : List Item) : List Item := match L[i]? with
  | some x => x :: L.eraseIdx i
  | none => L
theorem er_perm : ∀ (i : Nat) (L : List Item) (x : Item), L[i]? = some x → L.Perm (x :: L.eraseIdx i)
  | _, [], _, h => by simp at h
  | 0, z :: L, x, h => by
    simp only [List.getElem?_cons_zero, Option.some.injEq] at h
    subst h; exact List.Perm.refl _
  | i + 1, z :: L, x, h => by
    rw [List.getElem?_cons_succ] at h
    exact (List.Perm.cons z (er_perm i L x h)).trans (List.Perm.swap x z _)
theorem front_perm (i : Nat) (L : List Item) : L.Perm (front i L) := by
  unfold front
  split
  · rename_i x hx
    exact er_perm i L x hx
  · exact List.Perm.refl _
theorem wp_front (C : Cx K l Z a0 EL nw y bytes maxL ret rm G B) (i : Nat) {L' : List Item} (e : front i L = L') (k : Wp K cells slots L' pc ls st) : Wp K cells slots L pc ls st := wp_perm C (e ▸ front_perm i L) k
theorem wp_drop (C : Cx K l Z a0 EL nw y bytes maxL ret rm G B) (i : Nat) {L' : List Item} (e : L.eraseIdx i = L') (k : Wp K cells slots L' pc ls st) : Wp K cells slots L pc ls st := wp_sub C (e ▸ List.eraseIdx_sublist L i) k
theorem stand_mono {p : Program} {e : Env} {R : Room} {s : State} {m : MethodId} {args : Array Value} {below : List Frame} {meth : Method} {c : Code} {T : State} {locs : List Loc} {cells slots cells' slots' : Nat} (X : Stand p l e R s m args below meth c T locs cells slots) (h1 : cells ≤ cells') (h2 : slots ≤ slots') : Stand p l e R s m args below meth c T locs cells' slots' :=
  ⟨X.admits, X.cas, X.clock, X.frames, X.room, X.hears, X.method, X.code, X.here, X.tail, X.warmed, X.limits, X.bytes, X.same.mono h1 h2⟩
/-- more booked than used -/
theorem wp_mono {cells' slots' : Nat} (C : Cx K l Z a0 EL nw y bytes maxL ret rm G B) (h1 : cells ≤ cells') (h2 : slots ≤ slots') (k : Wp K cells' slots' L pc ls st) : Wp K cells slots L pc ls st := by
  obtain ⟨p, e, s, m, args, below, meth, c, F, rfl, -⟩ := C
  intro vm0 k0 T locs X hS hk hn hZ hF hg hH
  exact k vm0 k0 T locs (stand_mono X h1 h2) hS hk hn hZ hF hg hH
/-! branches -/
theorem Cx.dec (C : Cx K l Z a0 EL nw y bytes maxL ret rm G B) {i : Instr} {n : Nat} (hi : B[j]? = some (pc, i, n)) {c : Code} (hb : c.code = bytes) : decode c.code pc = .ok (i, n) := by
  obtain ⟨p', e', s', m', args', below', meth', c', F', -, -, -, -, -, -, -, -, -, hB⟩ := C
  rw [hb]; exact okB_at hB hi
theorem wp_if (C : Cx K l Z a0 EL nw y bytes maxL ret rm G B) {cd : ClassFile.Cond} {o : Int} {pc' : Nat} {x : Int32} (j : Nat) (hi : B[j]? = some (pc, .ifCond cd o, 3)) (hp : ((pc : Int) + o).toNat = pc') (ho : 0 ≤ (pc : Int) + o)
    (k1 : ifCond.holds cd x = true → Wp K cells slots L pc' ls st) (k2 : ifCond.holds cd x = false → Wp K cells slots L (pc + 3) ls st) : Wp K cells slots L pc ls (.int x :: st) := by
  cases hc : ifCond.holds cd x with
  | true => exact wp_step C (fun p e s m args below meth c vm0 T locs F hx hb hml hown hZ hH X => ⟨T, X, rfl, fun t h => XS.ifYes X.here hx rfl rfl (C.dec hi hb) rfl hc ho hp h⟩) (k1 hc)
  | false => exact wp_step C (fun p e s m args below meth c vm0 T locs F hx hb hml hown hZ hH X => ⟨T, X, rfl, fun t h => XS.ifNo X.here hx rfl (C.dec hi hb) rfl hc h⟩) (k2 hc)
theorem wp_ic (C : Cx K l Z a0 EL nw y bytes maxL ret rm G B) {cd : ClassFile.Cond} {o : Int} {pc' : Nat} {x z : Int32} (j : Nat) (hi : B[j]? = some (pc, .if_icmp cd o, 3)) (hp : ((pc : Int) + o).toNat = pc') (ho : 0 ≤ (pc : Int) + o)
    (k1 : if_icmp.holds cd x z = true → Wp K cells slots L pc' ls st) (k2 : if_icmp.holds cd x z = false → Wp K cells slots L (pc + 3) ls st) : Wp K cells slots L pc ls (.int z :: .int x :: st) := by
  cases hc : if_icmp.holds cd x z with
  | true => exact wp_step C (fun p e s m args below meth c vm0 T locs F hx hb hml hown hZ hH X => ⟨T, X, rfl, fun t h => XS.icmpYes X.here hx rfl rfl (C.dec hi hb) rfl hc ho hp h⟩) (k1 hc)
  | false => exact wp_step C (fun p e s m args below meth c vm0 T locs F hx hb hml hown hZ hH X => ⟨T, X, rfl, fun t h => XS.icmpNo X.here hx rfl (C.dec hi hb) rfl hc h⟩) (k2 hc)
def cT (cd : ClassFile.Cond) (x z : Int32) : Prop := match cd with
  | .eq => x = z | .ne => x ≠ z | .lt => x.toInt < z.toInt | .ge => z.toInt ≤ x.toInt | .gt => z.toInt < x.toInt | .le => x.toInt ≤ z.toInt
def cF (cd : ClassFile.Cond) (x z : Int32) : Prop := match cd with
  | .eq => x ≠ z | .ne => x = z | .lt => z.toInt ≤ x.toInt | .ge => x.toInt < z.toInt | .gt => x.toInt ≤ z.toInt | .le => z.toInt < x.toInt
theorem ic_t {cd : ClassFile.Cond} {x z : Int32} (h : if_icmp.holds cd x z = true) : cT cd x z := by
  cases cd <;> simp_all [if_icmp.holds, cT, Int32.lt_iff_toInt_lt, Int32.le_iff_toInt_le]
theorem ic_f {cd : ClassFile.Cond} {x z : Int32} (h : if_icmp.holds cd x z = false) : cF cd x z := by
  cases cd <;> simp_all [if_icmp.holds, cF, Int32.lt_iff_toInt_lt, Int32.le_iff_toInt_le]
theorem wp_icmp (C : Cx K l Z a0 EL nw y bytes maxL ret rm G B) {cd : ClassFile.Cond} {o : Int} {x z : Int32} (j pc' pc2 : Nat) (hi : B[j]? = some (pc, .if_icmp cd o, 3)) (hp : ((pc : Int) + o).toNat = pc') (h2 : pc + 3 = pc2) (ho : 0 ≤ (pc : Int) + o)
    (k1 : cT cd x z → Wp K cells slots L pc' ls st) (k2 : cF cd x z → Wp K cells slots L pc2 ls st) : Wp K cells slots L pc ls (.int z :: .int x :: st) := by
  subst h2; exact wp_ic C j hi hp ho (fun h => k1 (ic_t h)) (fun h => k2 (ic_f h))
theorem wp_ifz (C : Cx K l Z a0 EL nw y bytes maxL ret rm G B) {cd : ClassFile.Cond} {o : Int} {x : Int32} (j pc' pc2 : Nat) (hi : B[j]? = some (pc, .ifCond cd o, 3)) (hp : ((pc : Int) + o).toNat = pc') (h2 : pc + 3 = pc2) (ho : 0 ≤ (pc : Int) + o)
    (k1 : cT cd x 0 → Wp K cells slots L pc' ls st) (k2 : cF cd x 0 → Wp K cells slots L pc2 ls st) : Wp K cells slots L pc ls (.int x :: st) := by
  subst h2; exact wp_if C j hi hp ho (fun h => k1 (ic_t (by rw [← if0]; exact h))) (fun h => k2 (ic_f (by rw [← if0]; exact h)))
theorem wp_nullY (C : Cx K l Z a0 EL nw y bytes maxL ret rm G B) {o : Int} (j pc' : Nat) (hi : B[j]? = some (pc, .ifnull o, 3)) (hp : ((pc : Int) + o).toNat = pc') (ho : 0 ≤ (pc : Int) + o) (k : Wp K cells slots L pc' ls st) : Wp K cells slots L pc ls (.null :: st) :=
  wp_step C (fun p e s m args below meth c vm0 T locs F hx hb hml hown hZ hH X => ⟨T, X, rfl, fun t h => XS.ifnullYes X.here hx rfl rfl (C.dec hi hb) rfl ho hp h⟩) k
theorem wp_nullN (C : Cx K l Z a0 EL nw y bytes maxL ret rm G B) {o : Int} {b : Addr} (j pc' : Nat) (hi : B[j]? = some (pc, .ifnull o, 3)) (hp : pc + 3 = pc') (k : Wp K cells slots L pc' ls st) : Wp K cells slots L pc ls (.ref b :: st) := by
  subst hp
  exact wp_step C (fun p e s m args below meth c vm0 T locs F hx hb hml hown hZ hH X => ⟨T, X, rfl, fun t h => XS.ifnullNo X.here hx rfl (C.dec hi hb) rfl h⟩) k
theorem wp_nonnullY (C : Cx K l Z a0 EL nw y bytes maxL ret rm G B) {o : Int} {b : Addr} (j pc' : Nat) (hi : B[j]? = some (pc, .ifnonnull o, 3)) (hp : ((pc : Int) + o).toNat = pc') (ho : 0 ≤ (pc : Int) + o) (k : Wp K cells slots L pc' ls st) : Wp K cells slots L pc ls (.ref b :: st) :=
  wp_step C (fun p e s m args below meth c vm0 T locs F hx hb hml hown hZ hH X => ⟨T, X, rfl, fun t h => XT.ifnonnullYes X.here hx rfl rfl (C.dec hi hb) rfl ho hp h⟩) k
theorem wp_nonnullN (C : Cx K l Z a0 EL nw y bytes maxL ret rm G B) {o : Int} (j pc' : Nat) (hi : B[j]? = some (pc, .ifnonnull o, 3)) (hp : pc + 3 = pc') (k : Wp K cells slots L pc' ls st) : Wp K cells slots L pc ls (.null :: st) := by
  subst hp
  exact wp_step C (fun p e s m args below meth c vm0 T locs F hx hb hml hown hZ hH X => ⟨T, X, rfl, fun t h => XT.ifnonnullNo X.here hx rfl (C.dec hi hb) rfl h⟩) k
theorem wp_acY (C : Cx K l Z a0 EL nw y bytes maxL ret rm G B) {cd : ACond} {o : Int} {u w : Value} (j pc' : Nat) (hi : B[j]? = some (pc, .if_acmp cd o, 3)) (hu : u.isRef = true) (hw : w.isRef = true) (hc : XT.acmp cd u w = true) (hp : ((pc : Int) + o).toNat = pc') (ho : 0 ≤ (pc : Int) + o) (k : Wp K cells slots L pc' ls st) : Wp K cells slots L pc ls (w :: u :: st) :=
  wp_step C (fun p e s m args below meth c vm0 T locs F hx hb hml hown hZ hH X => ⟨T, X, rfl, fun t h => XT.acmpYes X.here hx rfl rfl (C.dec hi hb) rfl hu hw hc ho hp h⟩) k
theorem wp_acN (C : Cx K l Z a0 EL nw y bytes maxL ret rm G B) {cd : ACond} {o : Int} {u w : Value} (j pc' : Nat) (hi : B[j]? = some (pc, .if_acmp cd o, 3)) (hu : u.isRef = true) (hw : w.isRef = true) (hc : XT.acmp cd u w = false) (hp : pc + 3 = pc') (k : Wp K cells slots L pc' ls st) : Wp K cells slots L pc ls (w :: u :: st) := by
  subst hp
  exact wp_step C (fun p e s m args below meth c vm0 T locs F hx hb hml hown hZ hH X => ⟨T, X, rfl, fun t h => XT.acmpNo X.here hx rfl (C.dec hi hb) rfl hu hw hc h⟩) k
/-! division -/
theorem wp_irem (C : Cx K l Z a0 EL nw y bytes maxL ret rm G B) {x z : Int32} (j pc' : Nat) (hi : B[j]? = some (pc, .irem, 1)) (hp : pc + 1 = pc') (hz : z ≠ 0) (k : Wp K cells slots L pc' ls (.int (x % z) :: st)) : Wp K cells slots L pc ls (.int z :: .int x :: st) := by
  subst hp
  exact wp_step C (fun p e s m args below meth c vm0 T locs F hx hb hml hown hZ hH X => ⟨T, X, rfl, fun t h => iremM X hx rfl (C.dec hi hb) rfl hz h⟩) k
theorem wp_idiv (C : Cx K l Z a0 EL nw y bytes maxL ret rm G B) {x z : Int32} (j pc' : Nat) (hi : B[j]? = some (pc, .idiv, 1)) (hp : pc + 1 = pc') (hz : z ≠ 0) (k : Wp K cells slots L pc' ls (.int (x / z) :: st)) : Wp K cells slots L pc ls (.int z :: .int x :: st) := by
  subst hp
  exact wp_step C (fun p e s m args below meth c vm0 T locs F hx hb hml hown hZ hH X => ⟨T, X, rfl, fun t h => XS.idiv X.here hx rfl (C.dec hi hb) rfl hz h⟩) k
/-! constants -/
theorem wp_ldcI (C : Cx K l Z a0 EL nw y bytes maxL ret rm G B) {z : Int32} {ix : Nat} (j pc' : Nat) (hi : B[j]? = some (pc, .ldc ix, 2)) (hp : pc + 2 = pc') (w : (Cond.constant y.cls ix z).before a0 Z = true) (k : Wp K cells slots L pc' ls (.int z :: st)) : Wp K cells slots L pc ls st := by
  subst hp
  exact wp_step C (fun p e s m args below meth c vm0 T locs F hx hb hml hown hZ hH X => ⟨T, X, rfl, by
      have w' : (Cond.constant y.cls ix z).before args (s.setVm vm0) = true := mvT (args := args) (s := s.setVm vm0) hZ w
      exact X.ldcInt hx hown w' (g := mkF m pc ls.toArray st) rfl (C.dec hi hb)⟩) k
theorem wp_ldcJ (C : Cx K l Z a0 EL nw y bytes maxL ret rm G B) {z : Int64} {ix : Nat} (j pc' : Nat) (hi : B[j]? = some (pc, .ldc2_w ix, 3)) (hp : pc + 3 = pc') (w : (Cond.constantLong y.cls ix z).before a0 Z = true) (k : Wp K cells slots L pc' ls (.long z :: st)) : Wp K cells slots L pc ls st := by
  subst hp
  exact wp_step C (fun p e s m args below meth c vm0 T locs F hx hb hml hown hZ hH X => ⟨T, X, rfl, by
      have w' : (Cond.constantLong y.cls ix z).before args (s.setVm vm0) = true := mvT (args := args) (s := s.setVm vm0) hZ w
      exact X.ldc2Long hx hown w' (g := mkF m pc ls.toArray st) rfl (C.dec hi hb)⟩) k
/-! fields -/
theorem wp_get (C : Cx K l Z a0 EL nw y bytes maxL ret rm G B) {ix : Nat} {R0 O n d : String} {a : Addr} {w : Bool} {Kc : Kd} {vs : List Value} {v : Value} (j pc' i f : Nat) (hi : B[j]? = some (pc, .getfield ix, 3)) (hp : pc + 3 = pc') (lk : (Cond.fieldLink y.cls ix R0 n d).before a0 Z = true) (via : Via Z R0 O n d)
    (hL : L[i]? = some (a, w, .inl Kc, vs)) (hf : Kc.2[f]? = some (O, n, d)) (hv : vs[f]? = some v) (k : Wp K cells slots L pc' ls (v :: st)) : Wp K cells slots L pc ls (.ref a :: st) := by
  subst hp
  exact wp_step C (fun p e s m args below meth c vm0 T locs F hx hb hml hown hZ hH X => getF (host := "") X hx (s := s.setVm vm0) hZ hown (Or.inl lk) via rfl ((hH.obj (app_at hL)).2 f _ _ hf hv) (g := mkF m pc ls.toArray (.ref a :: st)) rfl rfl (C.dec hi hb)) k
theorem wp_getS (C : Cx K l Z a0 EL nw y bytes maxL ret rm G B) {ix : Nat} {R0 O n d : String} {v : Value} (j pc' : Nat) (hi : B[j]? = some (pc, .getstatic ix, 3)) (hp : pc + 3 = pc') (lk : (Cond.fieldLink y.cls ix R0 n d).before a0 Z = true) (via : Via Z R0 O n d) (S : Sta Z Z.heap O n d v)
    (k : Wp K cells slots L pc' ls (v :: st)) : Wp K cells slots L pc ls st := by
  subst hp
  exact wp_step C (fun p e s m args below meth c vm0 T locs F hx hb hml hown hZ hH X => getS2 (host := "") X hx (s := s.setVm vm0) hZ hown (Or.inl lk) via rfl (S.ext hH.1) (g := mkF m pc ls.toArray st) rfl (C.dec hi hb)) k
theorem wp_put (C : Cx K l Z a0 EL nw y bytes maxL ret rm G B) {ix kk : Nat} {R0 O n d : String} {ty : FieldType} {a : Addr} {Kc : Kd} {vs vs' : List Value} {u v : Value} (j pc' i f : Nat) (hi : B[j]? = some (pc, .putfield ix, 3)) (hp : pc + 3 = pc') (lk : (Cond.fieldLink y.cls ix R0 n d).before a0 Z = true) (via : Via Z R0 O n d)
    (lw : (Cond.lays Kc.1 O n d).before a0 Z = true ∨ ((Cond.laysFinal Kc.1 O n d).before a0 Z = true ∧ y.cls = O ∧ y.name = "<init>")) (wi : (Cond.instantiable Kc.1 kk).before a0 Z = true) (ko : KOk Z a0 Kc) (hty : parseFieldDescriptor d = some ty) (hnr : narrow ty u = v) (hft : fits ty v = true)
    (hL : L[i]? = some (a, true, .inl Kc, vs)) (hf : Kc.2[f]? = some (O, n, d)) {ov : Value} (hov : vs[f]? = some ov) (hs : vs.set f v = vs') {L' : List Item} (hL' : L.set i (a, true, .inl Kc, vs') = L') (k : Wp K cells slots L' pc' ls st) : Wp K cells slots L pc ls (u :: .ref a :: st) := by
  subst hp hs hL'
  refine wp_write C hL (fun p e s m args below meth c vm0 T locs hx hb hown hnm hZ hI X => ?_) k
  have hI' : Ob Z T.heap a Kc vs := hI
  have hlt := (List.getElem?_eq_some_iff.mp hov).1
  obtain ⟨T', h', X', rfl, W, stp⟩ := putFN X hx (s := s.setVm vm0) hZ hown lk via rfl (hI'.2 f _ _ hf (List.getElem?_eq_getElem hlt)) hI'.1 (lw.imp id fun q => ⟨q.1, q.2.1, by rw [hnm]; exact q.2.2⟩) wi hty hnr hft (g := mkF m pc ls.toArray (u :: .ref a :: st)) rfl rfl (C.dec hi hb)
  exact ⟨T', _, _, X', W, Ob.set ko hf W hI' hlt, stp⟩
/-! making -/
def defs (Kc : Kd) : List Value := Kc.2.map fun f => defaultValue ((parseFieldDescriptor f.2.2).getD .int)
theorem wp_new (C : Cx K l Z a0 EL nw y bytes maxL ret rm G B) {ix n : Nat} {Kc : Kd} {vs : List Value} (j pc' : Nat) (hi : B[j]? = some (pc, .new ix, 3)) (hp : pc + 3 = pc') (lk : (Cond.classLink y.cls ix Kc.1).before a0 Z = true) (wi : (Cond.instantiable Kc.1 n).before a0 Z = true) (wz : (Cond.initialized Kc.1).before a0 Z = true) (ko : KOk Z a0 Kc)
    (hv : defs Kc = vs) {cells' slots' : Nat} (hc : cells + 1 = cells') (hl : slots + n = slots') (hc' : cells' ≤ rm.cells) (hl' : slots' ≤ rm.slots) (k : ∀ a : Addr, Wp K cells' slots' ((a, true, .inl Kc, vs) :: L) pc' ls (.ref a :: st)) : Wp K cells slots L pc ls st := by
  subst hp hv hc hl
  refine wp_make C (st' := fun a => .ref a :: st) (fun p e s m args below meth c vm0 T locs hx hb hown hZ X => ?_) k
  obtain ⟨T', h', X', rfl, E, A, D, -, stp⟩ := newO X hx (s := s.setVm vm0) hZ hown lk wi wz rfl (g := mkF m pc ls.toArray st) rfl (C.dec hi hb) hc' hl'
  refine ⟨T', X', E, ⟨A, fun i f v hf hv => ?_⟩, stp⟩
  obtain ⟨l1, p1⟩ := ko.1.mem f (List.mem_of_getElem? hf)
  obtain ⟨ty, ht⟩ := Option.isSome_iff_exists.mp p1
  have e1 : v = defaultValue ty := by
    simp only [defs, List.getElem?_map, hf, Option.map_some, ht, Option.getD_some, Option.some.injEq] at hv
    exact hv.symm
  rw [e1]
  exact D l1 ht
theorem toNat_of {z : Int32} {n : Nat} (h : z.toInt = n) : ¬ z < 0 ∧ z.toNatClampNeg = n := by
  refine ⟨fun q => ?_, ?_⟩
  · rw [Int32.lt_iff_toInt_lt, Int32.toInt_zero] at q; omega
  · have : z.toNatClampNeg = z.toInt.toNat := rfl
    omega
theorem fits_default (ty : FieldType) : fits ty (defaultValue ty) = true := by cases ty <;> rfl
theorem wp_newA (C : Cx K l Z a0 EL nw y bytes maxL ret rm G B) {aty : ArrayType} {z : Int32} {n cap : Nat} (j pc' : Nat) (hi : B[j]? = some (pc, .newarray aty, 2)) (hp : pc + 2 = pc') (wa : (Cond.arrayClass (newarray.typeOf aty)).before a0 Z = true) (hz : z.toInt = n) (hcap : n ≤ cap) (hbig : cap * 8 ≤ 536870912)
    {cells' slots' : Nat} (hc : cells + 1 = cells') (hl : slots + cap = slots') (hc' : cells' ≤ rm.cells) (hl' : slots' ≤ rm.slots) {vs : List Value} (hvs : List.replicate n (defaultValue (newarray.typeOf aty)) = vs) (k : ∀ a : Addr, Wp K cells' slots' ((a, true, .inr (newarray.typeOf aty), vs) :: L) pc' ls (.ref a :: st)) : Wp K cells slots L pc ls (.int z :: st) := by
  subst hp hc hl hvs
  have hn := toNat_of hz
  refine wp_make C (st' := fun a => .ref a :: st) (fun p e s m args below meth c vm0 T locs hx hb hown hZ X => ?_) k
  obtain ⟨T', h', cA, X', rfl, E, A, stp⟩ := newP X hx (s := s.setVm vm0) hZ wa rfl (g := mkF m pc ls.toArray (.int z :: st)) rfl (C.dec hi hb) rfl hn.1 (cap := cap) (by rw [hn.2]; exact hcap) hbig hc' hl'
  refine ⟨T', X', E, ⟨_, A, ?_, by rw [List.length_replicate]; omega, fun v hv => ?_, fun _ C q => ?_⟩, stp⟩
  · show Array.replicate z.toNatClampNeg _ = _
    rw [hn.2]; simp
  · rw [(List.mem_replicate.mp hv).2]; exact fits_default _
  · cases aty <;> cases q
theorem wp_newR (C : Cx K l Z a0 EL nw y bytes maxL ret rm G B) {ix : Nat} {Cn : String} {z : Int32} {n cap : Nat} (j pc' : Nat) (hi : B[j]? = some (pc, .anewarray ix, 3)) (hp : pc + 3 = pc') (lk : (Cond.classLink y.cls ix Cn).before a0 Z = true) (wa : (Cond.arrayOver (.object Cn)).before a0 Z = true) (hz : z.toInt = n) (hcap : n ≤ cap) (hbig : cap * 8 ≤ 536870912)
    {cells' slots' : Nat} (hc : cells + 1 = cells') (hl : slots + cap = slots') (hc' : cells' ≤ rm.cells) (hl' : slots' ≤ rm.slots) {vs : List Value} (hvs : List.replicate n Value.null = vs) (k : ∀ a : Addr, Wp K cells' slots' ((a, true, .inr (.object Cn), vs) :: L) pc' ls (.ref a :: st)) : Wp K cells slots L pc ls (.int z :: st) := by
  subst hp hc hl hvs
  have hn := toNat_of hz
  refine wp_make C (st' := fun a => .ref a :: st) (fun p e s m args below meth c vm0 T locs hx hb hown hZ X => ?_) k
  obtain ⟨T', h', cA, X', rfl, E, A, O, stp⟩ := newR X hx (s := s.setVm vm0) hZ hown lk wa rfl (g := mkF m pc ls.toArray (.int z :: st)) rfl (C.dec hi hb) rfl hn.1 (cap := cap) (by rw [hn.2]; exact hcap) hbig hc' hl'
  refine ⟨T', X', E, ⟨_, A, ?_, by rw [List.length_replicate]; omega, fun v hv => ?_, fun _ C q => ?_⟩, stp⟩
  · show Array.replicate z.toNatClampNeg _ = _
    rw [hn.2]; simp [defaultValue]
  · rw [(List.mem_replicate.mp hv).2]; rfl
  · cases q; exact O
/-! arrays -/
theorem Ay.inb {h : Heap} {a : Addr} {w : Bool} {ty : FieldType} {vs : List Value} {c : Cell} (e : c.slots = vs.toArray) {z : Int32} {n : Nat} (hz : z.toInt = n) {v : Value} (hv : vs[n]? = some v) : ¬ (z < 0 ∨ c.slots.size ≤ z.toNatClampNeg) ∧ c.slots[z.toNatClampNeg]? = some v := by
  have hn := toNat_of hz
  have hl := (List.getElem?_eq_some_iff.mp hv).1
  rw [hn.2, e]
  refine ⟨fun q => q.elim hn.1 (fun q => ?_), by simpa using hv⟩
  simp at q; omega
theorem wp_len (C : Cx K l Z a0 EL nw y bytes maxL ret rm G B) {a : Addr} {w : Bool} {ty : FieldType} {vs : List Value} {z : Int32} (j pc' i : Nat) (hi : B[j]? = some (pc, .arraylength, 1)) (hp : pc + 1 = pc') (hL : L[i]? = some (a, w, .inr ty, vs)) (hz : vs.length.toInt32 = z) (k : Wp K cells slots L pc' ls (.int z :: st)) : Wp K cells slots L pc ls (.ref a :: st) := by
  subst hp hz
  refine wp_step C (fun p e s m args below meth c vm0 T locs F hx hb hml hown hZ hH X => ⟨T, X, rfl, fun t h => ?_⟩) k
  obtain ⟨cl, A, e1, -⟩ := hH.arr (app_at hL)
  refine X.arraylength hx A.1 (State.isArrayOf_alike (show Z.vm.Alike (s.setVm vm0).vm from hZ.alike) A.2.1) (g := mkF m pc ls.toArray (.ref a :: st)) rfl rfl (C.dec hi hb) _ ?_
  have : cl.slots.size = vs.length := by rw [e1]; simp
  rw [this]; exact h
theorem wp_aload (C : Cx K l Z a0 EL nw y bytes maxL ret rm G B) {op : Instr} {a : Addr} {w : Bool} {ty : FieldType} {vs : List Value} {z : Int32} {n : Nat} {v : Value} (j pc' i : Nat) (hi : B[j]? = some (pc, op, 1)) (hp : pc + 1 = pc')
    (ho : (op = .iaload ∧ ty = .int) ∨ (op = .laload ∧ ty = .long) ∨ (op = .caload ∧ ty = .char) ∨ (op = .baload ∧ ty = .byte) ∨ (op = .aaload ∧ ty.isReference = true)) (hL : L[i]? = some (a, w, .inr ty, vs)) (hz : z.toInt = n) (hv : vs[n]? = some v) (k : Wp K cells slots L pc' ls (v :: st)) : Wp K cells slots L pc ls (.int z :: .ref a :: st) := by
  subst hp
  refine wp_step C (fun p e s m args below meth c vm0 T locs F hx hb hml hown hZ hH X => ⟨T, X, rfl, fun t h => ?_⟩) k
  obtain ⟨cl, A, e1, -⟩ := hH.arr (app_at hL)
  obtain ⟨q1, q2⟩ := Ay.inb (h := T.heap) (a := a) (w := w) (ty := ty) e1 hz hv
  have hA := State.isArrayOf_alike (show Z.vm.Alike (s.setVm vm0).vm from hZ.alike) A.2.1
  rcases ho with ⟨rfl, rfl⟩ | ⟨rfl, rfl⟩ | ⟨rfl, rfl⟩ | ⟨rfl, rfl⟩ | ⟨rfl, hr⟩
  · exact X.iaload hx A.1 hA A.2.2 q1 q2 (g := mkF m pc ls.toArray (.int z :: .ref a :: st)) rfl rfl (C.dec hi hb) t h
  · exact X.laload hx A.1 hA A.2.2 q1 q2 (g := mkF m pc ls.toArray (.int z :: .ref a :: st)) rfl rfl (C.dec hi hb) t h
  · exact X.caload hx A.1 hA A.2.2 q1 q2 (g := mkF m pc ls.toArray (.int z :: .ref a :: st)) rfl rfl (C.dec hi hb) t h
  · exact X.baloadBytes hx A.1 hA A.2.2 q1 q2 (g := mkF m pc ls.toArray (.int z :: .ref a :: st)) rfl rfl (C.dec hi hb) t h
  · exact X.aaload hx A.1 hA hr A.2.2 q1 q2 (g := mkF m pc ls.toArray (.int z :: .ref a :: st)) rfl rfl (C.dec hi hb) t h
end Rules
end Jvm.Wk
namespace Jvm.Wk
open Sem ClassFile Op Lib Jvm.Stand Jvm.Free Jvm.LawKit Jvm.RoadKit
section Rules
variable {K : Cxt} {l : Launch} {Z : State} {a0 : Array Value} {EL : List (String × Nat)} {nw : Bool} {y : MethodName} {bytes : ByteArray} {maxL : Nat} {ret : Option FieldType} {rm : Room} {G : Option Value → List Item → Prop} {B : Prog} {cells slots pc j : Nat} {L : List Item} {ls : List Slot} {st : List Value}
/-! an array's stores -/
theorem wp_sto (C : Cx K l Z a0 EL nw y bytes maxL ret rm G B) {a : Addr} {ty : FieldType} {vs vs' : List Value} {z : Int32} {n : Nat} {u v : Value} {pc' i : Nat} (hL : L[i]? = some (a, true, .inr ty, vs)) (hz : z.toInt = n) (hn : n < vs.length) (hft : fits ty v = true)
    (hst : ∀ (p : Program) (e : Env) (s : State) (m : MethodId) (args : Array Value) (below : List Frame) (meth : Method) (c : Code) (vm0 : Vm) (T : State) (locs : List Loc) (cl : Cell), p.tables.exec = Jvm.exec → c.code = bytes → Z.Warmed39 vm0 → Arr Z T.heap a cl ty → ¬ (z < 0 ∨ cl.slots.size ≤ z.toNatClampNeg) → Stand p l e rm (s.setVm vm0) m args below meth c T locs cells slots →
      ∃ T' h', Stand p l e rm (s.setVm vm0) m args below meth c T' (locs ++ [⟨a, z.toNatClampNeg⟩]) cells slots ∧ T'.heap = h' ∧ Wr T.heap h' a z.toNatClampNeg v ∧ ∀ target, Steps p.tables e below (T'.setTop (mkF m pc' ls.toArray st)) target → Steps p.tables e below (T.setTop (mkF m pc ls.toArray (u :: .int z :: .ref a :: st))) target)
    (hs : vs.set n v = vs') {L' : List Item} (hL' : L.set i (a, true, .inr ty, vs') = L') (k : Wp K cells slots L' pc' ls st) : Wp K cells slots L pc ls (u :: .int z :: .ref a :: st) := by
  subst hs hL'
  refine wp_write C hL (fun p e s m args below meth c vm0 T locs hx hb hown hnm hZ hI X => ?_) k
  have hI' : Ay Z T.heap a true ty vs := hI
  obtain ⟨cl, A, e1, -⟩ := id hI'
  obtain ⟨q1, -⟩ := Ay.inb (h := T.heap) (a := a) (w := true) (ty := ty) e1 hz (List.getElem?_eq_getElem hn)
  obtain ⟨T', h', X', rfl, W, stp⟩ := hst p e s m args below meth c vm0 T locs cl hx hb hZ A q1 X
  refine ⟨T', _, _, X', W, ?_, stp⟩
  rw [(toNat_of hz).2] at W
  exact Ay.set hI' W hft
theorem wp_stoI (C : Cx K l Z a0 EL nw y bytes maxL ret rm G B) {a : Addr} {vs vs' : List Value} {z x : Int32} {n : Nat} (j pc' i : Nat) (hi : B[j]? = some (pc, .iastore, 1)) (hp : pc + 1 = pc') (hL : L[i]? = some (a, true, .inr .int, vs)) (hz : z.toInt = n) (hn : n < vs.length)
    (hs : vs.set n (.int x) = vs') {L' : List Item} (hL' : L.set i (a, true, .inr .int, vs') = L') (k : Wp K cells slots L' pc' ls st) : Wp K cells slots L pc ls (.int x :: .int z :: .ref a :: st) := by
  subst hp
  exact wp_sto C hL hz hn rfl (fun p e s m args below meth c vm0 T locs cl hx hb hZ A q X => stI X hx (s := s.setVm vm0) hZ rfl A q (g := mkF m pc ls.toArray (.int x :: .int z :: .ref a :: st)) rfl rfl (C.dec hi hb)) hs hL' k
theorem wp_stoJ (C : Cx K l Z a0 EL nw y bytes maxL ret rm G B) {a : Addr} {vs vs' : List Value} {z : Int32} {x : Int64} {n : Nat} (j pc' i : Nat) (hi : B[j]? = some (pc, .lastore, 1)) (hp : pc + 1 = pc') (hL : L[i]? = some (a, true, .inr .long, vs)) (hz : z.toInt = n) (hn : n < vs.length)
    (hs : vs.set n (.long x) = vs') {L' : List Item} (hL' : L.set i (a, true, .inr .long, vs') = L') (k : Wp K cells slots L' pc' ls st) : Wp K cells slots L pc ls (.long x :: .int z :: .ref a :: st) := by
  subst hp
  exact wp_sto C hL hz hn rfl (fun p e s m args below meth c vm0 T locs cl hx hb hZ A q X => stJ X hx (s := s.setVm vm0) hZ rfl A q (g := mkF m pc ls.toArray (.long x :: .int z :: .ref a :: st)) rfl rfl (C.dec hi hb)) hs hL' k
theorem wp_stoC (C : Cx K l Z a0 EL nw y bytes maxL ret rm G B) {a : Addr} {vs vs' : List Value} {z x : Int32} {n : Nat} (j pc' i : Nat) (hi : B[j]? = some (pc, .castore, 1)) (hp : pc + 1 = pc') (hL : L[i]? = some (a, true, .inr .char, vs)) (hz : z.toInt = n) (hn : n < vs.length)
    (hs : vs.set n (.int (nar .char x)) = vs') {L' : List Item} (hL' : L.set i (a, true, .inr .char, vs') = L') (k : Wp K cells slots L' pc' ls st) : Wp K cells slots L pc ls (.int x :: .int z :: .ref a :: st) := by
  subst hp
  exact wp_sto C hL hz hn (fits_nar_char _) (fun p e s m args below meth c vm0 T locs cl hx hb hZ A q X => stC X hx (s := s.setVm vm0) hZ rfl A q (g := mkF m pc ls.toArray (.int x :: .int z :: .ref a :: st)) rfl rfl (C.dec hi hb)) hs hL' k
theorem wp_stoB (C : Cx K l Z a0 EL nw y bytes maxL ret rm G B) {a : Addr} {vs vs' : List Value} {z x : Int32} {n : Nat} (j pc' i : Nat) (hi : B[j]? = some (pc, .bastore, 1)) (hp : pc + 1 = pc') (hL : L[i]? = some (a, true, .inr .byte, vs)) (hz : z.toInt = n) (hn : n < vs.length)
    (hs : vs.set n (.int x.toInt8.toInt32) = vs') {L' : List Item} (hL' : L.set i (a, true, .inr .byte, vs') = L') (k : Wp K cells slots L' pc' ls st) : Wp K cells slots L pc ls (.int x :: .int z :: .ref a :: st) := by
  subst hp
  exact wp_sto C (pc' := pc + 1) (v := .int (nar .byte x)) hL hz hn (fits_nar_byte x) (fun p e s m args below meth c vm0 T locs cl hx hb hZ A q X => stB X hx (s := s.setVm vm0) hZ rfl A q (g := mkF m pc ls.toArray (.int x :: .int z :: .ref a :: st)) rfl rfl (C.dec hi hb)) hs hL' k
theorem wp_stoZ (C : Cx K l Z a0 EL nw y bytes maxL ret rm G B) {a : Addr} {vs vs' : List Value} {z x : Int32} {n : Nat} (j pc' i : Nat) (hi : B[j]? = some (pc, .bastore, 1)) (hp : pc + 1 = pc') (hL : L[i]? = some (a, true, .inr .boolean, vs)) (hz : z.toInt = n) (hn : n < vs.length)
    (hs : vs.set n (.int (x &&& 1)) = vs') {L' : List Item} (hL' : L.set i (a, true, .inr .boolean, vs') = L') (k : Wp K cells slots L' pc' ls st) : Wp K cells slots L pc ls (.int x :: .int z :: .ref a :: st) := by
  subst hp
  exact wp_sto C hL hz hn (fits_nar_bool _) (fun p e s m args below meth c vm0 T locs cl hx hb hZ A q X => stZ X hx (s := s.setVm vm0) hZ rfl A q (g := mkF m pc ls.toArray (.int x :: .int z :: .ref a :: st)) rfl rfl (C.dec hi hb)) hs hL' k
theorem wp_stoN (C : Cx K l Z a0 EL nw y bytes maxL ret rm G B) {a : Addr} {ty : FieldType} {vs vs' : List Value} {z : Int32} {n : Nat} (j pc' i : Nat) (hi : B[j]? = some (pc, .aastore, 1)) (hp : pc + 1 = pc') (hty : ty.isReference = true) (hL : L[i]? = some (a, true, .inr ty, vs)) (hz : z.toInt = n) (hn : n < vs.length)
    (hs : vs.set n .null = vs') {L' : List Item} (hL' : L.set i (a, true, .inr ty, vs') = L') (k : Wp K cells slots L' pc' ls st) : Wp K cells slots L pc ls (.null :: .int z :: .ref a :: st) := by
  subst hp
  have hft : fits ty .null = true := by cases ty <;> first | rfl | (cases hty)
  exact wp_sto C hL hz hn hft (fun p e s m args below meth c vm0 T locs cl hx hb hZ A q X => stR X hx (s := s.setVm vm0) hZ rfl A q hty (Or.inl rfl) (g := mkF m pc ls.toArray (.null :: .int z :: .ref a :: st)) rfl rfl (C.dec hi hb)) hs hL' k
/-! ends -/
theorem wp_leave (C : Cx K l Z a0 EL nw y bytes maxL ret rm G B) {v : Option Value} (hv : ret = none → v = none) (h1 : cells ≤ rm.cells) (h2 : slots ≤ rm.slots) (hG : G v L)
    (hs : ∀ (p : Program) (e : Env) (s : State) (m : MethodId) (args : Array Value) (below : List Frame) (meth : Method) (c : Code) (T : State) (locs : List Loc) (fs : List Frame), p.tables.exec = Jvm.exec → c.code = bytes → meth.sig.returnType = ret → Stand p l e rm s m args below meth c T locs cells slots →
      (∀ (f : JFrame) (acts : List Action), f.method = m → f.locked = none → f.entered = [] → (doReturn e (T.setTop f) acts v).1 = T.setFrames fs) → Steps p.tables e below (T.setTop (mkF m pc ls.toArray st)) (T.setFrames fs)) : Wp K cells slots L pc ls st := by
  obtain ⟨p, e, s, m, args, below, meth, c, F, rfl, hx, hb, hml, hret, hlk, hown, hnm, hEL, hB⟩ := C
  intro vm0 k0 T locs X hS hk hn hZ hF hg hH
  obtain ⟨fs, hr, hrun, hend, hw⟩ := X.leaveW hS hk (v := v) (fun q => hv (hret.symm.trans q)) hlk
  refine ⟨T.setFrames fs, _, hs p e _ m args below meth c T locs fs hx hb hret X hr, hrun, hend, v, locs, L, rfl, hG, (show Hp Z EL T.vm T.heap (L ++ F) from hH.at X hZ hEL), hF, fun q => State.WarmedH.trans (t := s.setVm vm0) (hn q) X.warmed, hg, hw.1, hw.2.1, hw.2.2.1, hw.2.2.2.mono h1 h2⟩
theorem wp_ret0 (C : Cx K l Z a0 EL nw y bytes maxL none rm G B) (j : Nat) (hi : B[j]? = some (pc, .return_, 1)) (h1 : cells ≤ rm.cells) (h2 : slots ≤ rm.slots) (hG : G none L) : Wp K cells slots L pc ls [] :=
  wp_leave C (fun _ => rfl) h1 h2 hG (fun p e s m args below meth c T locs fs hx hb hret X hr => X.returnOut hx hret (C.dec hi hb) hr)
theorem wp_retI (C : Cx K l Z a0 EL nw y bytes maxL (some .int) rm G B) {z : Int32} (j : Nat) (hi : B[j]? = some (pc, .ireturn, 1)) (h1 : cells ≤ rm.cells) (h2 : slots ≤ rm.slots) (hG : G (some (.int z)) L) : Wp K cells slots L pc ls (.int z :: st) :=
  wp_leave C (fun q => nomatch q) h1 h2 hG (fun p e s m args below meth c T locs fs hx hb hret X hr => retOut X hx hret rfl (Or.inl ⟨rfl, Or.inl rfl, z, rfl⟩) (C.dec hi hb) hr)
theorem wp_retJ (C : Cx K l Z a0 EL nw y bytes maxL (some .long) rm G B) {z : Int64} (j : Nat) (hi : B[j]? = some (pc, .lreturn, 1)) (h1 : cells ≤ rm.cells) (h2 : slots ≤ rm.slots) (hG : G (some (.long z)) L) : Wp K cells slots L pc ls (.long z :: st) :=
  wp_leave C (fun q => nomatch q) h1 h2 hG (fun p e s m args below meth c T locs fs hx hb hret X hr => retOut X hx hret rfl (Or.inr (Or.inl ⟨rfl, rfl, z, rfl⟩)) (C.dec hi hb) hr)
theorem wp_retN {t : FieldType} (C : Cx K l Z a0 EL nw y bytes maxL (some t) rm G B) {z z' : Int32} (j : Nat) (hi : B[j]? = some (pc, .ireturn, 1)) (ht : t = .boolean ∨ t = .byte ∨ t = .char ∨ t = .short) (hz : nar t z = z') (h1 : cells ≤ rm.cells) (h2 : slots ≤ rm.slots) (hG : G (some (.int z')) L) : Wp K cells slots L pc ls (.int z :: st) := by
  subst hz
  exact wp_leave C (fun q => nomatch q) h1 h2 hG (fun p e s m args below meth c T locs fs hx hb hret X hr => retN X hx hret ht (C.dec hi hb) hr)
theorem wp_retA {t : FieldType} (C : Cx K l Z a0 EL nw y bytes maxL (some t) rm G B) {v : Value} (j : Nat) (hi : B[j]? = some (pc, .areturn, 1)) (ht : t.isReference = true) (hv : v.isRef = true) (h1 : cells ≤ rm.cells) (h2 : slots ≤ rm.slots) (hG : G (some v) L) : Wp K cells slots L pc ls (v :: st) :=
  wp_leave C (fun q => nomatch q) h1 h2 hG (fun p e s m args below meth c T locs fs hx hb hret X hr => retOut X hx hret (by cases t <;> first | (cases ht; done) | (cases v <;> first | (cases hv; done) | rfl)) (Or.inr (Or.inr (Or.inr (Or.inr ⟨rfl, ht, hv⟩)))) (C.dec hi hb) hr)
/-! calls -/
theorem ct_back {y' : MethodName} {by' : ByteArray} {ml : Nat} {rt : Option FieldType} {rm' : Room} {as : List Value} {L0 F : List Item} {G' : Option Value → List Item → Prop} {R : Room} {p : Program} {e : Env} {below : List Frame} {s : State} {args : Array Value} {vm0 : Vm} {len W : Nat} {h : Heap}
    (hM : Ct l Z EL nw y' by' ml rt [] rm' as L0 G') (hZ : Z.Warmed39 vm0) (wc : (Cond.code y' by' ml rt).before a0 Z = true) (wz : (Cond.initialized y'.cls).before a0 Z = true) (hf : rm'.frames + 1 ≤ R.frames) (hl : W + (ml + 11) + rm'.locals ≤ R.locals) (hEL : EW Z a0 EL) (H : Hp Z EL vm0 h (L0 ++ F)) :
    BackS l R p e below (s.setVm vm0) args y' len W (fun A a => a = as.toArray ∧ A.U.heap = h ∧ A.cells + rm'.cells ≤ R.cells ∧ A.slots + rm'.slots ≤ R.slots)
      (fun A _ v C => ∃ (Lc : List Loc) (L' : List Item), G' v L' ∧ Hp Z EL C.U.vm C.U.heap (L' ++ F) ∧ Fr Z.heap.size Lc ∧ (nw = true → A.U.WarmedH C.U.vm) ∧ C.locs = A.locs ++ Lc ∧ C.cells = A.cells + rm'.cells ∧ C.slots = A.slots + rm'.slots) :=
  BackS.of_freeW (bytes := by') (maxL := ml) (ret := rt) (E := fun _ first o t L k n => k = rm'.cells ∧ n = rm'.slots ∧ ∃ v L', o = .returned v ∧ G' v L' ∧ Hp Z EL t.vm t.heap (L' ++ F) ∧ Fr Z.heap.size L ∧ (nw = true → first.WarmedH t.vm)) (hM F) hf hl
    (fun m meth c A a Y hp => have hU : Z.Warmed39 A.U.vm := wtrans (s := s.setVm vm0) hZ Y.warmed
      ⟨by show (Cond.and _ .tt).before a A.U = true; rw [Cond.before_and, mv hU wc]; rfl, mv hU wc, mv hU wz, hp.2.2.1, hp.2.2.2⟩)
    (fun m meth c A a g mk Y hp => ⟨hp.1, wtrans (s := s.setVm vm0) hZ Y.warmed, by
      show Hp Z EL A.U.vm A.U.heap (L0 ++ F)
      rw [hp.2.1]; exact H.at Y hZ hEL⟩) (fun _ _ _ _ _ _ _ _ _ => trivial)
    (fun _ _ _ _ ⟨v, Lc, L', h1, h2, h3, h4, h5, h6, h7⟩ => ⟨Lc, _, _, h7, rfl, rfl, v, L', h1, h2, h3, h4, h5⟩)
    (fun m meth c A a g mk v t Lc k n Y hp _ _ ⟨e1, e2, v', L', e3, e4, e5, e6, e7⟩ => by
      cases e3; subst e1 e2
      exact ⟨Lc, L', e4, e5, e6, e7, rfl, rfl, rfl⟩)
/-- what a call's law hands out, joined with the rest of the walk -/
theorem wp_call (C : Cx K l Z a0 EL nw y bytes maxL ret rm G B) {y' : MethodName} {by' : ByteArray} {ml : Nat} {rt : Option FieldType} {rm' : Room} {as : List Value} {L0 L1 : List Item} {G' : Option Value → List Item → Prop} {len W : Nat} {rest : List Value}
    (hM : Ct l Z EL nw y' by' ml rt [] rm' as L0 G') (wc : (Cond.code y' by' ml rt).before a0 Z = true) (wz : (Cond.initialized y'.cls).before a0 Z = true) (hf : rm'.frames + 1 ≤ rm.frames) (hl : W + (ml + 11) + rm'.locals ≤ rm.locals) (hL : L = L0 ++ L1)
    (hs : ∀ (p : Program) (e : Env) (s : State) (m : MethodId) (args : Array Value) (below : List Frame) (meth : Method) (c : Code) (vm0 : Vm) (T : State) (locs : List Loc) (Pre : Pt → Array Value → Prop) (Post : Pt → Array Value → Option Value → Pt → Prop), p.tables.exec = Jvm.exec → c.code = bytes → c.maxLocals = maxL → (s.setVm vm0).vm.findClass y.cls = some m.cls → Z.Warmed39 vm0 → (∀ x ∈ L, It Z T.heap x) →
      Stand p l e rm (s.setVm vm0) m args below meth c T locs cells slots → BackS l rm p e below (s.setVm vm0) args y' len W Pre Post → (∀ vm₁, (s.setVm vm0).WarmedH vm₁ → Pre ⟨T.setVm vm₁, locs, cells, slots⟩ as.toArray) →
      ∃ (v : Option Value) (vm₁ : Vm) (D : Pt), (s.setVm vm0).WarmedH vm₁ ∧ Stand p l e rm ((s.setVm vm0).setVm D.U.vm) m args below meth c D.U D.locs D.cells D.slots ∧ (s.setVm vm0).Since D.U.vm D.U.heap.size ∧ T.heap.size ≤ D.U.heap.size ∧ Post ⟨T.setVm vm₁, locs, cells, slots⟩ as.toArray v D ∧
        Steps p.tables e below (T.setTop (mkF m pc ls.toArray st)) (D.U.setTop (mkF m (pc + len) ls.toArray (v.toList ++ rest))))
    {cells' slots' pc' : Nat} (hpc : pc + len = pc') (hc : cells + rm'.cells = cells') (hsl : slots + rm'.slots = slots') (hc' : cells' ≤ rm.cells) (hs' : slots' ≤ rm.slots) (k : ∀ v L', G' v L' → Wp K cells' slots' (L' ++ L1) pc' ls (v.toList ++ rest)) : Wp K cells slots L pc ls st := by
  subst hpc hc hsl hL
  obtain ⟨p, e, s, m, args, below, meth, c, F, rfl, hx, hb, hml, hret, hlk, hown, hnm, hEL, hB⟩ := C
  intro vm0 k0 T locs X hS hk hn hZ hF hg hH
  obtain ⟨v, vm₁, ⟨U, Lo, kc, ks⟩, hW1, X', hS', hgr, ⟨Lc, L', hG', hH', hFr, hn', e1, e2, e3⟩, hst⟩ := hs p e s m args below meth c vm0 T locs _ _ hx hb hml (by rw [show (s.setVm vm0).vm = vm0 from rfl, hS.1.alike.findClass]; exact hown) hZ (fun x hx => hH.2.2.1 x (List.mem_append_left F hx)) X
    (ct_back (len := len) (F := L1 ++ F) hM hZ wc wz hf hl hEL (by rw [← List.append_assoc]; exact hH)) (fun vm₁ _ => ⟨rfl, rfl, hc', hs'⟩)
  dsimp only [Pt.U, Pt.locs, Pt.cells, Pt.slots] at X' hS' hgr hH' hn' e1 e2 e3 hst
  subst e1 e2 e3
  obtain ⟨t, o, h1, h2⟩ := k v L' hG' U.vm U.heap.size U (locs ++ Lc) X' (hS.trans hS' (Nat.le_trans hk hgr)) (Nat.le_refl _) (fun q => State.WarmedH.trans (t := s.setVm vm0) (hn q) (State.WarmedH.trans (t := T.setVm vm₁) hW1 (hn' q))) (State.Warmed39.trans (t := s.setVm vm0) hZ hS'.1) (Fr.app hF hFr) (Nat.le_trans hg hgr) (by rw [List.append_assoc]; exact hH')
  exact ⟨t, o, hst.trans h1, h2⟩
theorem sz {ls : List Slot} {c : Code} (hml : c.maxLocals = maxL) (h : ls.length = maxL) : ls.toArray.size = c.maxLocals := by rw [hml, ← h]; simp
theorem wp_init (C : Cx K l Z a0 EL nw y bytes maxL ret rm G B) {y' : MethodName} {by' : ByteArray} {ml ix : Nat} {rm' : Room} {a : Addr} {al rest : List Value} {ps : List FieldType} {L0 L1 : List Item} {G' : Option Value → List Item → Prop} {W : Nat} (j pc' : Nat)
    (hM : Ct l Z EL nw y' by' ml none [] rm' (.ref a :: al) L0 G') (hi : B[j]? = some (pc, .invokespecial ix, 3)) (hpc : pc + 3 = pc') (lk : (Cond.methodLink y.cls ix y').before a0 Z = true) (wi : (Cond.instanceMethod y').before a0 Z = true) (wc : (Cond.code y' by' ml none).before a0 Z = true) (wz : (Cond.initialized y'.cls).before a0 Z = true)
    (hn1 : y'.name = "<init>") (hy : y'.cls ≠ "java/lang/invoke/MethodHandle" ∧ y'.cls ≠ "java/lang/invoke/VarHandle") (hd : parseMethodDescriptor y'.desc = some ⟨ps, none⟩) (hlen : al.length = ps.length) (hst : st = al.reverse ++ .ref a :: rest) (hW : (rest.map fun v => v.category).sum = W) (hls : ls.length = maxL)
    (hf : rm'.frames + 1 ≤ rm.frames) (hl : W + (ml + 11) + rm'.locals ≤ rm.locals) (hL : L = L0 ++ L1) {cells' slots' : Nat} (hc : cells + rm'.cells = cells') (hsl : slots + rm'.slots = slots') (hc' : cells' ≤ rm.cells) (hs' : slots' ≤ rm.slots) (k : ∀ v L', G' v L' → Wp K cells' slots' (L' ++ L1) pc' ls (v.toList ++ rest)) : Wp K cells slots L pc ls st := by
  refine wp_call C (len := 3) (W := W) hM wc wz hf hl hL (fun p e s m args below meth c vm0 T locs Pre Post hx hb hml hown hZ hI X hK hp => ?_) hpc hc hsl hc' hs' k
  exact X.specialBackS hx hn1 hown (mvT (s := s.setVm vm0) hZ lk) (mvT (s := s.setVm vm0) hZ wi) (mvT (s := s.setVm vm0) hZ wc) hy hK (g := mkF m pc ls.toArray st) rfl (sz hml hls) (Steps.refl _) (a := a) (argsL := al) (rest := rest) (lenOf hd hlen) hst (by show 2 * 0 + _ ≤ _; omega) (C.dec hi hb) hp
theorem wp_static (C : Cx K l Z a0 EL nw y bytes maxL ret rm G B) {y' : MethodName} {by' : ByteArray} {ml ix : Nat} {rt : Option FieldType} {rm' : Room} {al rest : List Value} {ps : List FieldType} {L0 L1 : List Item} {G' : Option Value → List Item → Prop} {W : Nat} (j pc' : Nat)
    (hM : Ct l Z EL nw y' by' ml rt [] rm' al L0 G') (hi : B[j]? = some (pc, .invokestatic ix, 3)) (hpc : pc + 3 = pc') (lk : (Cond.methodLink y.cls ix y').before a0 Z = true) (ws : (Cond.static y').before a0 Z = true) (wc : (Cond.code y' by' ml rt).before a0 Z = true) (wz : (Cond.initialized y'.cls).before a0 Z = true)
    (hy : y'.cls ≠ "java/lang/invoke/MethodHandle" ∧ y'.cls ≠ "java/lang/invoke/VarHandle") (hd : parseMethodDescriptor y'.desc = some ⟨ps, rt⟩) (hlen : al.length = ps.length) (hst : st = al.reverse ++ rest) (hW : (rest.map fun v => v.category).sum = W) (hls : ls.length = maxL)
    (hf : rm'.frames + 1 ≤ rm.frames) (hl : W + (ml + 11) + rm'.locals ≤ rm.locals) (hL : L = L0 ++ L1) {cells' slots' : Nat} (hc : cells + rm'.cells = cells') (hsl : slots + rm'.slots = slots') (hc' : cells' ≤ rm.cells) (hs' : slots' ≤ rm.slots) (k : ∀ v L', G' v L' → Wp K cells' slots' (L' ++ L1) pc' ls (v.toList ++ rest)) : Wp K cells slots L pc ls st := by
  refine wp_call C (len := 3) (W := W) hM wc wz hf hl hL (fun p e s m args below meth c vm0 T locs Pre Post hx hb hml hown hZ hI X hK hp => ?_) hpc hc hsl hc' hs' k
  exact callSS X hx hown (mvT (s := s.setVm vm0) hZ lk) (mvT (s := s.setVm vm0) hZ ws) (mvT (s := s.setVm vm0) hZ wz) (mvT (s := s.setVm vm0) hZ wc) hy hK (g := mkF m pc ls.toArray st) rfl (sz hml hls) (argsL := al) (rest := rest) (lenOf hd hlen) hst (by show 2 * 0 + _ ≤ _; omega) (C.dec hi hb) hp
theorem It.exa {h : Heap} {a : Addr} {w : Bool} {Kc : Kd} {vs : List Value} (I : It Z h (a, w, .inl Kc, vs)) : Exa Z h a Kc.1 := I.1
theorem wp_virtual (C : Cx K l Z a0 EL nw y bytes maxL ret rm G B) {y' z' : MethodName} {by' : ByteArray} {ml ix : Nat} {rt : Option FieldType} {rm' : Room} {a : Addr} {w : Bool} {Kc : Kd} {vs : List Value} {al rest : List Value} {ps : List FieldType} {L0 L1 : List Item} {G' : Option Value → List Item → Prop} {W : Nat} (j pc' i : Nat)
    (hM : Ct l Z EL nw z' by' ml rt [] rm' (.ref a :: al) L0 G') (hi : B[j]? = some (pc, .invokevirtual ix, 3)) (hpc : pc + 3 = pc') (hR : L[i]? = some (a, w, .inl Kc, vs)) (lk : (Cond.methodLink y.cls ix y').before a0 Z = true) (wd : (Cond.declares y').before a0 Z = true) (wnf : ∀ s : State, Z.Warmed39 s.vm → NotFace s y') (wsel : (Cond.selects Kc.1 y' z').before a0 Z = true) (wi : (Cond.instanceMethod z').before a0 Z = true) (wc : (Cond.code z' by' ml rt).before a0 Z = true) (wz : (Cond.initialized z'.cls).before a0 Z = true)
    (hy : y'.cls ≠ "java/lang/invoke/MethodHandle" ∧ y'.cls ≠ "java/lang/invoke/VarHandle") (hd : parseMethodDescriptor y'.desc = some ⟨ps, rt⟩) (hlen : al.length = ps.length) (hst : st = al.reverse ++ .ref a :: rest) (hW : (rest.map fun v => v.category).sum = W) (hls : ls.length = maxL)
    (hf : rm'.frames + 1 ≤ rm.frames) (hl : W + (ml + 11) + rm'.locals ≤ rm.locals) (hL : L = L0 ++ L1) {cells' slots' : Nat} (hc : cells + rm'.cells = cells') (hsl : slots + rm'.slots = slots') (hc' : cells' ≤ rm.cells) (hs' : slots' ≤ rm.slots) (k : ∀ v L', G' v L' → Wp K cells' slots' (L' ++ L1) pc' ls (v.toList ++ rest)) : Wp K cells slots L pc ls st := by
  refine wp_call C (len := 3) (W := W) hM wc wz hf hl hL (fun p e s m args below meth c vm0 T locs Pre Post hx hb hml hown hZ hI X hK hp => ?_) hpc hc hsl hc' hs' k
  obtain ⟨cq, kq, qa, qb, qc⟩ := isOf (s := s.setVm vm0) (T := T) hZ rfl (It.exa (hI _ (List.mem_of_getElem? hR)))
  exact X.virtualBackS hx hown (mvT (s := s.setVm vm0) hZ lk) (mvT (s := s.setVm vm0) hZ wd) (wnf (s.setVm vm0) hZ) (mvT (s := s.setVm vm0) hZ wsel) (mvT (s := s.setVm vm0) hZ wi) hy hK qa qc (g := mkF m pc ls.toArray st) rfl (sz hml hls) (Steps.refl _) (argsL := al) (rest := rest) (lenOf hd hlen) hst (by show 2 * 0 + _ ≤ _; omega) (C.dec hi hb) hp
theorem nf_self {Cn : String} {y' : MethodName} (w : (Cond.selects Cn y' y').before a0 Z = true) : ∀ s : State, Z.Warmed39 s.vm → NotFace s y' := fun s hZ => notFace_of_selects (args := #[]) (mvT hZ w)
theorem wp_private (C : Cx K l Z a0 EL nw y bytes maxL ret rm G B) {y' : MethodName} {by' : ByteArray} {ml ix : Nat} {rt : Option FieldType} {rm' : Room} {a : Addr} {w : Bool} {Kc : Kd} {vs : List Value} {al rest : List Value} {ps : List FieldType} {L0 L1 : List Item} {G' : Option Value → List Item → Prop} {W : Nat} (j pc' i : Nat)
    (hM : Ct l Z EL nw y' by' ml rt [] rm' (.ref a :: al) L0 G') (hi : B[j]? = some (pc, .invokevirtual ix, 3)) (hpc : pc + 3 = pc') (hR : L[i]? = some (a, w, .inl Kc, vs)) (lk : (Cond.methodLink y.cls ix y').before a0 Z = true) (wi : (Cond.instanceMethod y').before a0 Z = true) (wsel : (Cond.selects y'.cls y' y').before a0 Z = true) (wp : (Cond.privateMethod y').before a0 Z = true) (wc : (Cond.code y' by' ml rt).before a0 Z = true) (wz : (Cond.initialized y'.cls).before a0 Z = true)
    (hy : y'.cls ≠ "java/lang/invoke/MethodHandle" ∧ y'.cls ≠ "java/lang/invoke/VarHandle") (hd : parseMethodDescriptor y'.desc = some ⟨ps, rt⟩) (hlen : al.length = ps.length) (hst : st = al.reverse ++ .ref a :: rest) (hW : (rest.map fun v => v.category).sum = W) (hls : ls.length = maxL)
    (hf : rm'.frames + 1 ≤ rm.frames) (hl : W + (ml + 11) + rm'.locals ≤ rm.locals) (hL : L = L0 ++ L1) {cells' slots' : Nat} (hc : cells + rm'.cells = cells') (hsl : slots + rm'.slots = slots') (hc' : cells' ≤ rm.cells) (hs' : slots' ≤ rm.slots) (k : ∀ v L', G' v L' → Wp K cells' slots' (L' ++ L1) pc' ls (v.toList ++ rest)) : Wp K cells slots L pc ls st := by
  refine wp_call C (len := 3) (W := W) hM wc wz hf hl hL (fun p e s m args below meth c vm0 T locs Pre Post hx hb hml hown hZ hI X hK hp => ?_) hpc hc hsl hc' hs' k
  obtain ⟨cq, q1, q2⟩ := (It.exa (hI _ (List.mem_of_getElem? hR))).cell
  exact X.privateBackS hx hown (mvT (s := s.setVm vm0) hZ lk) (mvT (s := s.setVm vm0) hZ wi) (mvT (s := s.setVm vm0) hZ wsel) (Cond.privateMethod_at (mvP (s := s.setVm vm0) hZ wp (args := #[]))) (mvT (s := s.setVm vm0) hZ wc) hy hK (g := mkF m pc ls.toArray st) rfl (sz hml hls) (Steps.refl _) (a := a) q1 q2 (argsL := al) (rest := rest) (lenOf hd hlen) hst (by show 2 * 0 + _ ≤ _; omega) (C.dec hi hb) hp
/-- Object's constructor -/
theorem wp_initO (C : Cx K l Z a0 EL nw y bytes maxL ret rm G B) {ix : Nat} {a : Addr} {W : Nat} (j pc' : Nat) (hi : B[j]? = some (pc, .invokespecial ix, 3)) (hp : pc + 3 = pc') (w1 : (Cond.methodLink y.cls ix Lib.objectInit).before a0 Z = true) (w2 : (Cond.instanceMethod Lib.objectInit).before a0 Z = true) (w3 : (Cond.code Lib.objectInit ⟨#[0xb1]⟩ 1 none).before a0 Z = true)
    (hf : 1 ≤ rm.frames) (hW : (st.map fun v => v.category).sum = W) (hl : W + 12 ≤ rm.locals) (hls : ls.length = maxL) (k : Wp K cells slots L pc' ls st) : Wp K cells slots L pc ls (.ref a :: st) := by
  subst hp
  exact wp_step C (fun p e s m args below meth c vm0 T locs F hx hb hml hown hZ hH X => initO X hx (s := s.setVm vm0) hZ hown w1 w2 w3 rfl (g := mkF m pc ls.toArray (.ref a :: st)) rfl (sz hml hls) rfl (C.dec hi hb) hf (W := W) (by show 2 * 0 + _ ≤ _; omega) hl) k
end Rules
end Jvm.Wk
namespace Jvm.Wk
open Jvm.RoadKit
/-! sums within bounds -/
theorem one32 : (1 : Int32).toInt = 1 := rfl
theorem zero32 : (0 : Int32).toInt = 0 := rfl
theorem addI {x z : Int32} {a b : Int} (hx : x.toInt = a) (hz : z.toInt = b) (h1 : -2147483648 ≤ a + b := by omega) (h2 : a + b < 2147483648 := by omega) : (x + z).toInt = a + b := by
  have h := c_iadd x z
  have r := rng32 (x + z)
  generalize x + z = s at *
  omega
theorem subI {x z : Int32} {a b : Int} (hx : x.toInt = a) (hz : z.toInt = b) (h1 : -2147483648 ≤ a - b := by omega) (h2 : a - b < 2147483648 := by omega) : (x - z).toInt = a - b := by
  have h := c_isub x z
  have r := rng32 (x - z)
  generalize x - z = s at *
  omega
theorem mulI {x z : Int32} {a b : Int} (hx : x.toInt = a) (hz : z.toInt = b) (h1 : -2147483648 ≤ a * b) (h2 : a * b < 2147483648) : (x * z).toInt = a * b := by
  have h := c_imul x z
  have r := rng32 (x * z)
  rw [hx, hz] at h
  generalize x * z = s at *
  generalize a * b = c at *
  omega
theorem ushI {x : Int32} {a : Int} (hx : x.toInt = a) (h : 0 ≤ a) : (ush x 1).toInt = a / 2 := by
  have e : (ush x 1).toInt = (x.toInt % 4294967296) / (2 ^ 1 : Nat) := c_iushr x 1 1 (by decide) (by decide)
  have r := rng32 x
  rw [e, hx]
  simp only [Nat.pow_one]
  omega
end Jvm.Wk
namespace Jvm.Wk
open Sem ClassFile Op Lib Jvm.Stand Jvm.Free Jvm.LawKit Jvm.RoadKit
/-! String constants, cold -/
abbrev kVC : Kd := ("java/lang/String", [("java/lang/String", "value", "[B"), ("java/lang/String", "coder", "B")])
abbrev kCV : Kd := ("java/lang/String", [("java/lang/String", "coder", "B"), ("java/lang/String", "value", "[B")])
section Lits
variable {K : Cxt} {l : Launch} {Z : State} {a0 : Array Value} {EL : List (String × Nat)} {nw : Bool} {y : MethodName} {bytes : ByteArray} {maxL : Nat} {ret : Option FieldType} {rm : Room} {G : Option Value → List Item → Prop} {B : Prog} {cells slots pc j : Nat} {L : List Item} {ls : List Slot} {st : List Value}
theorem wp_ldcO (C : Cx K l Z a0 EL false y bytes maxL ret rm G B) {ix n : Nat} {text : String} (j pc' : Nat) (hi : B[j]? = some (pc, .ldc ix, 2)) (hp : pc + 2 = pc') (w : (Cond.stringLink y.cls ix text).before a0 Z = true) (wS : ∀ a ∈ Bundle.stringAtoms, a.before a0 Z = true) (hn : 4 * text.toList.length ≤ n) (hbig : n ≤ 536870912)
    {cells' slots' : Nat} (hc : cells + 2 = cells') (hl : slots + (n + 4) = slots') (hc' : cells' ≤ rm.cells) (hl' : slots' ≤ rm.slots) (k : ∀ a : Addr, Wp K cells' slots' L pc' ls (.ref a :: st)) : Wp K cells slots L pc ls st := by
  subst hp hc hl
  have C' := C
  obtain ⟨p, e, s, m, args, below, meth, c, F, rfl, hx, hb, hml, hret, hlk, hown, hnm, hEL, hB⟩ := C
  intro vm0 k0 T locs X hS hk hnw hZ hF hg hH
  obtain ⟨a, T', h', k1, X', rfl, E, hS', hk', hW, hf, hC, -, stp⟩ := ldcOH X hx hZ (show vm0.findClass y.cls = some m.cls by rw [hS.1.alike.findClass]; exact hown) w wS rfl hS hk hEL hH.2.1 (g := mkF m pc ls.toArray st) rfl (C'.dec hi hb) hn hbig hc' hl'
  obtain ⟨t, o, h1, h2⟩ := k a T'.vm k1 T' locs X' hS' hk' (fun q => nomatch q) hW hF (Nat.le_trans hg E.1) (hH.later E hC)
  exact ⟨t, o, stp t h1, h2⟩
theorem Ay.of_arv {h : Heap} {b : Addr} {kc : ClassId} {z : Int32} {vs : List Value} {dv : Value} (F : Arv Z h b kc .byte z vs dv) (hl : z.toNatClampNeg = vs.length) (hb : vs.length < 2 ^ 31) : Ay Z h b false .byte vs := by
  obtain ⟨c, A, -, hs, -, H, Gf⟩ := F
  have e : c.slots = vs.toArray := by
    apply Array.ext_getElem?
    intro i
    by_cases q : i < c.slots.size
    · rw [H i q]
      have q2 : i < vs.length := by omega
      simp [List.getD_eq_getElem?_getD, q2]
    · rw [Array.getElem?_eq_none (by omega), Array.getElem?_eq_none (by simp; omega)]
  refine ⟨c, A, e, hb, fun v hv => ?_, fun q => nomatch q⟩
  obtain ⟨i, hi, rfl⟩ := List.getElem_of_mem hv
  have := Gf i (by omega)
  simpa [List.getD_eq_getElem?_getD, hi] using this
theorem wp_ldcC (C : Cx K l Z a0 EL false y bytes maxL ret rm G B) {ix n : Nat} {text : String} {vs : List Value} {Kc : Kd} {mk : Addr → List Value} (z : Int32) (j pc' : Nat) (hi : B[j]? = some (pc, .ldc ix, 2)) (hp : pc + 2 = pc') (w : (Cond.stringLink y.cls ix text).before a0 Z = true) (wS : ∀ a ∈ Bundle.stringAtoms, a.before a0 Z = true) (hmem : (y.cls, ix) ∈ EL)
    (ht : (∀ c ∈ text.toList, c.toNat < 256) ∧ text.toList.map (fun c => Value.int (Jvm.Lit.byteI c.toNat.toUInt16)) = vs) (hz : ¬ z < 0) (hzl : z.toNatClampNeg = vs.length) (hvl : vs.length < 2 ^ 31) (hK : (Kc = kVC ∧ mk = fun b => [.ref b, .int 0]) ∨ (Kc = kCV ∧ mk = fun b => [.int 0, .ref b]))
    (hn : 4 * text.toList.length ≤ n) (hbig : n ≤ 536870912) {cells' slots' : Nat} (hc : cells + 2 = cells') (hl : slots + (n + 4) = slots') (hc' : cells' ≤ rm.cells) (hl' : slots' ≤ rm.slots) (k : ∀ a b : Addr, Wp K cells' slots' ((a, false, .inl Kc, mk b) :: (b, false, .inr .byte, vs) :: L) pc' ls (.ref a :: st)) : Wp K cells slots L pc ls st := by
  subst hp hc hl
  have C' := C
  obtain ⟨p, e, s, m, args, below, meth, c, F, rfl, hx, hb, hml, hret, hlk, hown, hnm, hEL, hB⟩ := C
  intro vm0 k0 T locs X hS hk hnw hZ hF hg hH
  obtain ⟨a, T', h', k1, b, kc, X', rfl, E, hS', hk', hW, hf, A1, A2, A3, A4, -, -, hC, -, hsafe, stp⟩ := ldcCH X hx hZ (show vm0.findClass y.cls = some m.cls by rw [hS.1.alike.findClass]; exact hown) w wS rfl hS hk hEL hmem hH.2.1 ht hz hzl (g := mkF m pc ls.toArray st) rfl (C'.dec hi hb) hn hbig hc' hl'
  have hL := hH.later E hC
  have hne : ∀ q ∈ ((L ++ F).map key), q.2 = true → a ≠ q.1 ∧ b ≠ q.1 := fun q hq hw => by
    have := hsafe q.1 (hL.2.2.2.2 q hq hw).2
    exact ⟨Ne.symm this.1, Ne.symm this.2⟩
  have hL1 : Hp Z EL T'.vm T'.heap ((b, false, .inr .byte, vs) :: (L ++ F)) := hL.add (fun q hq hw => (hne q hq hw).2) (Ay.of_arv A4 hzl hvl)
  have hO : Ob Z T'.heap a Kc (mk b) := by
    rcases hK with ⟨rfl, rfl⟩ | ⟨rfl, rfl⟩
    · refine ⟨A1, fun i f v hf' hv => ?_⟩
      match i, hf', hv with
      | 0, hf', hv => cases hf'; cases hv; exact A3
      | 1, hf', hv => cases hf'; cases hv; exact A2
    · refine ⟨A1, fun i f v hf' hv => ?_⟩
      match i, hf', hv with
      | 0, hf', hv => cases hf'; cases hv; exact A2
      | 1, hf', hv => cases hf'; cases hv; exact A3
  have hL2 : Hp Z EL T'.vm T'.heap ((a, false, .inl Kc, mk b) :: (b, false, .inr .byte, vs) :: (L ++ F)) := hL1.add (fun q hq hw => by
    rcases List.mem_cons.mp hq with rfl | hq
    · cases hw
    · exact (hne q hq hw).1) hO
  obtain ⟨t, o, h1, h2⟩ := k a b T'.vm k1 T' locs X' hS' hk' (fun q => nomatch q) hW hF (Nat.le_trans hg E.1) hL2
  exact ⟨t, o, stp t h1, h2⟩
end Lits
end Jvm.Wk
namespace Jvm.Wk
open Sem ClassFile Op Lib Jvm.Stand Jvm.Free Jvm.LawKit Jvm.RoadKit
section More
variable {K : Cxt} {l : Launch} {Z : State} {a0 : Array Value} {EL : List (String × Nat)} {nw : Bool} {y : MethodName} {bytes : ByteArray} {maxL : Nat} {ret : Option FieldType} {rm : Room} {G : Option Value → List Item → Prop} {B : Prog} {cells slots pc j : Nat} {L : List Item} {ls : List Slot} {st : List Value}
/-- two known cells, one of them new: two addresses -/
theorem wp_ne (C : Cx K l Z a0 EL nw y bytes maxL ret rm G B) {a b : Addr} {wa wb : Bool} {D E : Kd ⊕ FieldType} {us vs : List Value} (i i' : Nat) (hi : L[i]? = some (a, wa, D, us)) (hi' : L[i']? = some (b, wb, E, vs)) (hij : i < i') (hw : (wa || wb) = true) (k : a ≠ b → Wp K cells slots L pc ls st) : Wp K cells slots L pc ls st := by
  obtain ⟨p, e, s, m, args, below, meth, c, F, rfl, -⟩ := C
  intro vm0 k0 T locs X hS hk hn hZ hF hg hH
  refine k ?_ vm0 k0 T locs X hS hk hn hZ hF hg hH
  have h1 : ((L ++ F).map key)[i]? = some (a, wa) := by rw [List.getElem?_map, app_at hi]; rfl
  have h2 : ((L ++ F).map key)[i']? = some (b, wb) := by rw [List.getElem?_map, app_at hi']; rfl
  obtain ⟨q1, e1⟩ := List.getElem?_eq_some_iff.mp h1
  obtain ⟨q2, e2⟩ := List.getElem?_eq_some_iff.mp h2
  have := List.pairwise_iff_getElem.mp hH.2.2.2.1 i i' q1 q2 hij
  rw [e1, e2] at this
  exact this hw
theorem wp_instY (C : Cx K l Z a0 EL nw y bytes maxL ret rm G B) {ix : Nat} {Kn : String} {a : Addr} {w : Bool} {Kc : Kd} {vs : List Value} (j pc' i : Nat) (hi : B[j]? = some (pc, .instanceof ix, 3)) (hp : pc + 3 = pc') (lk : (Cond.classLink y.cls ix Kn).before a0 Z = true) (wc : (Cond.castable Kc.1 Kn).before a0 Z = true) (hL : L[i]? = some (a, w, .inl Kc, vs))
    (k : Wp K cells slots L pc' ls (.int 1 :: st)) : Wp K cells slots L pc ls (.ref a :: st) := by
  subst hp
  exact wp_step C (fun p e s m args below meth c vm0 T locs F hx hb hml hown hZ hH X => instY X hx (s := s.setVm vm0) hZ hown lk rfl (Ins.of_exa (hH.obj (app_at hL)).1 wc) (g := mkF m pc ls.toArray (.ref a :: st)) rfl rfl (C.dec hi hb)) k
theorem wp_castY (C : Cx K l Z a0 EL nw y bytes maxL ret rm G B) {ix : Nat} {Kn : String} {a : Addr} {w : Bool} {Kc : Kd} {vs : List Value} (j pc' i : Nat) (hi : B[j]? = some (pc, .checkcast ix, 3)) (hp : pc + 3 = pc') (lk : (Cond.classLink y.cls ix Kn).before a0 Z = true) (wc : (Cond.castable Kc.1 Kn).before a0 Z = true) (hL : L[i]? = some (a, w, .inl Kc, vs))
    (k : Wp K cells slots L pc' ls (.ref a :: st)) : Wp K cells slots L pc ls (.ref a :: st) := by
  subst hp
  exact wp_step C (fun p e s m args below meth c vm0 T locs F hx hb hml hown hZ hH X => castY X hx (s := s.setVm vm0) hZ hown lk rfl (Ins.of_exa (hH.obj (app_at hL)).1 wc) (g := mkF m pc ls.toArray (.ref a :: st)) rfl rfl (C.dec hi hb)) k
end More
end Jvm.Wk
namespace Jvm.Wk
open Jvm.RoadKit
/-! PLAIN: chars and bytes -/
abbrev bt (c : Int32) : Value := .int c.toInt8.toInt32
def Lat (cs : List Int32) : Prop := ∀ c ∈ cs, 0 ≤ c.toInt ∧ c.toInt ≤ 255
theorem b8 (x : Int32) : x.toInt8.toInt32.toInt8.toInt32 = x.toInt8.toInt32 := by simp
theorem len32 {n : Int32} {k : Nat} (h : n.toInt = k) : k.toInt32 = n := by
  have r := rng32 n
  apply Int32.toInt_inj.mp
  rw [h]
  exact len_toInt (by omega)
theorem fill_set {d : List Int32} {n : Nat} {c : Int32} : (d.map bt ++ List.replicate (n + 1) (Value.int 0)).set d.length (bt c) = (d ++ [c]).map bt ++ List.replicate n (Value.int 0) := by
  rw [List.replicate_succ]
  have : d.length = (d.map bt).length := by simp
  rw [this, List.set_append_right _ _ (Nat.le_refl _)]
  simp
theorem bt_inj {x z : Int32} (hx : 0 ≤ x.toInt ∧ x.toInt ≤ 255) (hz : 0 ≤ z.toInt ∧ z.toInt ≤ 255) (h : x.toInt8.toInt32 = z.toInt8.toInt32) : x = z := by
  have h1 := c_i2b x
  have h2 := c_i2b z
  rw [h] at h1
  apply Int32.toInt_inj.mp
  generalize z.toInt8.toInt32 = w at *
  omega
theorem chr_at {d r : List Int32} {c : Int32} : ((d ++ c :: r).map Value.int)[d.length]? = some (.int c) := by simp
theorem coder0 (n : Int32) : nar .byte ((ush (n - n) 31).toInt8.toInt32) = 0 := by rw [Int32.sub_self]; decide +kernel
theorem lat_and (x : Int32) : 0 ≤ (x &&& 255).toInt ∧ (x &&& 255).toInt ≤ 255 := by
  have h := c_and x 255 (by decide)
  rw [show (255 : Int32).toInt = 255 from rfl] at h
  exact h
theorem nar_chr {k : Int32} (h : 0 ≤ k.toInt ∧ k.toInt ≤ 65535) : nar .char k = k := by
  have e := c_i2c k
  apply Int32.toInt_inj.mp
  show (k.toUInt32.toUInt16.toUInt32.toInt32).toInt = k.toInt
  generalize k.toUInt32.toUInt16.toUInt32.toInt32 = z at *
  omega
theorem nar_c (x : Int32) : nar .char ((x &&& 255 : Int32).toUInt32.toUInt16.toUInt32.toInt32) = x &&& 255 := by
  rw [i2c_mask]; exact i2c_mask x
end Jvm.Wk
namespace Jvm.Pilot.@@N@@
open Jvm Jvm.ClassFile Sem Op Lib Jvm.Free Jvm.Stand Jvm.LawKit Jvm.RoadKit Jvm.Wk Bundle Jvm.Pilot.@@N@@.Jvm.D
theorem wd {ts : List Jvm.Cond} {Z : State} {a0 : Array Value} (hw : ∀ d ∈ ts, d.before a0 Z = true) (k : Nat) {d : Jvm.Cond} (h : ts[k]? = some d) : d.before a0 Z = true := hw d (List.mem_of_getElem? h)
abbrev EL1 : List (String × Nat) := [("com/example/fieldweave/fieldweave/http/MediaType", 150)]
abbrev nw1 : Bool := false
theorem ew1 {Z : State} {a0 : Array Value} (hw : ∀ d ∈ tables_1, d.before a0 Z = true) : EW Z a0 EL1 := EW.cons (wd hw 66 rfl) (by decide) (EW.nil)
theorem sat {Z : State} {a0 : Array Value} (hw : ∀ d ∈ tables_1, d.before a0 Z = true) : ∀ a ∈ Bundle.stringAtoms, a.before a0 Z = true := by
  intro a ha
  simp only [Bundle.stringAtoms, List.mem_cons, List.not_mem_nil, or_false] at ha
  rcases ha with rfl | rfl | rfl | rfl | rfl | rfl | rfl
  · exact wd hw 18 rfl
  · exact wd hw 26 rfl
  · exact wd hw 30 rfl
  · exact wd hw 39 rfl
  · exact wd hw 41 rfl
  · exact wd hw 67 rfl
  · exact wd hw 68 rfl
def kS : Kd := ("java/lang/String", [("java/lang/String", "value", "[B"), ("java/lang/String", "coder", "B")])
theorem kS_ok {Z : State} {a0 : Array Value} (hw : ∀ d ∈ tables_1, d.before a0 Z = true) : KOk Z a0 kS := ⟨⟨⟨Or.inr (wd hw 39 rfl), by decide +kernel⟩, ⟨⟨Or.inr (wd hw 41 rfl), by decide +kernel⟩, trivial⟩⟩, by decide +kernel⟩
theorem kS_df : defs kS = [.null, .int 0] := by decide +kernel
theorem pn0 : plainFor (⟨"java/lang/StringUTF16", "compress", "([CI[BII)I"⟩ : MethodName) = true := by first | (refine plainFor_of_name ?_; simp [plainName, overriddenIn]; done) | (refine plainFor_of_name ?_; decide +kernel) | decide +kernel
def B_rm_cmp5 : Prog := [(0, .iconst 0, 1), (1, .istore 5, 2), (3, .iload 5, 2), (5, .iload 4, 2), (7, .if_icmp .ge 37, 3), (10, .aload_n 0, 1), (11, .iload_n 1, 1), (12, .caload, 1), (13, .istore 6, 2), (15, .iload 6, 2), (17, .sipush 255, 3), (20, .if_icmp .le 6, 3), (26, .aload_n 2, 1), (27, .iload_n 3, 1), (28, .iload 6, 2), (30, .i2b, 1), (31, .bastore, 1), (32, .iinc 1 1, 3), (35, .iinc 3 1, 3), (38, .iinc 5 1, 3), (41, .goto (-38), 3), (44, .iload 4, 2), (46, .ireturn, 1)]
theorem B_rm_cmp5_ok : okB jdk_52_method_21_code B_rm_cmp5 = true := by decide +kernel
set_option maxRecDepth 65536 in
set_option maxHeartbeats 40000000 in
theorem rm_cmp5 (l : Launch) (Z : State) (a0 : Array Value) (hw : ∀ d ∈ tables_1, d.before a0 Z = true) (ca b : Addr) (cs : List Int32) (n : Int32) (hlat : Lat cs) (hn : n.toInt = cs.length) : Ct l Z EL1 nw1 (⟨"java/lang/StringUTF16", "compress", "([CI[BII)I"⟩ : MethodName) jdk_52_method_21_code 7 (some .int) [] ({ frames := 0, cells := 0, slots := 0, locals := 0 } : Room) [.ref ca, .int 0, .ref b, .int 0, .int n] [(ca, true, .inr .char, cs.map Value.int), (b, true, .inr .byte, ([] : List Int32).map bt ++ List.replicate cs.length (.int 0))] (fun v L => v = some (.int n) ∧ L = [(ca, true, .inr .char, cs.map Value.int), (b, true, .inr .byte, cs.map bt)]) := by
  refine ct_of pn0 (B := B_rm_cmp5) (ls := [.val (.ref ca), .val (.int 0), .val (.ref b), .val (.int 0), .val (.int n), .unset, .unset]) B_rm_cmp5_ok (ew1 hw) (fun m => by first | (simp [entryFrame, mkF, argsToLocals, Value.category]; done) | rfl) (fun K C => ?_)
  have rn := rng32 n
  have loop : ∀ (m : Nat) (d r : List Int32) (i : Int32) (s6 : Slot), r.length = m → d ++ r = cs → i.toInt = d.length → (s6 = .unset ∨ ∃ q : Int32, s6 = .val (.int q)) →
      Wp K 0 0 [(ca, true, .inr .char, cs.map Value.int), (b, true, .inr .byte, d.map bt ++ List.replicate r.length (.int 0))] 3 [.val (.ref ca), .val (.int i), .val (.ref b), .val (.int i), .val (.int n), .val (.int i), s6] [] := by
    intro m
    induction m with
    | zero =>
      intro d r i s6 hm hdr hi ho
      obtain rfl := List.length_eq_zero_iff.mp hm
      rw [List.append_nil] at hdr
      subst hdr
      rcases ho with rfl | ⟨q, rfl⟩
      · refine wp_blk C 2 2 (pc' := 7) (ls' := [.val (.ref ca), .val (.int i), .val (.ref b), .val (.int i), .val (.int n), .val (.int i), .unset]) (st' := [.int n, .int i]) rfl ?_
        refine wp_icmp C 4 44 10 rfl rfl rfl (by decide) (fun _ => ?_) (fun h => absurd h (fun q : i.toInt < n.toInt => by omega))
        refine wp_blk C 21 1 (pc' := 46) (ls' := [.val (.ref ca), .val (.int i), .val (.ref b), .val (.int i), .val (.int n), .val (.int i), .unset]) (st' := [.int n]) rfl ?_
        exact wp_retI C 22 rfl (by decide) (by decide) (⟨rfl, by simp⟩)
      · refine wp_blk C 2 2 (pc' := 7) (ls' := [.val (.ref ca), .val (.int i), .val (.ref b), .val (.int i), .val (.int n), .val (.int i), .val (.int q)]) (st' := [.int n, .int i]) rfl ?_
        refine wp_icmp C 4 44 10 rfl rfl rfl (by decide) (fun _ => ?_) (fun h => absurd h (fun q : i.toInt < n.toInt => by omega))
        refine wp_blk C 21 1 (pc' := 46) (ls' := [.val (.ref ca), .val (.int i), .val (.ref b), .val (.int i), .val (.int n), .val (.int i), .val (.int q)]) (st' := [.int n]) rfl ?_
        exact wp_retI C 22 rfl (by decide) (by decide) (⟨rfl, by simp⟩)
    | succ m ih =>
      intro d r i s6 hm hdr hi ho
      obtain ⟨c, r, rfl⟩ : ∃ c r', r = c :: r' := by cases r with | nil => simp at hm | cons c r' => exact ⟨c, r', rfl⟩
      have hm : r.length = m := by simpa using hm
      have hlen : d.length + (r.length + 1) = cs.length := by rw [← hdr]; simp
      have hc := hlat c (by rw [← hdr]; simp)
      subst hdr
      rcases ho with rfl | ⟨q, rfl⟩
      · refine wp_blk C 2 2 (pc' := 7) (ls' := [.val (.ref ca), .val (.int i), .val (.ref b), .val (.int i), .val (.int n), .val (.int i), .unset]) (st' := [.int n, .int i]) rfl ?_
        refine wp_icmp C 4 44 10 rfl rfl rfl (by decide) (fun h => absurd h (fun q : n.toInt ≤ i.toInt => by omega)) (fun _ => ?_)
        refine wp_blk C 5 2 (pc' := 12) (ls' := [.val (.ref ca), .val (.int i), .val (.ref b), .val (.int i), .val (.int n), .val (.int i), .unset]) (st' := [.int i, .ref ca]) rfl ?_
        refine wp_aload C (n := d.length) (v := .int c) 7 13 0 rfl rfl (Or.inr (Or.inr (Or.inl ⟨rfl, rfl⟩))) rfl hi chr_at ?_
        refine wp_blk C 8 3 (pc' := 20) (ls' := [.val (.ref ca), .val (.int i), .val (.ref b), .val (.int i), .val (.int n), .val (.int i), .val (.int c)]) (st' := [.int 255, .int c]) rfl ?_
        refine wp_icmp C 11 26 23 rfl rfl rfl (by decide) (fun _ => ?_) (fun h => absurd h (fun q : (255 : Int32).toInt < c.toInt => by rw [show (255 : Int32).toInt = 255 from rfl] at q; omega))
        refine wp_blk C 12 4 (pc' := 31) (ls' := [.val (.ref ca), .val (.int i), .val (.ref b), .val (.int i), .val (.int n), .val (.int i), .val (.int c)]) (st' := [.int ((c : Int32).toInt8.toInt32), .int i, .ref b]) rfl ?_
        refine wp_stoB C (n := d.length) (vs' := (d ++ [c]).map bt ++ List.replicate r.length (.int 0)) (L' := [(ca, true, .inr .char, ((d ++ c :: r)).map Value.int), (b, true, .inr .byte, (d ++ [c]).map bt ++ List.replicate r.length (.int 0))]) 16 32 1 rfl rfl rfl hi (by simp) (by rw [b8]; exact fill_set) rfl ?_
        refine wp_blk C 17 3 (pc' := 41) (ls' := [.val (.ref ca), .val (.int (i + 1)), .val (.ref b), .val (.int (i + 1)), .val (.int n), .val (.int (i + 1)), .val (.int c)]) (st' := []) rfl ?_
        obtain ⟨i1, hi1⟩ : ∃ z : Int32, z = i + 1 := ⟨_, rfl⟩
        rw [← hi1]
        have Hi1 : i1.toInt = (d.length + 1 : Nat) := by rw [hi1]; exact addI hi one32
        refine wp_blk C 20 1 (pc' := 3) (ls' := [.val (.ref ca), .val (.int i1), .val (.ref b), .val (.int i1), .val (.int n), .val (.int i1), .val (.int c)]) (st' := []) rfl ?_
        have key := ih (d ++ [c]) r i1 (.val (.int c)) hm (by simp) (by rw [Hi1]; simp) (Or.inr ⟨_, rfl⟩)
        exact key
      · refine wp_blk C 2 2 (pc' := 7) (ls' := [.val (.ref ca), .val (.int i), .val (.ref b), .val (.int i), .val (.int n), .val (.int i), .val (.int q)]) (st' := [.int n, .int i]) rfl ?_
        refine wp_icmp C 4 44 10 rfl rfl rfl (by decide) (fun h => absurd h (fun q : n.toInt ≤ i.toInt => by omega)) (fun _ => ?_)
        refine wp_blk C 5 2 (pc' := 12) (ls' := [.val (.ref ca), .val (.int i), .val (.ref b), .val (.int i), .val (.int n), .val (.int i), .val (.int q)]) (st' := [.int i, .ref ca]) rfl ?_
        refine wp_aload C (n := d.length) (v := .int c) 7 13 0 rfl rfl (Or.inr (Or.inr (Or.inl ⟨rfl, rfl⟩))) rfl hi chr_at ?_
        refine wp_blk C 8 3 (pc' := 20) (ls' := [.val (.ref ca), .val (.int i), .val (.ref b), .val (.int i), .val (.int n), .val (.int i), .val (.int c)]) (st' := [.int 255, .int c]) rfl ?_
        refine wp_icmp C 11 26 23 rfl rfl rfl (by decide) (fun _ => ?_) (fun h => absurd h (fun q : (255 : Int32).toInt < c.toInt => by rw [show (255 : Int32).toInt = 255 from rfl] at q; omega))
        refine wp_blk C 12 4 (pc' := 31) (ls' := [.val (.ref ca), .val (.int i), .val (.ref b), .val (.int i), .val (.int n), .val (.int i), .val (.int c)]) (st' := [.int ((c : Int32).toInt8.toInt32), .int i, .ref b]) rfl ?_
        refine wp_stoB C (n := d.length) (vs' := (d ++ [c]).map bt ++ List.replicate r.length (.int 0)) (L' := [(ca, true, .inr .char, ((d ++ c :: r)).map Value.int), (b, true, .inr .byte, (d ++ [c]).map bt ++ List.replicate r.length (.int 0))]) 16 32 1 rfl rfl rfl hi (by simp) (by rw [b8]; exact fill_set) rfl ?_
        refine wp_blk C 17 3 (pc' := 41) (ls' := [.val (.ref ca), .val (.int (i + 1)), .val (.ref b), .val (.int (i + 1)), .val (.int n), .val (.int (i + 1)), .val (.int c)]) (st' := []) rfl ?_
        obtain ⟨i1, hi1⟩ : ∃ z : Int32, z = i + 1 := ⟨_, rfl⟩
        rw [← hi1]
        have Hi1 : i1.toInt = (d.length + 1 : Nat) := by rw [hi1]; exact addI hi one32
        refine wp_blk C 20 1 (pc' := 3) (ls' := [.val (.ref ca), .val (.int i1), .val (.ref b), .val (.int i1), .val (.int n), .val (.int i1), .val (.int c)]) (st' := []) rfl ?_
        have key := ih (d ++ [c]) r i1 (.val (.int c)) hm (by simp) (by rw [Hi1]; simp) (Or.inr ⟨_, rfl⟩)
        exact key
  refine wp_blk C 0 2 (pc' := 3) (ls' := [.val (.ref ca), .val (.int 0), .val (.ref b), .val (.int 0), .val (.int n), .val (.int 0), .unset]) (st' := []) rfl ?_
  exact loop cs.length [] cs 0 _ rfl rfl rfl (Or.inl rfl)
theorem pn1 : plainFor (⟨"java/lang/StringUTF16", "compress", "([CII)[B"⟩ : MethodName) = true := by first | (refine plainFor_of_name ?_; simp [plainName, overriddenIn]; done) | (refine plainFor_of_name ?_; decide +kernel) | decide +kernel
theorem pd0 : parseMethodDescriptor "([CI[BII)I" = some ⟨[(.array .char), .int, (.array .byte), .int, .int], (some .int)⟩ := by decide +kernel
def B_rm_cmp3 : Prog := [(0, .iload_n 2, 1), (1, .newarray .byte, 2), (3, .astore_n 3, 1), (4, .aload_n 0, 1), (5, .iload_n 1, 1), (6, .aload_n 3, 1), (7, .iconst 0, 1), (8, .iload_n 2, 1), (9, .invokestatic 115, 3), (12, .istore 4, 2), (14, .iload 4, 2), (16, .iload_n 2, 1), (17, .if_icmp .eq 40, 3), (57, .aload_n 3, 1), (58, .areturn, 1)]
theorem B_rm_cmp3_ok : okB jdk_52_method_16_code B_rm_cmp3 = true := by decide +kernel
set_option maxRecDepth 65536 in
set_option maxHeartbeats 40000000 in
theorem rm_cmp3 (l : Launch) (Z : State) (a0 : Array Value) (hw : ∀ d ∈ tables_1, d.before a0 Z = true) (ca : Addr) (cs : List Int32) (n : Int32) (hlat : Lat cs) (hn : n.toInt = cs.length) (hcap : cs.length ≤ 16) : Ct l Z EL1 nw1 (⟨"java/lang/StringUTF16", "compress", "([CII)[B"⟩ : MethodName) jdk_52_method_16_code 6 (some (.array .byte)) [] ({ frames := 1, cells := 1, slots := 16, locals := 18 } : Room) [.ref ca, .int 0, .int n] [(ca, true, .inr .char, cs.map Value.int)] (fun v L => ∃ b : Addr, v = some (.ref b) ∧ L = [(ca, true, .inr .char, cs.map Value.int), (b, true, .inr .byte, cs.map bt)]) := by
  refine ct_of pn1 (B := B_rm_cmp3) (ls := [.val (.ref ca), .val (.int 0), .val (.int n), .unset, .unset, .unset]) B_rm_cmp3_ok (ew1 hw) (fun m => by first | (simp [entryFrame, mkF, argsToLocals, Value.category]; done) | rfl) (fun K C => ?_)
  refine wp_blk C 0 1 (pc' := 1) (ls' := [.val (.ref ca), .val (.int 0), .val (.int n), .unset, .unset, .unset]) (st' := [.int n]) rfl ?_
  refine wp_newA C (n := cs.length) (cap := 16) (cells' := 1) (slots' := 16) (vs := List.replicate cs.length (.int 0)) 1 3 rfl rfl (wd hw 30 rfl) hn hcap (by decide) rfl rfl (by decide) (by decide) rfl (fun b => ?_)
  refine wp_blk C 2 6 (pc' := 9) (ls' := [.val (.ref ca), .val (.int 0), .val (.int n), .val (.ref b), .unset, .unset]) (st' := [.int n, .int 0, .ref b, .int 0, .ref ca]) rfl ?_
  refine wp_front C 1 (L' := [(ca, true, .inr .char, cs.map Value.int), (b, true, .inr .byte, List.replicate cs.length (.int 0))]) rfl ?_
  refine wp_static C (al := [.ref ca, .int 0, .ref b, .int 0, .int n]) (rest := []) (L1 := []) (W := 0) (cells' := 1) (slots' := 16) 8 12 (rm_cmp5 l Z a0 hw ca b cs n hlat hn) rfl rfl (wd hw 89 rfl) (wd hw 90 rfl) (wd hw 91 rfl) (wd hw 87 rfl) (by decide) pd0 rfl rfl rfl rfl (by decide) (by decide) rfl rfl rfl (by decide) (by decide) (fun v L' hQ => ?_)
  obtain ⟨rfl, rfl⟩ := hQ
  show Wp K 1 16 [(ca, true, .inr .char, cs.map Value.int), (b, true, .inr .byte, cs.map bt)] 12 [.val (.ref ca), .val (.int 0), .val (.int n), .val (.ref b), .unset, .unset] [.int n]
  refine wp_blk C 9 3 (pc' := 17) (ls' := [.val (.ref ca), .val (.int 0), .val (.int n), .val (.ref b), .val (.int n), .unset]) (st' := [.int n, .int n]) rfl ?_
  refine wp_icmp C 12 57 20 rfl rfl rfl (by decide) (fun _ => ?_) (fun h => absurd h (fun q : n ≠ n => q rfl))
  refine wp_blk C 13 1 (pc' := 58) (ls' := [.val (.ref ca), .val (.int 0), .val (.int n), .val (.ref b), .val (.int n), .unset]) (st' := [.ref b]) rfl ?_
  exact wp_retA C 14 rfl rfl rfl (by decide) (by decide) (⟨b, rfl, rfl⟩)
theorem pn2 : plainFor (⟨"java/lang/StringUTF16", "coderFromArrayLen", "([BI)B"⟩ : MethodName) = true := by first | (refine plainFor_of_name ?_; simp [plainName, overriddenIn]; done) | (refine plainFor_of_name ?_; decide +kernel) | decide +kernel
def B_rm_cod : Prog := [(0, .iload_n 1, 1), (1, .aload_n 0, 1), (2, .arraylength, 1), (3, .isub, 1), (4, .bipush 31, 2), (6, .iushr, 1), (7, .i2b, 1), (8, .ireturn, 1)]
theorem B_rm_cod_ok : okB jdk_52_method_15_code B_rm_cod = true := by decide +kernel
set_option maxRecDepth 65536 in
set_option maxHeartbeats 40000000 in
theorem rm_cod (l : Launch) (Z : State) (a0 : Array Value) (hw : ∀ d ∈ tables_1, d.before a0 Z = true) (b : Addr) (cs : List Int32) (n : Int32) (hn : n.toInt = cs.length) : Ct l Z EL1 nw1 (⟨"java/lang/StringUTF16", "coderFromArrayLen", "([BI)B"⟩ : MethodName) jdk_52_method_15_code 2 (some .byte) [] ({ frames := 0, cells := 0, slots := 0, locals := 0 } : Room) [.ref b, .int n] [(b, true, .inr .byte, cs.map bt)] (fun v L => v = some (.int 0) ∧ L = [(b, true, .inr .byte, cs.map bt)]) := by
  refine ct_of pn2 (B := B_rm_cod) (ls := [.val (.ref b), .val (.int n)]) B_rm_cod_ok (ew1 hw) (fun m => by first | (simp [entryFrame, mkF, argsToLocals, Value.category]; done) | rfl) (fun K C => ?_)
  refine wp_blk C 0 2 (pc' := 2) (ls' := [.val (.ref b), .val (.int n)]) (st' := [.ref b, .int n]) rfl ?_
  refine wp_len C (z := n) 2 3 0 rfl rfl rfl (by rw [List.length_map]; exact len32 hn) ?_
  refine wp_blk C 3 4 (pc' := 8) (ls' := [.val (.ref b), .val (.int n)]) (st' := [.int ((ush (n - n) 31 : Int32).toInt8.toInt32)]) rfl ?_
  exact wp_retN C 7 rfl (Or.inr (Or.inl rfl)) (coder0 n) (by decide) (by decide) (⟨rfl, rfl⟩)
theorem pn3 : plainFor (⟨"java/lang/String", "<init>", "([CIILjava/lang/Void;)V"⟩ : MethodName) = true := by first | (refine plainFor_of_name ?_; simp [plainName, overriddenIn]; done) | (refine plainFor_of_name ?_; decide +kernel) | decide +kernel
theorem pd1 : parseMethodDescriptor "([CII)[B" = some ⟨[(.array .char), .int, .int], (some (.array .byte))⟩ := by decide +kernel
theorem pd2 : parseMethodDescriptor "([BI)B" = some ⟨[(.array .byte), .int], (some .byte)⟩ := by decide +kernel
theorem fd0 : parseFieldDescriptor "B" = some .byte := by decide +kernel
theorem fd1 : parseFieldDescriptor "[B" = some (.array .byte) := by decide +kernel
def B_rm_ct4 : Prog := [(0, .aload_n 0, 1), (1, .invokespecial 1, 3), (4, .iload_n 3, 1), (5, .ifCond .ne 22, 3), (27, .getstatic 38, 3), (30, .ifCond .eq 28, 3), (33, .aload_n 1, 1), (34, .iload_n 2, 1), (35, .iload_n 3, 1), (36, .invokestatic 177, 3), (39, .astore 5, 2), (41, .aload_n 0, 1), (42, .aload 5, 2), (44, .iload_n 3, 1), (45, .invokestatic 47, 3), (48, .putfield 15, 3), (51, .aload_n 0, 1), (52, .aload 5, 2), (54, .putfield 9, 3), (57, .return_, 1)]
theorem B_rm_ct4_ok : okB jdk_42_method_149_code B_rm_ct4 = true := by decide +kernel
set_option maxRecDepth 65536 in
set_option maxHeartbeats 40000000 in
theorem rm_ct4 (l : Launch) (Z : State) (a0 : Array Value) (hw : ∀ d ∈ tables_1, d.before a0 Z = true) (sa ca : Addr) (cs : List Int32) (n : Int32) (cz : Int32) (S1 : Sta Z Z.heap "java/lang/String" "COMPACT_STRINGS" "Z" (.int cz)) (hcz : cz ≠ 0) (hlat : Lat cs) (hn : n.toInt = cs.length) (h0 : 0 < cs.length) (hcap : cs.length ≤ 16) : Ct l Z EL1 nw1 (⟨"java/lang/String", "<init>", "([CIILjava/lang/Void;)V"⟩ : MethodName) jdk_42_method_149_code 6 none [] ({ frames := 2, cells := 1, slots := 16, locals := 36 } : Room) [.ref sa, .ref ca, .int 0, .int n, .null] [(sa, true, .inl kS, [.null, .int 0]), (ca, true, .inr .char, cs.map Value.int)] (fun v L => v = none ∧ ∃ b : Addr, L = [(sa, true, .inl kS, [.ref b, .int 0]), (b, true, .inr .byte, cs.map bt), (ca, true, .inr .char, cs.map Value.int)]) := by
  refine ct_of pn3 (B := B_rm_ct4) (ls := [.val (.ref sa), .val (.ref ca), .val (.int 0), .val (.int n), .val (.null), .unset]) B_rm_ct4_ok (ew1 hw) (fun m => by first | (simp [entryFrame, mkF, argsToLocals, Value.category]; done) | rfl) (fun K C => ?_)
  refine wp_blk C 0 1 (pc' := 1) (ls' := [.val (.ref sa), .val (.ref ca), .val (.int 0), .val (.int n), .val (.null), .unset]) (st' := [.ref sa]) rfl ?_
  refine wp_initO C (W := 0) 1 4 rfl rfl (wd hw 35 rfl) (wd hw 36 rfl) (wd hw 37 rfl) (by decide) rfl (by decide) rfl ?_
  refine wp_blk C 2 1 (pc' := 5) (ls' := [.val (.ref sa), .val (.ref ca), .val (.int 0), .val (.int n), .val (.null), .unset]) (st' := [.int n]) rfl ?_
  refine wp_ifz C 3 27 8 rfl rfl rfl (by decide) (fun _ => ?_) (fun h => absurd h (fun q : n = 0 => by rw [q, zero32] at hn; omega))
  refine wp_getS C 4 30 rfl rfl (wd hw 20 rfl) Via.refl S1 ?_
  refine wp_ifz C 5 58 33 rfl rfl rfl (by decide) (fun h => absurd h (hcz)) (fun _ => ?_)
  refine wp_blk C 6 3 (pc' := 36) (ls' := [.val (.ref sa), .val (.ref ca), .val (.int 0), .val (.int n), .val (.null), .unset]) (st' := [.int n, .int 0, .ref ca]) rfl ?_
  refine wp_front C 1 (L' := [(ca, true, .inr .char, cs.map Value.int), (sa, true, .inl kS, [.null, .int 0])]) rfl ?_
  refine wp_static C (al := [.ref ca, .int 0, .int n]) (rest := []) (L1 := [(sa, true, .inl kS, [.null, .int 0])]) (W := 0) (cells' := 1) (slots' := 16) 9 39 (rm_cmp3 l Z a0 hw ca cs n hlat hn hcap) rfl rfl (wd hw 85 rfl) (wd hw 86 rfl) (wd hw 88 rfl) (wd hw 87 rfl) (by decide) pd1 rfl rfl rfl rfl (by decide) (by decide) rfl rfl rfl (by decide) (by decide) (fun v L' hQ => ?_)
  obtain ⟨b, rfl, rfl⟩ := hQ
  show Wp K 1 16 [(ca, true, .inr .char, cs.map Value.int), (b, true, .inr .byte, cs.map bt), (sa, true, .inl kS, [.null, .int 0])] 39 [.val (.ref sa), .val (.ref ca), .val (.int 0), .val (.int n), .val (.null), .unset] [.ref b]
  refine wp_blk C 10 4 (pc' := 45) (ls' := [.val (.ref sa), .val (.ref ca), .val (.int 0), .val (.int n), .val (.null), .val (.ref b)]) (st' := [.int n, .ref b, .ref sa]) rfl ?_
  refine wp_front C 1 (L' := [(b, true, .inr .byte, cs.map bt), (ca, true, .inr .char, cs.map Value.int), (sa, true, .inl kS, [.null, .int 0])]) rfl ?_
  refine wp_static C (al := [.ref b, .int n]) (rest := [.ref sa]) (L1 := [(ca, true, .inr .char, cs.map Value.int), (sa, true, .inl kS, [.null, .int 0])]) (W := 1) (cells' := 1) (slots' := 16) 14 48 (rm_cod l Z a0 hw b cs n hn) rfl rfl (wd hw 92 rfl) (wd hw 93 rfl) (wd hw 94 rfl) (wd hw 87 rfl) (by decide) pd2 rfl rfl rfl rfl (by decide) (by decide) rfl rfl rfl (by decide) (by decide) (fun v L' hQ => ?_)
  obtain ⟨rfl, rfl⟩ := hQ
  show Wp K 1 16 [(b, true, .inr .byte, cs.map bt), (ca, true, .inr .char, cs.map Value.int), (sa, true, .inl kS, [.null, .int 0])] 48 [.val (.ref sa), .val (.ref ca), .val (.int 0), .val (.int n), .val (.null), .val (.ref b)] [.int 0, .ref sa]
  refine wp_put C (ty := .byte) (v := .int 0) (vs' := [.null, .int 0]) (L' := [(b, true, .inr .byte, cs.map bt), (ca, true, .inr .char, cs.map Value.int), (sa, true, .inl kS, [.null, .int 0])]) 15 51 2 1 rfl rfl (wd hw 40 rfl) Via.refl (Or.inr ⟨wd hw 41 rfl, rfl, rfl⟩) (wd hw 26 rfl) (kS_ok hw) fd0 rfl rfl rfl rfl rfl rfl rfl ?_
  refine wp_blk C 16 2 (pc' := 54) (ls' := [.val (.ref sa), .val (.ref ca), .val (.int 0), .val (.int n), .val (.null), .val (.ref b)]) (st' := [.ref b, .ref sa]) rfl ?_
  refine wp_put C (ty := (.array .byte)) (v := .ref b) (vs' := [.ref b, .int 0]) (L' := [(b, true, .inr .byte, cs.map bt), (ca, true, .inr .char, cs.map Value.int), (sa, true, .inl kS, [.ref b, .int 0])]) 18 57 2 0 rfl rfl (wd hw 38 rfl) Via.refl (Or.inr ⟨wd hw 39 rfl, rfl, rfl⟩) (wd hw 26 rfl) (kS_ok hw) fd1 rfl rfl rfl rfl rfl rfl rfl ?_
  refine wp_front C 1 (L' := [(ca, true, .inr .char, cs.map Value.int), (b, true, .inr .byte, cs.map bt), (sa, true, .inl kS, [.ref b, .int 0])]) rfl ?_
  refine wp_front C 1 (L' := [(b, true, .inr .byte, cs.map bt), (ca, true, .inr .char, cs.map Value.int), (sa, true, .inl kS, [.ref b, .int 0])]) rfl ?_
  refine wp_front C 2 (L' := [(sa, true, .inl kS, [.ref b, .int 0]), (b, true, .inr .byte, cs.map bt), (ca, true, .inr .char, cs.map Value.int)]) rfl ?_
  exact wp_ret0 C 19 rfl (by decide) (by decide) (⟨rfl, b, rfl⟩)
theorem pn4 : plainFor (⟨"java/lang/String", "<init>", "([C)V"⟩ : MethodName) = true := by first | (refine plainFor_of_name ?_; simp [plainName, overriddenIn]; done) | (refine plainFor_of_name ?_; decide +kernel) | decide +kernel
theorem pd3 : parseMethodDescriptor "([CIILjava/lang/Void;)V" = some ⟨[(.array .char), .int, .int, (.object "java/lang/Void")], none⟩ := by decide +kernel
def B_rm_str : Prog := [(0, .aload_n 0, 1), (1, .aload_n 1, 1), (2, .iconst 0, 1), (3, .aload_n 1, 1), (4, .arraylength, 1), (5, .aconst_null, 1), (6, .invokespecial 27, 3), (9, .return_, 1)]
theorem B_rm_str_ok : okB jdk_42_method_3_code B_rm_str = true := by decide +kernel
set_option maxRecDepth 65536 in
set_option maxHeartbeats 40000000 in
theorem rm_str (l : Launch) (Z : State) (a0 : Array Value) (hw : ∀ d ∈ tables_1, d.before a0 Z = true) (sa ca : Addr) (cs : List Int32) (cz : Int32) (S1 : Sta Z Z.heap "java/lang/String" "COMPACT_STRINGS" "Z" (.int cz)) (hcz : cz ≠ 0) (hlat : Lat cs) (h0 : 0 < cs.length) (hcap : cs.length ≤ 16) : Ct l Z EL1 nw1 (⟨"java/lang/String", "<init>", "([C)V"⟩ : MethodName) jdk_42_method_3_code 2 none [] ({ frames := 3, cells := 1, slots := 16, locals := 53 } : Room) [.ref sa, .ref ca] [(sa, true, .inl kS, [.null, .int 0]), (ca, true, .inr .char, cs.map Value.int)] (fun v L => v = none ∧ ∃ b : Addr, L = [(sa, true, .inl kS, [.ref b, .int 0]), (b, true, .inr .byte, cs.map bt), (ca, true, .inr .char, cs.map Value.int)]) := by
  refine ct_of pn4 (B := B_rm_str) (ls := [.val (.ref sa), .val (.ref ca)]) B_rm_str_ok (ew1 hw) (fun m => by first | (simp [entryFrame, mkF, argsToLocals, Value.category]; done) | rfl) (fun K C => ?_)
  refine wp_blk C 0 4 (pc' := 4) (ls' := [.val (.ref sa), .val (.ref ca)]) (st' := [.ref ca, .int 0, .ref ca, .ref sa]) rfl ?_
  obtain ⟨n, hnn⟩ : ∃ n : Int32, cs.length.toInt32 = n := ⟨_, rfl⟩
  have hn : n.toInt = cs.length := by rw [← hnn]; exact len_toInt (by omega)
  refine wp_len C (z := n) 4 5 1 rfl rfl rfl (by rw [List.length_map]; exact hnn) ?_
  refine wp_blk C 5 1 (pc' := 6) (ls' := [.val (.ref sa), .val (.ref ca)]) (st' := [.null, .int n, .int 0, .ref ca, .ref sa]) rfl ?_
  refine wp_init C (al := [.ref ca, .int 0, .int n, .null]) (rest := []) (L1 := []) (W := 0) (cells' := 1) (slots' := 16) 6 9 (rm_ct4 l Z a0 hw sa ca cs n cz S1 hcz hlat hn h0 hcap) rfl rfl (wd hw 82 rfl) (wd hw 83 rfl) (wd hw 84 rfl) (wd hw 18 rfl) rfl (by decide) pd3 rfl rfl rfl rfl (by decide) (by decide) rfl rfl rfl (by decide) (by decide) (fun v L' hQ => ?_)
  obtain ⟨rfl, b, rfl⟩ := hQ
  show Wp K 1 16 [(sa, true, .inl kS, [.ref b, .int 0]), (b, true, .inr .byte, cs.map bt), (ca, true, .inr .char, cs.map Value.int)] 9 [.val (.ref sa), .val (.ref ca)] []
  exact wp_ret0 C 7 rfl (by decide) (by decide) (⟨rfl, b, rfl⟩)
theorem pn5 : plainFor (⟨"java/lang/StringLatin1", "equals", "([B[B)Z"⟩ : MethodName) = true := by first | (refine plainFor_of_name ?_; simp [plainName, overriddenIn]; done) | (refine plainFor_of_name ?_; decide +kernel) | decide +kernel
def B_rm_leq1 : Prog := [(0, .aload_n 0, 1), (1, .arraylength, 1), (2, .aload_n 1, 1), (3, .arraylength, 1), (4, .if_icmp .ne 30, 3), (7, .iconst 0, 1), (8, .istore_n 2, 1), (9, .iload_n 2, 1), (10, .aload_n 0, 1), (11, .arraylength, 1), (12, .if_icmp .ge 20, 3), (15, .aload_n 0, 1), (16, .iload_n 2, 1), (17, .baload, 1), (18, .aload_n 1, 1), (19, .iload_n 2, 1), (20, .baload, 1), (21, .if_icmp .eq 5, 3), (24, .iconst 0, 1), (25, .ireturn, 1), (26, .iinc 2 1, 3), (29, .goto (-20), 3), (32, .iconst 1, 1), (33, .ireturn, 1), (34, .iconst 0, 1), (35, .ireturn, 1)]
theorem B_rm_leq1_ok : okB jdk_43_method_13_code B_rm_leq1 = true := by decide +kernel
set_option maxRecDepth 65536 in
set_option maxHeartbeats 40000000 in
theorem rm_leq1 (l : Launch) (Z : State) (a0 : Array Value) (hw : ∀ d ∈ tables_1, d.before a0 Z = true) (b e : Addr) (cs ds : List Int32) (hlc : Lat cs) (hld : Lat ds) (hc31 : cs.length < 2 ^ 31) (hd31 : ds.length < 2 ^ 31) : Ct l Z EL1 nw1 (⟨"java/lang/StringLatin1", "equals", "([B[B)Z"⟩ : MethodName) jdk_43_method_13_code 3 (some .boolean) [] ({ frames := 0, cells := 0, slots := 0, locals := 0 } : Room) [.ref b, .ref e] [(b, true, .inr .byte, cs.map bt), (e, true, .inr .byte, ds.map bt)] (fun v L => v = some (.int (if cs = ds then 1 else 0)) ∧ L = [(b, true, .inr .byte, cs.map bt), (e, true, .inr .byte, ds.map bt)]) := by
  refine ct_of pn5 (B := B_rm_leq1) (ls := [.val (.ref b), .val (.ref e), .unset]) B_rm_leq1_ok (ew1 hw) (fun m => by first | (simp [entryFrame, mkF, argsToLocals, Value.category]; done) | rfl) (fun K C => ?_)
  have hc1 : (cs.length.toInt32).toInt = cs.length := len_toInt (by omega)
  have hd1 : (ds.length.toInt32).toInt = ds.length := len_toInt (by omega)
  generalize hn1 : cs.length.toInt32 = n at *
  generalize hn2 : ds.length.toInt32 = n2 at *
  have loop : cs.length = ds.length → ∀ (m : Nat) (d r1 r2 : List Int32) (i : Int32), r1.length = m → d ++ r1 = cs → d ++ r2 = ds → i.toInt = d.length → Wp K 0 0 [(b, true, .inr .byte, cs.map bt), (e, true, .inr .byte, ds.map bt)] 9 [.val (.ref b), .val (.ref e), .val (.int i)] [] := by
    intro hll m
    induction m with
    | zero =>
      intro d r1 r2 i hm h1 h2 hi
      obtain rfl := List.length_eq_zero_iff.mp hm
      rw [List.append_nil] at h1
      subst h1
      obtain rfl : r2 = [] := by have := congrArg List.length h2; simp at this; exact List.length_eq_zero_iff.mp (by omega)
      rw [List.append_nil] at h2
      subst h2
      refine wp_blk C 7 2 (pc' := 11) (ls' := [.val (.ref b), .val (.ref e), .val (.int i)]) (st' := [.ref b, .int i]) rfl ?_
      refine wp_len C (z := n) 9 12 0 rfl rfl rfl (by rw [List.length_map]; exact hn1) ?_
      refine wp_icmp C 10 32 15 rfl rfl rfl (by decide) (fun _ => ?_) (fun h => absurd h (fun q : i.toInt < n.toInt => by omega))
      refine wp_blk C 22 1 (pc' := 33) (ls' := [.val (.ref b), .val (.ref e), .val (.int i)]) (st' := [.int 1]) rfl ?_
      exact wp_retN C (z' := 1) 23 rfl (Or.inl rfl) rfl (by decide) (by decide) (⟨by rw [if_pos rfl], rfl⟩)
    | succ m ih =>
      intro d r1 r2 i hm h1 h2 hi
      obtain ⟨x, r1, rfl⟩ : ∃ x r, r1 = x :: r := by cases r1 with | nil => simp at hm | cons x r => exact ⟨x, r, rfl⟩
      have hm : r1.length = m := by simpa using hm
      obtain ⟨z, r2, rfl⟩ : ∃ z r, r2 = z :: r := by cases r2 with | nil => (exfalso; have a := congrArg List.length h1; have b := congrArg List.length h2; simp at a b; omega) | cons z r => exact ⟨z, r, rfl⟩
      have hx := hlc x (by rw [← h1]; simp)
      have hz := hld z (by rw [← h2]; simp)
      have hlen : d.length + (r1.length + 1) = cs.length := by rw [← h1]; simp
      refine wp_blk C 7 2 (pc' := 11) (ls' := [.val (.ref b), .val (.ref e), .val (.int i)]) (st' := [.ref b, .int i]) rfl ?_
      refine wp_len C (z := n) 9 12 0 rfl rfl rfl (by rw [List.length_map]; exact hn1) ?_
      refine wp_icmp C 10 32 15 rfl rfl rfl (by decide) (fun h => absurd h (fun q : n.toInt ≤ i.toInt => by omega)) (fun _ => ?_)
      refine wp_blk C 11 2 (pc' := 17) (ls' := [.val (.ref b), .val (.ref e), .val (.int i)]) (st' := [.int i, .ref b]) rfl ?_
      refine wp_aload C (n := d.length) (v := .int x.toInt8.toInt32) 13 18 0 rfl rfl (Or.inr (Or.inr (Or.inr (Or.inl ⟨rfl, rfl⟩)))) rfl hi (by rw [← h1]; simp) ?_
      refine wp_blk C 14 2 (pc' := 20) (ls' := [.val (.ref b), .val (.ref e), .val (.int i)]) (st' := [.int i, .ref e, .int x.toInt8.toInt32]) rfl ?_
      refine wp_aload C (n := d.length) (v := .int z.toInt8.toInt32) 16 21 1 rfl rfl (Or.inr (Or.inr (Or.inr (Or.inl ⟨rfl, rfl⟩)))) rfl hi (by rw [← h2]; simp) ?_
      refine wp_icmp C 17 26 24 rfl rfl rfl (by decide) (fun (hq : (x.toInt8.toInt32 : Int32) = z.toInt8.toInt32) => ?_) (fun (hq : (x.toInt8.toInt32 : Int32) ≠ z.toInt8.toInt32) => ?_)
      · obtain rfl := bt_inj hx hz hq
        refine wp_blk C 20 1 (pc' := 29) (ls' := [.val (.ref b), .val (.ref e), .val (.int (i + 1))]) (st' := []) rfl ?_
        obtain ⟨i1, hi1⟩ : ∃ z : Int32, z = i + 1 := ⟨_, rfl⟩
        rw [← hi1]
        have Hi1 : i1.toInt = (d.length + 1 : Nat) := by rw [hi1]; exact addI hi one32
        refine wp_blk C 21 1 (pc' := 9) (ls' := [.val (.ref b), .val (.ref e), .val (.int i1)]) (st' := []) rfl ?_
        exact ih (d ++ [x]) r1 r2 i1 hm (by rw [← h1]; simp) (by rw [← h2]; simp) (by rw [Hi1]; simp)
      · refine wp_blk C 18 1 (pc' := 25) (ls' := [.val (.ref b), .val (.ref e), .val (.int i)]) (st' := [.int 0]) rfl ?_
        exact wp_retN C (z' := 0) 19 rfl (Or.inl rfl) rfl (by decide) (by decide) (⟨by rw [if_neg (fun q => hq (by rw [← h1, ← h2] at q; have := List.append_cancel_left q; simp at this; rw [this.1]))], rfl⟩)
  refine wp_blk C 0 1 (pc' := 1) (ls' := [.val (.ref b), .val (.ref e), .unset]) (st' := [.ref b]) rfl ?_
  refine wp_len C (z := n) 1 2 0 rfl rfl rfl (by rw [List.length_map]; exact hn1) ?_
  refine wp_blk C 2 1 (pc' := 3) (ls' := [.val (.ref b), .val (.ref e), .unset]) (st' := [.ref e, .int n]) rfl ?_
  refine wp_len C (z := n2) 3 4 1 rfl rfl rfl (by rw [List.length_map]; exact hn2) ?_
  refine wp_icmp C 4 34 7 rfl rfl rfl (by decide) (fun (hq : (n : Int32) ≠ n2) => ?_) (fun (hq : (n : Int32) = n2) => ?_)
  · refine wp_blk C 24 1 (pc' := 35) (ls' := [.val (.ref b), .val (.ref e), .unset]) (st' := [.int 0]) rfl ?_
    exact wp_retN C (z' := 0) 25 rfl (Or.inl rfl) rfl (by decide) (by decide) (⟨by rw [if_neg (fun q => hq (by rw [← hn1, ← hn2, q]))], rfl⟩)
  · refine wp_blk C 5 2 (pc' := 9) (ls' := [.val (.ref b), .val (.ref e), .val (.int 0)]) (st' := []) rfl ?_
    exact loop (by rw [hq] at hc1; omega) cs.length [] cs ds 0 rfl rfl rfl rfl
def B_rm_leq0 : Prog := [(0, .aload_n 0, 1), (1, .arraylength, 1), (2, .aload_n 1, 1), (3, .arraylength, 1), (4, .if_icmp .ne 30, 3), (7, .iconst 0, 1), (8, .istore_n 2, 1), (9, .iload_n 2, 1), (10, .aload_n 0, 1), (11, .arraylength, 1), (12, .if_icmp .ge 20, 3), (15, .aload_n 0, 1), (16, .iload_n 2, 1), (17, .baload, 1), (18, .aload_n 1, 1), (19, .iload_n 2, 1), (20, .baload, 1), (21, .if_icmp .eq 5, 3), (24, .iconst 0, 1), (25, .ireturn, 1), (26, .iinc 2 1, 3), (29, .goto (-20), 3), (32, .iconst 1, 1), (33, .ireturn, 1), (34, .iconst 0, 1), (35, .ireturn, 1)]
theorem B_rm_leq0_ok : okB jdk_43_method_13_code B_rm_leq0 = true := by decide +kernel
set_option maxRecDepth 65536 in
set_option maxHeartbeats 40000000 in
theorem rm_leq0 (l : Launch) (Z : State) (a0 : Array Value) (hw : ∀ d ∈ tables_1, d.before a0 Z = true) (b e : Addr) (cs ds : List Int32) (hlc : Lat cs) (hld : Lat ds) (hc31 : cs.length < 2 ^ 31) (hd31 : ds.length < 2 ^ 31) : Ct l Z EL1 nw1 (⟨"java/lang/StringLatin1", "equals", "([B[B)Z"⟩ : MethodName) jdk_43_method_13_code 3 (some .boolean) [] ({ frames := 0, cells := 0, slots := 0, locals := 0 } : Room) [.ref b, .ref e] [(b, true, .inr .byte, cs.map bt), (e, false, .inr .byte, ds.map bt)] (fun v L => v = some (.int (if cs = ds then 1 else 0)) ∧ L = [(b, true, .inr .byte, cs.map bt), (e, false, .inr .byte, ds.map bt)]) := by
  refine ct_of pn5 (B := B_rm_leq0) (ls := [.val (.ref b), .val (.ref e), .unset]) B_rm_leq0_ok (ew1 hw) (fun m => by first | (simp [entryFrame, mkF, argsToLocals, Value.category]; done) | rfl) (fun K C => ?_)
  have hc1 : (cs.length.toInt32).toInt = cs.length := len_toInt (by omega)
  have hd1 : (ds.length.toInt32).toInt = ds.length := len_toInt (by omega)
  generalize hn1 : cs.length.toInt32 = n at *
  generalize hn2 : ds.length.toInt32 = n2 at *
  have loop : cs.length = ds.length → ∀ (m : Nat) (d r1 r2 : List Int32) (i : Int32), r1.length = m → d ++ r1 = cs → d ++ r2 = ds → i.toInt = d.length → Wp K 0 0 [(b, true, .inr .byte, cs.map bt), (e, false, .inr .byte, ds.map bt)] 9 [.val (.ref b), .val (.ref e), .val (.int i)] [] := by
    intro hll m
    induction m with
    | zero =>
      intro d r1 r2 i hm h1 h2 hi
      obtain rfl := List.length_eq_zero_iff.mp hm
      rw [List.append_nil] at h1
      subst h1
      obtain rfl : r2 = [] := by have := congrArg List.length h2; simp at this; exact List.length_eq_zero_iff.mp (by omega)
      rw [List.append_nil] at h2
      subst h2
      refine wp_blk C 7 2 (pc' := 11) (ls' := [.val (.ref b), .val (.ref e), .val (.int i)]) (st' := [.ref b, .int i]) rfl ?_
      refine wp_len C (z := n) 9 12 0 rfl rfl rfl (by rw [List.length_map]; exact hn1) ?_
      refine wp_icmp C 10 32 15 rfl rfl rfl (by decide) (fun _ => ?_) (fun h => absurd h (fun q : i.toInt < n.toInt => by omega))
      refine wp_blk C 22 1 (pc' := 33) (ls' := [.val (.ref b), .val (.ref e), .val (.int i)]) (st' := [.int 1]) rfl ?_
      exact wp_retN C (z' := 1) 23 rfl (Or.inl rfl) rfl (by decide) (by decide) (⟨by rw [if_pos rfl], rfl⟩)
    | succ m ih =>
      intro d r1 r2 i hm h1 h2 hi
      obtain ⟨x, r1, rfl⟩ : ∃ x r, r1 = x :: r := by cases r1 with | nil => simp at hm | cons x r => exact ⟨x, r, rfl⟩
      have hm : r1.length = m := by simpa using hm
      obtain ⟨z, r2, rfl⟩ : ∃ z r, r2 = z :: r := by cases r2 with | nil => (exfalso; have a := congrArg List.length h1; have b := congrArg List.length h2; simp at a b; omega) | cons z r => exact ⟨z, r, rfl⟩
      have hx := hlc x (by rw [← h1]; simp)
      have hz := hld z (by rw [← h2]; simp)
      have hlen : d.length + (r1.length + 1) = cs.length := by rw [← h1]; simp
      refine wp_blk C 7 2 (pc' := 11) (ls' := [.val (.ref b), .val (.ref e), .val (.int i)]) (st' := [.ref b, .int i]) rfl ?_
      refine wp_len C (z := n) 9 12 0 rfl rfl rfl (by rw [List.length_map]; exact hn1) ?_
      refine wp_icmp C 10 32 15 rfl rfl rfl (by decide) (fun h => absurd h (fun q : n.toInt ≤ i.toInt => by omega)) (fun _ => ?_)
      refine wp_blk C 11 2 (pc' := 17) (ls' := [.val (.ref b), .val (.ref e), .val (.int i)]) (st' := [.int i, .ref b]) rfl ?_
      refine wp_aload C (n := d.length) (v := .int x.toInt8.toInt32) 13 18 0 rfl rfl (Or.inr (Or.inr (Or.inr (Or.inl ⟨rfl, rfl⟩)))) rfl hi (by rw [← h1]; simp) ?_
      refine wp_blk C 14 2 (pc' := 20) (ls' := [.val (.ref b), .val (.ref e), .val (.int i)]) (st' := [.int i, .ref e, .int x.toInt8.toInt32]) rfl ?_
      refine wp_aload C (n := d.length) (v := .int z.toInt8.toInt32) 16 21 1 rfl rfl (Or.inr (Or.inr (Or.inr (Or.inl ⟨rfl, rfl⟩)))) rfl hi (by rw [← h2]; simp) ?_
      refine wp_icmp C 17 26 24 rfl rfl rfl (by decide) (fun (hq : (x.toInt8.toInt32 : Int32) = z.toInt8.toInt32) => ?_) (fun (hq : (x.toInt8.toInt32 : Int32) ≠ z.toInt8.toInt32) => ?_)
      · obtain rfl := bt_inj hx hz hq
        refine wp_blk C 20 1 (pc' := 29) (ls' := [.val (.ref b), .val (.ref e), .val (.int (i + 1))]) (st' := []) rfl ?_
        obtain ⟨i1, hi1⟩ : ∃ z : Int32, z = i + 1 := ⟨_, rfl⟩
        rw [← hi1]
        have Hi1 : i1.toInt = (d.length + 1 : Nat) := by rw [hi1]; exact addI hi one32
        refine wp_blk C 21 1 (pc' := 9) (ls' := [.val (.ref b), .val (.ref e), .val (.int i1)]) (st' := []) rfl ?_
        exact ih (d ++ [x]) r1 r2 i1 hm (by rw [← h1]; simp) (by rw [← h2]; simp) (by rw [Hi1]; simp)
      · refine wp_blk C 18 1 (pc' := 25) (ls' := [.val (.ref b), .val (.ref e), .val (.int i)]) (st' := [.int 0]) rfl ?_
        exact wp_retN C (z' := 0) 19 rfl (Or.inl rfl) rfl (by decide) (by decide) (⟨by rw [if_neg (fun q => hq (by rw [← h1, ← h2] at q; have := List.append_cancel_left q; simp at this; rw [this.1]))], rfl⟩)
  refine wp_blk C 0 1 (pc' := 1) (ls' := [.val (.ref b), .val (.ref e), .unset]) (st' := [.ref b]) rfl ?_
  refine wp_len C (z := n) 1 2 0 rfl rfl rfl (by rw [List.length_map]; exact hn1) ?_
  refine wp_blk C 2 1 (pc' := 3) (ls' := [.val (.ref b), .val (.ref e), .unset]) (st' := [.ref e, .int n]) rfl ?_
  refine wp_len C (z := n2) 3 4 1 rfl rfl rfl (by rw [List.length_map]; exact hn2) ?_
  refine wp_icmp C 4 34 7 rfl rfl rfl (by decide) (fun (hq : (n : Int32) ≠ n2) => ?_) (fun (hq : (n : Int32) = n2) => ?_)
  · refine wp_blk C 24 1 (pc' := 35) (ls' := [.val (.ref b), .val (.ref e), .unset]) (st' := [.int 0]) rfl ?_
    exact wp_retN C (z' := 0) 25 rfl (Or.inl rfl) rfl (by decide) (by decide) (⟨by rw [if_neg (fun q => hq (by rw [← hn1, ← hn2, q]))], rfl⟩)
  · refine wp_blk C 5 2 (pc' := 9) (ls' := [.val (.ref b), .val (.ref e), .val (.int 0)]) (st' := []) rfl ?_
    exact loop (by rw [hq] at hc1; omega) cs.length [] cs ds 0 rfl rfl rfl rfl
theorem pn6 : plainFor (⟨"java/lang/String", "equals", "(Ljava/lang/Object;)Z"⟩ : MethodName) = true := by first | (refine plainFor_of_name ?_; simp [plainName, overriddenIn]; done) | (refine plainFor_of_name ?_; decide +kernel) | decide +kernel
theorem pd4 : parseMethodDescriptor "([B[B)Z" = some ⟨[(.array .byte), (.array .byte)], (some .boolean)⟩ := by decide +kernel
def B_rm_eq1 : Prog := [(0, .aload_n 0, 1), (1, .aload_n 1, 1), (2, .if_acmp .ne 5, 3), (7, .aload_n 1, 1), (8, .instanceof 10, 3), (11, .ifCond .eq 43, 3), (14, .aload_n 1, 1), (15, .checkcast 10, 3), (18, .astore_n 2, 1), (19, .getstatic 38, 3), (22, .ifCond .eq 14, 3), (25, .aload_n 0, 1), (26, .getfield 15, 3), (29, .aload_n 2, 1), (30, .getfield 15, 3), (33, .if_icmp .ne 21, 3), (36, .aload_n 0, 1), (37, .getfield 9, 3), (40, .aload_n 2, 1), (41, .getfield 9, 3), (44, .invokestatic 541, 3), (47, .ifCond .eq 7, 3), (50, .iconst 1, 1), (51, .goto 4, 3), (54, .iconst 0, 1), (55, .ireturn, 1)]
theorem B_rm_eq1_ok : okB jdk_42_method_66_code B_rm_eq1 = true := by decide +kernel
set_option maxRecDepth 65536 in
set_option maxHeartbeats 40000000 in
theorem rm_eq1 (l : Launch) (Z : State) (a0 : Array Value) (hw : ∀ d ∈ tables_1, d.before a0 Z = true) (sa b ta e : Addr) (cs ds : List Int32) (cz : Int32) (S1 : Sta Z Z.heap "java/lang/String" "COMPACT_STRINGS" "Z" (.int cz)) (hcz : cz ≠ 0) (hlc : Lat cs) (hld : Lat ds) (hc31 : cs.length < 2 ^ 31) (hd31 : ds.length < 2 ^ 31) : Ct l Z EL1 nw1 (⟨"java/lang/String", "equals", "(Ljava/lang/Object;)Z"⟩ : MethodName) jdk_42_method_66_code 3 (some .boolean) [] ({ frames := 1, cells := 0, slots := 0, locals := 14 } : Room) [.ref sa, .ref ta] [(sa, true, .inl kS, [.ref b, .int 0]), (b, true, .inr .byte, cs.map bt), (ta, true, .inl kS, [.ref e, .int 0]), (e, true, .inr .byte, ds.map bt)] (fun v L => v = some (.int (if cs = ds then 1 else 0)) ∧ L = [(sa, true, .inl kS, [.ref b, .int 0]), (b, true, .inr .byte, cs.map bt), (ta, true, .inl kS, [.ref e, .int 0]), (e, true, .inr .byte, ds.map bt)]) := by
  refine ct_of pn6 (B := B_rm_eq1) (ls := [.val (.ref sa), .val (.ref ta), .unset]) B_rm_eq1_ok (ew1 hw) (fun m => by first | (simp [entryFrame, mkF, argsToLocals, Value.category]; done) | rfl) (fun K C => ?_)
  refine wp_blk C 0 2 (pc' := 2) (ls' := [.val (.ref sa), .val (.ref ta), .unset]) (st' := [.ref ta, .ref sa]) rfl ?_
  refine wp_ne C 0 2 rfl rfl (by decide) rfl (fun hne => ?_)
  refine wp_acY C 2 7 rfl rfl rfl (by simp [XT.acmp, hne]) rfl (by decide) ?_
  refine wp_blk C 3 1 (pc' := 8) (ls' := [.val (.ref sa), .val (.ref ta), .unset]) (st' := [.ref ta]) rfl ?_
  refine wp_instY C 4 11 2 rfl rfl (wd hw 25 rfl) (wd hw 33 rfl) rfl ?_
  refine wp_ifz C 5 54 14 rfl rfl rfl (by decide) (fun h => absurd h (fun q : (1 : Int32) = 0 => by revert q; decide)) (fun _ => ?_)
  refine wp_blk C 6 1 (pc' := 15) (ls' := [.val (.ref sa), .val (.ref ta), .unset]) (st' := [.ref ta]) rfl ?_
  refine wp_castY C 7 18 2 rfl rfl (wd hw 25 rfl) (wd hw 33 rfl) rfl ?_
  refine wp_blk C 8 1 (pc' := 19) (ls' := [.val (.ref sa), .val (.ref ta), .val (.ref ta)]) (st' := []) rfl ?_
  refine wp_getS C 9 22 rfl rfl (wd hw 20 rfl) Via.refl S1 ?_
  refine wp_ifz C 10 36 25 rfl rfl rfl (by decide) (fun h => absurd h (hcz)) (fun _ => ?_)
  refine wp_blk C 11 1 (pc' := 26) (ls' := [.val (.ref sa), .val (.ref ta), .val (.ref ta)]) (st' := [.ref sa]) rfl ?_
  refine wp_get C 12 29 0 1 rfl rfl (wd hw 40 rfl) Via.refl rfl rfl rfl ?_
  refine wp_blk C 13 1 (pc' := 30) (ls' := [.val (.ref sa), .val (.ref ta), .val (.ref ta)]) (st' := [.ref ta, .int 0]) rfl ?_
  refine wp_get C 14 33 2 1 rfl rfl (wd hw 40 rfl) Via.refl rfl rfl rfl ?_
  refine wp_icmp C 15 54 36 rfl rfl rfl (by decide) (fun h => absurd h (fun q : (0 : Int32) ≠ 0 => q rfl)) (fun _ => ?_)
  refine wp_blk C 16 1 (pc' := 37) (ls' := [.val (.ref sa), .val (.ref ta), .val (.ref ta)]) (st' := [.ref sa]) rfl ?_
  refine wp_get C 17 40 0 0 rfl rfl (wd hw 38 rfl) Via.refl rfl rfl rfl ?_
  refine wp_blk C 18 1 (pc' := 41) (ls' := [.val (.ref sa), .val (.ref ta), .val (.ref ta)]) (st' := [.ref ta, .ref b]) rfl ?_
  refine wp_get C 19 44 2 0 rfl rfl (wd hw 38 rfl) Via.refl rfl rfl rfl ?_
  refine wp_front C 3 (L' := [(e, true, .inr .byte, ds.map bt), (sa, true, .inl kS, [.ref b, .int 0]), (b, true, .inr .byte, cs.map bt), (ta, true, .inl kS, [.ref e, .int 0])]) rfl ?_
  refine wp_front C 2 (L' := [(b, true, .inr .byte, cs.map bt), (e, true, .inr .byte, ds.map bt), (sa, true, .inl kS, [.ref b, .int 0]), (ta, true, .inl kS, [.ref e, .int 0])]) rfl ?_
  refine wp_static C (al := [.ref b, .ref e]) (rest := []) (L1 := [(sa, true, .inl kS, [.ref b, .int 0]), (ta, true, .inl kS, [.ref e, .int 0])]) (W := 0) (cells' := 0) (slots' := 0) 20 47 (rm_leq1 l Z a0 hw b e cs ds hlc hld hc31 hd31) rfl rfl (wd hw 74 rfl) (wd hw 75 rfl) (wd hw 76 rfl) (wd hw 23 rfl) (by decide) pd4 rfl rfl rfl rfl (by decide) (by decide) rfl rfl rfl (by decide) (by decide) (fun v L' hQ => ?_)
  obtain ⟨rfl, rfl⟩ := hQ
  show Wp K 0 0 [(b, true, .inr .byte, cs.map bt), (e, true, .inr .byte, ds.map bt), (sa, true, .inl kS, [.ref b, .int 0]), (ta, true, .inl kS, [.ref e, .int 0])] 47 [.val (.ref sa), .val (.ref ta), .val (.ref ta)] [.int (if cs = ds then 1 else 0)]
  refine wp_front C 1 (L' := [(e, true, .inr .byte, ds.map bt), (b, true, .inr .byte, cs.map bt), (sa, true, .inl kS, [.ref b, .int 0]), (ta, true, .inl kS, [.ref e, .int 0])]) rfl ?_
  refine wp_front C 3 (L' := [(ta, true, .inl kS, [.ref e, .int 0]), (e, true, .inr .byte, ds.map bt), (b, true, .inr .byte, cs.map bt), (sa, true, .inl kS, [.ref b, .int 0])]) rfl ?_
  refine wp_front C 2 (L' := [(b, true, .inr .byte, cs.map bt), (ta, true, .inl kS, [.ref e, .int 0]), (e, true, .inr .byte, ds.map bt), (sa, true, .inl kS, [.ref b, .int 0])]) rfl ?_
  refine wp_front C 3 (L' := [(sa, true, .inl kS, [.ref b, .int 0]), (b, true, .inr .byte, cs.map bt), (ta, true, .inl kS, [.ref e, .int 0]), (e, true, .inr .byte, ds.map bt)]) rfl ?_
  by_cases hcd : cs = ds
  · rw [if_pos hcd]
    refine wp_ifz C 21 54 50 rfl rfl rfl (by decide) (fun h => absurd h (fun q : (1 : Int32) = 0 => by revert q; decide)) (fun _ => ?_)
    refine wp_blk C 22 2 (pc' := 55) (ls' := [.val (.ref sa), .val (.ref ta), .val (.ref ta)]) (st' := [.int 1]) rfl ?_
    exact wp_retN C (z' := 1) 25 rfl (Or.inl rfl) rfl (by decide) (by decide) (⟨by rw [if_pos hcd], rfl⟩)
  · rw [if_neg hcd]
    refine wp_ifz C 21 54 50 rfl rfl rfl (by decide) (fun _ => ?_) (fun h => absurd h (fun q : (0 : Int32) ≠ 0 => q rfl))
    refine wp_blk C 24 1 (pc' := 55) (ls' := [.val (.ref sa), .val (.ref ta), .val (.ref ta)]) (st' := [.int 0]) rfl ?_
    exact wp_retN C (z' := 0) 25 rfl (Or.inl rfl) rfl (by decide) (by decide) (⟨by rw [if_neg hcd], rfl⟩)
def B_rm_eq0 : Prog := [(0, .aload_n 0, 1), (1, .aload_n 1, 1), (2, .if_acmp .ne 5, 3), (7, .aload_n 1, 1), (8, .instanceof 10, 3), (11, .ifCond .eq 43, 3), (14, .aload_n 1, 1), (15, .checkcast 10, 3), (18, .astore_n 2, 1), (19, .getstatic 38, 3), (22, .ifCond .eq 14, 3), (25, .aload_n 0, 1), (26, .getfield 15, 3), (29, .aload_n 2, 1), (30, .getfield 15, 3), (33, .if_icmp .ne 21, 3), (36, .aload_n 0, 1), (37, .getfield 9, 3), (40, .aload_n 2, 1), (41, .getfield 9, 3), (44, .invokestatic 541, 3), (47, .ifCond .eq 7, 3), (50, .iconst 1, 1), (51, .goto 4, 3), (54, .iconst 0, 1), (55, .ireturn, 1)]
theorem B_rm_eq0_ok : okB jdk_42_method_66_code B_rm_eq0 = true := by decide +kernel
set_option maxRecDepth 65536 in
set_option maxHeartbeats 40000000 in
theorem rm_eq0 (l : Launch) (Z : State) (a0 : Array Value) (hw : ∀ d ∈ tables_1, d.before a0 Z = true) (sa b ta e : Addr) (cs ds : List Int32) (cz : Int32) (S1 : Sta Z Z.heap "java/lang/String" "COMPACT_STRINGS" "Z" (.int cz)) (hcz : cz ≠ 0) (hlc : Lat cs) (hld : Lat ds) (hc31 : cs.length < 2 ^ 31) (hd31 : ds.length < 2 ^ 31) : Ct l Z EL1 nw1 (⟨"java/lang/String", "equals", "(Ljava/lang/Object;)Z"⟩ : MethodName) jdk_42_method_66_code 3 (some .boolean) [] ({ frames := 1, cells := 0, slots := 0, locals := 14 } : Room) [.ref sa, .ref ta] [(sa, true, .inl kS, [.ref b, .int 0]), (b, true, .inr .byte, cs.map bt), (ta, false, .inl kS, [.ref e, .int 0]), (e, false, .inr .byte, ds.map bt)] (fun v L => v = some (.int (if cs = ds then 1 else 0)) ∧ L = [(sa, true, .inl kS, [.ref b, .int 0]), (b, true, .inr .byte, cs.map bt), (ta, false, .inl kS, [.ref e, .int 0]), (e, false, .inr .byte, ds.map bt)]) := by
  refine ct_of pn6 (B := B_rm_eq0) (ls := [.val (.ref sa), .val (.ref ta), .unset]) B_rm_eq0_ok (ew1 hw) (fun m => by first | (simp [entryFrame, mkF, argsToLocals, Value.category]; done) | rfl) (fun K C => ?_)
  refine wp_blk C 0 2 (pc' := 2) (ls' := [.val (.ref sa), .val (.ref ta), .unset]) (st' := [.ref ta, .ref sa]) rfl ?_
  refine wp_ne C 0 2 rfl rfl (by decide) rfl (fun hne => ?_)
  refine wp_acY C 2 7 rfl rfl rfl (by simp [XT.acmp, hne]) rfl (by decide) ?_
  refine wp_blk C 3 1 (pc' := 8) (ls' := [.val (.ref sa), .val (.ref ta), .unset]) (st' := [.ref ta]) rfl ?_
  refine wp_instY C 4 11 2 rfl rfl (wd hw 25 rfl) (wd hw 33 rfl) rfl ?_
  refine wp_ifz C 5 54 14 rfl rfl rfl (by decide) (fun h => absurd h (fun q : (1 : Int32) = 0 => by revert q; decide)) (fun _ => ?_)
  refine wp_blk C 6 1 (pc' := 15) (ls' := [.val (.ref sa), .val (.ref ta), .unset]) (st' := [.ref ta]) rfl ?_
  refine wp_castY C 7 18 2 rfl rfl (wd hw 25 rfl) (wd hw 33 rfl) rfl ?_
  refine wp_blk C 8 1 (pc' := 19) (ls' := [.val (.ref sa), .val (.ref ta), .val (.ref ta)]) (st' := []) rfl ?_
  refine wp_getS C 9 22 rfl rfl (wd hw 20 rfl) Via.refl S1 ?_
  refine wp_ifz C 10 36 25 rfl rfl rfl (by decide) (fun h => absurd h (hcz)) (fun _ => ?_)
  refine wp_blk C 11 1 (pc' := 26) (ls' := [.val (.ref sa), .val (.ref ta), .val (.ref ta)]) (st' := [.ref sa]) rfl ?_
  refine wp_get C 12 29 0 1 rfl rfl (wd hw 40 rfl) Via.refl rfl rfl rfl ?_
  refine wp_blk C 13 1 (pc' := 30) (ls' := [.val (.ref sa), .val (.ref ta), .val (.ref ta)]) (st' := [.ref ta, .int 0]) rfl ?_
  refine wp_get C 14 33 2 1 rfl rfl (wd hw 40 rfl) Via.refl rfl rfl rfl ?_
  refine wp_icmp C 15 54 36 rfl rfl rfl (by decide) (fun h => absurd h (fun q : (0 : Int32) ≠ 0 => q rfl)) (fun _ => ?_)
  refine wp_blk C 16 1 (pc' := 37) (ls' := [.val (.ref sa), .val (.ref ta), .val (.ref ta)]) (st' := [.ref sa]) rfl ?_
  refine wp_get C 17 40 0 0 rfl rfl (wd hw 38 rfl) Via.refl rfl rfl rfl ?_
  refine wp_blk C 18 1 (pc' := 41) (ls' := [.val (.ref sa), .val (.ref ta), .val (.ref ta)]) (st' := [.ref ta, .ref b]) rfl ?_
  refine wp_get C 19 44 2 0 rfl rfl (wd hw 38 rfl) Via.refl rfl rfl rfl ?_
  refine wp_front C 3 (L' := [(e, false, .inr .byte, ds.map bt), (sa, true, .inl kS, [.ref b, .int 0]), (b, true, .inr .byte, cs.map bt), (ta, false, .inl kS, [.ref e, .int 0])]) rfl ?_
  refine wp_front C 2 (L' := [(b, true, .inr .byte, cs.map bt), (e, false, .inr .byte, ds.map bt), (sa, true, .inl kS, [.ref b, .int 0]), (ta, false, .inl kS, [.ref e, .int 0])]) rfl ?_
  refine wp_static C (al := [.ref b, .ref e]) (rest := []) (L1 := [(sa, true, .inl kS, [.ref b, .int 0]), (ta, false, .inl kS, [.ref e, .int 0])]) (W := 0) (cells' := 0) (slots' := 0) 20 47 (rm_leq0 l Z a0 hw b e cs ds hlc hld hc31 hd31) rfl rfl (wd hw 74 rfl) (wd hw 75 rfl) (wd hw 76 rfl) (wd hw 23 rfl) (by decide) pd4 rfl rfl rfl rfl (by decide) (by decide) rfl rfl rfl (by decide) (by decide) (fun v L' hQ => ?_)
  obtain ⟨rfl, rfl⟩ := hQ
  show Wp K 0 0 [(b, true, .inr .byte, cs.map bt), (e, false, .inr .byte, ds.map bt), (sa, true, .inl kS, [.ref b, .int 0]), (ta, false, .inl kS, [.ref e, .int 0])] 47 [.val (.ref sa), .val (.ref ta), .val (.ref ta)] [.int (if cs = ds then 1 else 0)]
  refine wp_front C 1 (L' := [(e, false, .inr .byte, ds.map bt), (b, true, .inr .byte, cs.map bt), (sa, true, .inl kS, [.ref b, .int 0]), (ta, false, .inl kS, [.ref e, .int 0])]) rfl ?_
  refine wp_front C 3 (L' := [(ta, false, .inl kS, [.ref e, .int 0]), (e, false, .inr .byte, ds.map bt), (b, true, .inr .byte, cs.map bt), (sa, true, .inl kS, [.ref b, .int 0])]) rfl ?_
  refine wp_front C 2 (L' := [(b, true, .inr .byte, cs.map bt), (ta, false, .inl kS, [.ref e, .int 0]), (e, false, .inr .byte, ds.map bt), (sa, true, .inl kS, [.ref b, .int 0])]) rfl ?_
  refine wp_front C 3 (L' := [(sa, true, .inl kS, [.ref b, .int 0]), (b, true, .inr .byte, cs.map bt), (ta, false, .inl kS, [.ref e, .int 0]), (e, false, .inr .byte, ds.map bt)]) rfl ?_
  by_cases hcd : cs = ds
  · rw [if_pos hcd]
    refine wp_ifz C 21 54 50 rfl rfl rfl (by decide) (fun h => absurd h (fun q : (1 : Int32) = 0 => by revert q; decide)) (fun _ => ?_)
    refine wp_blk C 22 2 (pc' := 55) (ls' := [.val (.ref sa), .val (.ref ta), .val (.ref ta)]) (st' := [.int 1]) rfl ?_
    exact wp_retN C (z' := 1) 25 rfl (Or.inl rfl) rfl (by decide) (by decide) (⟨by rw [if_pos hcd], rfl⟩)
  · rw [if_neg hcd]
    refine wp_ifz C 21 54 50 rfl rfl rfl (by decide) (fun _ => ?_) (fun h => absurd h (fun q : (0 : Int32) ≠ 0 => q rfl))
    refine wp_blk C 24 1 (pc' := 55) (ls' := [.val (.ref sa), .val (.ref ta), .val (.ref ta)]) (st' := [.int 0]) rfl ?_
    exact wp_retN C (z' := 0) 25 rfl (Or.inl rfl) rfl (by decide) (by decide) (⟨by rw [if_neg hcd], rfl⟩)
theorem pn7 : plainFor (⟨"java/lang/StringLatin1", "canEncode", "(C)Z"⟩ : MethodName) = true := by first | (refine plainFor_of_name ?_; simp [plainName, overriddenIn]; done) | (refine plainFor_of_name ?_; decide +kernel) | decide +kernel
def B_rm_can : Prog := [(0, .iload_n 0, 1), (1, .sipush 255, 3), (4, .if_icmp .gt 7, 3), (7, .iconst 1, 1), (8, .goto 4, 3), (12, .ireturn, 1)]
theorem B_rm_can_ok : okB jdk_43_method_3_code B_rm_can = true := by decide +kernel
set_option maxRecDepth 65536 in
set_option maxHeartbeats 40000000 in
theorem rm_can (l : Launch) (Z : State) (a0 : Array Value) (hw : ∀ d ∈ tables_1, d.before a0 Z = true) (k : Int32) (hk : 0 ≤ k.toInt ∧ k.toInt ≤ 255) : Ct l Z EL1 nw1 (⟨"java/lang/StringLatin1", "canEncode", "(C)Z"⟩ : MethodName) jdk_43_method_3_code 1 (some .boolean) [] ({ frames := 0, cells := 0, slots := 0, locals := 0 } : Room) [.int k] [] (fun v L => v = some (.int 1) ∧ L = []) := by
  refine ct_of pn7 (B := B_rm_can) (ls := [.val (.int k)]) B_rm_can_ok (ew1 hw) (fun m => by first | (simp [entryFrame, mkF, argsToLocals, Value.category]; done) | rfl) (fun K C => ?_)
  refine wp_blk C 0 2 (pc' := 4) (ls' := [.val (.int k)]) (st' := [.int 255, .int k]) rfl ?_
  refine wp_icmp C 2 11 7 rfl rfl rfl (by decide) (fun h => absurd h (fun q : (255 : Int32).toInt < k.toInt => by rw [show (255 : Int32).toInt = 255 from rfl] at q; omega)) (fun _ => ?_)
  refine wp_blk C 3 2 (pc' := 12) (ls' := [.val (.int k)]) (st' := [.int 1]) rfl ?_
  exact wp_retN C (z' := 1) 5 rfl (Or.inl rfl) rfl (by decide) (by decide) (⟨rfl, rfl⟩)
theorem pn8 : plainFor (⟨"java/lang/StringLatin1", "toBytes", "(C)[B"⟩ : MethodName) = true := by first | (refine plainFor_of_name ?_; simp [plainName, overriddenIn]; done) | (refine plainFor_of_name ?_; decide +kernel) | decide +kernel
def B_rm_tob : Prog := [(0, .iconst 1, 1), (1, .newarray .byte, 2), (3, .dup, 1), (4, .iconst 0, 1), (5, .iload_n 0, 1), (6, .i2b, 1), (7, .bastore, 1), (8, .areturn, 1)]
theorem B_rm_tob_ok : okB jdk_43_method_46_code B_rm_tob = true := by decide +kernel
set_option maxRecDepth 65536 in
set_option maxHeartbeats 40000000 in
theorem rm_tob (l : Launch) (Z : State) (a0 : Array Value) (hw : ∀ d ∈ tables_1, d.before a0 Z = true) (k : Int32) : Ct l Z EL1 nw1 (⟨"java/lang/StringLatin1", "toBytes", "(C)[B"⟩ : MethodName) jdk_43_method_46_code 1 (some (.array .byte)) [] ({ frames := 0, cells := 1, slots := 1, locals := 0 } : Room) [.int k] [] (fun v L => ∃ b : Addr, v = some (.ref b) ∧ L = [(b, true, .inr .byte, ([k]).map bt)]) := by
  refine ct_of pn8 (B := B_rm_tob) (ls := [.val (.int k)]) B_rm_tob_ok (ew1 hw) (fun m => by first | (simp [entryFrame, mkF, argsToLocals, Value.category]; done) | rfl) (fun K C => ?_)
  refine wp_blk C 0 1 (pc' := 1) (ls' := [.val (.int k)]) (st' := [.int 1]) rfl ?_
  refine wp_newA C (n := 1) (cap := 1) (cells' := 1) (slots' := 1) (vs := List.replicate 1 (.int 0)) 1 3 rfl rfl (wd hw 30 rfl) rfl (by decide) (by decide) rfl rfl (by decide) (by decide) rfl (fun b1 => ?_)
  refine wp_blk C 2 4 (pc' := 7) (ls' := [.val (.int k)]) (st' := [.int ((k : Int32).toInt8.toInt32), .int 0, .ref b1, .ref b1]) rfl ?_
  refine wp_stoB C (n := 0) (vs' := [k].map bt) (L' := [(b1, true, .inr .byte, [k].map bt)]) 6 8 0 rfl rfl rfl rfl (by simp) (by rw [b8]; rfl) rfl ?_
  exact wp_retA C 7 rfl rfl rfl (by decide) (by decide) (⟨b1, rfl, rfl⟩)
theorem pn9 : plainFor (⟨"java/lang/String", "<init>", "([BB)V"⟩ : MethodName) = true := by first | (refine plainFor_of_name ?_; simp [plainName, overriddenIn]; done) | (refine plainFor_of_name ?_; decide +kernel) | decide +kernel
def B_rm_sbb : Prog := [(0, .aload_n 0, 1), (1, .invokespecial 1, 3), (4, .aload_n 0, 1), (5, .aload_n 1, 1), (6, .putfield 9, 3), (9, .aload_n 0, 1), (10, .iload_n 2, 1), (11, .putfield 15, 3), (14, .return_, 1)]
theorem B_rm_sbb_ok : okB jdk_42_method_151_code B_rm_sbb = true := by decide +kernel
set_option maxRecDepth 65536 in
set_option maxHeartbeats 40000000 in
theorem rm_sbb (l : Launch) (Z : State) (a0 : Array Value) (hw : ∀ d ∈ tables_1, d.before a0 Z = true) (sa b : Addr) : Ct l Z EL1 nw1 (⟨"java/lang/String", "<init>", "([BB)V"⟩ : MethodName) jdk_42_method_151_code 3 none [] ({ frames := 1, cells := 0, slots := 0, locals := 12 } : Room) [.ref sa, .ref b, .int 0] [(sa, true, .inl kS, [.null, .int 0])] (fun v L => v = none ∧ L = [(sa, true, .inl kS, [.ref b, .int 0])]) := by
  refine ct_of pn9 (B := B_rm_sbb) (ls := [.val (.ref sa), .val (.ref b), .val (.int 0)]) B_rm_sbb_ok (ew1 hw) (fun m => by first | (simp [entryFrame, mkF, argsToLocals, Value.category]; done) | rfl) (fun K C => ?_)
  refine wp_blk C 0 1 (pc' := 1) (ls' := [.val (.ref sa), .val (.ref b), .val (.int 0)]) (st' := [.ref sa]) rfl ?_
  refine wp_initO C (W := 0) 1 4 rfl rfl (wd hw 35 rfl) (wd hw 36 rfl) (wd hw 37 rfl) (by decide) rfl (by decide) rfl ?_
  refine wp_blk C 2 2 (pc' := 6) (ls' := [.val (.ref sa), .val (.ref b), .val (.int 0)]) (st' := [.ref b, .ref sa]) rfl ?_
  refine wp_put C (ty := (.array .byte)) (v := .ref b) (vs' := [.ref b, .int 0]) (L' := [(sa, true, .inl kS, [.ref b, .int 0])]) 4 9 0 0 rfl rfl (wd hw 38 rfl) Via.refl (Or.inr ⟨wd hw 39 rfl, rfl, rfl⟩) (wd hw 26 rfl) (kS_ok hw) fd1 rfl rfl rfl rfl rfl rfl rfl ?_
  refine wp_blk C 5 2 (pc' := 11) (ls' := [.val (.ref sa), .val (.ref b), .val (.int 0)]) (st' := [.int 0, .ref sa]) rfl ?_
  refine wp_put C (ty := .byte) (v := .int 0) (vs' := [.ref b, .int 0]) (L' := [(sa, true, .inl kS, [.ref b, .int 0])]) 7 14 0 1 rfl rfl (wd hw 40 rfl) Via.refl (Or.inr ⟨wd hw 41 rfl, rfl, rfl⟩) (wd hw 26 rfl) (kS_ok hw) fd0 rfl rfl rfl rfl rfl rfl rfl ?_
  exact wp_ret0 C 8 rfl (by decide) (by decide) (⟨rfl, rfl⟩)
theorem pn10 : plainFor (⟨"java/lang/String", "valueOf", "(C)Ljava/lang/String;"⟩ : MethodName) = true := by first | (refine plainFor_of_name ?_; simp [plainName, overriddenIn]; done) | (refine plainFor_of_name ?_; decide +kernel) | decide +kernel
theorem pd5 : parseMethodDescriptor "(C)Z" = some ⟨[.char], (some .boolean)⟩ := by decide +kernel
theorem pd6 : parseMethodDescriptor "(C)[B" = some ⟨[.char], (some (.array .byte))⟩ := by decide +kernel
theorem pd7 : parseMethodDescriptor "([BB)V" = some ⟨[(.array .byte), .byte], none⟩ := by decide +kernel
def B_rm_vof : Prog := [(0, .getstatic 38, 3), (3, .ifCond .eq 23, 3), (6, .iload_n 0, 1), (7, .invokestatic 1015, 3), (10, .ifCond .eq 16, 3), (13, .new 10, 3), (16, .dup, 1), (17, .iload_n 0, 1), (18, .invokestatic 1018, 3), (21, .iconst 0, 1), (22, .invokespecial 209, 3), (25, .areturn, 1)]
theorem B_rm_vof_ok : okB jdk_42_method_139_code B_rm_vof = true := by decide +kernel
set_option maxRecDepth 65536 in
set_option maxHeartbeats 40000000 in
theorem rm_vof (l : Launch) (Z : State) (a0 : Array Value) (hw : ∀ d ∈ tables_1, d.before a0 Z = true) (k : Int32) (cz : Int32) (S1 : Sta Z Z.heap "java/lang/String" "COMPACT_STRINGS" "Z" (.int cz)) (hcz : cz ≠ 0) (hk : 0 ≤ k.toInt ∧ k.toInt ≤ 255) : Ct l Z EL1 nw1 (⟨"java/lang/String", "valueOf", "(C)Ljava/lang/String;"⟩ : MethodName) jdk_42_method_139_code 1 (some (.object "java/lang/String")) [] ({ frames := 2, cells := 2, slots := 5, locals := 28 } : Room) [.int k] [] (fun v L => ∃ sa b : Addr, v = some (.ref sa) ∧ L = [(sa, true, .inl kS, [.ref b, .int 0]), (b, true, .inr .byte, ([k]).map bt)]) := by
  refine ct_of pn10 (B := B_rm_vof) (ls := [.val (.int k)]) B_rm_vof_ok (ew1 hw) (fun m => by first | (simp [entryFrame, mkF, argsToLocals, Value.category]; done) | rfl) (fun K C => ?_)
  refine wp_getS C 0 3 rfl rfl (wd hw 20 rfl) Via.refl S1 ?_
  refine wp_ifz C 1 26 6 rfl rfl rfl (by decide) (fun h => absurd h (hcz)) (fun _ => ?_)
  refine wp_blk C 2 1 (pc' := 7) (ls' := [.val (.int k)]) (st' := [.int k]) rfl ?_
  refine wp_static C (al := [.int k]) (rest := []) (L1 := []) (W := 0) (cells' := 0) (slots' := 0) 3 10 (rm_can l Z a0 hw k hk) rfl rfl (wd hw 21 rfl) (wd hw 22 rfl) (wd hw 24 rfl) (wd hw 23 rfl) (by decide) pd5 rfl rfl rfl rfl (by decide) (by decide) rfl rfl rfl (by decide) (by decide) (fun v L' hQ => ?_)
  obtain ⟨rfl, rfl⟩ := hQ
  show Wp K 0 0 [] 10 [.val (.int k)] [.int 1]
  refine wp_ifz C 4 26 13 rfl rfl rfl (by decide) (fun h => absurd h (fun q : (1 : Int32) = 0 => by revert q; decide)) (fun _ => ?_)
  refine wp_new C (Kc := kS) (cells' := 1) (slots' := 4) 5 16 rfl rfl (wd hw 25 rfl) (wd hw 26 rfl) (wd hw 18 rfl) (kS_ok hw) kS_df rfl rfl (by decide) (by decide) (fun sa => ?_)
  refine wp_blk C 6 2 (pc' := 18) (ls' := [.val (.int k)]) (st' := [.int k, .ref sa, .ref sa]) rfl ?_
  refine wp_static C (al := [.int k]) (rest := [.ref sa, .ref sa]) (L1 := [(sa, true, .inl kS, [.null, .int 0])]) (W := 2) (cells' := 2) (slots' := 5) 8 21 (rm_tob l Z a0 hw k) rfl rfl (wd hw 27 rfl) (wd hw 28 rfl) (wd hw 29 rfl) (wd hw 23 rfl) (by decide) pd6 rfl rfl rfl rfl (by decide) (by decide) rfl rfl rfl (by decide) (by decide) (fun v L' hQ => ?_)
  obtain ⟨b, rfl, rfl⟩ := hQ
  show Wp K 2 5 [(b, true, .inr .byte, ([k]).map bt), (sa, true, .inl kS, [.null, .int 0])] 21 [.val (.int k)] [.ref b, .ref sa, .ref sa]
  refine wp_blk C 9 1 (pc' := 22) (ls' := [.val (.int k)]) (st' := [.int 0, .ref b, .ref sa, .ref sa]) rfl ?_
  refine wp_front C 1 (L' := [(sa, true, .inl kS, [.null, .int 0]), (b, true, .inr .byte, ([k]).map bt)]) rfl ?_
  refine wp_init C (al := [.ref b, .int 0]) (rest := [.ref sa]) (L1 := [(b, true, .inr .byte, ([k]).map bt)]) (W := 1) (cells' := 2) (slots' := 5) 10 25 (rm_sbb l Z a0 hw sa b) rfl rfl (wd hw 31 rfl) (wd hw 32 rfl) (wd hw 34 rfl) (wd hw 18 rfl) rfl (by decide) pd7 rfl rfl rfl rfl (by decide) (by decide) rfl rfl rfl (by decide) (by decide) (fun v L' hQ => ?_)
  obtain ⟨rfl, rfl⟩ := hQ
  show Wp K 2 5 [(sa, true, .inl kS, [.ref b, .int 0]), (b, true, .inr .byte, ([k]).map bt)] 25 [.val (.int k)] [.ref sa]
  exact wp_retA C 11 rfl rfl rfl (by decide) (by decide) (⟨sa, b, rfl, rfl⟩)
def kM : Kd := ("com/example/fieldweave/fieldweave/http/MediaType", [("com/example/fieldweave/fieldweave/http/MediaType", "parameters", "Ljava/util/Map;"), ("com/example/fieldweave/fieldweave/http/MediaType", "type", "Ljava/lang/String;"), ("com/example/fieldweave/fieldweave/http/MediaType", "subtype", "Ljava/lang/String;")])
theorem kM_ok {Z : State} {a0 : Array Value} (hw : ∀ d ∈ tables_1, d.before a0 Z = true) : KOk Z a0 kM := ⟨⟨⟨Or.inr (wd hw 9 rfl), by decide +kernel⟩, ⟨⟨Or.inr (wd hw 58 rfl), by decide +kernel⟩, ⟨⟨Or.inr (wd hw 60 rfl), by decide +kernel⟩, trivial⟩⟩⟩, by decide +kernel⟩
theorem kM_df : defs kM = [.null, .null, .null] := by decide +kernel
def kMp : Kd := ("com/example/fieldweave/fieldweave/http/MediaType", [("com/example/fieldweave/fieldweave/http/MediaType", "parameters", "Ljava/util/Map;")])
def kMap : Kd := ("java/util/ImmutableCollections$MapN", [])
theorem pn11 : plainFor (⟨"com/example/fieldweave/fieldweave/http/MediaType", "parameters", "()Ljava/util/Map;"⟩ : MethodName) = true := by first | (refine plainFor_of_name ?_; simp [plainName, overriddenIn]; done) | (refine plainFor_of_name ?_; decide +kernel) | decide +kernel
def B_rm_par : Prog := [(0, .aload_n 0, 1), (1, .getfield 22, 3), (4, .areturn, 1)]
theorem B_rm_par_ok : okB prog_174_method_16_code B_rm_par = true := by decide +kernel
set_option maxRecDepth 65536 in
set_option maxHeartbeats 40000000 in
theorem rm_par (l : Launch) (Z : State) (a0 : Array Value) (hw : ∀ d ∈ tables_1, d.before a0 Z = true) (ja pm : Addr) : Ct l Z EL1 nw1 (⟨"com/example/fieldweave/fieldweave/http/MediaType", "parameters", "()Ljava/util/Map;"⟩ : MethodName) prog_174_method_16_code 1 (some (.object "java/util/Map")) [] ({ frames := 0, cells := 0, slots := 0, locals := 0 } : Room) [.ref ja] [(ja, false, .inl kMp, [.ref pm])] (fun v L => v = some (.ref pm) ∧ L = [(ja, false, .inl kMp, [.ref pm])]) := by
  refine ct_of pn11 (B := B_rm_par) (ls := [.val (.ref ja)]) B_rm_par_ok (ew1 hw) (fun m => by first | (simp [entryFrame, mkF, argsToLocals, Value.category]; done) | rfl) (fun K C => ?_)
  refine wp_blk C 0 1 (pc' := 1) (ls' := [.val (.ref ja)]) (st' := [.ref ja]) rfl ?_
  refine wp_get C 1 4 0 0 rfl rfl (wd hw 8 rfl) Via.refl rfl rfl rfl ?_
  exact wp_retA C 2 rfl rfl rfl (by decide) (by decide) (⟨rfl, rfl⟩)
theorem pn12 : plainFor (⟨"java/util/Map", "copyOf", "(Ljava/util/Map;)Ljava/util/Map;"⟩ : MethodName) = true := by first | (refine plainFor_of_name ?_; simp [plainName, overriddenIn]; done) | (refine plainFor_of_name ?_; decide +kernel) | decide +kernel
def B_rm_cpy : Prog := [(0, .aload_n 0, 1), (1, .instanceof 101, 3), (4, .ifCond .eq 5, 3), (7, .aload_n 0, 1), (8, .areturn, 1)]
theorem B_rm_cpy_ok : okB jdk_72_method_39_code B_rm_cpy = true := by decide +kernel
set_option maxRecDepth 65536 in
set_option maxHeartbeats 40000000 in
theorem rm_cpy (l : Launch) (Z : State) (a0 : Array Value) (hw : ∀ d ∈ tables_1, d.before a0 Z = true) (pm : Addr) : Ct l Z EL1 nw1 (⟨"java/util/Map", "copyOf", "(Ljava/util/Map;)Ljava/util/Map;"⟩ : MethodName) jdk_72_method_39_code 1 (some (.object "java/util/Map")) [] ({ frames := 0, cells := 0, slots := 0, locals := 0 } : Room) [.ref pm] [(pm, false, .inl kMap, [])] (fun v L => v = some (.ref pm) ∧ L = [(pm, false, .inl kMap, [])]) := by
  refine ct_of pn12 (B := B_rm_cpy) (ls := [.val (.ref pm)]) B_rm_cpy_ok (ew1 hw) (fun m => by first | (simp [entryFrame, mkF, argsToLocals, Value.category]; done) | rfl) (fun K C => ?_)
  refine wp_blk C 0 1 (pc' := 1) (ls' := [.val (.ref pm)]) (st' := [.ref pm]) rfl ?_
  refine wp_instY C 1 4 0 rfl rfl (wd hw 55 rfl) (wd hw 56 rfl) rfl ?_
  refine wp_ifz C 2 9 7 rfl rfl rfl (by decide) (fun h => absurd h (fun q : (1 : Int32) = 0 => absurd q (by decide))) (fun _ => ?_)
  refine wp_blk C 3 1 (pc' := 8) (ls' := [.val (.ref pm)]) (st' := [.ref pm]) rfl ?_
  exact wp_retA C 4 rfl rfl rfl (by decide) (by decide) (⟨rfl, rfl⟩)
theorem pn13 : plainFor (⟨"java/lang/Record", "<init>", "()V"⟩ : MethodName) = true := by first | (refine plainFor_of_name ?_; simp [plainName, overriddenIn]; done) | (refine plainFor_of_name ?_; decide +kernel) | decide +kernel
def B_rm_rec : Prog := [(0, .aload_n 0, 1), (1, .invokespecial 1, 3), (4, .return_, 1)]
theorem B_rm_rec_ok : okB jdk_30_method_1_code B_rm_rec = true := by decide +kernel
set_option maxRecDepth 65536 in
set_option maxHeartbeats 40000000 in
theorem rm_rec (l : Launch) (Z : State) (a0 : Array Value) (hw : ∀ d ∈ tables_1, d.before a0 Z = true) (a : Addr) : Ct l Z EL1 nw1 (⟨"java/lang/Record", "<init>", "()V"⟩ : MethodName) jdk_30_method_1_code 1 none [] ({ frames := 1, cells := 0, slots := 0, locals := 12 } : Room) [.ref a] [] (fun v L => v = none ∧ L = []) := by
  refine ct_of pn13 (B := B_rm_rec) (ls := [.val (.ref a)]) B_rm_rec_ok (ew1 hw) (fun m => by first | (simp [entryFrame, mkF, argsToLocals, Value.category]; done) | rfl) (fun K C => ?_)
  refine wp_blk C 0 1 (pc' := 1) (ls' := [.val (.ref a)]) (st' := [.ref a]) rfl ?_
  refine wp_initO C (W := 0) 1 4 rfl rfl (wd hw 50 rfl) (wd hw 36 rfl) (wd hw 37 rfl) (by decide) rfl (by decide) rfl ?_
  exact wp_ret0 C 2 rfl (by decide) (by decide) (⟨rfl, rfl⟩)
theorem pn14 : plainFor (⟨"com/example/fieldweave/fieldweave/http/MediaType", "<init>", "(Ljava/lang/String;Ljava/lang/String;Ljava/util/Map;)V"⟩ : MethodName) = true := by first | (refine plainFor_of_name ?_; simp [plainName, overriddenIn]; done) | (refine plainFor_of_name ?_; decide +kernel) | decide +kernel
theorem pd8 : parseMethodDescriptor "()V" = some ⟨[], none⟩ := by decide +kernel
theorem pd9 : parseMethodDescriptor "(Ljava/util/Map;)Ljava/util/Map;" = some ⟨[(.object "java/util/Map")], (some (.object "java/util/Map"))⟩ := by decide +kernel
theorem fd2 : parseFieldDescriptor "Ljava/lang/String;" = some (.object "java/lang/String") := by decide +kernel
theorem fd3 : parseFieldDescriptor "Ljava/util/Map;" = some (.object "java/util/Map") := by decide +kernel
def B_rm_mt : Prog := [(0, .aload_n 0, 1), (1, .invokespecial 1, 3), (4, .aload_n 3, 1), (5, .invokestatic 7, 3), (8, .astore_n 3, 1), (9, .aload_n 0, 1), (10, .aload_n 1, 1), (11, .putfield 13, 3), (14, .aload_n 0, 1), (15, .aload_n 2, 1), (16, .putfield 19, 3), (19, .aload_n 0, 1), (20, .aload_n 3, 1), (21, .putfield 22, 3), (24, .return_, 1)]
theorem B_rm_mt_ok : okB prog_174_method_1_code B_rm_mt = true := by decide +kernel
set_option maxRecDepth 65536 in
set_option maxHeartbeats 40000000 in
theorem rm_mt (l : Launch) (Z : State) (a0 : Array Value) (hw : ∀ d ∈ tables_1, d.before a0 Z = true) (ma ta sa pm : Addr) : Ct l Z EL1 nw1 (⟨"com/example/fieldweave/fieldweave/http/MediaType", "<init>", "(Ljava/lang/String;Ljava/lang/String;Ljava/util/Map;)V"⟩ : MethodName) prog_174_method_1_code 4 none [] ({ frames := 2, cells := 0, slots := 0, locals := 24 } : Room) [.ref ma, .ref ta, .ref sa, .ref pm] [(ma, true, .inl kM, [.null, .null, .null]), (pm, false, .inl kMap, [])] (fun v L => v = none ∧ L = [(ma, true, .inl kM, [.ref pm, .ref ta, .ref sa]), (pm, false, .inl kMap, [])]) := by
  refine ct_of pn14 (B := B_rm_mt) (ls := [.val (.ref ma), .val (.ref ta), .val (.ref sa), .val (.ref pm)]) B_rm_mt_ok (ew1 hw) (fun m => by first | (simp [entryFrame, mkF, argsToLocals, Value.category]; done) | rfl) (fun K C => ?_)
  refine wp_blk C 0 1 (pc' := 1) (ls' := [.val (.ref ma), .val (.ref ta), .val (.ref sa), .val (.ref pm)]) (st' := [.ref ma]) rfl ?_
  refine wp_init C (al := []) (rest := []) (L1 := [(ma, true, .inl kM, [.null, .null, .null]), (pm, false, .inl kMap, [])]) (W := 0) (cells' := 0) (slots' := 0) 1 4 (rm_rec l Z a0 hw ma) rfl rfl (wd hw 45 rfl) (wd hw 46 rfl) (wd hw 49 rfl) (wd hw 48 rfl) rfl (by decide) pd8 rfl rfl rfl rfl (by decide) (by decide) rfl rfl rfl (by decide) (by decide) (fun v L' hQ => ?_)
  obtain ⟨rfl, rfl⟩ := hQ
  show Wp K 0 0 [(ma, true, .inl kM, [.null, .null, .null]), (pm, false, .inl kMap, [])] 4 [.val (.ref ma), .val (.ref ta), .val (.ref sa), .val (.ref pm)] []
  refine wp_blk C 2 1 (pc' := 5) (ls' := [.val (.ref ma), .val (.ref ta), .val (.ref sa), .val (.ref pm)]) (st' := [.ref pm]) rfl ?_
  refine wp_front C 1 (L' := [(pm, false, .inl kMap, []), (ma, true, .inl kM, [.null, .null, .null])]) rfl ?_
  refine wp_static C (al := [.ref pm]) (rest := []) (L1 := [(ma, true, .inl kM, [.null, .null, .null])]) (W := 0) (cells' := 0) (slots' := 0) 3 8 (rm_cpy l Z a0 hw pm) rfl rfl (wd hw 51 rfl) (wd hw 52 rfl) (wd hw 54 rfl) (wd hw 53 rfl) (by decide) pd9 rfl rfl rfl rfl (by decide) (by decide) rfl rfl rfl (by decide) (by decide) (fun v L' hQ => ?_)
  obtain ⟨rfl, rfl⟩ := hQ
  show Wp K 0 0 [(pm, false, .inl kMap, []), (ma, true, .inl kM, [.null, .null, .null])] 8 [.val (.ref ma), .val (.ref ta), .val (.ref sa), .val (.ref pm)] [.ref pm]
  refine wp_blk C 4 3 (pc' := 11) (ls' := [.val (.ref ma), .val (.ref ta), .val (.ref sa), .val (.ref pm)]) (st' := [.ref ta, .ref ma]) rfl ?_
  refine wp_put C (ty := (.object "java/lang/String")) (v := .ref ta) (vs' := [.null, .ref ta, .null]) (L' := [(pm, false, .inl kMap, []), (ma, true, .inl kM, [.null, .ref ta, .null])]) 7 14 1 1 rfl rfl (wd hw 57 rfl) Via.refl (Or.inr ⟨wd hw 58 rfl, rfl, rfl⟩) (wd hw 11 rfl) (kM_ok hw) fd2 rfl rfl rfl rfl rfl rfl rfl ?_
  refine wp_blk C 8 2 (pc' := 16) (ls' := [.val (.ref ma), .val (.ref ta), .val (.ref sa), .val (.ref pm)]) (st' := [.ref sa, .ref ma]) rfl ?_
  refine wp_put C (ty := (.object "java/lang/String")) (v := .ref sa) (vs' := [.null, .ref ta, .ref sa]) (L' := [(pm, false, .inl kMap, []), (ma, true, .inl kM, [.null, .ref ta, .ref sa])]) 10 19 1 2 rfl rfl (wd hw 59 rfl) Via.refl (Or.inr ⟨wd hw 60 rfl, rfl, rfl⟩) (wd hw 11 rfl) (kM_ok hw) fd2 rfl rfl rfl rfl rfl rfl rfl ?_
  refine wp_blk C 11 2 (pc' := 21) (ls' := [.val (.ref ma), .val (.ref ta), .val (.ref sa), .val (.ref pm)]) (st' := [.ref pm, .ref ma]) rfl ?_
  refine wp_put C (ty := (.object "java/util/Map")) (v := .ref pm) (vs' := [.ref pm, .ref ta, .ref sa]) (L' := [(pm, false, .inl kMap, []), (ma, true, .inl kM, [.ref pm, .ref ta, .ref sa])]) 13 24 1 0 rfl rfl (wd hw 8 rfl) Via.refl (Or.inr ⟨wd hw 9 rfl, rfl, rfl⟩) (wd hw 11 rfl) (kM_ok hw) fd3 rfl rfl rfl rfl rfl rfl rfl ?_
  refine wp_front C 1 (L' := [(ma, true, .inl kM, [.ref pm, .ref ta, .ref sa]), (pm, false, .inl kMap, [])]) rfl ?_
  exact wp_ret0 C 14 rfl (by decide) (by decide) (⟨rfl, rfl⟩)
def strV (n x z : Int32) : List Int32 := if n = 1 then [x] else [x, z]
theorem pn15 : plainFor (⟨"com/example/fieldweave/fieldweave/http/MediaTypeIncludesPinLaw", "str", "(ICC)Ljava/lang/String;"⟩ : MethodName) = true := by first | (refine plainFor_of_name ?_; simp [plainName, overriddenIn]; done) | (refine plainFor_of_name ?_; decide +kernel) | decide +kernel
theorem pd10 : parseMethodDescriptor "([C)V" = some ⟨[(.array .char)], none⟩ := by decide +kernel
theorem pd11 : parseMethodDescriptor "(C)Ljava/lang/String;" = some ⟨[.char], (some (.object "java/lang/String"))⟩ := by decide +kernel
def B_rm_st : Prog := [(0, .iload_n 0, 1), (1, .iconst 1, 1), (2, .if_icmp .ne 8, 3), (5, .iload_n 1, 1), (6, .invokestatic 30, 3), (9, .areturn, 1), (10, .iconst 2, 1), (11, .newarray .char, 2), (13, .astore_n 3, 1), (14, .aload_n 3, 1), (15, .iconst 0, 1), (16, .iload_n 1, 1), (17, .castore, 1), (18, .aload_n 3, 1), (19, .iconst 1, 1), (20, .iload_n 2, 1), (21, .castore, 1), (22, .new 31, 3), (25, .dup, 1), (26, .aload_n 3, 1), (27, .invokespecial 36, 3), (30, .areturn, 1)]
theorem B_rm_st_ok : okB method_3_code B_rm_st = true := by decide +kernel
set_option maxRecDepth 65536 in
set_option maxHeartbeats 40000000 in
theorem rm_st (l : Launch) (Z : State) (a0 : Array Value) (hw : ∀ d ∈ tables_1, d.before a0 Z = true) (n x z : Int32) (cz : Int32) (S1 : Sta Z Z.heap "java/lang/String" "COMPACT_STRINGS" "Z" (.int cz)) (hcz : cz ≠ 0) (hx : 0 ≤ x.toInt ∧ x.toInt ≤ 255) (hz : 0 ≤ z.toInt ∧ z.toInt ≤ 255) : Ct l Z EL1 nw1 (⟨"com/example/fieldweave/fieldweave/http/MediaTypeIncludesPinLaw", "str", "(ICC)Ljava/lang/String;"⟩ : MethodName) method_3_code 4 (some (.object "java/lang/String")) [] ({ frames := 4, cells := 3, slots := 22, locals := 67 } : Room) [.int n, .int x, .int z] [] (fun v L => ∃ sa b : Addr, v = some (.ref sa) ∧ L = [(sa, true, .inl kS, [.ref b, .int 0]), (b, true, .inr .byte, (strV n x z).map bt)]) := by
  refine ct_of pn15 (B := B_rm_st) (ls := [.val (.int n), .val (.int x), .val (.int z), .unset]) B_rm_st_ok (ew1 hw) (fun m => by first | (simp [entryFrame, mkF, argsToLocals, Value.category]; done) | rfl) (fun K C => ?_)
  refine wp_blk C 0 2 (pc' := 2) (ls' := [.val (.int n), .val (.int x), .val (.int z), .unset]) (st' := [.int 1, .int n]) rfl ?_
  refine wp_icmp C 2 10 5 rfl rfl rfl (by decide) (fun (hn : (n : Int32) ≠ 1) => ?_) (fun (hn : (n : Int32) = 1) => ?_)
  · refine wp_blk C 6 1 (pc' := 11) (ls' := [.val (.int n), .val (.int x), .val (.int z), .unset]) (st' := [.int 2]) rfl ?_
    refine wp_newA C (n := 2) (cap := 2) (cells' := 1) (slots' := 2) (vs := List.replicate 2 (.int 0)) 7 13 rfl rfl (wd hw 77 rfl) rfl (by decide) (by decide) rfl rfl (by decide) (by decide) rfl (fun ca => ?_)
    refine wp_blk C 8 4 (pc' := 17) (ls' := [.val (.int n), .val (.int x), .val (.int z), .val (.ref ca)]) (st' := [.int x, .int 0, .ref ca]) rfl ?_
    refine wp_stoC C (n := 0) (vs' := [x, 0].map Value.int) (L' := [(ca, true, .inr .char, [x, 0].map Value.int)]) 12 18 0 rfl rfl rfl rfl (by simp) (by rw [nar_chr ⟨hx.1, by omega⟩]; rfl) rfl ?_
    refine wp_blk C 13 3 (pc' := 21) (ls' := [.val (.int n), .val (.int x), .val (.int z), .val (.ref ca)]) (st' := [.int z, .int 1, .ref ca]) rfl ?_
    refine wp_stoC C (n := 1) (vs' := [x, z].map Value.int) (L' := [(ca, true, .inr .char, [x, z].map Value.int)]) 16 22 0 rfl rfl rfl rfl (by simp) (by rw [nar_chr ⟨hz.1, by omega⟩]; rfl) rfl ?_
    refine wp_new C (Kc := kS) (cells' := 2) (slots' := 6) 17 25 rfl rfl (wd hw 78 rfl) (wd hw 26 rfl) (wd hw 18 rfl) (kS_ok hw) kS_df rfl rfl (by decide) (by decide) (fun sa => ?_)
    refine wp_blk C 18 2 (pc' := 27) (ls' := [.val (.int n), .val (.int x), .val (.int z), .val (.ref ca)]) (st' := [.ref ca, .ref sa, .ref sa]) rfl ?_
    refine wp_init C (al := [.ref ca]) (rest := [.ref sa]) (L1 := []) (W := 1) (cells' := 3) (slots' := 22) 20 30 (rm_str l Z a0 hw sa ca [x, z] cz S1 hcz (by intro c hc; simp only [List.mem_cons, List.not_mem_nil, or_false] at hc; rcases hc with rfl | rfl <;> assumption) (by simp) (by simp)) rfl rfl (wd hw 79 rfl) (wd hw 80 rfl) (wd hw 81 rfl) (wd hw 18 rfl) rfl (by decide) pd10 rfl rfl rfl rfl (by decide) (by decide) rfl rfl rfl (by decide) (by decide) (fun v L' hQ => ?_)
    obtain ⟨rfl, b, rfl⟩ := hQ
    show Wp K 3 22 [(sa, true, .inl kS, [.ref b, .int 0]), (b, true, .inr .byte, ([x, z]).map bt), (ca, true, .inr .char, ([x, z]).map Value.int)] 30 [.val (.int n), .val (.int x), .val (.int z), .val (.ref ca)] [.ref sa]
    refine wp_drop C 2 (L' := [(sa, true, .inl kS, [.ref b, .int 0]), (b, true, .inr .byte, ([x, z]).map bt)]) rfl ?_
    exact wp_retA C 21 rfl rfl rfl (by decide) (by decide) (⟨sa, b, rfl, by unfold strV; rw [if_neg hn]⟩)
  · refine wp_blk C 3 1 (pc' := 6) (ls' := [.val (.int n), .val (.int x), .val (.int z), .unset]) (st' := [.int x]) rfl ?_
    refine wp_static C (al := [.int x]) (rest := []) (L1 := []) (W := 0) (cells' := 2) (slots' := 5) 4 9 (rm_vof l Z a0 hw x cz S1 hcz hx) rfl rfl (wd hw 16 rfl) (wd hw 17 rfl) (wd hw 19 rfl) (wd hw 18 rfl) (by decide) pd11 rfl rfl rfl rfl (by decide) (by decide) rfl rfl rfl (by decide) (by decide) (fun v L' hQ => ?_)
    obtain ⟨sa, b, rfl, rfl⟩ := hQ
    show Wp K 2 5 [(sa, true, .inl kS, [.ref b, .int 0]), (b, true, .inr .byte, ([x]).map bt)] 9 [.val (.int n), .val (.int x), .val (.int z), .unset] [.ref sa]
    exact wp_retA C 5 rfl rfl rfl (by decide) (by decide) (⟨sa, b, rfl, by unfold strV; rw [if_pos hn]⟩)
theorem lstar : Lat [42] := by intro c hc; simp only [List.mem_cons, List.not_mem_nil, or_false] at hc; subst hc; decide
theorem pn16 : plainFor (⟨"com/example/fieldweave/fieldweave/http/MediaType", "includes", "(Lcom/example/fieldweave/fieldweave/http/MediaType;)Z"⟩ : MethodName) = true := by first | (refine plainFor_of_name ?_; simp [plainName, overriddenIn]; done) | (refine plainFor_of_name ?_; decide +kernel) | decide +kernel
theorem pd12 : parseMethodDescriptor "(Ljava/lang/Object;)Z" = some ⟨[(.object "java/lang/Object")], (some .boolean)⟩ := by decide +kernel
def B_rm_inc : Prog := [(0, .aload_n 0, 1), (1, .getfield 13, 3), (4, .ldc 150, 2), (6, .invokevirtual 146, 3), (9, .ifCond .ne 43, 3), (12, .aload_n 0, 1), (13, .getfield 13, 3), (16, .aload_n 1, 1), (17, .getfield 13, 3), (20, .invokevirtual 146, 3), (23, .ifCond .eq 33, 3), (26, .aload_n 0, 1), (27, .getfield 19, 3), (30, .ldc 150, 2), (32, .invokevirtual 146, 3), (35, .ifCond .ne 17, 3), (38, .aload_n 0, 1), (39, .getfield 19, 3), (42, .aload_n 1, 1), (43, .getfield 19, 3), (46, .invokevirtual 146, 3), (49, .ifCond .eq 7, 3), (52, .iconst 1, 1), (53, .goto 4, 3), (56, .iconst 0, 1), (57, .ireturn, 1)]
theorem B_rm_inc_ok : okB prog_174_method_6_code B_rm_inc = true := by decide +kernel
set_option maxRecDepth 65536 in
set_option maxHeartbeats 40000000 in
theorem rm_inc (l : Launch) (Z : State) (a0 : Array Value) (hw : ∀ d ∈ tables_1, d.before a0 Z = true) (m1 m2 pm t1 b1 t2 b2 t3 b3 t4 b4 : Addr) (c1 c2 c3 c4 : List Int32) (cz : Int32) (S1 : Sta Z Z.heap "java/lang/String" "COMPACT_STRINGS" "Z" (.int cz)) (hcz : cz ≠ 0) (l1 : Lat c1) (l2 : Lat c2) (l3 : Lat c3) (l4 : Lat c4) (k1 : c1.length < 2 ^ 31) (k2 : c2.length < 2 ^ 31) (k3 : c3.length < 2 ^ 31) (k4 : c4.length < 2 ^ 31) : Ct l Z EL1 nw1 (⟨"com/example/fieldweave/fieldweave/http/MediaType", "includes", "(Lcom/example/fieldweave/fieldweave/http/MediaType;)Z"⟩ : MethodName) prog_174_method_6_code 2 (some .boolean) [] ({ frames := 2, cells := 4, slots := 16, locals := 28 } : Room) [.ref m1, .ref m2] [(m1, true, .inl kM, [.ref pm, .ref t1, .ref t2]), (m2, true, .inl kM, [.ref pm, .ref t3, .ref t4]), (t1, true, .inl kS, [.ref b1, .int 0]), (b1, true, .inr .byte, c1.map bt), (t2, true, .inl kS, [.ref b2, .int 0]), (b2, true, .inr .byte, c2.map bt), (t3, true, .inl kS, [.ref b3, .int 0]), (b3, true, .inr .byte, c3.map bt), (t4, true, .inl kS, [.ref b4, .int 0]), (b4, true, .inr .byte, c4.map bt)] (fun v L => v = some (.int (if c1 = [42] ∨ (c1 = c3 ∧ (c2 = [42] ∨ c2 = c4)) then 1 else 0)) ∧ L = [(m1, true, .inl kM, [.ref pm, .ref t1, .ref t2]), (m2, true, .inl kM, [.ref pm, .ref t3, .ref t4]), (t1, true, .inl kS, [.ref b1, .int 0]), (b1, true, .inr .byte, c1.map bt), (t2, true, .inl kS, [.ref b2, .int 0]), (b2, true, .inr .byte, c2.map bt), (t3, true, .inl kS, [.ref b3, .int 0]), (b3, true, .inr .byte, c3.map bt), (t4, true, .inl kS, [.ref b4, .int 0]), (b4, true, .inr .byte, c4.map bt)]) := by
  refine ct_of pn16 (B := B_rm_inc) (ls := [.val (.ref m1), .val (.ref m2)]) B_rm_inc_ok (ew1 hw) (fun m => by first | (simp [entryFrame, mkF, argsToLocals, Value.category]; done) | rfl) (fun K C => ?_)
  refine wp_blk C 0 1 (pc' := 1) (ls' := [.val (.ref m1), .val (.ref m2)]) (st' := [.ref m1]) rfl ?_
  refine wp_get C 1 4 0 1 rfl rfl (wd hw 57 rfl) Via.refl rfl rfl rfl ?_
  refine wp_ldcC C (n := 4) (vs := [.int 42]) (Kc := kS) (mk := fun b => [.ref b, .int 0]) (cells' := 2) (slots' := 8) 1 2 6 rfl rfl (wd hw 66 rfl) (sat hw) (by decide) (by decide +kernel) (by decide) (by decide) (by decide) (Or.inl ⟨rfl, rfl⟩) (by decide) (by decide) rfl rfl (by decide) (by decide) (fun u1 u1b => ?_)
  refine wp_front C 1 (L' := [(u1b, false, .inr .byte, [.int 42]), (u1, false, .inl kS, [.ref u1b, .int 0]), (m1, true, .inl kM, [.ref pm, .ref t1, .ref t2]), (m2, true, .inl kM, [.ref pm, .ref t3, .ref t4]), (t1, true, .inl kS, [.ref b1, .int 0]), (b1, true, .inr .byte, c1.map bt), (t2, true, .inl kS, [.ref b2, .int 0]), (b2, true, .inr .byte, c2.map bt), (t3, true, .inl kS, [.ref b3, .int 0]), (b3, true, .inr .byte, c3.map bt), (t4, true, .inl kS, [.ref b4, .int 0]), (b4, true, .inr .byte, c4.map bt)]) rfl ?_
  refine wp_front C 1 (L' := [(u1, false, .inl kS, [.ref u1b, .int 0]), (u1b, false, .inr .byte, [.int 42]), (m1, true, .inl kM, [.ref pm, .ref t1, .ref t2]), (m2, true, .inl kM, [.ref pm, .ref t3, .ref t4]), (t1, true, .inl kS, [.ref b1, .int 0]), (b1, true, .inr .byte, c1.map bt), (t2, true, .inl kS, [.ref b2, .int 0]), (b2, true, .inr .byte, c2.map bt), (t3, true, .inl kS, [.ref b3, .int 0]), (b3, true, .inr .byte, c3.map bt), (t4, true, .inl kS, [.ref b4, .int 0]), (b4, true, .inr .byte, c4.map bt)]) rfl ?_
  refine wp_front C 5 (L' := [(b1, true, .inr .byte, c1.map bt), (u1, false, .inl kS, [.ref u1b, .int 0]), (u1b, false, .inr .byte, [.int 42]), (m1, true, .inl kM, [.ref pm, .ref t1, .ref t2]), (m2, true, .inl kM, [.ref pm, .ref t3, .ref t4]), (t1, true, .inl kS, [.ref b1, .int 0]), (t2, true, .inl kS, [.ref b2, .int 0]), (b2, true, .inr .byte, c2.map bt), (t3, true, .inl kS, [.ref b3, .int 0]), (b3, true, .inr .byte, c3.map bt), (t4, true, .inl kS, [.ref b4, .int 0]), (b4, true, .inr .byte, c4.map bt)]) rfl ?_
  refine wp_front C 5 (L' := [(t1, true, .inl kS, [.ref b1, .int 0]), (b1, true, .inr .byte, c1.map bt), (u1, false, .inl kS, [.ref u1b, .int 0]), (u1b, false, .inr .byte, [.int 42]), (m1, true, .inl kM, [.ref pm, .ref t1, .ref t2]), (m2, true, .inl kM, [.ref pm, .ref t3, .ref t4]), (t2, true, .inl kS, [.ref b2, .int 0]), (b2, true, .inr .byte, c2.map bt), (t3, true, .inl kS, [.ref b3, .int 0]), (b3, true, .inr .byte, c3.map bt), (t4, true, .inl kS, [.ref b4, .int 0]), (b4, true, .inr .byte, c4.map bt)]) rfl ?_
  refine wp_virtual C (al := [.ref u1]) (rest := []) (L1 := [(m1, true, .inl kM, [.ref pm, .ref t1, .ref t2]), (m2, true, .inl kM, [.ref pm, .ref t3, .ref t4]), (t2, true, .inl kS, [.ref b2, .int 0]), (b2, true, .inr .byte, c2.map bt), (t3, true, .inl kS, [.ref b3, .int 0]), (b3, true, .inr .byte, c3.map bt), (t4, true, .inl kS, [.ref b4, .int 0]), (b4, true, .inr .byte, c4.map bt)]) (W := 0) (cells' := 2) (slots' := 8) 3 9 0 (rm_eq0 l Z a0 hw t1 b1 u1 u1b c1 [42] cz S1 hcz l1 lstar k1 (by decide)) rfl rfl rfl (wd hw 69 rfl) (wd hw 70 rfl) (nf_self (wd hw 72 rfl)) (wd hw 72 rfl) (wd hw 71 rfl) (wd hw 73 rfl) (wd hw 18 rfl) (by decide) pd12 rfl rfl rfl rfl (by decide) (by decide) rfl rfl rfl (by decide) (by decide) (fun v L' hQ => ?_)
  obtain ⟨rfl, rfl⟩ := hQ
  show Wp K 2 8 [(t1, true, .inl kS, [.ref b1, .int 0]), (b1, true, .inr .byte, c1.map bt), (u1, false, .inl kS, [.ref u1b, .int 0]), (u1b, false, .inr .byte, ([42]).map bt), (m1, true, .inl kM, [.ref pm, .ref t1, .ref t2]), (m2, true, .inl kM, [.ref pm, .ref t3, .ref t4]), (t2, true, .inl kS, [.ref b2, .int 0]), (b2, true, .inr .byte, c2.map bt), (t3, true, .inl kS, [.ref b3, .int 0]), (b3, true, .inr .byte, c3.map bt), (t4, true, .inl kS, [.ref b4, .int 0]), (b4, true, .inr .byte, c4.map bt)] 9 [.val (.ref m1), .val (.ref m2)] [.int (if c1 = [42] then 1 else 0)]
  refine wp_drop C 2 (L' := [(t1, true, .inl kS, [.ref b1, .int 0]), (b1, true, .inr .byte, c1.map bt), (u1b, false, .inr .byte, ([42]).map bt), (m1, true, .inl kM, [.ref pm, .ref t1, .ref t2]), (m2, true, .inl kM, [.ref pm, .ref t3, .ref t4]), (t2, true, .inl kS, [.ref b2, .int 0]), (b2, true, .inr .byte, c2.map bt), (t3, true, .inl kS, [.ref b3, .int 0]), (b3, true, .inr .byte, c3.map bt), (t4, true, .inl kS, [.ref b4, .int 0]), (b4, true, .inr .byte, c4.map bt)]) rfl ?_
  refine wp_drop C 2 (L' := [(t1, true, .inl kS, [.ref b1, .int 0]), (b1, true, .inr .byte, c1.map bt), (m1, true, .inl kM, [.ref pm, .ref t1, .ref t2]), (m2, true, .inl kM, [.ref pm, .ref t3, .ref t4]), (t2, true, .inl kS, [.ref b2, .int 0]), (b2, true, .inr .byte, c2.map bt), (t3, true, .inl kS, [.ref b3, .int 0]), (b3, true, .inr .byte, c3.map bt), (t4, true, .inl kS, [.ref b4, .int 0]), (b4, true, .inr .byte, c4.map bt)]) rfl ?_
  by_cases hq9 : c1 = [42]
  · rw [if_pos hq9]
    refine wp_ifz C 4 52 12 rfl rfl rfl (by decide) (fun _ => ?_) (fun h => absurd h (fun q : (1 : Int32) = 0 => absurd q (by decide)))
    refine wp_blk C 22 2 (pc' := 57) (ls' := [.val (.ref m1), .val (.ref m2)]) (st' := [.int 1]) rfl ?_
    refine wp_front C 9 (L' := [(b4, true, .inr .byte, c4.map bt), (t1, true, .inl kS, [.ref b1, .int 0]), (b1, true, .inr .byte, c1.map bt), (m1, true, .inl kM, [.ref pm, .ref t1, .ref t2]), (m2, true, .inl kM, [.ref pm, .ref t3, .ref t4]), (t2, true, .inl kS, [.ref b2, .int 0]), (b2, true, .inr .byte, c2.map bt), (t3, true, .inl kS, [.ref b3, .int 0]), (b3, true, .inr .byte, c3.map bt), (t4, true, .inl kS, [.ref b4, .int 0])]) rfl ?_
    refine wp_front C 9 (L' := [(t4, true, .inl kS, [.ref b4, .int 0]), (b4, true, .inr .byte, c4.map bt), (t1, true, .inl kS, [.ref b1, .int 0]), (b1, true, .inr .byte, c1.map bt), (m1, true, .inl kM, [.ref pm, .ref t1, .ref t2]), (m2, true, .inl kM, [.ref pm, .ref t3, .ref t4]), (t2, true, .inl kS, [.ref b2, .int 0]), (b2, true, .inr .byte, c2.map bt), (t3, true, .inl kS, [.ref b3, .int 0]), (b3, true, .inr .byte, c3.map bt)]) rfl ?_
    refine wp_front C 9 (L' := [(b3, true, .inr .byte, c3.map bt), (t4, true, .inl kS, [.ref b4, .int 0]), (b4, true, .inr .byte, c4.map bt), (t1, true, .inl kS, [.ref b1, .int 0]), (b1, true, .inr .byte, c1.map bt), (m1, true, .inl kM, [.ref pm, .ref t1, .ref t2]), (m2, true, .inl kM, [.ref pm, .ref t3, .ref t4]), (t2, true, .inl kS, [.ref b2, .int 0]), (b2, true, .inr .byte, c2.map bt), (t3, true, .inl kS, [.ref b3, .int 0])]) rfl ?_
    refine wp_front C 9 (L' := [(t3, true, .inl kS, [.ref b3, .int 0]), (b3, true, .inr .byte, c3.map bt), (t4, true, .inl kS, [.ref b4, .int 0]), (b4, true, .inr .byte, c4.map bt), (t1, true, .inl kS, [.ref b1, .int 0]), (b1, true, .inr .byte, c1.map bt), (m1, true, .inl kM, [.ref pm, .ref t1, .ref t2]), (m2, true, .inl kM, [.ref pm, .ref t3, .ref t4]), (t2, true, .inl kS, [.ref b2, .int 0]), (b2, true, .inr .byte, c2.map bt)]) rfl ?_
    refine wp_front C 9 (L' := [(b2, true, .inr .byte, c2.map bt), (t3, true, .inl kS, [.ref b3, .int 0]), (b3, true, .inr .byte, c3.map bt), (t4, true, .inl kS, [.ref b4, .int 0]), (b4, true, .inr .byte, c4.map bt), (t1, true, .inl kS, [.ref b1, .int 0]), (b1, true, .inr .byte, c1.map bt), (m1, true, .inl kM, [.ref pm, .ref t1, .ref t2]), (m2, true, .inl kM, [.ref pm, .ref t3, .ref t4]), (t2, true, .inl kS, [.ref b2, .int 0])]) rfl ?_
    refine wp_front C 9 (L' := [(t2, true, .inl kS, [.ref b2, .int 0]), (b2, true, .inr .byte, c2.map bt), (t3, true, .inl kS, [.ref b3, .int 0]), (b3, true, .inr .byte, c3.map bt), (t4, true, .inl kS, [.ref b4, .int 0]), (b4, true, .inr .byte, c4.map bt), (t1, true, .inl kS, [.ref b1, .int 0]), (b1, true, .inr .byte, c1.map bt), (m1, true, .inl kM, [.ref pm, .ref t1, .ref t2]), (m2, true, .inl kM, [.ref pm, .ref t3, .ref t4])]) rfl ?_
    refine wp_front C 7 (L' := [(b1, true, .inr .byte, c1.map bt), (t2, true, .inl kS, [.ref b2, .int 0]), (b2, true, .inr .byte, c2.map bt), (t3, true, .inl kS, [.ref b3, .int 0]), (b3, true, .inr .byte, c3.map bt), (t4, true, .inl kS, [.ref b4, .int 0]), (b4, true, .inr .byte, c4.map bt), (t1, true, .inl kS, [.ref b1, .int 0]), (m1, true, .inl kM, [.ref pm, .ref t1, .ref t2]), (m2, true, .inl kM, [.ref pm, .ref t3, .ref t4])]) rfl ?_
    refine wp_front C 7 (L' := [(t1, true, .inl kS, [.ref b1, .int 0]), (b1, true, .inr .byte, c1.map bt), (t2, true, .inl kS, [.ref b2, .int 0]), (b2, true, .inr .byte, c2.map bt), (t3, true, .inl kS, [.ref b3, .int 0]), (b3, true, .inr .byte, c3.map bt), (t4, true, .inl kS, [.ref b4, .int 0]), (b4, true, .inr .byte, c4.map bt), (m1, true, .inl kM, [.ref pm, .ref t1, .ref t2]), (m2, true, .inl kM, [.ref pm, .ref t3, .ref t4])]) rfl ?_
    refine wp_front C 9 (L' := [(m2, true, .inl kM, [.ref pm, .ref t3, .ref t4]), (t1, true, .inl kS, [.ref b1, .int 0]), (b1, true, .inr .byte, c1.map bt), (t2, true, .inl kS, [.ref b2, .int 0]), (b2, true, .inr .byte, c2.map bt), (t3, true, .inl kS, [.ref b3, .int 0]), (b3, true, .inr .byte, c3.map bt), (t4, true, .inl kS, [.ref b4, .int 0]), (b4, true, .inr .byte, c4.map bt), (m1, true, .inl kM, [.ref pm, .ref t1, .ref t2])]) rfl ?_
    refine wp_front C 9 (L' := [(m1, true, .inl kM, [.ref pm, .ref t1, .ref t2]), (m2, true, .inl kM, [.ref pm, .ref t3, .ref t4]), (t1, true, .inl kS, [.ref b1, .int 0]), (b1, true, .inr .byte, c1.map bt), (t2, true, .inl kS, [.ref b2, .int 0]), (b2, true, .inr .byte, c2.map bt), (t3, true, .inl kS, [.ref b3, .int 0]), (b3, true, .inr .byte, c3.map bt), (t4, true, .inl kS, [.ref b4, .int 0]), (b4, true, .inr .byte, c4.map bt)]) rfl ?_
    exact wp_retN C (z' := 1) 25 rfl (Or.inl rfl) rfl (by decide) (by decide) (⟨by rw [if_pos (by simp [hq9])], rfl⟩)
  · rw [if_neg hq9]
    refine wp_ifz C 4 52 12 rfl rfl rfl (by decide) (fun h => absurd h (fun q : (0 : Int32) ≠ 0 => absurd q (by decide))) (fun _ => ?_)
    refine wp_blk C 5 1 (pc' := 13) (ls' := [.val (.ref m1), .val (.ref m2)]) (st' := [.ref m1]) rfl ?_
    refine wp_get C 6 16 2 1 rfl rfl (wd hw 57 rfl) Via.refl rfl rfl rfl ?_
    refine wp_blk C 7 1 (pc' := 17) (ls' := [.val (.ref m1), .val (.ref m2)]) (st' := [.ref m2, .ref t1]) rfl ?_
    refine wp_get C 8 20 3 1 rfl rfl (wd hw 57 rfl) Via.refl rfl rfl rfl ?_
    refine wp_front C 7 (L' := [(b3, true, .inr .byte, c3.map bt), (t1, true, .inl kS, [.ref b1, .int 0]), (b1, true, .inr .byte, c1.map bt), (m1, true, .inl kM, [.ref pm, .ref t1, .ref t2]), (m2, true, .inl kM, [.ref pm, .ref t3, .ref t4]), (t2, true, .inl kS, [.ref b2, .int 0]), (b2, true, .inr .byte, c2.map bt), (t3, true, .inl kS, [.ref b3, .int 0]), (t4, true, .inl kS, [.ref b4, .int 0]), (b4, true, .inr .byte, c4.map bt)]) rfl ?_
    refine wp_front C 7 (L' := [(t3, true, .inl kS, [.ref b3, .int 0]), (b3, true, .inr .byte, c3.map bt), (t1, true, .inl kS, [.ref b1, .int 0]), (b1, true, .inr .byte, c1.map bt), (m1, true, .inl kM, [.ref pm, .ref t1, .ref t2]), (m2, true, .inl kM, [.ref pm, .ref t3, .ref t4]), (t2, true, .inl kS, [.ref b2, .int 0]), (b2, true, .inr .byte, c2.map bt), (t4, true, .inl kS, [.ref b4, .int 0]), (b4, true, .inr .byte, c4.map bt)]) rfl ?_
    refine wp_front C 3 (L' := [(b1, true, .inr .byte, c1.map bt), (t3, true, .inl kS, [.ref b3, .int 0]), (b3, true, .inr .byte, c3.map bt), (t1, true, .inl kS, [.ref b1, .int 0]), (m1, true, .inl kM, [.ref pm, .ref t1, .ref t2]), (m2, true, .inl kM, [.ref pm, .ref t3, .ref t4]), (t2, true, .inl kS, [.ref b2, .int 0]), (b2, true, .inr .byte, c2.map bt), (t4, true, .inl kS, [.ref b4, .int 0]), (b4, true, .inr .byte, c4.map bt)]) rfl ?_
    refine wp_front C 3 (L' := [(t1, true, .inl kS, [.ref b1, .int 0]), (b1, true, .inr .byte, c1.map bt), (t3, true, .inl kS, [.ref b3, .int 0]), (b3, true, .inr .byte, c3.map bt), (m1, true, .inl kM, [.ref pm, .ref t1, .ref t2]), (m2, true, .inl kM, [.ref pm, .ref t3, .ref t4]), (t2, true, .inl kS, [.ref b2, .int 0]), (b2, true, .inr .byte, c2.map bt), (t4, true, .inl kS, [.ref b4, .int 0]), (b4, true, .inr .byte, c4.map bt)]) rfl ?_
    refine wp_virtual C (al := [.ref t3]) (rest := []) (L1 := [(m1, true, .inl kM, [.ref pm, .ref t1, .ref t2]), (m2, true, .inl kM, [.ref pm, .ref t3, .ref t4]), (t2, true, .inl kS, [.ref b2, .int 0]), (b2, true, .inr .byte, c2.map bt), (t4, true, .inl kS, [.ref b4, .int 0]), (b4, true, .inr .byte, c4.map bt)]) (W := 0) (cells' := 2) (slots' := 8) 9 23 0 (rm_eq1 l Z a0 hw t1 b1 t3 b3 c1 c3 cz S1 hcz l1 l3 k1 k3) rfl rfl rfl (wd hw 69 rfl) (wd hw 70 rfl) (nf_self (wd hw 72 rfl)) (wd hw 72 rfl) (wd hw 71 rfl) (wd hw 73 rfl) (wd hw 18 rfl) (by decide) pd12 rfl rfl rfl rfl (by decide) (by decide) rfl rfl rfl (by decide) (by decide) (fun v L' hQ => ?_)
    obtain ⟨rfl, rfl⟩ := hQ
    show Wp K 2 8 [(t1, true, .inl kS, [.ref b1, .int 0]), (b1, true, .inr .byte, c1.map bt), (t3, true, .inl kS, [.ref b3, .int 0]), (b3, true, .inr .byte, c3.map bt), (m1, true, .inl kM, [.ref pm, .ref t1, .ref t2]), (m2, true, .inl kM, [.ref pm, .ref t3, .ref t4]), (t2, true, .inl kS, [.ref b2, .int 0]), (b2, true, .inr .byte, c2.map bt), (t4, true, .inl kS, [.ref b4, .int 0]), (b4, true, .inr .byte, c4.map bt)] 23 [.val (.ref m1), .val (.ref m2)] [.int (if c1 = c3 then 1 else 0)]
    by_cases hq23 : c1 = c3
    · rw [if_pos hq23]
      refine wp_ifz C 10 56 26 rfl rfl rfl (by decide) (fun h => absurd h (fun q : (1 : Int32) = 0 => absurd q (by decide))) (fun _ => ?_)
      refine wp_blk C 11 1 (pc' := 27) (ls' := [.val (.ref m1), .val (.ref m2)]) (st' := [.ref m1]) rfl ?_
      refine wp_get C 12 30 4 2 rfl rfl (wd hw 59 rfl) Via.refl rfl rfl rfl ?_
      refine wp_ldcC C (n := 4) (vs := [.int 42]) (Kc := kS) (mk := fun b => [.ref b, .int 0]) (cells' := 4) (slots' := 16) 1 13 32 rfl rfl (wd hw 66 rfl) (sat hw) (by decide) (by decide +kernel) (by decide) (by decide) (by decide) (Or.inl ⟨rfl, rfl⟩) (by decide) (by decide) rfl rfl (by decide) (by decide) (fun u2 u2b => ?_)
      refine wp_front C 1 (L' := [(u2b, false, .inr .byte, [.int 42]), (u2, false, .inl kS, [.ref u2b, .int 0]), (t1, true, .inl kS, [.ref b1, .int 0]), (b1, true, .inr .byte, c1.map bt), (t3, true, .inl kS, [.ref b3, .int 0]), (b3, true, .inr .byte, c3.map bt), (m1, true, .inl kM, [.ref pm, .ref t1, .ref t2]), (m2, true, .inl kM, [.ref pm, .ref t3, .ref t4]), (t2, true, .inl kS, [.ref b2, .int 0]), (b2, true, .inr .byte, c2.map bt), (t4, true, .inl kS, [.ref b4, .int 0]), (b4, true, .inr .byte, c4.map bt)]) rfl ?_
      refine wp_front C 1 (L' := [(u2, false, .inl kS, [.ref u2b, .int 0]), (u2b, false, .inr .byte, [.int 42]), (t1, true, .inl kS, [.ref b1, .int 0]), (b1, true, .inr .byte, c1.map bt), (t3, true, .inl kS, [.ref b3, .int 0]), (b3, true, .inr .byte, c3.map bt), (m1, true, .inl kM, [.ref pm, .ref t1, .ref t2]), (m2, true, .inl kM, [.ref pm, .ref t3, .ref t4]), (t2, true, .inl kS, [.ref b2, .int 0]), (b2, true, .inr .byte, c2.map bt), (t4, true, .inl kS, [.ref b4, .int 0]), (b4, true, .inr .byte, c4.map bt)]) rfl ?_
      refine wp_front C 9 (L' := [(b2, true, .inr .byte, c2.map bt), (u2, false, .inl kS, [.ref u2b, .int 0]), (u2b, false, .inr .byte, [.int 42]), (t1, true, .inl kS, [.ref b1, .int 0]), (b1, true, .inr .byte, c1.map bt), (t3, true, .inl kS, [.ref b3, .int 0]), (b3, true, .inr .byte, c3.map bt), (m1, true, .inl kM, [.ref pm, .ref t1, .ref t2]), (m2, true, .inl kM, [.ref pm, .ref t3, .ref t4]), (t2, true, .inl kS, [.ref b2, .int 0]), (t4, true, .inl kS, [.ref b4, .int 0]), (b4, true, .inr .byte, c4.map bt)]) rfl ?_
      refine wp_front C 9 (L' := [(t2, true, .inl kS, [.ref b2, .int 0]), (b2, true, .inr .byte, c2.map bt), (u2, false, .inl kS, [.ref u2b, .int 0]), (u2b, false, .inr .byte, [.int 42]), (t1, true, .inl kS, [.ref b1, .int 0]), (b1, true, .inr .byte, c1.map bt), (t3, true, .inl kS, [.ref b3, .int 0]), (b3, true, .inr .byte, c3.map bt), (m1, true, .inl kM, [.ref pm, .ref t1, .ref t2]), (m2, true, .inl kM, [.ref pm, .ref t3, .ref t4]), (t4, true, .inl kS, [.ref b4, .int 0]), (b4, true, .inr .byte, c4.map bt)]) rfl ?_
      refine wp_virtual C (al := [.ref u2]) (rest := []) (L1 := [(t1, true, .inl kS, [.ref b1, .int 0]), (b1, true, .inr .byte, c1.map bt), (t3, true, .inl kS, [.ref b3, .int 0]), (b3, true, .inr .byte, c3.map bt), (m1, true, .inl kM, [.ref pm, .ref t1, .ref t2]), (m2, true, .inl kM, [.ref pm, .ref t3, .ref t4]), (t4, true, .inl kS, [.ref b4, .int 0]), (b4, true, .inr .byte, c4.map bt)]) (W := 0) (cells' := 4) (slots' := 16) 14 35 0 (rm_eq0 l Z a0 hw t2 b2 u2 u2b c2 [42] cz S1 hcz l2 lstar k2 (by decide)) rfl rfl rfl (wd hw 69 rfl) (wd hw 70 rfl) (nf_self (wd hw 72 rfl)) (wd hw 72 rfl) (wd hw 71 rfl) (wd hw 73 rfl) (wd hw 18 rfl) (by decide) pd12 rfl rfl rfl rfl (by decide) (by decide) rfl rfl rfl (by decide) (by decide) (fun v L' hQ => ?_)
      obtain ⟨rfl, rfl⟩ := hQ
      show Wp K 4 16 [(t2, true, .inl kS, [.ref b2, .int 0]), (b2, true, .inr .byte, c2.map bt), (u2, false, .inl kS, [.ref u2b, .int 0]), (u2b, false, .inr .byte, ([42]).map bt), (t1, true, .inl kS, [.ref b1, .int 0]), (b1, true, .inr .byte, c1.map bt), (t3, true, .inl kS, [.ref b3, .int 0]), (b3, true, .inr .byte, c3.map bt), (m1, true, .inl kM, [.ref pm, .ref t1, .ref t2]), (m2, true, .inl kM, [.ref pm, .ref t3, .ref t4]), (t4, true, .inl kS, [.ref b4, .int 0]), (b4, true, .inr .byte, c4.map bt)] 35 [.val (.ref m1), .val (.ref m2)] [.int (if c2 = [42] then 1 else 0)]
      refine wp_drop C 2 (L' := [(t2, true, .inl kS, [.ref b2, .int 0]), (b2, true, .inr .byte, c2.map bt), (u2b, false, .inr .byte, ([42]).map bt), (t1, true, .inl kS, [.ref b1, .int 0]), (b1, true, .inr .byte, c1.map bt), (t3, true, .inl kS, [.ref b3, .int 0]), (b3, true, .inr .byte, c3.map bt), (m1, true, .inl kM, [.ref pm, .ref t1, .ref t2]), (m2, true, .inl kM, [.ref pm, .ref t3, .ref t4]), (t4, true, .inl kS, [.ref b4, .int 0]), (b4, true, .inr .byte, c4.map bt)]) rfl ?_
      refine wp_drop C 2 (L' := [(t2, true, .inl kS, [.ref b2, .int 0]), (b2, true, .inr .byte, c2.map bt), (t1, true, .inl kS, [.ref b1, .int 0]), (b1, true, .inr .byte, c1.map bt), (t3, true, .inl kS, [.ref b3, .int 0]), (b3, true, .inr .byte, c3.map bt), (m1, true, .inl kM, [.ref pm, .ref t1, .ref t2]), (m2, true, .inl kM, [.ref pm, .ref t3, .ref t4]), (t4, true, .inl kS, [.ref b4, .int 0]), (b4, true, .inr .byte, c4.map bt)]) rfl ?_
      by_cases hq35 : c2 = [42]
      · rw [if_pos hq35]
        refine wp_ifz C 15 52 38 rfl rfl rfl (by decide) (fun _ => ?_) (fun h => absurd h (fun q : (1 : Int32) = 0 => absurd q (by decide)))
        refine wp_blk C 22 2 (pc' := 57) (ls' := [.val (.ref m1), .val (.ref m2)]) (st' := [.int 1]) rfl ?_
        refine wp_front C 9 (L' := [(b4, true, .inr .byte, c4.map bt), (t2, true, .inl kS, [.ref b2, .int 0]), (b2, true, .inr .byte, c2.map bt), (t1, true, .inl kS, [.ref b1, .int 0]), (b1, true, .inr .byte, c1.map bt), (t3, true, .inl kS, [.ref b3, .int 0]), (b3, true, .inr .byte, c3.map bt), (m1, true, .inl kM, [.ref pm, .ref t1, .ref t2]), (m2, true, .inl kM, [.ref pm, .ref t3, .ref t4]), (t4, true, .inl kS, [.ref b4, .int 0])]) rfl ?_
        refine wp_front C 9 (L' := [(t4, true, .inl kS, [.ref b4, .int 0]), (b4, true, .inr .byte, c4.map bt), (t2, true, .inl kS, [.ref b2, .int 0]), (b2, true, .inr .byte, c2.map bt), (t1, true, .inl kS, [.ref b1, .int 0]), (b1, true, .inr .byte, c1.map bt), (t3, true, .inl kS, [.ref b3, .int 0]), (b3, true, .inr .byte, c3.map bt), (m1, true, .inl kM, [.ref pm, .ref t1, .ref t2]), (m2, true, .inl kM, [.ref pm, .ref t3, .ref t4])]) rfl ?_
        refine wp_front C 7 (L' := [(b3, true, .inr .byte, c3.map bt), (t4, true, .inl kS, [.ref b4, .int 0]), (b4, true, .inr .byte, c4.map bt), (t2, true, .inl kS, [.ref b2, .int 0]), (b2, true, .inr .byte, c2.map bt), (t1, true, .inl kS, [.ref b1, .int 0]), (b1, true, .inr .byte, c1.map bt), (t3, true, .inl kS, [.ref b3, .int 0]), (m1, true, .inl kM, [.ref pm, .ref t1, .ref t2]), (m2, true, .inl kM, [.ref pm, .ref t3, .ref t4])]) rfl ?_
        refine wp_front C 7 (L' := [(t3, true, .inl kS, [.ref b3, .int 0]), (b3, true, .inr .byte, c3.map bt), (t4, true, .inl kS, [.ref b4, .int 0]), (b4, true, .inr .byte, c4.map bt), (t2, true, .inl kS, [.ref b2, .int 0]), (b2, true, .inr .byte, c2.map bt), (t1, true, .inl kS, [.ref b1, .int 0]), (b1, true, .inr .byte, c1.map bt), (m1, true, .inl kM, [.ref pm, .ref t1, .ref t2]), (m2, true, .inl kM, [.ref pm, .ref t3, .ref t4])]) rfl ?_
        refine wp_front C 5 (L' := [(b2, true, .inr .byte, c2.map bt), (t3, true, .inl kS, [.ref b3, .int 0]), (b3, true, .inr .byte, c3.map bt), (t4, true, .inl kS, [.ref b4, .int 0]), (b4, true, .inr .byte, c4.map bt), (t2, true, .inl kS, [.ref b2, .int 0]), (t1, true, .inl kS, [.ref b1, .int 0]), (b1, true, .inr .byte, c1.map bt), (m1, true, .inl kM, [.ref pm, .ref t1, .ref t2]), (m2, true, .inl kM, [.ref pm, .ref t3, .ref t4])]) rfl ?_
        refine wp_front C 5 (L' := [(t2, true, .inl kS, [.ref b2, .int 0]), (b2, true, .inr .byte, c2.map bt), (t3, true, .inl kS, [.ref b3, .int 0]), (b3, true, .inr .byte, c3.map bt), (t4, true, .inl kS, [.ref b4, .int 0]), (b4, true, .inr .byte, c4.map bt), (t1, true, .inl kS, [.ref b1, .int 0]), (b1, true, .inr .byte, c1.map bt), (m1, true, .inl kM, [.ref pm, .ref t1, .ref t2]), (m2, true, .inl kM, [.ref pm, .ref t3, .ref t4])]) rfl ?_
        refine wp_front C 7 (L' := [(b1, true, .inr .byte, c1.map bt), (t2, true, .inl kS, [.ref b2, .int 0]), (b2, true, .inr .byte, c2.map bt), (t3, true, .inl kS, [.ref b3, .int 0]), (b3, true, .inr .byte, c3.map bt), (t4, true, .inl kS, [.ref b4, .int 0]), (b4, true, .inr .byte, c4.map bt), (t1, true, .inl kS, [.ref b1, .int 0]), (m1, true, .inl kM, [.ref pm, .ref t1, .ref t2]), (m2, true, .inl kM, [.ref pm, .ref t3, .ref t4])]) rfl ?_
        refine wp_front C 7 (L' := [(t1, true, .inl kS, [.ref b1, .int 0]), (b1, true, .inr .byte, c1.map bt), (t2, true, .inl kS, [.ref b2, .int 0]), (b2, true, .inr .byte, c2.map bt), (t3, true, .inl kS, [.ref b3, .int 0]), (b3, true, .inr .byte, c3.map bt), (t4, true, .inl kS, [.ref b4, .int 0]), (b4, true, .inr .byte, c4.map bt), (m1, true, .inl kM, [.ref pm, .ref t1, .ref t2]), (m2, true, .inl kM, [.ref pm, .ref t3, .ref t4])]) rfl ?_
        refine wp_front C 9 (L' := [(m2, true, .inl kM, [.ref pm, .ref t3, .ref t4]), (t1, true, .inl kS, [.ref b1, .int 0]), (b1, true, .inr .byte, c1.map bt), (t2, true, .inl kS, [.ref b2, .int 0]), (b2, true, .inr .byte, c2.map bt), (t3, true, .inl kS, [.ref b3, .int 0]), (b3, true, .inr .byte, c3.map bt), (t4, true, .inl kS, [.ref b4, .int 0]), (b4, true, .inr .byte, c4.map bt), (m1, true, .inl kM, [.ref pm, .ref t1, .ref t2])]) rfl ?_
        refine wp_front C 9 (L' := [(m1, true, .inl kM, [.ref pm, .ref t1, .ref t2]), (m2, true, .inl kM, [.ref pm, .ref t3, .ref t4]), (t1, true, .inl kS, [.ref b1, .int 0]), (b1, true, .inr .byte, c1.map bt), (t2, true, .inl kS, [.ref b2, .int 0]), (b2, true, .inr .byte, c2.map bt), (t3, true, .inl kS, [.ref b3, .int 0]), (b3, true, .inr .byte, c3.map bt), (t4, true, .inl kS, [.ref b4, .int 0]), (b4, true, .inr .byte, c4.map bt)]) rfl ?_
        exact wp_retN C (z' := 1) 25 rfl (Or.inl rfl) rfl (by decide) (by decide) (⟨by rw [if_pos (by simp [hq9, hq23, hq35])], rfl⟩)
      · rw [if_neg hq35]
        refine wp_ifz C 15 52 38 rfl rfl rfl (by decide) (fun h => absurd h (fun q : (0 : Int32) ≠ 0 => absurd q (by decide))) (fun _ => ?_)
        refine wp_blk C 16 1 (pc' := 39) (ls' := [.val (.ref m1), .val (.ref m2)]) (st' := [.ref m1]) rfl ?_
        refine wp_get C 17 42 6 2 rfl rfl (wd hw 59 rfl) Via.refl rfl rfl rfl ?_
        refine wp_blk C 18 1 (pc' := 43) (ls' := [.val (.ref m1), .val (.ref m2)]) (st' := [.ref m2, .ref t2]) rfl ?_
        refine wp_get C 19 46 7 2 rfl rfl (wd hw 59 rfl) Via.refl rfl rfl rfl ?_
        refine wp_front C 9 (L' := [(b4, true, .inr .byte, c4.map bt), (t2, true, .inl kS, [.ref b2, .int 0]), (b2, true, .inr .byte, c2.map bt), (t1, true, .inl kS, [.ref b1, .int 0]), (b1, true, .inr .byte, c1.map bt), (t3, true, .inl kS, [.ref b3, .int 0]), (b3, true, .inr .byte, c3.map bt), (m1, true, .inl kM, [.ref pm, .ref t1, .ref t2]), (m2, true, .inl kM, [.ref pm, .ref t3, .ref t4]), (t4, true, .inl kS, [.ref b4, .int 0])]) rfl ?_
        refine wp_front C 9 (L' := [(t4, true, .inl kS, [.ref b4, .int 0]), (b4, true, .inr .byte, c4.map bt), (t2, true, .inl kS, [.ref b2, .int 0]), (b2, true, .inr .byte, c2.map bt), (t1, true, .inl kS, [.ref b1, .int 0]), (b1, true, .inr .byte, c1.map bt), (t3, true, .inl kS, [.ref b3, .int 0]), (b3, true, .inr .byte, c3.map bt), (m1, true, .inl kM, [.ref pm, .ref t1, .ref t2]), (m2, true, .inl kM, [.ref pm, .ref t3, .ref t4])]) rfl ?_
        refine wp_front C 3 (L' := [(b2, true, .inr .byte, c2.map bt), (t4, true, .inl kS, [.ref b4, .int 0]), (b4, true, .inr .byte, c4.map bt), (t2, true, .inl kS, [.ref b2, .int 0]), (t1, true, .inl kS, [.ref b1, .int 0]), (b1, true, .inr .byte, c1.map bt), (t3, true, .inl kS, [.ref b3, .int 0]), (b3, true, .inr .byte, c3.map bt), (m1, true, .inl kM, [.ref pm, .ref t1, .ref t2]), (m2, true, .inl kM, [.ref pm, .ref t3, .ref t4])]) rfl ?_
        refine wp_front C 3 (L' := [(t2, true, .inl kS, [.ref b2, .int 0]), (b2, true, .inr .byte, c2.map bt), (t4, true, .inl kS, [.ref b4, .int 0]), (b4, true, .inr .byte, c4.map bt), (t1, true, .inl kS, [.ref b1, .int 0]), (b1, true, .inr .byte, c1.map bt), (t3, true, .inl kS, [.ref b3, .int 0]), (b3, true, .inr .byte, c3.map bt), (m1, true, .inl kM, [.ref pm, .ref t1, .ref t2]), (m2, true, .inl kM, [.ref pm, .ref t3, .ref t4])]) rfl ?_
        refine wp_virtual C (al := [.ref t4]) (rest := []) (L1 := [(t1, true, .inl kS, [.ref b1, .int 0]), (b1, true, .inr .byte, c1.map bt), (t3, true, .inl kS, [.ref b3, .int 0]), (b3, true, .inr .byte, c3.map bt), (m1, true, .inl kM, [.ref pm, .ref t1, .ref t2]), (m2, true, .inl kM, [.ref pm, .ref t3, .ref t4])]) (W := 0) (cells' := 4) (slots' := 16) 20 49 0 (rm_eq1 l Z a0 hw t2 b2 t4 b4 c2 c4 cz S1 hcz l2 l4 k2 k4) rfl rfl rfl (wd hw 69 rfl) (wd hw 70 rfl) (nf_self (wd hw 72 rfl)) (wd hw 72 rfl) (wd hw 71 rfl) (wd hw 73 rfl) (wd hw 18 rfl) (by decide) pd12 rfl rfl rfl rfl (by decide) (by decide) rfl rfl rfl (by decide) (by decide) (fun v L' hQ => ?_)
        obtain ⟨rfl, rfl⟩ := hQ
        show Wp K 4 16 [(t2, true, .inl kS, [.ref b2, .int 0]), (b2, true, .inr .byte, c2.map bt), (t4, true, .inl kS, [.ref b4, .int 0]), (b4, true, .inr .byte, c4.map bt), (t1, true, .inl kS, [.ref b1, .int 0]), (b1, true, .inr .byte, c1.map bt), (t3, true, .inl kS, [.ref b3, .int 0]), (b3, true, .inr .byte, c3.map bt), (m1, true, .inl kM, [.ref pm, .ref t1, .ref t2]), (m2, true, .inl kM, [.ref pm, .ref t3, .ref t4])] 49 [.val (.ref m1), .val (.ref m2)] [.int (if c2 = c4 then 1 else 0)]
        by_cases hq49 : c2 = c4
        · rw [if_pos hq49]
          refine wp_ifz C 21 56 52 rfl rfl rfl (by decide) (fun h => absurd h (fun q : (1 : Int32) = 0 => absurd q (by decide))) (fun _ => ?_)
          refine wp_blk C 22 2 (pc' := 57) (ls' := [.val (.ref m1), .val (.ref m2)]) (st' := [.int 1]) rfl ?_
          refine wp_front C 3 (L' := [(b4, true, .inr .byte, c4.map bt), (t2, true, .inl kS, [.ref b2, .int 0]), (b2, true, .inr .byte, c2.map bt), (t4, true, .inl kS, [.ref b4, .int 0]), (t1, true, .inl kS, [.ref b1, .int 0]), (b1, true, .inr .byte, c1.map bt), (t3, true, .inl kS, [.ref b3, .int 0]), (b3, true, .inr .byte, c3.map bt), (m1, true, .inl kM, [.ref pm, .ref t1, .ref t2]), (m2, true, .inl kM, [.ref pm, .ref t3, .ref t4])]) rfl ?_
          refine wp_front C 3 (L' := [(t4, true, .inl kS, [.ref b4, .int 0]), (b4, true, .inr .byte, c4.map bt), (t2, true, .inl kS, [.ref b2, .int 0]), (b2, true, .inr .byte, c2.map bt), (t1, true, .inl kS, [.ref b1, .int 0]), (b1, true, .inr .byte, c1.map bt), (t3, true, .inl kS, [.ref b3, .int 0]), (b3, true, .inr .byte, c3.map bt), (m1, true, .inl kM, [.ref pm, .ref t1, .ref t2]), (m2, true, .inl kM, [.ref pm, .ref t3, .ref t4])]) rfl ?_
          refine wp_front C 7 (L' := [(b3, true, .inr .byte, c3.map bt), (t4, true, .inl kS, [.ref b4, .int 0]), (b4, true, .inr .byte, c4.map bt), (t2, true, .inl kS, [.ref b2, .int 0]), (b2, true, .inr .byte, c2.map bt), (t1, true, .inl kS, [.ref b1, .int 0]), (b1, true, .inr .byte, c1.map bt), (t3, true, .inl kS, [.ref b3, .int 0]), (m1, true, .inl kM, [.ref pm, .ref t1, .ref t2]), (m2, true, .inl kM, [.ref pm, .ref t3, .ref t4])]) rfl ?_
          refine wp_front C 7 (L' := [(t3, true, .inl kS, [.ref b3, .int 0]), (b3, true, .inr .byte, c3.map bt), (t4, true, .inl kS, [.ref b4, .int 0]), (b4, true, .inr .byte, c4.map bt), (t2, true, .inl kS, [.ref b2, .int 0]), (b2, true, .inr .byte, c2.map bt), (t1, true, .inl kS, [.ref b1, .int 0]), (b1, true, .inr .byte, c1.map bt), (m1, true, .inl kM, [.ref pm, .ref t1, .ref t2]), (m2, true, .inl kM, [.ref pm, .ref t3, .ref t4])]) rfl ?_
          refine wp_front C 5 (L' := [(b2, true, .inr .byte, c2.map bt), (t3, true, .inl kS, [.ref b3, .int 0]), (b3, true, .inr .byte, c3.map bt), (t4, true, .inl kS, [.ref b4, .int 0]), (b4, true, .inr .byte, c4.map bt), (t2, true, .inl kS, [.ref b2, .int 0]), (t1, true, .inl kS, [.ref b1, .int 0]), (b1, true, .inr .byte, c1.map bt), (m1, true, .inl kM, [.ref pm, .ref t1, .ref t2]), (m2, true, .inl kM, [.ref pm, .ref t3, .ref t4])]) rfl ?_
          refine wp_front C 5 (L' := [(t2, true, .inl kS, [.ref b2, .int 0]), (b2, true, .inr .byte, c2.map bt), (t3, true, .inl kS, [.ref b3, .int 0]), (b3, true, .inr .byte, c3.map bt), (t4, true, .inl kS, [.ref b4, .int 0]), (b4, true, .inr .byte, c4.map bt), (t1, true, .inl kS, [.ref b1, .int 0]), (b1, true, .inr .byte, c1.map bt), (m1, true, .inl kM, [.ref pm, .ref t1, .ref t2]), (m2, true, .inl kM, [.ref pm, .ref t3, .ref t4])]) rfl ?_
          refine wp_front C 7 (L' := [(b1, true, .inr .byte, c1.map bt), (t2, true, .inl kS, [.ref b2, .int 0]), (b2, true, .inr .byte, c2.map bt), (t3, true, .inl kS, [.ref b3, .int 0]), (b3, true, .inr .byte, c3.map bt), (t4, true, .inl kS, [.ref b4, .int 0]), (b4, true, .inr .byte, c4.map bt), (t1, true, .inl kS, [.ref b1, .int 0]), (m1, true, .inl kM, [.ref pm, .ref t1, .ref t2]), (m2, true, .inl kM, [.ref pm, .ref t3, .ref t4])]) rfl ?_
          refine wp_front C 7 (L' := [(t1, true, .inl kS, [.ref b1, .int 0]), (b1, true, .inr .byte, c1.map bt), (t2, true, .inl kS, [.ref b2, .int 0]), (b2, true, .inr .byte, c2.map bt), (t3, true, .inl kS, [.ref b3, .int 0]), (b3, true, .inr .byte, c3.map bt), (t4, true, .inl kS, [.ref b4, .int 0]), (b4, true, .inr .byte, c4.map bt), (m1, true, .inl kM, [.ref pm, .ref t1, .ref t2]), (m2, true, .inl kM, [.ref pm, .ref t3, .ref t4])]) rfl ?_
          refine wp_front C 9 (L' := [(m2, true, .inl kM, [.ref pm, .ref t3, .ref t4]), (t1, true, .inl kS, [.ref b1, .int 0]), (b1, true, .inr .byte, c1.map bt), (t2, true, .inl kS, [.ref b2, .int 0]), (b2, true, .inr .byte, c2.map bt), (t3, true, .inl kS, [.ref b3, .int 0]), (b3, true, .inr .byte, c3.map bt), (t4, true, .inl kS, [.ref b4, .int 0]), (b4, true, .inr .byte, c4.map bt), (m1, true, .inl kM, [.ref pm, .ref t1, .ref t2])]) rfl ?_
          refine wp_front C 9 (L' := [(m1, true, .inl kM, [.ref pm, .ref t1, .ref t2]), (m2, true, .inl kM, [.ref pm, .ref t3, .ref t4]), (t1, true, .inl kS, [.ref b1, .int 0]), (b1, true, .inr .byte, c1.map bt), (t2, true, .inl kS, [.ref b2, .int 0]), (b2, true, .inr .byte, c2.map bt), (t3, true, .inl kS, [.ref b3, .int 0]), (b3, true, .inr .byte, c3.map bt), (t4, true, .inl kS, [.ref b4, .int 0]), (b4, true, .inr .byte, c4.map bt)]) rfl ?_
          exact wp_retN C (z' := 1) 25 rfl (Or.inl rfl) rfl (by decide) (by decide) (⟨by rw [if_pos (by simp [hq9, hq23, hq35, hq49])], rfl⟩)
        · rw [if_neg hq49]
          refine wp_ifz C 21 56 52 rfl rfl rfl (by decide) (fun _ => ?_) (fun h => absurd h (fun q : (0 : Int32) ≠ 0 => absurd q (by decide)))
          refine wp_blk C 24 1 (pc' := 57) (ls' := [.val (.ref m1), .val (.ref m2)]) (st' := [.int 0]) rfl ?_
          refine wp_front C 3 (L' := [(b4, true, .inr .byte, c4.map bt), (t2, true, .inl kS, [.ref b2, .int 0]), (b2, true, .inr .byte, c2.map bt), (t4, true, .inl kS, [.ref b4, .int 0]), (t1, true, .inl kS, [.ref b1, .int 0]), (b1, true, .inr .byte, c1.map bt), (t3, true, .inl kS, [.ref b3, .int 0]), (b3, true, .inr .byte, c3.map bt), (m1, true, .inl kM, [.ref pm, .ref t1, .ref t2]), (m2, true, .inl kM, [.ref pm, .ref t3, .ref t4])]) rfl ?_
          refine wp_front C 3 (L' := [(t4, true, .inl kS, [.ref b4, .int 0]), (b4, true, .inr .byte, c4.map bt), (t2, true, .inl kS, [.ref b2, .int 0]), (b2, true, .inr .byte, c2.map bt), (t1, true, .inl kS, [.ref b1, .int 0]), (b1, true, .inr .byte, c1.map bt), (t3, true, .inl kS, [.ref b3, .int 0]), (b3, true, .inr .byte, c3.map bt), (m1, true, .inl kM, [.ref pm, .ref t1, .ref t2]), (m2, true, .inl kM, [.ref pm, .ref t3, .ref t4])]) rfl ?_
          refine wp_front C 7 (L' := [(b3, true, .inr .byte, c3.map bt), (t4, true, .inl kS, [.ref b4, .int 0]), (b4, true, .inr .byte, c4.map bt), (t2, true, .inl kS, [.ref b2, .int 0]), (b2, true, .inr .byte, c2.map bt), (t1, true, .inl kS, [.ref b1, .int 0]), (b1, true, .inr .byte, c1.map bt), (t3, true, .inl kS, [.ref b3, .int 0]), (m1, true, .inl kM, [.ref pm, .ref t1, .ref t2]), (m2, true, .inl kM, [.ref pm, .ref t3, .ref t4])]) rfl ?_
          refine wp_front C 7 (L' := [(t3, true, .inl kS, [.ref b3, .int 0]), (b3, true, .inr .byte, c3.map bt), (t4, true, .inl kS, [.ref b4, .int 0]), (b4, true, .inr .byte, c4.map bt), (t2, true, .inl kS, [.ref b2, .int 0]), (b2, true, .inr .byte, c2.map bt), (t1, true, .inl kS, [.ref b1, .int 0]), (b1, true, .inr .byte, c1.map bt), (m1, true, .inl kM, [.ref pm, .ref t1, .ref t2]), (m2, true, .inl kM, [.ref pm, .ref t3, .ref t4])]) rfl ?_
          refine wp_front C 5 (L' := [(b2, true, .inr .byte, c2.map bt), (t3, true, .inl kS, [.ref b3, .int 0]), (b3, true, .inr .byte, c3.map bt), (t4, true, .inl kS, [.ref b4, .int 0]), (b4, true, .inr .byte, c4.map bt), (t2, true, .inl kS, [.ref b2, .int 0]), (t1, true, .inl kS, [.ref b1, .int 0]), (b1, true, .inr .byte, c1.map bt), (m1, true, .inl kM, [.ref pm, .ref t1, .ref t2]), (m2, true, .inl kM, [.ref pm, .ref t3, .ref t4])]) rfl ?_
          refine wp_front C 5 (L' := [(t2, true, .inl kS, [.ref b2, .int 0]), (b2, true, .inr .byte, c2.map bt), (t3, true, .inl kS, [.ref b3, .int 0]), (b3, true, .inr .byte, c3.map bt), (t4, true, .inl kS, [.ref b4, .int 0]), (b4, true, .inr .byte, c4.map bt), (t1, true, .inl kS, [.ref b1, .int 0]), (b1, true, .inr .byte, c1.map bt), (m1, true, .inl kM, [.ref pm, .ref t1, .ref t2]), (m2, true, .inl kM, [.ref pm, .ref t3, .ref t4])]) rfl ?_
          refine wp_front C 7 (L' := [(b1, true, .inr .byte, c1.map bt), (t2, true, .inl kS, [.ref b2, .int 0]), (b2, true, .inr .byte, c2.map bt), (t3, true, .inl kS, [.ref b3, .int 0]), (b3, true, .inr .byte, c3.map bt), (t4, true, .inl kS, [.ref b4, .int 0]), (b4, true, .inr .byte, c4.map bt), (t1, true, .inl kS, [.ref b1, .int 0]), (m1, true, .inl kM, [.ref pm, .ref t1, .ref t2]), (m2, true, .inl kM, [.ref pm, .ref t3, .ref t4])]) rfl ?_
          refine wp_front C 7 (L' := [(t1, true, .inl kS, [.ref b1, .int 0]), (b1, true, .inr .byte, c1.map bt), (t2, true, .inl kS, [.ref b2, .int 0]), (b2, true, .inr .byte, c2.map bt), (t3, true, .inl kS, [.ref b3, .int 0]), (b3, true, .inr .byte, c3.map bt), (t4, true, .inl kS, [.ref b4, .int 0]), (b4, true, .inr .byte, c4.map bt), (m1, true, .inl kM, [.ref pm, .ref t1, .ref t2]), (m2, true, .inl kM, [.ref pm, .ref t3, .ref t4])]) rfl ?_
          refine wp_front C 9 (L' := [(m2, true, .inl kM, [.ref pm, .ref t3, .ref t4]), (t1, true, .inl kS, [.ref b1, .int 0]), (b1, true, .inr .byte, c1.map bt), (t2, true, .inl kS, [.ref b2, .int 0]), (b2, true, .inr .byte, c2.map bt), (t3, true, .inl kS, [.ref b3, .int 0]), (b3, true, .inr .byte, c3.map bt), (t4, true, .inl kS, [.ref b4, .int 0]), (b4, true, .inr .byte, c4.map bt), (m1, true, .inl kM, [.ref pm, .ref t1, .ref t2])]) rfl ?_
          refine wp_front C 9 (L' := [(m1, true, .inl kM, [.ref pm, .ref t1, .ref t2]), (m2, true, .inl kM, [.ref pm, .ref t3, .ref t4]), (t1, true, .inl kS, [.ref b1, .int 0]), (b1, true, .inr .byte, c1.map bt), (t2, true, .inl kS, [.ref b2, .int 0]), (b2, true, .inr .byte, c2.map bt), (t3, true, .inl kS, [.ref b3, .int 0]), (b3, true, .inr .byte, c3.map bt), (t4, true, .inl kS, [.ref b4, .int 0]), (b4, true, .inr .byte, c4.map bt)]) rfl ?_
          exact wp_retN C (z' := 0) 25 rfl (Or.inl rfl) rfl (by decide) (by decide) (⟨by rw [if_neg (by intro q; rcases q with q | ⟨q, q2 | q2⟩ <;> contradiction)], rfl⟩)
    · rw [if_neg hq23]
      refine wp_ifz C 10 56 26 rfl rfl rfl (by decide) (fun _ => ?_) (fun h => absurd h (fun q : (0 : Int32) ≠ 0 => absurd q (by decide)))
      refine wp_blk C 24 1 (pc' := 57) (ls' := [.val (.ref m1), .val (.ref m2)]) (st' := [.int 0]) rfl ?_
      refine wp_front C 9 (L' := [(b4, true, .inr .byte, c4.map bt), (t1, true, .inl kS, [.ref b1, .int 0]), (b1, true, .inr .byte, c1.map bt), (t3, true, .inl kS, [.ref b3, .int 0]), (b3, true, .inr .byte, c3.map bt), (m1, true, .inl kM, [.ref pm, .ref t1, .ref t2]), (m2, true, .inl kM, [.ref pm, .ref t3, .ref t4]), (t2, true, .inl kS, [.ref b2, .int 0]), (b2, true, .inr .byte, c2.map bt), (t4, true, .inl kS, [.ref b4, .int 0])]) rfl ?_
      refine wp_front C 9 (L' := [(t4, true, .inl kS, [.ref b4, .int 0]), (b4, true, .inr .byte, c4.map bt), (t1, true, .inl kS, [.ref b1, .int 0]), (b1, true, .inr .byte, c1.map bt), (t3, true, .inl kS, [.ref b3, .int 0]), (b3, true, .inr .byte, c3.map bt), (m1, true, .inl kM, [.ref pm, .ref t1, .ref t2]), (m2, true, .inl kM, [.ref pm, .ref t3, .ref t4]), (t2, true, .inl kS, [.ref b2, .int 0]), (b2, true, .inr .byte, c2.map bt)]) rfl ?_
      refine wp_front C 5 (L' := [(b3, true, .inr .byte, c3.map bt), (t4, true, .inl kS, [.ref b4, .int 0]), (b4, true, .inr .byte, c4.map bt), (t1, true, .inl kS, [.ref b1, .int 0]), (b1, true, .inr .byte, c1.map bt), (t3, true, .inl kS, [.ref b3, .int 0]), (m1, true, .inl kM, [.ref pm, .ref t1, .ref t2]), (m2, true, .inl kM, [.ref pm, .ref t3, .ref t4]), (t2, true, .inl kS, [.ref b2, .int 0]), (b2, true, .inr .byte, c2.map bt)]) rfl ?_
      refine wp_front C 5 (L' := [(t3, true, .inl kS, [.ref b3, .int 0]), (b3, true, .inr .byte, c3.map bt), (t4, true, .inl kS, [.ref b4, .int 0]), (b4, true, .inr .byte, c4.map bt), (t1, true, .inl kS, [.ref b1, .int 0]), (b1, true, .inr .byte, c1.map bt), (m1, true, .inl kM, [.ref pm, .ref t1, .ref t2]), (m2, true, .inl kM, [.ref pm, .ref t3, .ref t4]), (t2, true, .inl kS, [.ref b2, .int 0]), (b2, true, .inr .byte, c2.map bt)]) rfl ?_
      refine wp_front C 9 (L' := [(b2, true, .inr .byte, c2.map bt), (t3, true, .inl kS, [.ref b3, .int 0]), (b3, true, .inr .byte, c3.map bt), (t4, true, .inl kS, [.ref b4, .int 0]), (b4, true, .inr .byte, c4.map bt), (t1, true, .inl kS, [.ref b1, .int 0]), (b1, true, .inr .byte, c1.map bt), (m1, true, .inl kM, [.ref pm, .ref t1, .ref t2]), (m2, true, .inl kM, [.ref pm, .ref t3, .ref t4]), (t2, true, .inl kS, [.ref b2, .int 0])]) rfl ?_
      refine wp_front C 9 (L' := [(t2, true, .inl kS, [.ref b2, .int 0]), (b2, true, .inr .byte, c2.map bt), (t3, true, .inl kS, [.ref b3, .int 0]), (b3, true, .inr .byte, c3.map bt), (t4, true, .inl kS, [.ref b4, .int 0]), (b4, true, .inr .byte, c4.map bt), (t1, true, .inl kS, [.ref b1, .int 0]), (b1, true, .inr .byte, c1.map bt), (m1, true, .inl kM, [.ref pm, .ref t1, .ref t2]), (m2, true, .inl kM, [.ref pm, .ref t3, .ref t4])]) rfl ?_
      refine wp_front C 7 (L' := [(b1, true, .inr .byte, c1.map bt), (t2, true, .inl kS, [.ref b2, .int 0]), (b2, true, .inr .byte, c2.map bt), (t3, true, .inl kS, [.ref b3, .int 0]), (b3, true, .inr .byte, c3.map bt), (t4, true, .inl kS, [.ref b4, .int 0]), (b4, true, .inr .byte, c4.map bt), (t1, true, .inl kS, [.ref b1, .int 0]), (m1, true, .inl kM, [.ref pm, .ref t1, .ref t2]), (m2, true, .inl kM, [.ref pm, .ref t3, .ref t4])]) rfl ?_
      refine wp_front C 7 (L' := [(t1, true, .inl kS, [.ref b1, .int 0]), (b1, true, .inr .byte, c1.map bt), (t2, true, .inl kS, [.ref b2, .int 0]), (b2, true, .inr .byte, c2.map bt), (t3, true, .inl kS, [.ref b3, .int 0]), (b3, true, .inr .byte, c3.map bt), (t4, true, .inl kS, [.ref b4, .int 0]), (b4, true, .inr .byte, c4.map bt), (m1, true, .inl kM, [.ref pm, .ref t1, .ref t2]), (m2, true, .inl kM, [.ref pm, .ref t3, .ref t4])]) rfl ?_
      refine wp_front C 9 (L' := [(m2, true, .inl kM, [.ref pm, .ref t3, .ref t4]), (t1, true, .inl kS, [.ref b1, .int 0]), (b1, true, .inr .byte, c1.map bt), (t2, true, .inl kS, [.ref b2, .int 0]), (b2, true, .inr .byte, c2.map bt), (t3, true, .inl kS, [.ref b3, .int 0]), (b3, true, .inr .byte, c3.map bt), (t4, true, .inl kS, [.ref b4, .int 0]), (b4, true, .inr .byte, c4.map bt), (m1, true, .inl kM, [.ref pm, .ref t1, .ref t2])]) rfl ?_
      refine wp_front C 9 (L' := [(m1, true, .inl kM, [.ref pm, .ref t1, .ref t2]), (m2, true, .inl kM, [.ref pm, .ref t3, .ref t4]), (t1, true, .inl kS, [.ref b1, .int 0]), (b1, true, .inr .byte, c1.map bt), (t2, true, .inl kS, [.ref b2, .int 0]), (b2, true, .inr .byte, c2.map bt), (t3, true, .inl kS, [.ref b3, .int 0]), (b3, true, .inr .byte, c3.map bt), (t4, true, .inl kS, [.ref b4, .int 0]), (b4, true, .inr .byte, c4.map bt)]) rfl ?_
      exact wp_retN C (z' := 0) 25 rfl (Or.inl rfl) rfl (by decide) (by decide) (⟨by rw [if_neg (by intro q; rcases q with q | ⟨q, q2 | q2⟩ <;> contradiction)], rfl⟩)

theorem len12 (y : Int32) : 1 + (y &&& 1) = 1 ∨ 1 + (y &&& 1) = 2 := by
  rcases and_one y with h | h <;> rw [h]
  · exact Or.inl (by decide)
  · exact Or.inr (by decide)
theorem lat_strV {n x z : Int32} (hx : 0 ≤ x.toInt ∧ x.toInt ≤ 255) (hz : 0 ≤ z.toInt ∧ z.toInt ≤ 255) : Lat (strV n x z) := by
  intro c hc
  unfold strV at hc
  split at hc
  · simp only [List.mem_cons, List.not_mem_nil, or_false] at hc; subst hc; exact hx
  · simp only [List.mem_cons, List.not_mem_nil, or_false] at hc; rcases hc with rfl | rfl <;> assumption
theorem len_strV (n x z : Int32) : (strV n x z).length < 2 ^ 31 := by unfold strV; split <;> simp
theorem strV_star {n x z : Int32} : strV n x z = [42] ↔ (n = 1 ∧ x = 42) := by
  unfold strV
  split <;> simp_all
theorem strV_eq {n x z n' x' z' : Int32} (h : n = 1 ∨ n = 2) (h' : n' = 1 ∨ n' = 2) : strV n x z = strV n' x' z' ↔ (n = n' ∧ x = x' ∧ (n = 1 ∨ z = z')) := by
  unfold strV
  rcases h with rfl | rfl <;> rcases h' with rfl | rfl <;> simp

theorem ite_ne0 {P : Prop} [Decidable P] : ((if P then 1 else 0 : Int32) ≠ 0) = P := by by_cases h : P <;> simp [h]
theorem pn17 : plainFor x = true := by first | (refine plainFor_of_name ?_; simp [plainName, overriddenIn]; done) | (refine plainFor_of_name ?_; decide +kernel) | decide +kernel
theorem pd13 : parseMethodDescriptor "()Ljava/util/Map;" = some ⟨[], (some (.object "java/util/Map"))⟩ := by decide +kernel
theorem pd14 : parseMethodDescriptor "(ICC)Ljava/lang/String;" = some ⟨[.int, .char, .char], (some (.object "java/lang/String"))⟩ := by decide +kernel
theorem pd15 : parseMethodDescriptor "(Ljava/lang/String;Ljava/lang/String;Ljava/util/Map;)V" = some ⟨[(.object "java/lang/String"), (.object "java/lang/String"), (.object "java/util/Map")], none⟩ := by decide +kernel
theorem pd16 : parseMethodDescriptor "(Lcom/example/fieldweave/fieldweave/http/MediaType;)Z" = some ⟨[(.object "com/example/fieldweave/fieldweave/http/MediaType")], (some .boolean)⟩ := by decide +kernel
def B_rm_law : Prog := [(0, .getstatic 7, 3), (3, .invokevirtual 13, 3), (6, .astore 5, 2), (8, .iconst 1, 1), (9, .iload 4, 2), (11, .iconst 1, 1), (12, .iand, 1), (13, .iadd, 1), (14, .istore 6, 2), (16, .iload 4, 2), (18, .bipush 6, 2), (20, .iushr, 1), (21, .iconst 1, 1), (22, .iand, 1), (23, .ifCond .eq 8, 3), (26, .bipush 42, 2), (28, .goto 9, 3), (31, .iload_n 0, 1), (32, .sipush 255, 3), (35, .iand, 1), (36, .i2c, 1), (37, .istore 7, 2), (39, .iload_n 0, 1), (40, .bipush 8, 2), (42, .iushr, 1), (43, .sipush 255, 3), (46, .iand, 1), (47, .i2c, 1), (48, .istore 8, 2), (50, .iconst 1, 1), (51, .iload 4, 2), (53, .iconst 1, 1), (54, .iushr, 1), (55, .iconst 1, 1), (56, .iand, 1), (57, .iadd, 1), (58, .istore 9, 2), (60, .iload 4, 2), (62, .bipush 7, 2), (64, .iushr, 1), (65, .iconst 1, 1), (66, .iand, 1), (67, .ifCond .eq 8, 3), (70, .bipush 42, 2), (72, .goto 9, 3), (75, .iload_n 1, 1), (76, .sipush 255, 3), (79, .iand, 1), (80, .i2c, 1), (81, .istore 10, 2), (83, .iload_n 1, 1), (84, .bipush 8, 2), (86, .iushr, 1), (87, .sipush 255, 3), (90, .iand, 1), (91, .i2c, 1), (92, .istore 11, 2), (94, .iload 4, 2), (96, .iconst 2, 1), (97, .iushr, 1), (98, .iconst 1, 1), (99, .iand, 1), (100, .ifCond .eq 7, 3), (103, .iconst 1, 1), (104, .goto 4, 3), (107, .iconst 0, 1), (108, .istore 12, 2), (110, .iload 12, 2), (112, .ifCond .eq 8, 3), (115, .iload 6, 2), (117, .goto 11, 3), (120, .iconst 1, 1), (121, .iload 4, 2), (123, .iconst 3, 1), (124, .iushr, 1), (125, .iconst 1, 1), (126, .iand, 1), (127, .iadd, 1), (128, .istore 13, 2), (130, .iload 12, 2), (132, .ifCond .eq 8, 3), (135, .iload 7, 2), (137, .goto 9, 3), (140, .iload_n 2, 1), (141, .sipush 255, 3), (144, .iand, 1), (145, .i2c, 1), (146, .istore 14, 2), (148, .iload 12, 2), (150, .ifCond .eq 8, 3), (153, .iload 8, 2), (155, .goto 12, 3), (158, .iload_n 2, 1), (159, .bipush 8, 2), (161, .iushr, 1), (162, .sipush 255, 3), (165, .iand, 1), (166, .i2c, 1), (167, .istore 15, 2), (169, .iload 4, 2), (171, .iconst 4, 1), (172, .iushr, 1), (173, .iconst 1, 1), (174, .iand, 1), (175, .ifCond .eq 7, 3), (178, .iconst 1, 1), (179, .goto 4, 3), (182, .iconst 0, 1), (183, .istore 16, 2), (185, .iload 16, 2), (187, .ifCond .eq 8, 3), (190, .iload 9, 2), (192, .goto 11, 3), (195, .iconst 1, 1), (196, .iload 4, 2), (198, .iconst 5, 1), (199, .iushr, 1), (200, .iconst 1, 1), (201, .iand, 1), (202, .iadd, 1), (203, .istore 17, 2), (205, .iload 16, 2), (207, .ifCond .eq 8, 3), (210, .iload 10, 2), (212, .goto 9, 3), (215, .iload_n 3, 1), (216, .sipush 255, 3), (219, .iand, 1), (220, .i2c, 1), (221, .istore 18, 2), (223, .iload 16, 2), (225, .ifCond .eq 8, 3), (228, .iload 11, 2), (230, .goto 12, 3), (233, .iload_n 3, 1), (234, .bipush 8, 2), (236, .iushr, 1), (237, .sipush 255, 3), (240, .iand, 1), (241, .i2c, 1), (242, .istore 19, 2), (244, .new 8, 3), (247, .dup, 1), (248, .iload 6, 2), (250, .iload 7, 2), (252, .iload 8, 2), (254, .invokestatic 17, 3), (257, .iload 9, 2), (259, .iload 10, 2), (261, .iload 11, 2), (263, .invokestatic 17, 3), (266, .aload 5, 2), (268, .invokespecial 23, 3), (271, .astore 20, 2), (273, .new 8, 3), (276, .dup, 1), (277, .iload 13, 2), (279, .iload 14, 2), (281, .iload 15, 2), (283, .invokestatic 17, 3), (286, .iload 17, 2), (288, .iload 18, 2), (290, .iload 19, 2), (292, .invokestatic 17, 3), (295, .aload 5, 2), (297, .invokespecial 23, 3), (300, .astore 21, 2), (302, .iload 6, 2), (304, .iconst 1, 1), (305, .if_icmp .ne 14, 3), (308, .iload 7, 2), (310, .bipush 42, 2), (312, .if_icmp .ne 7, 3), (315, .iconst 1, 1), (316, .goto 4, 3), (319, .iconst 0, 1), (320, .istore 22, 2), (322, .iload 9, 2), (324, .iconst 1, 1), (325, .if_icmp .ne 14, 3), (328, .iload 10, 2), (330, .bipush 42, 2), (332, .if_icmp .ne 7, 3), (335, .iconst 1, 1), (336, .goto 4, 3), (339, .iconst 0, 1), (340, .istore 23, 2), (342, .iload 6, 2), (344, .iload 13, 2), (346, .if_icmp .ne 27, 3), (349, .iload 7, 2), (351, .iload 14, 2), (353, .if_icmp .ne 20, 3), (356, .iload 6, 2), (358, .iconst 1, 1), (359, .if_icmp .eq 10, 3), (362, .iload 8, 2), (364, .iload 15, 2), (366, .if_icmp .ne 7, 3), (369, .iconst 1, 1), (370, .goto 4, 3), (373, .iconst 0, 1), (374, .istore 24, 2), (376, .iload 9, 2), (378, .iload 17, 2), (380, .if_icmp .ne 27, 3), (383, .iload 10, 2), (385, .iload 18, 2), (387, .if_icmp .ne 20, 3), (390, .iload 9, 2), (392, .iconst 1, 1), (393, .if_icmp .eq 10, 3), (396, .iload 11, 2), (398, .iload 19, 2), (400, .if_icmp .ne 7, 3), (403, .iconst 1, 1), (404, .goto 4, 3), (407, .iconst 0, 1), (408, .istore 25, 2), (410, .iload 22, 2), (412, .ifCond .ne 18, 3), (415, .iload 24, 2), (417, .ifCond .eq 17, 3), (420, .iload 23, 2), (422, .ifCond .ne 8, 3), (425, .iload 25, 2), (427, .ifCond .eq 7, 3), (430, .iconst 1, 1), (431, .goto 4, 3), (434, .iconst 0, 1), (435, .istore 26, 2), (437, .aload 20, 2), (439, .aload 21, 2), (441, .invokevirtual 26, 3), (444, .iload 26, 2), (446, .if_icmp .ne 7, 3), (449, .iconst 1, 1), (450, .goto 4, 3), (454, .ireturn, 1)]
theorem B_rm_law_ok : okB code B_rm_law = true := by decide +kernel
set_option maxRecDepth 65536 in
set_option maxHeartbeats 40000000 in
theorem rm_law (l : Launch) (Z : State) (a0 : Array Value) (hw : ∀ d ∈ tables_1, d.before a0 Z = true) (a b c d mode : Int32) (cz : Int32) (S1 : Sta Z Z.heap "java/lang/String" "COMPACT_STRINGS" "Z" (.int cz)) (hcz : cz ≠ 0) (ja pm : Addr) (SJ : Sta Z Z.heap "com/example/fieldweave/fieldweave/http/MediaType" "JSON" "Lcom/example/fieldweave/fieldweave/http/MediaType;" (.ref ja)) (IJ : It Z Z.heap (ja, false, .inl kMp, [.ref pm])) (IM : It Z Z.heap (pm, false, .inl kMap, [])) : Ct l Z EL1 nw1 x code maxLocals ret tables_1 room_1 [.int a, .int b, .int c, .int d, .int mode] [] (fun v L => v = some (.int 1)) := by
  refine ct_of pn17 (B := B_rm_law) (ls := [.val (.int a), .val (.int b), .val (.int c), .val (.int d), .val (.int mode), .unset, .unset, .unset, .unset, .unset, .unset, .unset, .unset, .unset, .unset, .unset, .unset, .unset, .unset, .unset, .unset, .unset, .unset, .unset, .unset, .unset, .unset]) B_rm_law_ok (ew1 hw) (fun m => by first | (simp [entryFrame, mkF, argsToLocals, Value.category, maxLocals]; done) | rfl) (fun K C => ?_)
  refine wp_getS C 0 3 rfl rfl (wd hw 0 rfl) Via.refl SJ ?_
  refine wp_old C IM ?_
  refine wp_old C IJ ?_
  refine wp_virtual C (al := []) (rest := []) (L1 := [(pm, false, .inl kMap, [])]) (W := 0) (cells' := 0) (slots' := 0) 1 6 0 (rm_par l Z a0 hw ja pm) rfl rfl rfl (wd hw 3 rfl) (wd hw 4 rfl) (nf_self (wd hw 6 rfl)) (wd hw 6 rfl) (wd hw 5 rfl) (wd hw 7 rfl) (wd hw 1 rfl) (by decide) pd13 rfl rfl rfl rfl (by decide) (by decide) rfl rfl rfl (by decide) (by decide) (fun v L' hQ => ?_)
  obtain ⟨rfl, rfl⟩ := hQ
  show Wp K 0 0 [(ja, false, .inl kMp, [.ref pm]), (pm, false, .inl kMap, [])] 6 [.val (.int a), .val (.int b), .val (.int c), .val (.int d), .val (.int mode), .unset, .unset, .unset, .unset, .unset, .unset, .unset, .unset, .unset, .unset, .unset, .unset, .unset, .unset, .unset, .unset, .unset, .unset, .unset, .unset, .unset, .unset] [.ref pm]
  refine wp_drop C 0 (L' := [(pm, false, .inl kMap, [])]) rfl ?_
  refine wp_blk C 2 7 (pc' := 16) (ls' := [.val (.int a), .val (.int b), .val (.int c), .val (.int d), .val (.int mode), .val (.ref pm), .val (.int (1 + (mode &&& 1))), .unset, .unset, .unset, .unset, .unset, .unset, .unset, .unset, .unset, .unset, .unset, .unset, .unset, .unset, .unset, .unset, .unset, .unset, .unset, .unset]) (st' := []) rfl ?_
  obtain ⟨tl, htl⟩ : ∃ z : Int32, z = 1 + (mode &&& 1) := ⟨_, rfl⟩
  rw [← htl]
  have Htl : tl = 1 ∨ tl = 2 := by rw [htl]; exact len12 _
  have J39 : ∀ t0 : Int32, (0 ≤ t0.toInt ∧ t0.toInt ≤ 255) → Wp K 0 0 [(pm, false, .inl kMap, [])] 39 [.val (.int a), .val (.int b), .val (.int c), .val (.int d), .val (.int mode), .val (.ref pm), .val (.int tl), .val (.int t0), .unset, .unset, .unset, .unset, .unset, .unset, .unset, .unset, .unset, .unset, .unset, .unset, .unset, .unset, .unset, .unset, .unset, .unset, .unset] [] := by
    intro t0 Ht0
    refine wp_blk C 22 7 (pc' := 50) (ls' := [.val (.int a), .val (.int b), .val (.int c), .val (.int d), .val (.int mode), .val (.ref pm), .val (.int tl), .val (.int t0), .val (.int (((ush a 8) &&& 255 : Int32).toUInt32.toUInt16.toUInt32.toInt32)), .unset, .unset, .unset, .unset, .unset, .unset, .unset, .unset, .unset, .unset, .unset, .unset, .unset, .unset, .unset, .unset, .unset, .unset]) (st' := []) rfl ?_
    obtain ⟨t1, ht1⟩ : ∃ z : Int32, z = ((ush a 8) &&& 255 : Int32).toUInt32.toUInt16.toUInt32.toInt32 := ⟨_, rfl⟩
    rw [← ht1]
    have Ht1 : 0 ≤ t1.toInt ∧ t1.toInt ≤ 255 := by rw [ht1]; exact (by rw [i2c_mask]; exact lat_and _)
    refine wp_blk C 29 8 (pc' := 60) (ls' := [.val (.int a), .val (.int b), .val (.int c), .val (.int d), .val (.int mode), .val (.ref pm), .val (.int tl), .val (.int t0), .val (.int t1), .val (.int (1 + ((ush mode 1) &&& 1))), .unset, .unset, .unset, .unset, .unset, .unset, .unset, .unset, .unset, .unset, .unset, .unset, .unset, .unset, .unset, .unset, .unset]) (st' := []) rfl ?_
    obtain ⟨sl, hsl⟩ : ∃ z : Int32, z = 1 + ((ush mode 1) &&& 1) := ⟨_, rfl⟩
    rw [← hsl]
    have Hsl : sl = 1 ∨ sl = 2 := by rw [hsl]; exact len12 _
    have J83 : ∀ s0 : Int32, (0 ≤ s0.toInt ∧ s0.toInt ≤ 255) → Wp K 0 0 [(pm, false, .inl kMap, [])] 83 [.val (.int a), .val (.int b), .val (.int c), .val (.int d), .val (.int mode), .val (.ref pm), .val (.int tl), .val (.int t0), .val (.int t1), .val (.int sl), .val (.int s0), .unset, .unset, .unset, .unset, .unset, .unset, .unset, .unset, .unset, .unset, .unset, .unset, .unset, .unset, .unset, .unset] [] := by
      intro s0 Hs0
      refine wp_blk C 50 7 (pc' := 94) (ls' := [.val (.int a), .val (.int b), .val (.int c), .val (.int d), .val (.int mode), .val (.ref pm), .val (.int tl), .val (.int t0), .val (.int t1), .val (.int sl), .val (.int s0), .val (.int (((ush b 8) &&& 255 : Int32).toUInt32.toUInt16.toUInt32.toInt32)), .unset, .unset, .unset, .unset, .unset, .unset, .unset, .unset, .unset, .unset, .unset, .unset, .unset, .unset, .unset]) (st' := []) rfl ?_
      obtain ⟨s1, hs1⟩ : ∃ z : Int32, z = ((ush b 8) &&& 255 : Int32).toUInt32.toUInt16.toUInt32.toInt32 := ⟨_, rfl⟩
      rw [← hs1]
      have Hs1 : 0 ≤ s1.toInt ∧ s1.toInt ≤ 255 := by rw [hs1]; exact (by rw [i2c_mask]; exact lat_and _)
      have J110 : ∀ q12 : Int32, Wp K 0 0 [(pm, false, .inl kMap, [])] 110 [.val (.int a), .val (.int b), .val (.int c), .val (.int d), .val (.int mode), .val (.ref pm), .val (.int tl), .val (.int t0), .val (.int t1), .val (.int sl), .val (.int s0), .val (.int s1), .val (.int q12), .unset, .unset, .unset, .unset, .unset, .unset, .unset, .unset, .unset, .unset, .unset, .unset, .unset, .unset] [] := by
        intro q12
        have J130 : ∀ ol : Int32, (ol = 1 ∨ ol = 2) → Wp K 0 0 [(pm, false, .inl kMap, [])] 130 [.val (.int a), .val (.int b), .val (.int c), .val (.int d), .val (.int mode), .val (.ref pm), .val (.int tl), .val (.int t0), .val (.int t1), .val (.int sl), .val (.int s0), .val (.int s1), .val (.int q12), .val (.int ol), .unset, .unset, .unset, .unset, .unset, .unset, .unset, .unset, .unset, .unset, .unset, .unset, .unset] [] := by
          intro ol Hol
          have J148 : ∀ o0 : Int32, (0 ≤ o0.toInt ∧ o0.toInt ≤ 255) → Wp K 0 0 [(pm, false, .inl kMap, [])] 148 [.val (.int a), .val (.int b), .val (.int c), .val (.int d), .val (.int mode), .val (.ref pm), .val (.int tl), .val (.int t0), .val (.int t1), .val (.int sl), .val (.int s0), .val (.int s1), .val (.int q12), .val (.int ol), .val (.int o0), .unset, .unset, .unset, .unset, .unset, .unset, .unset, .unset, .unset, .unset, .unset, .unset] [] := by
            intro o0 Ho0
            have J169 : ∀ o1 : Int32, (0 ≤ o1.toInt ∧ o1.toInt ≤ 255) → Wp K 0 0 [(pm, false, .inl kMap, [])] 169 [.val (.int a), .val (.int b), .val (.int c), .val (.int d), .val (.int mode), .val (.ref pm), .val (.int tl), .val (.int t0), .val (.int t1), .val (.int sl), .val (.int s0), .val (.int s1), .val (.int q12), .val (.int ol), .val (.int o0), .val (.int o1), .unset, .unset, .unset, .unset, .unset, .unset, .unset, .unset, .unset, .unset, .unset] [] := by
              intro o1 Ho1
              have J185 : ∀ q16 : Int32, Wp K 0 0 [(pm, false, .inl kMap, [])] 185 [.val (.int a), .val (.int b), .val (.int c), .val (.int d), .val (.int mode), .val (.ref pm), .val (.int tl), .val (.int t0), .val (.int t1), .val (.int sl), .val (.int s0), .val (.int s1), .val (.int q12), .val (.int ol), .val (.int o0), .val (.int o1), .val (.int q16), .unset, .unset, .unset, .unset, .unset, .unset, .unset, .unset, .unset, .unset] [] := by
                intro q16
                have J205 : ∀ pl : Int32, (pl = 1 ∨ pl = 2) → Wp K 0 0 [(pm, false, .inl kMap, [])] 205 [.val (.int a), .val (.int b), .val (.int c), .val (.int d), .val (.int mode), .val (.ref pm), .val (.int tl), .val (.int t0), .val (.int t1), .val (.int sl), .val (.int s0), .val (.int s1), .val (.int q12), .val (.int ol), .val (.int o0), .val (.int o1), .val (.int q16), .val (.int pl), .unset, .unset, .unset, .unset, .unset, .unset, .unset, .unset, .unset] [] := by
                  intro pl Hpl
                  have J223 : ∀ p0 : Int32, (0 ≤ p0.toInt ∧ p0.toInt ≤ 255) → Wp K 0 0 [(pm, false, .inl kMap, [])] 223 [.val (.int a), .val (.int b), .val (.int c), .val (.int d), .val (.int mode), .val (.ref pm), .val (.int tl), .val (.int t0), .val (.int t1), .val (.int sl), .val (.int s0), .val (.int s1), .val (.int q12), .val (.int ol), .val (.int o0), .val (.int o1), .val (.int q16), .val (.int pl), .val (.int p0), .unset, .unset, .unset, .unset, .unset, .unset, .unset, .unset] [] := by
                    intro p0 Hp0
                    have J244 : ∀ p1 : Int32, (0 ≤ p1.toInt ∧ p1.toInt ≤ 255) → Wp K 0 0 [(pm, false, .inl kMap, [])] 244 [.val (.int a), .val (.int b), .val (.int c), .val (.int d), .val (.int mode), .val (.ref pm), .val (.int tl), .val (.int t0), .val (.int t1), .val (.int sl), .val (.int s0), .val (.int s1), .val (.int q12), .val (.int ol), .val (.int o0), .val (.int o1), .val (.int q16), .val (.int pl), .val (.int p0), .val (.int p1), .unset, .unset, .unset, .unset, .unset, .unset, .unset] [] := by
                      intro p1 Hp1
                      refine wp_new C (Kc := kM) (cells' := 1) (slots' := 3) 141 247 rfl rfl (wd hw 10 rfl) (wd hw 11 rfl) (wd hw 1 rfl) (kM_ok hw) kM_df rfl rfl (by decide) (by decide) (fun m1 => ?_)
                      refine wp_blk C 142 4 (pc' := 254) (ls' := [.val (.int a), .val (.int b), .val (.int c), .val (.int d), .val (.int mode), .val (.ref pm), .val (.int tl), .val (.int t0), .val (.int t1), .val (.int sl), .val (.int s0), .val (.int s1), .val (.int q12), .val (.int ol), .val (.int o0), .val (.int o1), .val (.int q16), .val (.int pl), .val (.int p0), .val (.int p1), .unset, .unset, .unset, .unset, .unset, .unset, .unset]) (st' := [.int t1, .int t0, .int tl, .ref m1, .ref m1]) rfl ?_
                      refine wp_static C (al := [.int tl, .int t0, .int t1]) (rest := [.ref m1, .ref m1]) (L1 := [(m1, true, .inl kM, [.null, .null, .null]), (pm, false, .inl kMap, [])]) (W := 2) (cells' := 4) (slots' := 25) 146 257 (rm_st l Z a0 hw tl t0 t1 cz S1 hcz Ht0 Ht1) rfl rfl (wd hw 12 rfl) (wd hw 13 rfl) (wd hw 15 rfl) (wd hw 14 rfl) (by decide) pd14 rfl rfl rfl rfl (by decide) (by decide) rfl rfl rfl (by decide) (by decide) (fun v L' hQ => ?_)
                      obtain ⟨a1, b1, rfl, rfl⟩ := hQ
                      show Wp K 4 25 [(a1, true, .inl kS, [.ref b1, .int 0]), (b1, true, .inr .byte, (strV tl t0 t1).map bt), (m1, true, .inl kM, [.null, .null, .null]), (pm, false, .inl kMap, [])] 257 [.val (.int a), .val (.int b), .val (.int c), .val (.int d), .val (.int mode), .val (.ref pm), .val (.int tl), .val (.int t0), .val (.int t1), .val (.int sl), .val (.int s0), .val (.int s1), .val (.int q12), .val (.int ol), .val (.int o0), .val (.int o1), .val (.int q16), .val (.int pl), .val (.int p0), .val (.int p1), .unset, .unset, .unset, .unset, .unset, .unset, .unset] [.ref a1, .ref m1, .ref m1]
                      refine wp_blk C 147 3 (pc' := 263) (ls' := [.val (.int a), .val (.int b), .val (.int c), .val (.int d), .val (.int mode), .val (.ref pm), .val (.int tl), .val (.int t0), .val (.int t1), .val (.int sl), .val (.int s0), .val (.int s1), .val (.int q12), .val (.int ol), .val (.int o0), .val (.int o1), .val (.int q16), .val (.int pl), .val (.int p0), .val (.int p1), .unset, .unset, .unset, .unset, .unset, .unset, .unset]) (st' := [.int s1, .int s0, .int sl, .ref a1, .ref m1, .ref m1]) rfl ?_
                      refine wp_static C (al := [.int sl, .int s0, .int s1]) (rest := [.ref a1, .ref m1, .ref m1]) (L1 := [(a1, true, .inl kS, [.ref b1, .int 0]), (b1, true, .inr .byte, (strV tl t0 t1).map bt), (m1, true, .inl kM, [.null, .null, .null]), (pm, false, .inl kMap, [])]) (W := 3) (cells' := 7) (slots' := 47) 150 266 (rm_st l Z a0 hw sl s0 s1 cz S1 hcz Hs0 Hs1) rfl rfl (wd hw 12 rfl) (wd hw 13 rfl) (wd hw 15 rfl) (wd hw 14 rfl) (by decide) pd14 rfl rfl rfl rfl (by decide) (by decide) rfl rfl rfl (by decide) (by decide) (fun v L' hQ => ?_)
                      obtain ⟨a2, b2, rfl, rfl⟩ := hQ
                      show Wp K 7 47 [(a2, true, .inl kS, [.ref b2, .int 0]), (b2, true, .inr .byte, (strV sl s0 s1).map bt), (a1, true, .inl kS, [.ref b1, .int 0]), (b1, true, .inr .byte, (strV tl t0 t1).map bt), (m1, true, .inl kM, [.null, .null, .null]), (pm, false, .inl kMap, [])] 266 [.val (.int a), .val (.int b), .val (.int c), .val (.int d), .val (.int mode), .val (.ref pm), .val (.int tl), .val (.int t0), .val (.int t1), .val (.int sl), .val (.int s0), .val (.int s1), .val (.int q12), .val (.int ol), .val (.int o0), .val (.int o1), .val (.int q16), .val (.int pl), .val (.int p0), .val (.int p1), .unset, .unset, .unset, .unset, .unset, .unset, .unset] [.ref a2, .ref a1, .ref m1, .ref m1]
                      refine wp_blk C 151 1 (pc' := 268) (ls' := [.val (.int a), .val (.int b), .val (.int c), .val (.int d), .val (.int mode), .val (.ref pm), .val (.int tl), .val (.int t0), .val (.int t1), .val (.int sl), .val (.int s0), .val (.int s1), .val (.int q12), .val (.int ol), .val (.int o0), .val (.int o1), .val (.int q16), .val (.int pl), .val (.int p0), .val (.int p1), .unset, .unset, .unset, .unset, .unset, .unset, .unset]) (st' := [.ref pm, .ref a2, .ref a1, .ref m1, .ref m1]) rfl ?_
                      refine wp_front C 5 (L' := [(pm, false, .inl kMap, []), (a2, true, .inl kS, [.ref b2, .int 0]), (b2, true, .inr .byte, (strV sl s0 s1).map bt), (a1, true, .inl kS, [.ref b1, .int 0]), (b1, true, .inr .byte, (strV tl t0 t1).map bt), (m1, true, .inl kM, [.null, .null, .null])]) rfl ?_
                      refine wp_front C 5 (L' := [(m1, true, .inl kM, [.null, .null, .null]), (pm, false, .inl kMap, []), (a2, true, .inl kS, [.ref b2, .int 0]), (b2, true, .inr .byte, (strV sl s0 s1).map bt), (a1, true, .inl kS, [.ref b1, .int 0]), (b1, true, .inr .byte, (strV tl t0 t1).map bt)]) rfl ?_
                      refine wp_init C (al := [.ref a1, .ref a2, .ref pm]) (rest := [.ref m1]) (L1 := [(a2, true, .inl kS, [.ref b2, .int 0]), (b2, true, .inr .byte, (strV sl s0 s1).map bt), (a1, true, .inl kS, [.ref b1, .int 0]), (b1, true, .inr .byte, (strV tl t0 t1).map bt)]) (W := 1) (cells' := 7) (slots' := 47) 152 271 (rm_mt l Z a0 hw m1 a1 a2 pm) rfl rfl (wd hw 42 rfl) (wd hw 43 rfl) (wd hw 44 rfl) (wd hw 1 rfl) rfl (by decide) pd15 rfl rfl rfl rfl (by decide) (by decide) rfl rfl rfl (by decide) (by decide) (fun v L' hQ => ?_)
                      obtain ⟨rfl, rfl⟩ := hQ
                      show Wp K 7 47 [(m1, true, .inl kM, [.ref pm, .ref a1, .ref a2]), (pm, false, .inl kMap, []), (a2, true, .inl kS, [.ref b2, .int 0]), (b2, true, .inr .byte, (strV sl s0 s1).map bt), (a1, true, .inl kS, [.ref b1, .int 0]), (b1, true, .inr .byte, (strV tl t0 t1).map bt)] 271 [.val (.int a), .val (.int b), .val (.int c), .val (.int d), .val (.int mode), .val (.ref pm), .val (.int tl), .val (.int t0), .val (.int t1), .val (.int sl), .val (.int s0), .val (.int s1), .val (.int q12), .val (.int ol), .val (.int o0), .val (.int o1), .val (.int q16), .val (.int pl), .val (.int p0), .val (.int p1), .unset, .unset, .unset, .unset, .unset, .unset, .unset] [.ref m1]
                      refine wp_blk C 153 1 (pc' := 273) (ls' := [.val (.int a), .val (.int b), .val (.int c), .val (.int d), .val (.int mode), .val (.ref pm), .val (.int tl), .val (.int t0), .val (.int t1), .val (.int sl), .val (.int s0), .val (.int s1), .val (.int q12), .val (.int ol), .val (.int o0), .val (.int o1), .val (.int q16), .val (.int pl), .val (.int p0), .val (.int p1), .val (.ref m1), .unset, .unset, .unset, .unset, .unset, .unset]) (st' := []) rfl ?_
                      refine wp_new C (Kc := kM) (cells' := 8) (slots' := 50) 154 276 rfl rfl (wd hw 10 rfl) (wd hw 11 rfl) (wd hw 1 rfl) (kM_ok hw) kM_df rfl rfl (by decide) (by decide) (fun m2 => ?_)
                      refine wp_blk C 155 4 (pc' := 283) (ls' := [.val (.int a), .val (.int b), .val (.int c), .val (.int d), .val (.int mode), .val (.ref pm), .val (.int tl), .val (.int t0), .val (.int t1), .val (.int sl), .val (.int s0), .val (.int s1), .val (.int q12), .val (.int ol), .val (.int o0), .val (.int o1), .val (.int q16), .val (.int pl), .val (.int p0), .val (.int p1), .val (.ref m1), .unset, .unset, .unset, .unset, .unset, .unset]) (st' := [.int o1, .int o0, .int ol, .ref m2, .ref m2]) rfl ?_
                      refine wp_static C (al := [.int ol, .int o0, .int o1]) (rest := [.ref m2, .ref m2]) (L1 := [(m2, true, .inl kM, [.null, .null, .null]), (m1, true, .inl kM, [.ref pm, .ref a1, .ref a2]), (pm, false, .inl kMap, []), (a2, true, .inl kS, [.ref b2, .int 0]), (b2, true, .inr .byte, (strV sl s0 s1).map bt), (a1, true, .inl kS, [.ref b1, .int 0]), (b1, true, .inr .byte, (strV tl t0 t1).map bt)]) (W := 2) (cells' := 11) (slots' := 72) 159 286 (rm_st l Z a0 hw ol o0 o1 cz S1 hcz Ho0 Ho1) rfl rfl (wd hw 12 rfl) (wd hw 13 rfl) (wd hw 15 rfl) (wd hw 14 rfl) (by decide) pd14 rfl rfl rfl rfl (by decide) (by decide) rfl rfl rfl (by decide) (by decide) (fun v L' hQ => ?_)
                      obtain ⟨a3, b3, rfl, rfl⟩ := hQ
                      show Wp K 11 72 [(a3, true, .inl kS, [.ref b3, .int 0]), (b3, true, .inr .byte, (strV ol o0 o1).map bt), (m2, true, .inl kM, [.null, .null, .null]), (m1, true, .inl kM, [.ref pm, .ref a1, .ref a2]), (pm, false, .inl kMap, []), (a2, true, .inl kS, [.ref b2, .int 0]), (b2, true, .inr .byte, (strV sl s0 s1).map bt), (a1, true, .inl kS, [.ref b1, .int 0]), (b1, true, .inr .byte, (strV tl t0 t1).map bt)] 286 [.val (.int a), .val (.int b), .val (.int c), .val (.int d), .val (.int mode), .val (.ref pm), .val (.int tl), .val (.int t0), .val (.int t1), .val (.int sl), .val (.int s0), .val (.int s1), .val (.int q12), .val (.int ol), .val (.int o0), .val (.int o1), .val (.int q16), .val (.int pl), .val (.int p0), .val (.int p1), .val (.ref m1), .unset, .unset, .unset, .unset, .unset, .unset] [.ref a3, .ref m2, .ref m2]
                      refine wp_blk C 160 3 (pc' := 292) (ls' := [.val (.int a), .val (.int b), .val (.int c), .val (.int d), .val (.int mode), .val (.ref pm), .val (.int tl), .val (.int t0), .val (.int t1), .val (.int sl), .val (.int s0), .val (.int s1), .val (.int q12), .val (.int ol), .val (.int o0), .val (.int o1), .val (.int q16), .val (.int pl), .val (.int p0), .val (.int p1), .val (.ref m1), .unset, .unset, .unset, .unset, .unset, .unset]) (st' := [.int p1, .int p0, .int pl, .ref a3, .ref m2, .ref m2]) rfl ?_
                      refine wp_static C (al := [.int pl, .int p0, .int p1]) (rest := [.ref a3, .ref m2, .ref m2]) (L1 := [(a3, true, .inl kS, [.ref b3, .int 0]), (b3, true, .inr .byte, (strV ol o0 o1).map bt), (m2, true, .inl kM, [.null, .null, .null]), (m1, true, .inl kM, [.ref pm, .ref a1, .ref a2]), (pm, false, .inl kMap, []), (a2, true, .inl kS, [.ref b2, .int 0]), (b2, true, .inr .byte, (strV sl s0 s1).map bt), (a1, true, .inl kS, [.ref b1, .int 0]), (b1, true, .inr .byte, (strV tl t0 t1).map bt)]) (W := 3) (cells' := 14) (slots' := 94) 163 295 (rm_st l Z a0 hw pl p0 p1 cz S1 hcz Hp0 Hp1) rfl rfl (wd hw 12 rfl) (wd hw 13 rfl) (wd hw 15 rfl) (wd hw 14 rfl) (by decide) pd14 rfl rfl rfl rfl (by decide) (by decide) rfl rfl rfl (by decide) (by decide) (fun v L' hQ => ?_)
                      obtain ⟨a4, b4, rfl, rfl⟩ := hQ
                      show Wp K 14 94 [(a4, true, .inl kS, [.ref b4, .int 0]), (b4, true, .inr .byte, (strV pl p0 p1).map bt), (a3, true, .inl kS, [.ref b3, .int 0]), (b3, true, .inr .byte, (strV ol o0 o1).map bt), (m2, true, .inl kM, [.null, .null, .null]), (m1, true, .inl kM, [.ref pm, .ref a1, .ref a2]), (pm, false, .inl kMap, []), (a2, true, .inl kS, [.ref b2, .int 0]), (b2, true, .inr .byte, (strV sl s0 s1).map bt), (a1, true, .inl kS, [.ref b1, .int 0]), (b1, true, .inr .byte, (strV tl t0 t1).map bt)] 295 [.val (.int a), .val (.int b), .val (.int c), .val (.int d), .val (.int mode), .val (.ref pm), .val (.int tl), .val (.int t0), .val (.int t1), .val (.int sl), .val (.int s0), .val (.int s1), .val (.int q12), .val (.int ol), .val (.int o0), .val (.int o1), .val (.int q16), .val (.int pl), .val (.int p0), .val (.int p1), .val (.ref m1), .unset, .unset, .unset, .unset, .unset, .unset] [.ref a4, .ref a3, .ref m2, .ref m2]
                      refine wp_blk C 164 1 (pc' := 297) (ls' := [.val (.int a), .val (.int b), .val (.int c), .val (.int d), .val (.int mode), .val (.ref pm), .val (.int tl), .val (.int t0), .val (.int t1), .val (.int sl), .val (.int s0), .val (.int s1), .val (.int q12), .val (.int ol), .val (.int o0), .val (.int o1), .val (.int q16), .val (.int pl), .val (.int p0), .val (.int p1), .val (.ref m1), .unset, .unset, .unset, .unset, .unset, .unset]) (st' := [.ref pm, .ref a4, .ref a3, .ref m2, .ref m2]) rfl ?_
                      refine wp_front C 6 (L' := [(pm, false, .inl kMap, []), (a4, true, .inl kS, [.ref b4, .int 0]), (b4, true, .inr .byte, (strV pl p0 p1).map bt), (a3, true, .inl kS, [.ref b3, .int 0]), (b3, true, .inr .byte, (strV ol o0 o1).map bt), (m2, true, .inl kM, [.null, .null, .null]), (m1, true, .inl kM, [.ref pm, .ref a1, .ref a2]), (a2, true, .inl kS, [.ref b2, .int 0]), (b2, true, .inr .byte, (strV sl s0 s1).map bt), (a1, true, .inl kS, [.ref b1, .int 0]), (b1, true, .inr .byte, (strV tl t0 t1).map bt)]) rfl ?_
                      refine wp_front C 5 (L' := [(m2, true, .inl kM, [.null, .null, .null]), (pm, false, .inl kMap, []), (a4, true, .inl kS, [.ref b4, .int 0]), (b4, true, .inr .byte, (strV pl p0 p1).map bt), (a3, true, .inl kS, [.ref b3, .int 0]), (b3, true, .inr .byte, (strV ol o0 o1).map bt), (m1, true, .inl kM, [.ref pm, .ref a1, .ref a2]), (a2, true, .inl kS, [.ref b2, .int 0]), (b2, true, .inr .byte, (strV sl s0 s1).map bt), (a1, true, .inl kS, [.ref b1, .int 0]), (b1, true, .inr .byte, (strV tl t0 t1).map bt)]) rfl ?_
                      refine wp_init C (al := [.ref a3, .ref a4, .ref pm]) (rest := [.ref m2]) (L1 := [(a4, true, .inl kS, [.ref b4, .int 0]), (b4, true, .inr .byte, (strV pl p0 p1).map bt), (a3, true, .inl kS, [.ref b3, .int 0]), (b3, true, .inr .byte, (strV ol o0 o1).map bt), (m1, true, .inl kM, [.ref pm, .ref a1, .ref a2]), (a2, true, .inl kS, [.ref b2, .int 0]), (b2, true, .inr .byte, (strV sl s0 s1).map bt), (a1, true, .inl kS, [.ref b1, .int 0]), (b1, true, .inr .byte, (strV tl t0 t1).map bt)]) (W := 1) (cells' := 14) (slots' := 94) 165 300 (rm_mt l Z a0 hw m2 a3 a4 pm) rfl rfl (wd hw 42 rfl) (wd hw 43 rfl) (wd hw 44 rfl) (wd hw 1 rfl) rfl (by decide) pd15 rfl rfl rfl rfl (by decide) (by decide) rfl rfl rfl (by decide) (by decide) (fun v L' hQ => ?_)
                      obtain ⟨rfl, rfl⟩ := hQ
                      show Wp K 14 94 [(m2, true, .inl kM, [.ref pm, .ref a3, .ref a4]), (pm, false, .inl kMap, []), (a4, true, .inl kS, [.ref b4, .int 0]), (b4, true, .inr .byte, (strV pl p0 p1).map bt), (a3, true, .inl kS, [.ref b3, .int 0]), (b3, true, .inr .byte, (strV ol o0 o1).map bt), (m1, true, .inl kM, [.ref pm, .ref a1, .ref a2]), (a2, true, .inl kS, [.ref b2, .int 0]), (b2, true, .inr .byte, (strV sl s0 s1).map bt), (a1, true, .inl kS, [.ref b1, .int 0]), (b1, true, .inr .byte, (strV tl t0 t1).map bt)] 300 [.val (.int a), .val (.int b), .val (.int c), .val (.int d), .val (.int mode), .val (.ref pm), .val (.int tl), .val (.int t0), .val (.int t1), .val (.int sl), .val (.int s0), .val (.int s1), .val (.int q12), .val (.int ol), .val (.int o0), .val (.int o1), .val (.int q16), .val (.int pl), .val (.int p0), .val (.int p1), .val (.ref m1), .unset, .unset, .unset, .unset, .unset, .unset] [.ref m2]
                      refine wp_blk C 166 1 (pc' := 302) (ls' := [.val (.int a), .val (.int b), .val (.int c), .val (.int d), .val (.int mode), .val (.ref pm), .val (.int tl), .val (.int t0), .val (.int t1), .val (.int sl), .val (.int s0), .val (.int s1), .val (.int q12), .val (.int ol), .val (.int o0), .val (.int o1), .val (.int q16), .val (.int pl), .val (.int p0), .val (.int p1), .val (.ref m1), .val (.ref m2), .unset, .unset, .unset, .unset, .unset]) (st' := []) rfl ?_
                      have J322 : ∀ e1 : Int32, (e1 = (if tl = 1 ∧ t0 = 42 then 1 else 0 : Int32)) → Wp K 14 94 [(m2, true, .inl kM, [.ref pm, .ref a3, .ref a4]), (pm, false, .inl kMap, []), (a4, true, .inl kS, [.ref b4, .int 0]), (b4, true, .inr .byte, (strV pl p0 p1).map bt), (a3, true, .inl kS, [.ref b3, .int 0]), (b3, true, .inr .byte, (strV ol o0 o1).map bt), (m1, true, .inl kM, [.ref pm, .ref a1, .ref a2]), (a2, true, .inl kS, [.ref b2, .int 0]), (b2, true, .inr .byte, (strV sl s0 s1).map bt), (a1, true, .inl kS, [.ref b1, .int 0]), (b1, true, .inr .byte, (strV tl t0 t1).map bt)] 322 [.val (.int a), .val (.int b), .val (.int c), .val (.int d), .val (.int mode), .val (.ref pm), .val (.int tl), .val (.int t0), .val (.int t1), .val (.int sl), .val (.int s0), .val (.int s1), .val (.int q12), .val (.int ol), .val (.int o0), .val (.int o1), .val (.int q16), .val (.int pl), .val (.int p0), .val (.int p1), .val (.ref m1), .val (.ref m2), .val (.int e1), .unset, .unset, .unset, .unset] [] := by
                        intro e1 he1
                        have J342 : ∀ e2 : Int32, (e2 = (if sl = 1 ∧ s0 = 42 then 1 else 0 : Int32)) → Wp K 14 94 [(m2, true, .inl kM, [.ref pm, .ref a3, .ref a4]), (pm, false, .inl kMap, []), (a4, true, .inl kS, [.ref b4, .int 0]), (b4, true, .inr .byte, (strV pl p0 p1).map bt), (a3, true, .inl kS, [.ref b3, .int 0]), (b3, true, .inr .byte, (strV ol o0 o1).map bt), (m1, true, .inl kM, [.ref pm, .ref a1, .ref a2]), (a2, true, .inl kS, [.ref b2, .int 0]), (b2, true, .inr .byte, (strV sl s0 s1).map bt), (a1, true, .inl kS, [.ref b1, .int 0]), (b1, true, .inr .byte, (strV tl t0 t1).map bt)] 342 [.val (.int a), .val (.int b), .val (.int c), .val (.int d), .val (.int mode), .val (.ref pm), .val (.int tl), .val (.int t0), .val (.int t1), .val (.int sl), .val (.int s0), .val (.int s1), .val (.int q12), .val (.int ol), .val (.int o0), .val (.int o1), .val (.int q16), .val (.int pl), .val (.int p0), .val (.int p1), .val (.ref m1), .val (.ref m2), .val (.int e1), .val (.int e2), .unset, .unset, .unset] [] := by
                          intro e2 he2
                          have J376 : ∀ e3 : Int32, (e3 = (if tl = ol ∧ t0 = o0 ∧ (tl = 1 ∨ t1 = o1) then 1 else 0 : Int32)) → Wp K 14 94 [(m2, true, .inl kM, [.ref pm, .ref a3, .ref a4]), (pm, false, .inl kMap, []), (a4, true, .inl kS, [.ref b4, .int 0]), (b4, true, .inr .byte, (strV pl p0 p1).map bt), (a3, true, .inl kS, [.ref b3, .int 0]), (b3, true, .inr .byte, (strV ol o0 o1).map bt), (m1, true, .inl kM, [.ref pm, .ref a1, .ref a2]), (a2, true, .inl kS, [.ref b2, .int 0]), (b2, true, .inr .byte, (strV sl s0 s1).map bt), (a1, true, .inl kS, [.ref b1, .int 0]), (b1, true, .inr .byte, (strV tl t0 t1).map bt)] 376 [.val (.int a), .val (.int b), .val (.int c), .val (.int d), .val (.int mode), .val (.ref pm), .val (.int tl), .val (.int t0), .val (.int t1), .val (.int sl), .val (.int s0), .val (.int s1), .val (.int q12), .val (.int ol), .val (.int o0), .val (.int o1), .val (.int q16), .val (.int pl), .val (.int p0), .val (.int p1), .val (.ref m1), .val (.ref m2), .val (.int e1), .val (.int e2), .val (.int e3), .unset, .unset] [] := by
                            intro e3 he3
                            have J410 : ∀ e4 : Int32, (e4 = (if sl = pl ∧ s0 = p0 ∧ (sl = 1 ∨ s1 = p1) then 1 else 0 : Int32)) → Wp K 14 94 [(m2, true, .inl kM, [.ref pm, .ref a3, .ref a4]), (pm, false, .inl kMap, []), (a4, true, .inl kS, [.ref b4, .int 0]), (b4, true, .inr .byte, (strV pl p0 p1).map bt), (a3, true, .inl kS, [.ref b3, .int 0]), (b3, true, .inr .byte, (strV ol o0 o1).map bt), (m1, true, .inl kM, [.ref pm, .ref a1, .ref a2]), (a2, true, .inl kS, [.ref b2, .int 0]), (b2, true, .inr .byte, (strV sl s0 s1).map bt), (a1, true, .inl kS, [.ref b1, .int 0]), (b1, true, .inr .byte, (strV tl t0 t1).map bt)] 410 [.val (.int a), .val (.int b), .val (.int c), .val (.int d), .val (.int mode), .val (.ref pm), .val (.int tl), .val (.int t0), .val (.int t1), .val (.int sl), .val (.int s0), .val (.int s1), .val (.int q12), .val (.int ol), .val (.int o0), .val (.int o1), .val (.int q16), .val (.int pl), .val (.int p0), .val (.int p1), .val (.ref m1), .val (.ref m2), .val (.int e1), .val (.int e2), .val (.int e3), .val (.int e4), .unset] [] := by
                              intro e4 he4
                              have J437 : ∀ e5 : Int32, (e5 = (if e1 ≠ 0 ∨ (e3 ≠ 0 ∧ (e2 ≠ 0 ∨ e4 ≠ 0)) then 1 else 0 : Int32)) → Wp K 14 94 [(m2, true, .inl kM, [.ref pm, .ref a3, .ref a4]), (pm, false, .inl kMap, []), (a4, true, .inl kS, [.ref b4, .int 0]), (b4, true, .inr .byte, (strV pl p0 p1).map bt), (a3, true, .inl kS, [.ref b3, .int 0]), (b3, true, .inr .byte, (strV ol o0 o1).map bt), (m1, true, .inl kM, [.ref pm, .ref a1, .ref a2]), (a2, true, .inl kS, [.ref b2, .int 0]), (b2, true, .inr .byte, (strV sl s0 s1).map bt), (a1, true, .inl kS, [.ref b1, .int 0]), (b1, true, .inr .byte, (strV tl t0 t1).map bt)] 437 [.val (.int a), .val (.int b), .val (.int c), .val (.int d), .val (.int mode), .val (.ref pm), .val (.int tl), .val (.int t0), .val (.int t1), .val (.int sl), .val (.int s0), .val (.int s1), .val (.int q12), .val (.int ol), .val (.int o0), .val (.int o1), .val (.int q16), .val (.int pl), .val (.int p0), .val (.int p1), .val (.ref m1), .val (.ref m2), .val (.int e1), .val (.int e2), .val (.int e3), .val (.int e4), .val (.int e5)] [] := by
                                intro e5 he5
                                refine wp_blk C 231 2 (pc' := 441) (ls' := [.val (.int a), .val (.int b), .val (.int c), .val (.int d), .val (.int mode), .val (.ref pm), .val (.int tl), .val (.int t0), .val (.int t1), .val (.int sl), .val (.int s0), .val (.int s1), .val (.int q12), .val (.int ol), .val (.int o0), .val (.int o1), .val (.int q16), .val (.int pl), .val (.int p0), .val (.int p1), .val (.ref m1), .val (.ref m2), .val (.int e1), .val (.int e2), .val (.int e3), .val (.int e4), .val (.int e5)]) (st' := [.ref m2, .ref m1]) rfl ?_
                                refine wp_front C 3 (L' := [(b4, true, .inr .byte, (strV pl p0 p1).map bt), (m2, true, .inl kM, [.ref pm, .ref a3, .ref a4]), (pm, false, .inl kMap, []), (a4, true, .inl kS, [.ref b4, .int 0]), (a3, true, .inl kS, [.ref b3, .int 0]), (b3, true, .inr .byte, (strV ol o0 o1).map bt), (m1, true, .inl kM, [.ref pm, .ref a1, .ref a2]), (a2, true, .inl kS, [.ref b2, .int 0]), (b2, true, .inr .byte, (strV sl s0 s1).map bt), (a1, true, .inl kS, [.ref b1, .int 0]), (b1, true, .inr .byte, (strV tl t0 t1).map bt)]) rfl ?_
                                refine wp_front C 3 (L' := [(a4, true, .inl kS, [.ref b4, .int 0]), (b4, true, .inr .byte, (strV pl p0 p1).map bt), (m2, true, .inl kM, [.ref pm, .ref a3, .ref a4]), (pm, false, .inl kMap, []), (a3, true, .inl kS, [.ref b3, .int 0]), (b3, true, .inr .byte, (strV ol o0 o1).map bt), (m1, true, .inl kM, [.ref pm, .ref a1, .ref a2]), (a2, true, .inl kS, [.ref b2, .int 0]), (b2, true, .inr .byte, (strV sl s0 s1).map bt), (a1, true, .inl kS, [.ref b1, .int 0]), (b1, true, .inr .byte, (strV tl t0 t1).map bt)]) rfl ?_
                                refine wp_front C 5 (L' := [(b3, true, .inr .byte, (strV ol o0 o1).map bt), (a4, true, .inl kS, [.ref b4, .int 0]), (b4, true, .inr .byte, (strV pl p0 p1).map bt), (m2, true, .inl kM, [.ref pm, .ref a3, .ref a4]), (pm, false, .inl kMap, []), (a3, true, .inl kS, [.ref b3, .int 0]), (m1, true, .inl kM, [.ref pm, .ref a1, .ref a2]), (a2, true, .inl kS, [.ref b2, .int 0]), (b2, true, .inr .byte, (strV sl s0 s1).map bt), (a1, true, .inl kS, [.ref b1, .int 0]), (b1, true, .inr .byte, (strV tl t0 t1).map bt)]) rfl ?_
                                refine wp_front C 5 (L' := [(a3, true, .inl kS, [.ref b3, .int 0]), (b3, true, .inr .byte, (strV ol o0 o1).map bt), (a4, true, .inl kS, [.ref b4, .int 0]), (b4, true, .inr .byte, (strV pl p0 p1).map bt), (m2, true, .inl kM, [.ref pm, .ref a3, .ref a4]), (pm, false, .inl kMap, []), (m1, true, .inl kM, [.ref pm, .ref a1, .ref a2]), (a2, true, .inl kS, [.ref b2, .int 0]), (b2, true, .inr .byte, (strV sl s0 s1).map bt), (a1, true, .inl kS, [.ref b1, .int 0]), (b1, true, .inr .byte, (strV tl t0 t1).map bt)]) rfl ?_
                                refine wp_front C 8 (L' := [(b2, true, .inr .byte, (strV sl s0 s1).map bt), (a3, true, .inl kS, [.ref b3, .int 0]), (b3, true, .inr .byte, (strV ol o0 o1).map bt), (a4, true, .inl kS, [.ref b4, .int 0]), (b4, true, .inr .byte, (strV pl p0 p1).map bt), (m2, true, .inl kM, [.ref pm, .ref a3, .ref a4]), (pm, false, .inl kMap, []), (m1, true, .inl kM, [.ref pm, .ref a1, .ref a2]), (a2, true, .inl kS, [.ref b2, .int 0]), (a1, true, .inl kS, [.ref b1, .int 0]), (b1, true, .inr .byte, (strV tl t0 t1).map bt)]) rfl ?_
                                refine wp_front C 8 (L' := [(a2, true, .inl kS, [.ref b2, .int 0]), (b2, true, .inr .byte, (strV sl s0 s1).map bt), (a3, true, .inl kS, [.ref b3, .int 0]), (b3, true, .inr .byte, (strV ol o0 o1).map bt), (a4, true, .inl kS, [.ref b4, .int 0]), (b4, true, .inr .byte, (strV pl p0 p1).map bt), (m2, true, .inl kM, [.ref pm, .ref a3, .ref a4]), (pm, false, .inl kMap, []), (m1, true, .inl kM, [.ref pm, .ref a1, .ref a2]), (a1, true, .inl kS, [.ref b1, .int 0]), (b1, true, .inr .byte, (strV tl t0 t1).map bt)]) rfl ?_
                                refine wp_front C 10 (L' := [(b1, true, .inr .byte, (strV tl t0 t1).map bt), (a2, true, .inl kS, [.ref b2, .int 0]), (b2, true, .inr .byte, (strV sl s0 s1).map bt), (a3, true, .inl kS, [.ref b3, .int 0]), (b3, true, .inr .byte, (strV ol o0 o1).map bt), (a4, true, .inl kS, [.ref b4, .int 0]), (b4, true, .inr .byte, (strV pl p0 p1).map bt), (m2, true, .inl kM, [.ref pm, .ref a3, .ref a4]), (pm, false, .inl kMap, []), (m1, true, .inl kM, [.ref pm, .ref a1, .ref a2]), (a1, true, .inl kS, [.ref b1, .int 0])]) rfl ?_
                                refine wp_front C 10 (L' := [(a1, true, .inl kS, [.ref b1, .int 0]), (b1, true, .inr .byte, (strV tl t0 t1).map bt), (a2, true, .inl kS, [.ref b2, .int 0]), (b2, true, .inr .byte, (strV sl s0 s1).map bt), (a3, true, .inl kS, [.ref b3, .int 0]), (b3, true, .inr .byte, (strV ol o0 o1).map bt), (a4, true, .inl kS, [.ref b4, .int 0]), (b4, true, .inr .byte, (strV pl p0 p1).map bt), (m2, true, .inl kM, [.ref pm, .ref a3, .ref a4]), (pm, false, .inl kMap, []), (m1, true, .inl kM, [.ref pm, .ref a1, .ref a2])]) rfl ?_
                                refine wp_front C 8 (L' := [(m2, true, .inl kM, [.ref pm, .ref a3, .ref a4]), (a1, true, .inl kS, [.ref b1, .int 0]), (b1, true, .inr .byte, (strV tl t0 t1).map bt), (a2, true, .inl kS, [.ref b2, .int 0]), (b2, true, .inr .byte, (strV sl s0 s1).map bt), (a3, true, .inl kS, [.ref b3, .int 0]), (b3, true, .inr .byte, (strV ol o0 o1).map bt), (a4, true, .inl kS, [.ref b4, .int 0]), (b4, true, .inr .byte, (strV pl p0 p1).map bt), (pm, false, .inl kMap, []), (m1, true, .inl kM, [.ref pm, .ref a1, .ref a2])]) rfl ?_
                                refine wp_front C 10 (L' := [(m1, true, .inl kM, [.ref pm, .ref a1, .ref a2]), (m2, true, .inl kM, [.ref pm, .ref a3, .ref a4]), (a1, true, .inl kS, [.ref b1, .int 0]), (b1, true, .inr .byte, (strV tl t0 t1).map bt), (a2, true, .inl kS, [.ref b2, .int 0]), (b2, true, .inr .byte, (strV sl s0 s1).map bt), (a3, true, .inl kS, [.ref b3, .int 0]), (b3, true, .inr .byte, (strV ol o0 o1).map bt), (a4, true, .inl kS, [.ref b4, .int 0]), (b4, true, .inr .byte, (strV pl p0 p1).map bt), (pm, false, .inl kMap, [])]) rfl ?_
                                refine wp_virtual C (al := [.ref m2]) (rest := []) (L1 := [(pm, false, .inl kMap, [])]) (W := 0) (cells' := 18) (slots' := 110) 233 444 0 (rm_inc l Z a0 hw m1 m2 pm a1 b1 a2 b2 a3 b3 a4 b4 (strV tl t0 t1) (strV sl s0 s1) (strV ol o0 o1) (strV pl p0 p1) cz S1 hcz (lat_strV Ht0 Ht1) (lat_strV Hs0 Hs1) (lat_strV Ho0 Ho1) (lat_strV Hp0 Hp1) (len_strV _ _ _) (len_strV _ _ _) (len_strV _ _ _) (len_strV _ _ _)) rfl rfl rfl (wd hw 61 rfl) (wd hw 62 rfl) (nf_self (wd hw 64 rfl)) (wd hw 64 rfl) (wd hw 63 rfl) (wd hw 65 rfl) (wd hw 1 rfl) (by decide) pd16 rfl rfl rfl rfl (by decide) (by decide) rfl rfl rfl (by decide) (by decide) (fun v L' hQ => ?_)
                                obtain ⟨rfl, rfl⟩ := hQ
                                show Wp K 18 110 [(m1, true, .inl kM, [.ref pm, .ref a1, .ref a2]), (m2, true, .inl kM, [.ref pm, .ref a3, .ref a4]), (a1, true, .inl kS, [.ref b1, .int 0]), (b1, true, .inr .byte, (strV tl t0 t1).map bt), (a2, true, .inl kS, [.ref b2, .int 0]), (b2, true, .inr .byte, (strV sl s0 s1).map bt), (a3, true, .inl kS, [.ref b3, .int 0]), (b3, true, .inr .byte, (strV ol o0 o1).map bt), (a4, true, .inl kS, [.ref b4, .int 0]), (b4, true, .inr .byte, (strV pl p0 p1).map bt), (pm, false, .inl kMap, [])] 444 [.val (.int a), .val (.int b), .val (.int c), .val (.int d), .val (.int mode), .val (.ref pm), .val (.int tl), .val (.int t0), .val (.int t1), .val (.int sl), .val (.int s0), .val (.int s1), .val (.int q12), .val (.int ol), .val (.int o0), .val (.int o1), .val (.int q16), .val (.int pl), .val (.int p0), .val (.int p1), .val (.ref m1), .val (.ref m2), .val (.int e1), .val (.int e2), .val (.int e3), .val (.int e4), .val (.int e5)] [.int (if strV tl t0 t1 = [42] ∨ (strV tl t0 t1 = strV ol o0 o1 ∧ (strV sl s0 s1 = [42] ∨ strV sl s0 s1 = strV pl p0 p1)) then 1 else 0)]
                                have hfin : (if strV tl t0 t1 = [42] ∨ (strV tl t0 t1 = strV ol o0 o1 ∧ (strV sl s0 s1 = [42] ∨ strV sl s0 s1 = strV pl p0 p1)) then 1 else 0 : Int32) = e5 := by
                                  rw [he5, he1, he2, he3, he4]
                                  have w1 := strV_star (n := tl) (x := t0) (z := t1); have w2 := strV_star (n := sl) (x := s0) (z := s1); have w3 := strV_eq (x := t0) (z := t1) (x' := o0) (z' := o1) Htl Hol; have w4 := strV_eq (x := s0) (z := s1) (x' := p0) (z' := p1) Hsl Hpl
                                  simp only [w1, w2, w3, w4, ite_ne0]
                                refine wp_blk C 234 1 (pc' := 446) (ls' := [.val (.int a), .val (.int b), .val (.int c), .val (.int d), .val (.int mode), .val (.ref pm), .val (.int tl), .val (.int t0), .val (.int t1), .val (.int sl), .val (.int s0), .val (.int s1), .val (.int q12), .val (.int ol), .val (.int o0), .val (.int o1), .val (.int q16), .val (.int pl), .val (.int p0), .val (.int p1), .val (.ref m1), .val (.ref m2), .val (.int e1), .val (.int e2), .val (.int e3), .val (.int e4), .val (.int e5)]) (st' := [.int e5, .int (if strV tl t0 t1 = [42] ∨ (strV tl t0 t1 = strV ol o0 o1 ∧ (strV sl s0 s1 = [42] ∨ strV sl s0 s1 = strV pl p0 p1)) then 1 else 0)]) rfl ?_
                                refine wp_icmp C 235 453 449 rfl rfl rfl (by decide) (fun h => absurd h (fun q : (if strV tl t0 t1 = [42] ∨ (strV tl t0 t1 = strV ol o0 o1 ∧ (strV sl s0 s1 = [42] ∨ strV sl s0 s1 = strV pl p0 p1)) then 1 else 0 : Int32) ≠ e5 => q hfin)) (fun _ => ?_)
                                refine wp_blk C 236 2 (pc' := 454) (ls' := [.val (.int a), .val (.int b), .val (.int c), .val (.int d), .val (.int mode), .val (.ref pm), .val (.int tl), .val (.int t0), .val (.int t1), .val (.int sl), .val (.int s0), .val (.int s1), .val (.int q12), .val (.int ol), .val (.int o0), .val (.int o1), .val (.int q16), .val (.int pl), .val (.int p0), .val (.int p1), .val (.ref m1), .val (.ref m2), .val (.int e1), .val (.int e2), .val (.int e3), .val (.int e4), .val (.int e5)]) (st' := [.int 1]) rfl ?_
                                exact wp_retN C (z' := 1) 238 rfl (Or.inl rfl) rfl (by decide) (by decide) (rfl)
                              refine wp_blk C 219 1 (pc' := 412) (ls' := [.val (.int a), .val (.int b), .val (.int c), .val (.int d), .val (.int mode), .val (.ref pm), .val (.int tl), .val (.int t0), .val (.int t1), .val (.int sl), .val (.int s0), .val (.int s1), .val (.int q12), .val (.int ol), .val (.int o0), .val (.int o1), .val (.int q16), .val (.int pl), .val (.int p0), .val (.int p1), .val (.ref m1), .val (.ref m2), .val (.int e1), .val (.int e2), .val (.int e3), .val (.int e4), .unset]) (st' := [.int e1]) rfl ?_
                              refine wp_ifz C 220 430 415 rfl rfl rfl (by decide) (fun (hb0 : (e1 : Int32) ≠ 0) => ?_) (fun (hb0 : (e1 : Int32) = 0) => ?_)
                              · refine wp_blk C 227 2 (pc' := 435) (ls' := [.val (.int a), .val (.int b), .val (.int c), .val (.int d), .val (.int mode), .val (.ref pm), .val (.int tl), .val (.int t0), .val (.int t1), .val (.int sl), .val (.int s0), .val (.int s1), .val (.int q12), .val (.int ol), .val (.int o0), .val (.int o1), .val (.int q16), .val (.int pl), .val (.int p0), .val (.int p1), .val (.ref m1), .val (.ref m2), .val (.int e1), .val (.int e2), .val (.int e3), .val (.int e4), .unset]) (st' := [.int 1]) rfl ?_
                                refine wp_blk C 230 1 (pc' := 437) (ls' := [.val (.int a), .val (.int b), .val (.int c), .val (.int d), .val (.int mode), .val (.ref pm), .val (.int tl), .val (.int t0), .val (.int t1), .val (.int sl), .val (.int s0), .val (.int s1), .val (.int q12), .val (.int ol), .val (.int o0), .val (.int o1), .val (.int q16), .val (.int pl), .val (.int p0), .val (.int p1), .val (.ref m1), .val (.ref m2), .val (.int e1), .val (.int e2), .val (.int e3), .val (.int e4), .val (.int 1)]) (st' := []) rfl ?_
                                exact J437 (1 : Int32) (by simp [hb0])
                              · refine wp_blk C 221 1 (pc' := 417) (ls' := [.val (.int a), .val (.int b), .val (.int c), .val (.int d), .val (.int mode), .val (.ref pm), .val (.int tl), .val (.int t0), .val (.int t1), .val (.int sl), .val (.int s0), .val (.int s1), .val (.int q12), .val (.int ol), .val (.int o0), .val (.int o1), .val (.int q16), .val (.int pl), .val (.int p0), .val (.int p1), .val (.ref m1), .val (.ref m2), .val (.int e1), .val (.int e2), .val (.int e3), .val (.int e4), .unset]) (st' := [.int e3]) rfl ?_
                                refine wp_ifz C 222 434 420 rfl rfl rfl (by decide) (fun (hb1 : (e3 : Int32) = 0) => ?_) (fun (hb1 : (e3 : Int32) ≠ 0) => ?_)
                                · refine wp_blk C 229 2 (pc' := 437) (ls' := [.val (.int a), .val (.int b), .val (.int c), .val (.int d), .val (.int mode), .val (.ref pm), .val (.int tl), .val (.int t0), .val (.int t1), .val (.int sl), .val (.int s0), .val (.int s1), .val (.int q12), .val (.int ol), .val (.int o0), .val (.int o1), .val (.int q16), .val (.int pl), .val (.int p0), .val (.int p1), .val (.ref m1), .val (.ref m2), .val (.int e1), .val (.int e2), .val (.int e3), .val (.int e4), .val (.int 0)]) (st' := []) rfl ?_
                                  exact J437 (0 : Int32) (by simp [hb0, hb1])
                                · refine wp_blk C 223 1 (pc' := 422) (ls' := [.val (.int a), .val (.int b), .val (.int c), .val (.int d), .val (.int mode), .val (.ref pm), .val (.int tl), .val (.int t0), .val (.int t1), .val (.int sl), .val (.int s0), .val (.int s1), .val (.int q12), .val (.int ol), .val (.int o0), .val (.int o1), .val (.int q16), .val (.int pl), .val (.int p0), .val (.int p1), .val (.ref m1), .val (.ref m2), .val (.int e1), .val (.int e2), .val (.int e3), .val (.int e4), .unset]) (st' := [.int e2]) rfl ?_
                                  refine wp_ifz C 224 430 425 rfl rfl rfl (by decide) (fun (hb2 : (e2 : Int32) ≠ 0) => ?_) (fun (hb2 : (e2 : Int32) = 0) => ?_)
                                  · refine wp_blk C 227 2 (pc' := 435) (ls' := [.val (.int a), .val (.int b), .val (.int c), .val (.int d), .val (.int mode), .val (.ref pm), .val (.int tl), .val (.int t0), .val (.int t1), .val (.int sl), .val (.int s0), .val (.int s1), .val (.int q12), .val (.int ol), .val (.int o0), .val (.int o1), .val (.int q16), .val (.int pl), .val (.int p0), .val (.int p1), .val (.ref m1), .val (.ref m2), .val (.int e1), .val (.int e2), .val (.int e3), .val (.int e4), .unset]) (st' := [.int 1]) rfl ?_
                                    refine wp_blk C 230 1 (pc' := 437) (ls' := [.val (.int a), .val (.int b), .val (.int c), .val (.int d), .val (.int mode), .val (.ref pm), .val (.int tl), .val (.int t0), .val (.int t1), .val (.int sl), .val (.int s0), .val (.int s1), .val (.int q12), .val (.int ol), .val (.int o0), .val (.int o1), .val (.int q16), .val (.int pl), .val (.int p0), .val (.int p1), .val (.ref m1), .val (.ref m2), .val (.int e1), .val (.int e2), .val (.int e3), .val (.int e4), .val (.int 1)]) (st' := []) rfl ?_
                                    exact J437 (1 : Int32) (by simp [hb0, hb1, hb2])
                                  · refine wp_blk C 225 1 (pc' := 427) (ls' := [.val (.int a), .val (.int b), .val (.int c), .val (.int d), .val (.int mode), .val (.ref pm), .val (.int tl), .val (.int t0), .val (.int t1), .val (.int sl), .val (.int s0), .val (.int s1), .val (.int q12), .val (.int ol), .val (.int o0), .val (.int o1), .val (.int q16), .val (.int pl), .val (.int p0), .val (.int p1), .val (.ref m1), .val (.ref m2), .val (.int e1), .val (.int e2), .val (.int e3), .val (.int e4), .unset]) (st' := [.int e4]) rfl ?_
                                    refine wp_ifz C 226 434 430 rfl rfl rfl (by decide) (fun (hb3 : (e4 : Int32) = 0) => ?_) (fun (hb3 : (e4 : Int32) ≠ 0) => ?_)
                                    · refine wp_blk C 229 2 (pc' := 437) (ls' := [.val (.int a), .val (.int b), .val (.int c), .val (.int d), .val (.int mode), .val (.ref pm), .val (.int tl), .val (.int t0), .val (.int t1), .val (.int sl), .val (.int s0), .val (.int s1), .val (.int q12), .val (.int ol), .val (.int o0), .val (.int o1), .val (.int q16), .val (.int pl), .val (.int p0), .val (.int p1), .val (.ref m1), .val (.ref m2), .val (.int e1), .val (.int e2), .val (.int e3), .val (.int e4), .val (.int 0)]) (st' := []) rfl ?_
                                      exact J437 (0 : Int32) (by simp [hb0, hb1, hb2, hb3])
                                    · refine wp_blk C 227 2 (pc' := 435) (ls' := [.val (.int a), .val (.int b), .val (.int c), .val (.int d), .val (.int mode), .val (.ref pm), .val (.int tl), .val (.int t0), .val (.int t1), .val (.int sl), .val (.int s0), .val (.int s1), .val (.int q12), .val (.int ol), .val (.int o0), .val (.int o1), .val (.int q16), .val (.int pl), .val (.int p0), .val (.int p1), .val (.ref m1), .val (.ref m2), .val (.int e1), .val (.int e2), .val (.int e3), .val (.int e4), .unset]) (st' := [.int 1]) rfl ?_
                                      refine wp_blk C 230 1 (pc' := 437) (ls' := [.val (.int a), .val (.int b), .val (.int c), .val (.int d), .val (.int mode), .val (.ref pm), .val (.int tl), .val (.int t0), .val (.int t1), .val (.int sl), .val (.int s0), .val (.int s1), .val (.int q12), .val (.int ol), .val (.int o0), .val (.int o1), .val (.int q16), .val (.int pl), .val (.int p0), .val (.int p1), .val (.ref m1), .val (.ref m2), .val (.int e1), .val (.int e2), .val (.int e3), .val (.int e4), .val (.int 1)]) (st' := []) rfl ?_
                                      exact J437 (1 : Int32) (by simp [hb0, hb1, hb2, hb3])
                            refine wp_blk C 203 2 (pc' := 380) (ls' := [.val (.int a), .val (.int b), .val (.int c), .val (.int d), .val (.int mode), .val (.ref pm), .val (.int tl), .val (.int t0), .val (.int t1), .val (.int sl), .val (.int s0), .val (.int s1), .val (.int q12), .val (.int ol), .val (.int o0), .val (.int o1), .val (.int q16), .val (.int pl), .val (.int p0), .val (.int p1), .val (.ref m1), .val (.ref m2), .val (.int e1), .val (.int e2), .val (.int e3), .unset, .unset]) (st' := [.int pl, .int sl]) rfl ?_
                            refine wp_icmp C 205 407 383 rfl rfl rfl (by decide) (fun (hb0 : (sl : Int32) ≠ pl) => ?_) (fun (hb0 : (sl : Int32) = pl) => ?_)
                            · refine wp_blk C 217 2 (pc' := 410) (ls' := [.val (.int a), .val (.int b), .val (.int c), .val (.int d), .val (.int mode), .val (.ref pm), .val (.int tl), .val (.int t0), .val (.int t1), .val (.int sl), .val (.int s0), .val (.int s1), .val (.int q12), .val (.int ol), .val (.int o0), .val (.int o1), .val (.int q16), .val (.int pl), .val (.int p0), .val (.int p1), .val (.ref m1), .val (.ref m2), .val (.int e1), .val (.int e2), .val (.int e3), .val (.int 0), .unset]) (st' := []) rfl ?_
                              exact J410 (0 : Int32) (by rw [if_neg (show ¬ (sl = pl ∧ s0 = p0 ∧ (sl = 1 ∨ s1 = p1)) from fun ⟨q1, q2, q3⟩ => by rcases q3 with q3 | q3 <;> contradiction)])
                            · refine wp_blk C 206 2 (pc' := 387) (ls' := [.val (.int a), .val (.int b), .val (.int c), .val (.int d), .val (.int mode), .val (.ref pm), .val (.int tl), .val (.int t0), .val (.int t1), .val (.int sl), .val (.int s0), .val (.int s1), .val (.int q12), .val (.int ol), .val (.int o0), .val (.int o1), .val (.int q16), .val (.int pl), .val (.int p0), .val (.int p1), .val (.ref m1), .val (.ref m2), .val (.int e1), .val (.int e2), .val (.int e3), .unset, .unset]) (st' := [.int p0, .int s0]) rfl ?_
                              refine wp_icmp C 208 407 390 rfl rfl rfl (by decide) (fun (hb1 : (s0 : Int32) ≠ p0) => ?_) (fun (hb1 : (s0 : Int32) = p0) => ?_)
                              · refine wp_blk C 217 2 (pc' := 410) (ls' := [.val (.int a), .val (.int b), .val (.int c), .val (.int d), .val (.int mode), .val (.ref pm), .val (.int tl), .val (.int t0), .val (.int t1), .val (.int sl), .val (.int s0), .val (.int s1), .val (.int q12), .val (.int ol), .val (.int o0), .val (.int o1), .val (.int q16), .val (.int pl), .val (.int p0), .val (.int p1), .val (.ref m1), .val (.ref m2), .val (.int e1), .val (.int e2), .val (.int e3), .val (.int 0), .unset]) (st' := []) rfl ?_
                                exact J410 (0 : Int32) (by rw [if_neg (show ¬ (sl = pl ∧ s0 = p0 ∧ (sl = 1 ∨ s1 = p1)) from fun ⟨q1, q2, q3⟩ => by rcases q3 with q3 | q3 <;> contradiction)])
                              · refine wp_blk C 209 2 (pc' := 393) (ls' := [.val (.int a), .val (.int b), .val (.int c), .val (.int d), .val (.int mode), .val (.ref pm), .val (.int tl), .val (.int t0), .val (.int t1), .val (.int sl), .val (.int s0), .val (.int s1), .val (.int q12), .val (.int ol), .val (.int o0), .val (.int o1), .val (.int q16), .val (.int pl), .val (.int p0), .val (.int p1), .val (.ref m1), .val (.ref m2), .val (.int e1), .val (.int e2), .val (.int e3), .unset, .unset]) (st' := [.int 1, .int sl]) rfl ?_
                                refine wp_icmp C 211 403 396 rfl rfl rfl (by decide) (fun (hb2 : (sl : Int32) = 1) => ?_) (fun (hb2 : (sl : Int32) ≠ 1) => ?_)
                                · refine wp_blk C 215 2 (pc' := 408) (ls' := [.val (.int a), .val (.int b), .val (.int c), .val (.int d), .val (.int mode), .val (.ref pm), .val (.int tl), .val (.int t0), .val (.int t1), .val (.int sl), .val (.int s0), .val (.int s1), .val (.int q12), .val (.int ol), .val (.int o0), .val (.int o1), .val (.int q16), .val (.int pl), .val (.int p0), .val (.int p1), .val (.ref m1), .val (.ref m2), .val (.int e1), .val (.int e2), .val (.int e3), .unset, .unset]) (st' := [.int 1]) rfl ?_
                                  refine wp_blk C 218 1 (pc' := 410) (ls' := [.val (.int a), .val (.int b), .val (.int c), .val (.int d), .val (.int mode), .val (.ref pm), .val (.int tl), .val (.int t0), .val (.int t1), .val (.int sl), .val (.int s0), .val (.int s1), .val (.int q12), .val (.int ol), .val (.int o0), .val (.int o1), .val (.int q16), .val (.int pl), .val (.int p0), .val (.int p1), .val (.ref m1), .val (.ref m2), .val (.int e1), .val (.int e2), .val (.int e3), .val (.int 1), .unset]) (st' := []) rfl ?_
                                  exact J410 (1 : Int32) (by rw [if_pos (show sl = pl ∧ s0 = p0 ∧ (sl = 1 ∨ s1 = p1) from ⟨by assumption, by assumption, by first | (left; assumption) | (right; assumption)⟩)])
                                · refine wp_blk C 212 2 (pc' := 400) (ls' := [.val (.int a), .val (.int b), .val (.int c), .val (.int d), .val (.int mode), .val (.ref pm), .val (.int tl), .val (.int t0), .val (.int t1), .val (.int sl), .val (.int s0), .val (.int s1), .val (.int q12), .val (.int ol), .val (.int o0), .val (.int o1), .val (.int q16), .val (.int pl), .val (.int p0), .val (.int p1), .val (.ref m1), .val (.ref m2), .val (.int e1), .val (.int e2), .val (.int e3), .unset, .unset]) (st' := [.int p1, .int s1]) rfl ?_
                                  refine wp_icmp C 214 407 403 rfl rfl rfl (by decide) (fun (hb3 : (s1 : Int32) ≠ p1) => ?_) (fun (hb3 : (s1 : Int32) = p1) => ?_)
                                  · refine wp_blk C 217 2 (pc' := 410) (ls' := [.val (.int a), .val (.int b), .val (.int c), .val (.int d), .val (.int mode), .val (.ref pm), .val (.int tl), .val (.int t0), .val (.int t1), .val (.int sl), .val (.int s0), .val (.int s1), .val (.int q12), .val (.int ol), .val (.int o0), .val (.int o1), .val (.int q16), .val (.int pl), .val (.int p0), .val (.int p1), .val (.ref m1), .val (.ref m2), .val (.int e1), .val (.int e2), .val (.int e3), .val (.int 0), .unset]) (st' := []) rfl ?_
                                    exact J410 (0 : Int32) (by rw [if_neg (show ¬ (sl = pl ∧ s0 = p0 ∧ (sl = 1 ∨ s1 = p1)) from fun ⟨q1, q2, q3⟩ => by rcases q3 with q3 | q3 <;> contradiction)])
                                  · refine wp_blk C 215 2 (pc' := 408) (ls' := [.val (.int a), .val (.int b), .val (.int c), .val (.int d), .val (.int mode), .val (.ref pm), .val (.int tl), .val (.int t0), .val (.int t1), .val (.int sl), .val (.int s0), .val (.int s1), .val (.int q12), .val (.int ol), .val (.int o0), .val (.int o1), .val (.int q16), .val (.int pl), .val (.int p0), .val (.int p1), .val (.ref m1), .val (.ref m2), .val (.int e1), .val (.int e2), .val (.int e3), .unset, .unset]) (st' := [.int 1]) rfl ?_
                                    refine wp_blk C 218 1 (pc' := 410) (ls' := [.val (.int a), .val (.int b), .val (.int c), .val (.int d), .val (.int mode), .val (.ref pm), .val (.int tl), .val (.int t0), .val (.int t1), .val (.int sl), .val (.int s0), .val (.int s1), .val (.int q12), .val (.int ol), .val (.int o0), .val (.int o1), .val (.int q16), .val (.int pl), .val (.int p0), .val (.int p1), .val (.ref m1), .val (.ref m2), .val (.int e1), .val (.int e2), .val (.int e3), .val (.int 1), .unset]) (st' := []) rfl ?_
                                    exact J410 (1 : Int32) (by rw [if_pos (show sl = pl ∧ s0 = p0 ∧ (sl = 1 ∨ s1 = p1) from ⟨by assumption, by assumption, by first | (left; assumption) | (right; assumption)⟩)])
                          refine wp_blk C 187 2 (pc' := 346) (ls' := [.val (.int a), .val (.int b), .val (.int c), .val (.int d), .val (.int mode), .val (.ref pm), .val (.int tl), .val (.int t0), .val (.int t1), .val (.int sl), .val (.int s0), .val (.int s1), .val (.int q12), .val (.int ol), .val (.int o0), .val (.int o1), .val (.int q16), .val (.int pl), .val (.int p0), .val (.int p1), .val (.ref m1), .val (.ref m2), .val (.int e1), .val (.int e2), .unset, .unset, .unset]) (st' := [.int ol, .int tl]) rfl ?_
                          refine wp_icmp C 189 373 349 rfl rfl rfl (by decide) (fun (hb0 : (tl : Int32) ≠ ol) => ?_) (fun (hb0 : (tl : Int32) = ol) => ?_)
                          · refine wp_blk C 201 2 (pc' := 376) (ls' := [.val (.int a), .val (.int b), .val (.int c), .val (.int d), .val (.int mode), .val (.ref pm), .val (.int tl), .val (.int t0), .val (.int t1), .val (.int sl), .val (.int s0), .val (.int s1), .val (.int q12), .val (.int ol), .val (.int o0), .val (.int o1), .val (.int q16), .val (.int pl), .val (.int p0), .val (.int p1), .val (.ref m1), .val (.ref m2), .val (.int e1), .val (.int e2), .val (.int 0), .unset, .unset]) (st' := []) rfl ?_
                            exact J376 (0 : Int32) (by rw [if_neg (show ¬ (tl = ol ∧ t0 = o0 ∧ (tl = 1 ∨ t1 = o1)) from fun ⟨q1, q2, q3⟩ => by rcases q3 with q3 | q3 <;> contradiction)])
                          · refine wp_blk C 190 2 (pc' := 353) (ls' := [.val (.int a), .val (.int b), .val (.int c), .val (.int d), .val (.int mode), .val (.ref pm), .val (.int tl), .val (.int t0), .val (.int t1), .val (.int sl), .val (.int s0), .val (.int s1), .val (.int q12), .val (.int ol), .val (.int o0), .val (.int o1), .val (.int q16), .val (.int pl), .val (.int p0), .val (.int p1), .val (.ref m1), .val (.ref m2), .val (.int e1), .val (.int e2), .unset, .unset, .unset]) (st' := [.int o0, .int t0]) rfl ?_
                            refine wp_icmp C 192 373 356 rfl rfl rfl (by decide) (fun (hb1 : (t0 : Int32) ≠ o0) => ?_) (fun (hb1 : (t0 : Int32) = o0) => ?_)
                            · refine wp_blk C 201 2 (pc' := 376) (ls' := [.val (.int a), .val (.int b), .val (.int c), .val (.int d), .val (.int mode), .val (.ref pm), .val (.int tl), .val (.int t0), .val (.int t1), .val (.int sl), .val (.int s0), .val (.int s1), .val (.int q12), .val (.int ol), .val (.int o0), .val (.int o1), .val (.int q16), .val (.int pl), .val (.int p0), .val (.int p1), .val (.ref m1), .val (.ref m2), .val (.int e1), .val (.int e2), .val (.int 0), .unset, .unset]) (st' := []) rfl ?_
                              exact J376 (0 : Int32) (by rw [if_neg (show ¬ (tl = ol ∧ t0 = o0 ∧ (tl = 1 ∨ t1 = o1)) from fun ⟨q1, q2, q3⟩ => by rcases q3 with q3 | q3 <;> contradiction)])
                            · refine wp_blk C 193 2 (pc' := 359) (ls' := [.val (.int a), .val (.int b), .val (.int c), .val (.int d), .val (.int mode), .val (.ref pm), .val (.int tl), .val (.int t0), .val (.int t1), .val (.int sl), .val (.int s0), .val (.int s1), .val (.int q12), .val (.int ol), .val (.int o0), .val (.int o1), .val (.int q16), .val (.int pl), .val (.int p0), .val (.int p1), .val (.ref m1), .val (.ref m2), .val (.int e1), .val (.int e2), .unset, .unset, .unset]) (st' := [.int 1, .int tl]) rfl ?_
                              refine wp_icmp C 195 369 362 rfl rfl rfl (by decide) (fun (hb2 : (tl : Int32) = 1) => ?_) (fun (hb2 : (tl : Int32) ≠ 1) => ?_)
                              · refine wp_blk C 199 2 (pc' := 374) (ls' := [.val (.int a), .val (.int b), .val (.int c), .val (.int d), .val (.int mode), .val (.ref pm), .val (.int tl), .val (.int t0), .val (.int t1), .val (.int sl), .val (.int s0), .val (.int s1), .val (.int q12), .val (.int ol), .val (.int o0), .val (.int o1), .val (.int q16), .val (.int pl), .val (.int p0), .val (.int p1), .val (.ref m1), .val (.ref m2), .val (.int e1), .val (.int e2), .unset, .unset, .unset]) (st' := [.int 1]) rfl ?_
                                refine wp_blk C 202 1 (pc' := 376) (ls' := [.val (.int a), .val (.int b), .val (.int c), .val (.int d), .val (.int mode), .val (.ref pm), .val (.int tl), .val (.int t0), .val (.int t1), .val (.int sl), .val (.int s0), .val (.int s1), .val (.int q12), .val (.int ol), .val (.int o0), .val (.int o1), .val (.int q16), .val (.int pl), .val (.int p0), .val (.int p1), .val (.ref m1), .val (.ref m2), .val (.int e1), .val (.int e2), .val (.int 1), .unset, .unset]) (st' := []) rfl ?_
                                exact J376 (1 : Int32) (by rw [if_pos (show tl = ol ∧ t0 = o0 ∧ (tl = 1 ∨ t1 = o1) from ⟨by assumption, by assumption, by first | (left; assumption) | (right; assumption)⟩)])
                              · refine wp_blk C 196 2 (pc' := 366) (ls' := [.val (.int a), .val (.int b), .val (.int c), .val (.int d), .val (.int mode), .val (.ref pm), .val (.int tl), .val (.int t0), .val (.int t1), .val (.int sl), .val (.int s0), .val (.int s1), .val (.int q12), .val (.int ol), .val (.int o0), .val (.int o1), .val (.int q16), .val (.int pl), .val (.int p0), .val (.int p1), .val (.ref m1), .val (.ref m2), .val (.int e1), .val (.int e2), .unset, .unset, .unset]) (st' := [.int o1, .int t1]) rfl ?_
                                refine wp_icmp C 198 373 369 rfl rfl rfl (by decide) (fun (hb3 : (t1 : Int32) ≠ o1) => ?_) (fun (hb3 : (t1 : Int32) = o1) => ?_)
                                · refine wp_blk C 201 2 (pc' := 376) (ls' := [.val (.int a), .val (.int b), .val (.int c), .val (.int d), .val (.int mode), .val (.ref pm), .val (.int tl), .val (.int t0), .val (.int t1), .val (.int sl), .val (.int s0), .val (.int s1), .val (.int q12), .val (.int ol), .val (.int o0), .val (.int o1), .val (.int q16), .val (.int pl), .val (.int p0), .val (.int p1), .val (.ref m1), .val (.ref m2), .val (.int e1), .val (.int e2), .val (.int 0), .unset, .unset]) (st' := []) rfl ?_
                                  exact J376 (0 : Int32) (by rw [if_neg (show ¬ (tl = ol ∧ t0 = o0 ∧ (tl = 1 ∨ t1 = o1)) from fun ⟨q1, q2, q3⟩ => by rcases q3 with q3 | q3 <;> contradiction)])
                                · refine wp_blk C 199 2 (pc' := 374) (ls' := [.val (.int a), .val (.int b), .val (.int c), .val (.int d), .val (.int mode), .val (.ref pm), .val (.int tl), .val (.int t0), .val (.int t1), .val (.int sl), .val (.int s0), .val (.int s1), .val (.int q12), .val (.int ol), .val (.int o0), .val (.int o1), .val (.int q16), .val (.int pl), .val (.int p0), .val (.int p1), .val (.ref m1), .val (.ref m2), .val (.int e1), .val (.int e2), .unset, .unset, .unset]) (st' := [.int 1]) rfl ?_
                                  refine wp_blk C 202 1 (pc' := 376) (ls' := [.val (.int a), .val (.int b), .val (.int c), .val (.int d), .val (.int mode), .val (.ref pm), .val (.int tl), .val (.int t0), .val (.int t1), .val (.int sl), .val (.int s0), .val (.int s1), .val (.int q12), .val (.int ol), .val (.int o0), .val (.int o1), .val (.int q16), .val (.int pl), .val (.int p0), .val (.int p1), .val (.ref m1), .val (.ref m2), .val (.int e1), .val (.int e2), .val (.int 1), .unset, .unset]) (st' := []) rfl ?_
                                  exact J376 (1 : Int32) (by rw [if_pos (show tl = ol ∧ t0 = o0 ∧ (tl = 1 ∨ t1 = o1) from ⟨by assumption, by assumption, by first | (left; assumption) | (right; assumption)⟩)])
                        refine wp_blk C 177 2 (pc' := 325) (ls' := [.val (.int a), .val (.int b), .val (.int c), .val (.int d), .val (.int mode), .val (.ref pm), .val (.int tl), .val (.int t0), .val (.int t1), .val (.int sl), .val (.int s0), .val (.int s1), .val (.int q12), .val (.int ol), .val (.int o0), .val (.int o1), .val (.int q16), .val (.int pl), .val (.int p0), .val (.int p1), .val (.ref m1), .val (.ref m2), .val (.int e1), .unset, .unset, .unset, .unset]) (st' := [.int 1, .int sl]) rfl ?_
                        refine wp_icmp C 179 339 328 rfl rfl rfl (by decide) (fun (hb0 : (sl : Int32) ≠ 1) => ?_) (fun (hb0 : (sl : Int32) = 1) => ?_)
                        · refine wp_blk C 185 2 (pc' := 342) (ls' := [.val (.int a), .val (.int b), .val (.int c), .val (.int d), .val (.int mode), .val (.ref pm), .val (.int tl), .val (.int t0), .val (.int t1), .val (.int sl), .val (.int s0), .val (.int s1), .val (.int q12), .val (.int ol), .val (.int o0), .val (.int o1), .val (.int q16), .val (.int pl), .val (.int p0), .val (.int p1), .val (.ref m1), .val (.ref m2), .val (.int e1), .val (.int 0), .unset, .unset, .unset]) (st' := []) rfl ?_
                          exact J342 (0 : Int32) (by simp [hb0])
                        · refine wp_blk C 180 2 (pc' := 332) (ls' := [.val (.int a), .val (.int b), .val (.int c), .val (.int d), .val (.int mode), .val (.ref pm), .val (.int tl), .val (.int t0), .val (.int t1), .val (.int sl), .val (.int s0), .val (.int s1), .val (.int q12), .val (.int ol), .val (.int o0), .val (.int o1), .val (.int q16), .val (.int pl), .val (.int p0), .val (.int p1), .val (.ref m1), .val (.ref m2), .val (.int e1), .unset, .unset, .unset, .unset]) (st' := [.int 42, .int s0]) rfl ?_
                          refine wp_icmp C 182 339 335 rfl rfl rfl (by decide) (fun (hb1 : (s0 : Int32) ≠ 42) => ?_) (fun (hb1 : (s0 : Int32) = 42) => ?_)
                          · refine wp_blk C 185 2 (pc' := 342) (ls' := [.val (.int a), .val (.int b), .val (.int c), .val (.int d), .val (.int mode), .val (.ref pm), .val (.int tl), .val (.int t0), .val (.int t1), .val (.int sl), .val (.int s0), .val (.int s1), .val (.int q12), .val (.int ol), .val (.int o0), .val (.int o1), .val (.int q16), .val (.int pl), .val (.int p0), .val (.int p1), .val (.ref m1), .val (.ref m2), .val (.int e1), .val (.int 0), .unset, .unset, .unset]) (st' := []) rfl ?_
                            exact J342 (0 : Int32) (by simp [hb0, hb1])
                          · refine wp_blk C 183 2 (pc' := 340) (ls' := [.val (.int a), .val (.int b), .val (.int c), .val (.int d), .val (.int mode), .val (.ref pm), .val (.int tl), .val (.int t0), .val (.int t1), .val (.int sl), .val (.int s0), .val (.int s1), .val (.int q12), .val (.int ol), .val (.int o0), .val (.int o1), .val (.int q16), .val (.int pl), .val (.int p0), .val (.int p1), .val (.ref m1), .val (.ref m2), .val (.int e1), .unset, .unset, .unset, .unset]) (st' := [.int 1]) rfl ?_
                            refine wp_blk C 186 1 (pc' := 342) (ls' := [.val (.int a), .val (.int b), .val (.int c), .val (.int d), .val (.int mode), .val (.ref pm), .val (.int tl), .val (.int t0), .val (.int t1), .val (.int sl), .val (.int s0), .val (.int s1), .val (.int q12), .val (.int ol), .val (.int o0), .val (.int o1), .val (.int q16), .val (.int pl), .val (.int p0), .val (.int p1), .val (.ref m1), .val (.ref m2), .val (.int e1), .val (.int 1), .unset, .unset, .unset]) (st' := []) rfl ?_
                            exact J342 (1 : Int32) (by simp [hb0, hb1])
                      refine wp_blk C 167 2 (pc' := 305) (ls' := [.val (.int a), .val (.int b), .val (.int c), .val (.int d), .val (.int mode), .val (.ref pm), .val (.int tl), .val (.int t0), .val (.int t1), .val (.int sl), .val (.int s0), .val (.int s1), .val (.int q12), .val (.int ol), .val (.int o0), .val (.int o1), .val (.int q16), .val (.int pl), .val (.int p0), .val (.int p1), .val (.ref m1), .val (.ref m2), .unset, .unset, .unset, .unset, .unset]) (st' := [.int 1, .int tl]) rfl ?_
                      refine wp_icmp C 169 319 308 rfl rfl rfl (by decide) (fun (hb0 : (tl : Int32) ≠ 1) => ?_) (fun (hb0 : (tl : Int32) = 1) => ?_)
                      · refine wp_blk C 175 2 (pc' := 322) (ls' := [.val (.int a), .val (.int b), .val (.int c), .val (.int d), .val (.int mode), .val (.ref pm), .val (.int tl), .val (.int t0), .val (.int t1), .val (.int sl), .val (.int s0), .val (.int s1), .val (.int q12), .val (.int ol), .val (.int o0), .val (.int o1), .val (.int q16), .val (.int pl), .val (.int p0), .val (.int p1), .val (.ref m1), .val (.ref m2), .val (.int 0), .unset, .unset, .unset, .unset]) (st' := []) rfl ?_
                        exact J322 (0 : Int32) (by simp [hb0])
                      · refine wp_blk C 170 2 (pc' := 312) (ls' := [.val (.int a), .val (.int b), .val (.int c), .val (.int d), .val (.int mode), .val (.ref pm), .val (.int tl), .val (.int t0), .val (.int t1), .val (.int sl), .val (.int s0), .val (.int s1), .val (.int q12), .val (.int ol), .val (.int o0), .val (.int o1), .val (.int q16), .val (.int pl), .val (.int p0), .val (.int p1), .val (.ref m1), .val (.ref m2), .unset, .unset, .unset, .unset, .unset]) (st' := [.int 42, .int t0]) rfl ?_
                        refine wp_icmp C 172 319 315 rfl rfl rfl (by decide) (fun (hb1 : (t0 : Int32) ≠ 42) => ?_) (fun (hb1 : (t0 : Int32) = 42) => ?_)
                        · refine wp_blk C 175 2 (pc' := 322) (ls' := [.val (.int a), .val (.int b), .val (.int c), .val (.int d), .val (.int mode), .val (.ref pm), .val (.int tl), .val (.int t0), .val (.int t1), .val (.int sl), .val (.int s0), .val (.int s1), .val (.int q12), .val (.int ol), .val (.int o0), .val (.int o1), .val (.int q16), .val (.int pl), .val (.int p0), .val (.int p1), .val (.ref m1), .val (.ref m2), .val (.int 0), .unset, .unset, .unset, .unset]) (st' := []) rfl ?_
                          exact J322 (0 : Int32) (by simp [hb0, hb1])
                        · refine wp_blk C 173 2 (pc' := 320) (ls' := [.val (.int a), .val (.int b), .val (.int c), .val (.int d), .val (.int mode), .val (.ref pm), .val (.int tl), .val (.int t0), .val (.int t1), .val (.int sl), .val (.int s0), .val (.int s1), .val (.int q12), .val (.int ol), .val (.int o0), .val (.int o1), .val (.int q16), .val (.int pl), .val (.int p0), .val (.int p1), .val (.ref m1), .val (.ref m2), .unset, .unset, .unset, .unset, .unset]) (st' := [.int 1]) rfl ?_
                          refine wp_blk C 176 1 (pc' := 322) (ls' := [.val (.int a), .val (.int b), .val (.int c), .val (.int d), .val (.int mode), .val (.ref pm), .val (.int tl), .val (.int t0), .val (.int t1), .val (.int sl), .val (.int s0), .val (.int s1), .val (.int q12), .val (.int ol), .val (.int o0), .val (.int o1), .val (.int q16), .val (.int pl), .val (.int p0), .val (.int p1), .val (.ref m1), .val (.ref m2), .val (.int 1), .unset, .unset, .unset, .unset]) (st' := []) rfl ?_
                          exact J322 (1 : Int32) (by simp [hb0, hb1])
                    refine wp_blk C 130 1 (pc' := 225) (ls' := [.val (.int a), .val (.int b), .val (.int c), .val (.int d), .val (.int mode), .val (.ref pm), .val (.int tl), .val (.int t0), .val (.int t1), .val (.int sl), .val (.int s0), .val (.int s1), .val (.int q12), .val (.int ol), .val (.int o0), .val (.int o1), .val (.int q16), .val (.int pl), .val (.int p0), .unset, .unset, .unset, .unset, .unset, .unset, .unset, .unset]) (st' := [.int q16]) rfl ?_
                    refine wp_ifz C 131 233 228 rfl rfl rfl (by decide) (fun (hb0 : (q16 : Int32) = 0) => ?_) (fun (hb0 : (q16 : Int32) ≠ 0) => ?_)
                    · refine wp_blk C 134 7 (pc' := 244) (ls' := [.val (.int a), .val (.int b), .val (.int c), .val (.int d), .val (.int mode), .val (.ref pm), .val (.int tl), .val (.int t0), .val (.int t1), .val (.int sl), .val (.int s0), .val (.int s1), .val (.int q12), .val (.int ol), .val (.int o0), .val (.int o1), .val (.int q16), .val (.int pl), .val (.int p0), .val (.int (((ush d 8) &&& 255 : Int32).toUInt32.toUInt16.toUInt32.toInt32)), .unset, .unset, .unset, .unset, .unset, .unset, .unset]) (st' := []) rfl ?_
                      exact J244 (((ush d 8) &&& 255 : Int32).toUInt32.toUInt16.toUInt32.toInt32) (by rw [i2c_mask]; exact lat_and _)
                    · refine wp_blk C 132 2 (pc' := 242) (ls' := [.val (.int a), .val (.int b), .val (.int c), .val (.int d), .val (.int mode), .val (.ref pm), .val (.int tl), .val (.int t0), .val (.int t1), .val (.int sl), .val (.int s0), .val (.int s1), .val (.int q12), .val (.int ol), .val (.int o0), .val (.int o1), .val (.int q16), .val (.int pl), .val (.int p0), .unset, .unset, .unset, .unset, .unset, .unset, .unset, .unset]) (st' := [.int s1]) rfl ?_
                      refine wp_blk C 140 1 (pc' := 244) (ls' := [.val (.int a), .val (.int b), .val (.int c), .val (.int d), .val (.int mode), .val (.ref pm), .val (.int tl), .val (.int t0), .val (.int t1), .val (.int sl), .val (.int s0), .val (.int s1), .val (.int q12), .val (.int ol), .val (.int o0), .val (.int o1), .val (.int q16), .val (.int pl), .val (.int p0), .val (.int s1), .unset, .unset, .unset, .unset, .unset, .unset, .unset]) (st' := []) rfl ?_
                      exact J244 s1 Hs1
                  refine wp_blk C 121 1 (pc' := 207) (ls' := [.val (.int a), .val (.int b), .val (.int c), .val (.int d), .val (.int mode), .val (.ref pm), .val (.int tl), .val (.int t0), .val (.int t1), .val (.int sl), .val (.int s0), .val (.int s1), .val (.int q12), .val (.int ol), .val (.int o0), .val (.int o1), .val (.int q16), .val (.int pl), .unset, .unset, .unset, .unset, .unset, .unset, .unset, .unset, .unset]) (st' := [.int q16]) rfl ?_
                  refine wp_ifz C 122 215 210 rfl rfl rfl (by decide) (fun (hb0 : (q16 : Int32) = 0) => ?_) (fun (hb0 : (q16 : Int32) ≠ 0) => ?_)
                  · refine wp_blk C 125 5 (pc' := 223) (ls' := [.val (.int a), .val (.int b), .val (.int c), .val (.int d), .val (.int mode), .val (.ref pm), .val (.int tl), .val (.int t0), .val (.int t1), .val (.int sl), .val (.int s0), .val (.int s1), .val (.int q12), .val (.int ol), .val (.int o0), .val (.int o1), .val (.int q16), .val (.int pl), .val (.int ((d &&& 255 : Int32).toUInt32.toUInt16.toUInt32.toInt32)), .unset, .unset, .unset, .unset, .unset, .unset, .unset, .unset]) (st' := []) rfl ?_
                    exact J223 ((d &&& 255 : Int32).toUInt32.toUInt16.toUInt32.toInt32) (by rw [i2c_mask]; exact lat_and _)
                  · refine wp_blk C 123 2 (pc' := 221) (ls' := [.val (.int a), .val (.int b), .val (.int c), .val (.int d), .val (.int mode), .val (.ref pm), .val (.int tl), .val (.int t0), .val (.int t1), .val (.int sl), .val (.int s0), .val (.int s1), .val (.int q12), .val (.int ol), .val (.int o0), .val (.int o1), .val (.int q16), .val (.int pl), .unset, .unset, .unset, .unset, .unset, .unset, .unset, .unset, .unset]) (st' := [.int s0]) rfl ?_
                    refine wp_blk C 129 1 (pc' := 223) (ls' := [.val (.int a), .val (.int b), .val (.int c), .val (.int d), .val (.int mode), .val (.ref pm), .val (.int tl), .val (.int t0), .val (.int t1), .val (.int sl), .val (.int s0), .val (.int s1), .val (.int q12), .val (.int ol), .val (.int o0), .val (.int o1), .val (.int q16), .val (.int pl), .val (.int s0), .unset, .unset, .unset, .unset, .unset, .unset, .unset, .unset]) (st' := []) rfl ?_
                    exact J223 s0 Hs0
                refine wp_blk C 109 1 (pc' := 187) (ls' := [.val (.int a), .val (.int b), .val (.int c), .val (.int d), .val (.int mode), .val (.ref pm), .val (.int tl), .val (.int t0), .val (.int t1), .val (.int sl), .val (.int s0), .val (.int s1), .val (.int q12), .val (.int ol), .val (.int o0), .val (.int o1), .val (.int q16), .unset, .unset, .unset, .unset, .unset, .unset, .unset, .unset, .unset, .unset]) (st' := [.int q16]) rfl ?_
                refine wp_ifz C 110 195 190 rfl rfl rfl (by decide) (fun (hb0 : (q16 : Int32) = 0) => ?_) (fun (hb0 : (q16 : Int32) ≠ 0) => ?_)
                · refine wp_blk C 113 8 (pc' := 205) (ls' := [.val (.int a), .val (.int b), .val (.int c), .val (.int d), .val (.int mode), .val (.ref pm), .val (.int tl), .val (.int t0), .val (.int t1), .val (.int sl), .val (.int s0), .val (.int s1), .val (.int q12), .val (.int ol), .val (.int o0), .val (.int o1), .val (.int q16), .val (.int (1 + ((ush mode 5) &&& 1))), .unset, .unset, .unset, .unset, .unset, .unset, .unset, .unset, .unset]) (st' := []) rfl ?_
                  exact J205 (1 + ((ush mode 5) &&& 1)) (len12 _)
                · refine wp_blk C 111 2 (pc' := 203) (ls' := [.val (.int a), .val (.int b), .val (.int c), .val (.int d), .val (.int mode), .val (.ref pm), .val (.int tl), .val (.int t0), .val (.int t1), .val (.int sl), .val (.int s0), .val (.int s1), .val (.int q12), .val (.int ol), .val (.int o0), .val (.int o1), .val (.int q16), .unset, .unset, .unset, .unset, .unset, .unset, .unset, .unset, .unset, .unset]) (st' := [.int sl]) rfl ?_
                  refine wp_blk C 120 1 (pc' := 205) (ls' := [.val (.int a), .val (.int b), .val (.int c), .val (.int d), .val (.int mode), .val (.ref pm), .val (.int tl), .val (.int t0), .val (.int t1), .val (.int sl), .val (.int s0), .val (.int s1), .val (.int q12), .val (.int ol), .val (.int o0), .val (.int o1), .val (.int q16), .val (.int sl), .unset, .unset, .unset, .unset, .unset, .unset, .unset, .unset, .unset]) (st' := []) rfl ?_
                  exact J205 sl Hsl
              refine wp_blk C 99 5 (pc' := 175) (ls' := [.val (.int a), .val (.int b), .val (.int c), .val (.int d), .val (.int mode), .val (.ref pm), .val (.int tl), .val (.int t0), .val (.int t1), .val (.int sl), .val (.int s0), .val (.int s1), .val (.int q12), .val (.int ol), .val (.int o0), .val (.int o1), .unset, .unset, .unset, .unset, .unset, .unset, .unset, .unset, .unset, .unset, .unset]) (st' := [.int ((ush mode 4) &&& 1)]) rfl ?_
              refine wp_ifz C 104 182 178 rfl rfl rfl (by decide) (fun (hb0 : (((ush mode 4) &&& 1) : Int32) = 0) => ?_) (fun (hb0 : (((ush mode 4) &&& 1) : Int32) ≠ 0) => ?_)
              · refine wp_blk C 107 2 (pc' := 185) (ls' := [.val (.int a), .val (.int b), .val (.int c), .val (.int d), .val (.int mode), .val (.ref pm), .val (.int tl), .val (.int t0), .val (.int t1), .val (.int sl), .val (.int s0), .val (.int s1), .val (.int q12), .val (.int ol), .val (.int o0), .val (.int o1), .val (.int 0), .unset, .unset, .unset, .unset, .unset, .unset, .unset, .unset, .unset, .unset]) (st' := []) rfl ?_
                exact J185 (0 : Int32) 
              · refine wp_blk C 105 2 (pc' := 183) (ls' := [.val (.int a), .val (.int b), .val (.int c), .val (.int d), .val (.int mode), .val (.ref pm), .val (.int tl), .val (.int t0), .val (.int t1), .val (.int sl), .val (.int s0), .val (.int s1), .val (.int q12), .val (.int ol), .val (.int o0), .val (.int o1), .unset, .unset, .unset, .unset, .unset, .unset, .unset, .unset, .unset, .unset, .unset]) (st' := [.int 1]) rfl ?_
                refine wp_blk C 108 1 (pc' := 185) (ls' := [.val (.int a), .val (.int b), .val (.int c), .val (.int d), .val (.int mode), .val (.ref pm), .val (.int tl), .val (.int t0), .val (.int t1), .val (.int sl), .val (.int s0), .val (.int s1), .val (.int q12), .val (.int ol), .val (.int o0), .val (.int o1), .val (.int 1), .unset, .unset, .unset, .unset, .unset, .unset, .unset, .unset, .unset, .unset]) (st' := []) rfl ?_
                exact J185 (1 : Int32) 
            refine wp_blk C 88 1 (pc' := 150) (ls' := [.val (.int a), .val (.int b), .val (.int c), .val (.int d), .val (.int mode), .val (.ref pm), .val (.int tl), .val (.int t0), .val (.int t1), .val (.int sl), .val (.int s0), .val (.int s1), .val (.int q12), .val (.int ol), .val (.int o0), .unset, .unset, .unset, .unset, .unset, .unset, .unset, .unset, .unset, .unset, .unset, .unset]) (st' := [.int q12]) rfl ?_
            refine wp_ifz C 89 158 153 rfl rfl rfl (by decide) (fun (hb0 : (q12 : Int32) = 0) => ?_) (fun (hb0 : (q12 : Int32) ≠ 0) => ?_)
            · refine wp_blk C 92 7 (pc' := 169) (ls' := [.val (.int a), .val (.int b), .val (.int c), .val (.int d), .val (.int mode), .val (.ref pm), .val (.int tl), .val (.int t0), .val (.int t1), .val (.int sl), .val (.int s0), .val (.int s1), .val (.int q12), .val (.int ol), .val (.int o0), .val (.int (((ush c 8) &&& 255 : Int32).toUInt32.toUInt16.toUInt32.toInt32)), .unset, .unset, .unset, .unset, .unset, .unset, .unset, .unset, .unset, .unset, .unset]) (st' := []) rfl ?_
              exact J169 (((ush c 8) &&& 255 : Int32).toUInt32.toUInt16.toUInt32.toInt32) (by rw [i2c_mask]; exact lat_and _)
            · refine wp_blk C 90 2 (pc' := 167) (ls' := [.val (.int a), .val (.int b), .val (.int c), .val (.int d), .val (.int mode), .val (.ref pm), .val (.int tl), .val (.int t0), .val (.int t1), .val (.int sl), .val (.int s0), .val (.int s1), .val (.int q12), .val (.int ol), .val (.int o0), .unset, .unset, .unset, .unset, .unset, .unset, .unset, .unset, .unset, .unset, .unset, .unset]) (st' := [.int t1]) rfl ?_
              refine wp_blk C 98 1 (pc' := 169) (ls' := [.val (.int a), .val (.int b), .val (.int c), .val (.int d), .val (.int mode), .val (.ref pm), .val (.int tl), .val (.int t0), .val (.int t1), .val (.int sl), .val (.int s0), .val (.int s1), .val (.int q12), .val (.int ol), .val (.int o0), .val (.int t1), .unset, .unset, .unset, .unset, .unset, .unset, .unset, .unset, .unset, .unset, .unset]) (st' := []) rfl ?_
              exact J169 t1 Ht1
          refine wp_blk C 79 1 (pc' := 132) (ls' := [.val (.int a), .val (.int b), .val (.int c), .val (.int d), .val (.int mode), .val (.ref pm), .val (.int tl), .val (.int t0), .val (.int t1), .val (.int sl), .val (.int s0), .val (.int s1), .val (.int q12), .val (.int ol), .unset, .unset, .unset, .unset, .unset, .unset, .unset, .unset, .unset, .unset, .unset, .unset, .unset]) (st' := [.int q12]) rfl ?_
          refine wp_ifz C 80 140 135 rfl rfl rfl (by decide) (fun (hb0 : (q12 : Int32) = 0) => ?_) (fun (hb0 : (q12 : Int32) ≠ 0) => ?_)
          · refine wp_blk C 83 5 (pc' := 148) (ls' := [.val (.int a), .val (.int b), .val (.int c), .val (.int d), .val (.int mode), .val (.ref pm), .val (.int tl), .val (.int t0), .val (.int t1), .val (.int sl), .val (.int s0), .val (.int s1), .val (.int q12), .val (.int ol), .val (.int ((c &&& 255 : Int32).toUInt32.toUInt16.toUInt32.toInt32)), .unset, .unset, .unset, .unset, .unset, .unset, .unset, .unset, .unset, .unset, .unset, .unset]) (st' := []) rfl ?_
            exact J148 ((c &&& 255 : Int32).toUInt32.toUInt16.toUInt32.toInt32) (by rw [i2c_mask]; exact lat_and _)
          · refine wp_blk C 81 2 (pc' := 146) (ls' := [.val (.int a), .val (.int b), .val (.int c), .val (.int d), .val (.int mode), .val (.ref pm), .val (.int tl), .val (.int t0), .val (.int t1), .val (.int sl), .val (.int s0), .val (.int s1), .val (.int q12), .val (.int ol), .unset, .unset, .unset, .unset, .unset, .unset, .unset, .unset, .unset, .unset, .unset, .unset, .unset]) (st' := [.int t0]) rfl ?_
            refine wp_blk C 87 1 (pc' := 148) (ls' := [.val (.int a), .val (.int b), .val (.int c), .val (.int d), .val (.int mode), .val (.ref pm), .val (.int tl), .val (.int t0), .val (.int t1), .val (.int sl), .val (.int s0), .val (.int s1), .val (.int q12), .val (.int ol), .val (.int t0), .unset, .unset, .unset, .unset, .unset, .unset, .unset, .unset, .unset, .unset, .unset, .unset]) (st' := []) rfl ?_
            exact J148 t0 Ht0
        refine wp_blk C 67 1 (pc' := 112) (ls' := [.val (.int a), .val (.int b), .val (.int c), .val (.int d), .val (.int mode), .val (.ref pm), .val (.int tl), .val (.int t0), .val (.int t1), .val (.int sl), .val (.int s0), .val (.int s1), .val (.int q12), .unset, .unset, .unset, .unset, .unset, .unset, .unset, .unset, .unset, .unset, .unset, .unset, .unset, .unset]) (st' := [.int q12]) rfl ?_
        refine wp_ifz C 68 120 115 rfl rfl rfl (by decide) (fun (hb0 : (q12 : Int32) = 0) => ?_) (fun (hb0 : (q12 : Int32) ≠ 0) => ?_)
        · refine wp_blk C 71 8 (pc' := 130) (ls' := [.val (.int a), .val (.int b), .val (.int c), .val (.int d), .val (.int mode), .val (.ref pm), .val (.int tl), .val (.int t0), .val (.int t1), .val (.int sl), .val (.int s0), .val (.int s1), .val (.int q12), .val (.int (1 + ((ush mode 3) &&& 1))), .unset, .unset, .unset, .unset, .unset, .unset, .unset, .unset, .unset, .unset, .unset, .unset, .unset]) (st' := []) rfl ?_
          exact J130 (1 + ((ush mode 3) &&& 1)) (len12 _)
        · refine wp_blk C 69 2 (pc' := 128) (ls' := [.val (.int a), .val (.int b), .val (.int c), .val (.int d), .val (.int mode), .val (.ref pm), .val (.int tl), .val (.int t0), .val (.int t1), .val (.int sl), .val (.int s0), .val (.int s1), .val (.int q12), .unset, .unset, .unset, .unset, .unset, .unset, .unset, .unset, .unset, .unset, .unset, .unset, .unset, .unset]) (st' := [.int tl]) rfl ?_
          refine wp_blk C 78 1 (pc' := 130) (ls' := [.val (.int a), .val (.int b), .val (.int c), .val (.int d), .val (.int mode), .val (.ref pm), .val (.int tl), .val (.int t0), .val (.int t1), .val (.int sl), .val (.int s0), .val (.int s1), .val (.int q12), .val (.int tl), .unset, .unset, .unset, .unset, .unset, .unset, .unset, .unset, .unset, .unset, .unset, .unset, .unset]) (st' := []) rfl ?_
          exact J130 tl Htl
      refine wp_blk C 57 5 (pc' := 100) (ls' := [.val (.int a), .val (.int b), .val (.int c), .val (.int d), .val (.int mode), .val (.ref pm), .val (.int tl), .val (.int t0), .val (.int t1), .val (.int sl), .val (.int s0), .val (.int s1), .unset, .unset, .unset, .unset, .unset, .unset, .unset, .unset, .unset, .unset, .unset, .unset, .unset, .unset, .unset]) (st' := [.int ((ush mode 2) &&& 1)]) rfl ?_
      refine wp_ifz C 62 107 103 rfl rfl rfl (by decide) (fun (hb0 : (((ush mode 2) &&& 1) : Int32) = 0) => ?_) (fun (hb0 : (((ush mode 2) &&& 1) : Int32) ≠ 0) => ?_)
      · refine wp_blk C 65 2 (pc' := 110) (ls' := [.val (.int a), .val (.int b), .val (.int c), .val (.int d), .val (.int mode), .val (.ref pm), .val (.int tl), .val (.int t0), .val (.int t1), .val (.int sl), .val (.int s0), .val (.int s1), .val (.int 0), .unset, .unset, .unset, .unset, .unset, .unset, .unset, .unset, .unset, .unset, .unset, .unset, .unset, .unset]) (st' := []) rfl ?_
        exact J110 (0 : Int32) 
      · refine wp_blk C 63 2 (pc' := 108) (ls' := [.val (.int a), .val (.int b), .val (.int c), .val (.int d), .val (.int mode), .val (.ref pm), .val (.int tl), .val (.int t0), .val (.int t1), .val (.int sl), .val (.int s0), .val (.int s1), .unset, .unset, .unset, .unset, .unset, .unset, .unset, .unset, .unset, .unset, .unset, .unset, .unset, .unset, .unset]) (st' := [.int 1]) rfl ?_
        refine wp_blk C 66 1 (pc' := 110) (ls' := [.val (.int a), .val (.int b), .val (.int c), .val (.int d), .val (.int mode), .val (.ref pm), .val (.int tl), .val (.int t0), .val (.int t1), .val (.int sl), .val (.int s0), .val (.int s1), .val (.int 1), .unset, .unset, .unset, .unset, .unset, .unset, .unset, .unset, .unset, .unset, .unset, .unset, .unset, .unset]) (st' := []) rfl ?_
        exact J110 (1 : Int32) 
    refine wp_blk C 37 5 (pc' := 67) (ls' := [.val (.int a), .val (.int b), .val (.int c), .val (.int d), .val (.int mode), .val (.ref pm), .val (.int tl), .val (.int t0), .val (.int t1), .val (.int sl), .unset, .unset, .unset, .unset, .unset, .unset, .unset, .unset, .unset, .unset, .unset, .unset, .unset, .unset, .unset, .unset, .unset]) (st' := [.int ((ush mode 7) &&& 1)]) rfl ?_
    refine wp_ifz C 42 75 70 rfl rfl rfl (by decide) (fun (hb0 : (((ush mode 7) &&& 1) : Int32) = 0) => ?_) (fun (hb0 : (((ush mode 7) &&& 1) : Int32) ≠ 0) => ?_)
    · refine wp_blk C 45 5 (pc' := 83) (ls' := [.val (.int a), .val (.int b), .val (.int c), .val (.int d), .val (.int mode), .val (.ref pm), .val (.int tl), .val (.int t0), .val (.int t1), .val (.int sl), .val (.int ((b &&& 255 : Int32).toUInt32.toUInt16.toUInt32.toInt32)), .unset, .unset, .unset, .unset, .unset, .unset, .unset, .unset, .unset, .unset, .unset, .unset, .unset, .unset, .unset, .unset]) (st' := []) rfl ?_
      exact J83 ((b &&& 255 : Int32).toUInt32.toUInt16.toUInt32.toInt32) (by rw [i2c_mask]; exact lat_and _)
    · refine wp_blk C 43 2 (pc' := 81) (ls' := [.val (.int a), .val (.int b), .val (.int c), .val (.int d), .val (.int mode), .val (.ref pm), .val (.int tl), .val (.int t0), .val (.int t1), .val (.int sl), .unset, .unset, .unset, .unset, .unset, .unset, .unset, .unset, .unset, .unset, .unset, .unset, .unset, .unset, .unset, .unset, .unset]) (st' := [.int 42]) rfl ?_
      refine wp_blk C 49 1 (pc' := 83) (ls' := [.val (.int a), .val (.int b), .val (.int c), .val (.int d), .val (.int mode), .val (.ref pm), .val (.int tl), .val (.int t0), .val (.int t1), .val (.int sl), .val (.int 42), .unset, .unset, .unset, .unset, .unset, .unset, .unset, .unset, .unset, .unset, .unset, .unset, .unset, .unset, .unset, .unset]) (st' := []) rfl ?_
      exact J83 (42 : Int32) ⟨by decide, by decide⟩
  refine wp_blk C 9 5 (pc' := 23) (ls' := [.val (.int a), .val (.int b), .val (.int c), .val (.int d), .val (.int mode), .val (.ref pm), .val (.int tl), .unset, .unset, .unset, .unset, .unset, .unset, .unset, .unset, .unset, .unset, .unset, .unset, .unset, .unset, .unset, .unset, .unset, .unset, .unset, .unset]) (st' := [.int ((ush mode 6) &&& 1)]) rfl ?_
  refine wp_ifz C 14 31 26 rfl rfl rfl (by decide) (fun (hb0 : (((ush mode 6) &&& 1) : Int32) = 0) => ?_) (fun (hb0 : (((ush mode 6) &&& 1) : Int32) ≠ 0) => ?_)
  · refine wp_blk C 17 5 (pc' := 39) (ls' := [.val (.int a), .val (.int b), .val (.int c), .val (.int d), .val (.int mode), .val (.ref pm), .val (.int tl), .val (.int ((a &&& 255 : Int32).toUInt32.toUInt16.toUInt32.toInt32)), .unset, .unset, .unset, .unset, .unset, .unset, .unset, .unset, .unset, .unset, .unset, .unset, .unset, .unset, .unset, .unset, .unset, .unset, .unset]) (st' := []) rfl ?_
    exact J39 ((a &&& 255 : Int32).toUInt32.toUInt16.toUInt32.toInt32) (by rw [i2c_mask]; exact lat_and _)
  · refine wp_blk C 15 2 (pc' := 37) (ls' := [.val (.int a), .val (.int b), .val (.int c), .val (.int d), .val (.int mode), .val (.ref pm), .val (.int tl), .unset, .unset, .unset, .unset, .unset, .unset, .unset, .unset, .unset, .unset, .unset, .unset, .unset, .unset, .unset, .unset, .unset, .unset, .unset, .unset]) (st' := [.int 42]) rfl ?_
    refine wp_blk C 21 1 (pc' := 39) (ls' := [.val (.int a), .val (.int b), .val (.int c), .val (.int d), .val (.int mode), .val (.ref pm), .val (.int tl), .val (.int 42), .unset, .unset, .unset, .unset, .unset, .unset, .unset, .unset, .unset, .unset, .unset, .unset, .unset, .unset, .unset, .unset, .unset, .unset, .unset]) (st' := []) rfl ?_
    exact J39 (42 : Int32) ⟨by decide, by decide⟩
set_option maxRecDepth 65536 in
set_option maxHeartbeats 40000000 in
theorem comes_1 {Post : Tables → Env → Array Value → State → Outcome → State → Prop} (hpost : ∀ tb e args s v u, (limb_1_1.after args s (.returned v) u = true ∧ limb_1_2.after args s (.returned v) u = true ∧ True) → ReturnedEndW s (.returned v) u (Jvm.fieldLocs frame_1_writes args s ++ Jvm.arrayLocs frame_1_arrays args s ++ Jvm.staticLocs frame_1_statics s) room_1.cells room_1.slots → Post tb e args s (.returned v) u) :
    ArmFor flags0 classFile x code maxLocals ret World_1 tables_1 room_1 Calls_1 rest_1 Pre_1 Post := by
  intro l hfl _ _ p e ha hc hk s m args below hf hA hF happ hP
  obtain ⟨hcalls, hrest, hpre⟩ := hP
  obtain ⟨-, -, -, hnamed, -, -, -, hat⟩ := (Spec.applies_iff hf).mp happ
  obtain ⟨hg, hn⟩ := and_e (Cond.before_iff.mp (show (Jvm.Cond.and given_1 narrow_1).before args s = true from hpre))
  obtain ⟨g0, g1⟩ := and_e hg
  obtain ⟨g1, g2⟩ := and_e g1
  obtain ⟨g2, g3⟩ := and_e g2
  obtain ⟨g3, g4⟩ := and_e g3
  obtain ⟨g4, g5⟩ := and_e g4
  obtain ⟨w0, w1, w2, w3, w4, rfl⟩ : ∃ w0 w1 w2 w3 w4 : Value, args = #[w0, w1, w2, w3, w4] := by
    have hs : args.size = 5 := by simpa [Cond.value, given_1] using g0
    obtain ⟨L⟩ := args
    match L, hs with
    | [w0, w1, w2, w3, w4], _ => exact ⟨w0, w1, w2, w3, w4, rfl⟩
  have hw := fun d (hd : d ∈ tables_1) => atoms_spec (ws := Jvm.Cond.code x code maxLocals ret :: tables_1) hat d (List.mem_cons_of_mem _ hd)
  obtain ⟨hsets, hown0⟩ := atoms_of _ (rest_1_c_eq ▸ (show rest_1_c.before _ s = true from hrest))
  have n5 := not_v (Cond.before_iff.mp (hsets _ (List.mem_of_getElem? (i := 2) rfl)))
  obtain ⟨cz, ez⟩ := is_v (Cond.before_iff.mp (hsets _ (List.mem_of_getElem? (i := 1) rfl)))
  have S1 : Sta s s.heap "java/lang/String" "COMPACT_STRINGS" "Z" (.int cz) := Sta.start ez (Or.inl (hsets _ (List.mem_of_getElem? (i := 0) rfl)))
  have hcz : cz ≠ 0 := gotF (Cond.eq_ints ez (Term.int_eval (0))) n5
  have hcw := hsets _ (List.mem_of_getElem? (i := 2) rfl)
  obtain ⟨i0, e0⟩ := is_v g1
  obtain rfl : w0 = (.int i0) := Option.some.inj e0
  obtain ⟨i1, e1⟩ := is_v g2
  obtain rfl : w1 = (.int i1) := Option.some.inj e1
  obtain ⟨i2, e2⟩ := is_v g3
  obtain rfl : w2 = (.int i2) := Option.some.inj e2
  obtain ⟨i3, e3⟩ := is_v g4
  obtain rfl : w3 = (.int i3) := Option.some.inj e3
  obtain ⟨i4, e4⟩ := is_v g5
  obtain rfl : w4 = (.int i4) := Option.some.inj e4
  obtain ⟨x1, x2⟩ := and_e hn
  obtain ⟨ja, ej⟩ := exa_v x1
  obtain ⟨pm, ep⟩ := exa_v x2
  have SJ : Sta s s.heap "com/example/fieldweave/fieldweave/http/MediaType" "JSON" "Lcom/example/fieldweave/fieldweave/http/MediaType;" (.ref ja) := Sta.start ej (Or.inr ⟨(wd hw 1 rfl), (wd hw 2 rfl)⟩)
  have IJ : It s s.heap (ja, false, .inl kMp, [.ref pm]) := ⟨Exa.start ej x1, fun i f v hf hv => by
    match i, hf, hv with
    | 0, hf, hv => cases hf; cases hv; exact Fld.start ((fld_at ej).symm.trans ep)⟩
  have IM : It s s.heap (pm, false, .inl kMap, []) := ⟨Exa.start ep x2, fun i f v hf hv => by simp at hv⟩
  have hH : Hp s EL1 s.vm s.heap ([] ++ []) := ⟨⟨Nat.le_refl _, fun _ _ q => q⟩, CHv.start (ew1 hw) hcalls.1 hcw (wd hw 30 rfl) (wd hw 26 rfl), (by simp), (by simp), (by simp)⟩
  obtain ⟨n, o, h1, h2, h3, v, Lc, L', rfl, hG, -, hFr, -, -, hq⟩ := rm_law l s _ hw i0 i1 i2 i3 i4 cz S1 hcz ja pm SJ IJ IM [] p e ha hc hk s m _ below hf ((Spec.applies_iff_loose hf).mp happ).1 ⟨rfl, State.Warmed39.refl s, hH⟩ trivial
  obtain rfl := hG
  refine ⟨n, _, h1, h2, h3, hpost _ _ _ _ _ _ ⟨Cond.after_iff.mpr rfl, Cond.after_iff.mpr (eq_i res_at (Term.int_eval (1)) rfl), trivial⟩ ⟨hq.1, hq.2.1, hq.2.2.1, (hq.2.2.2.sift fun y hy => Or.inr (hFr y hy)).mono (Nat.le_refl _) (Nat.le_refl _)⟩⟩
theorem main_1_1 : Claimed_1_1 := comes_1 fun _ _ _ _ _ _ h hF => ⟨h.1, hF⟩
theorem main_1_2 : Claimed_1_2 := comes_1 fun _ _ _ _ _ _ h hF => ⟨h.2.1, hF⟩
end Jvm.Pilot.@@N@@
namespace Jvm.Pilot.@@N@@
open Jvm Jvm.ClassFile Sem Op Lib Jvm.Free Jvm.Stand Jvm.Pilot.@@N@@.Jvm.D
/-! MADE BY PROGRAM (witnessworld.py) out of the Statement's table words and the real class files: 25 classes; the members and pool entries that the words name. The judged class is class 1, her method 1. -/
namespace start1
open Jvm.ClassFile
def u (s : String) : CpInfo := .utf8 (stringToUtf16 s)
/-- a pool by its gaps: so many unusable entries, then the entry; so many at the end -/
def gap : Nat → List CpInfo → List CpInfo
  | 0, r => r
  | n + 1, r => .unusable :: gap n r
def poolList (es : List (Nat × CpInfo)) (last : Nat) : List CpInfo := es.foldr (fun e r => gap e.1 (e.2 :: r)) (gap last [])
def pool (es : List (Nat × CpInfo)) (last : Nat) : Array CpInfo := ⟨poolList es last⟩
def fileOf (pool : Array CpInfo) (this : Nat) (attrs : Array Attribute := #[]) (ms : Array MethodInfo := #[]) (fl : Nat := 33) (sup : Nat := 0) (ifs : Array Nat := #[]) (fds : Array FieldInfo := #[]) : ClassFile where
  minorVersion := 0
  majorVersion := 65
  constantPool := pool
  accessFlags := fl
  thisClass := this
  superClass := sup
  interfaces := ifs
  fields := fds
  methods := ms
  attributes := attrs
def plain (name : String) (sup : Option ClassId) : Class where
  name := name
  kind := .ordinary
  loader := none
  accessFlags := 33
  super := sup
  interfaces := #[]
  cf := none
  fields := #[]
  methods := #[]
  instanceTypes := #[]
  staticTypes := #[]
  resolved := #[]
  callSites := []
  init := .initialized
  statics := none
  mirror := none

def pool0 : Array CpInfo := pool [(5, u "<init>"), (0, u "()V"), (1, .class_ 10), (1, u "java/lang/Object")] 113

def k0c0 : Code := { maxStack := 0, maxLocals := 1, code := object_method_1_code, exceptionTable := #[], attributes := #[] }
def k0m0 : Method := { name := "<init>", desc := "()V", sig := { parameters := [], returnType := none }, accessFlags := 1, code := some k0c0 }
/-- java/lang/Object -/
def k0 : Class := { plain "java/lang/Object" none with
  accessFlags := 33
  interfaces := #[]
  cf := some (fileOf pool0 8 #[] #[{ accessFlags := 1, nameIndex := 5, descriptorIndex := 6, attributes := #[] }] 33 0 #[] #[])
  fields := #[]
  methods := #[k0m0]
  instanceTypes := #[]
  staticTypes := #[]
  resolved := Array.replicate 124 none
  statics := none }

def pool1 : Array CpInfo := pool [(2, .class_ 4), (1, u "java/lang/Object"), (0, u "<init>"), (0, u "()V"), (0, .fieldref 8 9), (0, .class_ 10), (0, .nameAndType 11 12), (0, u "com/example/fieldweave/fieldweave/http/MediaType"), (0, u "JSON"), (0, u "Lcom/example/fieldweave/fieldweave/http/MediaType;"), (0, .methodref 8 14), (0, .nameAndType 15 16), (0, u "parameters"), (0, u "()Ljava/util/Map;"), (0, .methodref 18 19), (0, .class_ 20), (0, .nameAndType 21 22), (0, u "com/example/fieldweave/fieldweave/http/MediaTypeIncludesPinLaw"), (0, u "str"), (0, u "(ICC)Ljava/lang/String;"), (0, .methodref 8 24), (0, .nameAndType 5 25), (0, u "(Ljava/lang/String;Ljava/lang/String;Ljava/util/Map;)V"), (0, .methodref 8 27), (0, .nameAndType 28 29), (0, u "includes"), (0, u "(Lcom/example/fieldweave/fieldweave/http/MediaType;)Z"), (0, .methodref 31 32), (0, .class_ 33), (0, .nameAndType 34 35), (0, u "java/lang/String"), (0, u "valueOf"), (0, u "(C)Ljava/lang/String;"), (0, .methodref 31 37), (0, .nameAndType 5 38), (0, u "([C)V"), (2, u "law"), (0, u "(IIIII)Z")] 5

def k1m0 : Method := { name := "<init>", desc := "()V", sig := { parameters := [], returnType := none }, accessFlags := 1, code := none }
def k1c1 : Code := { maxStack := 6, maxLocals := 27, code := code, exceptionTable := #[], attributes := #[] }
def k1m1 : Method := { name := "law", desc := "(IIIII)Z", sig := { parameters := [.int, .int, .int, .int, .int], returnType := some .boolean }, accessFlags := 9, code := some k1c1 }
def k1c2 : Code := { maxStack := 3, maxLocals := 4, code := method_3_code, exceptionTable := #[], attributes := #[] }
def k1m2 : Method := { name := "str", desc := "(ICC)Ljava/lang/String;", sig := { parameters := [.int, .char, .char], returnType := some (.object "java/lang/String") }, accessFlags := 10, code := some k1c2 }
/-- com/example/fieldweave/fieldweave/http/MediaTypeIncludesPinLaw -/
def k1 : Class := { plain "com/example/fieldweave/fieldweave/http/MediaTypeIncludesPinLaw" (some 0) with
  accessFlags := 49
  interfaces := #[]
  cf := some (fileOf pool1 18 #[] #[{ accessFlags := 1, nameIndex := 5, descriptorIndex := 6, attributes := #[] }, { accessFlags := 9, nameIndex := 41, descriptorIndex := 42, attributes := #[] }, { accessFlags := 10, nameIndex := 21, descriptorIndex := 22, attributes := #[] }] 49 2 #[] #[])
  fields := #[]
  methods := #[k1m0, k1m1, k1m2]
  instanceTypes := #[]
  staticTypes := #[]
  resolved := Array.replicate 48 none
  statics := none }

def pool2 : Array CpInfo := pool [(1, .methodref 2 3), (0, .class_ 4), (0, .nameAndType 5 6), (0, u "java/lang/Object"), (0, u "<init>"), (0, u "()V"), (0, .class_ 8), (0, u "java/lang/Record")] 13

def k2c0 : Code := { maxStack := 1, maxLocals := 1, code := jdk_30_method_1_code, exceptionTable := #[], attributes := #[] }
def k2m0 : Method := { name := "<init>", desc := "()V", sig := { parameters := [], returnType := none }, accessFlags := 4, code := some k2c0 }
/-- java/lang/Record -/
def k2 : Class := { plain "java/lang/Record" (some 0) with
  accessFlags := 1057
  interfaces := #[]
  cf := some (fileOf pool2 7 #[] #[{ accessFlags := 4, nameIndex := 5, descriptorIndex := 6, attributes := #[] }] 1057 2 #[] #[])
  fields := #[]
  methods := #[k2m0]
  instanceTypes := #[]
  staticTypes := #[]
  resolved := Array.replicate 22 none
  statics := none }

def pool3 : Array CpInfo := pool [(1, .methodref 2 3), (0, .class_ 4), (0, .nameAndType 5 6), (0, u "java/lang/Record"), (0, u "<init>"), (0, u "()V"), (0, .interfaceMethodref 8 9), (0, .class_ 10), (0, .nameAndType 11 12), (0, u "java/util/Map"), (0, u "copyOf"), (0, u "(Ljava/util/Map;)Ljava/util/Map;"), (0, .fieldref 14 15), (0, .class_ 16), (0, .nameAndType 17 18), (0, u "com/example/fieldweave/fieldweave/http/MediaType"), (0, u "type"), (0, u "Ljava/lang/String;"), (0, .fieldref 14 20), (0, .nameAndType 21 18), (0, u "subtype"), (0, .fieldref 14 23), (0, .nameAndType 24 25), (0, u "parameters"), (0, u "Ljava/util/Map;"), (10, .class_ 37), (0, u "java/lang/String"), (80, u "(Ljava/lang/String;Ljava/lang/String;Ljava/util/Map;)V"), (27, .methodref 36 147), (0, .nameAndType 148 149), (0, u "equals"), (0, u "(Ljava/lang/Object;)Z"), (0, .string 151), (0, u "*"), (69, u "()Ljava/util/Map;"), (2, u "JSON"), (0, u "Lcom/example/fieldweave/fieldweave/http/MediaType;"), (4, u "GRAPHQL_RESPONSE_JSON"), (2, u "WEIGHT"), (14, u "(Lcom/example/fieldweave/fieldweave/http/MediaType;)Z"), (0, u "includes")] 53

def k3c0 : Code := { maxStack := 2, maxLocals := 4, code := prog_174_method_1_code, exceptionTable := #[], attributes := #[] }
def k3m0 : Method := { name := "<init>", desc := "(Ljava/lang/String;Ljava/lang/String;Ljava/util/Map;)V", sig := { parameters := [(.object "java/lang/String"), (.object "java/lang/String"), (.object "java/util/Map")], returnType := none }, accessFlags := 0, code := some k3c0 }
def k3c1 : Code := { maxStack := 2, maxLocals := 2, code := prog_174_method_6_code, exceptionTable := #[], attributes := #[] }
def k3m1 : Method := { name := "includes", desc := "(Lcom/example/fieldweave/fieldweave/http/MediaType;)Z", sig := { parameters := [(.object "com/example/fieldweave/fieldweave/http/MediaType")], returnType := some .boolean }, accessFlags := 0, code := some k3c1 }
def k3c2 : Code := { maxStack := 1, maxLocals := 1, code := prog_174_method_16_code, exceptionTable := #[], attributes := #[] }
def k3m2 : Method := { name := "parameters", desc := "()Ljava/util/Map;", sig := { parameters := [], returnType := some (.object "java/util/Map") }, accessFlags := 1, code := some k3c2 }
/-- com/example/fieldweave/fieldweave/http/MediaType -/
def k3 : Class := { plain "com/example/fieldweave/fieldweave/http/MediaType" (some 2) with
  accessFlags := 48
  interfaces := #[]
  cf := some (fileOf pool3 14 #[] #[{ accessFlags := 0, nameIndex := 5, descriptorIndex := 118, attributes := #[] }, { accessFlags := 0, nameIndex := 249, descriptorIndex := 248, attributes := #[] }, { accessFlags := 1, nameIndex := 24, descriptorIndex := 221, attributes := #[] }] 48 2 #[] #[{ accessFlags := 18, nameIndex := 17, descriptorIndex := 18, attributes := #[] }, { accessFlags := 18, nameIndex := 21, descriptorIndex := 18, attributes := #[] }, { accessFlags := 18, nameIndex := 24, descriptorIndex := 25, attributes := #[] }, { accessFlags := 26, nameIndex := 233, descriptorIndex := 18, attributes := #[] }, { accessFlags := 24, nameIndex := 224, descriptorIndex := 225, attributes := #[] }, { accessFlags := 24, nameIndex := 230, descriptorIndex := 225, attributes := #[] }])
  fields := #[{ name := "type", type := (.object "java/lang/String"), accessFlags := 18, slot := 0, constantValue := 0 }, { name := "subtype", type := (.object "java/lang/String"), accessFlags := 18, slot := 1, constantValue := 0 }, { name := "parameters", type := (.object "java/util/Map"), accessFlags := 18, slot := 2, constantValue := 0 }, { name := "WEIGHT", type := (.object "java/lang/String"), accessFlags := 26, slot := 0, constantValue := 0 }, { name := "JSON", type := (.object "com/example/fieldweave/fieldweave/http/MediaType"), accessFlags := 24, slot := 1, constantValue := 0 }, { name := "GRAPHQL_RESPONSE_JSON", type := (.object "com/example/fieldweave/fieldweave/http/MediaType"), accessFlags := 24, slot := 2, constantValue := 0 }]
  methods := #[k3m0, k3m1, k3m2]
  instanceTypes := #[(.object "java/lang/String"), (.object "java/lang/String"), (.object "java/util/Map")]
  staticTypes := #[(.object "java/lang/String"), (.object "com/example/fieldweave/fieldweave/http/MediaType"), (.object "com/example/fieldweave/fieldweave/http/MediaType")]
  resolved := Array.replicate 303 none
  statics := some 0 }

def pool4 : Array CpInfo := pool [(1, .class_ 2), (0, u "java/io/Serializable"), (0, .class_ 4), (0, u "java/lang/Object")] 2

/-- java/io/Serializable -/
def k4 : Class := { plain "java/io/Serializable" (some 0) with
  accessFlags := 1537
  interfaces := #[]
  cf := some (fileOf pool4 1 #[] #[] 1537 3 #[] #[])
  fields := #[]
  methods := #[]
  instanceTypes := #[]
  staticTypes := #[]
  resolved := Array.replicate 7 none
  statics := none }

def pool5 : Array CpInfo := pool [(1, .class_ 2), (0, u "java/lang/Comparable"), (0, .class_ 4), (0, u "java/lang/Object")] 7

/-- java/lang/Comparable -/
def k5 : Class := { plain "java/lang/Comparable" (some 0) with
  accessFlags := 1537
  interfaces := #[]
  cf := some (fileOf pool5 1 #[] #[] 1537 3 #[] #[])
  fields := #[]
  methods := #[]
  instanceTypes := #[]
  staticTypes := #[]
  resolved := Array.replicate 12 none
  statics := none }

def pool6 : Array CpInfo := pool [(2, .class_ 4), (1, u "java/lang/CharSequence"), (42, .class_ 48), (0, u "java/lang/CharSequence$1CodePointIterator"), (10, .class_ 60), (0, u "java/lang/CharSequence$1CharIterator"), (5, .class_ 67), (0, u "java/lang/Object")] 63

/-- java/lang/CharSequence -/
def k6 : Class := { plain "java/lang/CharSequence" (some 0) with
  accessFlags := 1537
  interfaces := #[]
  cf := some (fileOf pool6 2 #[.nestMembers #[47, 59]] #[] 1537 66 #[] #[])
  fields := #[]
  methods := #[]
  instanceTypes := #[]
  staticTypes := #[]
  resolved := Array.replicate 131 none
  statics := none }

def pool7 : Array CpInfo := pool [(1, .class_ 2), (0, u "java/lang/constant/Constable"), (0, .class_ 4), (0, u "java/lang/Object")] 6

/-- java/lang/constant/Constable -/
def k7 : Class := { plain "java/lang/constant/Constable" (some 0) with
  accessFlags := 1537
  interfaces := #[]
  cf := some (fileOf pool7 1 #[] #[] 1537 3 #[] #[])
  fields := #[]
  methods := #[]
  instanceTypes := #[]
  staticTypes := #[]
  resolved := Array.replicate 11 none
  statics := none }

def pool8 : Array CpInfo := pool [(1, .class_ 2), (0, u "java/lang/constant/ConstantDesc"), (0, .class_ 4), (0, u "java/lang/Object")] 32

/-- java/lang/constant/ConstantDesc -/
def k8 : Class := { plain "java/lang/constant/ConstantDesc" (some 0) with
  accessFlags := 1537
  interfaces := #[]
  cf := some (fileOf pool8 1 #[] #[] 1537 3 #[] #[])
  fields := #[]
  methods := #[]
  instanceTypes := #[]
  staticTypes := #[]
  resolved := Array.replicate 37 none
  statics := none }

def pool9 : Array CpInfo := pool [(1, .methodref 2 3), (0, .class_ 4), (0, .nameAndType 5 6), (0, u "java/lang/Object"), (0, u "<init>"), (0, u "()V"), (2, .fieldref 10 11), (0, .class_ 12), (0, .nameAndType 13 14), (0, u "java/lang/String"), (0, u "value"), (0, u "[B"), (0, .fieldref 10 16), (0, .nameAndType 17 18), (0, u "coder"), (0, u "B"), (2, u "hash"), (0, u "I"), (2, u "hashIsZero"), (0, u "Z"), (0, .methodref 10 28), (0, .nameAndType 5 29), (0, u "([CIILjava/lang/Void;)V"), (8, .fieldref 10 39), (0, .nameAndType 40 26), (0, u "COMPACT_STRINGS"), (1, .class_ 44), (1, u "java/lang/StringUTF16"), (0, u "compress"), (1, .methodref 42 48), (0, .nameAndType 49 50), (0, u "coderFromArrayLen"), (0, u "([BI)B"), (2, u "toBytes"), (53, .class_ 109), (1, u "java/lang/StringLatin1"), (67, .methodref 42 178), (0, .nameAndType 45 179), (0, u "([CII)[B"), (29, .methodref 10 210), (0, .nameAndType 5 211), (0, u "([BB)V"), (157, u "(C)Z"), (171, .methodref 107 542), (0, .nameAndType 543 544), (0, u "equals"), (0, u "([B[B)Z"), (28, u "(Ljava/lang/Object;)Z"), (1, .class_ 576), (0, u "java/lang/CharSequence"), (22, u "CASE_INSENSITIVE_ORDER"), (0, u "Ljava/util/Comparator;"), (181, u "valueOf"), (0, u "(C)Ljava/lang/String;"), (226, u "([C)V"), (4, .methodref 107 1016), (0, .nameAndType 1017 369), (0, u "canEncode"), (0, .methodref 107 1019), (0, .nameAndType 53 1020), (0, u "(C)[B"), (80, u "serialPersistentFields"), (0, u "[Ljava/io/ObjectStreamField;"), (0, .class_ 1104), (0, u "java/lang/String$CaseInsensitiveComparator"), (1, .class_ 1107), (0, u "java/io/Serializable"), (0, .class_ 1109), (0, u "java/lang/Comparable"), (0, .class_ 1111), (0, u "java/lang/constant/Constable"), (0, .class_ 1113), (0, u "java/lang/constant/ConstantDesc"), (2, u "serialVersionUID"), (0, u "J"), (3, u "REPL"), (0, u "C"), (2, u "LATIN1"), (1, u "UTF16")] 323

def k9m0 : Method := { name := "<init>", desc := "()V", sig := { parameters := [], returnType := none }, accessFlags := 1, code := none }
def k9c1 : Code := { maxStack := 5, maxLocals := 2, code := jdk_42_method_3_code, exceptionTable := #[], attributes := #[] }
def k9m1 : Method := { name := "<init>", desc := "([C)V", sig := { parameters := [(.array .char)], returnType := none }, accessFlags := 1, code := some k9c1 }
def k9c2 : Code := { maxStack := 2, maxLocals := 3, code := jdk_42_method_66_code, exceptionTable := #[], attributes := #[] }
def k9m2 : Method := { name := "equals", desc := "(Ljava/lang/Object;)Z", sig := { parameters := [(.object "java/lang/Object")], returnType := some .boolean }, accessFlags := 1, code := some k9c2 }
def k9c3 : Code := { maxStack := 4, maxLocals := 1, code := jdk_42_method_139_code, exceptionTable := #[], attributes := #[] }
def k9m3 : Method := { name := "valueOf", desc := "(C)Ljava/lang/String;", sig := { parameters := [.char], returnType := some (.object "java/lang/String") }, accessFlags := 9, code := some k9c3 }
def k9c4 : Code := { maxStack := 4, maxLocals := 6, code := jdk_42_method_149_code, exceptionTable := #[], attributes := #[] }
def k9m4 : Method := { name := "<init>", desc := "([CIILjava/lang/Void;)V", sig := { parameters := [(.array .char), .int, .int, (.object "java/lang/Void")], returnType := none }, accessFlags := 2, code := some k9c4 }
def k9c5 : Code := { maxStack := 2, maxLocals := 3, code := jdk_42_method_151_code, exceptionTable := #[], attributes := #[] }
def k9m5 : Method := { name := "<init>", desc := "([BB)V", sig := { parameters := [(.array .byte), .byte], returnType := none }, accessFlags := 0, code := some k9c5 }
/-- java/lang/String -/
def k9 : Class := { plain "java/lang/String" (some 0) with
  accessFlags := 49
  interfaces := #[4, 5, 6, 7, 8]
  cf := some (fileOf pool9 10 #[.nestMembers #[1103]] #[{ accessFlags := 1, nameIndex := 5, descriptorIndex := 6, attributes := #[] }, { accessFlags := 1, nameIndex := 5, descriptorIndex := 1010, attributes := #[] }, { accessFlags := 1, nameIndex := 543, descriptorIndex := 573, attributes := #[] }, { accessFlags := 9, nameIndex := 782, descriptorIndex := 783, attributes := #[] }, { accessFlags := 2, nameIndex := 5, descriptorIndex := 29, attributes := #[] }, { accessFlags := 0, nameIndex := 5, descriptorIndex := 211, attributes := #[] }] 49 2 #[1106, 1108, 575, 1110, 1112] #[{ accessFlags := 18, nameIndex := 13, descriptorIndex := 14, attributes := #[] }, { accessFlags := 18, nameIndex := 17, descriptorIndex := 18, attributes := #[] }, { accessFlags := 2, nameIndex := 21, descriptorIndex := 22, attributes := #[] }, { accessFlags := 2, nameIndex := 25, descriptorIndex := 26, attributes := #[] }, { accessFlags := 26, nameIndex := 1116, descriptorIndex := 1117, attributes := #[] }, { accessFlags := 24, nameIndex := 40, descriptorIndex := 26, attributes := #[] }, { accessFlags := 26, nameIndex := 1101, descriptorIndex := 1102, attributes := #[] }, { accessFlags := 26, nameIndex := 1121, descriptorIndex := 1122, attributes := #[] }, { accessFlags := 25, nameIndex := 599, descriptorIndex := 600, attributes := #[] }, { accessFlags := 24, nameIndex := 1125, descriptorIndex := 18, attributes := #[] }, { accessFlags := 24, nameIndex := 1127, descriptorIndex := 18, attributes := #[] }])
  fields := #[{ name := "value", type := (.array .byte), accessFlags := 18, slot := 0, constantValue := 0 }, { name := "coder", type := .byte, accessFlags := 18, slot := 1, constantValue := 0 }, { name := "hash", type := .int, accessFlags := 2, slot := 2, constantValue := 0 }, { name := "hashIsZero", type := .boolean, accessFlags := 2, slot := 3, constantValue := 0 }, { name := "serialVersionUID", type := .long, accessFlags := 26, slot := 0, constantValue := 0 }, { name := "COMPACT_STRINGS", type := .boolean, accessFlags := 24, slot := 1, constantValue := 0 }, { name := "serialPersistentFields", type := (.array (.object "java/io/ObjectStreamField")), accessFlags := 26, slot := 2, constantValue := 0 }, { name := "REPL", type := .char, accessFlags := 26, slot := 3, constantValue := 0 }, { name := "CASE_INSENSITIVE_ORDER", type := (.object "java/util/Comparator"), accessFlags := 25, slot := 4, constantValue := 0 }, { name := "LATIN1", type := .byte, accessFlags := 24, slot := 5, constantValue := 0 }, { name := "UTF16", type := .byte, accessFlags := 24, slot := 6, constantValue := 0 }]
  methods := #[k9m0, k9m1, k9m2, k9m3, k9m4, k9m5]
  instanceTypes := #[(.array .byte), .byte, .int, .boolean]
  staticTypes := #[.long, .boolean, (.array (.object "java/io/ObjectStreamField")), .char, (.object "java/util/Comparator"), .byte, .byte]
  resolved := Array.replicate 1451 none
  statics := some 1 }

def pool10 : Array CpInfo := pool [(4, .class_ 6), (1, u "java/lang/Object"), (0, u "<init>"), (0, u "()V"), (5, .class_ 16), (1, u "java/lang/StringLatin1"), (73, u "canEncode"), (14, u "(C)Z"), (15, u "$assertionsDisabled"), (0, u "Z"), (98, .class_ 223), (1, u "java/lang/StringLatin1$LinesSpliterator"), (57, u "equals"), (0, u "([B[B)Z"), (97, u "toBytes"), (1, u "(C)[B"), (7, .class_ 391), (0, u "java/lang/StringLatin1$CharsSpliterator")] 3

def k10m0 : Method := { name := "<init>", desc := "()V", sig := { parameters := [], returnType := none }, accessFlags := 0, code := none }
def k10c1 : Code := { maxStack := 2, maxLocals := 1, code := jdk_43_method_3_code, exceptionTable := #[], attributes := #[] }
def k10m1 : Method := { name := "canEncode", desc := "(C)Z", sig := { parameters := [.char], returnType := some .boolean }, accessFlags := 9, code := some k10c1 }
def k10c2 : Code := { maxStack := 3, maxLocals := 3, code := jdk_43_method_13_code, exceptionTable := #[], attributes := #[] }
def k10m2 : Method := { name := "equals", desc := "([B[B)Z", sig := { parameters := [(.array .byte), (.array .byte)], returnType := some .boolean }, accessFlags := 9, code := some k10c2 }
def k10c3 : Code := { maxStack := 4, maxLocals := 1, code := jdk_43_method_46_code, exceptionTable := #[], attributes := #[] }
def k10m3 : Method := { name := "toBytes", desc := "(C)[B", sig := { parameters := [.char], returnType := some (.array .byte) }, accessFlags := 9, code := some k10c3 }
/-- java/lang/StringLatin1 -/
def k10 : Class := { plain "java/lang/StringLatin1" (some 0) with
  accessFlags := 48
  interfaces := #[]
  cf := some (fileOf pool10 14 #[.nestMembers #[390, 221]] #[{ accessFlags := 0, nameIndex := 7, descriptorIndex := 8, attributes := #[] }, { accessFlags := 9, nameIndex := 90, descriptorIndex := 105, attributes := #[] }, { accessFlags := 9, nameIndex := 281, descriptorIndex := 282, attributes := #[] }, { accessFlags := 9, nameIndex := 380, descriptorIndex := 382, attributes := #[] }] 48 4 #[] #[{ accessFlags := 4120, nameIndex := 121, descriptorIndex := 122, attributes := #[] }])
  fields := #[{ name := "$assertionsDisabled", type := .boolean, accessFlags := 4120, slot := 0, constantValue := 0 }]
  methods := #[k10m0, k10m1, k10m2, k10m3]
  instanceTypes := #[]
  staticTypes := #[.boolean]
  resolved := Array.replicate 395 none
  statics := none }

def pool11 : Array CpInfo := pool [(2, .class_ 4), (1, u "java/util/Map"), (31, .class_ 37), (0, u "java/util/Map$Entry"), (55, .class_ 94), (0, u "java/lang/Object"), (6, .class_ 102), (0, u "java/util/ImmutableCollections$AbstractImmutableMap"), (147, u "copyOf"), (0, u "(Ljava/util/Map;)Ljava/util/Map;")] 11

def k11c0 : Code := { maxStack := 2, maxLocals := 1, code := jdk_72_method_39_code, exceptionTable := #[], attributes := #[] }
def k11m0 : Method := { name := "copyOf", desc := "(Ljava/util/Map;)Ljava/util/Map;", sig := { parameters := [(.object "java/util/Map")], returnType := some (.object "java/util/Map") }, accessFlags := 9, code := some k11c0 }
/-- java/util/Map -/
def k11 : Class := { plain "java/util/Map" (some 0) with
  accessFlags := 1537
  interfaces := #[]
  cf := some (fileOf pool11 2 #[.nestMembers #[36]] #[{ accessFlags := 9, nameIndex := 250, descriptorIndex := 251, attributes := #[] }] 1537 93 #[] #[])
  fields := #[]
  methods := #[k11m0]
  instanceTypes := #[]
  staticTypes := #[]
  resolved := Array.replicate 263 none
  statics := none }

def pool12 : Array CpInfo := pool [(2, .class_ 4), (1, u "java/lang/Object"), (0, u "<init>"), (0, u "()V"), (1, .class_ 10), (1, u "java/util/AbstractMap"), (42, .class_ 54), (0, u "java/util/Map"), (9, u "keySet"), (0, u "Ljava/util/Set;"), (0, .class_ 67), (0, u "java/util/AbstractMap$1"), (5, u "values"), (0, u "Ljava/util/Collection;"), (0, .class_ 76), (0, u "java/util/AbstractMap$2"), (104, .class_ 182), (0, u "java/util/AbstractMap$ViewCollection"), (0, .class_ 184), (0, u "java/util/AbstractMap$SimpleImmutableEntry"), (0, .class_ 186), (0, u "java/util/AbstractMap$SimpleEntry"), (0, .class_ 188), (0, u "java/util/AbstractMap$2$1"), (0, .class_ 190), (0, u "java/util/AbstractMap$1$1")] 5

def k12m0 : Method := { name := "<init>", desc := "()V", sig := { parameters := [], returnType := none }, accessFlags := 4, code := none }
/-- java/util/AbstractMap -/
def k12 : Class := { plain "java/util/AbstractMap" (some 0) with
  accessFlags := 1057
  interfaces := #[11]
  cf := some (fileOf pool12 8 #[.nestMembers #[181, 183, 185, 75, 187, 66, 189]] #[{ accessFlags := 4, nameIndex := 5, descriptorIndex := 6, attributes := #[] }] 1057 2 #[53] #[{ accessFlags := 128, nameIndex := 64, descriptorIndex := 65, attributes := #[] }, { accessFlags := 128, nameIndex := 73, descriptorIndex := 74, attributes := #[] }])
  fields := #[{ name := "keySet", type := (.object "java/util/Set"), accessFlags := 128, slot := 0, constantValue := 0 }, { name := "values", type := (.object "java/util/Collection"), accessFlags := 128, slot := 1, constantValue := 0 }]
  methods := #[k12m0]
  instanceTypes := #[(.object "java/util/Set"), (.object "java/util/Collection")]
  staticTypes := #[]
  resolved := Array.replicate 196 none
  statics := none }

def pool13 : Array CpInfo := pool [(2, .class_ 4), (1, u "java/util/AbstractMap"), (0, u "<init>"), (0, u "()V"), (1, .class_ 10), (1, u "java/util/ImmutableCollections"), (3, .class_ 16), (1, u "java/util/ImmutableCollections$AbstractImmutableMap"), (2, .class_ 20), (0, u "java/io/Serializable")] 66

def k13m0 : Method := { name := "<init>", desc := "()V", sig := { parameters := [], returnType := none }, accessFlags := 0, code := none }
/-- java/util/ImmutableCollections$AbstractImmutableMap -/
def k13 : Class := { plain "java/util/ImmutableCollections$AbstractImmutableMap" (some 12) with
  accessFlags := 1056
  interfaces := #[4]
  cf := some (fileOf pool13 14 #[.nestHost 8] #[{ accessFlags := 0, nameIndex := 5, descriptorIndex := 6, attributes := #[] }] 1056 2 #[19] #[])
  fields := #[]
  methods := #[k13m0]
  instanceTypes := #[(.object "java/util/Set"), (.object "java/util/Collection")]
  staticTypes := #[]
  resolved := Array.replicate 87 none
  statics := none }

def pool14 : Array CpInfo := pool [(1, .class_ 2), (0, u "java/util/ImmutableCollections"), (1, .class_ 6), (1, u "java/util/ImmutableCollections$AbstractImmutableMap"), (10, .class_ 19), (1, u "java/util/ImmutableCollections$MapN"), (0, u "size"), (0, u "I"), (4, u "table"), (0, u "[Ljava/lang/Object;")] 121

/-- java/util/ImmutableCollections$MapN -/
def k14 : Class := { plain "java/util/ImmutableCollections$MapN" (some 13) with
  accessFlags := 48
  interfaces := #[]
  cf := some (fileOf pool14 17 #[.nestHost 1] #[] 48 4 #[] #[{ accessFlags := 16, nameIndex := 26, descriptorIndex := 27, attributes := #[] }, { accessFlags := 16, nameIndex := 20, descriptorIndex := 21, attributes := #[] }])
  fields := #[{ name := "table", type := (.array (.object "java/lang/Object")), accessFlags := 16, slot := 2, constantValue := 0 }, { name := "size", type := .int, accessFlags := 16, slot := 3, constantValue := 0 }]
  methods := #[]
  instanceTypes := #[(.object "java/util/Set"), (.object "java/util/Collection"), (.array (.object "java/lang/Object")), .int]
  staticTypes := #[]
  resolved := Array.replicate 149 none
  statics := none }

def pool15 : Array CpInfo := pool [(6, .class_ 8), (1, u "java/lang/Object"), (0, u "<init>"), (0, u "()V"), (1, .class_ 14), (1, u "java/lang/StringUTF16"), (31, u "$assertionsDisabled"), (0, u "Z"), (13, u "HI_BYTE_SHIFT"), (0, u "I"), (2, u "LO_BYTE_SHIFT"), (49, .methodref 12 116), (0, .nameAndType 117 118), (0, u "compress"), (0, u "([CI[BII)I"), (3, u "([CII)[B"), (138, u "coderFromArrayLen"), (0, u "([BI)B"), (106, .class_ 371), (1, u "java/lang/StringUTF16$LinesSpliterator"), (58, u "MAX_LENGTH"), (196, .class_ 628), (0, u "java/lang/StringUTF16$CodePointsSpliterator"), (0, .class_ 630), (0, u "java/lang/StringUTF16$CharsSpliterator")] 4

def k15m0 : Method := { name := "<init>", desc := "()V", sig := { parameters := [], returnType := none }, accessFlags := 0, code := none }
def k15c1 : Code := { maxStack := 2, maxLocals := 2, code := jdk_52_method_15_code, exceptionTable := #[], attributes := #[] }
def k15m1 : Method := { name := "coderFromArrayLen", desc := "([BI)B", sig := { parameters := [(.array .byte), .int], returnType := some .byte }, accessFlags := 8, code := some k15c1 }
def k15c2 : Code := { maxStack := 5, maxLocals := 6, code := jdk_52_method_16_code, exceptionTable := #[], attributes := #[] }
def k15m2 : Method := { name := "compress", desc := "([CII)[B", sig := { parameters := [(.array .char), .int, .int], returnType := some (.array .byte) }, accessFlags := 9, code := some k15c2 }
def k15c3 : Code := { maxStack := 3, maxLocals := 7, code := jdk_52_method_21_code, exceptionTable := #[], attributes := #[] }
def k15m3 : Method := { name := "compress", desc := "([CI[BII)I", sig := { parameters := [(.array .char), .int, (.array .byte), .int, .int], returnType := some .int }, accessFlags := 9, code := some k15c3 }
/-- java/lang/StringUTF16 -/
def k15 : Class := { plain "java/lang/StringUTF16" (some 0) with
  accessFlags := 48
  interfaces := #[]
  cf := some (fileOf pool15 12 #[.nestMembers #[627, 629, 369]] #[{ accessFlags := 0, nameIndex := 9, descriptorIndex := 10, attributes := #[] }, { accessFlags := 8, nameIndex := 261, descriptorIndex := 262, attributes := #[] }, { accessFlags := 9, nameIndex := 117, descriptorIndex := 122, attributes := #[] }, { accessFlags := 9, nameIndex := 117, descriptorIndex := 118, attributes := #[] }] 48 6 #[] #[{ accessFlags := 26, nameIndex := 61, descriptorIndex := 62, attributes := #[] }, { accessFlags := 26, nameIndex := 65, descriptorIndex := 62, attributes := #[] }, { accessFlags := 24, nameIndex := 430, descriptorIndex := 62, attributes := #[] }, { accessFlags := 4120, nameIndex := 46, descriptorIndex := 47, attributes := #[] }])
  fields := #[{ name := "HI_BYTE_SHIFT", type := .int, accessFlags := 26, slot := 0, constantValue := 0 }, { name := "LO_BYTE_SHIFT", type := .int, accessFlags := 26, slot := 1, constantValue := 0 }, { name := "MAX_LENGTH", type := .int, accessFlags := 24, slot := 2, constantValue := 0 }, { name := "$assertionsDisabled", type := .boolean, accessFlags := 4120, slot := 3, constantValue := 0 }]
  methods := #[k15m0, k15m1, k15m2, k15m3]
  instanceTypes := #[]
  staticTypes := #[.int, .int, .int, .boolean]
  resolved := Array.replicate 635 none
  statics := none }

def pool16 : Array CpInfo := pool [(2, .class_ 4), (1, u "java/lang/Object"), (0, u "<init>"), (0, u "()V"), (17, .class_ 26), (1, u "jdk/internal/util/Preconditions"), (28, .class_ 56), (0, u "jdk/internal/util/Preconditions$4"), (57, .class_ 115), (0, u "jdk/internal/util/Preconditions$1"), (7, u "SIOOBE_FORMATTER"), (0, u "Ljava/util/function/BiFunction;"), (0, .class_ 126), (0, u "jdk/internal/util/Preconditions$2"), (3, u "AIOOBE_FORMATTER"), (0, .class_ 132), (0, u "jdk/internal/util/Preconditions$3"), (3, u "IOOBE_FORMATTER")] 57

def k16m0 : Method := { name := "<init>", desc := "()V", sig := { parameters := [], returnType := none }, accessFlags := 1, code := none }
/-- jdk/internal/util/Preconditions -/
def k16 : Class := { plain "jdk/internal/util/Preconditions" (some 0) with
  accessFlags := 33
  interfaces := #[]
  cf := some (fileOf pool16 24 #[.nestMembers #[55, 131, 125, 114]] #[{ accessFlags := 1, nameIndex := 5, descriptorIndex := 6, attributes := #[] }] 33 2 #[] #[{ accessFlags := 25, nameIndex := 123, descriptorIndex := 124, attributes := #[] }, { accessFlags := 25, nameIndex := 130, descriptorIndex := 124, attributes := #[] }, { accessFlags := 25, nameIndex := 136, descriptorIndex := 124, attributes := #[] }])
  fields := #[{ name := "SIOOBE_FORMATTER", type := (.object "java/util/function/BiFunction"), accessFlags := 25, slot := 0, constantValue := 0 }, { name := "AIOOBE_FORMATTER", type := (.object "java/util/function/BiFunction"), accessFlags := 25, slot := 1, constantValue := 0 }, { name := "IOOBE_FORMATTER", type := (.object "java/util/function/BiFunction"), accessFlags := 25, slot := 2, constantValue := 0 }]
  methods := #[k16m0]
  instanceTypes := #[]
  staticTypes := #[(.object "java/util/function/BiFunction"), (.object "java/util/function/BiFunction"), (.object "java/util/function/BiFunction")]
  resolved := Array.replicate 194 none
  statics := some 2 }

def pool17 : Array CpInfo := pool [(9, u "<init>"), (6, .class_ 18), (1, u "java/lang/Object"), (0, u "()V"), (1, .class_ 23), (1, u "jdk/internal/util/ArraysSupport"), (0, u "LOG2_ARRAY_LONG_INDEX_SCALE"), (0, u "I"), (2, u "U"), (0, u "Ljdk/internal/misc/Unsafe;"), (8, u "BIG_ENDIAN"), (0, u "Z"), (8, u "LOG2_BYTE_BIT_SIZE"), (4, u "LOG2_ARRAY_INT_INDEX_SCALE"), (54, u "JLA"), (0, u "Ljdk/internal/access/JavaLangAccess;"), (11, u "LOG2_ARRAY_BOOLEAN_INDEX_SCALE"), (9, u "LOG2_ARRAY_BYTE_INDEX_SCALE"), (5, u "LOG2_ARRAY_CHAR_INDEX_SCALE"), (5, u "LOG2_ARRAY_SHORT_INDEX_SCALE"), (18, u "LOG2_ARRAY_FLOAT_INDEX_SCALE"), (24, u "LOG2_ARRAY_DOUBLE_INDEX_SCALE"), (89, u "T_BOOLEAN"), (2, u "T_CHAR"), (1, u "T_FLOAT"), (1, u "T_DOUBLE"), (1, u "T_BYTE"), (1, u "T_SHORT"), (1, u "T_INT"), (1, u "T_LONG"), (1, u "SOFT_MAX_ARRAY_LENGTH")] 83

def k17m0 : Method := { name := "<init>", desc := "()V", sig := { parameters := [], returnType := none }, accessFlags := 2, code := none }
/-- jdk/internal/util/ArraysSupport -/
def k17 : Class := { plain "jdk/internal/util/ArraysSupport" (some 0) with
  accessFlags := 33
  interfaces := #[]
  cf := some (fileOf pool17 21 #[] #[{ accessFlags := 2, nameIndex := 9, descriptorIndex := 19, attributes := #[] }] 33 16 #[] #[{ accessFlags := 24, nameIndex := 28, descriptorIndex := 29, attributes := #[] }, { accessFlags := 26, nameIndex := 38, descriptorIndex := 39, attributes := #[] }, { accessFlags := 25, nameIndex := 121, descriptorIndex := 25, attributes := #[] }, { accessFlags := 25, nameIndex := 131, descriptorIndex := 25, attributes := #[] }, { accessFlags := 25, nameIndex := 137, descriptorIndex := 25, attributes := #[] }, { accessFlags := 25, nameIndex := 143, descriptorIndex := 25, attributes := #[] }, { accessFlags := 25, nameIndex := 53, descriptorIndex := 25, attributes := #[] }, { accessFlags := 25, nameIndex := 24, descriptorIndex := 25, attributes := #[] }, { accessFlags := 25, nameIndex := 162, descriptorIndex := 25, attributes := #[] }, { accessFlags := 25, nameIndex := 187, descriptorIndex := 25, attributes := #[] }, { accessFlags := 26, nameIndex := 48, descriptorIndex := 25, attributes := #[] }, { accessFlags := 25, nameIndex := 277, descriptorIndex := 25, attributes := #[] }, { accessFlags := 25, nameIndex := 280, descriptorIndex := 25, attributes := #[] }, { accessFlags := 25, nameIndex := 282, descriptorIndex := 25, attributes := #[] }, { accessFlags := 25, nameIndex := 284, descriptorIndex := 25, attributes := #[] }, { accessFlags := 25, nameIndex := 286, descriptorIndex := 25, attributes := #[] }, { accessFlags := 25, nameIndex := 288, descriptorIndex := 25, attributes := #[] }, { accessFlags := 25, nameIndex := 290, descriptorIndex := 25, attributes := #[] }, { accessFlags := 25, nameIndex := 292, descriptorIndex := 25, attributes := #[] }, { accessFlags := 26, nameIndex := 108, descriptorIndex := 109, attributes := #[] }, { accessFlags := 25, nameIndex := 294, descriptorIndex := 25, attributes := #[] }])
  fields := #[{ name := "U", type := (.object "jdk/internal/misc/Unsafe"), accessFlags := 24, slot := 0, constantValue := 0 }, { name := "BIG_ENDIAN", type := .boolean, accessFlags := 26, slot := 1, constantValue := 0 }, { name := "LOG2_ARRAY_BOOLEAN_INDEX_SCALE", type := .int, accessFlags := 25, slot := 2, constantValue := 0 }, { name := "LOG2_ARRAY_BYTE_INDEX_SCALE", type := .int, accessFlags := 25, slot := 3, constantValue := 0 }, { name := "LOG2_ARRAY_CHAR_INDEX_SCALE", type := .int, accessFlags := 25, slot := 4, constantValue := 0 }, { name := "LOG2_ARRAY_SHORT_INDEX_SCALE", type := .int, accessFlags := 25, slot := 5, constantValue := 0 }, { name := "LOG2_ARRAY_INT_INDEX_SCALE", type := .int, accessFlags := 25, slot := 6, constantValue := 0 }, { name := "LOG2_ARRAY_LONG_INDEX_SCALE", type := .int, accessFlags := 25, slot := 7, constantValue := 0 }, { name := "LOG2_ARRAY_FLOAT_INDEX_SCALE", type := .int, accessFlags := 25, slot := 8, constantValue := 0 }, { name := "LOG2_ARRAY_DOUBLE_INDEX_SCALE", type := .int, accessFlags := 25, slot := 9, constantValue := 0 }, { name := "LOG2_BYTE_BIT_SIZE", type := .int, accessFlags := 26, slot := 10, constantValue := 0 }, { name := "T_BOOLEAN", type := .int, accessFlags := 25, slot := 11, constantValue := 0 }, { name := "T_CHAR", type := .int, accessFlags := 25, slot := 12, constantValue := 0 }, { name := "T_FLOAT", type := .int, accessFlags := 25, slot := 13, constantValue := 0 }, { name := "T_DOUBLE", type := .int, accessFlags := 25, slot := 14, constantValue := 0 }, { name := "T_BYTE", type := .int, accessFlags := 25, slot := 15, constantValue := 0 }, { name := "T_SHORT", type := .int, accessFlags := 25, slot := 16, constantValue := 0 }, { name := "T_INT", type := .int, accessFlags := 25, slot := 17, constantValue := 0 }, { name := "T_LONG", type := .int, accessFlags := 25, slot := 18, constantValue := 0 }, { name := "JLA", type := (.object "jdk/internal/access/JavaLangAccess"), accessFlags := 26, slot := 19, constantValue := 0 }, { name := "SOFT_MAX_ARRAY_LENGTH", type := .int, accessFlags := 25, slot := 20, constantValue := 0 }]
  methods := #[k17m0]
  instanceTypes := #[]
  staticTypes := #[(.object "jdk/internal/misc/Unsafe"), .boolean, .int, .int, .int, .int, .int, .int, .int, .int, .int, .int, .int, .int, .int, .int, .int, .int, .int, (.object "jdk/internal/access/JavaLangAccess"), .int]
  resolved := Array.replicate 378 none
  statics := none }

def pool18 : Array CpInfo := pool [(1, u "java/lang/Cloneable"), (0, .class_ 1), (0, u "java/lang/Object"), (0, .class_ 3)] 3

/-- java/lang/Cloneable -/
def k18 : Class := { plain "java/lang/Cloneable" (some 0) with
  accessFlags := 1537
  interfaces := #[]
  cf := some (fileOf pool18 2 #[] #[] 1537 4 #[] #[])
  fields := #[]
  methods := #[]
  instanceTypes := #[]
  staticTypes := #[]
  resolved := Array.replicate 8 none
  statics := none }

/-- the primitive byte -/
def k19 : Class := { plain "byte" none with kind := .primitive 'B', accessFlags := 0x411 }
/-- [B -/
def k20 : Class := { plain "[B" (some 0) with kind := .array 19 .byte, interfaces := #[18, 4], accessFlags := 1041 }

/-- the primitive char -/
def k21 : Class := { plain "char" none with kind := .primitive 'C', accessFlags := 0x411 }
/-- [C -/
def k22 : Class := { plain "[C" (some 0) with kind := .array 21 .char, interfaces := #[18, 4], accessFlags := 1041 }

/-- the primitive int -/
def k23 : Class := { plain "int" none with kind := .primitive 'I', accessFlags := 0x411 }
/-- [I -/
def k24 : Class := { plain "[I" (some 0) with kind := .array 23 .int, interfaces := #[18, 4], accessFlags := 1041 }

def heap : Heap := #[{ cls := 3, slots := #[.null, .ref 4, .null], vm := .statics 3 },
  { cls := 9, slots := #[.long 0, .int 1, .null, .int 0, .null, .int 0, .int 0], vm := .statics 9 },
  { cls := 16, slots := #[.null, .null, .null], vm := .statics 16 },
  { cls := 14, slots := #[.null, .null, .null, .int 0], vm := .none },
  { cls := 3, slots := #[.null, .null, .ref 3], vm := .none }]
def classes : Array Class := #[k0, k1, k2, k3, k4, k5, k6, k7, k8, k9, k10, k11, k12, k13, k14, k15, k16, k17, k18, k19, k20, k21, k22, k23, k24]
def interned : List (Array UInt16 × Addr) := []
def slotsUsed : Nat := 20
def theMethod : MethodId := ⟨1, 1⟩
def args0 : Array Value := #[.int 5, .int 5, .int 5, .int 5, .int 5]
def aboutOver (below : List Frame) : State where
  vm := { classes := classes, interned := interned.toArray }
  heap := heap
  slotsUsed := slotsUsed
  threads := #[{ frames := .invoking theMethod args0 :: below }]
def below0 : List Frame := [.native { method := ⟨0, 0⟩, args := #[] }]
def about1 : State := aboutOver below0
def p0 : Program := .bare "" "" ""
def e0 : Env := launch0.env 0 0 0
theorem w_frames : about1.frames = Frame.invoking theMethod args0 :: below0 := rfl
set_option maxRecDepth 65536 in
theorem w_args : argsFit about1.vm theMethod args0 = true := by decide +kernel
set_option maxRecDepth 65536 in
theorem w_heap : heapFits about1 = true := by decide +kernel
set_option maxRecDepth 65536 in
theorem w_runnable : about1.curStatus? = some .runnable := by decide +kernel
set_option maxRecDepth 65536 in
theorem w_alone : about1.alone = true := by decide +kernel
set_option maxRecDepth 65536 in
theorem w_named : about1.methodNamed? x = some theMethod := by decide +kernel
set_option maxRecDepth 65536 in
theorem w_hears : about1.hears theMethod below0 = true := by decide +kernel
set_option maxRecDepth 65536 in
theorem w_ripe : about1.ripe theMethod args0 below0 = true := by decide +kernel
theorem w_running : about1.status = .running := rfl
set_option maxRecDepth 65536 in
theorem w_room : about1.hasRoom e0.platform room_1 = true :=
  launch0.hasRoom_least _ room_1 (by decide +kernel) (by decide +kernel) (by decide +kernel) (by decide +kernel) (by decide +kernel) (by decide +kernel)
theorem allAtoms_all (ts : List Jvm.Cond) (a : Array Jvm.Value) (st : Jvm.State) : (allAtoms ts).before a st = ts.all (fun c => c.before a st) := by
  induction ts with
  | nil => rfl
  | cons c t ih =>
    show (Jvm.Cond.and c (allAtoms t)).before a st = _
    rw [Jvm.Cond.before_and, ih, List.all_cons]
def words1 : List Jvm.Cond := Jvm.Cond.code x code maxLocals ret :: tables_1
/-- a 'code' word, met by the world's own term for the bytes: nothing is compared byte by byte -/
theorem code_word {y : MethodName} {bytes : ByteArray} {mx : Nat} {rt : Option FieldType} {a : Array Value} {s : State} {m : MethodId} {meth : Method} {c : Code} (h1 : s.methodNamed? y = some m) (h2 : s.vm.method? m = some meth) (h3 : meth.code = some c) (h4 : c.code = bytes)
    (h5 : (c.maxLocals == mx && c.exceptionTable.isEmpty && decide (c.maxStack ≤ mostOperands) && decide (meth.sig.returnType = rt) && !meth.locks && decide (parseMethodDescriptor y.desc = some meth.sig)) = true) : (Jvm.Cond.code y bytes mx rt).before a s = true := by
  simp only [Bool.and_eq_true, beq_iff_eq, Bool.not_eq_true', decide_eq_true_eq] at h5
  obtain ⟨⟨⟨⟨⟨g1, g2⟩, g3⟩, g4⟩, g5⟩, g6⟩ := h5
  simp [Cond.before, Cond.holds, Cond.value, h1, h2, h3, h4, g1, g2, g3, g4, g5, g6]
def isCode : Jvm.Cond → Bool
  | .code _ _ _ _ => true
  | _ => false
theorem all_split {L : List Jvm.Cond} {P : Jvm.Cond → Bool} (h1 : L.all (fun c => isCode c || P c) = true) (h2 : ∀ c ∈ L.filter isCode, P c = true) : L.all P = true := by
  refine List.all_eq_true.mpr fun c hc => ?_
  have h := List.all_eq_true.mp h1 c hc
  rcases Bool.eq_false_or_eq_true (isCode c) with hi | hi
  · exact h2 c (List.mem_filter.mpr ⟨hc, hi⟩)
  · simpa [hi] using h
set_option maxRecDepth 65536 in
theorem w_c0 : (Jvm.Cond.code x code maxLocals ret).before args0 about1 = true := code_word (m := ⟨1, 1⟩) (meth := k1m1) (c := k1c1) (by decide +kernel) rfl rfl rfl (by decide +kernel)
set_option maxRecDepth 65536 in
theorem w_c1 : (Jvm.Cond.code ({ cls := "com/example/fieldweave/fieldweave/http/MediaType", name := "parameters", desc := "()Ljava/util/Map;" } : Jvm.MethodName) prog_174_method_16_code (1 : Nat) (Option.some (Jvm.ClassFile.FieldType.object "java/util/Map"))).before args0 about1 = true := code_word (m := ⟨3, 2⟩) (meth := k3m2) (c := k3c2) (by decide +kernel) rfl rfl rfl (by decide +kernel)
set_option maxRecDepth 65536 in
theorem w_c2 : (Jvm.Cond.code ({ cls := "com/example/fieldweave/fieldweave/http/MediaTypeIncludesPinLaw", name := "str", desc := "(ICC)Ljava/lang/String;" } : Jvm.MethodName) method_3_code (4 : Nat) (Option.some (Jvm.ClassFile.FieldType.object "java/lang/String"))).before args0 about1 = true := code_word (m := ⟨1, 2⟩) (meth := k1m2) (c := k1c2) (by decide +kernel) rfl rfl rfl (by decide +kernel)
set_option maxRecDepth 65536 in
theorem w_c3 : (Jvm.Cond.code ({ cls := "java/lang/String", name := "valueOf", desc := "(C)Ljava/lang/String;" } : Jvm.MethodName) jdk_42_method_139_code (1 : Nat) (Option.some (Jvm.ClassFile.FieldType.object "java/lang/String"))).before args0 about1 = true := code_word (m := ⟨9, 3⟩) (meth := k9m3) (c := k9c3) (by decide +kernel) rfl rfl rfl (by decide +kernel)
set_option maxRecDepth 65536 in
theorem w_c4 : (Jvm.Cond.code ({ cls := "java/lang/StringLatin1", name := "canEncode", desc := "(C)Z" } : Jvm.MethodName) jdk_43_method_3_code (1 : Nat) (Option.some Jvm.ClassFile.FieldType.boolean)).before args0 about1 = true := code_word (m := ⟨10, 1⟩) (meth := k10m1) (c := k10c1) (by decide +kernel) rfl rfl rfl (by decide +kernel)
set_option maxRecDepth 65536 in
theorem w_c5 : (Jvm.Cond.code ({ cls := "java/lang/StringLatin1", name := "toBytes", desc := "(C)[B" } : Jvm.MethodName) jdk_43_method_46_code (1 : Nat) (Option.some (Jvm.ClassFile.FieldType.array Jvm.ClassFile.FieldType.byte))).before args0 about1 = true := code_word (m := ⟨10, 3⟩) (meth := k10m3) (c := k10c3) (by decide +kernel) rfl rfl rfl (by decide +kernel)
set_option maxRecDepth 65536 in
theorem w_c6 : (Jvm.Cond.code ({ cls := "java/lang/String", name := "<init>", desc := "([BB)V" } : Jvm.MethodName) jdk_42_method_151_code (3 : Nat) (Option.none : Option Jvm.ClassFile.FieldType)).before args0 about1 = true := code_word (m := ⟨9, 5⟩) (meth := k9m5) (c := k9c5) (by decide +kernel) rfl rfl rfl (by decide +kernel)
set_option maxRecDepth 65536 in
theorem w_c7 : (Jvm.Cond.code ({ cls := "java/lang/Object", name := "<init>", desc := "()V" } : Jvm.MethodName) object_method_1_code (1 : Nat) (Option.none : Option Jvm.ClassFile.FieldType)).before args0 about1 = true := code_word (m := ⟨0, 0⟩) (meth := k0m0) (c := k0c0) (by decide +kernel) rfl rfl rfl (by decide +kernel)
set_option maxRecDepth 65536 in
theorem w_c8 : (Jvm.Cond.code ({ cls := "com/example/fieldweave/fieldweave/http/MediaType", name := "<init>", desc := "(Ljava/lang/String;Ljava/lang/String;Ljava/util/Map;)V" } : Jvm.MethodName) prog_174_method_1_code (4 : Nat) (Option.none : Option Jvm.ClassFile.FieldType)).before args0 about1 = true := code_word (m := ⟨3, 0⟩) (meth := k3m0) (c := k3c0) (by decide +kernel) rfl rfl rfl (by decide +kernel)
set_option maxRecDepth 65536 in
theorem w_c9 : (Jvm.Cond.code ({ cls := "java/lang/Record", name := "<init>", desc := "()V" } : Jvm.MethodName) jdk_30_method_1_code (1 : Nat) (Option.none : Option Jvm.ClassFile.FieldType)).before args0 about1 = true := code_word (m := ⟨2, 0⟩) (meth := k2m0) (c := k2c0) (by decide +kernel) rfl rfl rfl (by decide +kernel)
set_option maxRecDepth 65536 in
theorem w_c10 : (Jvm.Cond.code ({ cls := "java/util/Map", name := "copyOf", desc := "(Ljava/util/Map;)Ljava/util/Map;" } : Jvm.MethodName) jdk_72_method_39_code (1 : Nat) (Option.some (Jvm.ClassFile.FieldType.object "java/util/Map"))).before args0 about1 = true := code_word (m := ⟨11, 0⟩) (meth := k11m0) (c := k11c0) (by decide +kernel) rfl rfl rfl (by decide +kernel)
set_option maxRecDepth 65536 in
theorem w_c11 : (Jvm.Cond.code ({ cls := "com/example/fieldweave/fieldweave/http/MediaType", name := "includes", desc := "(Lcom/example/fieldweave/fieldweave/http/MediaType;)Z" } : Jvm.MethodName) prog_174_method_6_code (2 : Nat) (Option.some Jvm.ClassFile.FieldType.boolean)).before args0 about1 = true := code_word (m := ⟨3, 1⟩) (meth := k3m1) (c := k3c1) (by decide +kernel) rfl rfl rfl (by decide +kernel)
set_option maxRecDepth 65536 in
theorem w_c12 : (Jvm.Cond.code ({ cls := "java/lang/String", name := "equals", desc := "(Ljava/lang/Object;)Z" } : Jvm.MethodName) jdk_42_method_66_code (3 : Nat) (Option.some Jvm.ClassFile.FieldType.boolean)).before args0 about1 = true := code_word (m := ⟨9, 2⟩) (meth := k9m2) (c := k9c2) (by decide +kernel) rfl rfl rfl (by decide +kernel)
set_option maxRecDepth 65536 in
theorem w_c13 : (Jvm.Cond.code ({ cls := "java/lang/StringLatin1", name := "equals", desc := "([B[B)Z" } : Jvm.MethodName) jdk_43_method_13_code (3 : Nat) (Option.some Jvm.ClassFile.FieldType.boolean)).before args0 about1 = true := code_word (m := ⟨10, 2⟩) (meth := k10m2) (c := k10c2) (by decide +kernel) rfl rfl rfl (by decide +kernel)
set_option maxRecDepth 65536 in
theorem w_c14 : (Jvm.Cond.code ({ cls := "java/lang/String", name := "<init>", desc := "([C)V" } : Jvm.MethodName) jdk_42_method_3_code (2 : Nat) (Option.none : Option Jvm.ClassFile.FieldType)).before args0 about1 = true := code_word (m := ⟨9, 1⟩) (meth := k9m1) (c := k9c1) (by decide +kernel) rfl rfl rfl (by decide +kernel)
set_option maxRecDepth 65536 in
theorem w_c15 : (Jvm.Cond.code ({ cls := "java/lang/String", name := "<init>", desc := "([CIILjava/lang/Void;)V" } : Jvm.MethodName) jdk_42_method_149_code (6 : Nat) (Option.none : Option Jvm.ClassFile.FieldType)).before args0 about1 = true := code_word (m := ⟨9, 4⟩) (meth := k9m4) (c := k9c4) (by decide +kernel) rfl rfl rfl (by decide +kernel)
set_option maxRecDepth 65536 in
theorem w_c16 : (Jvm.Cond.code ({ cls := "java/lang/StringUTF16", name := "compress", desc := "([CII)[B" } : Jvm.MethodName) jdk_52_method_16_code (6 : Nat) (Option.some (Jvm.ClassFile.FieldType.array Jvm.ClassFile.FieldType.byte))).before args0 about1 = true := code_word (m := ⟨15, 2⟩) (meth := k15m2) (c := k15c2) (by decide +kernel) rfl rfl rfl (by decide +kernel)
set_option maxRecDepth 65536 in
theorem w_c17 : (Jvm.Cond.code ({ cls := "java/lang/StringUTF16", name := "compress", desc := "([CI[BII)I" } : Jvm.MethodName) jdk_52_method_21_code (7 : Nat) (Option.some Jvm.ClassFile.FieldType.int)).before args0 about1 = true := code_word (m := ⟨15, 3⟩) (meth := k15m3) (c := k15c3) (by decide +kernel) rfl rfl rfl (by decide +kernel)
set_option maxRecDepth 65536 in
theorem w_c18 : (Jvm.Cond.code ({ cls := "java/lang/StringUTF16", name := "coderFromArrayLen", desc := "([BI)B" } : Jvm.MethodName) jdk_52_method_15_code (2 : Nat) (Option.some Jvm.ClassFile.FieldType.byte)).before args0 about1 = true := code_word (m := ⟨15, 1⟩) (meth := k15m1) (c := k15c1) (by decide +kernel) rfl rfl rfl (by decide +kernel)
def codes1 : List Jvm.Cond := [Jvm.Cond.code x code maxLocals ret, Jvm.Cond.code ({ cls := "com/example/fieldweave/fieldweave/http/MediaType", name := "parameters", desc := "()Ljava/util/Map;" } : Jvm.MethodName) prog_174_method_16_code (1 : Nat) (Option.some (Jvm.ClassFile.FieldType.object "java/util/Map")), Jvm.Cond.code ({ cls := "com/example/fieldweave/fieldweave/http/MediaTypeIncludesPinLaw", name := "str", desc := "(ICC)Ljava/lang/String;" } : Jvm.MethodName) method_3_code (4 : Nat) (Option.some (Jvm.ClassFile.FieldType.object "java/lang/String")), Jvm.Cond.code ({ cls := "java/lang/String", name := "valueOf", desc := "(C)Ljava/lang/String;" } : Jvm.MethodName) jdk_42_method_139_code (1 : Nat) (Option.some (Jvm.ClassFile.FieldType.object "java/lang/String")), Jvm.Cond.code ({ cls := "java/lang/StringLatin1", name := "canEncode", desc := "(C)Z" } : Jvm.MethodName) jdk_43_method_3_code (1 : Nat) (Option.some Jvm.ClassFile.FieldType.boolean), Jvm.Cond.code ({ cls := "java/lang/StringLatin1", name := "toBytes", desc := "(C)[B" } : Jvm.MethodName) jdk_43_method_46_code (1 : Nat) (Option.some (Jvm.ClassFile.FieldType.array Jvm.ClassFile.FieldType.byte)), Jvm.Cond.code ({ cls := "java/lang/String", name := "<init>", desc := "([BB)V" } : Jvm.MethodName) jdk_42_method_151_code (3 : Nat) (Option.none : Option Jvm.ClassFile.FieldType), Jvm.Cond.code ({ cls := "java/lang/Object", name := "<init>", desc := "()V" } : Jvm.MethodName) object_method_1_code (1 : Nat) (Option.none : Option Jvm.ClassFile.FieldType), Jvm.Cond.code ({ cls := "com/example/fieldweave/fieldweave/http/MediaType", name := "<init>", desc := "(Ljava/lang/String;Ljava/lang/String;Ljava/util/Map;)V" } : Jvm.MethodName) prog_174_method_1_code (4 : Nat) (Option.none : Option Jvm.ClassFile.FieldType), Jvm.Cond.code ({ cls := "java/lang/Record", name := "<init>", desc := "()V" } : Jvm.MethodName) jdk_30_method_1_code (1 : Nat) (Option.none : Option Jvm.ClassFile.FieldType), Jvm.Cond.code ({ cls := "java/util/Map", name := "copyOf", desc := "(Ljava/util/Map;)Ljava/util/Map;" } : Jvm.MethodName) jdk_72_method_39_code (1 : Nat) (Option.some (Jvm.ClassFile.FieldType.object "java/util/Map")), Jvm.Cond.code ({ cls := "com/example/fieldweave/fieldweave/http/MediaType", name := "includes", desc := "(Lcom/example/fieldweave/fieldweave/http/MediaType;)Z" } : Jvm.MethodName) prog_174_method_6_code (2 : Nat) (Option.some Jvm.ClassFile.FieldType.boolean), Jvm.Cond.code ({ cls := "java/lang/String", name := "equals", desc := "(Ljava/lang/Object;)Z" } : Jvm.MethodName) jdk_42_method_66_code (3 : Nat) (Option.some Jvm.ClassFile.FieldType.boolean), Jvm.Cond.code ({ cls := "java/lang/StringLatin1", name := "equals", desc := "([B[B)Z" } : Jvm.MethodName) jdk_43_method_13_code (3 : Nat) (Option.some Jvm.ClassFile.FieldType.boolean), Jvm.Cond.code ({ cls := "java/lang/String", name := "<init>", desc := "([C)V" } : Jvm.MethodName) jdk_42_method_3_code (2 : Nat) (Option.none : Option Jvm.ClassFile.FieldType), Jvm.Cond.code ({ cls := "java/lang/String", name := "<init>", desc := "([CIILjava/lang/Void;)V" } : Jvm.MethodName) jdk_42_method_149_code (6 : Nat) (Option.none : Option Jvm.ClassFile.FieldType), Jvm.Cond.code ({ cls := "java/lang/StringUTF16", name := "compress", desc := "([CII)[B" } : Jvm.MethodName) jdk_52_method_16_code (6 : Nat) (Option.some (Jvm.ClassFile.FieldType.array Jvm.ClassFile.FieldType.byte)), Jvm.Cond.code ({ cls := "java/lang/StringUTF16", name := "compress", desc := "([CI[BII)I" } : Jvm.MethodName) jdk_52_method_21_code (7 : Nat) (Option.some Jvm.ClassFile.FieldType.int), Jvm.Cond.code ({ cls := "java/lang/StringUTF16", name := "coderFromArrayLen", desc := "([BI)B" } : Jvm.MethodName) jdk_52_method_15_code (2 : Nat) (Option.some Jvm.ClassFile.FieldType.byte)]
set_option maxRecDepth 65536 in
theorem codes_eq : words1.filter isCode = codes1 := rfl
theorem w_codes : ∀ c ∈ words1.filter isCode, c.before args0 about1 = true := by
  rw [codes_eq]
  intro c hc
  simp only [codes1, List.mem_cons, List.not_mem_nil, or_false] at hc
  rcases hc with rfl | rfl | rfl | rfl | rfl | rfl | rfl | rfl | rfl | rfl | rfl | rfl | rfl | rfl | rfl | rfl | rfl | rfl | rfl
  · exact w_c0
  · exact w_c1
  · exact w_c2
  · exact w_c3
  · exact w_c4
  · exact w_c5
  · exact w_c6
  · exact w_c7
  · exact w_c8
  · exact w_c9
  · exact w_c10
  · exact w_c11
  · exact w_c12
  · exact w_c13
  · exact w_c14
  · exact w_c15
  · exact w_c16
  · exact w_c17
  · exact w_c18
set_option maxRecDepth 65536 in
theorem w_t1 : (words1.take 24).all (fun c => isCode c || c.before args0 about1) = true := by decide +kernel
set_option maxRecDepth 65536 in
theorem w_t2 : ((words1.drop 24).take 24).all (fun c => isCode c || c.before args0 about1) = true := by decide +kernel
set_option maxRecDepth 65536 in
theorem w_t3 : (((words1.drop 24).drop 24).take 24).all (fun c => isCode c || c.before args0 about1) = true := by decide +kernel
set_option maxRecDepth 65536 in
theorem w_t4 : (((words1.drop 24).drop 24).drop 24).all (fun c => isCode c || c.before args0 about1) = true := by decide +kernel
theorem w_tables : (allAtoms (Jvm.Cond.code x code maxLocals ret :: tables_1)).before args0 about1 = true := by
  rw [allAtoms_all]
  show words1.all (fun c => c.before args0 about1) = true
  refine all_split ?_ w_codes
  rw [← List.take_append_drop 24 words1, List.all_append, w_t1, ← List.take_append_drop 24 (words1.drop 24), List.all_append, w_t2, ← List.take_append_drop 24 ((words1.drop 24).drop 24), List.all_append, w_t3, w_t4]
  rfl
set_option maxRecDepth 65536 in
theorem w_rest : rest_1_c.before args0 about1 = true := by decide +kernel
set_option maxRecDepth 65536 in
theorem w_case : (Jvm.Cond.and given_1 narrow_1).before args0 about1 = true := by decide +kernel
set_option maxRecDepth 65536 in
theorem w_consts : constsHeld consts_1 about1 := Jvm.Lit.constsHeldB_iff.mp (by decide +kernel)
theorem w_applies : (headSpec (Jvm.Cond.code x code maxLocals ret :: tables_1) room_1).applies x e0.platform about1 = true :=
  (Spec.applies_iff w_frames).mpr ⟨w_running, w_runnable, w_alone, w_named, w_hears, w_ripe, w_room, w_tables⟩
theorem atStart : AtStart classFile x code maxLocals ret World_1 tables_1 room_1 Calls_1 rest_1 Pre_1 launch0 p0 e0 about1 theMethod args0 below0 :=
  ⟨lists_1, trivial, launch0.admits_env _ _ _, launch0.least_env, fairChoices_fair.cas, fairChoices_fair.clock, w_frames, w_args, w_heap, w_applies, ⟨w_consts, trivial⟩, w_rest, w_case⟩
end start1
theorem witness_1 : WitnessClaimed_1 := ⟨start1.p0, start1.e0, start1.about1, start1.theMethod, start1.args0, start1.below0, start1.atStart⟩
end Jvm.Pilot.@@N@@
