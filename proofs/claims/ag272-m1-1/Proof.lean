import JvmDerived
import JvmDerived.Pilot.@@N@@Statement
import JvmDerived.Pilot.@@N@@Code
set_option linter.unusedVariables false
set_option linter.unusedSimpArgs false
@@BLOCK:HandJ.lean.txt@@
@@BLOCK:SymMore.lean.txt@@
namespace Jvm.Wk
open Sem ClassFile Op Lib Jvm.Stand Jvm.Free Jvm.LawKit Jvm.RoadKit
/-! THE SYMBOLIC HEAP: a list of known cells (items): an address, whether this run may write it (then it is new and no booked literal), what it is (an object of a described class | an array), and its values. -/
abbrev Kd : Type := String × List (String × String × String)
abbrev Item : Type := Addr × Bool × (Kd ⊕ FieldType) × List Value
abbrev key (x : Item) : Addr × Bool := (x.1, x.2.1)
def Ob (Z : State) (h : Heap) (a : Addr) (K : Kd) (vs : List Value) : Prop :=
  Exa Z h a K.1 ∧ ∀ (i : Nat) (f : String × String × String) (v : Value), K.2[i]? = some f → vs[i]? = some v → Fld Z h a f.1 f.2.1 f.2.2 v
def Ay (Z : State) (h : Heap) (a : Addr) (w : Bool) (ty : FieldType) (vs : List Value) : Prop :=
  ∃ c : Cell, Arr Z h a c ty ∧ c.slots = vs.toArray ∧ vs.length < 2 ^ 31 ∧ (∀ v ∈ vs, fits ty v = true) ∧ (w = true → ∀ C, ty = .object C → Ovr Z c.cls C)
def It (Z : State) (h : Heap) (x : Item) : Prop := match x.2.2.1 with
  | .inl K => Ob Z h x.1 K x.2.2.2
  | .inr ty => Ay Z h x.1 x.2.1 ty x.2.2.2
def ApK (p q : Addr × Bool) : Prop := (p.2 || q.2) = true → p.1 ≠ q.1
def Hp (Z : State) (EL : List (String × Nat)) (vm : Vm) (h : Heap) (L : List Item) : Prop :=
  Ext Z.heap h ∧ CHv Z EL vm h ∧ (∀ x ∈ L, It Z h x) ∧ (L.map key).Pairwise ApK ∧ ∀ k ∈ L.map key, k.2 = true → Z.heap.size ≤ k.1 ∧ Safe Z EL vm h k.1
section Heaps
variable {Z : State} {EL : List (String × Nat)} {vm : Vm} {h h' : Heap} {L L' : List Item} {x : Item} {a : Addr} {sl : Nat} {v : Value}
theorem ApK.symm {p q : Addr × Bool} (k : ApK p q) : ApK q p := fun e => Ne.symm (k (by rw [Bool.or_comm]; exact e))
theorem It.lt (I : It Z h x) : x.1 < h.size := by
  obtain ⟨b, w, D, vs⟩ := x
  cases D with
  | inl K => exact (I.1 : Exa Z h b K.1).lt
  | inr ty => obtain ⟨c, A, -⟩ := I; exact A.lt
theorem It.ext (E : Ext h h') (I : It Z h x) : It Z h' x := by
  obtain ⟨b, w, D, vs⟩ := x
  cases D with
  | inl K => exact ⟨(I.1 : Exa Z h b K.1).ext E, fun i f v p q => (I.2 i f v p q).ext E⟩
  | inr ty => obtain ⟨c, A, r⟩ := I; exact ⟨c, A.ext E, r⟩
theorem It.other (W : Wr h h' a sl v) (q : x.1 ≠ a) (I : It Z h x) : It Z h' x := by
  obtain ⟨b, w, D, vs⟩ := x
  cases D with
  | inl K => exact ⟨(I.1 : Exa Z h b K.1).wr W, fun i f v p r => (I.2 i f v p r).other W (Or.inl q)⟩
  | inr ty => obtain ⟨c, A, r⟩ := I; exact ⟨c, A.other W q, r⟩
theorem extT {h1 h2 h3 : Heap} (A : Ext h1 h2) (B : Ext h2 h3) : Ext h1 h3 := ⟨Nat.le_trans A.1 B.1, fun x c q => B.2 x c (A.2 x c q)⟩
theorem Hp.push {D : Kd ⊕ FieldType} {vs : List Value} (H : Hp Z EL vm h L) (E : Ext h h') (I : It Z h' (h.size, true, D, vs)) : Hp Z EL vm h' ((h.size, true, D, vs) :: L) := by
  obtain ⟨H1, H2, H3, H4, H5⟩ := H
  refine ⟨extT H1 E, H2.ext E, ?_, ?_, ?_⟩
  · intro y hy
    rcases List.mem_cons.mp hy with rfl | hy
    · exact I
    · exact (H3 y hy).ext E
  · rw [List.map_cons]
    refine List.pairwise_cons.mpr ⟨fun k hk _ => ?_, H4⟩
    obtain ⟨y, hy, rfl⟩ := List.mem_map.mp hk
    exact Nat.ne_of_gt (H3 y hy).lt
  · intro k hk hw
    rcases List.mem_cons.mp hk with rfl | hk
    · exact ⟨H1.1, Safe.ext E H2 (Safe.new (Nat.le_refl _))⟩
    · exact ⟨(H5 k hk hw).1, Safe.ext E H2 (H5 k hk hw).2⟩
theorem Hp.add {D : Kd ⊕ FieldType} {vs : List Value} (H : Hp Z EL vm h L) (hn : ∀ k ∈ L.map key, k.2 = true → a ≠ k.1) (I : It Z h (a, false, D, vs)) : Hp Z EL vm h ((a, false, D, vs) :: L) := by
  obtain ⟨H1, H2, H3, H4, H5⟩ := H
  refine ⟨H1, H2, ?_, ?_, ?_⟩
  · intro y hy
    rcases List.mem_cons.mp hy with rfl | hy
    · exact I
    · exact H3 y hy
  · rw [List.map_cons]
    exact List.pairwise_cons.mpr ⟨fun k hk e => hn k hk (by simpa using e), H4⟩
  · intro k hk hw
    rcases List.mem_cons.mp hk with rfl | hk
    · cases hw
    · exact H5 k hk hw
theorem set_same {α : Type} {M : List α} {i : Nat} {k : α} (q : M[i]? = some k) : M.set i k = M := by
  obtain ⟨hi, rfl⟩ := List.getElem?_eq_some_iff.mp q
  exact List.set_getElem_self hi
theorem Hp.put {i : Nat} {D : Kd ⊕ FieldType} {vs vs' : List Value} (H : Hp Z EL vm h L) (hi : L[i]? = some (a, true, D, vs)) (W : Wr h h' a sl v) (I : It Z h' (a, true, D, vs')) : Hp Z EL vm h' (L.set i (a, true, D, vs')) := by
  obtain ⟨H1, H2, H3, H4, H5⟩ := H
  have hk : (L.map key)[i]? = some (a, true) := by rw [List.getElem?_map, hi]; rfl
  have em : (L.set i (a, true, D, vs')).map key = L.map key := by rw [List.map_set]; exact set_same hk
  have ha := H5 _ (List.mem_of_getElem? hk) rfl
  refine ⟨(Old.wr ⟨rfl, H1⟩ W ha.1).2, H2.wr W ha.2, ?_, by rw [em]; exact H4, ?_⟩
  · intro y hy
    obtain ⟨j, hj⟩ := List.mem_iff_getElem?.mp hy
    rw [List.getElem?_set] at hj
    split at hj
    · split at hj
      · cases hj; exact I
      · cases hj
    · rename_i hne
      refine (H3 y (List.mem_of_getElem? hj)).other W ?_
      have hkj : (L.map key)[j]? = some (key y) := by rw [List.getElem?_map, hj]; rfl
      obtain ⟨hi1, hi2⟩ := List.getElem?_eq_some_iff.mp hk
      obtain ⟨hj1, hj2⟩ := List.getElem?_eq_some_iff.mp hkj
      have P := List.pairwise_iff_getElem.mp H4
      rcases Nat.lt_or_gt_of_ne hne with q | q
      · have := P i j hi1 hj1 q
        rw [hi2, hj2] at this
        exact Ne.symm (this rfl)
      · have := P j i hj1 hi1 q
        rw [hi2, hj2] at this
        exact this (by simp)
  · rw [em]
    exact fun k hk hw => ⟨(H5 k hk hw).1, Safe.wr W ha.2 H2 (H5 k hk hw).2⟩
theorem Hp.perm (q : L.Perm L') (H : Hp Z EL vm h L) : Hp Z EL vm h L' := by
  obtain ⟨H1, H2, H3, H4, H5⟩ := H
  have qm := q.map key
  exact ⟨H1, H2, fun x hx => H3 x (q.mem_iff.mpr hx), (qm.pairwise_iff (fun {_ _} k => ApK.symm k)).mp H4, fun k hk => H5 k (qm.mem_iff.mpr hk)⟩
theorem Hp.sub (q : L'.Sublist L) (H : Hp Z EL vm h L) : Hp Z EL vm h L' := by
  obtain ⟨H1, H2, H3, H4, H5⟩ := H
  have qm := q.map key
  exact ⟨H1, H2, fun x hx => H3 x (q.subset hx), H4.sublist qm, fun k hk => H5 k (qm.subset hk)⟩
theorem Hp.later {vm1 : Vm} (H : Hp Z EL vm h L) (E : Ext h h') (Q : CHr Z EL vm h vm1 h') : Hp Z EL vm1 h' L := by
  obtain ⟨H1, H2, H3, H4, H5⟩ := H
  refine ⟨extT H1 E, Q.1, fun x hx => (H3 x hx).ext E, H4, fun k hk hw => ⟨(H5 k hk hw).1, ?_⟩⟩
  obtain ⟨y, hy, rfl⟩ := List.mem_map.mp hk
  exact Q.safe (H3 y hy).lt (H5 _ hk hw).2
theorem Hp.obj {i : Nat} {w : Bool} {K : Kd} {vs : List Value} (H : Hp Z EL vm h L) (hi : L[i]? = some (a, w, .inl K, vs)) : Ob Z h a K vs := H.2.2.1 _ (List.mem_of_getElem? hi)
theorem Hp.arr {i : Nat} {w : Bool} {ty : FieldType} {vs : List Value} (H : Hp Z EL vm h L) (hi : L[i]? = some (a, w, .inr ty, vs)) : Ay Z h a w ty vs := H.2.2.1 _ (List.mem_of_getElem? hi)
theorem Hp.new {i : Nat} {D : Kd ⊕ FieldType} {vs : List Value} (H : Hp Z EL vm h L) (hi : L[i]? = some (a, true, D, vs)) : Z.heap.size ≤ a ∧ Safe Z EL vm h a :=
  H.2.2.2.2 (a, true) (List.mem_map.mpr ⟨_, List.mem_of_getElem? hi, rfl⟩) rfl
theorem app_at {F : List Item} {i : Nat} (hi : L[i]? = some x) : (L ++ F)[i]? = some x := by
  rw [List.getElem?_append_left (List.getElem?_eq_some_iff.mp hi).1]; exact hi
theorem app_set {F : List Item} {i : Nat} {y : Item} (hi : L[i]? = some x) : (L ++ F).set i y = L.set i y ++ F :=
  List.set_append_left _ _ (List.getElem?_eq_some_iff.mp hi).1
/-- what the sheet says of a class: each field laid, each descriptor read -/
def LaidAll (Z : State) (a0 : Array Value) (C : String) : List (String × String × String) → Prop
  | [] => True
  | f :: r => (Laid Z a0 C f.1 f.2.1 f.2.2 ∧ (parseFieldDescriptor f.2.2).isSome = true) ∧ LaidAll Z a0 C r
theorem LaidAll.mem {a0 : Array Value} {C : String} : ∀ {l : List (String × String × String)}, LaidAll Z a0 C l → ∀ f ∈ l, Laid Z a0 C f.1 f.2.1 f.2.2 ∧ (parseFieldDescriptor f.2.2).isSome = true
  | [], _, _, q => nomatch q
  | g :: r, k, f, q => by
    rcases List.mem_cons.mp q with rfl | q
    · exact k.1
    · exact LaidAll.mem k.2 f q
def KOk (Z : State) (a0 : Array Value) (K : Kd) : Prop := LaidAll Z a0 K.1 K.2 ∧ (K.2.map (·.2.1)).Nodup
theorem KOk.ne {a0 : Array Value} {K : Kd} (k : KOk Z a0 K) {i j : Nat} {f g : String × String × String} (hi : K.2[i]? = some f) (hj : K.2[j]? = some g) (hne : i ≠ j) : Jvm.RoadKit.slotOf Z f.1 f.2.1 f.2.2 ≠ Jvm.RoadKit.slotOf Z g.1 g.2.1 g.2.2 := by
  obtain ⟨l1, p1⟩ := k.1.mem f (List.mem_of_getElem? hi)
  obtain ⟨l2, p2⟩ := k.1.mem g (List.mem_of_getElem? hj)
  obtain ⟨t1, q1⟩ := Option.isSome_iff_exists.mp p1
  obtain ⟨t2, q2⟩ := Option.isSome_iff_exists.mp p2
  refine slot_ne l1 l2 (fun e => hne ?_) q1 q2
  obtain ⟨hi1, rfl⟩ := List.getElem?_eq_some_iff.mp hi
  obtain ⟨hj1, rfl⟩ := List.getElem?_eq_some_iff.mp hj
  have N := k.2
  refine (List.getElem_inj (xs := K.2.map (·.2.1)) (i := i) (j := j) (h₀ := by simpa using hi1) (h₁ := by simpa using hj1) N).mp ?_
  simpa using e
theorem Ob.set {a0 : Array Value} {K : Kd} (k : KOk Z a0 K) {vs : List Value} {j : Nat} {f : String × String × String} (hj : K.2[j]? = some f) (W : Wr h h' a (Jvm.RoadKit.slotOf Z f.1 f.2.1 f.2.2) v) (I : Ob Z h a K vs) (hv : j < vs.length) : Ob Z h' a K (vs.set j v) := by
  refine ⟨I.1.wr W, fun i g u hg hu => ?_⟩
  rw [List.getElem?_set] at hu
  split at hu
  · rename_i e; subst e
    cases hu
    cases hj.symm.trans hg
    exact (I.2 j f _ hg (List.getElem?_eq_getElem hv)).same W
  · rename_i hne
    exact (I.2 i g u hg hu).other W (Or.inr (k.ne hg hj (Ne.symm hne)))
theorem Ay.set {w : Bool} {ty : FieldType} {vs : List Value} {j : Nat} (I : Ay Z h a w ty vs) (W : Wr h h' a j v) (hv : fits ty v = true) : Ay Z h' a w ty (vs.set j v) := by
  obtain ⟨c, A, e, hl, hf, ho⟩ := I
  refine ⟨c.setSlot j v, A.same W, ?_, by simpa using hl, ?_, ?_⟩
  · show c.slots.setIfInBounds j v = _
    rw [e]; simp
  · intro u hu
    rcases List.mem_or_eq_of_mem_set hu with q | rfl
    · exact hf u q
    · exact hv
  · exact fun q C r => ho q C r
end Heaps
end Jvm.Wk
namespace Jvm.Wk
open Sem ClassFile Op Lib Jvm.Stand Jvm.Free Jvm.LawKit Jvm.RoadKit
/-! A BODY AS A LIST OF ITS INSTRUCTIONS, and the plain ones run by evaluation. -/
abbrev Prog : Type := List (Nat × Instr × Nat)
def okB (code : ByteArray) : Prog → Bool
  | [] => true
  | (pc, i, n) :: r => decide (decode code pc = .ok (i, n)) && okB code r
theorem okB_at {code : ByteArray} : ∀ {B : Prog}, okB code B = true → ∀ {j pc : Nat} {i : Instr} {n : Nat}, B[j]? = some (pc, i, n) → decode code pc = .ok (i, n)
  | [], _, j, _, _, _, q => by simp at q
  | (pc0, i0, n0) :: r, h, 0, pc, i, n, q => by
    simp only [okB, Bool.and_eq_true, decide_eq_true_eq] at h
    simp only [List.getElem?_cons_zero, Option.some.injEq, Prod.mk.injEq] at q
    obtain ⟨rfl, rfl, rfl⟩ := q
    exact h.1
  | (pc0, i0, n0) :: r, h, j + 1, pc, i, n, q => by
    simp only [okB, Bool.and_eq_true] at h
    rw [List.getElem?_cons_succ] at q
    exact okB_at h.2 q
abbrev Cf : Type := Nat × List Slot × List Value
/-- Java's shifts -/
def ush (x y : Int32) : Int32 := (x.toUInt32 >>> (y &&& 31).toUInt32).toInt32
def shlL (x : Int64) (y : Int32) : Int64 := x <<< (y &&& 0x3f).toInt64
def shrL (x : Int64) (y : Int32) : Int64 := x >>> (y &&& 0x3f).toInt64
def ushL (x : Int64) (y : Int32) : Int64 := (x.toUInt64 >>> (y &&& 0x3f).toInt64.toUInt64).toInt64
def b2 (f : Int32 → Int32 → Int32) (n pc : Nat) (ls : List Slot) (st : List Value) : Option Cf := match n, st with
  | 1, .int y :: .int x :: r => some (pc + 1, ls, .int (f x y) :: r)
  | _, _ => none
def b2l (f : Int64 → Int64 → Int64) (n pc : Nat) (ls : List Slot) (st : List Value) : Option Cf := match n, st with
  | 1, .long y :: .long x :: r => some (pc + 1, ls, .long (f x y) :: r)
  | _, _ => none
def bsl (f : Int64 → Int32 → Int64) (n pc : Nat) (ls : List Slot) (st : List Value) : Option Cf := match n, st with
  | 1, .int y :: .long x :: r => some (pc + 1, ls, .long (f x y) :: r)
  | _, _ => none
def ucm (n pc : Nat) (ls : List Slot) (st : List Value) : Option Cf := match n, st with
  | 1, .long y :: .long x :: r => some (pc + 1, ls, .int (XT.cmpL x y) :: r)
  | _, _ => none
def u1 (f : Int32 → Value) (n pc : Nat) (ls : List Slot) (st : List Value) : Option Cf := match n, st with
  | 1, .int x :: r => some (pc + 1, ls, f x :: r)
  | _, _ => none
def u1l (f : Int64 → Value) (n pc : Nat) (ls : List Slot) (st : List Value) : Option Cf := match n, st with
  | 1, .long x :: r => some (pc + 1, ls, f x :: r)
  | _, _ => none
def gi (k ln n pc : Nat) (ls : List Slot) (st : List Value) : Option Cf := if n = ln then (match ls[k]? with
  | some (.val (.int v)) => some (pc + ln, ls, .int v :: st)
  | _ => none) else none
def gl (k ln n pc : Nat) (ls : List Slot) (st : List Value) : Option Cf := if n = ln then (match ls[k]? with
  | some (.val (.long v)) => some (pc + ln, ls, .long v :: st)
  | _ => none) else none
def ga (k ln n pc : Nat) (ls : List Slot) (st : List Value) : Option Cf := if n = ln then (match ls[k]? with
  | some (.val (.ref v)) => some (pc + ln, ls, .ref v :: st)
  | some (.val .null) => some (pc + ln, ls, .null :: st)
  | _ => none) else none
def sv (k ln n pc : Nat) (ls : List Slot) (v : Value) (r : List Value) : Option Cf := if n = ln then (match storeLocals ls.toArray k v with
  | some l' => some (pc + ln, l'.toList, r)
  | none => none) else none
def si (k ln n pc : Nat) (ls : List Slot) (st : List Value) : Option Cf := match st with
  | .int x :: r => sv k ln n pc ls (.int x) r
  | _ => none
def sl (k ln n pc : Nat) (ls : List Slot) (st : List Value) : Option Cf := match st with
  | .long x :: r => sv k ln n pc ls (.long x) r
  | _ => none
def sa (k ln n pc : Nat) (ls : List Slot) (st : List Value) : Option Cf := match st with
  | .ref x :: r => sv k ln n pc ls (.ref x) r
  | .null :: r => sv k ln n pc ls .null r
  | _ => none
def cn (v : Value) (ln n pc : Nat) (ls : List Slot) (st : List Value) : Option Cf := if n = ln then some (pc + ln, ls, v :: st) else none
def dpp (n pc : Nat) (ls : List Slot) (st : List Value) : Option Cf := match n, st with
  | 1, .int x :: r => some (pc + 1, ls, .int x :: .int x :: r)
  | 1, .ref x :: r => some (pc + 1, ls, .ref x :: .ref x :: r)
  | 1, .null :: r => some (pc + 1, ls, .null :: .null :: r)
  | _, _ => none
def dpx (n pc : Nat) (ls : List Slot) (st : List Value) : Option Cf := match n, st with
  | 1, .int x :: .ref y :: r => some (pc + 1, ls, .int x :: .ref y :: .int x :: r)
  | 1, .int x :: .int y :: r => some (pc + 1, ls, .int x :: .int y :: .int x :: r)
  | 1, .ref x :: .ref y :: r => some (pc + 1, ls, .ref x :: .ref y :: .ref x :: r)
  | _, _ => none
def dp2 (n pc : Nat) (ls : List Slot) (st : List Value) : Option Cf := match n, st with
  | 1, .long x :: r => some (pc + 1, ls, .long x :: .long x :: r)
  | 1, .int x :: .ref y :: r => some (pc + 1, ls, .int x :: .ref y :: .int x :: .ref y :: r)
  | 1, .int x :: .int y :: r => some (pc + 1, ls, .int x :: .int y :: .int x :: .int y :: r)
  | _, _ => none
def pp (n pc : Nat) (ls : List Slot) (st : List Value) : Option Cf := match n, st with
  | 1, .int _ :: r => some (pc + 1, ls, r)
  | 1, .ref _ :: r => some (pc + 1, ls, r)
  | 1, .null :: r => some (pc + 1, ls, r)
  | _, _ => none
def gt (o : Int) (n pc : Nat) (ls : List Slot) (st : List Value) : Option Cf := if n = 3 then (if 0 ≤ (pc : Int) + o then some (((pc : Int) + o).toNat, ls, st) else none) else none
def inc (k : Nat) (d : Int) (n pc : Nat) (ls : List Slot) (st : List Value) : Option Cf := match ls[k]? with
  | some (.val (.int x)) => sv k 3 n pc ls (.int (x + Int32.ofInt d)) st
  | _ => none
def st1 (i : Instr) (n pc : Nat) (ls : List Slot) (st : List Value) : Option Cf := match i with
  | .iload_n k => gi k.val 1 n pc ls st
  | .iload k => gi k 2 n pc ls st
  | .lload_n k => gl k.val 1 n pc ls st
  | .lload k => gl k 2 n pc ls st
  | .aload_n k => ga k.val 1 n pc ls st
  | .aload k => ga k 2 n pc ls st
  | .istore_n k => si k.val 1 n pc ls st
  | .istore k => si k 2 n pc ls st
  | .lstore_n k => sl k.val 1 n pc ls st
  | .lstore k => sl k 2 n pc ls st
  | .astore_n k => sa k.val 1 n pc ls st
  | .astore k => sa k 2 n pc ls st
  | .iconst z => cn (.int (Int32.ofInt z)) 1 n pc ls st
  | .bipush z => cn (.int (Int8.ofInt z).toInt32) 2 n pc ls st
  | .sipush z => cn (.int (Int16.ofInt z).toInt32) 3 n pc ls st
  | .lconst k => cn (.long (Int64.ofNat k)) 1 n pc ls st
  | .aconst_null => cn .null 1 n pc ls st
  | .iadd => b2 (· + ·) n pc ls st
  | .isub => b2 (· - ·) n pc ls st
  | .imul => b2 (· * ·) n pc ls st
  | .iand => b2 (· &&& ·) n pc ls st
  | .ior => b2 (· ||| ·) n pc ls st
  | .ixor => b2 (· ^^^ ·) n pc ls st
  | .ishl => b2 (fun x y => x <<< (y &&& 31)) n pc ls st
  | .ishr => b2 (fun x y => x >>> (y &&& 31)) n pc ls st
  | .iushr => b2 ush n pc ls st
  | .ladd => b2l (· + ·) n pc ls st
  | .lsub => b2l (· - ·) n pc ls st
  | .lmul => b2l (· * ·) n pc ls st
  | .land => b2l (· &&& ·) n pc ls st
  | .lor => b2l (· ||| ·) n pc ls st
  | .lxor => b2l (· ^^^ ·) n pc ls st
  | .lshl => bsl shlL n pc ls st
  | .lshr => bsl shrL n pc ls st
  | .lushr => bsl ushL n pc ls st
  | .lcmp => ucm n pc ls st
  | .ineg => u1 (fun x => .int (-x)) n pc ls st
  | .i2b => u1 (fun x => .int x.toInt8.toInt32) n pc ls st
  | .i2c => u1 (fun x => .int x.toUInt32.toUInt16.toUInt32.toInt32) n pc ls st
  | .i2s => u1 (fun x => .int x.toInt16.toInt32) n pc ls st
  | .i2l => u1 (fun x => .long x.toInt64) n pc ls st
  | .l2i => u1l (fun x => .int x.toInt32) n pc ls st
  | .lneg => u1l (fun x => .long (-x)) n pc ls st
  | .dup => dpp n pc ls st
  | .dup_x1 => dpx n pc ls st
  | .dup2 => dp2 n pc ls st
  | .pop => pp n pc ls st
  | .goto o => gt o n pc ls st
  | .iinc k d => inc k d n pc ls st
  | _ => none
section Inv
variable {n pc k ln : Nat} {ls : List Slot} {st : List Value} {z : Cf} {v : Value} {r : List Value}
theorem b2_inv {f : Int32 → Int32 → Int32} (h : b2 f n pc ls st = some z) : ∃ y x r, n = 1 ∧ st = .int y :: .int x :: r ∧ z = (pc + 1, ls, .int (f x y) :: r) := by
  unfold b2 at h; split at h
  · cases h; exact ⟨_, _, _, rfl, rfl, rfl⟩
  · cases h
theorem b2l_inv {f : Int64 → Int64 → Int64} (h : b2l f n pc ls st = some z) : ∃ y x r, n = 1 ∧ st = .long y :: .long x :: r ∧ z = (pc + 1, ls, .long (f x y) :: r) := by
  unfold b2l at h; split at h
  · cases h; exact ⟨_, _, _, rfl, rfl, rfl⟩
  · cases h
theorem bsl_inv {f : Int64 → Int32 → Int64} (h : bsl f n pc ls st = some z) : ∃ y x r, n = 1 ∧ st = .int y :: .long x :: r ∧ z = (pc + 1, ls, .long (f x y) :: r) := by
  unfold bsl at h; split at h
  · cases h; exact ⟨_, _, _, rfl, rfl, rfl⟩
  · cases h
theorem ucm_inv (h : ucm n pc ls st = some z) : ∃ y x r, n = 1 ∧ st = .long y :: .long x :: r ∧ z = (pc + 1, ls, .int (XT.cmpL x y) :: r) := by
  unfold ucm at h; split at h
  · cases h; exact ⟨_, _, _, rfl, rfl, rfl⟩
  · cases h
theorem u1_inv {f : Int32 → Value} (h : u1 f n pc ls st = some z) : ∃ x r, n = 1 ∧ st = .int x :: r ∧ z = (pc + 1, ls, f x :: r) := by
  unfold u1 at h; split at h
  · cases h; exact ⟨_, _, rfl, rfl, rfl⟩
  · cases h
theorem u1l_inv {f : Int64 → Value} (h : u1l f n pc ls st = some z) : ∃ x r, n = 1 ∧ st = .long x :: r ∧ z = (pc + 1, ls, f x :: r) := by
  unfold u1l at h; split at h
  · cases h; exact ⟨_, _, rfl, rfl, rfl⟩
  · cases h
theorem gi_inv (h : gi k ln n pc ls st = some z) : ∃ v, n = ln ∧ ls[k]? = some (.val (.int v)) ∧ z = (pc + ln, ls, .int v :: st) := by
  unfold gi at h; split at h
  · split at h
    · cases h; exact ⟨_, by assumption, by assumption, rfl⟩
    · cases h
  · cases h
theorem gl_inv (h : gl k ln n pc ls st = some z) : ∃ v, n = ln ∧ ls[k]? = some (.val (.long v)) ∧ z = (pc + ln, ls, .long v :: st) := by
  unfold gl at h; split at h
  · split at h
    · cases h; exact ⟨_, by assumption, by assumption, rfl⟩
    · cases h
  · cases h
theorem ga_inv (h : ga k ln n pc ls st = some z) : ∃ v : Value, v.isRef = true ∧ n = ln ∧ ls[k]? = some (.val v) ∧ z = (pc + ln, ls, v :: st) := by
  unfold ga at h; split at h
  · split at h
    · cases h; exact ⟨_, rfl, by assumption, by assumption, rfl⟩
    · cases h; exact ⟨_, rfl, by assumption, by assumption, rfl⟩
    · cases h
  · cases h
theorem sv_inv (h : sv k ln n pc ls v r = some z) : ∃ l', n = ln ∧ storeLocals ls.toArray k v = some l' ∧ z = (pc + ln, l'.toList, r) := by
  unfold sv at h; split at h
  · split at h
    · cases h; exact ⟨_, by assumption, by assumption, rfl⟩
    · cases h
  · cases h
theorem si_inv (h : si k ln n pc ls st = some z) : ∃ x r l', n = ln ∧ st = .int x :: r ∧ storeLocals ls.toArray k (.int x) = some l' ∧ z = (pc + ln, l'.toList, r) := by
  unfold si at h; split at h
  · obtain ⟨l', a, b, c⟩ := sv_inv h; exact ⟨_, _, l', a, rfl, b, c⟩
  · cases h
theorem sl_inv (h : sl k ln n pc ls st = some z) : ∃ x r l', n = ln ∧ st = .long x :: r ∧ storeLocals ls.toArray k (.long x) = some l' ∧ z = (pc + ln, l'.toList, r) := by
  unfold sl at h; split at h
  · obtain ⟨l', a, b, c⟩ := sv_inv h; exact ⟨_, _, l', a, rfl, b, c⟩
  · cases h
theorem sa_inv (h : sa k ln n pc ls st = some z) : ∃ x r l', Value.isRef x = true ∧ n = ln ∧ st = x :: r ∧ storeLocals ls.toArray k x = some l' ∧ z = (pc + ln, l'.toList, r) := by
  unfold sa at h; split at h
  · obtain ⟨l', a, b, c⟩ := sv_inv h; exact ⟨_, _, l', rfl, a, rfl, b, c⟩
  · obtain ⟨l', a, b, c⟩ := sv_inv h; exact ⟨_, _, l', rfl, a, rfl, b, c⟩
  · cases h
theorem cn_inv (h : cn v ln n pc ls st = some z) : n = ln ∧ z = (pc + ln, ls, v :: st) := by
  unfold cn at h; split at h
  · cases h; exact ⟨by assumption, rfl⟩
  · cases h
theorem dpp_inv (h : dpp n pc ls st = some z) : ∃ x r, Value.category x = 1 ∧ n = 1 ∧ st = x :: r ∧ z = (pc + 1, ls, x :: x :: r) := by
  unfold dpp at h; split at h
  all_goals first | (cases h; exact ⟨_, _, rfl, rfl, rfl, rfl⟩) | cases h
theorem dpx_inv (h : dpx n pc ls st = some z) : ∃ x y r, Value.category x = 1 ∧ Value.category y = 1 ∧ n = 1 ∧ st = x :: y :: r ∧ z = (pc + 1, ls, x :: y :: x :: r) := by
  unfold dpx at h; split at h
  all_goals first | (cases h; exact ⟨_, _, _, rfl, rfl, rfl, rfl, rfl⟩) | cases h
theorem dp2_inv (h : dp2 n pc ls st = some z) : (∃ x r, n = 1 ∧ st = .long x :: r ∧ z = (pc + 1, ls, .long x :: .long x :: r)) ∨ ∃ x y r, Value.category x = 1 ∧ Value.category y = 1 ∧ n = 1 ∧ st = x :: y :: r ∧ z = (pc + 1, ls, x :: y :: x :: y :: r) := by
  unfold dp2 at h; split at h
  all_goals first | (cases h; exact Or.inl ⟨_, _, rfl, rfl, rfl⟩) | (cases h; exact Or.inr ⟨_, _, _, rfl, rfl, rfl, rfl, rfl⟩) | cases h
theorem pp_inv (h : pp n pc ls st = some z) : ∃ x r, Value.category x = 1 ∧ n = 1 ∧ st = x :: r ∧ z = (pc + 1, ls, r) := by
  unfold pp at h; split at h
  all_goals first | (cases h; exact ⟨_, _, rfl, rfl, rfl, rfl⟩) | cases h
theorem gt_inv {o : Int} (h : gt o n pc ls st = some z) : n = 3 ∧ 0 ≤ (pc : Int) + o ∧ z = (((pc : Int) + o).toNat, ls, st) := by
  unfold gt at h; split at h
  · split at h
    · cases h; exact ⟨by assumption, by assumption, rfl⟩
    · cases h
  · cases h
theorem inc_inv {d : Int} (h : inc k d n pc ls st = some z) : ∃ x l', n = 3 ∧ ls[k]? = some (.val (.int x)) ∧ storeLocals ls.toArray k (.int (x + Int32.ofInt d)) = some l' ∧ z = (pc + 3, l'.toList, st) := by
  unfold inc at h; split at h
  · obtain ⟨l', a, b, c⟩ := sv_inv h; exact ⟨_, l', a, by assumption, b, c⟩
  · cases h
end Inv
theorem arrL {ls : List Slot} {k : Nat} {v : Slot} (h : ls[k]? = some v) : ls.toArray[k]? = some v := by simpa using h
theorem st1_ok {p : Program} {e : Env} {below : List Frame} {T target : State} {m : MethodId} {c : Code} (hA : At T m c below) (hx : p.tables.exec = Jvm.exec) {i : Instr} {n pc : Nat} {ls : List Slot} {st : List Value} {z : Cf} (hd : decode c.code pc = .ok (i, n)) (h : st1 i n pc ls st = some z)
    (hr : Steps p.tables e below (T.setTop (mkF m z.1 z.2.1.toArray z.2.2)) target) : Steps p.tables e below (T.setTop (mkF m pc ls.toArray st)) target := by
  cases i
  case iload_n k => obtain ⟨v, rfl, hl, rfl⟩ := gi_inv h; exact XS.iloadN hA hx rfl hd (arrL hl) hr
  case iload k => obtain ⟨v, rfl, hl, rfl⟩ := gi_inv h; exact XS.iload hA hx rfl hd (arrL hl) hr
  case lload_n k => obtain ⟨v, rfl, hl, rfl⟩ := gl_inv h; exact XT.lloadN hA hx rfl hd (arrL hl) hr
  case lload k => obtain ⟨v, rfl, hl, rfl⟩ := gl_inv h; exact XT.lload hA hx rfl hd (arrL hl) hr
  case aload_n k => obtain ⟨v, hv, rfl, hl, rfl⟩ := ga_inv h; exact XS.aloadN hA hx rfl hd (arrL hl) hv hr
  case aload k => obtain ⟨v, hv, rfl, hl, rfl⟩ := ga_inv h; exact XS.aload hA hx rfl hd (arrL hl) hv hr
  case istore_n k => obtain ⟨x, r, l', rfl, rfl, hl, rfl⟩ := si_inv h; exact XS.istoreN hA hx rfl hd rfl hl hr
  case istore k => obtain ⟨x, r, l', rfl, rfl, hl, rfl⟩ := si_inv h; exact XS.istore hA hx rfl hd rfl hl hr
  case lstore_n k => obtain ⟨x, r, l', rfl, rfl, hl, rfl⟩ := sl_inv h; exact XT.lstoreN hA hx rfl hd rfl hl hr
  case lstore k => obtain ⟨x, r, l', rfl, rfl, hl, rfl⟩ := sl_inv h; exact XT.lstore hA hx rfl hd rfl hl hr
  case astore_n k => obtain ⟨x, r, l', hv, rfl, rfl, hl, rfl⟩ := sa_inv h; exact XS.astoreN hA hx rfl hd rfl hv hl hr
  case astore k => obtain ⟨x, r, l', hv, rfl, rfl, hl, rfl⟩ := sa_inv h; exact XS.astore hA hx rfl hd rfl hv hl hr
  case iconst k => obtain ⟨rfl, rfl⟩ := cn_inv h; exact XS.iconst hA hx rfl hd hr
  case bipush k => obtain ⟨rfl, rfl⟩ := cn_inv h; exact XS.bipush hA hx rfl hd hr
  case sipush k => obtain ⟨rfl, rfl⟩ := cn_inv h; exact XS.sipush hA hx rfl hd hr
  case lconst k => obtain ⟨rfl, rfl⟩ := cn_inv h; exact XT.lconst hA hx rfl hd hr
  case aconst_null => obtain ⟨rfl, rfl⟩ := cn_inv h; exact XS.aconstNull hA hx rfl hd hr
  case iadd => obtain ⟨y, x, r, rfl, rfl, rfl⟩ := b2_inv h; exact XS.iadd hA hx rfl hd rfl hr
  case isub => obtain ⟨y, x, r, rfl, rfl, rfl⟩ := b2_inv h; exact XS.isub hA hx rfl hd rfl hr
  case imul => obtain ⟨y, x, r, rfl, rfl, rfl⟩ := b2_inv h; exact XS.imul hA hx rfl hd rfl hr
  case iand => obtain ⟨y, x, r, rfl, rfl, rfl⟩ := b2_inv h; exact XS.iand hA hx rfl hd rfl hr
  case ior => obtain ⟨y, x, r, rfl, rfl, rfl⟩ := b2_inv h; exact XT.ior hA hx rfl hd rfl hr
  case ixor => obtain ⟨y, x, r, rfl, rfl, rfl⟩ := b2_inv h; exact XT.ixor hA hx rfl hd rfl hr
  case ishl => obtain ⟨y, x, r, rfl, rfl, rfl⟩ := b2_inv h; exact XT.ishl hA hx rfl hd rfl hr
  case ishr => obtain ⟨y, x, r, rfl, rfl, rfl⟩ := b2_inv h; exact XT.ishr hA hx rfl hd rfl hr
  case iushr => obtain ⟨y, x, r, rfl, rfl, rfl⟩ := b2_inv h; exact XS.iushr hA hx rfl hd rfl hr
  case ladd => obtain ⟨y, x, r, rfl, rfl, rfl⟩ := b2l_inv h; exact XT.ladd hA hx rfl hd rfl hr
  case lsub => obtain ⟨y, x, r, rfl, rfl, rfl⟩ := b2l_inv h; exact XT.lsub hA hx rfl hd rfl hr
  case lmul => obtain ⟨y, x, r, rfl, rfl, rfl⟩ := b2l_inv h; exact XT.lmul hA hx rfl hd rfl hr
  case land => obtain ⟨y, x, r, rfl, rfl, rfl⟩ := b2l_inv h; exact XT.land hA hx rfl hd rfl hr
  case lor => obtain ⟨y, x, r, rfl, rfl, rfl⟩ := b2l_inv h; exact XT.lor hA hx rfl hd rfl hr
  case lxor => obtain ⟨y, x, r, rfl, rfl, rfl⟩ := b2l_inv h; exact XT.lxor hA hx rfl hd rfl hr
  case lshl => obtain ⟨y, x, r, rfl, rfl, rfl⟩ := bsl_inv h; exact XS.lshl hA hx rfl hd rfl hr
  case lshr => obtain ⟨y, x, r, rfl, rfl, rfl⟩ := bsl_inv h; exact XS.lshr hA hx rfl hd rfl hr
  case lushr => obtain ⟨y, x, r, rfl, rfl, rfl⟩ := bsl_inv h; exact XS.lushr hA hx rfl hd rfl hr
  case lcmp => obtain ⟨y, x, r, rfl, rfl, rfl⟩ := ucm_inv h; exact XT.lcmp hA hx rfl hd rfl hr
  case ineg => obtain ⟨x, r, rfl, rfl, rfl⟩ := u1_inv h; exact XS.ineg hA hx rfl hd rfl hr
  case i2b => obtain ⟨x, r, rfl, rfl, rfl⟩ := u1_inv h; exact XT.i2b hA hx rfl hd rfl hr
  case i2c => obtain ⟨x, r, rfl, rfl, rfl⟩ := u1_inv h; exact XT.i2c hA hx rfl hd rfl hr
  case i2s => obtain ⟨x, r, rfl, rfl, rfl⟩ := u1_inv h; exact XT.i2s hA hx rfl hd rfl hr
  case i2l => obtain ⟨x, r, rfl, rfl, rfl⟩ := u1_inv h; exact XT.i2l hA hx rfl hd rfl hr
  case l2i => obtain ⟨x, r, rfl, rfl, rfl⟩ := u1l_inv h; exact XT.l2i hA hx rfl hd rfl hr
  case lneg => obtain ⟨x, r, rfl, rfl, rfl⟩ := u1l_inv h; exact XT.lneg hA hx rfl hd rfl hr
  case dup => obtain ⟨x, r, hc, rfl, rfl, rfl⟩ := dpp_inv h; exact XS.dup hA hx rfl hd rfl hc hr
  case dup_x1 => obtain ⟨x, y, r, hc, hc', rfl, rfl, rfl⟩ := dpx_inv h; exact XT.dupX1 hA hx rfl hd rfl hc hc' hr
  case dup2 =>
    rcases dp2_inv h with ⟨x, r, rfl, rfl, rfl⟩ | ⟨x, y, r, hc, hc', rfl, rfl, rfl⟩
    · exact XT.dup2L hA hx rfl hd rfl hr
    · exact XT.dup2 hA hx rfl hd rfl hc hc' hr
  case pop => obtain ⟨x, r, hc, rfl, rfl, rfl⟩ := pp_inv h; exact XT.pop hA hx rfl hd rfl hc hr
  case goto o => obtain ⟨rfl, ho, rfl⟩ := gt_inv h; exact XS.goto hA hx rfl rfl hd ho rfl hr
  case iinc k d => obtain ⟨x, l', rfl, hl, hl', rfl⟩ := inc_inv h; exact XS.iinc hA hx rfl hd (arrL hl) hl' hr
  all_goals exact absurd (show (none : Option Cf) = some z from h) (by simp)
def runB : Nat → Prog → Nat → List Slot → List Value → Option Cf
  | 0, _, pc, ls, st => some (pc, ls, st)
  | _ + 1, [], _, _, _ => none
  | k + 1, (q, i, n) :: B, pc, ls, st => if q = pc then (match st1 i n pc ls st with
    | some z => runB k B z.1 z.2.1 z.2.2
    | none => none) else none
theorem runB_ok {p : Program} {e : Env} {below : List Frame} {T target : State} {m : MethodId} {c : Code} (hA : At T m c below) (hx : p.tables.exec = Jvm.exec) {z : Cf} (hr : Steps p.tables e below (T.setTop (mkF m z.1 z.2.1.toArray z.2.2)) target) :
    ∀ (k : Nat) (B : Prog), okB c.code B = true → ∀ (pc : Nat) (ls : List Slot) (st : List Value), runB k B pc ls st = some z → Steps p.tables e below (T.setTop (mkF m pc ls.toArray st)) target
  | 0, B, _, pc, ls, st, h => by
    cases B <;> (unfold runB at h; cases h; exact hr)
  | k + 1, [], _, pc, ls, st, h => by unfold runB at h; cases h
  | k + 1, (q, i, n) :: B, hB, pc, ls, st, h => by
    unfold runB at h
    split at h
    · rename_i e; subst e
      split at h
      · rename_i w hw
        simp only [okB, Bool.and_eq_true, decide_eq_true_eq] at hB
        exact st1_ok hA hx hB.1 hw (runB_ok hA hx hr k B hB.2 _ _ _ h)
      · cases h
    · cases h
theorem okB_drop {code : ByteArray} : ∀ (j : Nat) {B : Prog}, okB code B = true → okB code (B.drop j) = true
  | 0, _, h => h
  | _ + 1, [], _ => rfl
  | j + 1, _ :: B, h => by
    simp only [okB, Bool.and_eq_true] at h
    exact okB_drop j h.2
end Jvm.Wk
namespace Jvm.Wk
open Sem ClassFile Op Lib Jvm.Stand Jvm.Free Jvm.LawKit Jvm.RoadKit
/-! THE WALK'S GOAL, over the symbolic heap: from this configuration the invocation returns, and what it returns and leaves is as G says. -/
abbrev Cxt : Type := Launch × Program × Env × Room × State × MethodId × Array Value × List Frame × Method × Code × State × List (String × Nat) × Bool × (Option Value → List Item → Prop) × List Item
def Fin (R : Room) (s : State) (Z : State) (EL : List (String × Nat)) (nw : Bool) (G : Option Value → List Item → Prop) (F : List Item) (o : Outcome) (t : State) : Prop :=
  ∃ (v : Option Value) (Lc : List Loc) (L' : List Item), o = .returned v ∧ G v L' ∧ Hp Z EL t.vm t.heap (L' ++ F) ∧ Fr Z.heap.size Lc ∧ (nw = true → s.WarmedH t.vm) ∧ s.heap.size ≤ t.heap.size ∧ ReturnedEndW s o t Lc R.cells R.slots
def Wp : Cxt → Nat → Nat → List Item → Nat → List Slot → List Value → Prop
  | (l, p, e, R, s, m, args, below, meth, c, Z, EL, nw, G, F), cells, slots, L, pc, ls, st =>
    ∀ (vm0 : Vm) (k0 : Nat) (T : State) (locs : List Loc), Stand p l e R (s.setVm vm0) m args below meth c T locs cells slots → s.Since vm0 k0 → k0 ≤ T.heap.size → (nw = true → s.WarmedH vm0) → Z.Warmed39 vm0 → Fr Z.heap.size locs → s.heap.size ≤ T.heap.size → Hp Z EL vm0 T.heap (L ++ F) →
      ∃ t o, Steps p.tables e below (T.setTop (mkF m pc ls.toArray st)) t ∧ t.status = .running ∧ Ended t below o ∧ Fin R s Z EL nw G F o t
def Cx (K : Cxt) (l : Launch) (Z : State) (a0 : Array Value) (EL : List (String × Nat)) (nw : Bool) (y : MethodName) (bytes : ByteArray) (maxL : Nat) (ret : Option FieldType) (rm : Room) (G : Option Value → List Item → Prop) (B : Prog) : Prop :=
  ∃ (p : Program) (e : Env) (s : State) (m : MethodId) (args : Array Value) (below : List Frame) (meth : Method) (c : Code) (F : List Item), K = (l, p, e, rm, s, m, args, below, meth, c, Z, EL, nw, G, F) ∧ p.tables.exec = Jvm.exec ∧ c.code = bytes ∧ c.maxLocals = maxL ∧ meth.sig.returnType = ret ∧ meth.locks = false ∧ s.vm.findClass y.cls = some m.cls ∧ meth.name = y.name ∧ EW Z a0 EL ∧ okB bytes B = true
/-- A BODY's CONTRACT: asked at the arguments 'as' in a heap that holds L and whatever else (F); it gives back v and the items L' (F as it was) -/
def Ct (l : Launch) (Z : State) (EL : List (String × Nat)) (nw : Bool) (y : MethodName) (bytes : ByteArray) (maxL : Nat) (ret : Option FieldType) (ws : List Cond) (rm : Room) (as : List Value) (L : List Item) (G : Option Value → List Item → Prop) : Prop :=
  ∀ F : List Item, MetFree l y (head1 (Cond.code y bytes maxL ret :: ws) rm) (fun a U => a = as.toArray ∧ Z.Warmed39 U.vm ∧ Hp Z EL U.vm U.heap (L ++ F)) (fun _ _ _ _ _ => True) (fun _ U o U' => Fin rm U Z EL nw G F o U')
section Rules
variable {K : Cxt} {l : Launch} {Z : State} {a0 : Array Value} {EL : List (String × Nat)} {nw : Bool} {y : MethodName} {bytes : ByteArray} {maxL : Nat} {ret : Option FieldType} {rm : Room} {G : Option Value → List Item → Prop} {B : Prog} {cells slots pc j : Nat} {L : List Item} {ls : List Slot} {st : List Value}
theorem Hp.at {p : Program} {e : Env} {R : Room} {s : State} {m : MethodId} {args : Array Value} {below : List Frame} {meth : Method} {c : Code} {T : State} {locs : List Loc} {vm0 : Vm} {h : Heap} (X : Stand p l e R (s.setVm vm0) m args below meth c T locs cells slots) (hZ : Z.Warmed39 vm0) (w : EW Z a0 EL) (H : Hp Z EL vm0 h L) : Hp Z EL T.vm h L :=
  H.later ⟨Nat.le_refl _, fun _ _ q => q⟩ (CHv.at X hZ w H.2.1)
theorem ct_of {as : List Value} {ws : List Cond} (hpl : plainFor y = true) (hB : okB bytes B = true) (hEL : EW Z a0 EL) (he : ∀ m : MethodId, entryFrame m as.toArray maxL = mkF m 0 ls.toArray [])
    (body : ∀ K, Cx K l Z a0 EL nw y bytes maxL ret rm G B → Wp K 0 0 L 0 ls []) : Ct l Z EL nw y bytes maxL ret ws rm as L G := by
  intro F
  refine MetFree.of_bodySF hpl hisR ?_
  intro p e s m args below meth c s₁ Bd hml0 hP hK
  obtain ⟨rfl, hZ, hH⟩ := hP
  have X0 : Stand p l e rm (s.setVm s.vm) m as.toArray below meth c s₁ [] 0 0 := Stand.of_body Bd
  have hh : s₁.heap = s.heap := by rw [Bd.state]; rfl
  have hb := body (l, p, e, rm, s, m, as.toArray, below, meth, c, Z, EL, nw, G, F) ⟨p, e, s, m, as.toArray, below, meth, c, F, rfl, Bd.exec, Bd.bytes, hml0, Bd.returns, Bd.notSynchronized, findClass_of_methodNamed Bd.named, (name_of_methodNamed Bd.named Bd.method).1, hEL, hB⟩
  obtain ⟨t, o, h1, h2, h3, h4⟩ := hb s.vm 0 s₁ [] X0 ((State.WarmedH.refl s).since 0) (Nat.zero_le _) (fun _ => State.WarmedH.refl s) hZ (Fr.nil _) (Nat.le_of_eq (by rw [hh])) (by rw [hh]; exact hH)
  exact ⟨t, o, castTop (he m) h1, h2, h3, h4⟩
theorem ct_ws {as : List Value} (h : ∀ ws, Ct l Z EL nw y bytes maxL ret ws rm as L G) : Ct l Z EL nw y bytes maxL ret [] rm as L G := h []
theorem wp_blk (C : Cx K l Z a0 EL nw y bytes maxL ret rm G B) (j n : Nat) {pc' : Nat} {ls' : List Slot} {st' : List Value} (hr : runB n (B.drop j) pc ls st = some (pc', ls', st')) (k : Wp K cells slots L pc' ls' st') : Wp K cells slots L pc ls st := by
  obtain ⟨p, e, s, m, args, below, meth, c, F, rfl, hx, hb, -, -, -, -, -, -, hB⟩ := C
  intro vm0 k0 T locs X hS hk hn hZ hF hg hH
  obtain ⟨t, o, h1, h2⟩ := k vm0 k0 T locs X hS hk hn hZ hF hg hH
  exact ⟨t, o, runB_ok X.here hx h1 n (B.drop j) (by rw [hb]; exact okB_drop j hB) pc ls st hr, h2⟩
/-- a step that leaves the heap and moves the tables at most -/
theorem wp_step (C : Cx K l Z a0 EL nw y bytes maxL ret rm G B) {pc' : Nat} {ls' : List Slot} {st' : List Value}
    (hs : ∀ (p : Program) (e : Env) (s : State) (m : MethodId) (args : Array Value) (below : List Frame) (meth : Method) (c : Code) (vm0 : Vm) (T : State) (locs : List Loc) (F : List Item), p.tables.exec = Jvm.exec → c.code = bytes → c.maxLocals = maxL → (s.setVm vm0).vm.findClass y.cls = some m.cls → Z.Warmed39 vm0 → Hp Z EL vm0 T.heap (L ++ F) →
      Stand p l e rm (s.setVm vm0) m args below meth c T locs cells slots → ∃ T', Stand p l e rm (s.setVm vm0) m args below meth c T' locs cells slots ∧ T'.heap = T.heap ∧ ∀ target, Steps p.tables e below (T'.setTop (mkF m pc' ls'.toArray st')) target → Steps p.tables e below (T.setTop (mkF m pc ls.toArray st)) target)
    (k : Wp K cells slots L pc' ls' st') : Wp K cells slots L pc ls st := by
  obtain ⟨p, e, s, m, args, below, meth, c, F, rfl, hx, hb, hml, hret, hlk, hown, hnm, hEL, hB⟩ := C
  intro vm0 k0 T locs X hS hk hn hZ hF hg hH
  obtain ⟨T', X', eh, stp⟩ := hs p e s m args below meth c vm0 T locs F hx hb hml (by rw [show (s.setVm vm0).vm = vm0 from rfl, hS.1.alike.findClass]; exact hown) hZ hH X
  obtain ⟨t, o, h1, h2⟩ := k vm0 k0 T' locs X' hS (by rw [eh]; exact hk) hn hZ hF (by rw [eh]; exact hg) (by rw [eh]; exact hH)
  exact ⟨t, o, stp t h1, h2⟩
/-- a step that makes one cell -/
theorem wp_make (C : Cx K l Z a0 EL nw y bytes maxL ret rm G B) {pc' cells' slots' : Nat} {ls' : List Slot} {st' : Addr → List Value} {D : Kd ⊕ FieldType} {vs : List Value}
    (hs : ∀ (p : Program) (e : Env) (s : State) (m : MethodId) (args : Array Value) (below : List Frame) (meth : Method) (c : Code) (vm0 : Vm) (T : State) (locs : List Loc), p.tables.exec = Jvm.exec → c.code = bytes → (s.setVm vm0).vm.findClass y.cls = some m.cls → Z.Warmed39 vm0 →
      Stand p l e rm (s.setVm vm0) m args below meth c T locs cells slots → ∃ T', Stand p l e rm (s.setVm vm0) m args below meth c T' locs cells' slots' ∧ Ext T.heap T'.heap ∧ It Z T'.heap (T.heap.size, true, D, vs) ∧ ∀ target, Steps p.tables e below (T'.setTop (mkF m pc' ls'.toArray (st' T.heap.size))) target → Steps p.tables e below (T.setTop (mkF m pc ls.toArray st)) target)
    (k : ∀ a : Addr, Wp K cells' slots' ((a, true, D, vs) :: L) pc' ls' (st' a)) : Wp K cells slots L pc ls st := by
  obtain ⟨p, e, s, m, args, below, meth, c, F, rfl, hx, hb, hml, hret, hlk, hown, hnm, hEL, hB⟩ := C
  intro vm0 k0 T locs X hS hk hn hZ hF hg hH
  obtain ⟨T', X', E, I, stp⟩ := hs p e s m args below meth c vm0 T locs hx hb (by rw [show (s.setVm vm0).vm = vm0 from rfl, hS.1.alike.findClass]; exact hown) hZ X
  obtain ⟨t, o, h1, h2⟩ := k T.heap.size vm0 k0 T' locs X' hS (Nat.le_trans hk E.1) hn hZ hF (Nat.le_trans hg E.1) (hH.push E I)
  exact ⟨t, o, stp t h1, h2⟩
/-- a step that writes one place of one known, new cell -/
theorem wp_write (C : Cx K l Z a0 EL nw y bytes maxL ret rm G B) {pc' i : Nat} {ls' : List Slot} {st' : List Value} {a : Addr} {D : Kd ⊕ FieldType} {vs vs' : List Value} (hi : L[i]? = some (a, true, D, vs))
    (hs : ∀ (p : Program) (e : Env) (s : State) (m : MethodId) (args : Array Value) (below : List Frame) (meth : Method) (c : Code) (vm0 : Vm) (T : State) (locs : List Loc), p.tables.exec = Jvm.exec → c.code = bytes → (s.setVm vm0).vm.findClass y.cls = some m.cls → meth.name = y.name → Z.Warmed39 vm0 → It Z T.heap (a, true, D, vs) →
      Stand p l e rm (s.setVm vm0) m args below meth c T locs cells slots → ∃ T' sl v, Stand p l e rm (s.setVm vm0) m args below meth c T' (locs ++ [⟨a, sl⟩]) cells slots ∧ Wr T.heap T'.heap a sl v ∧ It Z T'.heap (a, true, D, vs') ∧ ∀ target, Steps p.tables e below (T'.setTop (mkF m pc' ls'.toArray st')) target → Steps p.tables e below (T.setTop (mkF m pc ls.toArray st)) target)
    (k : Wp K cells slots (L.set i (a, true, D, vs')) pc' ls' st') : Wp K cells slots L pc ls st := by
  obtain ⟨p, e, s, m, args, below, meth, c, F, rfl, hx, hb, hml, hret, hlk, hown, hnm, hEL, hB⟩ := C
  intro vm0 k0 T locs X hS hk hn hZ hF hg hH
  obtain ⟨T', sl, v, X', W, I, stp⟩ := hs p e s m args below meth c vm0 T locs hx hb (by rw [show (s.setVm vm0).vm = vm0 from rfl, hS.1.alike.findClass]; exact hown) hnm hZ (hH.2.2.1 _ (List.mem_of_getElem? (app_at hi))) X
  have hH' := hH.put (app_at hi) W I
  rw [app_set hi] at hH'
  obtain ⟨t, o, h1, h2⟩ := k vm0 k0 T' _ X' hS (by rw [W.size]; exact hk) hn hZ (Fr.snoc X' hF (hH.new (app_at hi)).1) (by rw [W.size]; exact hg) hH'
  exact ⟨t, o, stp t h1, h2⟩
/-- the world in another order; fewer of it; more of it (old objects) -/
theorem wp_perm {L' : List Item} (C : Cx K l Z a0 EL nw y bytes maxL ret rm G B) (q : L.Perm L') (k : Wp K cells slots L' pc ls st) : Wp K cells slots L pc ls st := by
  obtain ⟨p, e, s, m, args, below, meth, c, F, rfl, -⟩ := C
  intro vm0 k0 T locs X hS hk hn hZ hF hg hH
  exact k vm0 k0 T locs X hS hk hn hZ hF hg (hH.perm (q.append_right F))
theorem wp_sub {L' : List Item} (C : Cx K l Z a0 EL nw y bytes maxL ret rm G B) (q : L'.Sublist L) (k : Wp K cells slots L' pc ls st) : Wp K cells slots L pc ls st := by
  obtain ⟨p, e, s, m, args, below, meth, c, F, rfl, -⟩ := C
  intro vm0 k0 T locs X hS hk hn hZ hF hg hH
  exact k vm0 k0 T locs X hS hk hn hZ hF hg (hH.sub (q.append_right F))
theorem wp_old {a : Addr} {D : Kd ⊕ FieldType} {vs : List Value} (C : Cx K l Z a0 EL nw y bytes maxL ret rm G B) (I : It Z Z.heap (a, false, D, vs)) (k : Wp K cells slots ((a, false, D, vs) :: L) pc ls st) : Wp K cells slots L pc ls st := by
  obtain ⟨p, e, s, m, args, below, meth, c, F, rfl, -⟩ := C
  intro vm0 k0 T locs X hS hk hn hZ hF hg hH
  refine k vm0 k0 T locs X hS hk hn hZ hF hg (hH.add (fun q hq hw => Nat.ne_of_lt (Nat.lt_of_lt_of_le I.lt (hH.2.2.2.2 q hq hw).1)) (I.ext hH.1))
def front (i : Nat) (L : List Item) : List Item := match L[i]? with
  | some x => x :: L.eraseIdx i
  | none => L
theorem er_perm : ∀ (i : Nat) (L : List Item) (x : Item), L[i]? = some x → L.Perm (x :: L.eraseIdx i)
  | _, [], _, h => by simp at h
  | 0, z :: L, x, h => by
    simp only [List.getElem?_cons_zero, Option.some.injEq] at h
    subst h; exact List.Perm.refl _
  | i + 1, z :: L, x, h => by
    rw [List.getElem?_cons_succ] at h
    exact (List.Perm.cons z (er_perm i L x h)).trans (List.Perm.swap x z _)
theorem front_perm (i : Nat) (L : List Item) : L.Perm (front i L) := by
  unfold front
  split
  · rename_i x hx
    exact er_perm i L x hx
  · exact List.Perm.refl _
theorem wp_front (C : Cx K l Z a0 EL nw y bytes maxL ret rm G B) (i : Nat) {L' : List Item} (e : front i L = L') (k : Wp K cells slots L' pc ls st) : Wp K cells slots L pc ls st := wp_perm C (e ▸ front_perm i L) k
theorem wp_drop (C : Cx K l Z a0 EL nw y bytes maxL ret rm G B) (i : Nat) {L' : List Item} (e : L.eraseIdx i = L') (k : Wp K cells slots L' pc ls st) : Wp K cells slots L pc ls st := wp_sub C (e ▸ List.eraseIdx_sublist L i) k
theorem stand_mono {p : Program} {e : Env} {R : Room} {s : State} {m : MethodId} {args : Array Value} {below : List Frame} {meth : Method} {c : Code} {T : State} {locs : List Loc} {cells slots cells' slots' : Nat} (X : Stand p l e R s m args below meth c T locs cells slots) (h1 : cells ≤ cells') (h2 : slots ≤ slots') : Stand p l e R s m args below meth c T locs cells' slots' :=
  ⟨X.admits, X.cas, X.clock, X.frames, X.room, X.hears, X.method, X.code, X.here, X.tail, X.warmed, X.limits, X.bytes, X.same.mono h1 h2⟩
/-- more booked than used -/
theorem wp_mono {cells' slots' : Nat} (C : Cx K l Z a0 EL nw y bytes maxL ret rm G B) (h1 : cells ≤ cells') (h2 : slots ≤ slots') (k : Wp K cells' slots' L pc ls st) : Wp K cells slots L pc ls st := by
  obtain ⟨p, e, s, m, args, below, meth, c, F, rfl, -⟩ := C
  intro vm0 k0 T locs X hS hk hn hZ hF hg hH
  exact k vm0 k0 T locs (stand_mono X h1 h2) hS hk hn hZ hF hg hH
/-! branches -/
theorem Cx.dec (C : Cx K l Z a0 EL nw y bytes maxL ret rm G B) {i : Instr} {n : Nat} (hi : B[j]? = some (pc, i, n)) {c : Code} (hb : c.code = bytes) : decode c.code pc = .ok (i, n) := by
  obtain ⟨p', e', s', m', args', below', meth', c', F', -, -, -, -, -, -, -, -, -, hB⟩ := C
  rw [hb]; exact okB_at hB hi
theorem wp_if (C : Cx K l Z a0 EL nw y bytes maxL ret rm G B) {cd : ClassFile.Cond} {o : Int} {pc' : Nat} {x : Int32} (j : Nat) (hi : B[j]? = some (pc, .ifCond cd o, 3)) (hp : ((pc : Int) + o).toNat = pc') (ho : 0 ≤ (pc : Int) + o)
    (k1 : ifCond.holds cd x = true → Wp K cells slots L pc' ls st) (k2 : ifCond.holds cd x = false → Wp K cells slots L (pc + 3) ls st) : Wp K cells slots L pc ls (.int x :: st) := by
  cases hc : ifCond.holds cd x with
  | true => exact wp_step C (fun p e s m args below meth c vm0 T locs F hx hb hml hown hZ hH X => ⟨T, X, rfl, fun t h => XS.ifYes X.here hx rfl rfl (C.dec hi hb) rfl hc ho hp h⟩) (k1 hc)
  | false => exact wp_step C (fun p e s m args below meth c vm0 T locs F hx hb hml hown hZ hH X => ⟨T, X, rfl, fun t h => XS.ifNo X.here hx rfl (C.dec hi hb) rfl hc h⟩) (k2 hc)
theorem wp_ic (C : Cx K l Z a0 EL nw y bytes maxL ret rm G B) {cd : ClassFile.Cond} {o : Int} {pc' : Nat} {x z : Int32} (j : Nat) (hi : B[j]? = some (pc, .if_icmp cd o, 3)) (hp : ((pc : Int) + o).toNat = pc') (ho : 0 ≤ (pc : Int) + o)
    (k1 : if_icmp.holds cd x z = true → Wp K cells slots L pc' ls st) (k2 : if_icmp.holds cd x z = false → Wp K cells slots L (pc + 3) ls st) : Wp K cells slots L pc ls (.int z :: .int x :: st) := by
  cases hc : if_icmp.holds cd x z with
  | true => exact wp_step C (fun p e s m args below meth c vm0 T locs F hx hb hml hown hZ hH X => ⟨T, X, rfl, fun t h => XS.icmpYes X.here hx rfl rfl (C.dec hi hb) rfl hc ho hp h⟩) (k1 hc)
  | false => exact wp_step C (fun p e s m args below meth c vm0 T locs F hx hb hml hown hZ hH X => ⟨T, X, rfl, fun t h => XS.icmpNo X.here hx rfl (C.dec hi hb) rfl hc h⟩) (k2 hc)
def cT (cd : ClassFile.Cond) (x z : Int32) : Prop := match cd with
  | .eq => x = z | .ne => x ≠ z | .lt => x.toInt < z.toInt | .ge => z.toInt ≤ x.toInt | .gt => z.toInt < x.toInt | .le => x.toInt ≤ z.toInt
def cF (cd : ClassFile.Cond) (x z : Int32) : Prop := match cd with
  | .eq => x ≠ z | .ne => x = z | .lt => z.toInt ≤ x.toInt | .ge => x.toInt < z.toInt | .gt => x.toInt ≤ z.toInt | .le => z.toInt < x.toInt
theorem ic_t {cd : ClassFile.Cond} {x z : Int32} (h : if_icmp.holds cd x z = true) : cT cd x z := by
  cases cd <;> simp_all [if_icmp.holds, cT, Int32.lt_iff_toInt_lt, Int32.le_iff_toInt_le]
theorem ic_f {cd : ClassFile.Cond} {x z : Int32} (h : if_icmp.holds cd x z = false) : cF cd x z := by
  cases cd <;> simp_all [if_icmp.holds, cF, Int32.lt_iff_toInt_lt, Int32.le_iff_toInt_le]
theorem wp_icmp (C : Cx K l Z a0 EL nw y bytes maxL ret rm G B) {cd : ClassFile.Cond} {o : Int} {x z : Int32} (j pc' pc2 : Nat) (hi : B[j]? = some (pc, .if_icmp cd o, 3)) (hp : ((pc : Int) + o).toNat = pc') (h2 : pc + 3 = pc2) (ho : 0 ≤ (pc : Int) + o)
    (k1 : cT cd x z → Wp K cells slots L pc' ls st) (k2 : cF cd x z → Wp K cells slots L pc2 ls st) : Wp K cells slots L pc ls (.int z :: .int x :: st) := by
  subst h2; exact wp_ic C j hi hp ho (fun h => k1 (ic_t h)) (fun h => k2 (ic_f h))
theorem wp_ifz (C : Cx K l Z a0 EL nw y bytes maxL ret rm G B) {cd : ClassFile.Cond} {o : Int} {x : Int32} (j pc' pc2 : Nat) (hi : B[j]? = some (pc, .ifCond cd o, 3)) (hp : ((pc : Int) + o).toNat = pc') (h2 : pc + 3 = pc2) (ho : 0 ≤ (pc : Int) + o)
    (k1 : cT cd x 0 → Wp K cells slots L pc' ls st) (k2 : cF cd x 0 → Wp K cells slots L pc2 ls st) : Wp K cells slots L pc ls (.int x :: st) := by
  subst h2; exact wp_if C j hi hp ho (fun h => k1 (ic_t (by rw [← if0]; exact h))) (fun h => k2 (ic_f (by rw [← if0]; exact h)))
theorem wp_nullY (C : Cx K l Z a0 EL nw y bytes maxL ret rm G B) {o : Int} (j pc' : Nat) (hi : B[j]? = some (pc, .ifnull o, 3)) (hp : ((pc : Int) + o).toNat = pc') (ho : 0 ≤ (pc : Int) + o) (k : Wp K cells slots L pc' ls st) : Wp K cells slots L pc ls (.null :: st) :=
  wp_step C (fun p e s m args below meth c vm0 T locs F hx hb hml hown hZ hH X => ⟨T, X, rfl, fun t h => XS.ifnullYes X.here hx rfl rfl (C.dec hi hb) rfl ho hp h⟩) k
theorem wp_nullN (C : Cx K l Z a0 EL nw y bytes maxL ret rm G B) {o : Int} {b : Addr} (j pc' : Nat) (hi : B[j]? = some (pc, .ifnull o, 3)) (hp : pc + 3 = pc') (k : Wp K cells slots L pc' ls st) : Wp K cells slots L pc ls (.ref b :: st) := by
  subst hp
  exact wp_step C (fun p e s m args below meth c vm0 T locs F hx hb hml hown hZ hH X => ⟨T, X, rfl, fun t h => XS.ifnullNo X.here hx rfl (C.dec hi hb) rfl h⟩) k
theorem wp_nonnullY (C : Cx K l Z a0 EL nw y bytes maxL ret rm G B) {o : Int} {b : Addr} (j pc' : Nat) (hi : B[j]? = some (pc, .ifnonnull o, 3)) (hp : ((pc : Int) + o).toNat = pc') (ho : 0 ≤ (pc : Int) + o) (k : Wp K cells slots L pc' ls st) : Wp K cells slots L pc ls (.ref b :: st) :=
  wp_step C (fun p e s m args below meth c vm0 T locs F hx hb hml hown hZ hH X => ⟨T, X, rfl, fun t h => XT.ifnonnullYes X.here hx rfl rfl (C.dec hi hb) rfl ho hp h⟩) k
theorem wp_nonnullN (C : Cx K l Z a0 EL nw y bytes maxL ret rm G B) {o : Int} (j pc' : Nat) (hi : B[j]? = some (pc, .ifnonnull o, 3)) (hp : pc + 3 = pc') (k : Wp K cells slots L pc' ls st) : Wp K cells slots L pc ls (.null :: st) := by
  subst hp
  exact wp_step C (fun p e s m args below meth c vm0 T locs F hx hb hml hown hZ hH X => ⟨T, X, rfl, fun t h => XT.ifnonnullNo X.here hx rfl (C.dec hi hb) rfl h⟩) k
theorem wp_acY (C : Cx K l Z a0 EL nw y bytes maxL ret rm G B) {cd : ACond} {o : Int} {u w : Value} (j pc' : Nat) (hi : B[j]? = some (pc, .if_acmp cd o, 3)) (hu : u.isRef = true) (hw : w.isRef = true) (hc : XT.acmp cd u w = true) (hp : ((pc : Int) + o).toNat = pc') (ho : 0 ≤ (pc : Int) + o) (k : Wp K cells slots L pc' ls st) : Wp K cells slots L pc ls (w :: u :: st) :=
  wp_step C (fun p e s m args below meth c vm0 T locs F hx hb hml hown hZ hH X => ⟨T, X, rfl, fun t h => XT.acmpYes X.here hx rfl rfl (C.dec hi hb) rfl hu hw hc ho hp h⟩) k
theorem wp_acN (C : Cx K l Z a0 EL nw y bytes maxL ret rm G B) {cd : ACond} {o : Int} {u w : Value} (j pc' : Nat) (hi : B[j]? = some (pc, .if_acmp cd o, 3)) (hu : u.isRef = true) (hw : w.isRef = true) (hc : XT.acmp cd u w = false) (hp : pc + 3 = pc') (k : Wp K cells slots L pc' ls st) : Wp K cells slots L pc ls (w :: u :: st) := by
  subst hp
  exact wp_step C (fun p e s m args below meth c vm0 T locs F hx hb hml hown hZ hH X => ⟨T, X, rfl, fun t h => XT.acmpNo X.here hx rfl (C.dec hi hb) rfl hu hw hc h⟩) k
/-! division -/
theorem wp_irem (C : Cx K l Z a0 EL nw y bytes maxL ret rm G B) {x z : Int32} (j pc' : Nat) (hi : B[j]? = some (pc, .irem, 1)) (hp : pc + 1 = pc') (hz : z ≠ 0) (k : Wp K cells slots L pc' ls (.int (x % z) :: st)) : Wp K cells slots L pc ls (.int z :: .int x :: st) := by
  subst hp
  exact wp_step C (fun p e s m args below meth c vm0 T locs F hx hb hml hown hZ hH X => ⟨T, X, rfl, fun t h => iremM X hx rfl (C.dec hi hb) rfl hz h⟩) k
theorem wp_idiv (C : Cx K l Z a0 EL nw y bytes maxL ret rm G B) {x z : Int32} (j pc' : Nat) (hi : B[j]? = some (pc, .idiv, 1)) (hp : pc + 1 = pc') (hz : z ≠ 0) (k : Wp K cells slots L pc' ls (.int (x / z) :: st)) : Wp K cells slots L pc ls (.int z :: .int x :: st) := by
  subst hp
  exact wp_step C (fun p e s m args below meth c vm0 T locs F hx hb hml hown hZ hH X => ⟨T, X, rfl, fun t h => XS.idiv X.here hx rfl (C.dec hi hb) rfl hz h⟩) k
/-! constants -/
theorem wp_ldcI (C : Cx K l Z a0 EL nw y bytes maxL ret rm G B) {z : Int32} {ix : Nat} (j pc' : Nat) (hi : B[j]? = some (pc, .ldc ix, 2)) (hp : pc + 2 = pc') (w : (Cond.constant y.cls ix z).before a0 Z = true) (k : Wp K cells slots L pc' ls (.int z :: st)) : Wp K cells slots L pc ls st := by
  subst hp
  exact wp_step C (fun p e s m args below meth c vm0 T locs F hx hb hml hown hZ hH X => ⟨T, X, rfl, by
      have w' : (Cond.constant y.cls ix z).before args (s.setVm vm0) = true := mvT (args := args) (s := s.setVm vm0) hZ w
      exact X.ldcInt hx hown w' (g := mkF m pc ls.toArray st) rfl (C.dec hi hb)⟩) k
theorem wp_ldcJ (C : Cx K l Z a0 EL nw y bytes maxL ret rm G B) {z : Int64} {ix : Nat} (j pc' : Nat) (hi : B[j]? = some (pc, .ldc2_w ix, 3)) (hp : pc + 3 = pc') (w : (Cond.constantLong y.cls ix z).before a0 Z = true) (k : Wp K cells slots L pc' ls (.long z :: st)) : Wp K cells slots L pc ls st := by
  subst hp
  exact wp_step C (fun p e s m args below meth c vm0 T locs F hx hb hml hown hZ hH X => ⟨T, X, rfl, by
      have w' : (Cond.constantLong y.cls ix z).before args (s.setVm vm0) = true := mvT (args := args) (s := s.setVm vm0) hZ w
      exact X.ldc2Long hx hown w' (g := mkF m pc ls.toArray st) rfl (C.dec hi hb)⟩) k
/-! fields -/
theorem wp_get (C : Cx K l Z a0 EL nw y bytes maxL ret rm G B) {ix : Nat} {R0 O n d : String} {a : Addr} {w : Bool} {Kc : Kd} {vs : List Value} {v : Value} (j pc' i f : Nat) (hi : B[j]? = some (pc, .getfield ix, 3)) (hp : pc + 3 = pc') (lk : (Cond.fieldLink y.cls ix R0 n d).before a0 Z = true) (via : Via Z R0 O n d)
    (hL : L[i]? = some (a, w, .inl Kc, vs)) (hf : Kc.2[f]? = some (O, n, d)) (hv : vs[f]? = some v) (k : Wp K cells slots L pc' ls (v :: st)) : Wp K cells slots L pc ls (.ref a :: st) := by
  subst hp
  exact wp_step C (fun p e s m args below meth c vm0 T locs F hx hb hml hown hZ hH X => getF (host := "") X hx (s := s.setVm vm0) hZ hown (Or.inl lk) via rfl ((hH.obj (app_at hL)).2 f _ _ hf hv) (g := mkF m pc ls.toArray (.ref a :: st)) rfl rfl (C.dec hi hb)) k
theorem wp_getS (C : Cx K l Z a0 EL nw y bytes maxL ret rm G B) {ix : Nat} {R0 O n d : String} {v : Value} (j pc' : Nat) (hi : B[j]? = some (pc, .getstatic ix, 3)) (hp : pc + 3 = pc') (lk : (Cond.fieldLink y.cls ix R0 n d).before a0 Z = true) (via : Via Z R0 O n d) (S : Sta Z Z.heap O n d v)
    (k : Wp K cells slots L pc' ls (v :: st)) : Wp K cells slots L pc ls st := by
  subst hp
  exact wp_step C (fun p e s m args below meth c vm0 T locs F hx hb hml hown hZ hH X => getS2 (host := "") X hx (s := s.setVm vm0) hZ hown (Or.inl lk) via rfl (S.ext hH.1) (g := mkF m pc ls.toArray st) rfl (C.dec hi hb)) k
theorem wp_put (C : Cx K l Z a0 EL nw y bytes maxL ret rm G B) {ix kk : Nat} {R0 O n d : String} {ty : FieldType} {a : Addr} {Kc : Kd} {vs vs' : List Value} {u v : Value} (j pc' i f : Nat) (hi : B[j]? = some (pc, .putfield ix, 3)) (hp : pc + 3 = pc') (lk : (Cond.fieldLink y.cls ix R0 n d).before a0 Z = true) (via : Via Z R0 O n d)
    (lw : (Cond.lays Kc.1 O n d).before a0 Z = true ∨ ((Cond.laysFinal Kc.1 O n d).before a0 Z = true ∧ y.cls = O ∧ y.name = "<init>")) (wi : (Cond.instantiable Kc.1 kk).before a0 Z = true) (ko : KOk Z a0 Kc) (hty : parseFieldDescriptor d = some ty) (hnr : narrow ty u = v) (hft : fits ty v = true)
    (hL : L[i]? = some (a, true, .inl Kc, vs)) (hf : Kc.2[f]? = some (O, n, d)) {ov : Value} (hov : vs[f]? = some ov) (hs : vs.set f v = vs') {L' : List Item} (hL' : L.set i (a, true, .inl Kc, vs') = L') (k : Wp K cells slots L' pc' ls st) : Wp K cells slots L pc ls (u :: .ref a :: st) := by
  subst hp hs hL'
  refine wp_write C hL (fun p e s m args below meth c vm0 T locs hx hb hown hnm hZ hI X => ?_) k
  have hI' : Ob Z T.heap a Kc vs := hI
  have hlt := (List.getElem?_eq_some_iff.mp hov).1
  obtain ⟨T', h', X', rfl, W, stp⟩ := putFN X hx (s := s.setVm vm0) hZ hown lk via rfl (hI'.2 f _ _ hf (List.getElem?_eq_getElem hlt)) hI'.1 (lw.imp id fun q => ⟨q.1, q.2.1, by rw [hnm]; exact q.2.2⟩) wi hty hnr hft (g := mkF m pc ls.toArray (u :: .ref a :: st)) rfl rfl (C.dec hi hb)
  exact ⟨T', _, _, X', W, Ob.set ko hf W hI' hlt, stp⟩
/-! making -/
def defs (Kc : Kd) : List Value := Kc.2.map fun f => defaultValue ((parseFieldDescriptor f.2.2).getD .int)
theorem wp_new (C : Cx K l Z a0 EL nw y bytes maxL ret rm G B) {ix n : Nat} {Kc : Kd} {vs : List Value} (j pc' : Nat) (hi : B[j]? = some (pc, .new ix, 3)) (hp : pc + 3 = pc') (lk : (Cond.classLink y.cls ix Kc.1).before a0 Z = true) (wi : (Cond.instantiable Kc.1 n).before a0 Z = true) (wz : (Cond.initialized Kc.1).before a0 Z = true) (ko : KOk Z a0 Kc)
    (hv : defs Kc = vs) {cells' slots' : Nat} (hc : cells + 1 = cells') (hl : slots + n = slots') (hc' : cells' ≤ rm.cells) (hl' : slots' ≤ rm.slots) (k : ∀ a : Addr, Wp K cells' slots' ((a, true, .inl Kc, vs) :: L) pc' ls (.ref a :: st)) : Wp K cells slots L pc ls st := by
  subst hp hv hc hl
  refine wp_make C (st' := fun a => .ref a :: st) (fun p e s m args below meth c vm0 T locs hx hb hown hZ X => ?_) k
  obtain ⟨T', h', X', rfl, E, A, D, -, stp⟩ := newO X hx (s := s.setVm vm0) hZ hown lk wi wz rfl (g := mkF m pc ls.toArray st) rfl (C.dec hi hb) hc' hl'
  refine ⟨T', X', E, ⟨A, fun i f v hf hv => ?_⟩, stp⟩
  obtain ⟨l1, p1⟩ := ko.1.mem f (List.mem_of_getElem? hf)
  obtain ⟨ty, ht⟩ := Option.isSome_iff_exists.mp p1
  have e1 : v = defaultValue ty := by
    simp only [defs, List.getElem?_map, hf, Option.map_some, ht, Option.getD_some, Option.some.injEq] at hv
    exact hv.symm
  rw [e1]
  exact D l1 ht
theorem toNat_of {z : Int32} {n : Nat} (h : z.toInt = n) : ¬ z < 0 ∧ z.toNatClampNeg = n := by
  refine ⟨fun q => ?_, ?_⟩
  · rw [Int32.lt_iff_toInt_lt, Int32.toInt_zero] at q; omega
  · have : z.toNatClampNeg = z.toInt.toNat := rfl
    omega
theorem fits_default (ty : FieldType) : fits ty (defaultValue ty) = true := by cases ty <;> rfl
theorem wp_newA (C : Cx K l Z a0 EL nw y bytes maxL ret rm G B) {aty : ArrayType} {z : Int32} {n cap : Nat} (j pc' : Nat) (hi : B[j]? = some (pc, .newarray aty, 2)) (hp : pc + 2 = pc') (wa : (Cond.arrayClass (newarray.typeOf aty)).before a0 Z = true) (hz : z.toInt = n) (hcap : n ≤ cap) (hbig : cap * 8 ≤ 536870912)
    {cells' slots' : Nat} (hc : cells + 1 = cells') (hl : slots + cap = slots') (hc' : cells' ≤ rm.cells) (hl' : slots' ≤ rm.slots) {vs : List Value} (hvs : List.replicate n (defaultValue (newarray.typeOf aty)) = vs) (k : ∀ a : Addr, Wp K cells' slots' ((a, true, .inr (newarray.typeOf aty), vs) :: L) pc' ls (.ref a :: st)) : Wp K cells slots L pc ls (.int z :: st) := by
  subst hp hc hl hvs
  have hn := toNat_of hz
  refine wp_make C (st' := fun a => .ref a :: st) (fun p e s m args below meth c vm0 T locs hx hb hown hZ X => ?_) k
  obtain ⟨T', h', cA, X', rfl, E, A, stp⟩ := newP X hx (s := s.setVm vm0) hZ wa rfl (g := mkF m pc ls.toArray (.int z :: st)) rfl (C.dec hi hb) rfl hn.1 (cap := cap) (by rw [hn.2]; exact hcap) hbig hc' hl'
  refine ⟨T', X', E, ⟨_, A, ?_, by rw [List.length_replicate]; omega, fun v hv => ?_, fun _ C q => ?_⟩, stp⟩
  · show Array.replicate z.toNatClampNeg _ = _
    rw [hn.2]; simp
  · rw [(List.mem_replicate.mp hv).2]; exact fits_default _
  · cases aty <;> cases q
theorem wp_newR (C : Cx K l Z a0 EL nw y bytes maxL ret rm G B) {ix : Nat} {Cn : String} {z : Int32} {n cap : Nat} (j pc' : Nat) (hi : B[j]? = some (pc, .anewarray ix, 3)) (hp : pc + 3 = pc') (lk : (Cond.classLink y.cls ix Cn).before a0 Z = true) (wa : (Cond.arrayOver (.object Cn)).before a0 Z = true) (hz : z.toInt = n) (hcap : n ≤ cap) (hbig : cap * 8 ≤ 536870912)
    {cells' slots' : Nat} (hc : cells + 1 = cells') (hl : slots + cap = slots') (hc' : cells' ≤ rm.cells) (hl' : slots' ≤ rm.slots) {vs : List Value} (hvs : List.replicate n Value.null = vs) (k : ∀ a : Addr, Wp K cells' slots' ((a, true, .inr (.object Cn), vs) :: L) pc' ls (.ref a :: st)) : Wp K cells slots L pc ls (.int z :: st) := by
  subst hp hc hl hvs
  have hn := toNat_of hz
  refine wp_make C (st' := fun a => .ref a :: st) (fun p e s m args below meth c vm0 T locs hx hb hown hZ X => ?_) k
  obtain ⟨T', h', cA, X', rfl, E, A, O, stp⟩ := newR X hx (s := s.setVm vm0) hZ hown lk wa rfl (g := mkF m pc ls.toArray (.int z :: st)) rfl (C.dec hi hb) rfl hn.1 (cap := cap) (by rw [hn.2]; exact hcap) hbig hc' hl'
  refine ⟨T', X', E, ⟨_, A, ?_, by rw [List.length_replicate]; omega, fun v hv => ?_, fun _ C q => ?_⟩, stp⟩
  · show Array.replicate z.toNatClampNeg _ = _
    rw [hn.2]; simp [defaultValue]
  · rw [(List.mem_replicate.mp hv).2]; rfl
  · cases q; exact O
/-! arrays -/
theorem Ay.inb {h : Heap} {a : Addr} {w : Bool} {ty : FieldType} {vs : List Value} {c : Cell} (e : c.slots = vs.toArray) {z : Int32} {n : Nat} (hz : z.toInt = n) {v : Value} (hv : vs[n]? = some v) : ¬ (z < 0 ∨ c.slots.size ≤ z.toNatClampNeg) ∧ c.slots[z.toNatClampNeg]? = some v := by
  have hn := toNat_of hz
  have hl := (List.getElem?_eq_some_iff.mp hv).1
  rw [hn.2, e]
  refine ⟨fun q => q.elim hn.1 (fun q => ?_), by simpa using hv⟩
  simp at q; omega
theorem wp_len (C : Cx K l Z a0 EL nw y bytes maxL ret rm G B) {a : Addr} {w : Bool} {ty : FieldType} {vs : List Value} {z : Int32} (j pc' i : Nat) (hi : B[j]? = some (pc, .arraylength, 1)) (hp : pc + 1 = pc') (hL : L[i]? = some (a, w, .inr ty, vs)) (hz : vs.length.toInt32 = z) (k : Wp K cells slots L pc' ls (.int z :: st)) : Wp K cells slots L pc ls (.ref a :: st) := by
  subst hp hz
  refine wp_step C (fun p e s m args below meth c vm0 T locs F hx hb hml hown hZ hH X => ⟨T, X, rfl, fun t h => ?_⟩) k
  obtain ⟨cl, A, e1, -⟩ := hH.arr (app_at hL)
  refine X.arraylength hx A.1 (State.isArrayOf_alike (show Z.vm.Alike (s.setVm vm0).vm from hZ.alike) A.2.1) (g := mkF m pc ls.toArray (.ref a :: st)) rfl rfl (C.dec hi hb) _ ?_
  have : cl.slots.size = vs.length := by rw [e1]; simp
  rw [this]; exact h
theorem wp_aload (C : Cx K l Z a0 EL nw y bytes maxL ret rm G B) {op : Instr} {a : Addr} {w : Bool} {ty : FieldType} {vs : List Value} {z : Int32} {n : Nat} {v : Value} (j pc' i : Nat) (hi : B[j]? = some (pc, op, 1)) (hp : pc + 1 = pc')
    (ho : (op = .iaload ∧ ty = .int) ∨ (op = .laload ∧ ty = .long) ∨ (op = .caload ∧ ty = .char) ∨ (op = .baload ∧ ty = .byte) ∨ (op = .aaload ∧ ty.isReference = true)) (hL : L[i]? = some (a, w, .inr ty, vs)) (hz : z.toInt = n) (hv : vs[n]? = some v) (k : Wp K cells slots L pc' ls (v :: st)) : Wp K cells slots L pc ls (.int z :: .ref a :: st) := by
  subst hp
  refine wp_step C (fun p e s m args below meth c vm0 T locs F hx hb hml hown hZ hH X => ⟨T, X, rfl, fun t h => ?_⟩) k
  obtain ⟨cl, A, e1, -⟩ := hH.arr (app_at hL)
  obtain ⟨q1, q2⟩ := Ay.inb (h := T.heap) (a := a) (w := w) (ty := ty) e1 hz hv
  have hA := State.isArrayOf_alike (show Z.vm.Alike (s.setVm vm0).vm from hZ.alike) A.2.1
  rcases ho with ⟨rfl, rfl⟩ | ⟨rfl, rfl⟩ | ⟨rfl, rfl⟩ | ⟨rfl, rfl⟩ | ⟨rfl, hr⟩
  · exact X.iaload hx A.1 hA A.2.2 q1 q2 (g := mkF m pc ls.toArray (.int z :: .ref a :: st)) rfl rfl (C.dec hi hb) t h
  · exact X.laload hx A.1 hA A.2.2 q1 q2 (g := mkF m pc ls.toArray (.int z :: .ref a :: st)) rfl rfl (C.dec hi hb) t h
  · exact X.caload hx A.1 hA A.2.2 q1 q2 (g := mkF m pc ls.toArray (.int z :: .ref a :: st)) rfl rfl (C.dec hi hb) t h
  · exact X.baloadBytes hx A.1 hA A.2.2 q1 q2 (g := mkF m pc ls.toArray (.int z :: .ref a :: st)) rfl rfl (C.dec hi hb) t h
  · exact X.aaload hx A.1 hA hr A.2.2 q1 q2 (g := mkF m pc ls.toArray (.int z :: .ref a :: st)) rfl rfl (C.dec hi hb) t h
end Rules
end Jvm.Wk
namespace Jvm.Wk
open Sem ClassFile Op Lib Jvm.Stand Jvm.Free Jvm.LawKit Jvm.RoadKit
section Rules
variable {K : Cxt} {l : Launch} {Z : State} {a0 : Array Value} {EL : List (String × Nat)} {nw : Bool} {y : MethodName} {bytes : ByteArray} {maxL : Nat} {ret : Option FieldType} {rm : Room} {G : Option Value → List Item → Prop} {B : Prog} {cells slots pc j : Nat} {L : List Item} {ls : List Slot} {st : List Value}
/-! an array's stores -/
theorem wp_sto (C : Cx K l Z a0 EL nw y bytes maxL ret rm G B) {a : Addr} {ty : FieldType} {vs vs' : List Value} {z : Int32} {n : Nat} {u v : Value} {pc' i : Nat} (hL : L[i]? = some (a, true, .inr ty, vs)) (hz : z.toInt = n) (hn : n < vs.length) (hft : fits ty v = true)
    (hst : ∀ (p : Program) (e : Env) (s : State) (m : MethodId) (args : Array Value) (below : List Frame) (meth : Method) (c : Code) (vm0 : Vm) (T : State) (locs : List Loc) (cl : Cell), p.tables.exec = Jvm.exec → c.code = bytes → Z.Warmed39 vm0 → Arr Z T.heap a cl ty → ¬ (z < 0 ∨ cl.slots.size ≤ z.toNatClampNeg) → Stand p l e rm (s.setVm vm0) m args below meth c T locs cells slots →
      ∃ T' h', Stand p l e rm (s.setVm vm0) m args below meth c T' (locs ++ [⟨a, z.toNatClampNeg⟩]) cells slots ∧ T'.heap = h' ∧ Wr T.heap h' a z.toNatClampNeg v ∧ ∀ target, Steps p.tables e below (T'.setTop (mkF m pc' ls.toArray st)) target → Steps p.tables e below (T.setTop (mkF m pc ls.toArray (u :: .int z :: .ref a :: st))) target)
    (hs : vs.set n v = vs') {L' : List Item} (hL' : L.set i (a, true, .inr ty, vs') = L') (k : Wp K cells slots L' pc' ls st) : Wp K cells slots L pc ls (u :: .int z :: .ref a :: st) := by
  subst hs hL'
  refine wp_write C hL (fun p e s m args below meth c vm0 T locs hx hb hown hnm hZ hI X => ?_) k
  have hI' : Ay Z T.heap a true ty vs := hI
  obtain ⟨cl, A, e1, -⟩ := id hI'
  obtain ⟨q1, -⟩ := Ay.inb (h := T.heap) (a := a) (w := true) (ty := ty) e1 hz (List.getElem?_eq_getElem hn)
  obtain ⟨T', h', X', rfl, W, stp⟩ := hst p e s m args below meth c vm0 T locs cl hx hb hZ A q1 X
  refine ⟨T', _, _, X', W, ?_, stp⟩
  rw [(toNat_of hz).2] at W
  exact Ay.set hI' W hft
theorem wp_stoI (C : Cx K l Z a0 EL nw y bytes maxL ret rm G B) {a : Addr} {vs vs' : List Value} {z x : Int32} {n : Nat} (j pc' i : Nat) (hi : B[j]? = some (pc, .iastore, 1)) (hp : pc + 1 = pc') (hL : L[i]? = some (a, true, .inr .int, vs)) (hz : z.toInt = n) (hn : n < vs.length)
    (hs : vs.set n (.int x) = vs') {L' : List Item} (hL' : L.set i (a, true, .inr .int, vs') = L') (k : Wp K cells slots L' pc' ls st) : Wp K cells slots L pc ls (.int x :: .int z :: .ref a :: st) := by
  subst hp
  exact wp_sto C hL hz hn rfl (fun p e s m args below meth c vm0 T locs cl hx hb hZ A q X => stI X hx (s := s.setVm vm0) hZ rfl A q (g := mkF m pc ls.toArray (.int x :: .int z :: .ref a :: st)) rfl rfl (C.dec hi hb)) hs hL' k
theorem wp_stoJ (C : Cx K l Z a0 EL nw y bytes maxL ret rm G B) {a : Addr} {vs vs' : List Value} {z : Int32} {x : Int64} {n : Nat} (j pc' i : Nat) (hi : B[j]? = some (pc, .lastore, 1)) (hp : pc + 1 = pc') (hL : L[i]? = some (a, true, .inr .long, vs)) (hz : z.toInt = n) (hn : n < vs.length)
    (hs : vs.set n (.long x) = vs') {L' : List Item} (hL' : L.set i (a, true, .inr .long, vs') = L') (k : Wp K cells slots L' pc' ls st) : Wp K cells slots L pc ls (.long x :: .int z :: .ref a :: st) := by
  subst hp
  exact wp_sto C hL hz hn rfl (fun p e s m args below meth c vm0 T locs cl hx hb hZ A q X => stJ X hx (s := s.setVm vm0) hZ rfl A q (g := mkF m pc ls.toArray (.long x :: .int z :: .ref a :: st)) rfl rfl (C.dec hi hb)) hs hL' k
theorem wp_stoC (C : Cx K l Z a0 EL nw y bytes maxL ret rm G B) {a : Addr} {vs vs' : List Value} {z x : Int32} {n : Nat} (j pc' i : Nat) (hi : B[j]? = some (pc, .castore, 1)) (hp : pc + 1 = pc') (hL : L[i]? = some (a, true, .inr .char, vs)) (hz : z.toInt = n) (hn : n < vs.length)
    (hs : vs.set n (.int (nar .char x)) = vs') {L' : List Item} (hL' : L.set i (a, true, .inr .char, vs') = L') (k : Wp K cells slots L' pc' ls st) : Wp K cells slots L pc ls (.int x :: .int z :: .ref a :: st) := by
  subst hp
  exact wp_sto C hL hz hn (fits_nar_char _) (fun p e s m args below meth c vm0 T locs cl hx hb hZ A q X => stC X hx (s := s.setVm vm0) hZ rfl A q (g := mkF m pc ls.toArray (.int x :: .int z :: .ref a :: st)) rfl rfl (C.dec hi hb)) hs hL' k
theorem wp_stoB (C : Cx K l Z a0 EL nw y bytes maxL ret rm G B) {a : Addr} {vs vs' : List Value} {z x : Int32} {n : Nat} (j pc' i : Nat) (hi : B[j]? = some (pc, .bastore, 1)) (hp : pc + 1 = pc') (hL : L[i]? = some (a, true, .inr .byte, vs)) (hz : z.toInt = n) (hn : n < vs.length)
    (hs : vs.set n (.int x.toInt8.toInt32) = vs') {L' : List Item} (hL' : L.set i (a, true, .inr .byte, vs') = L') (k : Wp K cells slots L' pc' ls st) : Wp K cells slots L pc ls (.int x :: .int z :: .ref a :: st) := by
  subst hp
  exact wp_sto C (pc' := pc + 1) (v := .int (nar .byte x)) hL hz hn (fits_nar_byte x) (fun p e s m args below meth c vm0 T locs cl hx hb hZ A q X => stB X hx (s := s.setVm vm0) hZ rfl A q (g := mkF m pc ls.toArray (.int x :: .int z :: .ref a :: st)) rfl rfl (C.dec hi hb)) hs hL' k
theorem wp_stoZ (C : Cx K l Z a0 EL nw y bytes maxL ret rm G B) {a : Addr} {vs vs' : List Value} {z x : Int32} {n : Nat} (j pc' i : Nat) (hi : B[j]? = some (pc, .bastore, 1)) (hp : pc + 1 = pc') (hL : L[i]? = some (a, true, .inr .boolean, vs)) (hz : z.toInt = n) (hn : n < vs.length)
    (hs : vs.set n (.int (x &&& 1)) = vs') {L' : List Item} (hL' : L.set i (a, true, .inr .boolean, vs') = L') (k : Wp K cells slots L' pc' ls st) : Wp K cells slots L pc ls (.int x :: .int z :: .ref a :: st) := by
  subst hp
  exact wp_sto C hL hz hn (fits_nar_bool _) (fun p e s m args below meth c vm0 T locs cl hx hb hZ A q X => stZ X hx (s := s.setVm vm0) hZ rfl A q (g := mkF m pc ls.toArray (.int x :: .int z :: .ref a :: st)) rfl rfl (C.dec hi hb)) hs hL' k
theorem wp_stoN (C : Cx K l Z a0 EL nw y bytes maxL ret rm G B) {a : Addr} {ty : FieldType} {vs vs' : List Value} {z : Int32} {n : Nat} (j pc' i : Nat) (hi : B[j]? = some (pc, .aastore, 1)) (hp : pc + 1 = pc') (hty : ty.isReference = true) (hL : L[i]? = some (a, true, .inr ty, vs)) (hz : z.toInt = n) (hn : n < vs.length)
    (hs : vs.set n .null = vs') {L' : List Item} (hL' : L.set i (a, true, .inr ty, vs') = L') (k : Wp K cells slots L' pc' ls st) : Wp K cells slots L pc ls (.null :: .int z :: .ref a :: st) := by
  subst hp
  have hft : fits ty .null = true := by cases ty <;> first | rfl | (cases hty)
  exact wp_sto C hL hz hn hft (fun p e s m args below meth c vm0 T locs cl hx hb hZ A q X => stR X hx (s := s.setVm vm0) hZ rfl A q hty (Or.inl rfl) (g := mkF m pc ls.toArray (.null :: .int z :: .ref a :: st)) rfl rfl (C.dec hi hb)) hs hL' k
/-! ends -/
theorem wp_leave (C : Cx K l Z a0 EL nw y bytes maxL ret rm G B) {v : Option Value} (hv : ret = none → v = none) (h1 : cells ≤ rm.cells) (h2 : slots ≤ rm.slots) (hG : G v L)
    (hs : ∀ (p : Program) (e : Env) (s : State) (m : MethodId) (args : Array Value) (below : List Frame) (meth : Method) (c : Code) (T : State) (locs : List Loc) (fs : List Frame), p.tables.exec = Jvm.exec → c.code = bytes → meth.sig.returnType = ret → Stand p l e rm s m args below meth c T locs cells slots →
      (∀ (f : JFrame) (acts : List Action), f.method = m → f.locked = none → f.entered = [] → (doReturn e (T.setTop f) acts v).1 = T.setFrames fs) → Steps p.tables e below (T.setTop (mkF m pc ls.toArray st)) (T.setFrames fs)) : Wp K cells slots L pc ls st := by
  obtain ⟨p, e, s, m, args, below, meth, c, F, rfl, hx, hb, hml, hret, hlk, hown, hnm, hEL, hB⟩ := C
  intro vm0 k0 T locs X hS hk hn hZ hF hg hH
  obtain ⟨fs, hr, hrun, hend, hw⟩ := X.leaveW hS hk (v := v) (fun q => hv (hret.symm.trans q)) hlk
  refine ⟨T.setFrames fs, _, hs p e _ m args below meth c T locs fs hx hb hret X hr, hrun, hend, v, locs, L, rfl, hG, (show Hp Z EL T.vm T.heap (L ++ F) from hH.at X hZ hEL), hF, fun q => State.WarmedH.trans (t := s.setVm vm0) (hn q) X.warmed, hg, hw.1, hw.2.1, hw.2.2.1, hw.2.2.2.mono h1 h2⟩
theorem wp_ret0 (C : Cx K l Z a0 EL nw y bytes maxL none rm G B) (j : Nat) (hi : B[j]? = some (pc, .return_, 1)) (h1 : cells ≤ rm.cells) (h2 : slots ≤ rm.slots) (hG : G none L) : Wp K cells slots L pc ls [] :=
  wp_leave C (fun _ => rfl) h1 h2 hG (fun p e s m args below meth c T locs fs hx hb hret X hr => X.returnOut hx hret (C.dec hi hb) hr)
theorem wp_retI (C : Cx K l Z a0 EL nw y bytes maxL (some .int) rm G B) {z : Int32} (j : Nat) (hi : B[j]? = some (pc, .ireturn, 1)) (h1 : cells ≤ rm.cells) (h2 : slots ≤ rm.slots) (hG : G (some (.int z)) L) : Wp K cells slots L pc ls (.int z :: st) :=
  wp_leave C (fun q => nomatch q) h1 h2 hG (fun p e s m args below meth c T locs fs hx hb hret X hr => retOut X hx hret rfl (Or.inl ⟨rfl, Or.inl rfl, z, rfl⟩) (C.dec hi hb) hr)
theorem wp_retJ (C : Cx K l Z a0 EL nw y bytes maxL (some .long) rm G B) {z : Int64} (j : Nat) (hi : B[j]? = some (pc, .lreturn, 1)) (h1 : cells ≤ rm.cells) (h2 : slots ≤ rm.slots) (hG : G (some (.long z)) L) : Wp K cells slots L pc ls (.long z :: st) :=
  wp_leave C (fun q => nomatch q) h1 h2 hG (fun p e s m args below meth c T locs fs hx hb hret X hr => retOut X hx hret rfl (Or.inr (Or.inl ⟨rfl, rfl, z, rfl⟩)) (C.dec hi hb) hr)
theorem wp_retN {t : FieldType} (C : Cx K l Z a0 EL nw y bytes maxL (some t) rm G B) {z z' : Int32} (j : Nat) (hi : B[j]? = some (pc, .ireturn, 1)) (ht : t = .boolean ∨ t = .byte ∨ t = .char ∨ t = .short) (hz : nar t z = z') (h1 : cells ≤ rm.cells) (h2 : slots ≤ rm.slots) (hG : G (some (.int z')) L) : Wp K cells slots L pc ls (.int z :: st) := by
  subst hz
  exact wp_leave C (fun q => nomatch q) h1 h2 hG (fun p e s m args below meth c T locs fs hx hb hret X hr => retN X hx hret ht (C.dec hi hb) hr)
theorem wp_retA {t : FieldType} (C : Cx K l Z a0 EL nw y bytes maxL (some t) rm G B) {v : Value} (j : Nat) (hi : B[j]? = some (pc, .areturn, 1)) (ht : t.isReference = true) (hv : v.isRef = true) (h1 : cells ≤ rm.cells) (h2 : slots ≤ rm.slots) (hG : G (some v) L) : Wp K cells slots L pc ls (v :: st) :=
  wp_leave C (fun q => nomatch q) h1 h2 hG (fun p e s m args below meth c T locs fs hx hb hret X hr => retOut X hx hret (by cases t <;> first | (cases ht; done) | (cases v <;> first | (cases hv; done) | rfl)) (Or.inr (Or.inr (Or.inr (Or.inr ⟨rfl, ht, hv⟩)))) (C.dec hi hb) hr)
/-! calls -/
theorem ct_back {y' : MethodName} {by' : ByteArray} {ml : Nat} {rt : Option FieldType} {rm' : Room} {as : List Value} {L0 F : List Item} {G' : Option Value → List Item → Prop} {R : Room} {p : Program} {e : Env} {below : List Frame} {s : State} {args : Array Value} {vm0 : Vm} {len W : Nat} {h : Heap}
    (hM : Ct l Z EL nw y' by' ml rt [] rm' as L0 G') (hZ : Z.Warmed39 vm0) (wc : (Cond.code y' by' ml rt).before a0 Z = true) (wz : (Cond.initialized y'.cls).before a0 Z = true) (hf : rm'.frames + 1 ≤ R.frames) (hl : W + (ml + 11) + rm'.locals ≤ R.locals) (hEL : EW Z a0 EL) (H : Hp Z EL vm0 h (L0 ++ F)) :
    BackS l R p e below (s.setVm vm0) args y' len W (fun A a => a = as.toArray ∧ A.U.heap = h ∧ A.cells + rm'.cells ≤ R.cells ∧ A.slots + rm'.slots ≤ R.slots)
      (fun A _ v C => ∃ (Lc : List Loc) (L' : List Item), G' v L' ∧ Hp Z EL C.U.vm C.U.heap (L' ++ F) ∧ Fr Z.heap.size Lc ∧ (nw = true → A.U.WarmedH C.U.vm) ∧ C.locs = A.locs ++ Lc ∧ C.cells = A.cells + rm'.cells ∧ C.slots = A.slots + rm'.slots) :=
  BackS.of_freeW (bytes := by') (maxL := ml) (ret := rt) (E := fun _ first o t L k n => k = rm'.cells ∧ n = rm'.slots ∧ ∃ v L', o = .returned v ∧ G' v L' ∧ Hp Z EL t.vm t.heap (L' ++ F) ∧ Fr Z.heap.size L ∧ (nw = true → first.WarmedH t.vm)) (hM F) hf hl
    (fun m meth c A a Y hp => have hU : Z.Warmed39 A.U.vm := wtrans (s := s.setVm vm0) hZ Y.warmed
      ⟨by show (Cond.and _ .tt).before a A.U = true; rw [Cond.before_and, mv hU wc]; rfl, mv hU wc, mv hU wz, hp.2.2.1, hp.2.2.2⟩)
    (fun m meth c A a g mk Y hp => ⟨hp.1, wtrans (s := s.setVm vm0) hZ Y.warmed, by
      show Hp Z EL A.U.vm A.U.heap (L0 ++ F)
      rw [hp.2.1]; exact H.at Y hZ hEL⟩) (fun _ _ _ _ _ _ _ _ _ => trivial)
    (fun _ _ _ _ ⟨v, Lc, L', h1, h2, h3, h4, h5, h6, h7⟩ => ⟨Lc, _, _, h7, rfl, rfl, v, L', h1, h2, h3, h4, h5⟩)
    (fun m meth c A a g mk v t Lc k n Y hp _ _ ⟨e1, e2, v', L', e3, e4, e5, e6, e7⟩ => by
      cases e3; subst e1 e2
      exact ⟨Lc, L', e4, e5, e6, e7, rfl, rfl, rfl⟩)
/-- what a call's law hands out, joined with the rest of the walk -/
theorem wp_call (C : Cx K l Z a0 EL nw y bytes maxL ret rm G B) {y' : MethodName} {by' : ByteArray} {ml : Nat} {rt : Option FieldType} {rm' : Room} {as : List Value} {L0 L1 : List Item} {G' : Option Value → List Item → Prop} {len W : Nat} {rest : List Value}
    (hM : Ct l Z EL nw y' by' ml rt [] rm' as L0 G') (wc : (Cond.code y' by' ml rt).before a0 Z = true) (wz : (Cond.initialized y'.cls).before a0 Z = true) (hf : rm'.frames + 1 ≤ rm.frames) (hl : W + (ml + 11) + rm'.locals ≤ rm.locals) (hL : L = L0 ++ L1)
    (hs : ∀ (p : Program) (e : Env) (s : State) (m : MethodId) (args : Array Value) (below : List Frame) (meth : Method) (c : Code) (vm0 : Vm) (T : State) (locs : List Loc) (Pre : Pt → Array Value → Prop) (Post : Pt → Array Value → Option Value → Pt → Prop), p.tables.exec = Jvm.exec → c.code = bytes → c.maxLocals = maxL → (s.setVm vm0).vm.findClass y.cls = some m.cls → Z.Warmed39 vm0 → (∀ x ∈ L, It Z T.heap x) →
      Stand p l e rm (s.setVm vm0) m args below meth c T locs cells slots → BackS l rm p e below (s.setVm vm0) args y' len W Pre Post → (∀ vm₁, (s.setVm vm0).WarmedH vm₁ → Pre ⟨T.setVm vm₁, locs, cells, slots⟩ as.toArray) →
      ∃ (v : Option Value) (vm₁ : Vm) (D : Pt), (s.setVm vm0).WarmedH vm₁ ∧ Stand p l e rm ((s.setVm vm0).setVm D.U.vm) m args below meth c D.U D.locs D.cells D.slots ∧ (s.setVm vm0).Since D.U.vm D.U.heap.size ∧ T.heap.size ≤ D.U.heap.size ∧ Post ⟨T.setVm vm₁, locs, cells, slots⟩ as.toArray v D ∧
        Steps p.tables e below (T.setTop (mkF m pc ls.toArray st)) (D.U.setTop (mkF m (pc + len) ls.toArray (v.toList ++ rest))))
    {cells' slots' pc' : Nat} (hpc : pc + len = pc') (hc : cells + rm'.cells = cells') (hsl : slots + rm'.slots = slots') (hc' : cells' ≤ rm.cells) (hs' : slots' ≤ rm.slots) (k : ∀ v L', G' v L' → Wp K cells' slots' (L' ++ L1) pc' ls (v.toList ++ rest)) : Wp K cells slots L pc ls st := by
  subst hpc hc hsl hL
  obtain ⟨p, e, s, m, args, below, meth, c, F, rfl, hx, hb, hml, hret, hlk, hown, hnm, hEL, hB⟩ := C
  intro vm0 k0 T locs X hS hk hn hZ hF hg hH
  obtain ⟨v, vm₁, ⟨U, Lo, kc, ks⟩, hW1, X', hS', hgr, ⟨Lc, L', hG', hH', hFr, hn', e1, e2, e3⟩, hst⟩ := hs p e s m args below meth c vm0 T locs _ _ hx hb hml (by rw [show (s.setVm vm0).vm = vm0 from rfl, hS.1.alike.findClass]; exact hown) hZ (fun x hx => hH.2.2.1 x (List.mem_append_left F hx)) X
    (ct_back (len := len) (F := L1 ++ F) hM hZ wc wz hf hl hEL (by rw [← List.append_assoc]; exact hH)) (fun vm₁ _ => ⟨rfl, rfl, hc', hs'⟩)
  dsimp only [Pt.U, Pt.locs, Pt.cells, Pt.slots] at X' hS' hgr hH' hn' e1 e2 e3 hst
  subst e1 e2 e3
  obtain ⟨t, o, h1, h2⟩ := k v L' hG' U.vm U.heap.size U (locs ++ Lc) X' (hS.trans hS' (Nat.le_trans hk hgr)) (Nat.le_refl _) (fun q => State.WarmedH.trans (t := s.setVm vm0) (hn q) (State.WarmedH.trans (t := T.setVm vm₁) hW1 (hn' q))) (State.Warmed39.trans (t := s.setVm vm0) hZ hS'.1) (Fr.app hF hFr) (Nat.le_trans hg hgr) (by rw [List.append_assoc]; exact hH')
  exact ⟨t, o, hst.trans h1, h2⟩
theorem sz {ls : List Slot} {c : Code} (hml : c.maxLocals = maxL) (h : ls.length = maxL) : ls.toArray.size = c.maxLocals := by rw [hml, ← h]; simp
theorem wp_init (C : Cx K l Z a0 EL nw y bytes maxL ret rm G B) {y' : MethodName} {by' : ByteArray} {ml ix : Nat} {rm' : Room} {a : Addr} {al rest : List Value} {ps : List FieldType} {L0 L1 : List Item} {G' : Option Value → List Item → Prop} {W : Nat} (j pc' : Nat)
    (hM : Ct l Z EL nw y' by' ml none [] rm' (.ref a :: al) L0 G') (hi : B[j]? = some (pc, .invokespecial ix, 3)) (hpc : pc + 3 = pc') (lk : (Cond.methodLink y.cls ix y').before a0 Z = true) (wi : (Cond.instanceMethod y').before a0 Z = true) (wc : (Cond.code y' by' ml none).before a0 Z = true) (wz : (Cond.initialized y'.cls).before a0 Z = true)
    (hn1 : y'.name = "<init>") (hy : y'.cls ≠ "java/lang/invoke/MethodHandle" ∧ y'.cls ≠ "java/lang/invoke/VarHandle") (hd : parseMethodDescriptor y'.desc = some ⟨ps, none⟩) (hlen : al.length = ps.length) (hst : st = al.reverse ++ .ref a :: rest) (hW : (rest.map fun v => v.category).sum = W) (hls : ls.length = maxL)
    (hf : rm'.frames + 1 ≤ rm.frames) (hl : W + (ml + 11) + rm'.locals ≤ rm.locals) (hL : L = L0 ++ L1) {cells' slots' : Nat} (hc : cells + rm'.cells = cells') (hsl : slots + rm'.slots = slots') (hc' : cells' ≤ rm.cells) (hs' : slots' ≤ rm.slots) (k : ∀ v L', G' v L' → Wp K cells' slots' (L' ++ L1) pc' ls (v.toList ++ rest)) : Wp K cells slots L pc ls st := by
  refine wp_call C (len := 3) (W := W) hM wc wz hf hl hL (fun p e s m args below meth c vm0 T locs Pre Post hx hb hml hown hZ hI X hK hp => ?_) hpc hc hsl hc' hs' k
  exact X.specialBackS hx hn1 hown (mvT (s := s.setVm vm0) hZ lk) (mvT (s := s.setVm vm0) hZ wi) (mvT (s := s.setVm vm0) hZ wc) hy hK (g := mkF m pc ls.toArray st) rfl (sz hml hls) (Steps.refl _) (a := a) (argsL := al) (rest := rest) (lenOf hd hlen) hst (by show 2 * 0 + _ ≤ _; omega) (C.dec hi hb) hp
theorem wp_static (C : Cx K l Z a0 EL nw y bytes maxL ret rm G B) {y' : MethodName} {by' : ByteArray} {ml ix : Nat} {rt : Option FieldType} {rm' : Room} {al rest : List Value} {ps : List FieldType} {L0 L1 : List Item} {G' : Option Value → List Item → Prop} {W : Nat} (j pc' : Nat)
    (hM : Ct l Z EL nw y' by' ml rt [] rm' al L0 G') (hi : B[j]? = some (pc, .invokestatic ix, 3)) (hpc : pc + 3 = pc') (lk : (Cond.methodLink y.cls ix y').before a0 Z = true) (ws : (Cond.static y').before a0 Z = true) (wc : (Cond.code y' by' ml rt).before a0 Z = true) (wz : (Cond.initialized y'.cls).before a0 Z = true)
    (hy : y'.cls ≠ "java/lang/invoke/MethodHandle" ∧ y'.cls ≠ "java/lang/invoke/VarHandle") (hd : parseMethodDescriptor y'.desc = some ⟨ps, rt⟩) (hlen : al.length = ps.length) (hst : st = al.reverse ++ rest) (hW : (rest.map fun v => v.category).sum = W) (hls : ls.length = maxL)
    (hf : rm'.frames + 1 ≤ rm.frames) (hl : W + (ml + 11) + rm'.locals ≤ rm.locals) (hL : L = L0 ++ L1) {cells' slots' : Nat} (hc : cells + rm'.cells = cells') (hsl : slots + rm'.slots = slots') (hc' : cells' ≤ rm.cells) (hs' : slots' ≤ rm.slots) (k : ∀ v L', G' v L' → Wp K cells' slots' (L' ++ L1) pc' ls (v.toList ++ rest)) : Wp K cells slots L pc ls st := by
  refine wp_call C (len := 3) (W := W) hM wc wz hf hl hL (fun p e s m args below meth c vm0 T locs Pre Post hx hb hml hown hZ hI X hK hp => ?_) hpc hc hsl hc' hs' k
  exact callSS X hx hown (mvT (s := s.setVm vm0) hZ lk) (mvT (s := s.setVm vm0) hZ ws) (mvT (s := s.setVm vm0) hZ wz) (mvT (s := s.setVm vm0) hZ wc) hy hK (g := mkF m pc ls.toArray st) rfl (sz hml hls) (argsL := al) (rest := rest) (lenOf hd hlen) hst (by show 2 * 0 + _ ≤ _; omega) (C.dec hi hb) hp
theorem It.exa {h : Heap} {a : Addr} {w : Bool} {Kc : Kd} {vs : List Value} (I : It Z h (a, w, .inl Kc, vs)) : Exa Z h a Kc.1 := I.1
theorem wp_virtual (C : Cx K l Z a0 EL nw y bytes maxL ret rm G B) {y' z' : MethodName} {by' : ByteArray} {ml ix : Nat} {rt : Option FieldType} {rm' : Room} {a : Addr} {w : Bool} {Kc : Kd} {vs : List Value} {al rest : List Value} {ps : List FieldType} {L0 L1 : List Item} {G' : Option Value → List Item → Prop} {W : Nat} (j pc' i : Nat)
    (hM : Ct l Z EL nw z' by' ml rt [] rm' (.ref a :: al) L0 G') (hi : B[j]? = some (pc, .invokevirtual ix, 3)) (hpc : pc + 3 = pc') (hR : L[i]? = some (a, w, .inl Kc, vs)) (lk : (Cond.methodLink y.cls ix y').before a0 Z = true) (wd : (Cond.declares y').before a0 Z = true) (wnf : ∀ s : State, Z.Warmed39 s.vm → NotFace s y') (wsel : (Cond.selects Kc.1 y' z').before a0 Z = true) (wi : (Cond.instanceMethod z').before a0 Z = true) (wc : (Cond.code z' by' ml rt).before a0 Z = true) (wz : (Cond.initialized z'.cls).before a0 Z = true)
    (hy : y'.cls ≠ "java/lang/invoke/MethodHandle" ∧ y'.cls ≠ "java/lang/invoke/VarHandle") (hd : parseMethodDescriptor y'.desc = some ⟨ps, rt⟩) (hlen : al.length = ps.length) (hst : st = al.reverse ++ .ref a :: rest) (hW : (rest.map fun v => v.category).sum = W) (hls : ls.length = maxL)
    (hf : rm'.frames + 1 ≤ rm.frames) (hl : W + (ml + 11) + rm'.locals ≤ rm.locals) (hL : L = L0 ++ L1) {cells' slots' : Nat} (hc : cells + rm'.cells = cells') (hsl : slots + rm'.slots = slots') (hc' : cells' ≤ rm.cells) (hs' : slots' ≤ rm.slots) (k : ∀ v L', G' v L' → Wp K cells' slots' (L' ++ L1) pc' ls (v.toList ++ rest)) : Wp K cells slots L pc ls st := by
  refine wp_call C (len := 3) (W := W) hM wc wz hf hl hL (fun p e s m args below meth c vm0 T locs Pre Post hx hb hml hown hZ hI X hK hp => ?_) hpc hc hsl hc' hs' k
  obtain ⟨cq, kq, qa, qb, qc⟩ := isOf (s := s.setVm vm0) (T := T) hZ rfl (It.exa (hI _ (List.mem_of_getElem? hR)))
  exact X.virtualBackS hx hown (mvT (s := s.setVm vm0) hZ lk) (mvT (s := s.setVm vm0) hZ wd) (wnf (s.setVm vm0) hZ) (mvT (s := s.setVm vm0) hZ wsel) (mvT (s := s.setVm vm0) hZ wi) hy hK qa qc (g := mkF m pc ls.toArray st) rfl (sz hml hls) (Steps.refl _) (argsL := al) (rest := rest) (lenOf hd hlen) hst (by show 2 * 0 + _ ≤ _; omega) (C.dec hi hb) hp
theorem nf_self {Cn : String} {y' : MethodName} (w : (Cond.selects Cn y' y').before a0 Z = true) : ∀ s : State, Z.Warmed39 s.vm → NotFace s y' := fun s hZ => notFace_of_selects (args := #[]) (mvT hZ w)
theorem wp_private (C : Cx K l Z a0 EL nw y bytes maxL ret rm G B) {y' : MethodName} {by' : ByteArray} {ml ix : Nat} {rt : Option FieldType} {rm' : Room} {a : Addr} {w : Bool} {Kc : Kd} {vs : List Value} {al rest : List Value} {ps : List FieldType} {L0 L1 : List Item} {G' : Option Value → List Item → Prop} {W : Nat} (j pc' i : Nat)
    (hM : Ct l Z EL nw y' by' ml rt [] rm' (.ref a :: al) L0 G') (hi : B[j]? = some (pc, .invokevirtual ix, 3)) (hpc : pc + 3 = pc') (hR : L[i]? = some (a, w, .inl Kc, vs)) (lk : (Cond.methodLink y.cls ix y').before a0 Z = true) (wi : (Cond.instanceMethod y').before a0 Z = true) (wsel : (Cond.selects y'.cls y' y').before a0 Z = true) (wp : (Cond.privateMethod y').before a0 Z = true) (wc : (Cond.code y' by' ml rt).before a0 Z = true) (wz : (Cond.initialized y'.cls).before a0 Z = true)
    (hy : y'.cls ≠ "java/lang/invoke/MethodHandle" ∧ y'.cls ≠ "java/lang/invoke/VarHandle") (hd : parseMethodDescriptor y'.desc = some ⟨ps, rt⟩) (hlen : al.length = ps.length) (hst : st = al.reverse ++ .ref a :: rest) (hW : (rest.map fun v => v.category).sum = W) (hls : ls.length = maxL)
    (hf : rm'.frames + 1 ≤ rm.frames) (hl : W + (ml + 11) + rm'.locals ≤ rm.locals) (hL : L = L0 ++ L1) {cells' slots' : Nat} (hc : cells + rm'.cells = cells') (hsl : slots + rm'.slots = slots') (hc' : cells' ≤ rm.cells) (hs' : slots' ≤ rm.slots) (k : ∀ v L', G' v L' → Wp K cells' slots' (L' ++ L1) pc' ls (v.toList ++ rest)) : Wp K cells slots L pc ls st := by
  refine wp_call C (len := 3) (W := W) hM wc wz hf hl hL (fun p e s m args below meth c vm0 T locs Pre Post hx hb hml hown hZ hI X hK hp => ?_) hpc hc hsl hc' hs' k
  obtain ⟨cq, q1, q2⟩ := (It.exa (hI _ (List.mem_of_getElem? hR))).cell
  exact X.privateBackS hx hown (mvT (s := s.setVm vm0) hZ lk) (mvT (s := s.setVm vm0) hZ wi) (mvT (s := s.setVm vm0) hZ wsel) (Cond.privateMethod_at (mvP (s := s.setVm vm0) hZ wp (args := #[]))) (mvT (s := s.setVm vm0) hZ wc) hy hK (g := mkF m pc ls.toArray st) rfl (sz hml hls) (Steps.refl _) (a := a) q1 q2 (argsL := al) (rest := rest) (lenOf hd hlen) hst (by show 2 * 0 + _ ≤ _; omega) (C.dec hi hb) hp
/-- Object's constructor -/
theorem wp_initO (C : Cx K l Z a0 EL nw y bytes maxL ret rm G B) {ix : Nat} {a : Addr} {W : Nat} (j pc' : Nat) (hi : B[j]? = some (pc, .invokespecial ix, 3)) (hp : pc + 3 = pc') (w1 : (Cond.methodLink y.cls ix Lib.objectInit).before a0 Z = true) (w2 : (Cond.instanceMethod Lib.objectInit).before a0 Z = true) (w3 : (Cond.code Lib.objectInit ⟨#[0xb1]⟩ 1 none).before a0 Z = true)
    (hf : 1 ≤ rm.frames) (hW : (st.map fun v => v.category).sum = W) (hl : W + 12 ≤ rm.locals) (hls : ls.length = maxL) (k : Wp K cells slots L pc' ls st) : Wp K cells slots L pc ls (.ref a :: st) := by
  subst hp
  exact wp_step C (fun p e s m args below meth c vm0 T locs F hx hb hml hown hZ hH X => initO X hx (s := s.setVm vm0) hZ hown w1 w2 w3 rfl (g := mkF m pc ls.toArray (.ref a :: st)) rfl (sz hml hls) rfl (C.dec hi hb) hf (W := W) (by show 2 * 0 + _ ≤ _; omega) hl) k
end Rules
end Jvm.Wk
namespace Jvm.Wk
open Jvm.RoadKit
/-! sums within bounds -/
theorem one32 : (1 : Int32).toInt = 1 := rfl
theorem zero32 : (0 : Int32).toInt = 0 := rfl
theorem addI {x z : Int32} {a b : Int} (hx : x.toInt = a) (hz : z.toInt = b) (h1 : -2147483648 ≤ a + b := by omega) (h2 : a + b < 2147483648 := by omega) : (x + z).toInt = a + b := by
  have h := c_iadd x z
  have r := rng32 (x + z)
  generalize x + z = s at *
  omega
theorem subI {x z : Int32} {a b : Int} (hx : x.toInt = a) (hz : z.toInt = b) (h1 : -2147483648 ≤ a - b := by omega) (h2 : a - b < 2147483648 := by omega) : (x - z).toInt = a - b := by
  have h := c_isub x z
  have r := rng32 (x - z)
  generalize x - z = s at *
  omega
theorem mulI {x z : Int32} {a b : Int} (hx : x.toInt = a) (hz : z.toInt = b) (h1 : -2147483648 ≤ a * b) (h2 : a * b < 2147483648) : (x * z).toInt = a * b := by
  have h := c_imul x z
  have r := rng32 (x * z)
  rw [hx, hz] at h
  generalize x * z = s at *
  generalize a * b = c at *
  omega
theorem ushI {x : Int32} {a : Int} (hx : x.toInt = a) (h : 0 ≤ a) : (ush x 1).toInt = a / 2 := by
  have e : (ush x 1).toInt = (x.toInt % 4294967296) / (2 ^ 1 : Nat) := c_iushr x 1 1 (by decide) (by decide)
  have r := rng32 x
  rw [e, hx]
  simp only [Nat.pow_one]
  omega
end Jvm.Wk
namespace Jvm.Wk
open Jvm.Free.XT (cmpL)
/-! PLAIN: compares, insertion, sorting by permutation and order, segments of a list of times. -/
theorem cmpL_ge {x z : Int64} (h : (0 : Int32).toInt ≤ (cmpL x z).toInt) : z ≤ x := by
  unfold cmpL at h
  split at h
  · rename_i q; exact Int64.le_of_lt q
  · split at h
    · rename_i q; subst q; exact Int64.le_refl _
    · exact absurd h (by decide)
theorem cmpL_lt {x z : Int64} (h : (cmpL x z).toInt < (0 : Int32).toInt) : x < z := by
  unfold cmpL at h
  split at h
  · exact absurd h (by decide)
  · split at h
    · exact absurd h (by decide)
    · rename_i q r
      rw [Int64.lt_iff_toInt_lt] at q ⊢
      have : x.toInt ≠ z.toInt := fun e => r (Int64.toInt_inj.mp e)
      omega
theorem cmpL_gt {x z : Int64} (h : (0 : Int32).toInt < (cmpL x z).toInt) : z < x := by
  unfold cmpL at h
  split at h
  · assumption
  · split at h <;> exact absurd h (by decide)
theorem cmpL_le {x z : Int64} (h : (cmpL x z).toInt ≤ (0 : Int32).toInt) : x ≤ z := by
  unfold cmpL at h
  split at h
  · exact absurd h (by decide)
  · rename_i q; exact Int64.not_lt.mp q
theorem ins_sorted {u v : List Int64} {x : Int64} (hs : (u ++ v).Pairwise (· ≤ ·)) (h1 : ∀ y ∈ u, y ≤ x) (h2 : ∀ y ∈ v, x ≤ y) : (u ++ x :: v).Pairwise (· ≤ ·) := by
  rw [List.pairwise_append] at hs ⊢
  refine ⟨hs.1, List.pairwise_cons.mpr ⟨h2, hs.2.1⟩, fun a ha b hb => ?_⟩
  rcases List.mem_cons.mp hb with rfl | hb
  · exact h1 a ha
  · exact hs.2.2 a ha b hb
theorem last_le {u v : List Int64} {z x : Int64} (hs : ((u ++ [z]) ++ v).Pairwise (· ≤ ·)) (hz : z ≤ x) : ∀ y ∈ u ++ [z], y ≤ x := by
  intro y hy
  have h1 := (List.pairwise_append.mp hs).1
  rcases List.mem_append.mp hy with q | q
  · have := (List.pairwise_append.mp h1).2.2 y q z (by simp)
    exact Int64.le_trans this hz
  · simp at q; subst q; exact hz
theorem rep_set {α : Type} {n k : Nat} {x : α} : (List.replicate n x).set k x = List.replicate n x := by
  apply List.ext_getElem?
  intro i
  rw [List.getElem?_set]
  split
  · rename_i e; subst e
    rw [List.getElem?_replicate]; split <;> simp_all
  · rfl
theorem rep_get {α : Type} {n k : Nat} {x : α} (h : k < n) : (List.replicate n x)[k]? = some x := by simp [h]
theorem set_mid {u' : List Int64} {p h x : Int64} {r : List Int64} : ((u' ++ [p]) ++ h :: r).set (u'.length + 1) x = (u' ++ [p]) ++ x :: r := by
  rw [show u'.length + 1 = (u' ++ [p]).length by simp]
  simp
theorem perm_ins (u v q : List Int64) (x : Int64) : ((u ++ x :: v) ++ q).Perm ((u ++ v) ++ x :: q) := by
  simp only [List.append_assoc, List.cons_append]
  exact List.Perm.append_left u List.perm_middle.symm
/-- sixteen places, the first of them filled -/
def evs (xs : List Int64) : List Value := (xs ++ List.replicate (16 - xs.length) 0).map Value.long
theorem evs_len {xs : List Int64} (h : xs.length ≤ 16) : (evs xs).length = 16 := by simp [evs]; omega
theorem evs_set {xs : List Int64} {e : Int64} (h : xs.length < 16) : (evs xs).set xs.length (.long e) = evs (xs ++ [e]) := by
  unfold evs
  obtain ⟨n, hn⟩ : ∃ n, 16 - xs.length = n + 1 := ⟨15 - xs.length, by omega⟩
  have h2 : 16 - (xs ++ [e]).length = n := by simp; omega
  rw [hn, h2, List.replicate_succ, ← List.map_set]
  simp
theorem evs_get {xs : List Int64} {n : Nat} {v : Int64} (h : xs[n]? = some v) : (evs xs)[n]? = some (.long v) := by
  obtain ⟨hl, rfl⟩ := List.getElem?_eq_some_iff.mp h
  unfold evs
  rw [List.getElem?_map, List.getElem?_append_left hl, List.getElem?_eq_getElem hl]
  rfl
def evV (t c : Int32) : Int64 := (shlL ((t : Int32).toInt64 + 1000000000) 32) ||| (c : Int32).toInt64
def timeV (e : Int64) : Int32 := (ushL e 32 - 1000000000 : Int64).toInt32
/-- eight places of ints, the first of them filled -/
def seg8 (xs : List Int32) : List Value := (xs ++ List.replicate (8 - xs.length) 0).map Value.int
theorem seg8_len {xs : List Int32} (h : xs.length ≤ 8) : (seg8 xs).length = 8 := by simp [seg8]; omega
theorem seg8_set {xs : List Int32} {e : Int32} (h : xs.length < 8) : (seg8 xs).set xs.length (.int e) = seg8 (xs ++ [e]) := by
  unfold seg8
  obtain ⟨n, hn⟩ : ∃ n, 8 - xs.length = n + 1 := ⟨7 - xs.length, by omega⟩
  have h2 : 8 - (xs ++ [e]).length = n := by simp; omega
  rw [hn, h2, List.replicate_succ, ← List.map_set]
  simp
theorem seg8_get {xs : List Int32} {n : Nat} {v : Int32} (h : xs[n]? = some v) : (seg8 xs)[n]? = some (.int v) := by
  obtain ⟨hl, rfl⟩ := List.getElem?_eq_some_iff.mp h
  unfold seg8
  rw [List.getElem?_map, List.getElem?_append_left hl, List.getElem?_eq_getElem hl]
  rfl
/-- the segments that a list of times marks out -/
def seg : List Int32 → List (Int32 × Int32)
  | a :: b :: r => if a = b then seg (b :: r) else (a, b) :: seg (b :: r)
  | _ => []
theorem seg_len : ∀ (l : List Int32), (seg l).length + 1 ≤ l.length ∨ l = []
  | [] => Or.inr rfl
  | [a] => Or.inl (by simp [seg])
  | a :: b :: r => by
    rcases seg_len (b :: r) with h | h
    · refine Or.inl ?_
      simp only [seg]
      split
      · simp only [List.length_cons] at *; omega
      · simp only [List.length_cons] at *; omega
    · cases h
end Jvm.Wk
namespace Jvm.Wk
open Jvm.RoadKit
theorem ush_nonneg {x y : Int32} (h : 0 ≤ x.toInt) : 0 ≤ (ush x y).toInt := by
  by_cases k : y.toBitVec.toNat % 32 = 0
  · have e : (y &&& 31) = 0 := by
      have h31 : (y &&& 31).toInt = y.toInt % (2 ^ 5 : Nat) := c_mask y 31 5 (by decide) (by decide)
      have e1 : y.toInt % 32 = 0 := by
        have : y.toInt = y.toBitVec.toInt := rfl
        rw [this, BitVec.toInt_eq_toNat_cond]
        split <;> omega
      apply Int32.toInt_inj.mp
      rw [h31]
      simpa using e1
    unfold ush
    rw [e]
    have : (x.toUInt32 >>> (0 : Int32).toUInt32).toInt32 = x := by
      have e2 : ((0 : Int32).toUInt32) = 0 := rfl
      rw [e2]
      have : x.toUInt32 >>> (0 : UInt32) = x.toUInt32 := by
        apply UInt32.toNat_inj.mp
        simp
      rw [this]; rfl
    rw [this]; exact h
  · have := c_iushr x y (y.toBitVec.toNat % 32) rfl (by omega)
    unfold ush
    rw [this]
    have h2 : (0 : Int) < ((2 ^ (y.toBitVec.toNat % 32) : Nat) : Int) := by
      have := Nat.two_pow_pos (y.toBitVec.toNat % 32)
      omega
    exact Int.ediv_nonneg (by omega) (by omega)
theorem ush1 {x : Int32} (h : 0 ≤ x.toInt) : (ush x 1).toInt = x.toInt / 2 := by
  have := c_iushr x 1 1 (by decide) (by decide)
  unfold ush
  rw [this]
  have r := rng32 x
  simp only [Nat.pow_one]
  omega
theorem num1 {a b s : Int} (r1 : -9223372036854775808 ≤ s) (r2 : s < 9223372036854775808) (h : (s - (a + b)) % 18446744073709551616 = 0) (h1 : -9223372036854775808 ≤ a + b) (h2 : a + b < 9223372036854775808) : s = a + b := by omega
theorem evV_toInt {t c : Int32} (h1 : -1000000000 ≤ t.toInt) (h2 : t.toInt ≤ 1000000000) (h3 : 0 ≤ c.toInt) (h4 : c.toInt < 16) : (evV t c).toInt = (t.toInt + 1000000000) * 4294967296 + c.toInt := by
  have e0 := c_i2l t
  have c0 := c_i2l c
  have k1 : (1000000000 : Int64).toInt = 1000000000 := by decide +kernel
  have k2 : ((2 ^ 32 : Nat) : Int) = 4294967296 := by decide +kernel
  unfold evV
  generalize t.toInt64 = T at *
  generalize c.toInt64 = D at *
  have e1 := c_ladd T 1000000000
  rw [k1] at e1
  have r1 := rng64 (T + 1000000000)
  generalize T + 1000000000 = A at *
  have e2 : A.toInt = t.toInt + 1000000000 := by omega
  have e3 : ((shlL A 32).toInt - A.toInt * (2 ^ 32 : Nat)) % 18446744073709551616 = 0 := c_lshl A 32 32 (by decide)
  rw [k2, e2] at e3
  have r2 := rng64 (shlL A 32)
  generalize shlL A 32 = S at *
  have e5 : S.toInt = (t.toInt + 1000000000) * 4294967296 := by omega
  have e6 := c_orL S D 32 (by decide) 4294967296 k2.symm (by rw [e5]; exact Int.mul_emod_left _ _) (by omega) (by omega)
  have r3 := rng64 (S ||| D)
  generalize S ||| D = O at *
  have := num1 r3.1 r3.2 e6 (by omega) (by omega)
  omega
theorem timeV_evV {t c : Int32} (h1 : -1000000000 ≤ t.toInt) (h2 : t.toInt ≤ 1000000000) (h3 : 0 ≤ c.toInt) (h4 : c.toInt < 16) : timeV (evV t c) = t := by
  have e := evV_toInt h1 h2 h3 h4
  generalize evV t c = E at *
  have e1 : (ushL E 32).toInt = (E.toInt % 18446744073709551616) / (2 ^ 32 : Nat) := c_lushr E 32 32 (by decide) (by decide)
  have k2 : ((2 ^ 32 : Nat) : Int) = 4294967296 := by decide +kernel
  have k1 : (1000000000 : Int64).toInt = 1000000000 := by decide +kernel
  rw [k2, e] at e1
  unfold timeV
  generalize ushL E 32 = U at *
  have e3 := c_lsub U 1000000000
  rw [k1] at e3
  have r := rng64 (U - 1000000000)
  generalize U - 1000000000 = M at *
  have e4 := c_l2i M
  have r2 := rng32 M.toInt32
  generalize M.toInt32 = m at *
  apply Int32.toInt_inj.mp
  omega
theorem low_evV {t c : Int32} (h1 : -1000000000 ≤ t.toInt) (h2 : t.toInt ≤ 1000000000) (h3 : 0 ≤ c.toInt) (h4 : c.toInt < 16) : (evV t c).toInt32.toInt = c.toInt := by
  have e := evV_toInt h1 h2 h3 h4
  generalize evV t c = E at *
  have e4 := c_l2i E
  have r2 := rng32 E.toInt32
  generalize E.toInt32 = m at *
  omega
/-- the events of a list of times, numbered from c on -/
def evl : List Int32 → Int32 → List Int64
  | [], _ => []
  | t :: r, c => evV t c :: evl r (c + 1)
def Span (t : Int32) : Prop := -1000000000 ≤ t.toInt ∧ t.toInt ≤ 1000000000
theorem evl_mem : ∀ (ts : List Int32) (c : Int32), (∀ t ∈ ts, Span t) → 0 ≤ c.toInt → c.toInt + ts.length ≤ 16 → ∀ e ∈ evl ts c, ∃ t c', e = evV t c' ∧ Span t ∧ 0 ≤ c'.toInt ∧ c'.toInt < 16
  | [], _, _, _, _, e, he => by simp [evl] at he
  | t :: r, c, hs, h0, hl, e, he => by
    simp only [evl, List.mem_cons] at he
    simp only [List.length_cons] at hl
    have h1 : (c + 1).toInt = c.toInt + 1 := by have := c_iadd c 1; have r := rng32 (c + 1); have e1 : (1 : Int32).toInt = 1 := rfl; omega
    rcases he with rfl | he
    · exact ⟨t, c, rfl, hs t (by simp), h0, by omega⟩
    · exact evl_mem r (c + 1) (fun t ht => hs t (by simp [ht])) (by omega) (by omega) e he
theorem evl_times : ∀ (ts : List Int32) (c : Int32), (∀ t ∈ ts, Span t) → 0 ≤ c.toInt → c.toInt + ts.length ≤ 16 → (evl ts c).map timeV = ts
  | [], _, _, _, _ => rfl
  | t :: r, c, hs, h0, hl => by
    simp only [List.length_cons] at hl
    have h1 : (c + 1).toInt = c.toInt + 1 := by have := c_iadd c 1; have r := rng32 (c + 1); have e1 : (1 : Int32).toInt = 1 := rfl; omega
    have ht := hs t (by simp)
    simp only [evl, List.map_cons]
    rw [timeV_evV ht.1 ht.2 h0 (by omega), evl_times r (c + 1) (fun t ht => hs t (by simp [ht])) (by omega) (by omega)]
theorem times_sorted {ts us : List Int32} {ys : List Int64} (hs : ∀ t ∈ ts, Span t) (hl : ts.length ≤ 16) (hp : ys.Perm (evl ts 0)) (ho : ys.Pairwise (· ≤ ·)) (hu : us.Perm ts) (hus : us.Pairwise (fun a b => a.toInt ≤ b.toInt)) : ys.map timeV = us := by
  have h0 : (0 : Int32).toInt = 0 := rfl
  have hm := evl_mem ts 0 hs (by omega) (by omega)
  have hP : (ys.map timeV).Perm us := by
    have := hp.map timeV
    rw [evl_times ts 0 hs (by omega) (by omega)] at this
    exact this.trans hu.symm
  refine List.Perm.eq_of_pairwise (le := fun a b : Int32 => a.toInt ≤ b.toInt) (fun a b _ _ h1 h2 => Int32.toInt_inj.mp (by omega)) ?_ hus hP
  rw [List.pairwise_map]
  refine ho.imp_of_mem ?_
  intro a b ha hb hab
  obtain ⟨t, c, rfl, st, c0, c1⟩ := hm a (hp.mem_iff.mp ha)
  obtain ⟨t', c', rfl, st', c0', c1'⟩ := hm b (hp.mem_iff.mp hb)
  rw [timeV_evV st.1 st.2 c0 c1, timeV_evV st'.1 st'.2 c0' c1']
  rw [Int64.le_iff_toInt_le, evV_toInt st.1 st.2 c0 c1, evV_toInt st'.1 st'.2 c0' c1'] at hab
  omega
theorem evl_idx {ts : List Int32} (hs : ∀ t ∈ ts, Span t) (hl : ts.length ≤ 16) : ∀ e ∈ evl ts 0, ∃ ix : Nat, ix < 16 ∧ e.toInt32.toInt = ix := by
  intro e he
  have h0 : (0 : Int32).toInt = 0 := rfl
  obtain ⟨t, c, rfl, st, c0, c1⟩ := evl_mem ts 0 hs (by omega) (by omega) e he
  exact ⟨c.toInt.toNat, by omega, by rw [low_evV st.1 st.2 c0 c1]; omega⟩
theorem seg_le {ys : List Int64} {n : Nat} (h : ys.length ≤ n + 1) : (seg (ys.map timeV)).length ≤ n := by
  rcases seg_len (ys.map timeV) with q | q
  · simp at q; omega
  · rw [q]; simp [seg]
end Jvm.Wk
namespace Jvm.Wk
abbrev LeI (a b : Int32) : Prop := a.toInt ≤ b.toInt
theorem seg_snd_mem : ∀ (l : List Int32) (a : Int32) (v : Int32), v ∈ (seg (a :: l)).map Prod.snd → v ∈ l
  | [], a, v, h => by simp [seg] at h
  | b :: r, a, v, h => by
    simp only [seg] at h
    split at h
    · exact List.mem_cons_of_mem _ (seg_snd_mem r b v h)
    · simp only [List.map_cons, List.mem_cons] at h
      rcases h with rfl | h
      · simp
      · exact List.mem_cons_of_mem _ (seg_snd_mem r b v h)
theorem seg_fst_mem : ∀ (l : List Int32) (a : Int32) (v : Int32), v ∈ (seg (a :: l)).map Prod.fst → v = a ∨ v ∈ l
  | [], a, v, h => by simp [seg] at h
  | b :: r, a, v, h => by
    simp only [seg] at h
    split at h
    · rcases seg_fst_mem r b v h with rfl | q
      · exact Or.inr (by simp)
      · exact Or.inr (by simp [q])
    · simp only [List.map_cons, List.mem_cons] at h
      rcases h with rfl | h
      · exact Or.inl rfl
      · rcases seg_fst_mem r b v h with rfl | q
        · exact Or.inr (by simp)
        · exact Or.inr (by simp [q])
theorem seg_snd_sorted : ∀ (l : List Int32), l.Pairwise LeI → ((seg l).map Prod.snd).Pairwise LeI
  | [], _ => by simp [seg]
  | [a], _ => by simp [seg]
  | a :: b :: r, h => by
    have h2 := (List.pairwise_cons.mp h).2
    have ih := seg_snd_sorted (b :: r) h2
    simp only [seg]
    split
    · exact ih
    · simp only [List.map_cons]
      exact List.pairwise_cons.mpr ⟨fun v hv => (List.pairwise_cons.mp h2).1 v (seg_snd_mem r b v hv), ih⟩
theorem seg_fst_sorted : ∀ (l : List Int32), l.Pairwise LeI → ((seg l).map Prod.fst).Pairwise LeI
  | [], _ => by simp [seg]
  | [a], _ => by simp [seg]
  | a :: b :: r, h => by
    have h1 := (List.pairwise_cons.mp h).1
    have h2 := (List.pairwise_cons.mp h).2
    have ih := seg_fst_sorted (b :: r) h2
    simp only [seg]
    split
    · exact ih
    · simp only [List.map_cons]
      refine List.pairwise_cons.mpr ⟨fun v hv => ?_, ih⟩
      rcases seg_fst_mem r b v hv with rfl | q
      · exact h1 _ (by simp)
      · exact h1 v (by simp [q])
theorem sorted_at {E : List Int32} (h : E.Pairwise LeI) : ∀ (i j : Nat) (x y : Int32), i ≤ j → E[i]? = some x → E[j]? = some y → x.toInt ≤ y.toInt := by
  intro i j x y hij hx hy
  obtain ⟨hi, rfl⟩ := List.getElem?_eq_some_iff.mp hx
  obtain ⟨hj, rfl⟩ := List.getElem?_eq_some_iff.mp hy
  rcases Nat.lt_or_eq_of_le hij with q | q
  · exact List.pairwise_iff_getElem.mp h i j hi hj q
  · subst q; exact Int.le_refl _
/-- how many of the segments' ends lie at or before t -/
def cs (t : Int32) : List Int32 → Nat
  | a :: b :: r => (if a.toInt < b.toInt ∧ b.toInt ≤ t.toInt then 1 else 0) + cs t (b :: r)
  | _ => 0
theorem cs_seg {t : Int32} : ∀ (l : List Int32), l.Pairwise LeI → ((seg l).map Prod.snd).countP (fun v => decide (v.toInt ≤ t.toInt)) = cs t l
  | [], _ => by simp [seg, cs]
  | [a], _ => by simp [seg, cs]
  | a :: b :: r, h => by
    have h1 : a.toInt ≤ b.toInt := (List.pairwise_cons.mp h).1 b (by simp)
    have ih := cs_seg (t := t) (b :: r) (List.pairwise_cons.mp h).2
    simp only [seg, cs]
    split
    · rename_i e; subst e
      rw [ih, if_neg (by omega), Nat.zero_add]
    · rename_i e
      have hne : a.toInt ≠ b.toInt := fun q => e (Int32.toInt_inj.mp q)
      rw [List.map_cons, List.countP_cons, ih]
      by_cases q : b.toInt ≤ t.toInt
      · have h3 : a.toInt < b.toInt := by omega
        simp [q, h3]; omega
      · simp [q]
theorem split_count {E : List Int32} {m : Nat} {p : Int32 → Bool} (hm : m ≤ E.length) (h1 : ∀ (i : Nat) (v : Int32), i < m → E[i]? = some v → p v = true) (h2 : ∀ (i : Nat) (v : Int32), m ≤ i → E[i]? = some v → p v = false) : E.countP p = m := by
  have e : E = E.take m ++ E.drop m := (List.take_append_drop m E).symm
  rw [e, List.countP_append]
  have a1 : (E.take m).countP p = m := by
    have : (E.take m).countP p = (E.take m).length := List.countP_eq_length.mpr (fun v hv => by
      obtain ⟨i, hi⟩ := List.mem_iff_getElem?.mp hv
      rw [List.getElem?_take] at hi
      split at hi
      · exact h1 i v (by assumption) hi
      · cases hi)
    rw [this, List.length_take]; omega
  have a2 : (E.drop m).countP p = 0 := List.countP_eq_zero.mpr (fun v hv => by
    obtain ⟨i, hi⟩ := List.mem_iff_getElem?.mp hv
    rw [List.getElem?_drop] at hi
    rw [h2 (m + i) v (by omega) hi]; simp)
  rw [a1, a2]; omega
end Jvm.Wk
namespace Jvm.Pilot.@@N@@
open Jvm Jvm.ClassFile Sem Op Lib Jvm.Free Jvm.Stand Jvm.LawKit Jvm.RoadKit Jvm.Wk Bundle Jvm.Pilot.@@N@@.Jvm.D
theorem wd {ts : List Jvm.Cond} {Z : State} {a0 : Array Value} (hw : ∀ d ∈ ts, d.before a0 Z = true) (k : Nat) {d : Jvm.Cond} (h : ts[k]? = some d) : d.before a0 Z = true := hw d (List.mem_of_getElem? h)
abbrev EL1 : List (String × Nat) := []
abbrev nw1 : Bool := true
theorem ew1 {Z : State} {a0 : Array Value} (hw : ∀ d ∈ tables_1, d.before a0 Z = true) : EW Z a0 EL1 := EW.nil
def kP : Kd := ("com/example/trapeze/trapeze/scheduling/Profile", [("com/example/trapeze/trapeze/scheduling/Profile", "events", "[J"), ("com/example/trapeze/trapeze/scheduling/Profile", "leastDeltas", "[J"), ("com/example/trapeze/trapeze/scheduling/Profile", "greatestDeltas", "[J"), ("com/example/trapeze/trapeze/scheduling/Profile", "leastIntercepts", "[Lcom/example/trapeze/trapeze/core/Rational;"), ("com/example/trapeze/trapeze/scheduling/Profile", "leastSlopes", "[Lcom/example/trapeze/trapeze/core/Rational;"), ("com/example/trapeze/trapeze/scheduling/Profile", "greatestIntercepts", "[Lcom/example/trapeze/trapeze/core/Rational;"), ("com/example/trapeze/trapeze/scheduling/Profile", "greatestSlopes", "[Lcom/example/trapeze/trapeze/core/Rational;"), ("com/example/trapeze/trapeze/scheduling/Profile", "runningDeltas", "[I"), ("com/example/trapeze/trapeze/scheduling/Profile", "segmentStarts", "[I"), ("com/example/trapeze/trapeze/scheduling/Profile", "segmentEnds", "[I"), ("com/example/trapeze/trapeze/scheduling/Profile", "wholeLeasts", "[J"), ("com/example/trapeze/trapeze/scheduling/Profile", "wholeGreatests", "[J"), ("com/example/trapeze/trapeze/scheduling/Profile", "leastAtStarts", "[Lcom/example/trapeze/trapeze/core/Rational;"), ("com/example/trapeze/trapeze/scheduling/Profile", "leastAtEnds", "[Lcom/example/trapeze/trapeze/core/Rational;"), ("com/example/trapeze/trapeze/scheduling/Profile", "greatestAtStarts", "[Lcom/example/trapeze/trapeze/core/Rational;"), ("com/example/trapeze/trapeze/scheduling/Profile", "greatestAtEnds", "[Lcom/example/trapeze/trapeze/core/Rational;"), ("com/example/trapeze/trapeze/scheduling/Profile", "segmentRunning", "[I"), ("com/example/trapeze/trapeze/scheduling/Profile", "leastEnergyBefore", "[J"), ("com/example/trapeze/trapeze/scheduling/Profile", "eventCount", "I"), ("com/example/trapeze/trapeze/scheduling/Profile", "segmentCount", "I"), ("com/example/trapeze/trapeze/scheduling/Profile", "whole", "Z"), ("com/example/trapeze/trapeze/scheduling/Profile", "flat", "Z")])
theorem kP_ok {Z : State} {a0 : Array Value} (hw : ∀ d ∈ tables_1, d.before a0 Z = true) : KOk Z a0 kP := ⟨⟨⟨Or.inl (wd hw 26 rfl), by decide +kernel⟩, ⟨⟨Or.inl (wd hw 28 rfl), by decide +kernel⟩, ⟨⟨Or.inl (wd hw 30 rfl), by decide +kernel⟩, ⟨⟨Or.inl (wd hw 34 rfl), by decide +kernel⟩, ⟨⟨Or.inl (wd hw 36 rfl), by decide +kernel⟩, ⟨⟨Or.inl (wd hw 38 rfl), by decide +kernel⟩, ⟨⟨Or.inl (wd hw 40 rfl), by decide +kernel⟩, ⟨⟨Or.inl (wd hw 43 rfl), by decide +kernel⟩, ⟨⟨Or.inl (wd hw 45 rfl), by decide +kernel⟩, ⟨⟨Or.inl (wd hw 47 rfl), by decide +kernel⟩, ⟨⟨Or.inl (wd hw 49 rfl), by decide +kernel⟩, ⟨⟨Or.inl (wd hw 51 rfl), by decide +kernel⟩, ⟨⟨Or.inl (wd hw 53 rfl), by decide +kernel⟩, ⟨⟨Or.inl (wd hw 55 rfl), by decide +kernel⟩, ⟨⟨Or.inl (wd hw 57 rfl), by decide +kernel⟩, ⟨⟨Or.inl (wd hw 59 rfl), by decide +kernel⟩, ⟨⟨Or.inl (wd hw 61 rfl), by decide +kernel⟩, ⟨⟨Or.inl (wd hw 63 rfl), by decide +kernel⟩, ⟨⟨Or.inl (wd hw 70 rfl), by decide +kernel⟩, ⟨⟨Or.inl (wd hw 72 rfl), by decide +kernel⟩, ⟨⟨Or.inl (wd hw 74 rfl), by decide +kernel⟩, ⟨⟨Or.inl (wd hw 76 rfl), by decide +kernel⟩, trivial⟩⟩⟩⟩⟩⟩⟩⟩⟩⟩⟩⟩⟩⟩⟩⟩⟩⟩⟩⟩⟩⟩, by decide +kernel⟩
theorem kP_df : defs kP = [.null, .null, .null, .null, .null, .null, .null, .null, .null, .null, .null, .null, .null, .null, .null, .null, .null, .null, .int 0, .int 0, .int 0, .int 0] := by decide +kernel
theorem pn0 : plainFor (⟨"com/example/trapeze/trapeze/scheduling/Profile", "<init>", "()V"⟩ : MethodName) = true := by first | (refine plainFor_of_name ?_; simp [plainName, overriddenIn]; done) | (refine plainFor_of_name ?_; decide +kernel) | decide +kernel
theorem fd0 : parseFieldDescriptor "[J" = some (.array .long) := by decide +kernel
theorem fd1 : parseFieldDescriptor "[Lcom/example/trapeze/trapeze/core/Rational;" = some (.array (.object "com/example/trapeze/trapeze/core/Rational")) := by decide +kernel
theorem fd2 : parseFieldDescriptor "[I" = some (.array .int) := by decide +kernel
def B_rm_ctor : Prog := [(0, .aload_n 0, 1), (1, .invokespecial 1, 3), (4, .aload_n 0, 1), (5, .bipush 16, 2), (7, .newarray .long, 2), (9, .putfield 7, 3), (12, .aload_n 0, 1), (13, .bipush 16, 2), (15, .newarray .long, 2), (17, .putfield 13, 3), (20, .aload_n 0, 1), (21, .bipush 16, 2), (23, .newarray .long, 2), (25, .putfield 16, 3), (28, .aload_n 0, 1), (29, .bipush 16, 2), (31, .anewarray 19, 3), (34, .putfield 21, 3), (37, .aload_n 0, 1), (38, .bipush 16, 2), (40, .anewarray 19, 3), (43, .putfield 25, 3), (46, .aload_n 0, 1), (47, .bipush 16, 2), (49, .anewarray 19, 3), (52, .putfield 28, 3), (55, .aload_n 0, 1), (56, .bipush 16, 2), (58, .anewarray 19, 3), (61, .putfield 31, 3), (64, .aload_n 0, 1), (65, .bipush 16, 2), (67, .newarray .int, 2), (69, .putfield 34, 3), (72, .aload_n 0, 1), (73, .bipush 8, 2), (75, .newarray .int, 2), (77, .putfield 38, 3), (80, .aload_n 0, 1), (81, .bipush 8, 2), (83, .newarray .int, 2), (85, .putfield 41, 3), (88, .aload_n 0, 1), (89, .bipush 8, 2), (91, .newarray .long, 2), (93, .putfield 44, 3), (96, .aload_n 0, 1), (97, .bipush 8, 2), (99, .newarray .long, 2), (101, .putfield 47, 3), (104, .aload_n 0, 1), (105, .bipush 8, 2), (107, .anewarray 19, 3), (110, .putfield 50, 3), (113, .aload_n 0, 1), (114, .bipush 8, 2), (116, .anewarray 19, 3), (119, .putfield 53, 3), (122, .aload_n 0, 1), (123, .bipush 8, 2), (125, .anewarray 19, 3), (128, .putfield 56, 3), (131, .aload_n 0, 1), (132, .bipush 8, 2), (134, .anewarray 19, 3), (137, .putfield 59, 3), (140, .aload_n 0, 1), (141, .bipush 8, 2), (143, .newarray .int, 2), (145, .putfield 62, 3), (148, .aload_n 0, 1), (149, .bipush 9, 2), (151, .newarray .long, 2), (153, .putfield 65, 3), (156, .return_, 1)]
theorem B_rm_ctor_ok : okB prog_39_method_1_code B_rm_ctor = true := by decide +kernel
set_option maxRecDepth 65536 in
set_option maxHeartbeats 40000000 in
theorem rm_ctor (l : Launch) (Z : State) (a0 : Array Value) (hw : ∀ d ∈ tables_1, d.before a0 Z = true) (pa : Addr) : Ct l Z EL1 nw1 (⟨"com/example/trapeze/trapeze/scheduling/Profile", "<init>", "()V"⟩ : MethodName) prog_39_method_1_code 1 none [] ({ frames := 1, cells := 18, slots := 209, locals := 12 } : Room) [.ref pa] [(pa, true, .inl kP, [.null, .null, .null, .null, .null, .null, .null, .null, .null, .null, .null, .null, .null, .null, .null, .null, .null, .null, .int 0, .int 0, .int 0, .int 0])] (fun v L => v = none ∧ ∃ ad : Nat → Addr, L = [(ad 17, true, .inr .long, List.replicate 9 (.long 0)), (ad 16, true, .inr .int, List.replicate 8 (.int 0)), (ad 15, true, .inr (.object "com/example/trapeze/trapeze/core/Rational"), List.replicate 8 (.null)), (ad 14, true, .inr (.object "com/example/trapeze/trapeze/core/Rational"), List.replicate 8 (.null)), (ad 13, true, .inr (.object "com/example/trapeze/trapeze/core/Rational"), List.replicate 8 (.null)), (ad 12, true, .inr (.object "com/example/trapeze/trapeze/core/Rational"), List.replicate 8 (.null)), (ad 11, true, .inr .long, List.replicate 8 (.long 0)), (ad 10, true, .inr .long, List.replicate 8 (.long 0)), (ad 9, true, .inr .int, List.replicate 8 (.int 0)), (ad 8, true, .inr .int, List.replicate 8 (.int 0)), (ad 7, true, .inr .int, List.replicate 16 (.int 0)), (ad 6, true, .inr (.object "com/example/trapeze/trapeze/core/Rational"), List.replicate 16 (.null)), (ad 5, true, .inr (.object "com/example/trapeze/trapeze/core/Rational"), List.replicate 16 (.null)), (ad 4, true, .inr (.object "com/example/trapeze/trapeze/core/Rational"), List.replicate 16 (.null)), (ad 3, true, .inr (.object "com/example/trapeze/trapeze/core/Rational"), List.replicate 16 (.null)), (ad 2, true, .inr .long, List.replicate 16 (.long 0)), (ad 1, true, .inr .long, List.replicate 16 (.long 0)), (ad 0, true, .inr .long, List.replicate 16 (.long 0)), (pa, true, .inl kP, [.ref (ad 0), .ref (ad 1), .ref (ad 2), .ref (ad 3), .ref (ad 4), .ref (ad 5), .ref (ad 6), .ref (ad 7), .ref (ad 8), .ref (ad 9), .ref (ad 10), .ref (ad 11), .ref (ad 12), .ref (ad 13), .ref (ad 14), .ref (ad 15), .ref (ad 16), .ref (ad 17), .int 0, .int 0, .int 0, .int 0])]) := by
  refine ct_of pn0 (B := B_rm_ctor) (ls := [.val (.ref pa)]) B_rm_ctor_ok (ew1 hw) (fun m => by first | (simp [entryFrame, mkF, argsToLocals, Value.category]; done) | rfl) (fun K C => ?_)
  refine wp_blk C 0 1 (pc' := 1) (ls' := [.val (.ref pa)]) (st' := [.ref pa]) rfl ?_
  refine wp_initO C (W := 0) 1 4 rfl rfl (wd hw 21 rfl) (wd hw 22 rfl) (wd hw 23 rfl) (by decide) rfl (by decide) rfl ?_
  refine wp_blk C 2 2 (pc' := 7) (ls' := [.val (.ref pa)]) (st' := [.int 16, .ref pa]) rfl ?_
  refine wp_newA C (n := 16) (cap := 16) (cells' := 1) (slots' := 16) (vs := List.replicate 16 (.long 0)) 4 9 rfl rfl (wd hw 24 rfl) rfl (by decide) (by decide) rfl rfl (by decide) (by decide) rfl (fun b1 => ?_)
  refine wp_put C (ty := (.array .long)) (v := .ref b1) (vs' := [.ref b1, .null, .null, .null, .null, .null, .null, .null, .null, .null, .null, .null, .null, .null, .null, .null, .null, .null, .int 0, .int 0, .int 0, .int 0]) (L' := [(b1, true, .inr .long, List.replicate 16 (.long 0)), (pa, true, .inl kP, [.ref b1, .null, .null, .null, .null, .null, .null, .null, .null, .null, .null, .null, .null, .null, .null, .null, .null, .null, .int 0, .int 0, .int 0, .int 0])]) 5 12 1 0 rfl rfl (wd hw 25 rfl) Via.refl (Or.inl (wd hw 26 rfl)) (wd hw 16 rfl) (kP_ok hw) fd0 rfl rfl rfl rfl rfl rfl rfl ?_
  refine wp_blk C 6 2 (pc' := 15) (ls' := [.val (.ref pa)]) (st' := [.int 16, .ref pa]) rfl ?_
  refine wp_newA C (n := 16) (cap := 16) (cells' := 2) (slots' := 32) (vs := List.replicate 16 (.long 0)) 8 17 rfl rfl (wd hw 24 rfl) rfl (by decide) (by decide) rfl rfl (by decide) (by decide) rfl (fun b2 => ?_)
  refine wp_put C (ty := (.array .long)) (v := .ref b2) (vs' := [.ref b1, .ref b2, .null, .null, .null, .null, .null, .null, .null, .null, .null, .null, .null, .null, .null, .null, .null, .null, .int 0, .int 0, .int 0, .int 0]) (L' := [(b2, true, .inr .long, List.replicate 16 (.long 0)), (b1, true, .inr .long, List.replicate 16 (.long 0)), (pa, true, .inl kP, [.ref b1, .ref b2, .null, .null, .null, .null, .null, .null, .null, .null, .null, .null, .null, .null, .null, .null, .null, .null, .int 0, .int 0, .int 0, .int 0])]) 9 20 2 1 rfl rfl (wd hw 27 rfl) Via.refl (Or.inl (wd hw 28 rfl)) (wd hw 16 rfl) (kP_ok hw) fd0 rfl rfl rfl rfl rfl rfl rfl ?_
  refine wp_blk C 10 2 (pc' := 23) (ls' := [.val (.ref pa)]) (st' := [.int 16, .ref pa]) rfl ?_
  refine wp_newA C (n := 16) (cap := 16) (cells' := 3) (slots' := 48) (vs := List.replicate 16 (.long 0)) 12 25 rfl rfl (wd hw 24 rfl) rfl (by decide) (by decide) rfl rfl (by decide) (by decide) rfl (fun b3 => ?_)
  refine wp_put C (ty := (.array .long)) (v := .ref b3) (vs' := [.ref b1, .ref b2, .ref b3, .null, .null, .null, .null, .null, .null, .null, .null, .null, .null, .null, .null, .null, .null, .null, .int 0, .int 0, .int 0, .int 0]) (L' := [(b3, true, .inr .long, List.replicate 16 (.long 0)), (b2, true, .inr .long, List.replicate 16 (.long 0)), (b1, true, .inr .long, List.replicate 16 (.long 0)), (pa, true, .inl kP, [.ref b1, .ref b2, .ref b3, .null, .null, .null, .null, .null, .null, .null, .null, .null, .null, .null, .null, .null, .null, .null, .int 0, .int 0, .int 0, .int 0])]) 13 28 3 2 rfl rfl (wd hw 29 rfl) Via.refl (Or.inl (wd hw 30 rfl)) (wd hw 16 rfl) (kP_ok hw) fd0 rfl rfl rfl rfl rfl rfl rfl ?_
  refine wp_blk C 14 2 (pc' := 31) (ls' := [.val (.ref pa)]) (st' := [.int 16, .ref pa]) rfl ?_
  refine wp_newR C (n := 16) (cap := 16) (cells' := 4) (slots' := 64) (vs := List.replicate 16 .null) 16 34 rfl rfl (wd hw 31 rfl) (wd hw 32 rfl) rfl (by decide) (by decide) rfl rfl (by decide) (by decide) rfl (fun b4 => ?_)
  refine wp_put C (ty := (.array (.object "com/example/trapeze/trapeze/core/Rational"))) (v := .ref b4) (vs' := [.ref b1, .ref b2, .ref b3, .ref b4, .null, .null, .null, .null, .null, .null, .null, .null, .null, .null, .null, .null, .null, .null, .int 0, .int 0, .int 0, .int 0]) (L' := [(b4, true, .inr (.object "com/example/trapeze/trapeze/core/Rational"), List.replicate 16 .null), (b3, true, .inr .long, List.replicate 16 (.long 0)), (b2, true, .inr .long, List.replicate 16 (.long 0)), (b1, true, .inr .long, List.replicate 16 (.long 0)), (pa, true, .inl kP, [.ref b1, .ref b2, .ref b3, .ref b4, .null, .null, .null, .null, .null, .null, .null, .null, .null, .null, .null, .null, .null, .null, .int 0, .int 0, .int 0, .int 0])]) 17 37 4 3 rfl rfl (wd hw 33 rfl) Via.refl (Or.inl (wd hw 34 rfl)) (wd hw 16 rfl) (kP_ok hw) fd1 rfl rfl rfl rfl rfl rfl rfl ?_
  refine wp_blk C 18 2 (pc' := 40) (ls' := [.val (.ref pa)]) (st' := [.int 16, .ref pa]) rfl ?_
  refine wp_newR C (n := 16) (cap := 16) (cells' := 5) (slots' := 80) (vs := List.replicate 16 .null) 20 43 rfl rfl (wd hw 31 rfl) (wd hw 32 rfl) rfl (by decide) (by decide) rfl rfl (by decide) (by decide) rfl (fun b5 => ?_)
  refine wp_put C (ty := (.array (.object "com/example/trapeze/trapeze/core/Rational"))) (v := .ref b5) (vs' := [.ref b1, .ref b2, .ref b3, .ref b4, .ref b5, .null, .null, .null, .null, .null, .null, .null, .null, .null, .null, .null, .null, .null, .int 0, .int 0, .int 0, .int 0]) (L' := [(b5, true, .inr (.object "com/example/trapeze/trapeze/core/Rational"), List.replicate 16 .null), (b4, true, .inr (.object "com/example/trapeze/trapeze/core/Rational"), List.replicate 16 .null), (b3, true, .inr .long, List.replicate 16 (.long 0)), (b2, true, .inr .long, List.replicate 16 (.long 0)), (b1, true, .inr .long, List.replicate 16 (.long 0)), (pa, true, .inl kP, [.ref b1, .ref b2, .ref b3, .ref b4, .ref b5, .null, .null, .null, .null, .null, .null, .null, .null, .null, .null, .null, .null, .null, .int 0, .int 0, .int 0, .int 0])]) 21 46 5 4 rfl rfl (wd hw 35 rfl) Via.refl (Or.inl (wd hw 36 rfl)) (wd hw 16 rfl) (kP_ok hw) fd1 rfl rfl rfl rfl rfl rfl rfl ?_
  refine wp_blk C 22 2 (pc' := 49) (ls' := [.val (.ref pa)]) (st' := [.int 16, .ref pa]) rfl ?_
  refine wp_newR C (n := 16) (cap := 16) (cells' := 6) (slots' := 96) (vs := List.replicate 16 .null) 24 52 rfl rfl (wd hw 31 rfl) (wd hw 32 rfl) rfl (by decide) (by decide) rfl rfl (by decide) (by decide) rfl (fun b6 => ?_)
  refine wp_put C (ty := (.array (.object "com/example/trapeze/trapeze/core/Rational"))) (v := .ref b6) (vs' := [.ref b1, .ref b2, .ref b3, .ref b4, .ref b5, .ref b6, .null, .null, .null, .null, .null, .null, .null, .null, .null, .null, .null, .null, .int 0, .int 0, .int 0, .int 0]) (L' := [(b6, true, .inr (.object "com/example/trapeze/trapeze/core/Rational"), List.replicate 16 .null), (b5, true, .inr (.object "com/example/trapeze/trapeze/core/Rational"), List.replicate 16 .null), (b4, true, .inr (.object "com/example/trapeze/trapeze/core/Rational"), List.replicate 16 .null), (b3, true, .inr .long, List.replicate 16 (.long 0)), (b2, true, .inr .long, List.replicate 16 (.long 0)), (b1, true, .inr .long, List.replicate 16 (.long 0)), (pa, true, .inl kP, [.ref b1, .ref b2, .ref b3, .ref b4, .ref b5, .ref b6, .null, .null, .null, .null, .null, .null, .null, .null, .null, .null, .null, .null, .int 0, .int 0, .int 0, .int 0])]) 25 55 6 5 rfl rfl (wd hw 37 rfl) Via.refl (Or.inl (wd hw 38 rfl)) (wd hw 16 rfl) (kP_ok hw) fd1 rfl rfl rfl rfl rfl rfl rfl ?_
  refine wp_blk C 26 2 (pc' := 58) (ls' := [.val (.ref pa)]) (st' := [.int 16, .ref pa]) rfl ?_
  refine wp_newR C (n := 16) (cap := 16) (cells' := 7) (slots' := 112) (vs := List.replicate 16 .null) 28 61 rfl rfl (wd hw 31 rfl) (wd hw 32 rfl) rfl (by decide) (by decide) rfl rfl (by decide) (by decide) rfl (fun b7 => ?_)
  refine wp_put C (ty := (.array (.object "com/example/trapeze/trapeze/core/Rational"))) (v := .ref b7) (vs' := [.ref b1, .ref b2, .ref b3, .ref b4, .ref b5, .ref b6, .ref b7, .null, .null, .null, .null, .null, .null, .null, .null, .null, .null, .null, .int 0, .int 0, .int 0, .int 0]) (L' := [(b7, true, .inr (.object "com/example/trapeze/trapeze/core/Rational"), List.replicate 16 .null), (b6, true, .inr (.object "com/example/trapeze/trapeze/core/Rational"), List.replicate 16 .null), (b5, true, .inr (.object "com/example/trapeze/trapeze/core/Rational"), List.replicate 16 .null), (b4, true, .inr (.object "com/example/trapeze/trapeze/core/Rational"), List.replicate 16 .null), (b3, true, .inr .long, List.replicate 16 (.long 0)), (b2, true, .inr .long, List.replicate 16 (.long 0)), (b1, true, .inr .long, List.replicate 16 (.long 0)), (pa, true, .inl kP, [.ref b1, .ref b2, .ref b3, .ref b4, .ref b5, .ref b6, .ref b7, .null, .null, .null, .null, .null, .null, .null, .null, .null, .null, .null, .int 0, .int 0, .int 0, .int 0])]) 29 64 7 6 rfl rfl (wd hw 39 rfl) Via.refl (Or.inl (wd hw 40 rfl)) (wd hw 16 rfl) (kP_ok hw) fd1 rfl rfl rfl rfl rfl rfl rfl ?_
  refine wp_blk C 30 2 (pc' := 67) (ls' := [.val (.ref pa)]) (st' := [.int 16, .ref pa]) rfl ?_
  refine wp_newA C (n := 16) (cap := 16) (cells' := 8) (slots' := 128) (vs := List.replicate 16 (.int 0)) 32 69 rfl rfl (wd hw 41 rfl) rfl (by decide) (by decide) rfl rfl (by decide) (by decide) rfl (fun b8 => ?_)
  refine wp_put C (ty := (.array .int)) (v := .ref b8) (vs' := [.ref b1, .ref b2, .ref b3, .ref b4, .ref b5, .ref b6, .ref b7, .ref b8, .null, .null, .null, .null, .null, .null, .null, .null, .null, .null, .int 0, .int 0, .int 0, .int 0]) (L' := [(b8, true, .inr .int, List.replicate 16 (.int 0)), (b7, true, .inr (.object "com/example/trapeze/trapeze/core/Rational"), List.replicate 16 .null), (b6, true, .inr (.object "com/example/trapeze/trapeze/core/Rational"), List.replicate 16 .null), (b5, true, .inr (.object "com/example/trapeze/trapeze/core/Rational"), List.replicate 16 .null), (b4, true, .inr (.object "com/example/trapeze/trapeze/core/Rational"), List.replicate 16 .null), (b3, true, .inr .long, List.replicate 16 (.long 0)), (b2, true, .inr .long, List.replicate 16 (.long 0)), (b1, true, .inr .long, List.replicate 16 (.long 0)), (pa, true, .inl kP, [.ref b1, .ref b2, .ref b3, .ref b4, .ref b5, .ref b6, .ref b7, .ref b8, .null, .null, .null, .null, .null, .null, .null, .null, .null, .null, .int 0, .int 0, .int 0, .int 0])]) 33 72 8 7 rfl rfl (wd hw 42 rfl) Via.refl (Or.inl (wd hw 43 rfl)) (wd hw 16 rfl) (kP_ok hw) fd2 rfl rfl rfl rfl rfl rfl rfl ?_
  refine wp_blk C 34 2 (pc' := 75) (ls' := [.val (.ref pa)]) (st' := [.int 8, .ref pa]) rfl ?_
  refine wp_newA C (n := 8) (cap := 8) (cells' := 9) (slots' := 136) (vs := List.replicate 8 (.int 0)) 36 77 rfl rfl (wd hw 41 rfl) rfl (by decide) (by decide) rfl rfl (by decide) (by decide) rfl (fun b9 => ?_)
  refine wp_put C (ty := (.array .int)) (v := .ref b9) (vs' := [.ref b1, .ref b2, .ref b3, .ref b4, .ref b5, .ref b6, .ref b7, .ref b8, .ref b9, .null, .null, .null, .null, .null, .null, .null, .null, .null, .int 0, .int 0, .int 0, .int 0]) (L' := [(b9, true, .inr .int, List.replicate 8 (.int 0)), (b8, true, .inr .int, List.replicate 16 (.int 0)), (b7, true, .inr (.object "com/example/trapeze/trapeze/core/Rational"), List.replicate 16 .null), (b6, true, .inr (.object "com/example/trapeze/trapeze/core/Rational"), List.replicate 16 .null), (b5, true, .inr (.object "com/example/trapeze/trapeze/core/Rational"), List.replicate 16 .null), (b4, true, .inr (.object "com/example/trapeze/trapeze/core/Rational"), List.replicate 16 .null), (b3, true, .inr .long, List.replicate 16 (.long 0)), (b2, true, .inr .long, List.replicate 16 (.long 0)), (b1, true, .inr .long, List.replicate 16 (.long 0)), (pa, true, .inl kP, [.ref b1, .ref b2, .ref b3, .ref b4, .ref b5, .ref b6, .ref b7, .ref b8, .ref b9, .null, .null, .null, .null, .null, .null, .null, .null, .null, .int 0, .int 0, .int 0, .int 0])]) 37 80 9 8 rfl rfl (wd hw 44 rfl) Via.refl (Or.inl (wd hw 45 rfl)) (wd hw 16 rfl) (kP_ok hw) fd2 rfl rfl rfl rfl rfl rfl rfl ?_
  refine wp_blk C 38 2 (pc' := 83) (ls' := [.val (.ref pa)]) (st' := [.int 8, .ref pa]) rfl ?_
  refine wp_newA C (n := 8) (cap := 8) (cells' := 10) (slots' := 144) (vs := List.replicate 8 (.int 0)) 40 85 rfl rfl (wd hw 41 rfl) rfl (by decide) (by decide) rfl rfl (by decide) (by decide) rfl (fun b10 => ?_)
  refine wp_put C (ty := (.array .int)) (v := .ref b10) (vs' := [.ref b1, .ref b2, .ref b3, .ref b4, .ref b5, .ref b6, .ref b7, .ref b8, .ref b9, .ref b10, .null, .null, .null, .null, .null, .null, .null, .null, .int 0, .int 0, .int 0, .int 0]) (L' := [(b10, true, .inr .int, List.replicate 8 (.int 0)), (b9, true, .inr .int, List.replicate 8 (.int 0)), (b8, true, .inr .int, List.replicate 16 (.int 0)), (b7, true, .inr (.object "com/example/trapeze/trapeze/core/Rational"), List.replicate 16 .null), (b6, true, .inr (.object "com/example/trapeze/trapeze/core/Rational"), List.replicate 16 .null), (b5, true, .inr (.object "com/example/trapeze/trapeze/core/Rational"), List.replicate 16 .null), (b4, true, .inr (.object "com/example/trapeze/trapeze/core/Rational"), List.replicate 16 .null), (b3, true, .inr .long, List.replicate 16 (.long 0)), (b2, true, .inr .long, List.replicate 16 (.long 0)), (b1, true, .inr .long, List.replicate 16 (.long 0)), (pa, true, .inl kP, [.ref b1, .ref b2, .ref b3, .ref b4, .ref b5, .ref b6, .ref b7, .ref b8, .ref b9, .ref b10, .null, .null, .null, .null, .null, .null, .null, .null, .int 0, .int 0, .int 0, .int 0])]) 41 88 10 9 rfl rfl (wd hw 46 rfl) Via.refl (Or.inl (wd hw 47 rfl)) (wd hw 16 rfl) (kP_ok hw) fd2 rfl rfl rfl rfl rfl rfl rfl ?_
  refine wp_blk C 42 2 (pc' := 91) (ls' := [.val (.ref pa)]) (st' := [.int 8, .ref pa]) rfl ?_
  refine wp_newA C (n := 8) (cap := 8) (cells' := 11) (slots' := 152) (vs := List.replicate 8 (.long 0)) 44 93 rfl rfl (wd hw 24 rfl) rfl (by decide) (by decide) rfl rfl (by decide) (by decide) rfl (fun b11 => ?_)
  refine wp_put C (ty := (.array .long)) (v := .ref b11) (vs' := [.ref b1, .ref b2, .ref b3, .ref b4, .ref b5, .ref b6, .ref b7, .ref b8, .ref b9, .ref b10, .ref b11, .null, .null, .null, .null, .null, .null, .null, .int 0, .int 0, .int 0, .int 0]) (L' := [(b11, true, .inr .long, List.replicate 8 (.long 0)), (b10, true, .inr .int, List.replicate 8 (.int 0)), (b9, true, .inr .int, List.replicate 8 (.int 0)), (b8, true, .inr .int, List.replicate 16 (.int 0)), (b7, true, .inr (.object "com/example/trapeze/trapeze/core/Rational"), List.replicate 16 .null), (b6, true, .inr (.object "com/example/trapeze/trapeze/core/Rational"), List.replicate 16 .null), (b5, true, .inr (.object "com/example/trapeze/trapeze/core/Rational"), List.replicate 16 .null), (b4, true, .inr (.object "com/example/trapeze/trapeze/core/Rational"), List.replicate 16 .null), (b3, true, .inr .long, List.replicate 16 (.long 0)), (b2, true, .inr .long, List.replicate 16 (.long 0)), (b1, true, .inr .long, List.replicate 16 (.long 0)), (pa, true, .inl kP, [.ref b1, .ref b2, .ref b3, .ref b4, .ref b5, .ref b6, .ref b7, .ref b8, .ref b9, .ref b10, .ref b11, .null, .null, .null, .null, .null, .null, .null, .int 0, .int 0, .int 0, .int 0])]) 45 96 11 10 rfl rfl (wd hw 48 rfl) Via.refl (Or.inl (wd hw 49 rfl)) (wd hw 16 rfl) (kP_ok hw) fd0 rfl rfl rfl rfl rfl rfl rfl ?_
  refine wp_blk C 46 2 (pc' := 99) (ls' := [.val (.ref pa)]) (st' := [.int 8, .ref pa]) rfl ?_
  refine wp_newA C (n := 8) (cap := 8) (cells' := 12) (slots' := 160) (vs := List.replicate 8 (.long 0)) 48 101 rfl rfl (wd hw 24 rfl) rfl (by decide) (by decide) rfl rfl (by decide) (by decide) rfl (fun b12 => ?_)
  refine wp_put C (ty := (.array .long)) (v := .ref b12) (vs' := [.ref b1, .ref b2, .ref b3, .ref b4, .ref b5, .ref b6, .ref b7, .ref b8, .ref b9, .ref b10, .ref b11, .ref b12, .null, .null, .null, .null, .null, .null, .int 0, .int 0, .int 0, .int 0]) (L' := [(b12, true, .inr .long, List.replicate 8 (.long 0)), (b11, true, .inr .long, List.replicate 8 (.long 0)), (b10, true, .inr .int, List.replicate 8 (.int 0)), (b9, true, .inr .int, List.replicate 8 (.int 0)), (b8, true, .inr .int, List.replicate 16 (.int 0)), (b7, true, .inr (.object "com/example/trapeze/trapeze/core/Rational"), List.replicate 16 .null), (b6, true, .inr (.object "com/example/trapeze/trapeze/core/Rational"), List.replicate 16 .null), (b5, true, .inr (.object "com/example/trapeze/trapeze/core/Rational"), List.replicate 16 .null), (b4, true, .inr (.object "com/example/trapeze/trapeze/core/Rational"), List.replicate 16 .null), (b3, true, .inr .long, List.replicate 16 (.long 0)), (b2, true, .inr .long, List.replicate 16 (.long 0)), (b1, true, .inr .long, List.replicate 16 (.long 0)), (pa, true, .inl kP, [.ref b1, .ref b2, .ref b3, .ref b4, .ref b5, .ref b6, .ref b7, .ref b8, .ref b9, .ref b10, .ref b11, .ref b12, .null, .null, .null, .null, .null, .null, .int 0, .int 0, .int 0, .int 0])]) 49 104 12 11 rfl rfl (wd hw 50 rfl) Via.refl (Or.inl (wd hw 51 rfl)) (wd hw 16 rfl) (kP_ok hw) fd0 rfl rfl rfl rfl rfl rfl rfl ?_
  refine wp_blk C 50 2 (pc' := 107) (ls' := [.val (.ref pa)]) (st' := [.int 8, .ref pa]) rfl ?_
  refine wp_newR C (n := 8) (cap := 8) (cells' := 13) (slots' := 168) (vs := List.replicate 8 .null) 52 110 rfl rfl (wd hw 31 rfl) (wd hw 32 rfl) rfl (by decide) (by decide) rfl rfl (by decide) (by decide) rfl (fun b13 => ?_)
  refine wp_put C (ty := (.array (.object "com/example/trapeze/trapeze/core/Rational"))) (v := .ref b13) (vs' := [.ref b1, .ref b2, .ref b3, .ref b4, .ref b5, .ref b6, .ref b7, .ref b8, .ref b9, .ref b10, .ref b11, .ref b12, .ref b13, .null, .null, .null, .null, .null, .int 0, .int 0, .int 0, .int 0]) (L' := [(b13, true, .inr (.object "com/example/trapeze/trapeze/core/Rational"), List.replicate 8 .null), (b12, true, .inr .long, List.replicate 8 (.long 0)), (b11, true, .inr .long, List.replicate 8 (.long 0)), (b10, true, .inr .int, List.replicate 8 (.int 0)), (b9, true, .inr .int, List.replicate 8 (.int 0)), (b8, true, .inr .int, List.replicate 16 (.int 0)), (b7, true, .inr (.object "com/example/trapeze/trapeze/core/Rational"), List.replicate 16 .null), (b6, true, .inr (.object "com/example/trapeze/trapeze/core/Rational"), List.replicate 16 .null), (b5, true, .inr (.object "com/example/trapeze/trapeze/core/Rational"), List.replicate 16 .null), (b4, true, .inr (.object "com/example/trapeze/trapeze/core/Rational"), List.replicate 16 .null), (b3, true, .inr .long, List.replicate 16 (.long 0)), (b2, true, .inr .long, List.replicate 16 (.long 0)), (b1, true, .inr .long, List.replicate 16 (.long 0)), (pa, true, .inl kP, [.ref b1, .ref b2, .ref b3, .ref b4, .ref b5, .ref b6, .ref b7, .ref b8, .ref b9, .ref b10, .ref b11, .ref b12, .ref b13, .null, .null, .null, .null, .null, .int 0, .int 0, .int 0, .int 0])]) 53 113 13 12 rfl rfl (wd hw 52 rfl) Via.refl (Or.inl (wd hw 53 rfl)) (wd hw 16 rfl) (kP_ok hw) fd1 rfl rfl rfl rfl rfl rfl rfl ?_
  refine wp_blk C 54 2 (pc' := 116) (ls' := [.val (.ref pa)]) (st' := [.int 8, .ref pa]) rfl ?_
  refine wp_newR C (n := 8) (cap := 8) (cells' := 14) (slots' := 176) (vs := List.replicate 8 .null) 56 119 rfl rfl (wd hw 31 rfl) (wd hw 32 rfl) rfl (by decide) (by decide) rfl rfl (by decide) (by decide) rfl (fun b14 => ?_)
  refine wp_put C (ty := (.array (.object "com/example/trapeze/trapeze/core/Rational"))) (v := .ref b14) (vs' := [.ref b1, .ref b2, .ref b3, .ref b4, .ref b5, .ref b6, .ref b7, .ref b8, .ref b9, .ref b10, .ref b11, .ref b12, .ref b13, .ref b14, .null, .null, .null, .null, .int 0, .int 0, .int 0, .int 0]) (L' := [(b14, true, .inr (.object "com/example/trapeze/trapeze/core/Rational"), List.replicate 8 .null), (b13, true, .inr (.object "com/example/trapeze/trapeze/core/Rational"), List.replicate 8 .null), (b12, true, .inr .long, List.replicate 8 (.long 0)), (b11, true, .inr .long, List.replicate 8 (.long 0)), (b10, true, .inr .int, List.replicate 8 (.int 0)), (b9, true, .inr .int, List.replicate 8 (.int 0)), (b8, true, .inr .int, List.replicate 16 (.int 0)), (b7, true, .inr (.object "com/example/trapeze/trapeze/core/Rational"), List.replicate 16 .null), (b6, true, .inr (.object "com/example/trapeze/trapeze/core/Rational"), List.replicate 16 .null), (b5, true, .inr (.object "com/example/trapeze/trapeze/core/Rational"), List.replicate 16 .null), (b4, true, .inr (.object "com/example/trapeze/trapeze/core/Rational"), List.replicate 16 .null), (b3, true, .inr .long, List.replicate 16 (.long 0)), (b2, true, .inr .long, List.replicate 16 (.long 0)), (b1, true, .inr .long, List.replicate 16 (.long 0)), (pa, true, .inl kP, [.ref b1, .ref b2, .ref b3, .ref b4, .ref b5, .ref b6, .ref b7, .ref b8, .ref b9, .ref b10, .ref b11, .ref b12, .ref b13, .ref b14, .null, .null, .null, .null, .int 0, .int 0, .int 0, .int 0])]) 57 122 14 13 rfl rfl (wd hw 54 rfl) Via.refl (Or.inl (wd hw 55 rfl)) (wd hw 16 rfl) (kP_ok hw) fd1 rfl rfl rfl rfl rfl rfl rfl ?_
  refine wp_blk C 58 2 (pc' := 125) (ls' := [.val (.ref pa)]) (st' := [.int 8, .ref pa]) rfl ?_
  refine wp_newR C (n := 8) (cap := 8) (cells' := 15) (slots' := 184) (vs := List.replicate 8 .null) 60 128 rfl rfl (wd hw 31 rfl) (wd hw 32 rfl) rfl (by decide) (by decide) rfl rfl (by decide) (by decide) rfl (fun b15 => ?_)
  refine wp_put C (ty := (.array (.object "com/example/trapeze/trapeze/core/Rational"))) (v := .ref b15) (vs' := [.ref b1, .ref b2, .ref b3, .ref b4, .ref b5, .ref b6, .ref b7, .ref b8, .ref b9, .ref b10, .ref b11, .ref b12, .ref b13, .ref b14, .ref b15, .null, .null, .null, .int 0, .int 0, .int 0, .int 0]) (L' := [(b15, true, .inr (.object "com/example/trapeze/trapeze/core/Rational"), List.replicate 8 .null), (b14, true, .inr (.object "com/example/trapeze/trapeze/core/Rational"), List.replicate 8 .null), (b13, true, .inr (.object "com/example/trapeze/trapeze/core/Rational"), List.replicate 8 .null), (b12, true, .inr .long, List.replicate 8 (.long 0)), (b11, true, .inr .long, List.replicate 8 (.long 0)), (b10, true, .inr .int, List.replicate 8 (.int 0)), (b9, true, .inr .int, List.replicate 8 (.int 0)), (b8, true, .inr .int, List.replicate 16 (.int 0)), (b7, true, .inr (.object "com/example/trapeze/trapeze/core/Rational"), List.replicate 16 .null), (b6, true, .inr (.object "com/example/trapeze/trapeze/core/Rational"), List.replicate 16 .null), (b5, true, .inr (.object "com/example/trapeze/trapeze/core/Rational"), List.replicate 16 .null), (b4, true, .inr (.object "com/example/trapeze/trapeze/core/Rational"), List.replicate 16 .null), (b3, true, .inr .long, List.replicate 16 (.long 0)), (b2, true, .inr .long, List.replicate 16 (.long 0)), (b1, true, .inr .long, List.replicate 16 (.long 0)), (pa, true, .inl kP, [.ref b1, .ref b2, .ref b3, .ref b4, .ref b5, .ref b6, .ref b7, .ref b8, .ref b9, .ref b10, .ref b11, .ref b12, .ref b13, .ref b14, .ref b15, .null, .null, .null, .int 0, .int 0, .int 0, .int 0])]) 61 131 15 14 rfl rfl (wd hw 56 rfl) Via.refl (Or.inl (wd hw 57 rfl)) (wd hw 16 rfl) (kP_ok hw) fd1 rfl rfl rfl rfl rfl rfl rfl ?_
  refine wp_blk C 62 2 (pc' := 134) (ls' := [.val (.ref pa)]) (st' := [.int 8, .ref pa]) rfl ?_
  refine wp_newR C (n := 8) (cap := 8) (cells' := 16) (slots' := 192) (vs := List.replicate 8 .null) 64 137 rfl rfl (wd hw 31 rfl) (wd hw 32 rfl) rfl (by decide) (by decide) rfl rfl (by decide) (by decide) rfl (fun b16 => ?_)
  refine wp_put C (ty := (.array (.object "com/example/trapeze/trapeze/core/Rational"))) (v := .ref b16) (vs' := [.ref b1, .ref b2, .ref b3, .ref b4, .ref b5, .ref b6, .ref b7, .ref b8, .ref b9, .ref b10, .ref b11, .ref b12, .ref b13, .ref b14, .ref b15, .ref b16, .null, .null, .int 0, .int 0, .int 0, .int 0]) (L' := [(b16, true, .inr (.object "com/example/trapeze/trapeze/core/Rational"), List.replicate 8 .null), (b15, true, .inr (.object "com/example/trapeze/trapeze/core/Rational"), List.replicate 8 .null), (b14, true, .inr (.object "com/example/trapeze/trapeze/core/Rational"), List.replicate 8 .null), (b13, true, .inr (.object "com/example/trapeze/trapeze/core/Rational"), List.replicate 8 .null), (b12, true, .inr .long, List.replicate 8 (.long 0)), (b11, true, .inr .long, List.replicate 8 (.long 0)), (b10, true, .inr .int, List.replicate 8 (.int 0)), (b9, true, .inr .int, List.replicate 8 (.int 0)), (b8, true, .inr .int, List.replicate 16 (.int 0)), (b7, true, .inr (.object "com/example/trapeze/trapeze/core/Rational"), List.replicate 16 .null), (b6, true, .inr (.object "com/example/trapeze/trapeze/core/Rational"), List.replicate 16 .null), (b5, true, .inr (.object "com/example/trapeze/trapeze/core/Rational"), List.replicate 16 .null), (b4, true, .inr (.object "com/example/trapeze/trapeze/core/Rational"), List.replicate 16 .null), (b3, true, .inr .long, List.replicate 16 (.long 0)), (b2, true, .inr .long, List.replicate 16 (.long 0)), (b1, true, .inr .long, List.replicate 16 (.long 0)), (pa, true, .inl kP, [.ref b1, .ref b2, .ref b3, .ref b4, .ref b5, .ref b6, .ref b7, .ref b8, .ref b9, .ref b10, .ref b11, .ref b12, .ref b13, .ref b14, .ref b15, .ref b16, .null, .null, .int 0, .int 0, .int 0, .int 0])]) 65 140 16 15 rfl rfl (wd hw 58 rfl) Via.refl (Or.inl (wd hw 59 rfl)) (wd hw 16 rfl) (kP_ok hw) fd1 rfl rfl rfl rfl rfl rfl rfl ?_
  refine wp_blk C 66 2 (pc' := 143) (ls' := [.val (.ref pa)]) (st' := [.int 8, .ref pa]) rfl ?_
  refine wp_newA C (n := 8) (cap := 8) (cells' := 17) (slots' := 200) (vs := List.replicate 8 (.int 0)) 68 145 rfl rfl (wd hw 41 rfl) rfl (by decide) (by decide) rfl rfl (by decide) (by decide) rfl (fun b17 => ?_)
  refine wp_put C (ty := (.array .int)) (v := .ref b17) (vs' := [.ref b1, .ref b2, .ref b3, .ref b4, .ref b5, .ref b6, .ref b7, .ref b8, .ref b9, .ref b10, .ref b11, .ref b12, .ref b13, .ref b14, .ref b15, .ref b16, .ref b17, .null, .int 0, .int 0, .int 0, .int 0]) (L' := [(b17, true, .inr .int, List.replicate 8 (.int 0)), (b16, true, .inr (.object "com/example/trapeze/trapeze/core/Rational"), List.replicate 8 .null), (b15, true, .inr (.object "com/example/trapeze/trapeze/core/Rational"), List.replicate 8 .null), (b14, true, .inr (.object "com/example/trapeze/trapeze/core/Rational"), List.replicate 8 .null), (b13, true, .inr (.object "com/example/trapeze/trapeze/core/Rational"), List.replicate 8 .null), (b12, true, .inr .long, List.replicate 8 (.long 0)), (b11, true, .inr .long, List.replicate 8 (.long 0)), (b10, true, .inr .int, List.replicate 8 (.int 0)), (b9, true, .inr .int, List.replicate 8 (.int 0)), (b8, true, .inr .int, List.replicate 16 (.int 0)), (b7, true, .inr (.object "com/example/trapeze/trapeze/core/Rational"), List.replicate 16 .null), (b6, true, .inr (.object "com/example/trapeze/trapeze/core/Rational"), List.replicate 16 .null), (b5, true, .inr (.object "com/example/trapeze/trapeze/core/Rational"), List.replicate 16 .null), (b4, true, .inr (.object "com/example/trapeze/trapeze/core/Rational"), List.replicate 16 .null), (b3, true, .inr .long, List.replicate 16 (.long 0)), (b2, true, .inr .long, List.replicate 16 (.long 0)), (b1, true, .inr .long, List.replicate 16 (.long 0)), (pa, true, .inl kP, [.ref b1, .ref b2, .ref b3, .ref b4, .ref b5, .ref b6, .ref b7, .ref b8, .ref b9, .ref b10, .ref b11, .ref b12, .ref b13, .ref b14, .ref b15, .ref b16, .ref b17, .null, .int 0, .int 0, .int 0, .int 0])]) 69 148 17 16 rfl rfl (wd hw 60 rfl) Via.refl (Or.inl (wd hw 61 rfl)) (wd hw 16 rfl) (kP_ok hw) fd2 rfl rfl rfl rfl rfl rfl rfl ?_
  refine wp_blk C 70 2 (pc' := 151) (ls' := [.val (.ref pa)]) (st' := [.int 9, .ref pa]) rfl ?_
  refine wp_newA C (n := 9) (cap := 9) (cells' := 18) (slots' := 209) (vs := List.replicate 9 (.long 0)) 72 153 rfl rfl (wd hw 24 rfl) rfl (by decide) (by decide) rfl rfl (by decide) (by decide) rfl (fun b18 => ?_)
  refine wp_put C (ty := (.array .long)) (v := .ref b18) (vs' := [.ref b1, .ref b2, .ref b3, .ref b4, .ref b5, .ref b6, .ref b7, .ref b8, .ref b9, .ref b10, .ref b11, .ref b12, .ref b13, .ref b14, .ref b15, .ref b16, .ref b17, .ref b18, .int 0, .int 0, .int 0, .int 0]) (L' := [(b18, true, .inr .long, List.replicate 9 (.long 0)), (b17, true, .inr .int, List.replicate 8 (.int 0)), (b16, true, .inr (.object "com/example/trapeze/trapeze/core/Rational"), List.replicate 8 .null), (b15, true, .inr (.object "com/example/trapeze/trapeze/core/Rational"), List.replicate 8 .null), (b14, true, .inr (.object "com/example/trapeze/trapeze/core/Rational"), List.replicate 8 .null), (b13, true, .inr (.object "com/example/trapeze/trapeze/core/Rational"), List.replicate 8 .null), (b12, true, .inr .long, List.replicate 8 (.long 0)), (b11, true, .inr .long, List.replicate 8 (.long 0)), (b10, true, .inr .int, List.replicate 8 (.int 0)), (b9, true, .inr .int, List.replicate 8 (.int 0)), (b8, true, .inr .int, List.replicate 16 (.int 0)), (b7, true, .inr (.object "com/example/trapeze/trapeze/core/Rational"), List.replicate 16 .null), (b6, true, .inr (.object "com/example/trapeze/trapeze/core/Rational"), List.replicate 16 .null), (b5, true, .inr (.object "com/example/trapeze/trapeze/core/Rational"), List.replicate 16 .null), (b4, true, .inr (.object "com/example/trapeze/trapeze/core/Rational"), List.replicate 16 .null), (b3, true, .inr .long, List.replicate 16 (.long 0)), (b2, true, .inr .long, List.replicate 16 (.long 0)), (b1, true, .inr .long, List.replicate 16 (.long 0)), (pa, true, .inl kP, [.ref b1, .ref b2, .ref b3, .ref b4, .ref b5, .ref b6, .ref b7, .ref b8, .ref b9, .ref b10, .ref b11, .ref b12, .ref b13, .ref b14, .ref b15, .ref b16, .ref b17, .ref b18, .int 0, .int 0, .int 0, .int 0])]) 73 156 18 17 rfl rfl (wd hw 62 rfl) Via.refl (Or.inl (wd hw 63 rfl)) (wd hw 16 rfl) (kP_ok hw) fd0 rfl rfl rfl rfl rfl rfl rfl ?_
  refine wp_ret0 C 74 rfl (by decide) (by decide) (?_)
  refine ⟨rfl, fun i => ([b1, b2, b3, b4, b5, b6, b7, b8, b9, b10, b11, b12, b13, b14, b15, b16, b17, b18] : List Addr).getD i 0, ?_⟩
  simp only [List.getD_cons_zero, List.getD_cons_succ]
theorem pn1 : plainFor (⟨"com/example/trapeze/trapeze/scheduling/Profile", "addEvent", "(IJJI)V"⟩ : MethodName) = true := by first | (refine plainFor_of_name ?_; simp [plainName, overriddenIn]; done) | (refine plainFor_of_name ?_; decide +kernel) | decide +kernel
theorem fd3 : parseFieldDescriptor "I" = some .int := by decide +kernel
def B_rm_ev : Prog := [(0, .aload_n 0, 1), (1, .getfield 68, 3), (4, .aload_n 0, 1), (5, .getfield 7, 3), (8, .arraylength, 1), (9, .if_icmp .ne 151, 3), (160, .aload_n 0, 1), (161, .getfield 13, 3), (164, .aload_n 0, 1), (165, .getfield 68, 3), (168, .lload_n 2, 1), (169, .lastore, 1), (170, .aload_n 0, 1), (171, .getfield 16, 3), (174, .aload_n 0, 1), (175, .getfield 68, 3), (178, .lload 4, 2), (180, .lastore, 1), (181, .aload_n 0, 1), (182, .getfield 21, 3), (185, .aload_n 0, 1), (186, .getfield 68, 3), (189, .aconst_null, 1), (190, .aastore, 1), (191, .aload_n 0, 1), (192, .getfield 34, 3), (195, .aload_n 0, 1), (196, .getfield 68, 3), (199, .iload 6, 2), (201, .iastore, 1), (202, .aload_n 0, 1), (203, .getfield 7, 3), (206, .aload_n 0, 1), (207, .getfield 68, 3), (210, .iload_n 1, 1), (211, .i2l, 1), (212, .ldc2_w 172, 3), (215, .ladd, 1), (216, .bipush 32, 2), (218, .lshl, 1), (219, .aload_n 0, 1), (220, .getfield 68, 3), (223, .i2l, 1), (224, .lor, 1), (225, .lastore, 1), (226, .aload_n 0, 1), (227, .dup, 1), (228, .getfield 68, 3), (231, .iconst 1, 1), (232, .iadd, 1), (233, .putfield 68, 3), (236, .return_, 1)]
theorem B_rm_ev_ok : okB prog_39_method_24_code B_rm_ev = true := by decide +kernel
set_option maxRecDepth 65536 in
set_option maxHeartbeats 40000000 in
theorem rm_ev (l : Launch) (Z : State) (a0 : Array Value) (hw : ∀ d ∈ tables_1, d.before a0 Z = true) (pa : Addr) (ad : Nat → Addr) (xs : List Int64) (t c sc : Int32) (hc : c.toInt = xs.length) (hk : xs.length < 16) : Ct l Z EL1 nw1 (⟨"com/example/trapeze/trapeze/scheduling/Profile", "addEvent", "(IJJI)V"⟩ : MethodName) prog_39_method_24_code 7 none [] ({ frames := 0, cells := 0, slots := 0, locals := 0 } : Room) [.ref pa, .int t, .long 0, .long 0, .int 0] [(pa, true, .inl kP, [.ref (ad 0), .ref (ad 1), .ref (ad 2), .ref (ad 3), .ref (ad 4), .ref (ad 5), .ref (ad 6), .ref (ad 7), .ref (ad 8), .ref (ad 9), .ref (ad 10), .ref (ad 11), .ref (ad 12), .ref (ad 13), .ref (ad 14), .ref (ad 15), .ref (ad 16), .ref (ad 17), .int c, .int sc, .int 1, .int 1]), (ad 0, true, .inr .long, evs xs), (ad 1, true, .inr .long, List.replicate 16 (.long 0)), (ad 2, true, .inr .long, List.replicate 16 (.long 0)), (ad 3, true, .inr (.object "com/example/trapeze/trapeze/core/Rational"), List.replicate 16 (.null)), (ad 7, true, .inr .int, List.replicate 16 (.int 0))] (fun v L => v = none ∧ L = [(pa, true, .inl kP, [.ref (ad 0), .ref (ad 1), .ref (ad 2), .ref (ad 3), .ref (ad 4), .ref (ad 5), .ref (ad 6), .ref (ad 7), .ref (ad 8), .ref (ad 9), .ref (ad 10), .ref (ad 11), .ref (ad 12), .ref (ad 13), .ref (ad 14), .ref (ad 15), .ref (ad 16), .ref (ad 17), .int (c + 1), .int sc, .int 1, .int 1]), (ad 0, true, .inr .long, evs (xs ++ [evV t c])), (ad 1, true, .inr .long, List.replicate 16 (.long 0)), (ad 2, true, .inr .long, List.replicate 16 (.long 0)), (ad 3, true, .inr (.object "com/example/trapeze/trapeze/core/Rational"), List.replicate 16 (.null)), (ad 7, true, .inr .int, List.replicate 16 (.int 0))]) := by
  refine ct_of pn1 (B := B_rm_ev) (ls := [.val (.ref pa), .val (.int t), .val (.long 0), .second, .val (.long 0), .second, .val (.int 0)]) B_rm_ev_ok (ew1 hw) (fun m => by first | (simp [entryFrame, mkF, argsToLocals, Value.category]; done) | rfl) (fun K C => ?_)
  refine wp_blk C 0 1 (pc' := 1) (ls' := [.val (.ref pa), .val (.int t), .val (.long 0), .second, .val (.long 0), .second, .val (.int 0)]) (st' := [.ref pa]) rfl ?_
  refine wp_get C 1 4 0 18 rfl rfl (wd hw 69 rfl) Via.refl rfl rfl rfl ?_
  refine wp_blk C 2 1 (pc' := 5) (ls' := [.val (.ref pa), .val (.int t), .val (.long 0), .second, .val (.long 0), .second, .val (.int 0)]) (st' := [.ref pa, .int c]) rfl ?_
  refine wp_get C 3 8 0 0 rfl rfl (wd hw 25 rfl) Via.refl rfl rfl rfl ?_
  refine wp_len C (z := 16) 4 9 1 rfl rfl rfl (by rw [evs_len (by omega)]; rfl) ?_
  refine wp_icmp C 5 160 12 rfl rfl rfl (by decide) (fun _ => ?_) (fun h => absurd h (fun q : c = 16 => by rw [q] at hc; have : (16 : Int32).toInt = 16 := rfl; omega))
  refine wp_blk C 6 1 (pc' := 161) (ls' := [.val (.ref pa), .val (.int t), .val (.long 0), .second, .val (.long 0), .second, .val (.int 0)]) (st' := [.ref pa]) rfl ?_
  refine wp_get C 7 164 0 1 rfl rfl (wd hw 27 rfl) Via.refl rfl rfl rfl ?_
  refine wp_blk C 8 1 (pc' := 165) (ls' := [.val (.ref pa), .val (.int t), .val (.long 0), .second, .val (.long 0), .second, .val (.int 0)]) (st' := [.ref pa, .ref (ad 1)]) rfl ?_
  refine wp_get C 9 168 0 18 rfl rfl (wd hw 69 rfl) Via.refl rfl rfl rfl ?_
  refine wp_blk C 10 1 (pc' := 169) (ls' := [.val (.ref pa), .val (.int t), .val (.long 0), .second, .val (.long 0), .second, .val (.int 0)]) (st' := [.long 0, .int c, .ref (ad 1)]) rfl ?_
  refine wp_stoJ C (n := xs.length) (vs' := List.replicate 16 (.long 0)) (L' := [(pa, true, .inl kP, [.ref (ad 0), .ref (ad 1), .ref (ad 2), .ref (ad 3), .ref (ad 4), .ref (ad 5), .ref (ad 6), .ref (ad 7), .ref (ad 8), .ref (ad 9), .ref (ad 10), .ref (ad 11), .ref (ad 12), .ref (ad 13), .ref (ad 14), .ref (ad 15), .ref (ad 16), .ref (ad 17), .int c, .int sc, .int 1, .int 1]), (ad 0, true, .inr .long, evs xs), (ad 1, true, .inr .long, List.replicate 16 (.long 0)), (ad 2, true, .inr .long, List.replicate 16 (.long 0)), (ad 3, true, .inr (.object "com/example/trapeze/trapeze/core/Rational"), List.replicate 16 (.null)), (ad 7, true, .inr .int, List.replicate 16 (.int 0))]) 11 170 2 rfl rfl rfl hc (by rw [List.length_replicate]; omega) rep_set rfl ?_
  refine wp_blk C 12 1 (pc' := 171) (ls' := [.val (.ref pa), .val (.int t), .val (.long 0), .second, .val (.long 0), .second, .val (.int 0)]) (st' := [.ref pa]) rfl ?_
  refine wp_get C 13 174 0 2 rfl rfl (wd hw 29 rfl) Via.refl rfl rfl rfl ?_
  refine wp_blk C 14 1 (pc' := 175) (ls' := [.val (.ref pa), .val (.int t), .val (.long 0), .second, .val (.long 0), .second, .val (.int 0)]) (st' := [.ref pa, .ref (ad 2)]) rfl ?_
  refine wp_get C 15 178 0 18 rfl rfl (wd hw 69 rfl) Via.refl rfl rfl rfl ?_
  refine wp_blk C 16 1 (pc' := 180) (ls' := [.val (.ref pa), .val (.int t), .val (.long 0), .second, .val (.long 0), .second, .val (.int 0)]) (st' := [.long 0, .int c, .ref (ad 2)]) rfl ?_
  refine wp_stoJ C (n := xs.length) (vs' := List.replicate 16 (.long 0)) (L' := [(pa, true, .inl kP, [.ref (ad 0), .ref (ad 1), .ref (ad 2), .ref (ad 3), .ref (ad 4), .ref (ad 5), .ref (ad 6), .ref (ad 7), .ref (ad 8), .ref (ad 9), .ref (ad 10), .ref (ad 11), .ref (ad 12), .ref (ad 13), .ref (ad 14), .ref (ad 15), .ref (ad 16), .ref (ad 17), .int c, .int sc, .int 1, .int 1]), (ad 0, true, .inr .long, evs xs), (ad 1, true, .inr .long, List.replicate 16 (.long 0)), (ad 2, true, .inr .long, List.replicate 16 (.long 0)), (ad 3, true, .inr (.object "com/example/trapeze/trapeze/core/Rational"), List.replicate 16 (.null)), (ad 7, true, .inr .int, List.replicate 16 (.int 0))]) 17 181 3 rfl rfl rfl hc (by rw [List.length_replicate]; omega) rep_set rfl ?_
  refine wp_blk C 18 1 (pc' := 182) (ls' := [.val (.ref pa), .val (.int t), .val (.long 0), .second, .val (.long 0), .second, .val (.int 0)]) (st' := [.ref pa]) rfl ?_
  refine wp_get C 19 185 0 3 rfl rfl (wd hw 33 rfl) Via.refl rfl rfl rfl ?_
  refine wp_blk C 20 1 (pc' := 186) (ls' := [.val (.ref pa), .val (.int t), .val (.long 0), .second, .val (.long 0), .second, .val (.int 0)]) (st' := [.ref pa, .ref (ad 3)]) rfl ?_
  refine wp_get C 21 189 0 18 rfl rfl (wd hw 69 rfl) Via.refl rfl rfl rfl ?_
  refine wp_blk C 22 1 (pc' := 190) (ls' := [.val (.ref pa), .val (.int t), .val (.long 0), .second, .val (.long 0), .second, .val (.int 0)]) (st' := [.null, .int c, .ref (ad 3)]) rfl ?_
  refine wp_stoN C (n := xs.length) (vs' := List.replicate 16 (.null)) (L' := [(pa, true, .inl kP, [.ref (ad 0), .ref (ad 1), .ref (ad 2), .ref (ad 3), .ref (ad 4), .ref (ad 5), .ref (ad 6), .ref (ad 7), .ref (ad 8), .ref (ad 9), .ref (ad 10), .ref (ad 11), .ref (ad 12), .ref (ad 13), .ref (ad 14), .ref (ad 15), .ref (ad 16), .ref (ad 17), .int c, .int sc, .int 1, .int 1]), (ad 0, true, .inr .long, evs xs), (ad 1, true, .inr .long, List.replicate 16 (.long 0)), (ad 2, true, .inr .long, List.replicate 16 (.long 0)), (ad 3, true, .inr (.object "com/example/trapeze/trapeze/core/Rational"), List.replicate 16 (.null)), (ad 7, true, .inr .int, List.replicate 16 (.int 0))]) 23 191 4 rfl rfl rfl rfl hc (by rw [List.length_replicate]; omega) rep_set rfl ?_
  refine wp_blk C 24 1 (pc' := 192) (ls' := [.val (.ref pa), .val (.int t), .val (.long 0), .second, .val (.long 0), .second, .val (.int 0)]) (st' := [.ref pa]) rfl ?_
  refine wp_get C 25 195 0 7 rfl rfl (wd hw 42 rfl) Via.refl rfl rfl rfl ?_
  refine wp_blk C 26 1 (pc' := 196) (ls' := [.val (.ref pa), .val (.int t), .val (.long 0), .second, .val (.long 0), .second, .val (.int 0)]) (st' := [.ref pa, .ref (ad 7)]) rfl ?_
  refine wp_get C 27 199 0 18 rfl rfl (wd hw 69 rfl) Via.refl rfl rfl rfl ?_
  refine wp_blk C 28 1 (pc' := 201) (ls' := [.val (.ref pa), .val (.int t), .val (.long 0), .second, .val (.long 0), .second, .val (.int 0)]) (st' := [.int 0, .int c, .ref (ad 7)]) rfl ?_
  refine wp_stoI C (n := xs.length) (vs' := List.replicate 16 (.int 0)) (L' := [(pa, true, .inl kP, [.ref (ad 0), .ref (ad 1), .ref (ad 2), .ref (ad 3), .ref (ad 4), .ref (ad 5), .ref (ad 6), .ref (ad 7), .ref (ad 8), .ref (ad 9), .ref (ad 10), .ref (ad 11), .ref (ad 12), .ref (ad 13), .ref (ad 14), .ref (ad 15), .ref (ad 16), .ref (ad 17), .int c, .int sc, .int 1, .int 1]), (ad 0, true, .inr .long, evs xs), (ad 1, true, .inr .long, List.replicate 16 (.long 0)), (ad 2, true, .inr .long, List.replicate 16 (.long 0)), (ad 3, true, .inr (.object "com/example/trapeze/trapeze/core/Rational"), List.replicate 16 (.null)), (ad 7, true, .inr .int, List.replicate 16 (.int 0))]) 29 202 5 rfl rfl rfl hc (by rw [List.length_replicate]; omega) rep_set rfl ?_
  refine wp_blk C 30 1 (pc' := 203) (ls' := [.val (.ref pa), .val (.int t), .val (.long 0), .second, .val (.long 0), .second, .val (.int 0)]) (st' := [.ref pa]) rfl ?_
  refine wp_get C 31 206 0 0 rfl rfl (wd hw 25 rfl) Via.refl rfl rfl rfl ?_
  refine wp_blk C 32 1 (pc' := 207) (ls' := [.val (.ref pa), .val (.int t), .val (.long 0), .second, .val (.long 0), .second, .val (.int 0)]) (st' := [.ref pa, .ref (ad 0)]) rfl ?_
  refine wp_get C 33 210 0 18 rfl rfl (wd hw 69 rfl) Via.refl rfl rfl rfl ?_
  refine wp_blk C 34 2 (pc' := 212) (ls' := [.val (.ref pa), .val (.int t), .val (.long 0), .second, .val (.long 0), .second, .val (.int 0)]) (st' := [.long ((t : Int32).toInt64), .int c, .ref (ad 0)]) rfl ?_
  refine wp_ldcJ C 36 215 rfl rfl (wd hw 86 rfl) ?_
  refine wp_blk C 37 4 (pc' := 220) (ls' := [.val (.ref pa), .val (.int t), .val (.long 0), .second, .val (.long 0), .second, .val (.int 0)]) (st' := [.ref pa, .long (shlL (((t : Int32).toInt64) + 1000000000) 32), .int c, .ref (ad 0)]) rfl ?_
  refine wp_get C 41 223 0 18 rfl rfl (wd hw 69 rfl) Via.refl rfl rfl rfl ?_
  refine wp_blk C 42 2 (pc' := 225) (ls' := [.val (.ref pa), .val (.int t), .val (.long 0), .second, .val (.long 0), .second, .val (.int 0)]) (st' := [.long ((shlL (((t : Int32).toInt64) + 1000000000) 32) ||| ((c : Int32).toInt64)), .int c, .ref (ad 0)]) rfl ?_
  refine wp_stoJ C (n := xs.length) (vs' := evs (xs ++ [evV t c])) (L' := [(pa, true, .inl kP, [.ref (ad 0), .ref (ad 1), .ref (ad 2), .ref (ad 3), .ref (ad 4), .ref (ad 5), .ref (ad 6), .ref (ad 7), .ref (ad 8), .ref (ad 9), .ref (ad 10), .ref (ad 11), .ref (ad 12), .ref (ad 13), .ref (ad 14), .ref (ad 15), .ref (ad 16), .ref (ad 17), .int c, .int sc, .int 1, .int 1]), (ad 0, true, .inr .long, evs (xs ++ [evV t c])), (ad 1, true, .inr .long, List.replicate 16 (.long 0)), (ad 2, true, .inr .long, List.replicate 16 (.long 0)), (ad 3, true, .inr (.object "com/example/trapeze/trapeze/core/Rational"), List.replicate 16 (.null)), (ad 7, true, .inr .int, List.replicate 16 (.int 0))]) 44 226 1 rfl rfl rfl hc (by rw [evs_len (by omega)]; omega) (evs_set hk) rfl ?_
  refine wp_blk C 45 2 (pc' := 228) (ls' := [.val (.ref pa), .val (.int t), .val (.long 0), .second, .val (.long 0), .second, .val (.int 0)]) (st' := [.ref pa, .ref pa]) rfl ?_
  refine wp_get C 47 231 0 18 rfl rfl (wd hw 69 rfl) Via.refl rfl rfl rfl ?_
  refine wp_blk C 48 2 (pc' := 233) (ls' := [.val (.ref pa), .val (.int t), .val (.long 0), .second, .val (.long 0), .second, .val (.int 0)]) (st' := [.int (c + 1), .ref pa]) rfl ?_
  refine wp_put C (ty := .int) (v := .int (c + 1)) (vs' := [.ref (ad 0), .ref (ad 1), .ref (ad 2), .ref (ad 3), .ref (ad 4), .ref (ad 5), .ref (ad 6), .ref (ad 7), .ref (ad 8), .ref (ad 9), .ref (ad 10), .ref (ad 11), .ref (ad 12), .ref (ad 13), .ref (ad 14), .ref (ad 15), .ref (ad 16), .ref (ad 17), .int (c + 1), .int sc, .int 1, .int 1]) (L' := [(pa, true, .inl kP, [.ref (ad 0), .ref (ad 1), .ref (ad 2), .ref (ad 3), .ref (ad 4), .ref (ad 5), .ref (ad 6), .ref (ad 7), .ref (ad 8), .ref (ad 9), .ref (ad 10), .ref (ad 11), .ref (ad 12), .ref (ad 13), .ref (ad 14), .ref (ad 15), .ref (ad 16), .ref (ad 17), .int (c + 1), .int sc, .int 1, .int 1]), (ad 0, true, .inr .long, evs (xs ++ [evV t c])), (ad 1, true, .inr .long, List.replicate 16 (.long 0)), (ad 2, true, .inr .long, List.replicate 16 (.long 0)), (ad 3, true, .inr (.object "com/example/trapeze/trapeze/core/Rational"), List.replicate 16 (.null)), (ad 7, true, .inr .int, List.replicate 16 (.int 0))]) 50 236 0 18 rfl rfl (wd hw 69 rfl) Via.refl (Or.inl (wd hw 70 rfl)) (wd hw 16 rfl) (kP_ok hw) fd3 rfl rfl rfl rfl rfl rfl rfl ?_
  exact wp_ret0 C 51 rfl (by decide) (by decide) (⟨rfl, rfl⟩)
theorem pn2 : plainFor (⟨"com/example/trapeze/trapeze/scheduling/Profile", "addBoundary", "(I)V"⟩ : MethodName) = true := by first | (refine plainFor_of_name ?_; simp [plainName, overriddenIn]; done) | (refine plainFor_of_name ?_; decide +kernel) | decide +kernel
theorem pd0 : parseMethodDescriptor "(IJJI)V" = some ⟨[.int, .long, .long, .int], none⟩ := by decide +kernel
def B_rm_bd : Prog := [(0, .aload_n 0, 1), (1, .iload_n 1, 1), (2, .lconst 0, 1), (3, .lconst 0, 1), (4, .iconst 0, 1), (5, .invokevirtual 86, 3), (8, .return_, 1)]
theorem B_rm_bd_ok : okB prog_39_method_5_code B_rm_bd = true := by decide +kernel
set_option maxRecDepth 65536 in
set_option maxHeartbeats 40000000 in
theorem rm_bd (l : Launch) (Z : State) (a0 : Array Value) (hw : ∀ d ∈ tables_1, d.before a0 Z = true) (pa : Addr) (ad : Nat → Addr) (xs : List Int64) (t c sc : Int32) (hc : c.toInt = xs.length) (hk : xs.length < 16) : Ct l Z EL1 nw1 (⟨"com/example/trapeze/trapeze/scheduling/Profile", "addBoundary", "(I)V"⟩ : MethodName) prog_39_method_5_code 2 none [] ({ frames := 1, cells := 0, slots := 0, locals := 18 } : Room) [.ref pa, .int t] [(pa, true, .inl kP, [.ref (ad 0), .ref (ad 1), .ref (ad 2), .ref (ad 3), .ref (ad 4), .ref (ad 5), .ref (ad 6), .ref (ad 7), .ref (ad 8), .ref (ad 9), .ref (ad 10), .ref (ad 11), .ref (ad 12), .ref (ad 13), .ref (ad 14), .ref (ad 15), .ref (ad 16), .ref (ad 17), .int c, .int sc, .int 1, .int 1]), (ad 0, true, .inr .long, evs xs), (ad 1, true, .inr .long, List.replicate 16 (.long 0)), (ad 2, true, .inr .long, List.replicate 16 (.long 0)), (ad 3, true, .inr (.object "com/example/trapeze/trapeze/core/Rational"), List.replicate 16 (.null)), (ad 7, true, .inr .int, List.replicate 16 (.int 0))] (fun v L => v = none ∧ L = [(pa, true, .inl kP, [.ref (ad 0), .ref (ad 1), .ref (ad 2), .ref (ad 3), .ref (ad 4), .ref (ad 5), .ref (ad 6), .ref (ad 7), .ref (ad 8), .ref (ad 9), .ref (ad 10), .ref (ad 11), .ref (ad 12), .ref (ad 13), .ref (ad 14), .ref (ad 15), .ref (ad 16), .ref (ad 17), .int (c + 1), .int sc, .int 1, .int 1]), (ad 0, true, .inr .long, evs (xs ++ [evV t c])), (ad 1, true, .inr .long, List.replicate 16 (.long 0)), (ad 2, true, .inr .long, List.replicate 16 (.long 0)), (ad 3, true, .inr (.object "com/example/trapeze/trapeze/core/Rational"), List.replicate 16 (.null)), (ad 7, true, .inr .int, List.replicate 16 (.int 0))]) := by
  refine ct_of pn2 (B := B_rm_bd) (ls := [.val (.ref pa), .val (.int t)]) B_rm_bd_ok (ew1 hw) (fun m => by first | (simp [entryFrame, mkF, argsToLocals, Value.category]; done) | rfl) (fun K C => ?_)
  refine wp_blk C 0 5 (pc' := 5) (ls' := [.val (.ref pa), .val (.int t)]) (st' := [.int 0, .long 0, .long 0, .int t, .ref pa]) rfl ?_
  refine wp_private C (al := [.int t, .long 0, .long 0, .int 0]) (rest := []) (L1 := []) (W := 0) (cells' := 0) (slots' := 0) 5 8 0 (rm_ev l Z a0 hw pa ad xs t c sc hc hk) rfl rfl rfl (wd hw 82 rfl) (wd hw 83 rfl) (Jvm.Kit.selects_private (by decide) (wd hw 16 rfl) (wd hw 84 rfl) (wd hw 83 rfl)) (wd hw 84 rfl) (wd hw 85 rfl) (wd hw 17 rfl) (by decide) pd0 rfl rfl rfl rfl (by decide) (by decide) rfl rfl rfl (by decide) (by decide) (fun v L' hQ => ?_)
  obtain ⟨rfl, rfl⟩ := hQ
  show Wp K 0 0 [(pa, true, .inl kP, [.ref (ad 0), .ref (ad 1), .ref (ad 2), .ref (ad 3), .ref (ad 4), .ref (ad 5), .ref (ad 6), .ref (ad 7), .ref (ad 8), .ref (ad 9), .ref (ad 10), .ref (ad 11), .ref (ad 12), .ref (ad 13), .ref (ad 14), .ref (ad 15), .ref (ad 16), .ref (ad 17), .int (c + 1), .int sc, .int 1, .int 1]), (ad 0, true, .inr .long, evs (xs ++ [evV t c])), (ad 1, true, .inr .long, List.replicate 16 (.long 0)), (ad 2, true, .inr .long, List.replicate 16 (.long 0)), (ad 3, true, .inr (.object "com/example/trapeze/trapeze/core/Rational"), List.replicate 16 (.null)), (ad 7, true, .inr .int, List.replicate 16 (.int 0))] 8 [.val (.ref pa), .val (.int t)] []
  exact wp_ret0 C 6 rfl (by decide) (by decide) (⟨rfl, rfl⟩)
theorem pn3 : plainFor (⟨"com/example/trapeze/trapeze/scheduling/Profile", "clear", "(II)V"⟩ : MethodName) = true := by first | (refine plainFor_of_name ?_; simp [plainName, overriddenIn]; done) | (refine plainFor_of_name ?_; decide +kernel) | decide +kernel
theorem fd4 : parseFieldDescriptor "Z" = some .boolean := by decide +kernel
theorem pd1 : parseMethodDescriptor "(I)V" = some ⟨[.int], none⟩ := by decide +kernel
def B_rm_clear : Prog := [(0, .aload_n 0, 1), (1, .iconst 0, 1), (2, .putfield 68, 3), (5, .aload_n 0, 1), (6, .iconst 0, 1), (7, .putfield 72, 3), (10, .aload_n 0, 1), (11, .iconst 1, 1), (12, .putfield 75, 3), (15, .aload_n 0, 1), (16, .iconst 1, 1), (17, .putfield 79, 3), (20, .aload_n 0, 1), (21, .iload_n 1, 1), (22, .invokevirtual 82, 3), (25, .aload_n 0, 1), (26, .iload_n 2, 1), (27, .invokevirtual 82, 3), (30, .return_, 1)]
theorem B_rm_clear_ok : okB prog_39_method_2_code B_rm_clear = true := by decide +kernel
set_option maxRecDepth 65536 in
set_option maxHeartbeats 40000000 in
theorem rm_clear (l : Launch) (Z : State) (a0 : Array Value) (hw : ∀ d ∈ tables_1, d.before a0 Z = true) (pa : Addr) (ad : Nat → Addr) (s e : Int32) : Ct l Z EL1 nw1 (⟨"com/example/trapeze/trapeze/scheduling/Profile", "clear", "(II)V"⟩ : MethodName) prog_39_method_2_code 3 none [] ({ frames := 2, cells := 0, slots := 0, locals := 32 } : Room) [.ref pa, .int s, .int e] [(pa, true, .inl kP, [.ref (ad 0), .ref (ad 1), .ref (ad 2), .ref (ad 3), .ref (ad 4), .ref (ad 5), .ref (ad 6), .ref (ad 7), .ref (ad 8), .ref (ad 9), .ref (ad 10), .ref (ad 11), .ref (ad 12), .ref (ad 13), .ref (ad 14), .ref (ad 15), .ref (ad 16), .ref (ad 17), .int 0, .int 0, .int 0, .int 0]), (ad 0, true, .inr .long, evs []), (ad 1, true, .inr .long, List.replicate 16 (.long 0)), (ad 2, true, .inr .long, List.replicate 16 (.long 0)), (ad 3, true, .inr (.object "com/example/trapeze/trapeze/core/Rational"), List.replicate 16 (.null)), (ad 7, true, .inr .int, List.replicate 16 (.int 0))] (fun v L => v = none ∧ L = [(pa, true, .inl kP, [.ref (ad 0), .ref (ad 1), .ref (ad 2), .ref (ad 3), .ref (ad 4), .ref (ad 5), .ref (ad 6), .ref (ad 7), .ref (ad 8), .ref (ad 9), .ref (ad 10), .ref (ad 11), .ref (ad 12), .ref (ad 13), .ref (ad 14), .ref (ad 15), .ref (ad 16), .ref (ad 17), .int 2, .int 0, .int 1, .int 1]), (ad 0, true, .inr .long, evs [evV s 0, evV e 1]), (ad 1, true, .inr .long, List.replicate 16 (.long 0)), (ad 2, true, .inr .long, List.replicate 16 (.long 0)), (ad 3, true, .inr (.object "com/example/trapeze/trapeze/core/Rational"), List.replicate 16 (.null)), (ad 7, true, .inr .int, List.replicate 16 (.int 0))]) := by
  refine ct_of pn3 (B := B_rm_clear) (ls := [.val (.ref pa), .val (.int s), .val (.int e)]) B_rm_clear_ok (ew1 hw) (fun m => by first | (simp [entryFrame, mkF, argsToLocals, Value.category]; done) | rfl) (fun K C => ?_)
  refine wp_blk C 0 2 (pc' := 2) (ls' := [.val (.ref pa), .val (.int s), .val (.int e)]) (st' := [.int 0, .ref pa]) rfl ?_
  refine wp_put C (ty := .int) (v := .int 0) (vs' := [.ref (ad 0), .ref (ad 1), .ref (ad 2), .ref (ad 3), .ref (ad 4), .ref (ad 5), .ref (ad 6), .ref (ad 7), .ref (ad 8), .ref (ad 9), .ref (ad 10), .ref (ad 11), .ref (ad 12), .ref (ad 13), .ref (ad 14), .ref (ad 15), .ref (ad 16), .ref (ad 17), .int 0, .int 0, .int 0, .int 0]) (L' := [(pa, true, .inl kP, [.ref (ad 0), .ref (ad 1), .ref (ad 2), .ref (ad 3), .ref (ad 4), .ref (ad 5), .ref (ad 6), .ref (ad 7), .ref (ad 8), .ref (ad 9), .ref (ad 10), .ref (ad 11), .ref (ad 12), .ref (ad 13), .ref (ad 14), .ref (ad 15), .ref (ad 16), .ref (ad 17), .int 0, .int 0, .int 0, .int 0]), (ad 0, true, .inr .long, evs []), (ad 1, true, .inr .long, List.replicate 16 (.long 0)), (ad 2, true, .inr .long, List.replicate 16 (.long 0)), (ad 3, true, .inr (.object "com/example/trapeze/trapeze/core/Rational"), List.replicate 16 (.null)), (ad 7, true, .inr .int, List.replicate 16 (.int 0))]) 2 5 0 18 rfl rfl (wd hw 69 rfl) Via.refl (Or.inl (wd hw 70 rfl)) (wd hw 16 rfl) (kP_ok hw) fd3 rfl rfl rfl rfl rfl rfl rfl ?_
  refine wp_blk C 3 2 (pc' := 7) (ls' := [.val (.ref pa), .val (.int s), .val (.int e)]) (st' := [.int 0, .ref pa]) rfl ?_
  refine wp_put C (ty := .int) (v := .int 0) (vs' := [.ref (ad 0), .ref (ad 1), .ref (ad 2), .ref (ad 3), .ref (ad 4), .ref (ad 5), .ref (ad 6), .ref (ad 7), .ref (ad 8), .ref (ad 9), .ref (ad 10), .ref (ad 11), .ref (ad 12), .ref (ad 13), .ref (ad 14), .ref (ad 15), .ref (ad 16), .ref (ad 17), .int 0, .int 0, .int 0, .int 0]) (L' := [(pa, true, .inl kP, [.ref (ad 0), .ref (ad 1), .ref (ad 2), .ref (ad 3), .ref (ad 4), .ref (ad 5), .ref (ad 6), .ref (ad 7), .ref (ad 8), .ref (ad 9), .ref (ad 10), .ref (ad 11), .ref (ad 12), .ref (ad 13), .ref (ad 14), .ref (ad 15), .ref (ad 16), .ref (ad 17), .int 0, .int 0, .int 0, .int 0]), (ad 0, true, .inr .long, evs []), (ad 1, true, .inr .long, List.replicate 16 (.long 0)), (ad 2, true, .inr .long, List.replicate 16 (.long 0)), (ad 3, true, .inr (.object "com/example/trapeze/trapeze/core/Rational"), List.replicate 16 (.null)), (ad 7, true, .inr .int, List.replicate 16 (.int 0))]) 5 10 0 19 rfl rfl (wd hw 71 rfl) Via.refl (Or.inl (wd hw 72 rfl)) (wd hw 16 rfl) (kP_ok hw) fd3 rfl rfl rfl rfl rfl rfl rfl ?_
  refine wp_blk C 6 2 (pc' := 12) (ls' := [.val (.ref pa), .val (.int s), .val (.int e)]) (st' := [.int 1, .ref pa]) rfl ?_
  refine wp_put C (ty := .boolean) (v := .int 1) (vs' := [.ref (ad 0), .ref (ad 1), .ref (ad 2), .ref (ad 3), .ref (ad 4), .ref (ad 5), .ref (ad 6), .ref (ad 7), .ref (ad 8), .ref (ad 9), .ref (ad 10), .ref (ad 11), .ref (ad 12), .ref (ad 13), .ref (ad 14), .ref (ad 15), .ref (ad 16), .ref (ad 17), .int 0, .int 0, .int 1, .int 0]) (L' := [(pa, true, .inl kP, [.ref (ad 0), .ref (ad 1), .ref (ad 2), .ref (ad 3), .ref (ad 4), .ref (ad 5), .ref (ad 6), .ref (ad 7), .ref (ad 8), .ref (ad 9), .ref (ad 10), .ref (ad 11), .ref (ad 12), .ref (ad 13), .ref (ad 14), .ref (ad 15), .ref (ad 16), .ref (ad 17), .int 0, .int 0, .int 1, .int 0]), (ad 0, true, .inr .long, evs []), (ad 1, true, .inr .long, List.replicate 16 (.long 0)), (ad 2, true, .inr .long, List.replicate 16 (.long 0)), (ad 3, true, .inr (.object "com/example/trapeze/trapeze/core/Rational"), List.replicate 16 (.null)), (ad 7, true, .inr .int, List.replicate 16 (.int 0))]) 8 15 0 20 rfl rfl (wd hw 73 rfl) Via.refl (Or.inl (wd hw 74 rfl)) (wd hw 16 rfl) (kP_ok hw) fd4 rfl rfl rfl rfl rfl rfl rfl ?_
  refine wp_blk C 9 2 (pc' := 17) (ls' := [.val (.ref pa), .val (.int s), .val (.int e)]) (st' := [.int 1, .ref pa]) rfl ?_
  refine wp_put C (ty := .boolean) (v := .int 1) (vs' := [.ref (ad 0), .ref (ad 1), .ref (ad 2), .ref (ad 3), .ref (ad 4), .ref (ad 5), .ref (ad 6), .ref (ad 7), .ref (ad 8), .ref (ad 9), .ref (ad 10), .ref (ad 11), .ref (ad 12), .ref (ad 13), .ref (ad 14), .ref (ad 15), .ref (ad 16), .ref (ad 17), .int 0, .int 0, .int 1, .int 1]) (L' := [(pa, true, .inl kP, [.ref (ad 0), .ref (ad 1), .ref (ad 2), .ref (ad 3), .ref (ad 4), .ref (ad 5), .ref (ad 6), .ref (ad 7), .ref (ad 8), .ref (ad 9), .ref (ad 10), .ref (ad 11), .ref (ad 12), .ref (ad 13), .ref (ad 14), .ref (ad 15), .ref (ad 16), .ref (ad 17), .int 0, .int 0, .int 1, .int 1]), (ad 0, true, .inr .long, evs []), (ad 1, true, .inr .long, List.replicate 16 (.long 0)), (ad 2, true, .inr .long, List.replicate 16 (.long 0)), (ad 3, true, .inr (.object "com/example/trapeze/trapeze/core/Rational"), List.replicate 16 (.null)), (ad 7, true, .inr .int, List.replicate 16 (.int 0))]) 11 20 0 21 rfl rfl (wd hw 75 rfl) Via.refl (Or.inl (wd hw 76 rfl)) (wd hw 16 rfl) (kP_ok hw) fd4 rfl rfl rfl rfl rfl rfl rfl ?_
  refine wp_blk C 12 2 (pc' := 22) (ls' := [.val (.ref pa), .val (.int s), .val (.int e)]) (st' := [.int s, .ref pa]) rfl ?_
  show Wp K 0 0 [(pa, true, .inl kP, [.ref (ad 0), .ref (ad 1), .ref (ad 2), .ref (ad 3), .ref (ad 4), .ref (ad 5), .ref (ad 6), .ref (ad 7), .ref (ad 8), .ref (ad 9), .ref (ad 10), .ref (ad 11), .ref (ad 12), .ref (ad 13), .ref (ad 14), .ref (ad 15), .ref (ad 16), .ref (ad 17), .int 0, .int 0, .int 1, .int 1]), (ad 0, true, .inr .long, evs []), (ad 1, true, .inr .long, List.replicate 16 (.long 0)), (ad 2, true, .inr .long, List.replicate 16 (.long 0)), (ad 3, true, .inr (.object "com/example/trapeze/trapeze/core/Rational"), List.replicate 16 (.null)), (ad 7, true, .inr .int, List.replicate 16 (.int 0))] 22 [.val (.ref pa), .val (.int s), .val (.int e)] [.int s, .ref pa]
  refine wp_virtual C (al := [.int s]) (rest := []) (L1 := []) (W := 0) (cells' := 0) (slots' := 0) 14 25 0 (rm_bd l Z a0 hw pa ad [] s 0 0 rfl (by decide)) rfl rfl rfl (wd hw 77 rfl) (wd hw 78 rfl) (nf_self (wd hw 80 rfl)) (wd hw 80 rfl) (wd hw 79 rfl) (wd hw 81 rfl) (wd hw 17 rfl) (by decide) pd1 rfl rfl rfl rfl (by decide) (by decide) rfl rfl rfl (by decide) (by decide) (fun v L' hQ => ?_)
  obtain ⟨rfl, rfl⟩ := hQ
  show Wp K 0 0 [(pa, true, .inl kP, [.ref (ad 0), .ref (ad 1), .ref (ad 2), .ref (ad 3), .ref (ad 4), .ref (ad 5), .ref (ad 6), .ref (ad 7), .ref (ad 8), .ref (ad 9), .ref (ad 10), .ref (ad 11), .ref (ad 12), .ref (ad 13), .ref (ad 14), .ref (ad 15), .ref (ad 16), .ref (ad 17), .int 1, .int 0, .int 1, .int 1]), (ad 0, true, .inr .long, evs [evV s 0]), (ad 1, true, .inr .long, List.replicate 16 (.long 0)), (ad 2, true, .inr .long, List.replicate 16 (.long 0)), (ad 3, true, .inr (.object "com/example/trapeze/trapeze/core/Rational"), List.replicate 16 (.null)), (ad 7, true, .inr .int, List.replicate 16 (.int 0))] 25 [.val (.ref pa), .val (.int s), .val (.int e)] []
  refine wp_blk C 15 2 (pc' := 27) (ls' := [.val (.ref pa), .val (.int s), .val (.int e)]) (st' := [.int e, .ref pa]) rfl ?_
  refine wp_virtual C (al := [.int e]) (rest := []) (L1 := []) (W := 0) (cells' := 0) (slots' := 0) 17 30 0 (rm_bd l Z a0 hw pa ad [evV s 0] e 1 0 rfl (by simp)) rfl rfl rfl (wd hw 77 rfl) (wd hw 78 rfl) (nf_self (wd hw 80 rfl)) (wd hw 80 rfl) (wd hw 79 rfl) (wd hw 81 rfl) (wd hw 17 rfl) (by decide) pd1 rfl rfl rfl rfl (by decide) (by decide) rfl rfl rfl (by decide) (by decide) (fun v L' hQ => ?_)
  obtain ⟨rfl, rfl⟩ := hQ
  show Wp K 0 0 [(pa, true, .inl kP, [.ref (ad 0), .ref (ad 1), .ref (ad 2), .ref (ad 3), .ref (ad 4), .ref (ad 5), .ref (ad 6), .ref (ad 7), .ref (ad 8), .ref (ad 9), .ref (ad 10), .ref (ad 11), .ref (ad 12), .ref (ad 13), .ref (ad 14), .ref (ad 15), .ref (ad 16), .ref (ad 17), .int 2, .int 0, .int 1, .int 1]), (ad 0, true, .inr .long, evs [evV s 0, evV e 1]), (ad 1, true, .inr .long, List.replicate 16 (.long 0)), (ad 2, true, .inr .long, List.replicate 16 (.long 0)), (ad 3, true, .inr (.object "com/example/trapeze/trapeze/core/Rational"), List.replicate 16 (.null)), (ad 7, true, .inr .int, List.replicate 16 (.int 0))] 30 [.val (.ref pa), .val (.int s), .val (.int e)] []
  exact wp_ret0 C 18 rfl (by decide) (by decide) (⟨rfl, rfl⟩)
theorem pn4 : plainFor (⟨"java/util/Arrays", "rangeCheck", "(III)V"⟩ : MethodName) = true := by first | (refine plainFor_of_name ?_; simp [plainName, overriddenIn]; done) | (refine plainFor_of_name ?_; decide +kernel) | decide +kernel
def B_rm_rc : Prog := [(0, .iload_n 1, 1), (1, .iload_n 2, 1), (2, .if_icmp .le 44, 3), (46, .iload_n 1, 1), (47, .ifCond .ge 12, 3), (59, .iload_n 2, 1), (60, .iload_n 0, 1), (61, .if_icmp .le 12, 3), (73, .return_, 1)]
theorem B_rm_rc_ok : okB jdk_65_method_30_code B_rm_rc = true := by decide +kernel
set_option maxRecDepth 65536 in
set_option maxHeartbeats 40000000 in
theorem rm_rc (l : Launch) (Z : State) (a0 : Array Value) (hw : ∀ d ∈ tables_1, d.before a0 Z = true) (k : Int32) (h0 : 0 ≤ k.toInt) (h1 : k.toInt ≤ 16) : Ct l Z EL1 nw1 (⟨"java/util/Arrays", "rangeCheck", "(III)V"⟩ : MethodName) jdk_65_method_30_code 3 none [] ({ frames := 0, cells := 0, slots := 0, locals := 0 } : Room) [.int 16, .int 0, .int k] [] (fun v L => v = none ∧ L = []) := by
  refine ct_of pn4 (B := B_rm_rc) (ls := [.val (.int 16), .val (.int 0), .val (.int k)]) B_rm_rc_ok (ew1 hw) (fun m => by first | (simp [entryFrame, mkF, argsToLocals, Value.category]; done) | rfl) (fun K C => ?_)
  refine wp_blk C 0 2 (pc' := 2) (ls' := [.val (.int 16), .val (.int 0), .val (.int k)]) (st' := [.int k, .int 0]) rfl ?_
  refine wp_icmp C 2 46 5 rfl rfl rfl (by decide) (fun _ => ?_) (fun h => absurd h (fun q : k.toInt < (0 : Int32).toInt => by have : (0 : Int32).toInt = 0 := rfl; omega))
  refine wp_blk C 3 1 (pc' := 47) (ls' := [.val (.int 16), .val (.int 0), .val (.int k)]) (st' := [.int 0]) rfl ?_
  refine wp_ifz C 4 59 50 rfl rfl rfl (by decide) (fun _ => ?_) (fun h => absurd h (fun q : (0 : Int32).toInt < (0 : Int32).toInt => by omega))
  refine wp_blk C 5 2 (pc' := 61) (ls' := [.val (.int 16), .val (.int 0), .val (.int k)]) (st' := [.int 16, .int k]) rfl ?_
  refine wp_icmp C 7 73 64 rfl rfl rfl (by decide) (fun _ => ?_) (fun h => absurd h (fun q : (16 : Int32).toInt < k.toInt => by have : (16 : Int32).toInt = 16 := rfl; omega))
  exact wp_ret0 C 8 rfl (by decide) (by decide) (⟨rfl, rfl⟩)
theorem pn5 : plainFor (⟨"java/util/DualPivotQuicksort", "insertionSort", "([JII)V"⟩ : MethodName) = true := by first | (refine plainFor_of_name ?_; simp [plainName, overriddenIn]; done) | (refine plainFor_of_name ?_; decide +kernel) | decide +kernel
def B_rm_ins : Prog := [(0, .iload_n 1, 1), (1, .istore 4, 2), (3, .iinc 4 1, 3), (6, .iload 4, 2), (8, .iload_n 2, 1), (9, .if_icmp .ge 60, 3), (12, .aload_n 0, 1), (13, .iload 4, 2), (15, .dup, 1), (16, .istore_n 3, 1), (17, .laload, 1), (18, .lstore 5, 2), (20, .lload 5, 2), (22, .aload_n 0, 1), (23, .iload_n 3, 1), (24, .iconst 1, 1), (25, .isub, 1), (26, .laload, 1), (27, .lcmp, 1), (28, .ifCond .ge 38, 3), (31, .iinc 3 (-1), 3), (34, .iload_n 3, 1), (35, .iload_n 1, 1), (36, .if_icmp .lt 23, 3), (39, .lload 5, 2), (41, .aload_n 0, 1), (42, .iload_n 3, 1), (43, .laload, 1), (44, .lcmp, 1), (45, .ifCond .ge 14, 3), (48, .aload_n 0, 1), (49, .iload_n 3, 1), (50, .iconst 1, 1), (51, .iadd, 1), (52, .aload_n 0, 1), (53, .iload_n 3, 1), (54, .laload, 1), (55, .lastore, 1), (56, .goto (-25), 3), (59, .aload_n 0, 1), (60, .iload_n 3, 1), (61, .iconst 1, 1), (62, .iadd, 1), (63, .lload 5, 2), (65, .lastore, 1), (66, .goto (-63), 3), (69, .return_, 1)]
theorem B_rm_ins_ok : okB jdk_2529_method_15_code B_rm_ins = true := by decide +kernel
set_option maxRecDepth 65536 in
set_option maxHeartbeats 40000000 in
theorem rm_ins (l : Launch) (Z : State) (a0 : Array Value) (hw : ∀ d ∈ tables_1, d.before a0 Z = true) (a : Addr) (xs : List Int64) (k : Int32) (hk : k.toInt = xs.length) (hn0 : 0 < xs.length) (hn : xs.length ≤ 16) : Ct l Z EL1 nw1 (⟨"java/util/DualPivotQuicksort", "insertionSort", "([JII)V"⟩ : MethodName) jdk_2529_method_15_code 7 none [] ({ frames := 0, cells := 0, slots := 0, locals := 0 } : Room) [.ref a, .int 0, .int k] [(a, true, .inr .long, evs xs)] (fun v L => v = none ∧ ∃ ys : List Int64, ys.Perm xs ∧ ys.Pairwise (· ≤ ·) ∧ L = [(a, true, .inr .long, evs ys)]) := by
  refine ct_of pn5 (B := B_rm_ins) (ls := [.val (.ref a), .val (.int 0), .val (.int k), .unset, .unset, .unset, .unset]) B_rm_ins_ok (ew1 hw) (fun m => by first | (simp [entryFrame, mkF, argsToLocals, Value.category]; done) | rfl) (fun K C => ?_)
  obtain ⟨z, hz⟩ : ∃ z : List Int64, z = List.replicate (16 - xs.length) 0 := ⟨_, rfl⟩
  have hpost : ∀ ys : List Int64, ys.Perm xs → ys.Pairwise (· ≤ ·) → ∃ ys' : List Int64, ys'.Perm xs ∧ ys'.Pairwise (· ≤ ·) ∧ ([(a, true, Sum.inr FieldType.long, (ys ++ z).map Value.long)] : List Jvm.Wk.Item) = [(a, true, Sum.inr FieldType.long, evs ys')] := fun ys hp hs => ⟨ys, hp, hs, by unfold evs; rw [hp.length_eq, hz]⟩
  have outer : ∀ (d : Nat) (ys q : List Int64) (j : Int32) (s3 s5 s6 : Slot), q.length = d → (ys ++ q).Perm xs → ys.Pairwise (· ≤ ·) → 0 ≤ j.toInt → j.toInt + 1 = ys.length → ((s3 = .unset ∧ s5 = .unset ∧ s6 = .unset) ∨ ∃ (i : Int32) (v : Int64), s3 = .val (.int i) ∧ s5 = .val (.long v) ∧ s6 = .second) →
      Wp K 0 0 [(a, true, .inr .long, (ys ++ (q ++ z)).map Value.long)] 3 [.val (.ref a), .val (.int 0), .val (.int k), s3, .val (.int j), s5, s6] [] := by
    intro d
    induction d with
    | zero =>
      intro ys q j s3 s5 s6 hd hp hs hj0 hj ho
      obtain rfl := List.length_eq_zero_iff.mp hd
      have hl : ys.length = xs.length := by simpa using hp.length_eq
      rw [List.nil_append]
      rcases ho with ⟨rfl, rfl, rfl⟩ | ⟨i, v, rfl, rfl, rfl⟩
      · refine wp_blk C 2 3 (pc' := 9) (ls' := [.val (.ref a), .val (.int 0), .val (.int k), .unset, .val (.int (j + 1)), .unset, .unset]) (st' := [.int k, .int (j + 1)]) rfl ?_
        obtain ⟨j1, hj1⟩ : ∃ z : Int32, z = j + 1 := ⟨_, rfl⟩
        rw [← hj1]
        have Hj1 : j1.toInt = j.toInt + 1 := by rw [hj1]; exact addI rfl one32
        refine wp_icmp C 5 69 12 rfl rfl rfl (by decide) (fun _ => ?_) (fun h => absurd h (fun q : j1.toInt < k.toInt => by omega))
        exact wp_ret0 C 46 rfl (by decide) (by decide) (⟨rfl, hpost ys (by simpa using hp) hs⟩)
      · refine wp_blk C 2 3 (pc' := 9) (ls' := [.val (.ref a), .val (.int 0), .val (.int k), .val (.int i), .val (.int (j + 1)), .val (.long v), .second]) (st' := [.int k, .int (j + 1)]) rfl ?_
        obtain ⟨j1, hj1⟩ : ∃ z : Int32, z = j + 1 := ⟨_, rfl⟩
        rw [← hj1]
        have Hj1 : j1.toInt = j.toInt + 1 := by rw [hj1]; exact addI rfl one32
        refine wp_icmp C 5 69 12 rfl rfl rfl (by decide) (fun _ => ?_) (fun h => absurd h (fun q : j1.toInt < k.toInt => by omega))
        exact wp_ret0 C 46 rfl (by decide) (by decide) (⟨rfl, hpost ys (by simpa using hp) hs⟩)
    | succ d ih =>
      intro ys q j s3 s5 s6 hd hp hs hj0 hj ho
      obtain ⟨x, q, rfl⟩ : ∃ x q', q = x :: q' := by cases q with | nil => simp at hd | cons x q' => exact ⟨x, q', rfl⟩
      have hl : ys.length + (q.length + 1) = xs.length := by simpa using hp.length_eq
      have hd : q.length = d := by simpa using hd
      have hne : ys ≠ [] := fun e => by subst e; simp only [List.length_nil] at hj; omega
      obtain ⟨p0, hp0⟩ : ∃ p0, ys[ys.length - 1]? = some p0 := ⟨_, List.getElem?_eq_getElem (by omega)⟩
      rcases ho with ⟨rfl, rfl, rfl⟩ | ⟨i, v, rfl, rfl, rfl⟩
      · refine wp_blk C 2 3 (pc' := 9) (ls' := [.val (.ref a), .val (.int 0), .val (.int k), .unset, .val (.int (j + 1)), .unset, .unset]) (st' := [.int k, .int (j + 1)]) rfl ?_
        obtain ⟨j1, hj1⟩ : ∃ z : Int32, z = j + 1 := ⟨_, rfl⟩
        rw [← hj1]
        have Hj1 : j1.toInt = j.toInt + 1 := by rw [hj1]; exact addI rfl one32
        refine wp_icmp C 5 69 12 rfl rfl rfl (by decide) (fun h => absurd h (fun q : k.toInt ≤ j1.toInt => by omega)) (fun _ => ?_)
        refine wp_blk C 6 4 (pc' := 17) (ls' := [.val (.ref a), .val (.int 0), .val (.int k), .val (.int j1), .val (.int j1), .unset, .unset]) (st' := [.int j1, .ref a]) rfl ?_
        refine wp_aload C (n := ys.length) (v := .long x) 10 18 0 rfl rfl (Or.inr (Or.inl ⟨rfl, rfl⟩)) rfl (by rw [Hj1, hj]) (by simp) ?_
        refine wp_blk C 11 6 (pc' := 26) (ls' := [.val (.ref a), .val (.int 0), .val (.int k), .val (.int j1), .val (.int j1), .val (.long x), .second]) (st' := [.int (j1 - 1), .ref a, .long x]) rfl ?_
        obtain ⟨j2, hj2⟩ : ∃ z : Int32, z = j1 - 1 := ⟨_, rfl⟩
        rw [← hj2]
        have Hj2 : j2.toInt = (ys.length - 1 : Nat) := by rw [hj2]; exact (subI Hj1 one32).trans (by omega)
        refine wp_aload C (n := (ys.length - 1)) (v := .long p0) 17 27 0 rfl rfl (Or.inr (Or.inl ⟨rfl, rfl⟩)) rfl Hj2 (by rw [List.getElem?_map, List.getElem?_append_left (by omega), hp0]; rfl) ?_
        refine wp_blk C 18 1 (pc' := 28) (ls' := [.val (.ref a), .val (.int 0), .val (.int k), .val (.int j1), .val (.int j1), .val (.long x), .second]) (st' := [.int (XT.cmpL x p0)]) rfl ?_
        refine wp_ifz C 19 66 31 rfl rfl rfl (by decide) (fun (hc : (0 : Int32).toInt ≤ (XT.cmpL x p0 : Int32).toInt) => ?_) (fun (hc : (XT.cmpL x p0 : Int32).toInt < (0 : Int32).toInt) => ?_)
        · refine wp_blk C 45 1 (pc' := 3) (ls' := [.val (.ref a), .val (.int 0), .val (.int k), .val (.int j1), .val (.int j1), .val (.long x), .second]) (st' := []) rfl ?_
          have h1 : ∀ y ∈ ys, y ≤ x := by
            have e1 := List.dropLast_concat_getLast hne
            have e0 : ys.getLast hne = p0 := by rw [List.getLast_eq_getElem]; exact Option.some.inj ((List.getElem?_eq_getElem (by omega)).symm.trans hp0)
            rw [e0] at e1
            rw [← e1] at hs ⊢
            exact last_le (v := []) (by simpa using hs) (cmpL_ge hc)
          have key := ih (ys ++ [x]) q j1 (.val (.int j1)) (.val (.long x)) .second hd (by simpa using hp) (ins_sorted (v := []) (by simpa using hs) h1 (by simp)) (by omega) (by rw [Hj1, hj]; simp) (Or.inr ⟨_, _, rfl, rfl, rfl⟩)
          rw [List.append_assoc] at key
          exact key
        · have inner : ∀ (m : Nat) (u v : List Int64) (h : Int64) (i : Int32), u.length = m → u ++ v = ys → (∀ y ∈ v, x ≤ y) → i.toInt = u.length →
              Wp K 0 0 [(a, true, .inr .long, (u ++ h :: (v ++ (q ++ z))).map Value.long)] 31 [.val (.ref a), .val (.int 0), .val (.int k), .val (.int i), .val (.int j1), .val (.long x), .second] [] := by
            intro m
            induction m with
            | zero =>
              intro u v h i hu huv hv hi
              obtain rfl := List.length_eq_zero_iff.mp hu
              simp only [List.length_nil] at hi
              show Wp K 0 0 [(a, true, .inr .long, (([] : List Int64) ++ h :: (v ++ (q ++ z))).map Value.long)] 31 [.val (.ref a), .val (.int 0), .val (.int k), .val (.int i), .val (.int j1), .val (.long x), .second] []
              refine wp_blk C 20 3 (pc' := 36) (ls' := [.val (.ref a), .val (.int 0), .val (.int k), .val (.int (i + (-1))), .val (.int j1), .val (.long x), .second]) (st' := [.int 0, .int (i + (-1))]) rfl ?_
              obtain ⟨i1, hi1⟩ : ∃ z : Int32, z = i + (-1) := ⟨_, rfl⟩
              rw [← hi1]
              have Hi1 : i1.toInt = -1 := by rw [hi1]; exact (addI hi (show (-1 : Int32).toInt = -1 from rfl)).trans (by omega)
              refine wp_icmp C 23 59 39 rfl rfl rfl (by decide) (fun _ => ?_) (fun h => absurd h (fun q : (0 : Int32).toInt ≤ i1.toInt => by rw [show (0 : Int32).toInt = 0 from rfl] at q; omega))
              refine wp_blk C 39 5 (pc' := 65) (ls' := [.val (.ref a), .val (.int 0), .val (.int k), .val (.int i1), .val (.int j1), .val (.long x), .second]) (st' := [.long x, .int (i1 + 1), .ref a]) rfl ?_
              obtain ⟨i2, hi2⟩ : ∃ z : Int32, z = i1 + 1 := ⟨_, rfl⟩
              rw [← hi2]
              have Hi2 : i2.toInt = (0 : Nat) := by rw [hi2]; exact (addI Hi1 one32).trans (by omega)
              refine wp_stoJ C (n := 0) (vs' := (([] : List Int64) ++ x :: (v ++ (q ++ z))).map Value.long) (L' := [(a, true, .inr .long, (([] : List Int64) ++ x :: (v ++ (q ++ z))).map Value.long)]) 44 66 0 rfl rfl rfl Hi2 (by simp) rfl rfl ?_
              refine wp_blk C 45 1 (pc' := 3) (ls' := [.val (.ref a), .val (.int 0), .val (.int k), .val (.int i1), .val (.int j1), .val (.long x), .second]) (st' := []) rfl ?_
              have key := ih (([] : List Int64) ++ x :: v) q j1 (.val (.int i1)) (.val (.long x)) .second hd (by refine List.Perm.trans ?_ hp; rw [← huv]; exact perm_ins _ _ _ _) (ins_sorted (by rw [huv]; exact hs) (by simp) hv) (by omega) (by rw [Hj1, hj, ← huv]; simp) (Or.inr ⟨_, _, rfl, rfl, rfl⟩)
              rw [show (([] : List Int64) ++ x :: v) ++ (q ++ z) = ([] : List Int64) ++ x :: (v ++ (q ++ z)) by simp] at key
              exact key
            | succ m ihm =>
              intro u v h i hu huv hv hi
              obtain ⟨u', p, rfl⟩ : ∃ u' p, u = u' ++ [p] := by rcases List.eq_nil_or_concat u with rfl | ⟨u', p, rfl⟩; simp at hu; exact ⟨u', p, List.concat_eq_append⟩
              have hul : u'.length = m := by simpa using hu
              rw [List.length_append, List.length_singleton] at hi
              have hyl : u'.length + 1 + v.length = ys.length := by rw [← huv]; simp; omega
              show Wp K 0 0 [(a, true, .inr .long, ((u' ++ [p]) ++ h :: (v ++ (q ++ z))).map Value.long)] 31 [.val (.ref a), .val (.int 0), .val (.int k), .val (.int i), .val (.int j1), .val (.long x), .second] []
              refine wp_blk C 20 3 (pc' := 36) (ls' := [.val (.ref a), .val (.int 0), .val (.int k), .val (.int (i + (-1))), .val (.int j1), .val (.long x), .second]) (st' := [.int 0, .int (i + (-1))]) rfl ?_
              obtain ⟨i1, hi1⟩ : ∃ z : Int32, z = i + (-1) := ⟨_, rfl⟩
              rw [← hi1]
              have Hi1 : i1.toInt = u'.length := by rw [hi1]; exact (addI hi (show (-1 : Int32).toInt = -1 from rfl)).trans (by omega)
              refine wp_icmp C 23 59 39 rfl rfl rfl (by decide) (fun h => absurd h (fun q : i1.toInt < (0 : Int32).toInt => by rw [show (0 : Int32).toInt = 0 from rfl] at q; omega)) (fun _ => ?_)
              refine wp_blk C 24 3 (pc' := 43) (ls' := [.val (.ref a), .val (.int 0), .val (.int k), .val (.int i1), .val (.int j1), .val (.long x), .second]) (st' := [.int i1, .ref a, .long x]) rfl ?_
              refine wp_aload C (n := u'.length) (v := .long p) 27 44 0 rfl rfl (Or.inr (Or.inl ⟨rfl, rfl⟩)) rfl Hi1 (by simp) ?_
              refine wp_blk C 28 1 (pc' := 45) (ls' := [.val (.ref a), .val (.int 0), .val (.int k), .val (.int i1), .val (.int j1), .val (.long x), .second]) (st' := [.int (XT.cmpL x p)]) rfl ?_
              refine wp_ifz C 29 59 48 rfl rfl rfl (by decide) (fun (hc2 : (0 : Int32).toInt ≤ (XT.cmpL x p : Int32).toInt) => ?_) (fun (hc2 : (XT.cmpL x p : Int32).toInt < (0 : Int32).toInt) => ?_)
              · refine wp_blk C 39 5 (pc' := 65) (ls' := [.val (.ref a), .val (.int 0), .val (.int k), .val (.int i1), .val (.int j1), .val (.long x), .second]) (st' := [.long x, .int (i1 + 1), .ref a]) rfl ?_
                obtain ⟨i2, hi2⟩ : ∃ z : Int32, z = i1 + 1 := ⟨_, rfl⟩
                rw [← hi2]
                have Hi2 : i2.toInt = ((u'.length + 1) : Nat) := by rw [hi2]; exact (addI Hi1 one32).trans (by omega)
                refine wp_stoJ C (n := (u'.length + 1)) (vs' := ((u' ++ [p]) ++ x :: (v ++ (q ++ z))).map Value.long) (L' := [(a, true, .inr .long, ((u' ++ [p]) ++ x :: (v ++ (q ++ z))).map Value.long)]) 44 66 0 rfl rfl rfl Hi2 (by simp) (by rw [← List.map_set, set_mid]) rfl ?_
                refine wp_blk C 45 1 (pc' := 3) (ls' := [.val (.ref a), .val (.int 0), .val (.int k), .val (.int i1), .val (.int j1), .val (.long x), .second]) (st' := []) rfl ?_
                have key := ih ((u' ++ [p]) ++ x :: v) q j1 (.val (.int i1)) (.val (.long x)) .second hd (by refine List.Perm.trans ?_ hp; rw [← huv]; exact perm_ins _ _ _ _) (ins_sorted (by rw [huv]; exact hs) (last_le (by rw [huv]; exact hs) (cmpL_ge hc2)) hv) (by omega) (by rw [Hj1, hj, ← huv]; simp; omega) (Or.inr ⟨_, _, rfl, rfl, rfl⟩)
                rw [show ((u' ++ [p]) ++ x :: v) ++ (q ++ z) = (u' ++ [p]) ++ x :: (v ++ (q ++ z)) by simp] at key
                exact key
              · refine wp_blk C 30 6 (pc' := 54) (ls' := [.val (.ref a), .val (.int 0), .val (.int k), .val (.int i1), .val (.int j1), .val (.long x), .second]) (st' := [.int i1, .ref a, .int (i1 + 1), .ref a]) rfl ?_
                refine wp_aload C (n := u'.length) (v := .long p) 36 55 0 rfl rfl (Or.inr (Or.inl ⟨rfl, rfl⟩)) rfl Hi1 (by simp) ?_
                obtain ⟨i2, hi2⟩ : ∃ z : Int32, z = i1 + 1 := ⟨_, rfl⟩
                rw [← hi2]
                have Hi2 : i2.toInt = (u'.length + 1 : Nat) := by rw [hi2]; exact (addI Hi1 one32).trans (by omega)
                refine wp_stoJ C (n := (u'.length + 1)) (vs' := ((u' ++ [p]) ++ p :: (v ++ (q ++ z))).map Value.long) (L' := [(a, true, .inr .long, ((u' ++ [p]) ++ p :: (v ++ (q ++ z))).map Value.long)]) 37 56 0 rfl rfl rfl Hi2 (by simp) (by rw [← List.map_set, set_mid]) rfl ?_
                refine wp_blk C 38 1 (pc' := 31) (ls' := [.val (.ref a), .val (.int 0), .val (.int k), .val (.int i1), .val (.int j1), .val (.long x), .second]) (st' := []) rfl ?_
                have key := ihm u' (p :: v) p i1 hul (by rw [← huv]; simp) (by intro y hy; rcases List.mem_cons.mp hy with rfl | hy; exact Int64.le_of_lt (cmpL_lt hc2); exact hv y hy) Hi1
                rw [show (u' ++ [p]) ++ p :: (v ++ (q ++ z)) = u' ++ p :: ((p :: v) ++ (q ++ z)) by simp]
                exact key
          exact inner ys.length ys [] x j1 rfl (by simp) (by simp) (by rw [Hj1, hj])
      · refine wp_blk C 2 3 (pc' := 9) (ls' := [.val (.ref a), .val (.int 0), .val (.int k), .val (.int i), .val (.int (j + 1)), .val (.long v), .second]) (st' := [.int k, .int (j + 1)]) rfl ?_
        obtain ⟨j1, hj1⟩ : ∃ z : Int32, z = j + 1 := ⟨_, rfl⟩
        rw [← hj1]
        have Hj1 : j1.toInt = j.toInt + 1 := by rw [hj1]; exact addI rfl one32
        refine wp_icmp C 5 69 12 rfl rfl rfl (by decide) (fun h => absurd h (fun q : k.toInt ≤ j1.toInt => by omega)) (fun _ => ?_)
        refine wp_blk C 6 4 (pc' := 17) (ls' := [.val (.ref a), .val (.int 0), .val (.int k), .val (.int j1), .val (.int j1), .val (.long v), .second]) (st' := [.int j1, .ref a]) rfl ?_
        refine wp_aload C (n := ys.length) (v := .long x) 10 18 0 rfl rfl (Or.inr (Or.inl ⟨rfl, rfl⟩)) rfl (by rw [Hj1, hj]) (by simp) ?_
        refine wp_blk C 11 6 (pc' := 26) (ls' := [.val (.ref a), .val (.int 0), .val (.int k), .val (.int j1), .val (.int j1), .val (.long x), .second]) (st' := [.int (j1 - 1), .ref a, .long x]) rfl ?_
        obtain ⟨j2, hj2⟩ : ∃ z : Int32, z = j1 - 1 := ⟨_, rfl⟩
        rw [← hj2]
        have Hj2 : j2.toInt = (ys.length - 1 : Nat) := by rw [hj2]; exact (subI Hj1 one32).trans (by omega)
        refine wp_aload C (n := (ys.length - 1)) (v := .long p0) 17 27 0 rfl rfl (Or.inr (Or.inl ⟨rfl, rfl⟩)) rfl Hj2 (by rw [List.getElem?_map, List.getElem?_append_left (by omega), hp0]; rfl) ?_
        refine wp_blk C 18 1 (pc' := 28) (ls' := [.val (.ref a), .val (.int 0), .val (.int k), .val (.int j1), .val (.int j1), .val (.long x), .second]) (st' := [.int (XT.cmpL x p0)]) rfl ?_
        refine wp_ifz C 19 66 31 rfl rfl rfl (by decide) (fun (hc : (0 : Int32).toInt ≤ (XT.cmpL x p0 : Int32).toInt) => ?_) (fun (hc : (XT.cmpL x p0 : Int32).toInt < (0 : Int32).toInt) => ?_)
        · refine wp_blk C 45 1 (pc' := 3) (ls' := [.val (.ref a), .val (.int 0), .val (.int k), .val (.int j1), .val (.int j1), .val (.long x), .second]) (st' := []) rfl ?_
          have h1 : ∀ y ∈ ys, y ≤ x := by
            have e1 := List.dropLast_concat_getLast hne
            have e0 : ys.getLast hne = p0 := by rw [List.getLast_eq_getElem]; exact Option.some.inj ((List.getElem?_eq_getElem (by omega)).symm.trans hp0)
            rw [e0] at e1
            rw [← e1] at hs ⊢
            exact last_le (v := []) (by simpa using hs) (cmpL_ge hc)
          have key := ih (ys ++ [x]) q j1 (.val (.int j1)) (.val (.long x)) .second hd (by simpa using hp) (ins_sorted (v := []) (by simpa using hs) h1 (by simp)) (by omega) (by rw [Hj1, hj]; simp) (Or.inr ⟨_, _, rfl, rfl, rfl⟩)
          rw [List.append_assoc] at key
          exact key
        · have inner : ∀ (m : Nat) (u v : List Int64) (h : Int64) (i : Int32), u.length = m → u ++ v = ys → (∀ y ∈ v, x ≤ y) → i.toInt = u.length →
              Wp K 0 0 [(a, true, .inr .long, (u ++ h :: (v ++ (q ++ z))).map Value.long)] 31 [.val (.ref a), .val (.int 0), .val (.int k), .val (.int i), .val (.int j1), .val (.long x), .second] [] := by
            intro m
            induction m with
            | zero =>
              intro u v h i hu huv hv hi
              obtain rfl := List.length_eq_zero_iff.mp hu
              simp only [List.length_nil] at hi
              show Wp K 0 0 [(a, true, .inr .long, (([] : List Int64) ++ h :: (v ++ (q ++ z))).map Value.long)] 31 [.val (.ref a), .val (.int 0), .val (.int k), .val (.int i), .val (.int j1), .val (.long x), .second] []
              refine wp_blk C 20 3 (pc' := 36) (ls' := [.val (.ref a), .val (.int 0), .val (.int k), .val (.int (i + (-1))), .val (.int j1), .val (.long x), .second]) (st' := [.int 0, .int (i + (-1))]) rfl ?_
              obtain ⟨i1, hi1⟩ : ∃ z : Int32, z = i + (-1) := ⟨_, rfl⟩
              rw [← hi1]
              have Hi1 : i1.toInt = -1 := by rw [hi1]; exact (addI hi (show (-1 : Int32).toInt = -1 from rfl)).trans (by omega)
              refine wp_icmp C 23 59 39 rfl rfl rfl (by decide) (fun _ => ?_) (fun h => absurd h (fun q : (0 : Int32).toInt ≤ i1.toInt => by rw [show (0 : Int32).toInt = 0 from rfl] at q; omega))
              refine wp_blk C 39 5 (pc' := 65) (ls' := [.val (.ref a), .val (.int 0), .val (.int k), .val (.int i1), .val (.int j1), .val (.long x), .second]) (st' := [.long x, .int (i1 + 1), .ref a]) rfl ?_
              obtain ⟨i2, hi2⟩ : ∃ z : Int32, z = i1 + 1 := ⟨_, rfl⟩
              rw [← hi2]
              have Hi2 : i2.toInt = (0 : Nat) := by rw [hi2]; exact (addI Hi1 one32).trans (by omega)
              refine wp_stoJ C (n := 0) (vs' := (([] : List Int64) ++ x :: (v ++ (q ++ z))).map Value.long) (L' := [(a, true, .inr .long, (([] : List Int64) ++ x :: (v ++ (q ++ z))).map Value.long)]) 44 66 0 rfl rfl rfl Hi2 (by simp) rfl rfl ?_
              refine wp_blk C 45 1 (pc' := 3) (ls' := [.val (.ref a), .val (.int 0), .val (.int k), .val (.int i1), .val (.int j1), .val (.long x), .second]) (st' := []) rfl ?_
              have key := ih (([] : List Int64) ++ x :: v) q j1 (.val (.int i1)) (.val (.long x)) .second hd (by refine List.Perm.trans ?_ hp; rw [← huv]; exact perm_ins _ _ _ _) (ins_sorted (by rw [huv]; exact hs) (by simp) hv) (by omega) (by rw [Hj1, hj, ← huv]; simp) (Or.inr ⟨_, _, rfl, rfl, rfl⟩)
              rw [show (([] : List Int64) ++ x :: v) ++ (q ++ z) = ([] : List Int64) ++ x :: (v ++ (q ++ z)) by simp] at key
              exact key
            | succ m ihm =>
              intro u v h i hu huv hv hi
              obtain ⟨u', p, rfl⟩ : ∃ u' p, u = u' ++ [p] := by rcases List.eq_nil_or_concat u with rfl | ⟨u', p, rfl⟩; simp at hu; exact ⟨u', p, List.concat_eq_append⟩
              have hul : u'.length = m := by simpa using hu
              rw [List.length_append, List.length_singleton] at hi
              have hyl : u'.length + 1 + v.length = ys.length := by rw [← huv]; simp; omega
              show Wp K 0 0 [(a, true, .inr .long, ((u' ++ [p]) ++ h :: (v ++ (q ++ z))).map Value.long)] 31 [.val (.ref a), .val (.int 0), .val (.int k), .val (.int i), .val (.int j1), .val (.long x), .second] []
              refine wp_blk C 20 3 (pc' := 36) (ls' := [.val (.ref a), .val (.int 0), .val (.int k), .val (.int (i + (-1))), .val (.int j1), .val (.long x), .second]) (st' := [.int 0, .int (i + (-1))]) rfl ?_
              obtain ⟨i1, hi1⟩ : ∃ z : Int32, z = i + (-1) := ⟨_, rfl⟩
              rw [← hi1]
              have Hi1 : i1.toInt = u'.length := by rw [hi1]; exact (addI hi (show (-1 : Int32).toInt = -1 from rfl)).trans (by omega)
              refine wp_icmp C 23 59 39 rfl rfl rfl (by decide) (fun h => absurd h (fun q : i1.toInt < (0 : Int32).toInt => by rw [show (0 : Int32).toInt = 0 from rfl] at q; omega)) (fun _ => ?_)
              refine wp_blk C 24 3 (pc' := 43) (ls' := [.val (.ref a), .val (.int 0), .val (.int k), .val (.int i1), .val (.int j1), .val (.long x), .second]) (st' := [.int i1, .ref a, .long x]) rfl ?_
              refine wp_aload C (n := u'.length) (v := .long p) 27 44 0 rfl rfl (Or.inr (Or.inl ⟨rfl, rfl⟩)) rfl Hi1 (by simp) ?_
              refine wp_blk C 28 1 (pc' := 45) (ls' := [.val (.ref a), .val (.int 0), .val (.int k), .val (.int i1), .val (.int j1), .val (.long x), .second]) (st' := [.int (XT.cmpL x p)]) rfl ?_
              refine wp_ifz C 29 59 48 rfl rfl rfl (by decide) (fun (hc2 : (0 : Int32).toInt ≤ (XT.cmpL x p : Int32).toInt) => ?_) (fun (hc2 : (XT.cmpL x p : Int32).toInt < (0 : Int32).toInt) => ?_)
              · refine wp_blk C 39 5 (pc' := 65) (ls' := [.val (.ref a), .val (.int 0), .val (.int k), .val (.int i1), .val (.int j1), .val (.long x), .second]) (st' := [.long x, .int (i1 + 1), .ref a]) rfl ?_
                obtain ⟨i2, hi2⟩ : ∃ z : Int32, z = i1 + 1 := ⟨_, rfl⟩
                rw [← hi2]
                have Hi2 : i2.toInt = ((u'.length + 1) : Nat) := by rw [hi2]; exact (addI Hi1 one32).trans (by omega)
                refine wp_stoJ C (n := (u'.length + 1)) (vs' := ((u' ++ [p]) ++ x :: (v ++ (q ++ z))).map Value.long) (L' := [(a, true, .inr .long, ((u' ++ [p]) ++ x :: (v ++ (q ++ z))).map Value.long)]) 44 66 0 rfl rfl rfl Hi2 (by simp) (by rw [← List.map_set, set_mid]) rfl ?_
                refine wp_blk C 45 1 (pc' := 3) (ls' := [.val (.ref a), .val (.int 0), .val (.int k), .val (.int i1), .val (.int j1), .val (.long x), .second]) (st' := []) rfl ?_
                have key := ih ((u' ++ [p]) ++ x :: v) q j1 (.val (.int i1)) (.val (.long x)) .second hd (by refine List.Perm.trans ?_ hp; rw [← huv]; exact perm_ins _ _ _ _) (ins_sorted (by rw [huv]; exact hs) (last_le (by rw [huv]; exact hs) (cmpL_ge hc2)) hv) (by omega) (by rw [Hj1, hj, ← huv]; simp; omega) (Or.inr ⟨_, _, rfl, rfl, rfl⟩)
                rw [show ((u' ++ [p]) ++ x :: v) ++ (q ++ z) = (u' ++ [p]) ++ x :: (v ++ (q ++ z)) by simp] at key
                exact key
              · refine wp_blk C 30 6 (pc' := 54) (ls' := [.val (.ref a), .val (.int 0), .val (.int k), .val (.int i1), .val (.int j1), .val (.long x), .second]) (st' := [.int i1, .ref a, .int (i1 + 1), .ref a]) rfl ?_
                refine wp_aload C (n := u'.length) (v := .long p) 36 55 0 rfl rfl (Or.inr (Or.inl ⟨rfl, rfl⟩)) rfl Hi1 (by simp) ?_
                obtain ⟨i2, hi2⟩ : ∃ z : Int32, z = i1 + 1 := ⟨_, rfl⟩
                rw [← hi2]
                have Hi2 : i2.toInt = (u'.length + 1 : Nat) := by rw [hi2]; exact (addI Hi1 one32).trans (by omega)
                refine wp_stoJ C (n := (u'.length + 1)) (vs' := ((u' ++ [p]) ++ p :: (v ++ (q ++ z))).map Value.long) (L' := [(a, true, .inr .long, ((u' ++ [p]) ++ p :: (v ++ (q ++ z))).map Value.long)]) 37 56 0 rfl rfl rfl Hi2 (by simp) (by rw [← List.map_set, set_mid]) rfl ?_
                refine wp_blk C 38 1 (pc' := 31) (ls' := [.val (.ref a), .val (.int 0), .val (.int k), .val (.int i1), .val (.int j1), .val (.long x), .second]) (st' := []) rfl ?_
                have key := ihm u' (p :: v) p i1 hul (by rw [← huv]; simp) (by intro y hy; rcases List.mem_cons.mp hy with rfl | hy; exact Int64.le_of_lt (cmpL_lt hc2); exact hv y hy) Hi1
                rw [show (u' ++ [p]) ++ p :: (v ++ (q ++ z)) = u' ++ p :: ((p :: v) ++ (q ++ z)) by simp]
                exact key
          exact inner ys.length ys [] x j1 rfl (by simp) (by simp) (by rw [Hj1, hj])
  refine wp_blk C 0 2 (pc' := 3) (ls' := [.val (.ref a), .val (.int 0), .val (.int k), .unset, .val (.int 0), .unset, .unset]) (st' := []) rfl ?_
  obtain ⟨x0, q0, hx0⟩ : ∃ x0 q0, xs = x0 :: q0 := by cases xs with | nil => simp at hn0 | cons x0 q0 => exact ⟨x0, q0, rfl⟩
  have key := outer q0.length [x0] q0 0 .unset .unset .unset rfl (by rw [hx0]; exact List.Perm.refl _) (by simp) (by decide) (by rfl) (Or.inl ⟨rfl, rfl, rfl⟩)
  have e : evs xs = ([x0] ++ (q0 ++ z)).map Value.long := by unfold evs; rw [hz]; rw [hx0]; rfl
  rw [e]
  exact key
theorem pn6 : plainFor (⟨"java/util/DualPivotQuicksort", "sort", "(Ljava/util/DualPivotQuicksort$Sorter;[JIII)V"⟩ : MethodName) = true := by first | (refine plainFor_of_name ?_; simp [plainName, overriddenIn]; done) | (refine plainFor_of_name ?_; decide +kernel) | decide +kernel
theorem pd2 : parseMethodDescriptor "([JII)V" = some ⟨[(.array .long), .int, .int], none⟩ := by decide +kernel
def B_rm_so1 : Prog := [(0, .iload 4, 2), (2, .iconst 1, 1), (3, .isub, 1), (4, .istore 5, 2), (6, .iload 4, 2), (8, .iload_n 3, 1), (9, .isub, 1), (10, .istore 6, 2), (12, .iload 6, 2), (14, .bipush 65, 2), (16, .iload_n 2, 1), (17, .iadd, 1), (18, .if_icmp .ge 28, 3), (21, .iload_n 2, 1), (22, .iconst 1, 1), (23, .iand, 1), (24, .ifCond .le 22, 3), (46, .iload 6, 2), (48, .bipush 44, 2), (50, .if_icmp .ge 11, 3), (53, .aload_n 1, 1), (54, .iload_n 3, 1), (55, .iload 4, 2), (57, .invokestatic 105, 3), (60, .return_, 1)]
theorem B_rm_so1_ok : okB jdk_2529_method_13_code B_rm_so1 = true := by decide +kernel
set_option maxRecDepth 65536 in
set_option maxHeartbeats 40000000 in
theorem rm_so1 (l : Launch) (Z : State) (a0 : Array Value) (hw : ∀ d ∈ tables_1, d.before a0 Z = true) (a : Addr) (xs : List Int64) (k : Int32) (hk : k.toInt = xs.length) (hn0 : 0 < xs.length) (hn : xs.length ≤ 16) : Ct l Z EL1 nw1 (⟨"java/util/DualPivotQuicksort", "sort", "(Ljava/util/DualPivotQuicksort$Sorter;[JIII)V"⟩ : MethodName) jdk_2529_method_13_code 25 none [] ({ frames := 1, cells := 0, slots := 0, locals := 18 } : Room) [.null, .ref a, .int 0, .int 0, .int k] [(a, true, .inr .long, evs xs)] (fun v L => v = none ∧ ∃ ys : List Int64, ys.Perm xs ∧ ys.Pairwise (· ≤ ·) ∧ L = [(a, true, .inr .long, evs ys)]) := by
  refine ct_of pn6 (B := B_rm_so1) (ls := [.val (.null), .val (.ref a), .val (.int 0), .val (.int 0), .val (.int k), .unset, .unset, .unset, .unset, .unset, .unset, .unset, .unset, .unset, .unset, .unset, .unset, .unset, .unset, .unset, .unset, .unset, .unset, .unset, .unset]) B_rm_so1_ok (ew1 hw) (fun m => by first | (simp [entryFrame, mkF, argsToLocals, Value.category]; done) | rfl) (fun K C => ?_)
  refine wp_blk C 0 12 (pc' := 18) (ls' := [.val (.null), .val (.ref a), .val (.int 0), .val (.int 0), .val (.int k), .val (.int (k - 1)), .val (.int (k - 0)), .unset, .unset, .unset, .unset, .unset, .unset, .unset, .unset, .unset, .unset, .unset, .unset, .unset, .unset, .unset, .unset, .unset, .unset]) (st' := [.int (65 + 0), .int (k - 0)]) rfl ?_
  refine wp_icmp C 12 46 21 rfl rfl rfl (by decide) (fun h => absurd h (fun q : (65 + 0 : Int32).toInt ≤ (k - 0 : Int32).toInt => by rw [Int32.sub_zero] at q; have : (65 + 0 : Int32).toInt = 65 := rfl; omega)) (fun _ => ?_)
  refine wp_blk C 13 3 (pc' := 24) (ls' := [.val (.null), .val (.ref a), .val (.int 0), .val (.int 0), .val (.int k), .val (.int (k - 1)), .val (.int (k - 0)), .unset, .unset, .unset, .unset, .unset, .unset, .unset, .unset, .unset, .unset, .unset, .unset, .unset, .unset, .unset, .unset, .unset, .unset]) (st' := [.int (0 &&& 1)]) rfl ?_
  refine wp_ifz C 16 46 27 rfl rfl rfl (by decide) (fun _ => ?_) (fun h => absurd h (fun q : (0 : Int32).toInt < (0 &&& 1 : Int32).toInt => by revert q; decide))
  refine wp_blk C 17 2 (pc' := 50) (ls' := [.val (.null), .val (.ref a), .val (.int 0), .val (.int 0), .val (.int k), .val (.int (k - 1)), .val (.int (k - 0)), .unset, .unset, .unset, .unset, .unset, .unset, .unset, .unset, .unset, .unset, .unset, .unset, .unset, .unset, .unset, .unset, .unset, .unset]) (st' := [.int 44, .int (k - 0)]) rfl ?_
  refine wp_icmp C 19 61 53 rfl rfl rfl (by decide) (fun h => absurd h (fun q : (44 : Int32).toInt ≤ (k - 0 : Int32).toInt => by rw [Int32.sub_zero] at q; have : (44 : Int32).toInt = 44 := rfl; omega)) (fun _ => ?_)
  refine wp_blk C 20 3 (pc' := 57) (ls' := [.val (.null), .val (.ref a), .val (.int 0), .val (.int 0), .val (.int k), .val (.int (k - 1)), .val (.int (k - 0)), .unset, .unset, .unset, .unset, .unset, .unset, .unset, .unset, .unset, .unset, .unset, .unset, .unset, .unset, .unset, .unset, .unset, .unset]) (st' := [.int k, .int 0, .ref a]) rfl ?_
  refine wp_static C (al := [.ref a, .int 0, .int k]) (rest := []) (L1 := []) (W := 0) (cells' := 0) (slots' := 0) 23 60 (rm_ins l Z a0 hw a xs k hk hn0 hn) rfl rfl (wd hw 107 rfl) (wd hw 108 rfl) (wd hw 109 rfl) (wd hw 102 rfl) (by decide) pd2 rfl rfl rfl rfl (by decide) (by decide) rfl rfl rfl (by decide) (by decide) (fun v L' hQ => ?_)
  obtain ⟨rfl, ys, hp, hs, rfl⟩ := hQ
  show Wp K 0 0 [(a, true, .inr .long, evs ys)] 60 [.val (.null), .val (.ref a), .val (.int 0), .val (.int 0), .val (.int k), .val (.int (k - 1)), .val (.int (k - 0)), .unset, .unset, .unset, .unset, .unset, .unset, .unset, .unset, .unset, .unset, .unset, .unset, .unset, .unset, .unset, .unset, .unset, .unset] []
  exact wp_ret0 C 24 rfl (by decide) (by decide) (⟨rfl, ys, hp, hs, rfl⟩)
theorem pn7 : plainFor (⟨"java/util/DualPivotQuicksort", "sort", "([JIII)V"⟩ : MethodName) = true := by first | (refine plainFor_of_name ?_; simp [plainName, overriddenIn]; done) | (refine plainFor_of_name ?_; decide +kernel) | decide +kernel
theorem pd3 : parseMethodDescriptor "(Ljava/util/DualPivotQuicksort$Sorter;[JIII)V" = some ⟨[(.object "java/util/DualPivotQuicksort$Sorter"), (.array .long), .int, .int, .int], none⟩ := by decide +kernel
def B_rm_so2 : Prog := [(0, .iload_n 3, 1), (1, .iload_n 2, 1), (2, .isub, 1), (3, .istore 4, 2), (5, .iload_n 1, 1), (6, .iconst 1, 1), (7, .if_icmp .le 61, 3), (68, .aconst_null, 1), (69, .aload_n 0, 1), (70, .iconst 0, 1), (71, .iload_n 2, 1), (72, .iload_n 3, 1), (73, .invokestatic 99, 3), (76, .return_, 1)]
theorem B_rm_so2_ok : okB jdk_2529_method_12_code B_rm_so2 = true := by decide +kernel
set_option maxRecDepth 65536 in
set_option maxHeartbeats 40000000 in
theorem rm_so2 (l : Launch) (Z : State) (a0 : Array Value) (hw : ∀ d ∈ tables_1, d.before a0 Z = true) (a : Addr) (xs : List Int64) (k : Int32) (hk : k.toInt = xs.length) (hn0 : 0 < xs.length) (hn : xs.length ≤ 16) : Ct l Z EL1 nw1 (⟨"java/util/DualPivotQuicksort", "sort", "([JIII)V"⟩ : MethodName) jdk_2529_method_12_code 7 none [] ({ frames := 2, cells := 0, slots := 0, locals := 54 } : Room) [.ref a, .int 0, .int 0, .int k] [(a, true, .inr .long, evs xs)] (fun v L => v = none ∧ ∃ ys : List Int64, ys.Perm xs ∧ ys.Pairwise (· ≤ ·) ∧ L = [(a, true, .inr .long, evs ys)]) := by
  refine ct_of pn7 (B := B_rm_so2) (ls := [.val (.ref a), .val (.int 0), .val (.int 0), .val (.int k), .unset, .unset, .unset]) B_rm_so2_ok (ew1 hw) (fun m => by first | (simp [entryFrame, mkF, argsToLocals, Value.category]; done) | rfl) (fun K C => ?_)
  refine wp_blk C 0 6 (pc' := 7) (ls' := [.val (.ref a), .val (.int 0), .val (.int 0), .val (.int k), .val (.int (k - 0)), .unset, .unset]) (st' := [.int 1, .int 0]) rfl ?_
  refine wp_icmp C 6 68 10 rfl rfl rfl (by decide) (fun _ => ?_) (fun h => absurd h (fun q : (1 : Int32).toInt < (0 : Int32).toInt => by revert q; decide))
  refine wp_blk C 7 5 (pc' := 73) (ls' := [.val (.ref a), .val (.int 0), .val (.int 0), .val (.int k), .val (.int (k - 0)), .unset, .unset]) (st' := [.int k, .int 0, .int 0, .ref a, .null]) rfl ?_
  refine wp_static C (al := [.null, .ref a, .int 0, .int 0, .int k]) (rest := []) (L1 := []) (W := 0) (cells' := 0) (slots' := 0) 12 76 (rm_so1 l Z a0 hw a xs k hk hn0 hn) rfl rfl (wd hw 104 rfl) (wd hw 105 rfl) (wd hw 106 rfl) (wd hw 102 rfl) (by decide) pd3 rfl rfl rfl rfl (by decide) (by decide) rfl rfl rfl (by decide) (by decide) (fun v L' hQ => ?_)
  obtain ⟨rfl, ys, hp, hs, rfl⟩ := hQ
  show Wp K 0 0 [(a, true, .inr .long, evs ys)] 76 [.val (.ref a), .val (.int 0), .val (.int 0), .val (.int k), .val (.int (k - 0)), .unset, .unset] []
  exact wp_ret0 C 13 rfl (by decide) (by decide) (⟨rfl, ys, hp, hs, rfl⟩)
theorem pn8 : plainFor (⟨"java/util/Arrays", "sort", "([JII)V"⟩ : MethodName) = true := by first | (refine plainFor_of_name ?_; simp [plainName, overriddenIn]; done) | (refine plainFor_of_name ?_; decide +kernel) | decide +kernel
theorem pd4 : parseMethodDescriptor "(III)V" = some ⟨[.int, .int, .int], none⟩ := by decide +kernel
theorem pd5 : parseMethodDescriptor "([JIII)V" = some ⟨[(.array .long), .int, .int, .int], none⟩ := by decide +kernel
def B_rm_so3 : Prog := [(0, .aload_n 0, 1), (1, .arraylength, 1), (2, .iload_n 1, 1), (3, .iload_n 2, 1), (4, .invokestatic 13, 3), (7, .aload_n 0, 1), (8, .iconst 0, 1), (9, .iload_n 1, 1), (10, .iload_n 2, 1), (11, .invokestatic 19, 3), (14, .return_, 1)]
theorem B_rm_so3_ok : okB jdk_65_method_5_code B_rm_so3 = true := by decide +kernel
set_option maxRecDepth 65536 in
set_option maxHeartbeats 40000000 in
theorem rm_so3 (l : Launch) (Z : State) (a0 : Array Value) (hw : ∀ d ∈ tables_1, d.before a0 Z = true) (a : Addr) (xs : List Int64) (k : Int32) (hk : k.toInt = xs.length) (hn0 : 0 < xs.length) (hn : xs.length ≤ 16) : Ct l Z EL1 nw1 (⟨"java/util/Arrays", "sort", "([JII)V"⟩ : MethodName) jdk_65_method_5_code 3 none [] ({ frames := 3, cells := 0, slots := 0, locals := 72 } : Room) [.ref a, .int 0, .int k] [(a, true, .inr .long, evs xs)] (fun v L => v = none ∧ ∃ ys : List Int64, ys.Perm xs ∧ ys.Pairwise (· ≤ ·) ∧ L = [(a, true, .inr .long, evs ys)]) := by
  refine ct_of pn8 (B := B_rm_so3) (ls := [.val (.ref a), .val (.int 0), .val (.int k)]) B_rm_so3_ok (ew1 hw) (fun m => by first | (simp [entryFrame, mkF, argsToLocals, Value.category]; done) | rfl) (fun K C => ?_)
  refine wp_blk C 0 1 (pc' := 1) (ls' := [.val (.ref a), .val (.int 0), .val (.int k)]) (st' := [.ref a]) rfl ?_
  refine wp_len C (z := 16) 1 2 0 rfl rfl rfl (by rw [evs_len hn]; rfl) ?_
  refine wp_blk C 2 2 (pc' := 4) (ls' := [.val (.ref a), .val (.int 0), .val (.int k)]) (st' := [.int k, .int 0, .int 16]) rfl ?_
  refine wp_static C (al := [.int 16, .int 0, .int k]) (rest := []) (L1 := [(a, true, .inr .long, evs xs)]) (W := 0) (cells' := 0) (slots' := 0) 4 7 (rm_rc l Z a0 hw k (by omega) (by omega)) rfl rfl (wd hw 97 rfl) (wd hw 98 rfl) (wd hw 99 rfl) (wd hw 95 rfl) (by decide) pd4 rfl rfl rfl rfl (by decide) (by decide) rfl rfl rfl (by decide) (by decide) (fun v L' hQ => ?_)
  obtain ⟨rfl, rfl⟩ := hQ
  show Wp K 0 0 [(a, true, .inr .long, evs xs)] 7 [.val (.ref a), .val (.int 0), .val (.int k)] []
  refine wp_blk C 5 4 (pc' := 11) (ls' := [.val (.ref a), .val (.int 0), .val (.int k)]) (st' := [.int k, .int 0, .int 0, .ref a]) rfl ?_
  refine wp_static C (al := [.ref a, .int 0, .int 0, .int k]) (rest := []) (L1 := []) (W := 0) (cells' := 0) (slots' := 0) 9 14 (rm_so2 l Z a0 hw a xs k hk hn0 hn) rfl rfl (wd hw 100 rfl) (wd hw 101 rfl) (wd hw 103 rfl) (wd hw 102 rfl) (by decide) pd5 rfl rfl rfl rfl (by decide) (by decide) rfl rfl rfl (by decide) (by decide) (fun v L' hQ => ?_)
  obtain ⟨rfl, ys, hp, hs, rfl⟩ := hQ
  show Wp K 0 0 [(a, true, .inr .long, evs ys)] 14 [.val (.ref a), .val (.int 0), .val (.int k)] []
  exact wp_ret0 C 10 rfl (by decide) (by decide) (⟨rfl, ys, hp, hs, rfl⟩)
theorem pn9 : plainFor (⟨"com/example/trapeze/trapeze/scheduling/Profile", "timeOf", "(J)I"⟩ : MethodName) = true := by first | (refine plainFor_of_name ?_; simp [plainName, overriddenIn]; done) | (refine plainFor_of_name ?_; decide +kernel) | decide +kernel
def B_rm_time : Prog := [(0, .lload_n 0, 1), (1, .bipush 32, 2), (3, .lushr, 1), (4, .ldc2_w 172, 3), (7, .lsub, 1), (8, .l2i, 1), (9, .ireturn, 1)]
theorem B_rm_time_ok : okB prog_39_method_26_code B_rm_time = true := by decide +kernel
set_option maxRecDepth 65536 in
set_option maxHeartbeats 40000000 in
theorem rm_time (l : Launch) (Z : State) (a0 : Array Value) (hw : ∀ d ∈ tables_1, d.before a0 Z = true) (e : Int64) : Ct l Z EL1 nw1 (⟨"com/example/trapeze/trapeze/scheduling/Profile", "timeOf", "(J)I"⟩ : MethodName) prog_39_method_26_code 2 (some .int) [] ({ frames := 0, cells := 0, slots := 0, locals := 0 } : Room) [.long e] [] (fun v L => v = some (.int (timeV e)) ∧ L = []) := by
  refine ct_of pn9 (B := B_rm_time) (ls := [.val (.long e), .second]) B_rm_time_ok (ew1 hw) (fun m => by first | (simp [entryFrame, mkF, argsToLocals, Value.category]; done) | rfl) (fun K C => ?_)
  refine wp_blk C 0 3 (pc' := 4) (ls' := [.val (.long e), .second]) (st' := [.long (ushL e 32)]) rfl ?_
  refine wp_ldcJ C 3 7 rfl rfl (wd hw 86 rfl) ?_
  refine wp_blk C 4 2 (pc' := 9) (ls' := [.val (.long e), .second]) (st' := [.int (((ushL e 32) - 1000000000 : Int64).toInt32)]) rfl ?_
  exact wp_retI C 6 rfl (by decide) (by decide) (⟨rfl, rfl⟩)
theorem pn10 : plainFor (⟨"com/example/trapeze/trapeze/scheduling/Profile", "addSegment", "(III)V"⟩ : MethodName) = true := by first | (refine plainFor_of_name ?_; simp [plainName, overriddenIn]; done) | (refine plainFor_of_name ?_; decide +kernel) | decide +kernel
def B_rm_seg : Prog := [(0, .aload_n 0, 1), (1, .getfield 72, 3), (4, .aload_n 0, 1), (5, .getfield 38, 3), (8, .arraylength, 1), (9, .if_icmp .ne 168, 3), (177, .aload_n 0, 1), (178, .getfield 38, 3), (181, .aload_n 0, 1), (182, .getfield 72, 3), (185, .iload_n 1, 1), (186, .iastore, 1), (187, .aload_n 0, 1), (188, .getfield 41, 3), (191, .aload_n 0, 1), (192, .getfield 72, 3), (195, .iload_n 2, 1), (196, .iastore, 1), (197, .aload_n 0, 1), (198, .getfield 62, 3), (201, .aload_n 0, 1), (202, .getfield 72, 3), (205, .iload_n 3, 1), (206, .iastore, 1), (207, .aload_n 0, 1), (208, .dup, 1), (209, .getfield 72, 3), (212, .iconst 1, 1), (213, .iadd, 1), (214, .putfield 72, 3), (217, .return_, 1)]
theorem B_rm_seg_ok : okB prog_39_method_27_code B_rm_seg = true := by decide +kernel
set_option maxRecDepth 65536 in
set_option maxHeartbeats 40000000 in
theorem rm_seg (l : Launch) (Z : State) (a0 : Array Value) (hw : ∀ d ∈ tables_1, d.before a0 Z = true) (pa : Addr) (ad : Nat → Addr) (S : List (Int32 × Int32)) (x y n c : Int32) (hc : c.toInt = S.length) (hk : S.length < 8) : Ct l Z EL1 nw1 (⟨"com/example/trapeze/trapeze/scheduling/Profile", "addSegment", "(III)V"⟩ : MethodName) prog_39_method_27_code 4 none [] ({ frames := 0, cells := 0, slots := 0, locals := 0 } : Room) [.ref pa, .int x, .int y, .int 0] [(pa, true, .inl kP, [.ref (ad 0), .ref (ad 1), .ref (ad 2), .ref (ad 3), .ref (ad 4), .ref (ad 5), .ref (ad 6), .ref (ad 7), .ref (ad 8), .ref (ad 9), .ref (ad 10), .ref (ad 11), .ref (ad 12), .ref (ad 13), .ref (ad 14), .ref (ad 15), .ref (ad 16), .ref (ad 17), .int n, .int c, .int 1, .int 1]), (ad 8, true, .inr .int, seg8 (S.map Prod.fst)), (ad 9, true, .inr .int, seg8 (S.map Prod.snd)), (ad 16, true, .inr .int, List.replicate 8 (.int 0))] (fun v L => v = none ∧ L = [(pa, true, .inl kP, [.ref (ad 0), .ref (ad 1), .ref (ad 2), .ref (ad 3), .ref (ad 4), .ref (ad 5), .ref (ad 6), .ref (ad 7), .ref (ad 8), .ref (ad 9), .ref (ad 10), .ref (ad 11), .ref (ad 12), .ref (ad 13), .ref (ad 14), .ref (ad 15), .ref (ad 16), .ref (ad 17), .int n, .int (c + 1), .int 1, .int 1]), (ad 8, true, .inr .int, seg8 ((S ++ [(x, y)]).map Prod.fst)), (ad 9, true, .inr .int, seg8 ((S ++ [(x, y)]).map Prod.snd)), (ad 16, true, .inr .int, List.replicate 8 (.int 0))]) := by
  refine ct_of pn10 (B := B_rm_seg) (ls := [.val (.ref pa), .val (.int x), .val (.int y), .val (.int 0)]) B_rm_seg_ok (ew1 hw) (fun m => by first | (simp [entryFrame, mkF, argsToLocals, Value.category]; done) | rfl) (fun K C => ?_)
  refine wp_blk C 0 1 (pc' := 1) (ls' := [.val (.ref pa), .val (.int x), .val (.int y), .val (.int 0)]) (st' := [.ref pa]) rfl ?_
  refine wp_get C 1 4 0 19 rfl rfl (wd hw 71 rfl) Via.refl rfl rfl rfl ?_
  refine wp_blk C 2 1 (pc' := 5) (ls' := [.val (.ref pa), .val (.int x), .val (.int y), .val (.int 0)]) (st' := [.ref pa, .int c]) rfl ?_
  refine wp_get C 3 8 0 8 rfl rfl (wd hw 44 rfl) Via.refl rfl rfl rfl ?_
  refine wp_len C (z := 8) 4 9 1 rfl rfl rfl (by rw [seg8_len (by simp; omega)]; rfl) ?_
  refine wp_icmp C 5 177 12 rfl rfl rfl (by decide) (fun _ => ?_) (fun h => absurd h (fun q : c = 8 => by rw [q] at hc; have : (8 : Int32).toInt = 8 := rfl; omega))
  refine wp_blk C 6 1 (pc' := 178) (ls' := [.val (.ref pa), .val (.int x), .val (.int y), .val (.int 0)]) (st' := [.ref pa]) rfl ?_
  refine wp_get C 7 181 0 8 rfl rfl (wd hw 44 rfl) Via.refl rfl rfl rfl ?_
  refine wp_blk C 8 1 (pc' := 182) (ls' := [.val (.ref pa), .val (.int x), .val (.int y), .val (.int 0)]) (st' := [.ref pa, .ref (ad 8)]) rfl ?_
  refine wp_get C 9 185 0 19 rfl rfl (wd hw 71 rfl) Via.refl rfl rfl rfl ?_
  refine wp_blk C 10 1 (pc' := 186) (ls' := [.val (.ref pa), .val (.int x), .val (.int y), .val (.int 0)]) (st' := [.int x, .int c, .ref (ad 8)]) rfl ?_
  refine wp_stoI C (n := S.length) (vs' := seg8 ((S ++ [(x, y)]).map Prod.fst)) (L' := [(pa, true, .inl kP, [.ref (ad 0), .ref (ad 1), .ref (ad 2), .ref (ad 3), .ref (ad 4), .ref (ad 5), .ref (ad 6), .ref (ad 7), .ref (ad 8), .ref (ad 9), .ref (ad 10), .ref (ad 11), .ref (ad 12), .ref (ad 13), .ref (ad 14), .ref (ad 15), .ref (ad 16), .ref (ad 17), .int n, .int c, .int 1, .int 1]), (ad 8, true, .inr .int, seg8 ((S ++ [(x, y)]).map Prod.fst)), (ad 9, true, .inr .int, seg8 (S.map Prod.snd)), (ad 16, true, .inr .int, List.replicate 8 (.int 0))]) 11 187 1 rfl rfl rfl hc (by rw [seg8_len (by simp; omega)]; omega) (by have := seg8_set (xs := S.map Prod.fst) (e := x) (by simpa using hk); simpa using this) rfl ?_
  refine wp_blk C 12 1 (pc' := 188) (ls' := [.val (.ref pa), .val (.int x), .val (.int y), .val (.int 0)]) (st' := [.ref pa]) rfl ?_
  refine wp_get C 13 191 0 9 rfl rfl (wd hw 46 rfl) Via.refl rfl rfl rfl ?_
  refine wp_blk C 14 1 (pc' := 192) (ls' := [.val (.ref pa), .val (.int x), .val (.int y), .val (.int 0)]) (st' := [.ref pa, .ref (ad 9)]) rfl ?_
  refine wp_get C 15 195 0 19 rfl rfl (wd hw 71 rfl) Via.refl rfl rfl rfl ?_
  refine wp_blk C 16 1 (pc' := 196) (ls' := [.val (.ref pa), .val (.int x), .val (.int y), .val (.int 0)]) (st' := [.int y, .int c, .ref (ad 9)]) rfl ?_
  refine wp_stoI C (n := S.length) (vs' := seg8 ((S ++ [(x, y)]).map Prod.snd)) (L' := [(pa, true, .inl kP, [.ref (ad 0), .ref (ad 1), .ref (ad 2), .ref (ad 3), .ref (ad 4), .ref (ad 5), .ref (ad 6), .ref (ad 7), .ref (ad 8), .ref (ad 9), .ref (ad 10), .ref (ad 11), .ref (ad 12), .ref (ad 13), .ref (ad 14), .ref (ad 15), .ref (ad 16), .ref (ad 17), .int n, .int c, .int 1, .int 1]), (ad 8, true, .inr .int, seg8 ((S ++ [(x, y)]).map Prod.fst)), (ad 9, true, .inr .int, seg8 ((S ++ [(x, y)]).map Prod.snd)), (ad 16, true, .inr .int, List.replicate 8 (.int 0))]) 17 197 2 rfl rfl rfl hc (by rw [seg8_len (by simp; omega)]; omega) (by have := seg8_set (xs := S.map Prod.snd) (e := y) (by simpa using hk); simpa using this) rfl ?_
  refine wp_blk C 18 1 (pc' := 198) (ls' := [.val (.ref pa), .val (.int x), .val (.int y), .val (.int 0)]) (st' := [.ref pa]) rfl ?_
  refine wp_get C 19 201 0 16 rfl rfl (wd hw 60 rfl) Via.refl rfl rfl rfl ?_
  refine wp_blk C 20 1 (pc' := 202) (ls' := [.val (.ref pa), .val (.int x), .val (.int y), .val (.int 0)]) (st' := [.ref pa, .ref (ad 16)]) rfl ?_
  refine wp_get C 21 205 0 19 rfl rfl (wd hw 71 rfl) Via.refl rfl rfl rfl ?_
  refine wp_blk C 22 1 (pc' := 206) (ls' := [.val (.ref pa), .val (.int x), .val (.int y), .val (.int 0)]) (st' := [.int 0, .int c, .ref (ad 16)]) rfl ?_
  refine wp_stoI C (n := S.length) (vs' := List.replicate 8 (.int 0)) (L' := [(pa, true, .inl kP, [.ref (ad 0), .ref (ad 1), .ref (ad 2), .ref (ad 3), .ref (ad 4), .ref (ad 5), .ref (ad 6), .ref (ad 7), .ref (ad 8), .ref (ad 9), .ref (ad 10), .ref (ad 11), .ref (ad 12), .ref (ad 13), .ref (ad 14), .ref (ad 15), .ref (ad 16), .ref (ad 17), .int n, .int c, .int 1, .int 1]), (ad 8, true, .inr .int, seg8 ((S ++ [(x, y)]).map Prod.fst)), (ad 9, true, .inr .int, seg8 ((S ++ [(x, y)]).map Prod.snd)), (ad 16, true, .inr .int, List.replicate 8 (.int 0))]) 23 207 3 rfl rfl rfl hc (by rw [List.length_replicate]; omega) rep_set rfl ?_
  refine wp_blk C 24 2 (pc' := 209) (ls' := [.val (.ref pa), .val (.int x), .val (.int y), .val (.int 0)]) (st' := [.ref pa, .ref pa]) rfl ?_
  refine wp_get C 26 212 0 19 rfl rfl (wd hw 71 rfl) Via.refl rfl rfl rfl ?_
  refine wp_blk C 27 2 (pc' := 214) (ls' := [.val (.ref pa), .val (.int x), .val (.int y), .val (.int 0)]) (st' := [.int (c + 1), .ref pa]) rfl ?_
  refine wp_put C (ty := .int) (v := .int (c + 1)) (vs' := [.ref (ad 0), .ref (ad 1), .ref (ad 2), .ref (ad 3), .ref (ad 4), .ref (ad 5), .ref (ad 6), .ref (ad 7), .ref (ad 8), .ref (ad 9), .ref (ad 10), .ref (ad 11), .ref (ad 12), .ref (ad 13), .ref (ad 14), .ref (ad 15), .ref (ad 16), .ref (ad 17), .int n, .int (c + 1), .int 1, .int 1]) (L' := [(pa, true, .inl kP, [.ref (ad 0), .ref (ad 1), .ref (ad 2), .ref (ad 3), .ref (ad 4), .ref (ad 5), .ref (ad 6), .ref (ad 7), .ref (ad 8), .ref (ad 9), .ref (ad 10), .ref (ad 11), .ref (ad 12), .ref (ad 13), .ref (ad 14), .ref (ad 15), .ref (ad 16), .ref (ad 17), .int n, .int (c + 1), .int 1, .int 1]), (ad 8, true, .inr .int, seg8 ((S ++ [(x, y)]).map Prod.fst)), (ad 9, true, .inr .int, seg8 ((S ++ [(x, y)]).map Prod.snd)), (ad 16, true, .inr .int, List.replicate 8 (.int 0))]) 29 217 0 19 rfl rfl (wd hw 71 rfl) Via.refl (Or.inl (wd hw 72 rfl)) (wd hw 16 rfl) (kP_ok hw) fd3 rfl rfl rfl rfl rfl rfl rfl ?_
  exact wp_ret0 C 30 rfl (by decide) (by decide) (⟨rfl, rfl⟩)
theorem pn11 : plainFor (⟨"com/example/trapeze/trapeze/scheduling/Profile", "sweepWhole", "()V"⟩ : MethodName) = true := by first | (refine plainFor_of_name ?_; simp [plainName, overriddenIn]; done) | (refine plainFor_of_name ?_; decide +kernel) | decide +kernel
theorem pd6 : parseMethodDescriptor "(J)I" = some ⟨[.long], (some .int)⟩ := by decide +kernel
def B_rm_sweep : Prog := [(0, .lconst 0, 1), (1, .lstore_n 1, 1), (2, .lconst 0, 1), (3, .lstore_n 3, 1), (4, .iconst 0, 1), (5, .istore 5, 2), (7, .iconst 0, 1), (8, .istore 6, 2), (10, .iload 6, 2), (12, .aload_n 0, 1), (13, .getfield 68, 3), (16, .if_icmp .ge 141, 3), (19, .aload_n 0, 1), (20, .getfield 7, 3), (23, .iload 6, 2), (25, .laload, 1), (26, .invokestatic 125, 3), (29, .istore 7, 2), (31, .iload 6, 2), (33, .aload_n 0, 1), (34, .getfield 68, 3), (37, .if_icmp .ge 66, 3), (40, .aload_n 0, 1), (41, .getfield 7, 3), (44, .iload 6, 2), (46, .laload, 1), (47, .invokestatic 125, 3), (50, .iload 7, 2), (52, .if_icmp .ne 51, 3), (55, .aload_n 0, 1), (56, .getfield 7, 3), (59, .iload 6, 2), (61, .laload, 1), (62, .l2i, 1), (63, .istore 8, 2), (65, .lload_n 1, 1), (66, .aload_n 0, 1), (67, .getfield 13, 3), (70, .iload 8, 2), (72, .laload, 1), (73, .ladd, 1), (74, .lstore_n 1, 1), (75, .lload_n 3, 1), (76, .aload_n 0, 1), (77, .getfield 16, 3), (80, .iload 8, 2), (82, .laload, 1), (83, .ladd, 1), (84, .lstore_n 3, 1), (85, .iload 5, 2), (87, .aload_n 0, 1), (88, .getfield 34, 3), (91, .iload 8, 2), (93, .iaload, 1), (94, .iadd, 1), (95, .istore 5, 2), (97, .iinc 6 1, 3), (100, .goto (-69), 3), (103, .iload 6, 2), (105, .aload_n 0, 1), (106, .getfield 68, 3), (109, .if_icmp .ge 45, 3), (112, .aload_n 0, 1), (113, .iload 7, 2), (115, .aload_n 0, 1), (116, .getfield 7, 3), (119, .iload 6, 2), (121, .laload, 1), (122, .invokestatic 125, 3), (125, .iload 5, 2), (127, .invokevirtual 129, 3), (130, .aload_n 0, 1), (131, .getfield 44, 3), (134, .aload_n 0, 1), (135, .getfield 72, 3), (138, .iconst 1, 1), (139, .isub, 1), (140, .lload_n 1, 1), (141, .lastore, 1), (142, .aload_n 0, 1), (143, .getfield 47, 3), (146, .aload_n 0, 1), (147, .getfield 72, 3), (150, .iconst 1, 1), (151, .isub, 1), (152, .lload_n 3, 1), (153, .lastore, 1), (154, .goto (-144), 3), (157, .return_, 1)]
theorem B_rm_sweep_ok : okB prog_39_method_7_code B_rm_sweep = true := by decide +kernel
set_option maxRecDepth 65536 in
set_option maxHeartbeats 40000000 in
theorem rm_sweep (l : Launch) (Z : State) (a0 : Array Value) (hw : ∀ d ∈ tables_1, d.before a0 Z = true) (pa : Addr) (ad : Nat → Addr) (xs : List Int64) (k : Int32) (hk : k.toInt = xs.length) (hn : xs.length ≤ 16) (hT : (seg (xs.map timeV)).length ≤ 8) (hidx : ∀ e ∈ xs, ∃ ix : Nat, ix < 16 ∧ e.toInt32.toInt = ix) : Ct l Z EL1 nw1 (⟨"com/example/trapeze/trapeze/scheduling/Profile", "sweepWhole", "()V"⟩ : MethodName) prog_39_method_7_code 9 none [] ({ frames := 1, cells := 0, slots := 0, locals := 19 } : Room) [.ref pa] [(pa, true, .inl kP, [.ref (ad 0), .ref (ad 1), .ref (ad 2), .ref (ad 3), .ref (ad 4), .ref (ad 5), .ref (ad 6), .ref (ad 7), .ref (ad 8), .ref (ad 9), .ref (ad 10), .ref (ad 11), .ref (ad 12), .ref (ad 13), .ref (ad 14), .ref (ad 15), .ref (ad 16), .ref (ad 17), .int k, .int 0, .int 1, .int 1]), (ad 0, true, .inr .long, evs xs), (ad 1, true, .inr .long, List.replicate 16 (.long 0)), (ad 2, true, .inr .long, List.replicate 16 (.long 0)), (ad 7, true, .inr .int, List.replicate 16 (.int 0)), (ad 8, true, .inr .int, seg8 (([] : List (Int32 × Int32)).map Prod.fst)), (ad 9, true, .inr .int, seg8 (([] : List (Int32 × Int32)).map Prod.snd)), (ad 10, true, .inr .long, List.replicate 8 (.long 0)), (ad 11, true, .inr .long, List.replicate 8 (.long 0)), (ad 16, true, .inr .int, List.replicate 8 (.int 0))] (fun v L => v = none ∧ ∃ (S : List (Int32 × Int32)) (cc : Int32), S = seg (xs.map timeV) ∧ cc.toInt = S.length ∧ L = [(pa, true, .inl kP, [.ref (ad 0), .ref (ad 1), .ref (ad 2), .ref (ad 3), .ref (ad 4), .ref (ad 5), .ref (ad 6), .ref (ad 7), .ref (ad 8), .ref (ad 9), .ref (ad 10), .ref (ad 11), .ref (ad 12), .ref (ad 13), .ref (ad 14), .ref (ad 15), .ref (ad 16), .ref (ad 17), .int k, .int cc, .int 1, .int 1]), (ad 0, true, .inr .long, evs xs), (ad 1, true, .inr .long, List.replicate 16 (.long 0)), (ad 2, true, .inr .long, List.replicate 16 (.long 0)), (ad 7, true, .inr .int, List.replicate 16 (.int 0)), (ad 8, true, .inr .int, seg8 (S.map Prod.fst)), (ad 9, true, .inr .int, seg8 (S.map Prod.snd)), (ad 10, true, .inr .long, List.replicate 8 (.long 0)), (ad 11, true, .inr .long, List.replicate 8 (.long 0)), (ad 16, true, .inr .int, List.replicate 8 (.int 0))]) := by
  refine ct_of pn11 (B := B_rm_sweep) (ls := [.val (.ref pa), .unset, .unset, .unset, .unset, .unset, .unset, .unset, .unset]) B_rm_sweep_ok (ew1 hw) (fun m => by first | (simp [entryFrame, mkF, argsToLocals, Value.category]; done) | rfl) (fun K C => ?_)
  have outer : ∀ (m : Nat) (d r : List Int64) (S : List (Int32 × Int32)) (cc i : Int32) (s7 s8 : Slot), r.length = m → d ++ r = xs → S ++ seg (r.map timeV) = seg (xs.map timeV) → cc.toInt = S.length → i.toInt = d.length → ((s7 = .unset ∧ s8 = .unset) ∨ ∃ t q : Int32, s7 = .val (.int t) ∧ s8 = .val (.int q)) →
      Wp K 0 0 [(pa, true, .inl kP, [.ref (ad 0), .ref (ad 1), .ref (ad 2), .ref (ad 3), .ref (ad 4), .ref (ad 5), .ref (ad 6), .ref (ad 7), .ref (ad 8), .ref (ad 9), .ref (ad 10), .ref (ad 11), .ref (ad 12), .ref (ad 13), .ref (ad 14), .ref (ad 15), .ref (ad 16), .ref (ad 17), .int k, .int cc, .int 1, .int 1]), (ad 0, true, .inr .long, evs xs), (ad 1, true, .inr .long, List.replicate 16 (.long 0)), (ad 2, true, .inr .long, List.replicate 16 (.long 0)), (ad 7, true, .inr .int, List.replicate 16 (.int 0)), (ad 8, true, .inr .int, seg8 (S.map Prod.fst)), (ad 9, true, .inr .int, seg8 (S.map Prod.snd)), (ad 10, true, .inr .long, List.replicate 8 (.long 0)), (ad 11, true, .inr .long, List.replicate 8 (.long 0)), (ad 16, true, .inr .int, List.replicate 8 (.int 0))] 10 [.val (.ref pa), .val (.long 0), .second, .val (.long 0), .second, .val (.int 0), .val (.int i), s7, s8] [] := by
    intro m
    induction m using Nat.strongRecOn with
    | _ m ih =>
      intro d r S cc i s7 s8 hm hdr hS hcc hi ho
      have hlen : d.length + r.length = xs.length := by rw [← hdr]; simp
      cases r with
      | nil =>
        rcases ho with ⟨rfl, rfl⟩ | ⟨t, q, rfl, rfl⟩
        · refine wp_blk C 8 2 (pc' := 13) (ls' := [.val (.ref pa), .val (.long 0), .second, .val (.long 0), .second, .val (.int 0), .val (.int i), .unset, .unset]) (st' := [.ref pa, .int i]) rfl ?_
          refine wp_get C 10 16 0 18 rfl rfl (wd hw 69 rfl) Via.refl rfl rfl rfl ?_
          refine wp_icmp C 11 157 19 rfl rfl rfl (by decide) (fun _ => ?_) (fun h => absurd h (fun q : i.toInt < k.toInt => by simp at hlen; omega))
          exact wp_ret0 C 88 rfl (by decide) (by decide) (⟨rfl, S, cc, by simpa [seg] using hS, hcc, rfl⟩)
        · refine wp_blk C 8 2 (pc' := 13) (ls' := [.val (.ref pa), .val (.long 0), .second, .val (.long 0), .second, .val (.int 0), .val (.int i), .val (.int t), .val (.int q)]) (st' := [.ref pa, .int i]) rfl ?_
          refine wp_get C 10 16 0 18 rfl rfl (wd hw 69 rfl) Via.refl rfl rfl rfl ?_
          refine wp_icmp C 11 157 19 rfl rfl rfl (by decide) (fun _ => ?_) (fun h => absurd h (fun q : i.toInt < k.toInt => by simp at hlen; omega))
          exact wp_ret0 C 88 rfl (by decide) (by decide) (⟨rfl, S, cc, by simpa [seg] using hS, hcc, rfl⟩)
      | cons e r =>
        have hlen : d.length + (r.length + 1) = xs.length := by simpa using hlen
        have hm : r.length + 1 = m := by simpa using hm
        have hev : xs[d.length]? = some e := by rw [← hdr]; simp
        obtain ⟨ix, hix, hxe⟩ := hidx e (List.mem_of_getElem? hev)
        have inner : ∀ (m2 : Nat) (d2 r2 : List Int64) (i2 q : Int32), r2.length = m2 → r2.length ≤ r.length → d2 ++ r2 = xs → S ++ seg (timeV e :: r2.map timeV) = seg (xs.map timeV) → i2.toInt = d2.length →
            Wp K 0 0 [(pa, true, .inl kP, [.ref (ad 0), .ref (ad 1), .ref (ad 2), .ref (ad 3), .ref (ad 4), .ref (ad 5), .ref (ad 6), .ref (ad 7), .ref (ad 8), .ref (ad 9), .ref (ad 10), .ref (ad 11), .ref (ad 12), .ref (ad 13), .ref (ad 14), .ref (ad 15), .ref (ad 16), .ref (ad 17), .int k, .int cc, .int 1, .int 1]), (ad 0, true, .inr .long, evs xs), (ad 1, true, .inr .long, List.replicate 16 (.long 0)), (ad 2, true, .inr .long, List.replicate 16 (.long 0)), (ad 7, true, .inr .int, List.replicate 16 (.int 0)), (ad 8, true, .inr .int, seg8 (S.map Prod.fst)), (ad 9, true, .inr .int, seg8 (S.map Prod.snd)), (ad 10, true, .inr .long, List.replicate 8 (.long 0)), (ad 11, true, .inr .long, List.replicate 8 (.long 0)), (ad 16, true, .inr .int, List.replicate 8 (.int 0))] 31 [.val (.ref pa), .val (.long 0), .second, .val (.long 0), .second, .val (.int 0), .val (.int i2), .val (.int (timeV e)), .val (.int q)] [] := by
          intro m2
          induction m2 with
          | zero =>
            intro d2 r2 i2 q hm2 hle hdr2 hS2 hi2
            obtain rfl := List.length_eq_zero_iff.mp hm2
            have hlen2 : d2.length = xs.length := by rw [← hdr2]; simp
            refine wp_blk C 18 2 (pc' := 34) (ls' := [.val (.ref pa), .val (.long 0), .second, .val (.long 0), .second, .val (.int 0), .val (.int i2), .val (.int (timeV e)), .val (.int q)]) (st' := [.ref pa, .int i2]) rfl ?_
            refine wp_get C 20 37 0 18 rfl rfl (wd hw 69 rfl) Via.refl rfl rfl rfl ?_
            refine wp_icmp C 21 103 40 rfl rfl rfl (by decide) (fun _ => ?_) (fun h => absurd h (fun q : i2.toInt < k.toInt => by omega))
            refine wp_blk C 58 2 (pc' := 106) (ls' := [.val (.ref pa), .val (.long 0), .second, .val (.long 0), .second, .val (.int 0), .val (.int i2), .val (.int (timeV e)), .val (.int q)]) (st' := [.ref pa, .int i2]) rfl ?_
            refine wp_get C 60 109 0 18 rfl rfl (wd hw 69 rfl) Via.refl rfl rfl rfl ?_
            refine wp_icmp C 61 154 112 rfl rfl rfl (by decide) (fun _ => ?_) (fun h => absurd h (fun q : i2.toInt < k.toInt => by omega))
            refine wp_blk C 87 1 (pc' := 10) (ls' := [.val (.ref pa), .val (.long 0), .second, .val (.long 0), .second, .val (.int 0), .val (.int i2), .val (.int (timeV e)), .val (.int q)]) (st' := []) rfl ?_
            exact ih 0 (by omega) d2 [] S cc i2 _ _ rfl hdr2 (by simpa [seg] using hS2) hcc hi2 (Or.inr ⟨_, _, rfl, rfl⟩)
          | succ m2 ih2 =>
            intro d2 r2 i2 q hm2 hle hdr2 hS2 hi2
            obtain ⟨e2, r3, rfl⟩ : ∃ e2 r3, r2 = e2 :: r3 := by cases r2 with | nil => simp at hm2 | cons e2 r3 => exact ⟨e2, r3, rfl⟩
            have hlen2 : d2.length + (r3.length + 1) = xs.length := by rw [← hdr2]; simp
            have hm2 : r3.length = m2 := by simpa using hm2
            have hle : r3.length + 1 ≤ r.length := by simpa using hle
            have hev2 : xs[d2.length]? = some e2 := by rw [← hdr2]; simp
            obtain ⟨ix2, hix2, hxe2⟩ := hidx e2 (List.mem_of_getElem? hev2)
            refine wp_blk C 18 2 (pc' := 34) (ls' := [.val (.ref pa), .val (.long 0), .second, .val (.long 0), .second, .val (.int 0), .val (.int i2), .val (.int (timeV e)), .val (.int q)]) (st' := [.ref pa, .int i2]) rfl ?_
            refine wp_get C 20 37 0 18 rfl rfl (wd hw 69 rfl) Via.refl rfl rfl rfl ?_
            refine wp_icmp C 21 103 40 rfl rfl rfl (by decide) (fun h => absurd h (fun q : k.toInt ≤ i2.toInt => by omega)) (fun _ => ?_)
            refine wp_blk C 22 1 (pc' := 41) (ls' := [.val (.ref pa), .val (.long 0), .second, .val (.long 0), .second, .val (.int 0), .val (.int i2), .val (.int (timeV e)), .val (.int q)]) (st' := [.ref pa]) rfl ?_
            refine wp_get C 23 44 0 0 rfl rfl (wd hw 25 rfl) Via.refl rfl rfl rfl ?_
            refine wp_blk C 24 1 (pc' := 46) (ls' := [.val (.ref pa), .val (.long 0), .second, .val (.long 0), .second, .val (.int 0), .val (.int i2), .val (.int (timeV e)), .val (.int q)]) (st' := [.int i2, .ref (ad 0)]) rfl ?_
            refine wp_aload C (n := d2.length) (v := .long e2) 25 47 1 rfl rfl (Or.inr (Or.inl ⟨rfl, rfl⟩)) rfl hi2 (evs_get hev2) ?_
            refine wp_static C (al := [.long e2]) (rest := []) (L1 := [(pa, true, .inl kP, [.ref (ad 0), .ref (ad 1), .ref (ad 2), .ref (ad 3), .ref (ad 4), .ref (ad 5), .ref (ad 6), .ref (ad 7), .ref (ad 8), .ref (ad 9), .ref (ad 10), .ref (ad 11), .ref (ad 12), .ref (ad 13), .ref (ad 14), .ref (ad 15), .ref (ad 16), .ref (ad 17), .int k, .int cc, .int 1, .int 1]), (ad 0, true, .inr .long, evs xs), (ad 1, true, .inr .long, List.replicate 16 (.long 0)), (ad 2, true, .inr .long, List.replicate 16 (.long 0)), (ad 7, true, .inr .int, List.replicate 16 (.int 0)), (ad 8, true, .inr .int, seg8 (S.map Prod.fst)), (ad 9, true, .inr .int, seg8 (S.map Prod.snd)), (ad 10, true, .inr .long, List.replicate 8 (.long 0)), (ad 11, true, .inr .long, List.replicate 8 (.long 0)), (ad 16, true, .inr .int, List.replicate 8 (.int 0))]) (W := 0) (cells' := 0) (slots' := 0) 26 50 (rm_time l Z a0 hw e2) rfl rfl (wd hw 114 rfl) (wd hw 115 rfl) (wd hw 116 rfl) (wd hw 17 rfl) (by decide) pd6 rfl rfl rfl rfl (by decide) (by decide) rfl rfl rfl (by decide) (by decide) (fun v L' hQ => ?_)
            obtain ⟨rfl, rfl⟩ := hQ
            show Wp K 0 0 [(pa, true, .inl kP, [.ref (ad 0), .ref (ad 1), .ref (ad 2), .ref (ad 3), .ref (ad 4), .ref (ad 5), .ref (ad 6), .ref (ad 7), .ref (ad 8), .ref (ad 9), .ref (ad 10), .ref (ad 11), .ref (ad 12), .ref (ad 13), .ref (ad 14), .ref (ad 15), .ref (ad 16), .ref (ad 17), .int k, .int cc, .int 1, .int 1]), (ad 0, true, .inr .long, evs xs), (ad 1, true, .inr .long, List.replicate 16 (.long 0)), (ad 2, true, .inr .long, List.replicate 16 (.long 0)), (ad 7, true, .inr .int, List.replicate 16 (.int 0)), (ad 8, true, .inr .int, seg8 (S.map Prod.fst)), (ad 9, true, .inr .int, seg8 (S.map Prod.snd)), (ad 10, true, .inr .long, List.replicate 8 (.long 0)), (ad 11, true, .inr .long, List.replicate 8 (.long 0)), (ad 16, true, .inr .int, List.replicate 8 (.int 0))] 50 [.val (.ref pa), .val (.long 0), .second, .val (.long 0), .second, .val (.int 0), .val (.int i2), .val (.int (timeV e)), .val (.int q)] [.int (timeV e2)]
            refine wp_blk C 27 1 (pc' := 52) (ls' := [.val (.ref pa), .val (.long 0), .second, .val (.long 0), .second, .val (.int 0), .val (.int i2), .val (.int (timeV e)), .val (.int q)]) (st' := [.int (timeV e), .int (timeV e2)]) rfl ?_
            refine wp_icmp C 28 103 55 rfl rfl rfl (by decide) (fun (hne : ((timeV e2) : Int32) ≠ (timeV e)) => ?_) (fun (hne : ((timeV e2) : Int32) = (timeV e)) => ?_)
            · refine wp_blk C 58 2 (pc' := 106) (ls' := [.val (.ref pa), .val (.long 0), .second, .val (.long 0), .second, .val (.int 0), .val (.int i2), .val (.int (timeV e)), .val (.int q)]) (st' := [.ref pa, .int i2]) rfl ?_
              refine wp_get C 60 109 0 18 rfl rfl (wd hw 69 rfl) Via.refl rfl rfl rfl ?_
              refine wp_icmp C 61 154 112 rfl rfl rfl (by decide) (fun h => absurd h (fun q : k.toInt ≤ i2.toInt => by omega)) (fun _ => ?_)
              have hS3 : S ++ (timeV e, timeV e2) :: seg ((e2 :: r3).map timeV) = seg (xs.map timeV) := by rw [← hS2]; simp [seg, Ne.symm hne]
              have hlt : S.length < 8 := by have := congrArg List.length hS3; simp at this; omega
              refine wp_blk C 62 3 (pc' := 116) (ls' := [.val (.ref pa), .val (.long 0), .second, .val (.long 0), .second, .val (.int 0), .val (.int i2), .val (.int (timeV e)), .val (.int q)]) (st' := [.ref pa, .int (timeV e), .ref pa]) rfl ?_
              refine wp_get C 65 119 0 0 rfl rfl (wd hw 25 rfl) Via.refl rfl rfl rfl ?_
              refine wp_blk C 66 1 (pc' := 121) (ls' := [.val (.ref pa), .val (.long 0), .second, .val (.long 0), .second, .val (.int 0), .val (.int i2), .val (.int (timeV e)), .val (.int q)]) (st' := [.int i2, .ref (ad 0), .int (timeV e), .ref pa]) rfl ?_
              refine wp_aload C (n := d2.length) (v := .long e2) 67 122 1 rfl rfl (Or.inr (Or.inl ⟨rfl, rfl⟩)) rfl hi2 (evs_get hev2) ?_
              refine wp_static C (al := [.long e2]) (rest := [.int (timeV e), .ref pa]) (L1 := [(pa, true, .inl kP, [.ref (ad 0), .ref (ad 1), .ref (ad 2), .ref (ad 3), .ref (ad 4), .ref (ad 5), .ref (ad 6), .ref (ad 7), .ref (ad 8), .ref (ad 9), .ref (ad 10), .ref (ad 11), .ref (ad 12), .ref (ad 13), .ref (ad 14), .ref (ad 15), .ref (ad 16), .ref (ad 17), .int k, .int cc, .int 1, .int 1]), (ad 0, true, .inr .long, evs xs), (ad 1, true, .inr .long, List.replicate 16 (.long 0)), (ad 2, true, .inr .long, List.replicate 16 (.long 0)), (ad 7, true, .inr .int, List.replicate 16 (.int 0)), (ad 8, true, .inr .int, seg8 (S.map Prod.fst)), (ad 9, true, .inr .int, seg8 (S.map Prod.snd)), (ad 10, true, .inr .long, List.replicate 8 (.long 0)), (ad 11, true, .inr .long, List.replicate 8 (.long 0)), (ad 16, true, .inr .int, List.replicate 8 (.int 0))]) (W := 2) (cells' := 0) (slots' := 0) 68 125 (rm_time l Z a0 hw e2) rfl rfl (wd hw 114 rfl) (wd hw 115 rfl) (wd hw 116 rfl) (wd hw 17 rfl) (by decide) pd6 rfl rfl rfl rfl (by decide) (by decide) rfl rfl rfl (by decide) (by decide) (fun v L' hQ => ?_)
              obtain ⟨rfl, rfl⟩ := hQ
              show Wp K 0 0 [(pa, true, .inl kP, [.ref (ad 0), .ref (ad 1), .ref (ad 2), .ref (ad 3), .ref (ad 4), .ref (ad 5), .ref (ad 6), .ref (ad 7), .ref (ad 8), .ref (ad 9), .ref (ad 10), .ref (ad 11), .ref (ad 12), .ref (ad 13), .ref (ad 14), .ref (ad 15), .ref (ad 16), .ref (ad 17), .int k, .int cc, .int 1, .int 1]), (ad 0, true, .inr .long, evs xs), (ad 1, true, .inr .long, List.replicate 16 (.long 0)), (ad 2, true, .inr .long, List.replicate 16 (.long 0)), (ad 7, true, .inr .int, List.replicate 16 (.int 0)), (ad 8, true, .inr .int, seg8 (S.map Prod.fst)), (ad 9, true, .inr .int, seg8 (S.map Prod.snd)), (ad 10, true, .inr .long, List.replicate 8 (.long 0)), (ad 11, true, .inr .long, List.replicate 8 (.long 0)), (ad 16, true, .inr .int, List.replicate 8 (.int 0))] 125 [.val (.ref pa), .val (.long 0), .second, .val (.long 0), .second, .val (.int 0), .val (.int i2), .val (.int (timeV e)), .val (.int q)] [.int (timeV e2), .int (timeV e), .ref pa]
              refine wp_blk C 69 1 (pc' := 127) (ls' := [.val (.ref pa), .val (.long 0), .second, .val (.long 0), .second, .val (.int 0), .val (.int i2), .val (.int (timeV e)), .val (.int q)]) (st' := [.int 0, .int (timeV e2), .int (timeV e), .ref pa]) rfl ?_
              refine wp_front C 9 (L' := [(ad 16, true, .inr .int, List.replicate 8 (.int 0)), (pa, true, .inl kP, [.ref (ad 0), .ref (ad 1), .ref (ad 2), .ref (ad 3), .ref (ad 4), .ref (ad 5), .ref (ad 6), .ref (ad 7), .ref (ad 8), .ref (ad 9), .ref (ad 10), .ref (ad 11), .ref (ad 12), .ref (ad 13), .ref (ad 14), .ref (ad 15), .ref (ad 16), .ref (ad 17), .int k, .int cc, .int 1, .int 1]), (ad 0, true, .inr .long, evs xs), (ad 1, true, .inr .long, List.replicate 16 (.long 0)), (ad 2, true, .inr .long, List.replicate 16 (.long 0)), (ad 7, true, .inr .int, List.replicate 16 (.int 0)), (ad 8, true, .inr .int, seg8 (S.map Prod.fst)), (ad 9, true, .inr .int, seg8 (S.map Prod.snd)), (ad 10, true, .inr .long, List.replicate 8 (.long 0)), (ad 11, true, .inr .long, List.replicate 8 (.long 0))]) rfl ?_
              refine wp_front C 7 (L' := [(ad 9, true, .inr .int, seg8 (S.map Prod.snd)), (ad 16, true, .inr .int, List.replicate 8 (.int 0)), (pa, true, .inl kP, [.ref (ad 0), .ref (ad 1), .ref (ad 2), .ref (ad 3), .ref (ad 4), .ref (ad 5), .ref (ad 6), .ref (ad 7), .ref (ad 8), .ref (ad 9), .ref (ad 10), .ref (ad 11), .ref (ad 12), .ref (ad 13), .ref (ad 14), .ref (ad 15), .ref (ad 16), .ref (ad 17), .int k, .int cc, .int 1, .int 1]), (ad 0, true, .inr .long, evs xs), (ad 1, true, .inr .long, List.replicate 16 (.long 0)), (ad 2, true, .inr .long, List.replicate 16 (.long 0)), (ad 7, true, .inr .int, List.replicate 16 (.int 0)), (ad 8, true, .inr .int, seg8 (S.map Prod.fst)), (ad 10, true, .inr .long, List.replicate 8 (.long 0)), (ad 11, true, .inr .long, List.replicate 8 (.long 0))]) rfl ?_
              refine wp_front C 7 (L' := [(ad 8, true, .inr .int, seg8 (S.map Prod.fst)), (ad 9, true, .inr .int, seg8 (S.map Prod.snd)), (ad 16, true, .inr .int, List.replicate 8 (.int 0)), (pa, true, .inl kP, [.ref (ad 0), .ref (ad 1), .ref (ad 2), .ref (ad 3), .ref (ad 4), .ref (ad 5), .ref (ad 6), .ref (ad 7), .ref (ad 8), .ref (ad 9), .ref (ad 10), .ref (ad 11), .ref (ad 12), .ref (ad 13), .ref (ad 14), .ref (ad 15), .ref (ad 16), .ref (ad 17), .int k, .int cc, .int 1, .int 1]), (ad 0, true, .inr .long, evs xs), (ad 1, true, .inr .long, List.replicate 16 (.long 0)), (ad 2, true, .inr .long, List.replicate 16 (.long 0)), (ad 7, true, .inr .int, List.replicate 16 (.int 0)), (ad 10, true, .inr .long, List.replicate 8 (.long 0)), (ad 11, true, .inr .long, List.replicate 8 (.long 0))]) rfl ?_
              refine wp_front C 3 (L' := [(pa, true, .inl kP, [.ref (ad 0), .ref (ad 1), .ref (ad 2), .ref (ad 3), .ref (ad 4), .ref (ad 5), .ref (ad 6), .ref (ad 7), .ref (ad 8), .ref (ad 9), .ref (ad 10), .ref (ad 11), .ref (ad 12), .ref (ad 13), .ref (ad 14), .ref (ad 15), .ref (ad 16), .ref (ad 17), .int k, .int cc, .int 1, .int 1]), (ad 8, true, .inr .int, seg8 (S.map Prod.fst)), (ad 9, true, .inr .int, seg8 (S.map Prod.snd)), (ad 16, true, .inr .int, List.replicate 8 (.int 0)), (ad 0, true, .inr .long, evs xs), (ad 1, true, .inr .long, List.replicate 16 (.long 0)), (ad 2, true, .inr .long, List.replicate 16 (.long 0)), (ad 7, true, .inr .int, List.replicate 16 (.int 0)), (ad 10, true, .inr .long, List.replicate 8 (.long 0)), (ad 11, true, .inr .long, List.replicate 8 (.long 0))]) rfl ?_
              refine wp_private C (al := [.int (timeV e), .int (timeV e2), .int 0]) (rest := []) (L1 := [(ad 0, true, .inr .long, evs xs), (ad 1, true, .inr .long, List.replicate 16 (.long 0)), (ad 2, true, .inr .long, List.replicate 16 (.long 0)), (ad 7, true, .inr .int, List.replicate 16 (.int 0)), (ad 10, true, .inr .long, List.replicate 8 (.long 0)), (ad 11, true, .inr .long, List.replicate 8 (.long 0))]) (W := 0) (cells' := 0) (slots' := 0) 70 130 0 (rm_seg l Z a0 hw pa ad S (timeV e) (timeV e2) k cc hcc hlt) rfl rfl rfl (wd hw 117 rfl) (wd hw 118 rfl) (Jvm.Kit.selects_private (by decide) (wd hw 16 rfl) (wd hw 119 rfl) (wd hw 118 rfl)) (wd hw 119 rfl) (wd hw 120 rfl) (wd hw 17 rfl) (by decide) pd4 rfl rfl rfl rfl (by decide) (by decide) rfl rfl rfl (by decide) (by decide) (fun v L' hQ => ?_)
              obtain ⟨rfl, rfl⟩ := hQ
              show Wp K 0 0 [(pa, true, .inl kP, [.ref (ad 0), .ref (ad 1), .ref (ad 2), .ref (ad 3), .ref (ad 4), .ref (ad 5), .ref (ad 6), .ref (ad 7), .ref (ad 8), .ref (ad 9), .ref (ad 10), .ref (ad 11), .ref (ad 12), .ref (ad 13), .ref (ad 14), .ref (ad 15), .ref (ad 16), .ref (ad 17), .int k, .int (cc + 1), .int 1, .int 1]), (ad 8, true, .inr .int, seg8 ((S ++ [(timeV e, timeV e2)]).map Prod.fst)), (ad 9, true, .inr .int, seg8 ((S ++ [(timeV e, timeV e2)]).map Prod.snd)), (ad 16, true, .inr .int, List.replicate 8 (.int 0)), (ad 0, true, .inr .long, evs xs), (ad 1, true, .inr .long, List.replicate 16 (.long 0)), (ad 2, true, .inr .long, List.replicate 16 (.long 0)), (ad 7, true, .inr .int, List.replicate 16 (.int 0)), (ad 10, true, .inr .long, List.replicate 8 (.long 0)), (ad 11, true, .inr .long, List.replicate 8 (.long 0))] 130 [.val (.ref pa), .val (.long 0), .second, .val (.long 0), .second, .val (.int 0), .val (.int i2), .val (.int (timeV e)), .val (.int q)] []
              obtain ⟨c1, hc1⟩ : ∃ z : Int32, z = cc + 1 := ⟨_, rfl⟩
              rw [← hc1]
              have Hc1 : c1.toInt = (S.length + 1 : Nat) := by rw [hc1]; exact addI hcc one32
              refine wp_blk C 71 1 (pc' := 131) (ls' := [.val (.ref pa), .val (.long 0), .second, .val (.long 0), .second, .val (.int 0), .val (.int i2), .val (.int (timeV e)), .val (.int q)]) (st' := [.ref pa]) rfl ?_
              refine wp_get C 72 134 0 10 rfl rfl (wd hw 48 rfl) Via.refl rfl rfl rfl ?_
              refine wp_blk C 73 1 (pc' := 135) (ls' := [.val (.ref pa), .val (.long 0), .second, .val (.long 0), .second, .val (.int 0), .val (.int i2), .val (.int (timeV e)), .val (.int q)]) (st' := [.ref pa, .ref (ad 10)]) rfl ?_
              refine wp_get C 74 138 0 19 rfl rfl (wd hw 71 rfl) Via.refl rfl rfl rfl ?_
              refine wp_blk C 75 3 (pc' := 141) (ls' := [.val (.ref pa), .val (.long 0), .second, .val (.long 0), .second, .val (.int 0), .val (.int i2), .val (.int (timeV e)), .val (.int q)]) (st' := [.long 0, .int (c1 - 1), .ref (ad 10)]) rfl ?_
              obtain ⟨c2, hc2⟩ : ∃ z : Int32, z = c1 - 1 := ⟨_, rfl⟩
              rw [← hc2]
              have Hc2 : c2.toInt = S.length := by rw [hc2]; exact (subI Hc1 one32).trans (by omega)
              refine wp_stoJ C (n := S.length) (vs' := List.replicate 8 (.long 0)) (L' := [(pa, true, .inl kP, [.ref (ad 0), .ref (ad 1), .ref (ad 2), .ref (ad 3), .ref (ad 4), .ref (ad 5), .ref (ad 6), .ref (ad 7), .ref (ad 8), .ref (ad 9), .ref (ad 10), .ref (ad 11), .ref (ad 12), .ref (ad 13), .ref (ad 14), .ref (ad 15), .ref (ad 16), .ref (ad 17), .int k, .int c1, .int 1, .int 1]), (ad 8, true, .inr .int, seg8 ((S ++ [(timeV e, timeV e2)]).map Prod.fst)), (ad 9, true, .inr .int, seg8 ((S ++ [(timeV e, timeV e2)]).map Prod.snd)), (ad 16, true, .inr .int, List.replicate 8 (.int 0)), (ad 0, true, .inr .long, evs xs), (ad 1, true, .inr .long, List.replicate 16 (.long 0)), (ad 2, true, .inr .long, List.replicate 16 (.long 0)), (ad 7, true, .inr .int, List.replicate 16 (.int 0)), (ad 10, true, .inr .long, List.replicate 8 (.long 0)), (ad 11, true, .inr .long, List.replicate 8 (.long 0))]) 78 142 8 rfl rfl rfl Hc2 (by rw [List.length_replicate]; omega) rep_set rfl ?_
              refine wp_blk C 79 1 (pc' := 143) (ls' := [.val (.ref pa), .val (.long 0), .second, .val (.long 0), .second, .val (.int 0), .val (.int i2), .val (.int (timeV e)), .val (.int q)]) (st' := [.ref pa]) rfl ?_
              refine wp_get C 80 146 0 11 rfl rfl (wd hw 50 rfl) Via.refl rfl rfl rfl ?_
              refine wp_blk C 81 1 (pc' := 147) (ls' := [.val (.ref pa), .val (.long 0), .second, .val (.long 0), .second, .val (.int 0), .val (.int i2), .val (.int (timeV e)), .val (.int q)]) (st' := [.ref pa, .ref (ad 11)]) rfl ?_
              refine wp_get C 82 150 0 19 rfl rfl (wd hw 71 rfl) Via.refl rfl rfl rfl ?_
              refine wp_blk C 83 3 (pc' := 153) (ls' := [.val (.ref pa), .val (.long 0), .second, .val (.long 0), .second, .val (.int 0), .val (.int i2), .val (.int (timeV e)), .val (.int q)]) (st' := [.long 0, .int (c1 - 1), .ref (ad 11)]) rfl ?_
              obtain ⟨c3, hc3⟩ : ∃ z : Int32, z = c1 - 1 := ⟨_, rfl⟩
              rw [← hc3]
              have Hc3 : c3.toInt = S.length := by rw [hc3]; exact (subI Hc1 one32).trans (by omega)
              refine wp_stoJ C (n := S.length) (vs' := List.replicate 8 (.long 0)) (L' := [(pa, true, .inl kP, [.ref (ad 0), .ref (ad 1), .ref (ad 2), .ref (ad 3), .ref (ad 4), .ref (ad 5), .ref (ad 6), .ref (ad 7), .ref (ad 8), .ref (ad 9), .ref (ad 10), .ref (ad 11), .ref (ad 12), .ref (ad 13), .ref (ad 14), .ref (ad 15), .ref (ad 16), .ref (ad 17), .int k, .int c1, .int 1, .int 1]), (ad 8, true, .inr .int, seg8 ((S ++ [(timeV e, timeV e2)]).map Prod.fst)), (ad 9, true, .inr .int, seg8 ((S ++ [(timeV e, timeV e2)]).map Prod.snd)), (ad 16, true, .inr .int, List.replicate 8 (.int 0)), (ad 0, true, .inr .long, evs xs), (ad 1, true, .inr .long, List.replicate 16 (.long 0)), (ad 2, true, .inr .long, List.replicate 16 (.long 0)), (ad 7, true, .inr .int, List.replicate 16 (.int 0)), (ad 10, true, .inr .long, List.replicate 8 (.long 0)), (ad 11, true, .inr .long, List.replicate 8 (.long 0))]) 86 154 9 rfl rfl rfl Hc3 (by rw [List.length_replicate]; omega) rep_set rfl ?_
              refine wp_blk C 87 1 (pc' := 10) (ls' := [.val (.ref pa), .val (.long 0), .second, .val (.long 0), .second, .val (.int 0), .val (.int i2), .val (.int (timeV e)), .val (.int q)]) (st' := []) rfl ?_
              refine wp_front C 3 (L' := [(ad 16, true, .inr .int, List.replicate 8 (.int 0)), (pa, true, .inl kP, [.ref (ad 0), .ref (ad 1), .ref (ad 2), .ref (ad 3), .ref (ad 4), .ref (ad 5), .ref (ad 6), .ref (ad 7), .ref (ad 8), .ref (ad 9), .ref (ad 10), .ref (ad 11), .ref (ad 12), .ref (ad 13), .ref (ad 14), .ref (ad 15), .ref (ad 16), .ref (ad 17), .int k, .int c1, .int 1, .int 1]), (ad 8, true, .inr .int, seg8 ((S ++ [(timeV e, timeV e2)]).map Prod.fst)), (ad 9, true, .inr .int, seg8 ((S ++ [(timeV e, timeV e2)]).map Prod.snd)), (ad 0, true, .inr .long, evs xs), (ad 1, true, .inr .long, List.replicate 16 (.long 0)), (ad 2, true, .inr .long, List.replicate 16 (.long 0)), (ad 7, true, .inr .int, List.replicate 16 (.int 0)), (ad 10, true, .inr .long, List.replicate 8 (.long 0)), (ad 11, true, .inr .long, List.replicate 8 (.long 0))]) rfl ?_
              refine wp_front C 9 (L' := [(ad 11, true, .inr .long, List.replicate 8 (.long 0)), (ad 16, true, .inr .int, List.replicate 8 (.int 0)), (pa, true, .inl kP, [.ref (ad 0), .ref (ad 1), .ref (ad 2), .ref (ad 3), .ref (ad 4), .ref (ad 5), .ref (ad 6), .ref (ad 7), .ref (ad 8), .ref (ad 9), .ref (ad 10), .ref (ad 11), .ref (ad 12), .ref (ad 13), .ref (ad 14), .ref (ad 15), .ref (ad 16), .ref (ad 17), .int k, .int c1, .int 1, .int 1]), (ad 8, true, .inr .int, seg8 ((S ++ [(timeV e, timeV e2)]).map Prod.fst)), (ad 9, true, .inr .int, seg8 ((S ++ [(timeV e, timeV e2)]).map Prod.snd)), (ad 0, true, .inr .long, evs xs), (ad 1, true, .inr .long, List.replicate 16 (.long 0)), (ad 2, true, .inr .long, List.replicate 16 (.long 0)), (ad 7, true, .inr .int, List.replicate 16 (.int 0)), (ad 10, true, .inr .long, List.replicate 8 (.long 0))]) rfl ?_
              refine wp_front C 9 (L' := [(ad 10, true, .inr .long, List.replicate 8 (.long 0)), (ad 11, true, .inr .long, List.replicate 8 (.long 0)), (ad 16, true, .inr .int, List.replicate 8 (.int 0)), (pa, true, .inl kP, [.ref (ad 0), .ref (ad 1), .ref (ad 2), .ref (ad 3), .ref (ad 4), .ref (ad 5), .ref (ad 6), .ref (ad 7), .ref (ad 8), .ref (ad 9), .ref (ad 10), .ref (ad 11), .ref (ad 12), .ref (ad 13), .ref (ad 14), .ref (ad 15), .ref (ad 16), .ref (ad 17), .int k, .int c1, .int 1, .int 1]), (ad 8, true, .inr .int, seg8 ((S ++ [(timeV e, timeV e2)]).map Prod.fst)), (ad 9, true, .inr .int, seg8 ((S ++ [(timeV e, timeV e2)]).map Prod.snd)), (ad 0, true, .inr .long, evs xs), (ad 1, true, .inr .long, List.replicate 16 (.long 0)), (ad 2, true, .inr .long, List.replicate 16 (.long 0)), (ad 7, true, .inr .int, List.replicate 16 (.int 0))]) rfl ?_
              refine wp_front C 5 (L' := [(ad 9, true, .inr .int, seg8 ((S ++ [(timeV e, timeV e2)]).map Prod.snd)), (ad 10, true, .inr .long, List.replicate 8 (.long 0)), (ad 11, true, .inr .long, List.replicate 8 (.long 0)), (ad 16, true, .inr .int, List.replicate 8 (.int 0)), (pa, true, .inl kP, [.ref (ad 0), .ref (ad 1), .ref (ad 2), .ref (ad 3), .ref (ad 4), .ref (ad 5), .ref (ad 6), .ref (ad 7), .ref (ad 8), .ref (ad 9), .ref (ad 10), .ref (ad 11), .ref (ad 12), .ref (ad 13), .ref (ad 14), .ref (ad 15), .ref (ad 16), .ref (ad 17), .int k, .int c1, .int 1, .int 1]), (ad 8, true, .inr .int, seg8 ((S ++ [(timeV e, timeV e2)]).map Prod.fst)), (ad 0, true, .inr .long, evs xs), (ad 1, true, .inr .long, List.replicate 16 (.long 0)), (ad 2, true, .inr .long, List.replicate 16 (.long 0)), (ad 7, true, .inr .int, List.replicate 16 (.int 0))]) rfl ?_
              refine wp_front C 5 (L' := [(ad 8, true, .inr .int, seg8 ((S ++ [(timeV e, timeV e2)]).map Prod.fst)), (ad 9, true, .inr .int, seg8 ((S ++ [(timeV e, timeV e2)]).map Prod.snd)), (ad 10, true, .inr .long, List.replicate 8 (.long 0)), (ad 11, true, .inr .long, List.replicate 8 (.long 0)), (ad 16, true, .inr .int, List.replicate 8 (.int 0)), (pa, true, .inl kP, [.ref (ad 0), .ref (ad 1), .ref (ad 2), .ref (ad 3), .ref (ad 4), .ref (ad 5), .ref (ad 6), .ref (ad 7), .ref (ad 8), .ref (ad 9), .ref (ad 10), .ref (ad 11), .ref (ad 12), .ref (ad 13), .ref (ad 14), .ref (ad 15), .ref (ad 16), .ref (ad 17), .int k, .int c1, .int 1, .int 1]), (ad 0, true, .inr .long, evs xs), (ad 1, true, .inr .long, List.replicate 16 (.long 0)), (ad 2, true, .inr .long, List.replicate 16 (.long 0)), (ad 7, true, .inr .int, List.replicate 16 (.int 0))]) rfl ?_
              refine wp_front C 9 (L' := [(ad 7, true, .inr .int, List.replicate 16 (.int 0)), (ad 8, true, .inr .int, seg8 ((S ++ [(timeV e, timeV e2)]).map Prod.fst)), (ad 9, true, .inr .int, seg8 ((S ++ [(timeV e, timeV e2)]).map Prod.snd)), (ad 10, true, .inr .long, List.replicate 8 (.long 0)), (ad 11, true, .inr .long, List.replicate 8 (.long 0)), (ad 16, true, .inr .int, List.replicate 8 (.int 0)), (pa, true, .inl kP, [.ref (ad 0), .ref (ad 1), .ref (ad 2), .ref (ad 3), .ref (ad 4), .ref (ad 5), .ref (ad 6), .ref (ad 7), .ref (ad 8), .ref (ad 9), .ref (ad 10), .ref (ad 11), .ref (ad 12), .ref (ad 13), .ref (ad 14), .ref (ad 15), .ref (ad 16), .ref (ad 17), .int k, .int c1, .int 1, .int 1]), (ad 0, true, .inr .long, evs xs), (ad 1, true, .inr .long, List.replicate 16 (.long 0)), (ad 2, true, .inr .long, List.replicate 16 (.long 0))]) rfl ?_
              refine wp_front C 9 (L' := [(ad 2, true, .inr .long, List.replicate 16 (.long 0)), (ad 7, true, .inr .int, List.replicate 16 (.int 0)), (ad 8, true, .inr .int, seg8 ((S ++ [(timeV e, timeV e2)]).map Prod.fst)), (ad 9, true, .inr .int, seg8 ((S ++ [(timeV e, timeV e2)]).map Prod.snd)), (ad 10, true, .inr .long, List.replicate 8 (.long 0)), (ad 11, true, .inr .long, List.replicate 8 (.long 0)), (ad 16, true, .inr .int, List.replicate 8 (.int 0)), (pa, true, .inl kP, [.ref (ad 0), .ref (ad 1), .ref (ad 2), .ref (ad 3), .ref (ad 4), .ref (ad 5), .ref (ad 6), .ref (ad 7), .ref (ad 8), .ref (ad 9), .ref (ad 10), .ref (ad 11), .ref (ad 12), .ref (ad 13), .ref (ad 14), .ref (ad 15), .ref (ad 16), .ref (ad 17), .int k, .int c1, .int 1, .int 1]), (ad 0, true, .inr .long, evs xs), (ad 1, true, .inr .long, List.replicate 16 (.long 0))]) rfl ?_
              refine wp_front C 9 (L' := [(ad 1, true, .inr .long, List.replicate 16 (.long 0)), (ad 2, true, .inr .long, List.replicate 16 (.long 0)), (ad 7, true, .inr .int, List.replicate 16 (.int 0)), (ad 8, true, .inr .int, seg8 ((S ++ [(timeV e, timeV e2)]).map Prod.fst)), (ad 9, true, .inr .int, seg8 ((S ++ [(timeV e, timeV e2)]).map Prod.snd)), (ad 10, true, .inr .long, List.replicate 8 (.long 0)), (ad 11, true, .inr .long, List.replicate 8 (.long 0)), (ad 16, true, .inr .int, List.replicate 8 (.int 0)), (pa, true, .inl kP, [.ref (ad 0), .ref (ad 1), .ref (ad 2), .ref (ad 3), .ref (ad 4), .ref (ad 5), .ref (ad 6), .ref (ad 7), .ref (ad 8), .ref (ad 9), .ref (ad 10), .ref (ad 11), .ref (ad 12), .ref (ad 13), .ref (ad 14), .ref (ad 15), .ref (ad 16), .ref (ad 17), .int k, .int c1, .int 1, .int 1]), (ad 0, true, .inr .long, evs xs)]) rfl ?_
              refine wp_front C 9 (L' := [(ad 0, true, .inr .long, evs xs), (ad 1, true, .inr .long, List.replicate 16 (.long 0)), (ad 2, true, .inr .long, List.replicate 16 (.long 0)), (ad 7, true, .inr .int, List.replicate 16 (.int 0)), (ad 8, true, .inr .int, seg8 ((S ++ [(timeV e, timeV e2)]).map Prod.fst)), (ad 9, true, .inr .int, seg8 ((S ++ [(timeV e, timeV e2)]).map Prod.snd)), (ad 10, true, .inr .long, List.replicate 8 (.long 0)), (ad 11, true, .inr .long, List.replicate 8 (.long 0)), (ad 16, true, .inr .int, List.replicate 8 (.int 0)), (pa, true, .inl kP, [.ref (ad 0), .ref (ad 1), .ref (ad 2), .ref (ad 3), .ref (ad 4), .ref (ad 5), .ref (ad 6), .ref (ad 7), .ref (ad 8), .ref (ad 9), .ref (ad 10), .ref (ad 11), .ref (ad 12), .ref (ad 13), .ref (ad 14), .ref (ad 15), .ref (ad 16), .ref (ad 17), .int k, .int c1, .int 1, .int 1])]) rfl ?_
              refine wp_front C 9 (L' := [(pa, true, .inl kP, [.ref (ad 0), .ref (ad 1), .ref (ad 2), .ref (ad 3), .ref (ad 4), .ref (ad 5), .ref (ad 6), .ref (ad 7), .ref (ad 8), .ref (ad 9), .ref (ad 10), .ref (ad 11), .ref (ad 12), .ref (ad 13), .ref (ad 14), .ref (ad 15), .ref (ad 16), .ref (ad 17), .int k, .int c1, .int 1, .int 1]), (ad 0, true, .inr .long, evs xs), (ad 1, true, .inr .long, List.replicate 16 (.long 0)), (ad 2, true, .inr .long, List.replicate 16 (.long 0)), (ad 7, true, .inr .int, List.replicate 16 (.int 0)), (ad 8, true, .inr .int, seg8 ((S ++ [(timeV e, timeV e2)]).map Prod.fst)), (ad 9, true, .inr .int, seg8 ((S ++ [(timeV e, timeV e2)]).map Prod.snd)), (ad 10, true, .inr .long, List.replicate 8 (.long 0)), (ad 11, true, .inr .long, List.replicate 8 (.long 0)), (ad 16, true, .inr .int, List.replicate 8 (.int 0))]) rfl ?_
              exact ih (r3.length + 1) (by omega) d2 (e2 :: r3) (S ++ [(timeV e, timeV e2)]) c1 i2 _ _ rfl hdr2 (by rw [← hS3]; simp) (by rw [Hc1]; simp) hi2 (Or.inr ⟨_, _, rfl, rfl⟩)
            · refine wp_blk C 29 1 (pc' := 56) (ls' := [.val (.ref pa), .val (.long 0), .second, .val (.long 0), .second, .val (.int 0), .val (.int i2), .val (.int (timeV e)), .val (.int q)]) (st' := [.ref pa]) rfl ?_
              refine wp_get C 30 59 0 0 rfl rfl (wd hw 25 rfl) Via.refl rfl rfl rfl ?_
              refine wp_blk C 31 1 (pc' := 61) (ls' := [.val (.ref pa), .val (.long 0), .second, .val (.long 0), .second, .val (.int 0), .val (.int i2), .val (.int (timeV e)), .val (.int q)]) (st' := [.int i2, .ref (ad 0)]) rfl ?_
              refine wp_aload C (n := d2.length) (v := .long e2) 32 62 1 rfl rfl (Or.inr (Or.inl ⟨rfl, rfl⟩)) rfl hi2 (evs_get hev2) ?_
              refine wp_blk C 33 4 (pc' := 67) (ls' := [.val (.ref pa), .val (.long 0), .second, .val (.long 0), .second, .val (.int 0), .val (.int i2), .val (.int (timeV e)), .val (.int ((e2 : Int64).toInt32))]) (st' := [.ref pa, .long 0]) rfl ?_
              refine wp_get C 37 70 0 1 rfl rfl (wd hw 27 rfl) Via.refl rfl rfl rfl ?_
              refine wp_blk C 38 1 (pc' := 72) (ls' := [.val (.ref pa), .val (.long 0), .second, .val (.long 0), .second, .val (.int 0), .val (.int i2), .val (.int (timeV e)), .val (.int ((e2 : Int64).toInt32))]) (st' := [.int ((e2 : Int64).toInt32), .ref (ad 1), .long 0]) rfl ?_
              refine wp_aload C (n := ix2) (v := .long 0) 39 73 2 rfl rfl (Or.inr (Or.inl ⟨rfl, rfl⟩)) rfl hxe2 (rep_get hix2) ?_
              refine wp_blk C 40 4 (pc' := 77) (ls' := [.val (.ref pa), .val (.long 0), .second, .val (.long 0), .second, .val (.int 0), .val (.int i2), .val (.int (timeV e)), .val (.int ((e2 : Int64).toInt32))]) (st' := [.ref pa, .long 0]) rfl ?_
              refine wp_get C 44 80 0 2 rfl rfl (wd hw 29 rfl) Via.refl rfl rfl rfl ?_
              refine wp_blk C 45 1 (pc' := 82) (ls' := [.val (.ref pa), .val (.long 0), .second, .val (.long 0), .second, .val (.int 0), .val (.int i2), .val (.int (timeV e)), .val (.int ((e2 : Int64).toInt32))]) (st' := [.int ((e2 : Int64).toInt32), .ref (ad 2), .long 0]) rfl ?_
              refine wp_aload C (n := ix2) (v := .long 0) 46 83 3 rfl rfl (Or.inr (Or.inl ⟨rfl, rfl⟩)) rfl hxe2 (rep_get hix2) ?_
              refine wp_blk C 47 4 (pc' := 88) (ls' := [.val (.ref pa), .val (.long 0), .second, .val (.long 0), .second, .val (.int 0), .val (.int i2), .val (.int (timeV e)), .val (.int ((e2 : Int64).toInt32))]) (st' := [.ref pa, .int 0]) rfl ?_
              refine wp_get C 51 91 0 7 rfl rfl (wd hw 42 rfl) Via.refl rfl rfl rfl ?_
              refine wp_blk C 52 1 (pc' := 93) (ls' := [.val (.ref pa), .val (.long 0), .second, .val (.long 0), .second, .val (.int 0), .val (.int i2), .val (.int (timeV e)), .val (.int ((e2 : Int64).toInt32))]) (st' := [.int ((e2 : Int64).toInt32), .ref (ad 7), .int 0]) rfl ?_
              refine wp_aload C (n := ix2) (v := .int 0) 53 94 4 rfl rfl (Or.inl ⟨rfl, rfl⟩) rfl hxe2 (rep_get hix2) ?_
              refine wp_blk C 54 4 (pc' := 31) (ls' := [.val (.ref pa), .val (.long 0), .second, .val (.long 0), .second, .val (.int 0), .val (.int (i2 + 1)), .val (.int (timeV e)), .val (.int ((e2 : Int64).toInt32))]) (st' := []) rfl ?_
              exact ih2 (d2 ++ [e2]) r3 (i2 + 1) _ hm2 (by omega) (by rw [← hdr2]; simp) (by rw [← hS2]; simp [seg, hne]) ((addI hi2 one32).trans (by simp))
        rcases ho with ⟨rfl, rfl⟩ | ⟨t, q, rfl, rfl⟩
        · refine wp_blk C 8 2 (pc' := 13) (ls' := [.val (.ref pa), .val (.long 0), .second, .val (.long 0), .second, .val (.int 0), .val (.int i), .unset, .unset]) (st' := [.ref pa, .int i]) rfl ?_
          refine wp_get C 10 16 0 18 rfl rfl (wd hw 69 rfl) Via.refl rfl rfl rfl ?_
          refine wp_icmp C 11 157 19 rfl rfl rfl (by decide) (fun h => absurd h (fun q : k.toInt ≤ i.toInt => by omega)) (fun _ => ?_)
          refine wp_blk C 12 1 (pc' := 20) (ls' := [.val (.ref pa), .val (.long 0), .second, .val (.long 0), .second, .val (.int 0), .val (.int i), .unset, .unset]) (st' := [.ref pa]) rfl ?_
          refine wp_get C 13 23 0 0 rfl rfl (wd hw 25 rfl) Via.refl rfl rfl rfl ?_
          refine wp_blk C 14 1 (pc' := 25) (ls' := [.val (.ref pa), .val (.long 0), .second, .val (.long 0), .second, .val (.int 0), .val (.int i), .unset, .unset]) (st' := [.int i, .ref (ad 0)]) rfl ?_
          refine wp_aload C (n := d.length) (v := .long e) 15 26 1 rfl rfl (Or.inr (Or.inl ⟨rfl, rfl⟩)) rfl hi (evs_get hev) ?_
          refine wp_static C (al := [.long e]) (rest := []) (L1 := [(pa, true, .inl kP, [.ref (ad 0), .ref (ad 1), .ref (ad 2), .ref (ad 3), .ref (ad 4), .ref (ad 5), .ref (ad 6), .ref (ad 7), .ref (ad 8), .ref (ad 9), .ref (ad 10), .ref (ad 11), .ref (ad 12), .ref (ad 13), .ref (ad 14), .ref (ad 15), .ref (ad 16), .ref (ad 17), .int k, .int cc, .int 1, .int 1]), (ad 0, true, .inr .long, evs xs), (ad 1, true, .inr .long, List.replicate 16 (.long 0)), (ad 2, true, .inr .long, List.replicate 16 (.long 0)), (ad 7, true, .inr .int, List.replicate 16 (.int 0)), (ad 8, true, .inr .int, seg8 (S.map Prod.fst)), (ad 9, true, .inr .int, seg8 (S.map Prod.snd)), (ad 10, true, .inr .long, List.replicate 8 (.long 0)), (ad 11, true, .inr .long, List.replicate 8 (.long 0)), (ad 16, true, .inr .int, List.replicate 8 (.int 0))]) (W := 0) (cells' := 0) (slots' := 0) 16 29 (rm_time l Z a0 hw e) rfl rfl (wd hw 114 rfl) (wd hw 115 rfl) (wd hw 116 rfl) (wd hw 17 rfl) (by decide) pd6 rfl rfl rfl rfl (by decide) (by decide) rfl rfl rfl (by decide) (by decide) (fun v L' hQ => ?_)
          obtain ⟨rfl, rfl⟩ := hQ
          show Wp K 0 0 [(pa, true, .inl kP, [.ref (ad 0), .ref (ad 1), .ref (ad 2), .ref (ad 3), .ref (ad 4), .ref (ad 5), .ref (ad 6), .ref (ad 7), .ref (ad 8), .ref (ad 9), .ref (ad 10), .ref (ad 11), .ref (ad 12), .ref (ad 13), .ref (ad 14), .ref (ad 15), .ref (ad 16), .ref (ad 17), .int k, .int cc, .int 1, .int 1]), (ad 0, true, .inr .long, evs xs), (ad 1, true, .inr .long, List.replicate 16 (.long 0)), (ad 2, true, .inr .long, List.replicate 16 (.long 0)), (ad 7, true, .inr .int, List.replicate 16 (.int 0)), (ad 8, true, .inr .int, seg8 (S.map Prod.fst)), (ad 9, true, .inr .int, seg8 (S.map Prod.snd)), (ad 10, true, .inr .long, List.replicate 8 (.long 0)), (ad 11, true, .inr .long, List.replicate 8 (.long 0)), (ad 16, true, .inr .int, List.replicate 8 (.int 0))] 29 [.val (.ref pa), .val (.long 0), .second, .val (.long 0), .second, .val (.int 0), .val (.int i), .unset, .unset] [.int (timeV e)]
          refine wp_blk C 17 3 (pc' := 34) (ls' := [.val (.ref pa), .val (.long 0), .second, .val (.long 0), .second, .val (.int 0), .val (.int i), .val (.int (timeV e)), .unset]) (st' := [.ref pa, .int i]) rfl ?_
          refine wp_get C 20 37 0 18 rfl rfl (wd hw 69 rfl) Via.refl rfl rfl rfl ?_
          refine wp_icmp C 21 103 40 rfl rfl rfl (by decide) (fun h => absurd h (fun q : k.toInt ≤ i.toInt => by omega)) (fun _ => ?_)
          refine wp_blk C 22 1 (pc' := 41) (ls' := [.val (.ref pa), .val (.long 0), .second, .val (.long 0), .second, .val (.int 0), .val (.int i), .val (.int (timeV e)), .unset]) (st' := [.ref pa]) rfl ?_
          refine wp_get C 23 44 0 0 rfl rfl (wd hw 25 rfl) Via.refl rfl rfl rfl ?_
          refine wp_blk C 24 1 (pc' := 46) (ls' := [.val (.ref pa), .val (.long 0), .second, .val (.long 0), .second, .val (.int 0), .val (.int i), .val (.int (timeV e)), .unset]) (st' := [.int i, .ref (ad 0)]) rfl ?_
          refine wp_aload C (n := d.length) (v := .long e) 25 47 1 rfl rfl (Or.inr (Or.inl ⟨rfl, rfl⟩)) rfl hi (evs_get hev) ?_
          refine wp_static C (al := [.long e]) (rest := []) (L1 := [(pa, true, .inl kP, [.ref (ad 0), .ref (ad 1), .ref (ad 2), .ref (ad 3), .ref (ad 4), .ref (ad 5), .ref (ad 6), .ref (ad 7), .ref (ad 8), .ref (ad 9), .ref (ad 10), .ref (ad 11), .ref (ad 12), .ref (ad 13), .ref (ad 14), .ref (ad 15), .ref (ad 16), .ref (ad 17), .int k, .int cc, .int 1, .int 1]), (ad 0, true, .inr .long, evs xs), (ad 1, true, .inr .long, List.replicate 16 (.long 0)), (ad 2, true, .inr .long, List.replicate 16 (.long 0)), (ad 7, true, .inr .int, List.replicate 16 (.int 0)), (ad 8, true, .inr .int, seg8 (S.map Prod.fst)), (ad 9, true, .inr .int, seg8 (S.map Prod.snd)), (ad 10, true, .inr .long, List.replicate 8 (.long 0)), (ad 11, true, .inr .long, List.replicate 8 (.long 0)), (ad 16, true, .inr .int, List.replicate 8 (.int 0))]) (W := 0) (cells' := 0) (slots' := 0) 26 50 (rm_time l Z a0 hw e) rfl rfl (wd hw 114 rfl) (wd hw 115 rfl) (wd hw 116 rfl) (wd hw 17 rfl) (by decide) pd6 rfl rfl rfl rfl (by decide) (by decide) rfl rfl rfl (by decide) (by decide) (fun v L' hQ => ?_)
          obtain ⟨rfl, rfl⟩ := hQ
          show Wp K 0 0 [(pa, true, .inl kP, [.ref (ad 0), .ref (ad 1), .ref (ad 2), .ref (ad 3), .ref (ad 4), .ref (ad 5), .ref (ad 6), .ref (ad 7), .ref (ad 8), .ref (ad 9), .ref (ad 10), .ref (ad 11), .ref (ad 12), .ref (ad 13), .ref (ad 14), .ref (ad 15), .ref (ad 16), .ref (ad 17), .int k, .int cc, .int 1, .int 1]), (ad 0, true, .inr .long, evs xs), (ad 1, true, .inr .long, List.replicate 16 (.long 0)), (ad 2, true, .inr .long, List.replicate 16 (.long 0)), (ad 7, true, .inr .int, List.replicate 16 (.int 0)), (ad 8, true, .inr .int, seg8 (S.map Prod.fst)), (ad 9, true, .inr .int, seg8 (S.map Prod.snd)), (ad 10, true, .inr .long, List.replicate 8 (.long 0)), (ad 11, true, .inr .long, List.replicate 8 (.long 0)), (ad 16, true, .inr .int, List.replicate 8 (.int 0))] 50 [.val (.ref pa), .val (.long 0), .second, .val (.long 0), .second, .val (.int 0), .val (.int i), .val (.int (timeV e)), .unset] [.int (timeV e)]
          refine wp_blk C 27 1 (pc' := 52) (ls' := [.val (.ref pa), .val (.long 0), .second, .val (.long 0), .second, .val (.int 0), .val (.int i), .val (.int (timeV e)), .unset]) (st' := [.int (timeV e), .int (timeV e)]) rfl ?_
          refine wp_icmp C 28 103 55 rfl rfl rfl (by decide) (fun h => absurd h (fun q : timeV e ≠ timeV e => q rfl)) (fun _ => ?_)
          refine wp_blk C 29 1 (pc' := 56) (ls' := [.val (.ref pa), .val (.long 0), .second, .val (.long 0), .second, .val (.int 0), .val (.int i), .val (.int (timeV e)), .unset]) (st' := [.ref pa]) rfl ?_
          refine wp_get C 30 59 0 0 rfl rfl (wd hw 25 rfl) Via.refl rfl rfl rfl ?_
          refine wp_blk C 31 1 (pc' := 61) (ls' := [.val (.ref pa), .val (.long 0), .second, .val (.long 0), .second, .val (.int 0), .val (.int i), .val (.int (timeV e)), .unset]) (st' := [.int i, .ref (ad 0)]) rfl ?_
          refine wp_aload C (n := d.length) (v := .long e) 32 62 1 rfl rfl (Or.inr (Or.inl ⟨rfl, rfl⟩)) rfl hi (evs_get hev) ?_
          refine wp_blk C 33 4 (pc' := 67) (ls' := [.val (.ref pa), .val (.long 0), .second, .val (.long 0), .second, .val (.int 0), .val (.int i), .val (.int (timeV e)), .val (.int ((e : Int64).toInt32))]) (st' := [.ref pa, .long 0]) rfl ?_
          refine wp_get C 37 70 0 1 rfl rfl (wd hw 27 rfl) Via.refl rfl rfl rfl ?_
          refine wp_blk C 38 1 (pc' := 72) (ls' := [.val (.ref pa), .val (.long 0), .second, .val (.long 0), .second, .val (.int 0), .val (.int i), .val (.int (timeV e)), .val (.int ((e : Int64).toInt32))]) (st' := [.int ((e : Int64).toInt32), .ref (ad 1), .long 0]) rfl ?_
          refine wp_aload C (n := ix) (v := .long 0) 39 73 2 rfl rfl (Or.inr (Or.inl ⟨rfl, rfl⟩)) rfl hxe (rep_get hix) ?_
          refine wp_blk C 40 4 (pc' := 77) (ls' := [.val (.ref pa), .val (.long 0), .second, .val (.long 0), .second, .val (.int 0), .val (.int i), .val (.int (timeV e)), .val (.int ((e : Int64).toInt32))]) (st' := [.ref pa, .long 0]) rfl ?_
          refine wp_get C 44 80 0 2 rfl rfl (wd hw 29 rfl) Via.refl rfl rfl rfl ?_
          refine wp_blk C 45 1 (pc' := 82) (ls' := [.val (.ref pa), .val (.long 0), .second, .val (.long 0), .second, .val (.int 0), .val (.int i), .val (.int (timeV e)), .val (.int ((e : Int64).toInt32))]) (st' := [.int ((e : Int64).toInt32), .ref (ad 2), .long 0]) rfl ?_
          refine wp_aload C (n := ix) (v := .long 0) 46 83 3 rfl rfl (Or.inr (Or.inl ⟨rfl, rfl⟩)) rfl hxe (rep_get hix) ?_
          refine wp_blk C 47 4 (pc' := 88) (ls' := [.val (.ref pa), .val (.long 0), .second, .val (.long 0), .second, .val (.int 0), .val (.int i), .val (.int (timeV e)), .val (.int ((e : Int64).toInt32))]) (st' := [.ref pa, .int 0]) rfl ?_
          refine wp_get C 51 91 0 7 rfl rfl (wd hw 42 rfl) Via.refl rfl rfl rfl ?_
          refine wp_blk C 52 1 (pc' := 93) (ls' := [.val (.ref pa), .val (.long 0), .second, .val (.long 0), .second, .val (.int 0), .val (.int i), .val (.int (timeV e)), .val (.int ((e : Int64).toInt32))]) (st' := [.int ((e : Int64).toInt32), .ref (ad 7), .int 0]) rfl ?_
          refine wp_aload C (n := ix) (v := .int 0) 53 94 4 rfl rfl (Or.inl ⟨rfl, rfl⟩) rfl hxe (rep_get hix) ?_
          refine wp_blk C 54 4 (pc' := 31) (ls' := [.val (.ref pa), .val (.long 0), .second, .val (.long 0), .second, .val (.int 0), .val (.int (i + 1)), .val (.int (timeV e)), .val (.int ((e : Int64).toInt32))]) (st' := []) rfl ?_
          exact inner r.length (d ++ [e]) r (i + 1) _ rfl (Nat.le_refl _) (by rw [← hdr]; simp) (by rw [← hS]; rfl) ((addI hi one32).trans (by simp))
        · refine wp_blk C 8 2 (pc' := 13) (ls' := [.val (.ref pa), .val (.long 0), .second, .val (.long 0), .second, .val (.int 0), .val (.int i), .val (.int t), .val (.int q)]) (st' := [.ref pa, .int i]) rfl ?_
          refine wp_get C 10 16 0 18 rfl rfl (wd hw 69 rfl) Via.refl rfl rfl rfl ?_
          refine wp_icmp C 11 157 19 rfl rfl rfl (by decide) (fun h => absurd h (fun q : k.toInt ≤ i.toInt => by omega)) (fun _ => ?_)
          refine wp_blk C 12 1 (pc' := 20) (ls' := [.val (.ref pa), .val (.long 0), .second, .val (.long 0), .second, .val (.int 0), .val (.int i), .val (.int t), .val (.int q)]) (st' := [.ref pa]) rfl ?_
          refine wp_get C 13 23 0 0 rfl rfl (wd hw 25 rfl) Via.refl rfl rfl rfl ?_
          refine wp_blk C 14 1 (pc' := 25) (ls' := [.val (.ref pa), .val (.long 0), .second, .val (.long 0), .second, .val (.int 0), .val (.int i), .val (.int t), .val (.int q)]) (st' := [.int i, .ref (ad 0)]) rfl ?_
          refine wp_aload C (n := d.length) (v := .long e) 15 26 1 rfl rfl (Or.inr (Or.inl ⟨rfl, rfl⟩)) rfl hi (evs_get hev) ?_
          refine wp_static C (al := [.long e]) (rest := []) (L1 := [(pa, true, .inl kP, [.ref (ad 0), .ref (ad 1), .ref (ad 2), .ref (ad 3), .ref (ad 4), .ref (ad 5), .ref (ad 6), .ref (ad 7), .ref (ad 8), .ref (ad 9), .ref (ad 10), .ref (ad 11), .ref (ad 12), .ref (ad 13), .ref (ad 14), .ref (ad 15), .ref (ad 16), .ref (ad 17), .int k, .int cc, .int 1, .int 1]), (ad 0, true, .inr .long, evs xs), (ad 1, true, .inr .long, List.replicate 16 (.long 0)), (ad 2, true, .inr .long, List.replicate 16 (.long 0)), (ad 7, true, .inr .int, List.replicate 16 (.int 0)), (ad 8, true, .inr .int, seg8 (S.map Prod.fst)), (ad 9, true, .inr .int, seg8 (S.map Prod.snd)), (ad 10, true, .inr .long, List.replicate 8 (.long 0)), (ad 11, true, .inr .long, List.replicate 8 (.long 0)), (ad 16, true, .inr .int, List.replicate 8 (.int 0))]) (W := 0) (cells' := 0) (slots' := 0) 16 29 (rm_time l Z a0 hw e) rfl rfl (wd hw 114 rfl) (wd hw 115 rfl) (wd hw 116 rfl) (wd hw 17 rfl) (by decide) pd6 rfl rfl rfl rfl (by decide) (by decide) rfl rfl rfl (by decide) (by decide) (fun v L' hQ => ?_)
          obtain ⟨rfl, rfl⟩ := hQ
          show Wp K 0 0 [(pa, true, .inl kP, [.ref (ad 0), .ref (ad 1), .ref (ad 2), .ref (ad 3), .ref (ad 4), .ref (ad 5), .ref (ad 6), .ref (ad 7), .ref (ad 8), .ref (ad 9), .ref (ad 10), .ref (ad 11), .ref (ad 12), .ref (ad 13), .ref (ad 14), .ref (ad 15), .ref (ad 16), .ref (ad 17), .int k, .int cc, .int 1, .int 1]), (ad 0, true, .inr .long, evs xs), (ad 1, true, .inr .long, List.replicate 16 (.long 0)), (ad 2, true, .inr .long, List.replicate 16 (.long 0)), (ad 7, true, .inr .int, List.replicate 16 (.int 0)), (ad 8, true, .inr .int, seg8 (S.map Prod.fst)), (ad 9, true, .inr .int, seg8 (S.map Prod.snd)), (ad 10, true, .inr .long, List.replicate 8 (.long 0)), (ad 11, true, .inr .long, List.replicate 8 (.long 0)), (ad 16, true, .inr .int, List.replicate 8 (.int 0))] 29 [.val (.ref pa), .val (.long 0), .second, .val (.long 0), .second, .val (.int 0), .val (.int i), .val (.int t), .val (.int q)] [.int (timeV e)]
          refine wp_blk C 17 3 (pc' := 34) (ls' := [.val (.ref pa), .val (.long 0), .second, .val (.long 0), .second, .val (.int 0), .val (.int i), .val (.int (timeV e)), .val (.int q)]) (st' := [.ref pa, .int i]) rfl ?_
          refine wp_get C 20 37 0 18 rfl rfl (wd hw 69 rfl) Via.refl rfl rfl rfl ?_
          refine wp_icmp C 21 103 40 rfl rfl rfl (by decide) (fun h => absurd h (fun q : k.toInt ≤ i.toInt => by omega)) (fun _ => ?_)
          refine wp_blk C 22 1 (pc' := 41) (ls' := [.val (.ref pa), .val (.long 0), .second, .val (.long 0), .second, .val (.int 0), .val (.int i), .val (.int (timeV e)), .val (.int q)]) (st' := [.ref pa]) rfl ?_
          refine wp_get C 23 44 0 0 rfl rfl (wd hw 25 rfl) Via.refl rfl rfl rfl ?_
          refine wp_blk C 24 1 (pc' := 46) (ls' := [.val (.ref pa), .val (.long 0), .second, .val (.long 0), .second, .val (.int 0), .val (.int i), .val (.int (timeV e)), .val (.int q)]) (st' := [.int i, .ref (ad 0)]) rfl ?_
          refine wp_aload C (n := d.length) (v := .long e) 25 47 1 rfl rfl (Or.inr (Or.inl ⟨rfl, rfl⟩)) rfl hi (evs_get hev) ?_
          refine wp_static C (al := [.long e]) (rest := []) (L1 := [(pa, true, .inl kP, [.ref (ad 0), .ref (ad 1), .ref (ad 2), .ref (ad 3), .ref (ad 4), .ref (ad 5), .ref (ad 6), .ref (ad 7), .ref (ad 8), .ref (ad 9), .ref (ad 10), .ref (ad 11), .ref (ad 12), .ref (ad 13), .ref (ad 14), .ref (ad 15), .ref (ad 16), .ref (ad 17), .int k, .int cc, .int 1, .int 1]), (ad 0, true, .inr .long, evs xs), (ad 1, true, .inr .long, List.replicate 16 (.long 0)), (ad 2, true, .inr .long, List.replicate 16 (.long 0)), (ad 7, true, .inr .int, List.replicate 16 (.int 0)), (ad 8, true, .inr .int, seg8 (S.map Prod.fst)), (ad 9, true, .inr .int, seg8 (S.map Prod.snd)), (ad 10, true, .inr .long, List.replicate 8 (.long 0)), (ad 11, true, .inr .long, List.replicate 8 (.long 0)), (ad 16, true, .inr .int, List.replicate 8 (.int 0))]) (W := 0) (cells' := 0) (slots' := 0) 26 50 (rm_time l Z a0 hw e) rfl rfl (wd hw 114 rfl) (wd hw 115 rfl) (wd hw 116 rfl) (wd hw 17 rfl) (by decide) pd6 rfl rfl rfl rfl (by decide) (by decide) rfl rfl rfl (by decide) (by decide) (fun v L' hQ => ?_)
          obtain ⟨rfl, rfl⟩ := hQ
          show Wp K 0 0 [(pa, true, .inl kP, [.ref (ad 0), .ref (ad 1), .ref (ad 2), .ref (ad 3), .ref (ad 4), .ref (ad 5), .ref (ad 6), .ref (ad 7), .ref (ad 8), .ref (ad 9), .ref (ad 10), .ref (ad 11), .ref (ad 12), .ref (ad 13), .ref (ad 14), .ref (ad 15), .ref (ad 16), .ref (ad 17), .int k, .int cc, .int 1, .int 1]), (ad 0, true, .inr .long, evs xs), (ad 1, true, .inr .long, List.replicate 16 (.long 0)), (ad 2, true, .inr .long, List.replicate 16 (.long 0)), (ad 7, true, .inr .int, List.replicate 16 (.int 0)), (ad 8, true, .inr .int, seg8 (S.map Prod.fst)), (ad 9, true, .inr .int, seg8 (S.map Prod.snd)), (ad 10, true, .inr .long, List.replicate 8 (.long 0)), (ad 11, true, .inr .long, List.replicate 8 (.long 0)), (ad 16, true, .inr .int, List.replicate 8 (.int 0))] 50 [.val (.ref pa), .val (.long 0), .second, .val (.long 0), .second, .val (.int 0), .val (.int i), .val (.int (timeV e)), .val (.int q)] [.int (timeV e)]
          refine wp_blk C 27 1 (pc' := 52) (ls' := [.val (.ref pa), .val (.long 0), .second, .val (.long 0), .second, .val (.int 0), .val (.int i), .val (.int (timeV e)), .val (.int q)]) (st' := [.int (timeV e), .int (timeV e)]) rfl ?_
          refine wp_icmp C 28 103 55 rfl rfl rfl (by decide) (fun h => absurd h (fun q : timeV e ≠ timeV e => q rfl)) (fun _ => ?_)
          refine wp_blk C 29 1 (pc' := 56) (ls' := [.val (.ref pa), .val (.long 0), .second, .val (.long 0), .second, .val (.int 0), .val (.int i), .val (.int (timeV e)), .val (.int q)]) (st' := [.ref pa]) rfl ?_
          refine wp_get C 30 59 0 0 rfl rfl (wd hw 25 rfl) Via.refl rfl rfl rfl ?_
          refine wp_blk C 31 1 (pc' := 61) (ls' := [.val (.ref pa), .val (.long 0), .second, .val (.long 0), .second, .val (.int 0), .val (.int i), .val (.int (timeV e)), .val (.int q)]) (st' := [.int i, .ref (ad 0)]) rfl ?_
          refine wp_aload C (n := d.length) (v := .long e) 32 62 1 rfl rfl (Or.inr (Or.inl ⟨rfl, rfl⟩)) rfl hi (evs_get hev) ?_
          refine wp_blk C 33 4 (pc' := 67) (ls' := [.val (.ref pa), .val (.long 0), .second, .val (.long 0), .second, .val (.int 0), .val (.int i), .val (.int (timeV e)), .val (.int ((e : Int64).toInt32))]) (st' := [.ref pa, .long 0]) rfl ?_
          refine wp_get C 37 70 0 1 rfl rfl (wd hw 27 rfl) Via.refl rfl rfl rfl ?_
          refine wp_blk C 38 1 (pc' := 72) (ls' := [.val (.ref pa), .val (.long 0), .second, .val (.long 0), .second, .val (.int 0), .val (.int i), .val (.int (timeV e)), .val (.int ((e : Int64).toInt32))]) (st' := [.int ((e : Int64).toInt32), .ref (ad 1), .long 0]) rfl ?_
          refine wp_aload C (n := ix) (v := .long 0) 39 73 2 rfl rfl (Or.inr (Or.inl ⟨rfl, rfl⟩)) rfl hxe (rep_get hix) ?_
          refine wp_blk C 40 4 (pc' := 77) (ls' := [.val (.ref pa), .val (.long 0), .second, .val (.long 0), .second, .val (.int 0), .val (.int i), .val (.int (timeV e)), .val (.int ((e : Int64).toInt32))]) (st' := [.ref pa, .long 0]) rfl ?_
          refine wp_get C 44 80 0 2 rfl rfl (wd hw 29 rfl) Via.refl rfl rfl rfl ?_
          refine wp_blk C 45 1 (pc' := 82) (ls' := [.val (.ref pa), .val (.long 0), .second, .val (.long 0), .second, .val (.int 0), .val (.int i), .val (.int (timeV e)), .val (.int ((e : Int64).toInt32))]) (st' := [.int ((e : Int64).toInt32), .ref (ad 2), .long 0]) rfl ?_
          refine wp_aload C (n := ix) (v := .long 0) 46 83 3 rfl rfl (Or.inr (Or.inl ⟨rfl, rfl⟩)) rfl hxe (rep_get hix) ?_
          refine wp_blk C 47 4 (pc' := 88) (ls' := [.val (.ref pa), .val (.long 0), .second, .val (.long 0), .second, .val (.int 0), .val (.int i), .val (.int (timeV e)), .val (.int ((e : Int64).toInt32))]) (st' := [.ref pa, .int 0]) rfl ?_
          refine wp_get C 51 91 0 7 rfl rfl (wd hw 42 rfl) Via.refl rfl rfl rfl ?_
          refine wp_blk C 52 1 (pc' := 93) (ls' := [.val (.ref pa), .val (.long 0), .second, .val (.long 0), .second, .val (.int 0), .val (.int i), .val (.int (timeV e)), .val (.int ((e : Int64).toInt32))]) (st' := [.int ((e : Int64).toInt32), .ref (ad 7), .int 0]) rfl ?_
          refine wp_aload C (n := ix) (v := .int 0) 53 94 4 rfl rfl (Or.inl ⟨rfl, rfl⟩) rfl hxe (rep_get hix) ?_
          refine wp_blk C 54 4 (pc' := 31) (ls' := [.val (.ref pa), .val (.long 0), .second, .val (.long 0), .second, .val (.int 0), .val (.int (i + 1)), .val (.int (timeV e)), .val (.int ((e : Int64).toInt32))]) (st' := []) rfl ?_
          exact inner r.length (d ++ [e]) r (i + 1) _ rfl (Nat.le_refl _) (by rw [← hdr]; simp) (by rw [← hS]; rfl) ((addI hi one32).trans (by simp))
  refine wp_blk C 0 8 (pc' := 10) (ls' := [.val (.ref pa), .val (.long 0), .second, .val (.long 0), .second, .val (.int 0), .val (.int 0), .unset, .unset]) (st' := []) rfl ?_
  exact outer xs.length [] xs [] 0 0 _ _ rfl rfl rfl rfl rfl (Or.inl ⟨rfl, rfl⟩)
theorem pn12 : plainFor (⟨"com/example/trapeze/trapeze/scheduling/Profile", "build", "()V"⟩ : MethodName) = true := by first | (refine plainFor_of_name ?_; simp [plainName, overriddenIn]; done) | (refine plainFor_of_name ?_; decide +kernel) | decide +kernel
theorem pd7 : parseMethodDescriptor "()V" = some ⟨[], none⟩ := by decide +kernel
def B_rm_build : Prog := [(0, .aload_n 0, 1), (1, .getfield 7, 3), (4, .iconst 0, 1), (5, .aload_n 0, 1), (6, .getfield 68, 3), (9, .invokestatic 113, 3), (12, .aload_n 0, 1), (13, .getfield 75, 3), (16, .ifCond .eq 10, 3), (19, .aload_n 0, 1), (20, .invokevirtual 119, 3), (23, .goto 7, 3), (30, .return_, 1)]
theorem B_rm_build_ok : okB prog_39_method_6_code B_rm_build = true := by decide +kernel
set_option maxRecDepth 65536 in
set_option maxHeartbeats 40000000 in
theorem rm_build (l : Launch) (Z : State) (a0 : Array Value) (hw : ∀ d ∈ tables_1, d.before a0 Z = true) (pa : Addr) (ad : Nat → Addr) (xs : List Int64) (k : Int32) (hk : k.toInt = xs.length) (hn0 : 0 < xs.length) (hn : xs.length ≤ 16) (hT : ∀ ys : List Int64, ys.Perm xs → (seg (ys.map timeV)).length ≤ 8) (hidx : ∀ e ∈ xs, ∃ ix : Nat, ix < 16 ∧ e.toInt32.toInt = ix) : Ct l Z EL1 nw1 (⟨"com/example/trapeze/trapeze/scheduling/Profile", "build", "()V"⟩ : MethodName) prog_39_method_6_code 1 none [] ({ frames := 4, cells := 0, slots := 0, locals := 86 } : Room) [.ref pa] [(pa, true, .inl kP, [.ref (ad 0), .ref (ad 1), .ref (ad 2), .ref (ad 3), .ref (ad 4), .ref (ad 5), .ref (ad 6), .ref (ad 7), .ref (ad 8), .ref (ad 9), .ref (ad 10), .ref (ad 11), .ref (ad 12), .ref (ad 13), .ref (ad 14), .ref (ad 15), .ref (ad 16), .ref (ad 17), .int k, .int 0, .int 1, .int 1]), (ad 0, true, .inr .long, evs xs), (ad 1, true, .inr .long, List.replicate 16 (.long 0)), (ad 2, true, .inr .long, List.replicate 16 (.long 0)), (ad 7, true, .inr .int, List.replicate 16 (.int 0)), (ad 8, true, .inr .int, seg8 (([] : List (Int32 × Int32)).map Prod.fst)), (ad 9, true, .inr .int, seg8 (([] : List (Int32 × Int32)).map Prod.snd)), (ad 10, true, .inr .long, List.replicate 8 (.long 0)), (ad 11, true, .inr .long, List.replicate 8 (.long 0)), (ad 16, true, .inr .int, List.replicate 8 (.int 0))] (fun v L => v = none ∧ ∃ (ys : List Int64) (S : List (Int32 × Int32)) (cc : Int32), ys.Perm xs ∧ ys.Pairwise (· ≤ ·) ∧ S = seg (ys.map timeV) ∧ cc.toInt = S.length ∧ L = [(pa, true, .inl kP, [.ref (ad 0), .ref (ad 1), .ref (ad 2), .ref (ad 3), .ref (ad 4), .ref (ad 5), .ref (ad 6), .ref (ad 7), .ref (ad 8), .ref (ad 9), .ref (ad 10), .ref (ad 11), .ref (ad 12), .ref (ad 13), .ref (ad 14), .ref (ad 15), .ref (ad 16), .ref (ad 17), .int k, .int cc, .int 1, .int 1]), (ad 0, true, .inr .long, evs ys), (ad 1, true, .inr .long, List.replicate 16 (.long 0)), (ad 2, true, .inr .long, List.replicate 16 (.long 0)), (ad 7, true, .inr .int, List.replicate 16 (.int 0)), (ad 8, true, .inr .int, seg8 (S.map Prod.fst)), (ad 9, true, .inr .int, seg8 (S.map Prod.snd)), (ad 10, true, .inr .long, List.replicate 8 (.long 0)), (ad 11, true, .inr .long, List.replicate 8 (.long 0)), (ad 16, true, .inr .int, List.replicate 8 (.int 0))]) := by
  refine ct_of pn12 (B := B_rm_build) (ls := [.val (.ref pa)]) B_rm_build_ok (ew1 hw) (fun m => by first | (simp [entryFrame, mkF, argsToLocals, Value.category]; done) | rfl) (fun K C => ?_)
  refine wp_blk C 0 1 (pc' := 1) (ls' := [.val (.ref pa)]) (st' := [.ref pa]) rfl ?_
  refine wp_get C 1 4 0 0 rfl rfl (wd hw 25 rfl) Via.refl rfl rfl rfl ?_
  refine wp_blk C 2 2 (pc' := 6) (ls' := [.val (.ref pa)]) (st' := [.ref pa, .int 0, .ref (ad 0)]) rfl ?_
  refine wp_get C 4 9 0 18 rfl rfl (wd hw 69 rfl) Via.refl rfl rfl rfl ?_
  refine wp_front C 1 (L' := [(ad 0, true, .inr .long, evs xs), (pa, true, .inl kP, [.ref (ad 0), .ref (ad 1), .ref (ad 2), .ref (ad 3), .ref (ad 4), .ref (ad 5), .ref (ad 6), .ref (ad 7), .ref (ad 8), .ref (ad 9), .ref (ad 10), .ref (ad 11), .ref (ad 12), .ref (ad 13), .ref (ad 14), .ref (ad 15), .ref (ad 16), .ref (ad 17), .int k, .int 0, .int 1, .int 1]), (ad 1, true, .inr .long, List.replicate 16 (.long 0)), (ad 2, true, .inr .long, List.replicate 16 (.long 0)), (ad 7, true, .inr .int, List.replicate 16 (.int 0)), (ad 8, true, .inr .int, seg8 (([] : List (Int32 × Int32)).map Prod.fst)), (ad 9, true, .inr .int, seg8 (([] : List (Int32 × Int32)).map Prod.snd)), (ad 10, true, .inr .long, List.replicate 8 (.long 0)), (ad 11, true, .inr .long, List.replicate 8 (.long 0)), (ad 16, true, .inr .int, List.replicate 8 (.int 0))]) rfl ?_
  refine wp_static C (al := [.ref (ad 0), .int 0, .int k]) (rest := []) (L1 := [(pa, true, .inl kP, [.ref (ad 0), .ref (ad 1), .ref (ad 2), .ref (ad 3), .ref (ad 4), .ref (ad 5), .ref (ad 6), .ref (ad 7), .ref (ad 8), .ref (ad 9), .ref (ad 10), .ref (ad 11), .ref (ad 12), .ref (ad 13), .ref (ad 14), .ref (ad 15), .ref (ad 16), .ref (ad 17), .int k, .int 0, .int 1, .int 1]), (ad 1, true, .inr .long, List.replicate 16 (.long 0)), (ad 2, true, .inr .long, List.replicate 16 (.long 0)), (ad 7, true, .inr .int, List.replicate 16 (.int 0)), (ad 8, true, .inr .int, seg8 (([] : List (Int32 × Int32)).map Prod.fst)), (ad 9, true, .inr .int, seg8 (([] : List (Int32 × Int32)).map Prod.snd)), (ad 10, true, .inr .long, List.replicate 8 (.long 0)), (ad 11, true, .inr .long, List.replicate 8 (.long 0)), (ad 16, true, .inr .int, List.replicate 8 (.int 0))]) (W := 0) (cells' := 0) (slots' := 0) 5 12 (rm_so3 l Z a0 hw (ad 0) xs k hk hn0 hn) rfl rfl (wd hw 93 rfl) (wd hw 94 rfl) (wd hw 96 rfl) (wd hw 95 rfl) (by decide) pd2 rfl rfl rfl rfl (by decide) (by decide) rfl rfl rfl (by decide) (by decide) (fun v L' hQ => ?_)
  obtain ⟨rfl, ys, hp, hs, rfl⟩ := hQ
  show Wp K 0 0 [(ad 0, true, .inr .long, evs ys), (pa, true, .inl kP, [.ref (ad 0), .ref (ad 1), .ref (ad 2), .ref (ad 3), .ref (ad 4), .ref (ad 5), .ref (ad 6), .ref (ad 7), .ref (ad 8), .ref (ad 9), .ref (ad 10), .ref (ad 11), .ref (ad 12), .ref (ad 13), .ref (ad 14), .ref (ad 15), .ref (ad 16), .ref (ad 17), .int k, .int 0, .int 1, .int 1]), (ad 1, true, .inr .long, List.replicate 16 (.long 0)), (ad 2, true, .inr .long, List.replicate 16 (.long 0)), (ad 7, true, .inr .int, List.replicate 16 (.int 0)), (ad 8, true, .inr .int, seg8 (([] : List (Int32 × Int32)).map Prod.fst)), (ad 9, true, .inr .int, seg8 (([] : List (Int32 × Int32)).map Prod.snd)), (ad 10, true, .inr .long, List.replicate 8 (.long 0)), (ad 11, true, .inr .long, List.replicate 8 (.long 0)), (ad 16, true, .inr .int, List.replicate 8 (.int 0))] 12 [.val (.ref pa)] []
  refine wp_blk C 6 1 (pc' := 13) (ls' := [.val (.ref pa)]) (st' := [.ref pa]) rfl ?_
  refine wp_get C 7 16 1 20 rfl rfl (wd hw 73 rfl) Via.refl rfl rfl rfl ?_
  refine wp_ifz C 8 26 19 rfl rfl rfl (by decide) (fun h => absurd h (fun q : (1 : Int32) = 0 => by revert q; decide)) (fun _ => ?_)
  refine wp_blk C 9 1 (pc' := 20) (ls' := [.val (.ref pa)]) (st' := [.ref pa]) rfl ?_
  have hl := hp.length_eq
  refine wp_front C 9 (L' := [(ad 16, true, .inr .int, List.replicate 8 (.int 0)), (ad 0, true, .inr .long, evs ys), (pa, true, .inl kP, [.ref (ad 0), .ref (ad 1), .ref (ad 2), .ref (ad 3), .ref (ad 4), .ref (ad 5), .ref (ad 6), .ref (ad 7), .ref (ad 8), .ref (ad 9), .ref (ad 10), .ref (ad 11), .ref (ad 12), .ref (ad 13), .ref (ad 14), .ref (ad 15), .ref (ad 16), .ref (ad 17), .int k, .int 0, .int 1, .int 1]), (ad 1, true, .inr .long, List.replicate 16 (.long 0)), (ad 2, true, .inr .long, List.replicate 16 (.long 0)), (ad 7, true, .inr .int, List.replicate 16 (.int 0)), (ad 8, true, .inr .int, seg8 (([] : List (Int32 × Int32)).map Prod.fst)), (ad 9, true, .inr .int, seg8 (([] : List (Int32 × Int32)).map Prod.snd)), (ad 10, true, .inr .long, List.replicate 8 (.long 0)), (ad 11, true, .inr .long, List.replicate 8 (.long 0))]) rfl ?_
  refine wp_front C 9 (L' := [(ad 11, true, .inr .long, List.replicate 8 (.long 0)), (ad 16, true, .inr .int, List.replicate 8 (.int 0)), (ad 0, true, .inr .long, evs ys), (pa, true, .inl kP, [.ref (ad 0), .ref (ad 1), .ref (ad 2), .ref (ad 3), .ref (ad 4), .ref (ad 5), .ref (ad 6), .ref (ad 7), .ref (ad 8), .ref (ad 9), .ref (ad 10), .ref (ad 11), .ref (ad 12), .ref (ad 13), .ref (ad 14), .ref (ad 15), .ref (ad 16), .ref (ad 17), .int k, .int 0, .int 1, .int 1]), (ad 1, true, .inr .long, List.replicate 16 (.long 0)), (ad 2, true, .inr .long, List.replicate 16 (.long 0)), (ad 7, true, .inr .int, List.replicate 16 (.int 0)), (ad 8, true, .inr .int, seg8 (([] : List (Int32 × Int32)).map Prod.fst)), (ad 9, true, .inr .int, seg8 (([] : List (Int32 × Int32)).map Prod.snd)), (ad 10, true, .inr .long, List.replicate 8 (.long 0))]) rfl ?_
  refine wp_front C 9 (L' := [(ad 10, true, .inr .long, List.replicate 8 (.long 0)), (ad 11, true, .inr .long, List.replicate 8 (.long 0)), (ad 16, true, .inr .int, List.replicate 8 (.int 0)), (ad 0, true, .inr .long, evs ys), (pa, true, .inl kP, [.ref (ad 0), .ref (ad 1), .ref (ad 2), .ref (ad 3), .ref (ad 4), .ref (ad 5), .ref (ad 6), .ref (ad 7), .ref (ad 8), .ref (ad 9), .ref (ad 10), .ref (ad 11), .ref (ad 12), .ref (ad 13), .ref (ad 14), .ref (ad 15), .ref (ad 16), .ref (ad 17), .int k, .int 0, .int 1, .int 1]), (ad 1, true, .inr .long, List.replicate 16 (.long 0)), (ad 2, true, .inr .long, List.replicate 16 (.long 0)), (ad 7, true, .inr .int, List.replicate 16 (.int 0)), (ad 8, true, .inr .int, seg8 (([] : List (Int32 × Int32)).map Prod.fst)), (ad 9, true, .inr .int, seg8 (([] : List (Int32 × Int32)).map Prod.snd))]) rfl ?_
  refine wp_front C 9 (L' := [(ad 9, true, .inr .int, seg8 (([] : List (Int32 × Int32)).map Prod.snd)), (ad 10, true, .inr .long, List.replicate 8 (.long 0)), (ad 11, true, .inr .long, List.replicate 8 (.long 0)), (ad 16, true, .inr .int, List.replicate 8 (.int 0)), (ad 0, true, .inr .long, evs ys), (pa, true, .inl kP, [.ref (ad 0), .ref (ad 1), .ref (ad 2), .ref (ad 3), .ref (ad 4), .ref (ad 5), .ref (ad 6), .ref (ad 7), .ref (ad 8), .ref (ad 9), .ref (ad 10), .ref (ad 11), .ref (ad 12), .ref (ad 13), .ref (ad 14), .ref (ad 15), .ref (ad 16), .ref (ad 17), .int k, .int 0, .int 1, .int 1]), (ad 1, true, .inr .long, List.replicate 16 (.long 0)), (ad 2, true, .inr .long, List.replicate 16 (.long 0)), (ad 7, true, .inr .int, List.replicate 16 (.int 0)), (ad 8, true, .inr .int, seg8 (([] : List (Int32 × Int32)).map Prod.fst))]) rfl ?_
  refine wp_front C 9 (L' := [(ad 8, true, .inr .int, seg8 (([] : List (Int32 × Int32)).map Prod.fst)), (ad 9, true, .inr .int, seg8 (([] : List (Int32 × Int32)).map Prod.snd)), (ad 10, true, .inr .long, List.replicate 8 (.long 0)), (ad 11, true, .inr .long, List.replicate 8 (.long 0)), (ad 16, true, .inr .int, List.replicate 8 (.int 0)), (ad 0, true, .inr .long, evs ys), (pa, true, .inl kP, [.ref (ad 0), .ref (ad 1), .ref (ad 2), .ref (ad 3), .ref (ad 4), .ref (ad 5), .ref (ad 6), .ref (ad 7), .ref (ad 8), .ref (ad 9), .ref (ad 10), .ref (ad 11), .ref (ad 12), .ref (ad 13), .ref (ad 14), .ref (ad 15), .ref (ad 16), .ref (ad 17), .int k, .int 0, .int 1, .int 1]), (ad 1, true, .inr .long, List.replicate 16 (.long 0)), (ad 2, true, .inr .long, List.replicate 16 (.long 0)), (ad 7, true, .inr .int, List.replicate 16 (.int 0))]) rfl ?_
  refine wp_front C 9 (L' := [(ad 7, true, .inr .int, List.replicate 16 (.int 0)), (ad 8, true, .inr .int, seg8 (([] : List (Int32 × Int32)).map Prod.fst)), (ad 9, true, .inr .int, seg8 (([] : List (Int32 × Int32)).map Prod.snd)), (ad 10, true, .inr .long, List.replicate 8 (.long 0)), (ad 11, true, .inr .long, List.replicate 8 (.long 0)), (ad 16, true, .inr .int, List.replicate 8 (.int 0)), (ad 0, true, .inr .long, evs ys), (pa, true, .inl kP, [.ref (ad 0), .ref (ad 1), .ref (ad 2), .ref (ad 3), .ref (ad 4), .ref (ad 5), .ref (ad 6), .ref (ad 7), .ref (ad 8), .ref (ad 9), .ref (ad 10), .ref (ad 11), .ref (ad 12), .ref (ad 13), .ref (ad 14), .ref (ad 15), .ref (ad 16), .ref (ad 17), .int k, .int 0, .int 1, .int 1]), (ad 1, true, .inr .long, List.replicate 16 (.long 0)), (ad 2, true, .inr .long, List.replicate 16 (.long 0))]) rfl ?_
  refine wp_front C 9 (L' := [(ad 2, true, .inr .long, List.replicate 16 (.long 0)), (ad 7, true, .inr .int, List.replicate 16 (.int 0)), (ad 8, true, .inr .int, seg8 (([] : List (Int32 × Int32)).map Prod.fst)), (ad 9, true, .inr .int, seg8 (([] : List (Int32 × Int32)).map Prod.snd)), (ad 10, true, .inr .long, List.replicate 8 (.long 0)), (ad 11, true, .inr .long, List.replicate 8 (.long 0)), (ad 16, true, .inr .int, List.replicate 8 (.int 0)), (ad 0, true, .inr .long, evs ys), (pa, true, .inl kP, [.ref (ad 0), .ref (ad 1), .ref (ad 2), .ref (ad 3), .ref (ad 4), .ref (ad 5), .ref (ad 6), .ref (ad 7), .ref (ad 8), .ref (ad 9), .ref (ad 10), .ref (ad 11), .ref (ad 12), .ref (ad 13), .ref (ad 14), .ref (ad 15), .ref (ad 16), .ref (ad 17), .int k, .int 0, .int 1, .int 1]), (ad 1, true, .inr .long, List.replicate 16 (.long 0))]) rfl ?_
  refine wp_front C 9 (L' := [(ad 1, true, .inr .long, List.replicate 16 (.long 0)), (ad 2, true, .inr .long, List.replicate 16 (.long 0)), (ad 7, true, .inr .int, List.replicate 16 (.int 0)), (ad 8, true, .inr .int, seg8 (([] : List (Int32 × Int32)).map Prod.fst)), (ad 9, true, .inr .int, seg8 (([] : List (Int32 × Int32)).map Prod.snd)), (ad 10, true, .inr .long, List.replicate 8 (.long 0)), (ad 11, true, .inr .long, List.replicate 8 (.long 0)), (ad 16, true, .inr .int, List.replicate 8 (.int 0)), (ad 0, true, .inr .long, evs ys), (pa, true, .inl kP, [.ref (ad 0), .ref (ad 1), .ref (ad 2), .ref (ad 3), .ref (ad 4), .ref (ad 5), .ref (ad 6), .ref (ad 7), .ref (ad 8), .ref (ad 9), .ref (ad 10), .ref (ad 11), .ref (ad 12), .ref (ad 13), .ref (ad 14), .ref (ad 15), .ref (ad 16), .ref (ad 17), .int k, .int 0, .int 1, .int 1])]) rfl ?_
  refine wp_front C 8 (L' := [(ad 0, true, .inr .long, evs ys), (ad 1, true, .inr .long, List.replicate 16 (.long 0)), (ad 2, true, .inr .long, List.replicate 16 (.long 0)), (ad 7, true, .inr .int, List.replicate 16 (.int 0)), (ad 8, true, .inr .int, seg8 (([] : List (Int32 × Int32)).map Prod.fst)), (ad 9, true, .inr .int, seg8 (([] : List (Int32 × Int32)).map Prod.snd)), (ad 10, true, .inr .long, List.replicate 8 (.long 0)), (ad 11, true, .inr .long, List.replicate 8 (.long 0)), (ad 16, true, .inr .int, List.replicate 8 (.int 0)), (pa, true, .inl kP, [.ref (ad 0), .ref (ad 1), .ref (ad 2), .ref (ad 3), .ref (ad 4), .ref (ad 5), .ref (ad 6), .ref (ad 7), .ref (ad 8), .ref (ad 9), .ref (ad 10), .ref (ad 11), .ref (ad 12), .ref (ad 13), .ref (ad 14), .ref (ad 15), .ref (ad 16), .ref (ad 17), .int k, .int 0, .int 1, .int 1])]) rfl ?_
  refine wp_front C 9 (L' := [(pa, true, .inl kP, [.ref (ad 0), .ref (ad 1), .ref (ad 2), .ref (ad 3), .ref (ad 4), .ref (ad 5), .ref (ad 6), .ref (ad 7), .ref (ad 8), .ref (ad 9), .ref (ad 10), .ref (ad 11), .ref (ad 12), .ref (ad 13), .ref (ad 14), .ref (ad 15), .ref (ad 16), .ref (ad 17), .int k, .int 0, .int 1, .int 1]), (ad 0, true, .inr .long, evs ys), (ad 1, true, .inr .long, List.replicate 16 (.long 0)), (ad 2, true, .inr .long, List.replicate 16 (.long 0)), (ad 7, true, .inr .int, List.replicate 16 (.int 0)), (ad 8, true, .inr .int, seg8 (([] : List (Int32 × Int32)).map Prod.fst)), (ad 9, true, .inr .int, seg8 (([] : List (Int32 × Int32)).map Prod.snd)), (ad 10, true, .inr .long, List.replicate 8 (.long 0)), (ad 11, true, .inr .long, List.replicate 8 (.long 0)), (ad 16, true, .inr .int, List.replicate 8 (.int 0))]) rfl ?_
  refine wp_private C (al := []) (rest := []) (L1 := []) (W := 0) (cells' := 0) (slots' := 0) 10 23 0 (rm_sweep l Z a0 hw pa ad ys k (by omega) (by omega) (hT ys hp) (fun e he => hidx e (hp.mem_iff.mp he))) rfl rfl rfl (wd hw 110 rfl) (wd hw 111 rfl) (Jvm.Kit.selects_private (by decide) (wd hw 16 rfl) (wd hw 112 rfl) (wd hw 111 rfl)) (wd hw 112 rfl) (wd hw 113 rfl) (wd hw 17 rfl) (by decide) pd7 rfl rfl rfl rfl (by decide) (by decide) rfl rfl rfl (by decide) (by decide) (fun v L' hQ => ?_)
  obtain ⟨rfl, S, cc, hS, hcc, rfl⟩ := hQ
  show Wp K 0 0 [(pa, true, .inl kP, [.ref (ad 0), .ref (ad 1), .ref (ad 2), .ref (ad 3), .ref (ad 4), .ref (ad 5), .ref (ad 6), .ref (ad 7), .ref (ad 8), .ref (ad 9), .ref (ad 10), .ref (ad 11), .ref (ad 12), .ref (ad 13), .ref (ad 14), .ref (ad 15), .ref (ad 16), .ref (ad 17), .int k, .int cc, .int 1, .int 1]), (ad 0, true, .inr .long, evs ys), (ad 1, true, .inr .long, List.replicate 16 (.long 0)), (ad 2, true, .inr .long, List.replicate 16 (.long 0)), (ad 7, true, .inr .int, List.replicate 16 (.int 0)), (ad 8, true, .inr .int, seg8 (S.map Prod.fst)), (ad 9, true, .inr .int, seg8 (S.map Prod.snd)), (ad 10, true, .inr .long, List.replicate 8 (.long 0)), (ad 11, true, .inr .long, List.replicate 8 (.long 0)), (ad 16, true, .inr .int, List.replicate 8 (.int 0))] 23 [.val (.ref pa)] []
  refine wp_blk C 11 1 (pc' := 30) (ls' := [.val (.ref pa)]) (st' := []) rfl ?_
  exact wp_ret0 C 12 rfl (by decide) (by decide) (⟨rfl, ys, S, cc, hp, hs, hS, hcc, rfl⟩)
def minV (a b : Int32) : Int32 := if a.toInt ≤ b.toInt then a else b
def maxV (a b : Int32) : Int32 := if b.toInt ≤ a.toInt then a else b
theorem pn13 : plainFor (⟨"java/lang/Math", "min", "(II)I"⟩ : MethodName) = true := by first | (refine plainFor_of_name ?_; simp [plainName, overriddenIn]; done) | (refine plainFor_of_name ?_; decide +kernel) | decide +kernel
def B_rm_min : Prog := [(0, .iload_n 0, 1), (1, .iload_n 1, 1), (2, .if_icmp .gt 7, 3), (5, .iload_n 0, 1), (6, .goto 4, 3), (9, .iload_n 1, 1), (10, .ireturn, 1)]
theorem B_rm_min_ok : okB jdk_29_method_69_code B_rm_min = true := by decide +kernel
set_option maxRecDepth 65536 in
set_option maxHeartbeats 40000000 in
theorem rm_min (l : Launch) (Z : State) (a0 : Array Value) (hw : ∀ d ∈ tables_1, d.before a0 Z = true) (a b : Int32) : Ct l Z EL1 nw1 (⟨"java/lang/Math", "min", "(II)I"⟩ : MethodName) jdk_29_method_69_code 2 (some .int) [] ({ frames := 0, cells := 0, slots := 0, locals := 0 } : Room) [.int a, .int b] [] (fun v L => v = some (.int (minV a b)) ∧ L = []) := by
  refine ct_of pn13 (B := B_rm_min) (ls := [.val (.int a), .val (.int b)]) B_rm_min_ok (ew1 hw) (fun m => by first | (simp [entryFrame, mkF, argsToLocals, Value.category]; done) | rfl) (fun K C => ?_)
  refine wp_blk C 0 2 (pc' := 2) (ls' := [.val (.int a), .val (.int b)]) (st' := [.int b, .int a]) rfl ?_
  refine wp_icmp C 2 9 5 rfl rfl rfl (by decide) (fun (hc : (b : Int32).toInt < (a : Int32).toInt) => ?_) (fun (hc : (a : Int32).toInt ≤ (b : Int32).toInt) => ?_)
  · refine wp_blk C 5 1 (pc' := 10) (ls' := [.val (.int a), .val (.int b)]) (st' := [.int b]) rfl ?_
    exact wp_retI C 6 rfl (by decide) (by decide) (⟨by unfold minV; rw [if_neg (by omega)], rfl⟩)
  · refine wp_blk C 3 2 (pc' := 10) (ls' := [.val (.int a), .val (.int b)]) (st' := [.int a]) rfl ?_
    exact wp_retI C 6 rfl (by decide) (by decide) (⟨by unfold minV; rw [if_pos (by omega)], rfl⟩)
theorem pn14 : plainFor (⟨"java/lang/Math", "max", "(II)I"⟩ : MethodName) = true := by first | (refine plainFor_of_name ?_; simp [plainName, overriddenIn]; done) | (refine plainFor_of_name ?_; decide +kernel) | decide +kernel
def B_rm_max : Prog := [(0, .iload_n 0, 1), (1, .iload_n 1, 1), (2, .if_icmp .lt 7, 3), (5, .iload_n 0, 1), (6, .goto 4, 3), (9, .iload_n 1, 1), (10, .ireturn, 1)]
theorem B_rm_max_ok : okB jdk_29_method_65_code B_rm_max = true := by decide +kernel
set_option maxRecDepth 65536 in
set_option maxHeartbeats 40000000 in
theorem rm_max (l : Launch) (Z : State) (a0 : Array Value) (hw : ∀ d ∈ tables_1, d.before a0 Z = true) (a b : Int32) : Ct l Z EL1 nw1 (⟨"java/lang/Math", "max", "(II)I"⟩ : MethodName) jdk_29_method_65_code 2 (some .int) [] ({ frames := 0, cells := 0, slots := 0, locals := 0 } : Room) [.int a, .int b] [] (fun v L => v = some (.int (maxV a b)) ∧ L = []) := by
  refine ct_of pn14 (B := B_rm_max) (ls := [.val (.int a), .val (.int b)]) B_rm_max_ok (ew1 hw) (fun m => by first | (simp [entryFrame, mkF, argsToLocals, Value.category]; done) | rfl) (fun K C => ?_)
  refine wp_blk C 0 2 (pc' := 2) (ls' := [.val (.int a), .val (.int b)]) (st' := [.int b, .int a]) rfl ?_
  refine wp_icmp C 2 9 5 rfl rfl rfl (by decide) (fun (hc : (a : Int32).toInt < (b : Int32).toInt) => ?_) (fun (hc : (b : Int32).toInt ≤ (a : Int32).toInt) => ?_)
  · refine wp_blk C 5 1 (pc' := 10) (ls' := [.val (.int a), .val (.int b)]) (st' := [.int b]) rfl ?_
    exact wp_retI C 6 rfl (by decide) (by decide) (⟨by unfold maxV; rw [if_neg (by omega)], rfl⟩)
  · refine wp_blk C 3 2 (pc' := 10) (ls' := [.val (.int a), .val (.int b)]) (st' := [.int a]) rfl ?_
    exact wp_retI C 6 rfl (by decide) (by decide) (⟨by unfold maxV; rw [if_pos (by omega)], rfl⟩)
theorem pn15 : plainFor (⟨"com/example/trapeze/trapeze/scheduling/ProfileLastStartingBeforePinLaw", "time", "(I)I"⟩ : MethodName) = true := by first | (refine plainFor_of_name ?_; simp [plainName, overriddenIn]; done) | (refine plainFor_of_name ?_; decide +kernel) | decide +kernel
def B_rm_ti : Prog := [(0, .iload_n 0, 1), (1, .ldc 7, 2), (3, .irem, 1), (4, .ireturn, 1)]
theorem B_rm_ti_ok : okB method_2_code B_rm_ti = true := by decide +kernel
set_option maxRecDepth 65536 in
set_option maxHeartbeats 40000000 in
theorem rm_ti (l : Launch) (Z : State) (a0 : Array Value) (hw : ∀ d ∈ tables_1, d.before a0 Z = true) (y : Int32) : Ct l Z EL1 nw1 (⟨"com/example/trapeze/trapeze/scheduling/ProfileLastStartingBeforePinLaw", "time", "(I)I"⟩ : MethodName) method_2_code 1 (some .int) [] ({ frames := 0, cells := 0, slots := 0, locals := 0 } : Room) [.int y] [] (fun v L => v = some (.int (y % 1000000001)) ∧ L = []) := by
  refine ct_of pn15 (B := B_rm_ti) (ls := [.val (.int y)]) B_rm_ti_ok (ew1 hw) (fun m => by first | (simp [entryFrame, mkF, argsToLocals, Value.category]; done) | rfl) (fun K C => ?_)
  refine wp_blk C 0 1 (pc' := 1) (ls' := [.val (.int y)]) (st' := [.int y]) rfl ?_
  refine wp_ldcI C 1 3 rfl rfl (wd hw 4 rfl) ?_
  refine wp_irem C 2 4 rfl rfl (by decide) ?_
  exact wp_retI C 3 rfl (by decide) (by decide) (⟨rfl, rfl⟩)
theorem pn16 : plainFor (⟨"com/example/trapeze/trapeze/scheduling/ProfileLastStartingBeforePinLaw", "clamp", "(III)I"⟩ : MethodName) = true := by first | (refine plainFor_of_name ?_; simp [plainName, overriddenIn]; done) | (refine plainFor_of_name ?_; decide +kernel) | decide +kernel
theorem pd8 : parseMethodDescriptor "(II)I" = some ⟨[.int, .int], (some .int)⟩ := by decide +kernel
def B_rm_cl : Prog := [(0, .iload_n 1, 1), (1, .iload_n 2, 1), (2, .iload_n 0, 1), (3, .invokestatic 8, 3), (6, .invokestatic 14, 3), (9, .ireturn, 1)]
theorem B_rm_cl_ok : okB method_3_code B_rm_cl = true := by decide +kernel
set_option maxRecDepth 65536 in
set_option maxHeartbeats 40000000 in
theorem rm_cl (l : Launch) (Z : State) (a0 : Array Value) (hw : ∀ d ∈ tables_1, d.before a0 Z = true) (y lo hi : Int32) : Ct l Z EL1 nw1 (⟨"com/example/trapeze/trapeze/scheduling/ProfileLastStartingBeforePinLaw", "clamp", "(III)I"⟩ : MethodName) method_3_code 3 (some .int) [] ({ frames := 1, cells := 0, slots := 0, locals := 14 } : Room) [.int y, .int lo, .int hi] [] (fun v L => v = some (.int (maxV lo (minV hi y))) ∧ L = []) := by
  refine ct_of pn16 (B := B_rm_cl) (ls := [.val (.int y), .val (.int lo), .val (.int hi)]) B_rm_cl_ok (ew1 hw) (fun m => by first | (simp [entryFrame, mkF, argsToLocals, Value.category]; done) | rfl) (fun K C => ?_)
  refine wp_blk C 0 3 (pc' := 3) (ls' := [.val (.int y), .val (.int lo), .val (.int hi)]) (st' := [.int y, .int hi, .int lo]) rfl ?_
  refine wp_static C (al := [.int hi, .int y]) (rest := [.int lo]) (L1 := []) (W := 1) (cells' := 0) (slots' := 0) 3 6 (rm_min l Z a0 hw hi y) rfl rfl (wd hw 5 rfl) (wd hw 6 rfl) (wd hw 8 rfl) (wd hw 7 rfl) (by decide) pd8 rfl rfl rfl rfl (by decide) (by decide) rfl rfl rfl (by decide) (by decide) (fun v L' hQ => ?_)
  obtain ⟨rfl, rfl⟩ := hQ
  show Wp K 0 0 [] 6 [.val (.int y), .val (.int lo), .val (.int hi)] [.int (minV hi y), .int lo]
  refine wp_static C (al := [.int lo, .int (minV hi y)]) (rest := []) (L1 := []) (W := 0) (cells' := 0) (slots' := 0) 4 9 (rm_max l Z a0 hw lo (minV hi y)) rfl rfl (wd hw 9 rfl) (wd hw 10 rfl) (wd hw 11 rfl) (wd hw 7 rfl) (by decide) pd8 rfl rfl rfl rfl (by decide) (by decide) rfl rfl rfl (by decide) (by decide) (fun v L' hQ => ?_)
  obtain ⟨rfl, rfl⟩ := hQ
  show Wp K 0 0 [] 9 [.val (.int y), .val (.int lo), .val (.int hi)] [.int (maxV lo (minV hi y))]
  exact wp_retI C 5 rfl (by decide) (by decide) (⟨rfl, rfl⟩)
theorem pn17 : plainFor (⟨"com/example/trapeze/trapeze/scheduling/Profile", "lastStartingBefore", "(I)I"⟩ : MethodName) = true := by first | (refine plainFor_of_name ?_; simp [plainName, overriddenIn]; done) | (refine plainFor_of_name ?_; decide +kernel) | decide +kernel
def B_rm_lsb : Prog := [(0, .iconst 0, 1), (1, .istore_n 2, 1), (2, .aload_n 0, 1), (3, .getfield 72, 3), (6, .istore_n 3, 1), (7, .iload_n 2, 1), (8, .iload_n 3, 1), (9, .if_icmp .ge 35, 3), (12, .iload_n 2, 1), (13, .iload_n 3, 1), (14, .iadd, 1), (15, .iconst 1, 1), (16, .iushr, 1), (17, .istore 4, 2), (19, .aload_n 0, 1), (20, .getfield 38, 3), (23, .iload 4, 2), (25, .iaload, 1), (26, .iload_n 1, 1), (27, .if_icmp .ge 11, 3), (30, .iload 4, 2), (32, .iconst 1, 1), (33, .iadd, 1), (34, .istore_n 2, 1), (35, .goto 6, 3), (38, .iload 4, 2), (40, .istore_n 3, 1), (41, .goto (-34), 3), (44, .iload_n 2, 1), (45, .iconst 1, 1), (46, .isub, 1), (47, .ireturn, 1)]
theorem B_rm_lsb_ok : okB prog_39_method_22_code B_rm_lsb = true := by decide +kernel
set_option maxRecDepth 65536 in
set_option maxHeartbeats 40000000 in
theorem rm_lsb (l : Launch) (Z : State) (a0 : Array Value) (hw : ∀ d ∈ tables_1, d.before a0 Z = true) (pa : Addr) (ad : Nat → Addr) (E : List Int32) (t n cc : Int32) (hcc : cc.toInt = E.length) (hE : E.length ≤ 8) (hsort : ∀ (i j : Nat) (x y : Int32), i ≤ j → E[i]? = some x → E[j]? = some y → x.toInt ≤ y.toInt) : Ct l Z EL1 nw1 (⟨"com/example/trapeze/trapeze/scheduling/Profile", "lastStartingBefore", "(I)I"⟩ : MethodName) prog_39_method_22_code 5 (some .int) [] ({ frames := 0, cells := 0, slots := 0, locals := 0 } : Room) [.ref pa, .int t] [(pa, true, .inl kP, [.ref (ad 0), .ref (ad 1), .ref (ad 2), .ref (ad 3), .ref (ad 4), .ref (ad 5), .ref (ad 6), .ref (ad 7), .ref (ad 8), .ref (ad 9), .ref (ad 10), .ref (ad 11), .ref (ad 12), .ref (ad 13), .ref (ad 14), .ref (ad 15), .ref (ad 16), .ref (ad 17), .int n, .int cc, .int 1, .int 1]), (ad 8, true, .inr .int, seg8 E)] (fun v L => ∃ (r : Int32) (m : Nat), v = some (.int (r - 1)) ∧ r.toInt = m ∧ m ≤ E.length ∧ (∀ (i : Nat) (v : Int32), i < m → E[i]? = some v → v.toInt < t.toInt) ∧ (∀ (i : Nat) (v : Int32), m ≤ i → E[i]? = some v → t.toInt ≤ v.toInt) ∧ L = [(pa, true, .inl kP, [.ref (ad 0), .ref (ad 1), .ref (ad 2), .ref (ad 3), .ref (ad 4), .ref (ad 5), .ref (ad 6), .ref (ad 7), .ref (ad 8), .ref (ad 9), .ref (ad 10), .ref (ad 11), .ref (ad 12), .ref (ad 13), .ref (ad 14), .ref (ad 15), .ref (ad 16), .ref (ad 17), .int n, .int cc, .int 1, .int 1]), (ad 8, true, .inr .int, seg8 E)]) := by
  refine ct_of pn17 (B := B_rm_lsb) (ls := [.val (.ref pa), .val (.int t), .unset, .unset, .unset]) B_rm_lsb_ok (ew1 hw) (fun m => by first | (simp [entryFrame, mkF, argsToLocals, Value.category]; done) | rfl) (fun K C => ?_)
  have loop : ∀ (m a b : Nat) (lo hi : Int32) (s4 : Slot), b - a = m → a ≤ b → b ≤ E.length → lo.toInt = a → hi.toInt = b → (∀ (i : Nat) (v : Int32), i < a → E[i]? = some v → v.toInt < t.toInt) → (∀ (i : Nat) (v : Int32), b ≤ i → E[i]? = some v → t.toInt ≤ v.toInt) → (s4 = .unset ∨ ∃ q : Int32, s4 = .val (.int q)) →
      Wp K 0 0 [(pa, true, .inl kP, [.ref (ad 0), .ref (ad 1), .ref (ad 2), .ref (ad 3), .ref (ad 4), .ref (ad 5), .ref (ad 6), .ref (ad 7), .ref (ad 8), .ref (ad 9), .ref (ad 10), .ref (ad 11), .ref (ad 12), .ref (ad 13), .ref (ad 14), .ref (ad 15), .ref (ad 16), .ref (ad 17), .int n, .int cc, .int 1, .int 1]), (ad 8, true, .inr .int, seg8 E)] 7 [.val (.ref pa), .val (.int t), .val (.int lo), .val (.int hi), s4] [] := by
    intro m
    induction m using Nat.strongRecOn with
    | _ m ih =>
      intro a b lo hi s4 hm hab hb hlo hhi h1 h2 ho
      rcases ho with rfl | ⟨q, rfl⟩
      · refine wp_blk C 5 2 (pc' := 9) (ls' := [.val (.ref pa), .val (.int t), .val (.int lo), .val (.int hi), .unset]) (st' := [.int hi, .int lo]) rfl ?_
        refine wp_icmp C 7 44 12 rfl rfl rfl (by decide) (fun (hc : (hi : Int32).toInt ≤ (lo : Int32).toInt) => ?_) (fun (hc : (lo : Int32).toInt < (hi : Int32).toInt) => ?_)
        · refine wp_blk C 28 3 (pc' := 47) (ls' := [.val (.ref pa), .val (.int t), .val (.int lo), .val (.int hi), .unset]) (st' := [.int (lo - 1)]) rfl ?_
          exact wp_retI C 31 rfl (by decide) (by decide) (⟨lo, a, rfl, hlo, by omega, h1, fun i v hi' hv => h2 i v (by omega) hv, rfl⟩)
        · have hlt : a < b := by omega
          obtain ⟨e, he⟩ : ∃ e, E[(a + b) / 2]? = some e := ⟨_, List.getElem?_eq_getElem (by omega)⟩
          refine wp_blk C 8 5 (pc' := 17) (ls' := [.val (.ref pa), .val (.int t), .val (.int lo), .val (.int hi), .unset]) (st' := [.int (ush (lo + hi) 1)]) rfl ?_
          obtain ⟨md, hmd⟩ : ∃ z : Int32, z = ush (lo + hi) 1 := ⟨_, rfl⟩
          rw [← hmd]
          have Hmd : md.toInt = ((a + b) / 2 : Nat) := by rw [hmd]; exact (ushI (addI hlo hhi) (by omega)).trans (by omega)
          refine wp_blk C 13 2 (pc' := 20) (ls' := [.val (.ref pa), .val (.int t), .val (.int lo), .val (.int hi), .val (.int md)]) (st' := [.ref pa]) rfl ?_
          refine wp_get C 15 23 0 8 rfl rfl (wd hw 44 rfl) Via.refl rfl rfl rfl ?_
          refine wp_blk C 16 1 (pc' := 25) (ls' := [.val (.ref pa), .val (.int t), .val (.int lo), .val (.int hi), .val (.int md)]) (st' := [.int md, .ref (ad 8)]) rfl ?_
          refine wp_aload C (n := ((a + b) / 2)) (v := .int e) 17 26 1 rfl rfl (Or.inl ⟨rfl, rfl⟩) rfl Hmd (seg8_get he) ?_
          refine wp_blk C 18 1 (pc' := 27) (ls' := [.val (.ref pa), .val (.int t), .val (.int lo), .val (.int hi), .val (.int md)]) (st' := [.int t, .int e]) rfl ?_
          refine wp_icmp C 19 38 30 rfl rfl rfl (by decide) (fun (hd : (t : Int32).toInt ≤ (e : Int32).toInt) => ?_) (fun (hd : (e : Int32).toInt < (t : Int32).toInt) => ?_)
          · refine wp_blk C 25 3 (pc' := 7) (ls' := [.val (.ref pa), .val (.int t), .val (.int lo), .val (.int md), .val (.int md)]) (st' := []) rfl ?_
            refine ih ((a + b) / 2 - a) (by omega) _ _ _ _ _ rfl (by omega) (by omega) hlo Hmd h1 (fun i v hi' hv => ?_) (Or.inr ⟨_, rfl⟩)
            have := hsort ((a + b) / 2) i e v (by omega) he hv
            omega
          · refine wp_blk C 20 5 (pc' := 41) (ls' := [.val (.ref pa), .val (.int t), .val (.int (md + 1)), .val (.int hi), .val (.int md)]) (st' := []) rfl ?_
            refine wp_blk C 27 1 (pc' := 7) (ls' := [.val (.ref pa), .val (.int t), .val (.int (md + 1)), .val (.int hi), .val (.int md)]) (st' := []) rfl ?_
            have hm1 : (md + 1 : Int32).toInt = ((a + b) / 2 + 1 : Nat) := (addI Hmd one32).trans (by omega)
            refine ih (b - ((a + b) / 2 + 1)) (by omega) _ _ _ _ _ rfl (by omega) hb hm1 hhi (fun i v hi' hv => ?_) h2 (Or.inr ⟨_, rfl⟩)
            have := hsort i ((a + b) / 2) v e (by omega) hv he
            omega
      · refine wp_blk C 5 2 (pc' := 9) (ls' := [.val (.ref pa), .val (.int t), .val (.int lo), .val (.int hi), .val (.int q)]) (st' := [.int hi, .int lo]) rfl ?_
        refine wp_icmp C 7 44 12 rfl rfl rfl (by decide) (fun (hc : (hi : Int32).toInt ≤ (lo : Int32).toInt) => ?_) (fun (hc : (lo : Int32).toInt < (hi : Int32).toInt) => ?_)
        · refine wp_blk C 28 3 (pc' := 47) (ls' := [.val (.ref pa), .val (.int t), .val (.int lo), .val (.int hi), .val (.int q)]) (st' := [.int (lo - 1)]) rfl ?_
          exact wp_retI C 31 rfl (by decide) (by decide) (⟨lo, a, rfl, hlo, by omega, h1, fun i v hi' hv => h2 i v (by omega) hv, rfl⟩)
        · have hlt : a < b := by omega
          obtain ⟨e, he⟩ : ∃ e, E[(a + b) / 2]? = some e := ⟨_, List.getElem?_eq_getElem (by omega)⟩
          refine wp_blk C 8 5 (pc' := 17) (ls' := [.val (.ref pa), .val (.int t), .val (.int lo), .val (.int hi), .val (.int q)]) (st' := [.int (ush (lo + hi) 1)]) rfl ?_
          obtain ⟨md, hmd⟩ : ∃ z : Int32, z = ush (lo + hi) 1 := ⟨_, rfl⟩
          rw [← hmd]
          have Hmd : md.toInt = ((a + b) / 2 : Nat) := by rw [hmd]; exact (ushI (addI hlo hhi) (by omega)).trans (by omega)
          refine wp_blk C 13 2 (pc' := 20) (ls' := [.val (.ref pa), .val (.int t), .val (.int lo), .val (.int hi), .val (.int md)]) (st' := [.ref pa]) rfl ?_
          refine wp_get C 15 23 0 8 rfl rfl (wd hw 44 rfl) Via.refl rfl rfl rfl ?_
          refine wp_blk C 16 1 (pc' := 25) (ls' := [.val (.ref pa), .val (.int t), .val (.int lo), .val (.int hi), .val (.int md)]) (st' := [.int md, .ref (ad 8)]) rfl ?_
          refine wp_aload C (n := ((a + b) / 2)) (v := .int e) 17 26 1 rfl rfl (Or.inl ⟨rfl, rfl⟩) rfl Hmd (seg8_get he) ?_
          refine wp_blk C 18 1 (pc' := 27) (ls' := [.val (.ref pa), .val (.int t), .val (.int lo), .val (.int hi), .val (.int md)]) (st' := [.int t, .int e]) rfl ?_
          refine wp_icmp C 19 38 30 rfl rfl rfl (by decide) (fun (hd : (t : Int32).toInt ≤ (e : Int32).toInt) => ?_) (fun (hd : (e : Int32).toInt < (t : Int32).toInt) => ?_)
          · refine wp_blk C 25 3 (pc' := 7) (ls' := [.val (.ref pa), .val (.int t), .val (.int lo), .val (.int md), .val (.int md)]) (st' := []) rfl ?_
            refine ih ((a + b) / 2 - a) (by omega) _ _ _ _ _ rfl (by omega) (by omega) hlo Hmd h1 (fun i v hi' hv => ?_) (Or.inr ⟨_, rfl⟩)
            have := hsort ((a + b) / 2) i e v (by omega) he hv
            omega
          · refine wp_blk C 20 5 (pc' := 41) (ls' := [.val (.ref pa), .val (.int t), .val (.int (md + 1)), .val (.int hi), .val (.int md)]) (st' := []) rfl ?_
            refine wp_blk C 27 1 (pc' := 7) (ls' := [.val (.ref pa), .val (.int t), .val (.int (md + 1)), .val (.int hi), .val (.int md)]) (st' := []) rfl ?_
            have hm1 : (md + 1 : Int32).toInt = ((a + b) / 2 + 1 : Nat) := (addI Hmd one32).trans (by omega)
            refine ih (b - ((a + b) / 2 + 1)) (by omega) _ _ _ _ _ rfl (by omega) hb hm1 hhi (fun i v hi' hv => ?_) h2 (Or.inr ⟨_, rfl⟩)
            have := hsort i ((a + b) / 2) v e (by omega) hv he
            omega
  refine wp_blk C 0 3 (pc' := 3) (ls' := [.val (.ref pa), .val (.int t), .val (.int 0), .unset, .unset]) (st' := [.ref pa]) rfl ?_
  refine wp_get C 3 6 0 19 rfl rfl (wd hw 71 rfl) Via.refl rfl rfl rfl ?_
  refine wp_blk C 4 1 (pc' := 7) (ls' := [.val (.ref pa), .val (.int t), .val (.int 0), .val (.int cc), .unset]) (st' := []) rfl ?_
  exact loop E.length 0 E.length 0 cc _ rfl (Nat.zero_le _) (Nat.le_refl _) rfl hcc (fun i v hi' _ => absurd hi' (by omega)) (fun i v hi' hv => absurd (List.getElem?_eq_some_iff.mp hv).1 (by omega)) (Or.inl rfl)
theorem pn18 : plainFor (⟨"com/example/trapeze/trapeze/scheduling/Profile", "segmentCount", "()I"⟩ : MethodName) = true := by first | (refine plainFor_of_name ?_; simp [plainName, overriddenIn]; done) | (refine plainFor_of_name ?_; decide +kernel) | decide +kernel
def B_rm_cnt : Prog := [(0, .aload_n 0, 1), (1, .getfield 72, 3), (4, .ireturn, 1)]
theorem B_rm_cnt_ok : okB prog_39_method_14_code B_rm_cnt = true := by decide +kernel
set_option maxRecDepth 65536 in
set_option maxHeartbeats 40000000 in
theorem rm_cnt (l : Launch) (Z : State) (a0 : Array Value) (hw : ∀ d ∈ tables_1, d.before a0 Z = true) (pa : Addr) (ad : Nat → Addr) (n cc : Int32) : Ct l Z EL1 nw1 (⟨"com/example/trapeze/trapeze/scheduling/Profile", "segmentCount", "()I"⟩ : MethodName) prog_39_method_14_code 1 (some .int) [] ({ frames := 0, cells := 0, slots := 0, locals := 0 } : Room) [.ref pa] [(pa, true, .inl kP, [.ref (ad 0), .ref (ad 1), .ref (ad 2), .ref (ad 3), .ref (ad 4), .ref (ad 5), .ref (ad 6), .ref (ad 7), .ref (ad 8), .ref (ad 9), .ref (ad 10), .ref (ad 11), .ref (ad 12), .ref (ad 13), .ref (ad 14), .ref (ad 15), .ref (ad 16), .ref (ad 17), .int n, .int cc, .int 1, .int 1])] (fun v L => v = some (.int cc) ∧ L = [(pa, true, .inl kP, [.ref (ad 0), .ref (ad 1), .ref (ad 2), .ref (ad 3), .ref (ad 4), .ref (ad 5), .ref (ad 6), .ref (ad 7), .ref (ad 8), .ref (ad 9), .ref (ad 10), .ref (ad 11), .ref (ad 12), .ref (ad 13), .ref (ad 14), .ref (ad 15), .ref (ad 16), .ref (ad 17), .int n, .int cc, .int 1, .int 1])]) := by
  refine ct_of pn18 (B := B_rm_cnt) (ls := [.val (.ref pa)]) B_rm_cnt_ok (ew1 hw) (fun m => by first | (simp [entryFrame, mkF, argsToLocals, Value.category]; done) | rfl) (fun K C => ?_)
  refine wp_blk C 0 1 (pc' := 1) (ls' := [.val (.ref pa)]) (st' := [.ref pa]) rfl ?_
  refine wp_get C 1 4 0 19 rfl rfl (wd hw 71 rfl) Via.refl rfl rfl rfl ?_
  exact wp_retI C 2 rfl (by decide) (by decide) (⟨rfl, rfl⟩)
theorem pn19 : plainFor (⟨"com/example/trapeze/trapeze/scheduling/Profile", "start", "(I)I"⟩ : MethodName) = true := by first | (refine plainFor_of_name ?_; simp [plainName, overriddenIn]; done) | (refine plainFor_of_name ?_; decide +kernel) | decide +kernel
def B_rm_start : Prog := [(0, .aload_n 0, 1), (1, .getfield 38, 3), (4, .iload_n 1, 1), (5, .iaload, 1), (6, .ireturn, 1)]
theorem B_rm_start_ok : okB prog_39_method_15_code B_rm_start = true := by decide +kernel
set_option maxRecDepth 65536 in
set_option maxHeartbeats 40000000 in
theorem rm_start (l : Launch) (Z : State) (a0 : Array Value) (hw : ∀ d ∈ tables_1, d.before a0 Z = true) (pa : Addr) (ad : Nat → Addr) (E : List Int32) (n cc i v : Int32) (j : Nat) (hj : i.toInt = j) (hv : E[j]? = some v) : Ct l Z EL1 nw1 (⟨"com/example/trapeze/trapeze/scheduling/Profile", "start", "(I)I"⟩ : MethodName) prog_39_method_15_code 2 (some .int) [] ({ frames := 0, cells := 0, slots := 0, locals := 0 } : Room) [.ref pa, .int i] [(pa, true, .inl kP, [.ref (ad 0), .ref (ad 1), .ref (ad 2), .ref (ad 3), .ref (ad 4), .ref (ad 5), .ref (ad 6), .ref (ad 7), .ref (ad 8), .ref (ad 9), .ref (ad 10), .ref (ad 11), .ref (ad 12), .ref (ad 13), .ref (ad 14), .ref (ad 15), .ref (ad 16), .ref (ad 17), .int n, .int cc, .int 1, .int 1]), (ad 8, true, .inr .int, seg8 E)] (fun w L => w = some (.int v) ∧ L = [(pa, true, .inl kP, [.ref (ad 0), .ref (ad 1), .ref (ad 2), .ref (ad 3), .ref (ad 4), .ref (ad 5), .ref (ad 6), .ref (ad 7), .ref (ad 8), .ref (ad 9), .ref (ad 10), .ref (ad 11), .ref (ad 12), .ref (ad 13), .ref (ad 14), .ref (ad 15), .ref (ad 16), .ref (ad 17), .int n, .int cc, .int 1, .int 1]), (ad 8, true, .inr .int, seg8 E)]) := by
  refine ct_of pn19 (B := B_rm_start) (ls := [.val (.ref pa), .val (.int i)]) B_rm_start_ok (ew1 hw) (fun m => by first | (simp [entryFrame, mkF, argsToLocals, Value.category]; done) | rfl) (fun K C => ?_)
  refine wp_blk C 0 1 (pc' := 1) (ls' := [.val (.ref pa), .val (.int i)]) (st' := [.ref pa]) rfl ?_
  refine wp_get C 1 4 0 8 rfl rfl (wd hw 44 rfl) Via.refl rfl rfl rfl ?_
  refine wp_blk C 2 1 (pc' := 5) (ls' := [.val (.ref pa), .val (.int i)]) (st' := [.int i, .ref (ad 8)]) rfl ?_
  refine wp_aload C (n := j) (v := .int v) 3 6 1 rfl rfl (Or.inl ⟨rfl, rfl⟩) rfl hj (seg8_get hv) ?_
  exact wp_retI C 4 rfl (by decide) (by decide) (⟨rfl, rfl⟩)

theorem span_t (y : Int32) : Span (y % 1000000001) := by
  have h := c_irem y 1000000001 1000000001 (by decide +kernel)
  have r := rng32 y
  generalize y % 1000000001 = z at *
  unfold Span
  rcases Int.lt_or_le y.toInt 0 with q | q
  · have := h.2 q; omega
  · have := h.1 q; omega
theorem min_cases (a b : Int32) : (minV a b = a ∧ a.toInt ≤ b.toInt) ∨ (minV a b = b ∧ b.toInt ≤ a.toInt) := by
  unfold minV; split
  · exact Or.inl ⟨rfl, by assumption⟩
  · exact Or.inr ⟨rfl, by omega⟩
theorem max_cases (a b : Int32) : (maxV a b = a ∧ b.toInt ≤ a.toInt) ∨ (maxV a b = b ∧ a.toInt ≤ b.toInt) := by
  unfold maxV; split
  · exact Or.inl ⟨rfl, by assumption⟩
  · exact Or.inr ⟨rfl, by omega⟩
theorem clamp_ok {lo hi y : Int32} (h : lo.toInt ≤ hi.toInt) : lo.toInt ≤ (maxV lo (minV hi y)).toInt ∧ (maxV lo (minV hi y)).toInt ≤ hi.toInt := by
  have h1 := max_cases lo (minV hi y)
  have h2 := min_cases hi y
  generalize minV hi y = M at *
  generalize maxV lo M = X at *
  rcases h1 with ⟨rfl, q⟩ | ⟨rfl, q⟩ <;> rcases h2 with ⟨rfl, q2⟩ | ⟨rfl, q2⟩ <;> omega
theorem sort2 {p q : Int32} {lo hi : Int32} (h1 : lo.toInt ≤ p.toInt) (h2 : p.toInt ≤ hi.toInt) (h3 : lo.toInt ≤ q.toInt) (h4 : q.toInt ≤ hi.toInt) : ∃ us : List Int32, us.Perm [lo, hi, p, q] ∧ us.Pairwise LeI ∧ us.length = 4 := by
  rcases Int.le_total p.toInt q.toInt with h | h
  · exact ⟨[lo, p, q, hi], List.Perm.cons _ (List.perm_append_comm (l₁ := [p, q]) (l₂ := [hi])), by simp [LeI]; omega, rfl⟩
  · exact ⟨[lo, q, p, hi], List.Perm.cons _ ((List.perm_append_comm (l₁ := [q, p]) (l₂ := [hi])).trans (List.Perm.cons _ (List.Perm.swap _ _ _))), by simp [LeI]; omega, rfl⟩

theorem pn20 : plainFor x = true := by first | (refine plainFor_of_name ?_; simp [plainName, overriddenIn]; done) | (refine plainFor_of_name ?_; decide +kernel) | decide +kernel
theorem pd9 : parseMethodDescriptor "(I)I" = some ⟨[.int], (some .int)⟩ := by decide +kernel
theorem pd10 : parseMethodDescriptor "(III)I" = some ⟨[.int, .int, .int], (some .int)⟩ := by decide +kernel
theorem pd11 : parseMethodDescriptor "(II)V" = some ⟨[.int, .int], none⟩ := by decide +kernel
theorem pd12 : parseMethodDescriptor "()I" = some ⟨[], (some .int)⟩ := by decide +kernel
def B_rm_law : Prog := [(0, .iload_n 0, 1), (1, .invokestatic 17, 3), (4, .istore 5, 2), (6, .iload_n 1, 1), (7, .invokestatic 17, 3), (10, .istore 6, 2), (12, .iload 5, 2), (14, .iload 6, 2), (16, .invokestatic 8, 3), (19, .istore 7, 2), (21, .iload 5, 2), (23, .iload 6, 2), (25, .invokestatic 14, 3), (28, .istore 8, 2), (30, .iload_n 2, 1), (31, .invokestatic 17, 3), (34, .iload 7, 2), (36, .iload 8, 2), (38, .invokestatic 23, 3), (41, .istore 9, 2), (43, .iload_n 3, 1), (44, .invokestatic 17, 3), (47, .iload 7, 2), (49, .iload 8, 2), (51, .invokestatic 23, 3), (54, .istore 10, 2), (56, .new 27, 3), (59, .dup, 1), (60, .invokespecial 29, 3), (63, .astore 11, 2), (65, .aload 11, 2), (67, .iload 7, 2), (69, .iload 8, 2), (71, .invokevirtual 30, 3), (74, .aload 11, 2), (76, .iload 9, 2), (78, .invokevirtual 34, 3), (81, .aload 11, 2), (83, .iload 10, 2), (85, .invokevirtual 34, 3), (88, .aload 11, 2), (90, .invokevirtual 38, 3), (93, .aload 11, 2), (95, .iload 4, 2), (97, .invokevirtual 41, 3), (100, .istore 12, 2), (102, .aload 11, 2), (104, .invokevirtual 44, 3), (107, .istore 13, 2), (109, .iload 13, 2), (111, .ifCond .lt 9, 3), (114, .iload 13, 2), (116, .iconst 3, 1), (117, .if_icmp .le 5, 3), (122, .iconst (-1), 1), (123, .istore 14, 2), (125, .iload 13, 2), (127, .ifCond .le 17, 3), (130, .aload 11, 2), (132, .iconst 0, 1), (133, .invokevirtual 48, 3), (136, .iload 4, 2), (138, .if_icmp .ge 6, 3), (141, .iconst 0, 1), (142, .istore 14, 2), (144, .iload 13, 2), (146, .iconst 1, 1), (147, .if_icmp .le 17, 3), (150, .aload 11, 2), (152, .iconst 1, 1), (153, .invokevirtual 48, 3), (156, .iload 4, 2), (158, .if_icmp .ge 6, 3), (161, .iconst 1, 1), (162, .istore 14, 2), (164, .iload 13, 2), (166, .iconst 2, 1), (167, .if_icmp .le 17, 3), (170, .aload 11, 2), (172, .iconst 2, 1), (173, .invokevirtual 48, 3), (176, .iload 4, 2), (178, .if_icmp .ge 6, 3), (181, .iconst 2, 1), (182, .istore 14, 2), (184, .iload 12, 2), (186, .iload 14, 2), (188, .if_icmp .ne 7, 3), (191, .iconst 1, 1), (192, .goto 4, 3), (196, .ireturn, 1)]
theorem B_rm_law_ok : okB code B_rm_law = true := by decide +kernel
set_option maxRecDepth 65536 in
set_option maxHeartbeats 40000000 in
theorem rm_law (l : Launch) (Z : State) (a0 : Array Value) (hw : ∀ d ∈ tables_1, d.before a0 Z = true) (a b c d t : Int32) : Ct l Z EL1 nw1 x code maxLocals ret tables_1 room_1 [.int a, .int b, .int c, .int d, .int t] [] (fun v L => v = some (.int 1)) := by
  refine ct_of pn20 (B := B_rm_law) (ls := [.val (.int a), .val (.int b), .val (.int c), .val (.int d), .val (.int t), .unset, .unset, .unset, .unset, .unset, .unset, .unset, .unset, .unset, .unset]) B_rm_law_ok (ew1 hw) (fun m => by first | (simp [entryFrame, mkF, argsToLocals, Value.category, maxLocals]; done) | rfl) (fun K C => ?_)
  refine wp_blk C 0 1 (pc' := 1) (ls' := [.val (.int a), .val (.int b), .val (.int c), .val (.int d), .val (.int t), .unset, .unset, .unset, .unset, .unset, .unset, .unset, .unset, .unset, .unset]) (st' := [.int a]) rfl ?_
  refine wp_static C (al := [.int a]) (rest := []) (L1 := []) (W := 0) (cells' := 0) (slots' := 0) 1 4 (rm_ti l Z a0 hw a) rfl rfl (wd hw 0 rfl) (wd hw 1 rfl) (wd hw 3 rfl) (wd hw 2 rfl) (by decide) pd9 rfl rfl rfl rfl (by decide) (by decide) rfl rfl rfl (by decide) (by decide) (fun v L' hQ => ?_)
  obtain ⟨rfl, rfl⟩ := hQ
  show Wp K 0 0 [] 4 [.val (.int a), .val (.int b), .val (.int c), .val (.int d), .val (.int t), .unset, .unset, .unset, .unset, .unset, .unset, .unset, .unset, .unset, .unset] [.int (a % 1000000001)]
  refine wp_blk C 2 1 (pc' := 6) (ls' := [.val (.int a), .val (.int b), .val (.int c), .val (.int d), .val (.int t), .val (.int (a % 1000000001)), .unset, .unset, .unset, .unset, .unset, .unset, .unset, .unset, .unset]) (st' := []) rfl ?_
  obtain ⟨ta, hta⟩ : ∃ z : Int32, z = a % 1000000001 := ⟨_, rfl⟩
  rw [← hta]
  have Bta : Span ta := hta ▸ span_t a
  refine wp_blk C 3 1 (pc' := 7) (ls' := [.val (.int a), .val (.int b), .val (.int c), .val (.int d), .val (.int t), .val (.int ta), .unset, .unset, .unset, .unset, .unset, .unset, .unset, .unset, .unset]) (st' := [.int b]) rfl ?_
  refine wp_static C (al := [.int b]) (rest := []) (L1 := []) (W := 0) (cells' := 0) (slots' := 0) 4 10 (rm_ti l Z a0 hw b) rfl rfl (wd hw 0 rfl) (wd hw 1 rfl) (wd hw 3 rfl) (wd hw 2 rfl) (by decide) pd9 rfl rfl rfl rfl (by decide) (by decide) rfl rfl rfl (by decide) (by decide) (fun v L' hQ => ?_)
  obtain ⟨rfl, rfl⟩ := hQ
  show Wp K 0 0 [] 10 [.val (.int a), .val (.int b), .val (.int c), .val (.int d), .val (.int t), .val (.int ta), .unset, .unset, .unset, .unset, .unset, .unset, .unset, .unset, .unset] [.int (b % 1000000001)]
  refine wp_blk C 5 1 (pc' := 12) (ls' := [.val (.int a), .val (.int b), .val (.int c), .val (.int d), .val (.int t), .val (.int ta), .val (.int (b % 1000000001)), .unset, .unset, .unset, .unset, .unset, .unset, .unset, .unset]) (st' := []) rfl ?_
  obtain ⟨tb, htb⟩ : ∃ z : Int32, z = b % 1000000001 := ⟨_, rfl⟩
  rw [← htb]
  have Btb : Span tb := htb ▸ span_t b
  refine wp_blk C 6 2 (pc' := 16) (ls' := [.val (.int a), .val (.int b), .val (.int c), .val (.int d), .val (.int t), .val (.int ta), .val (.int tb), .unset, .unset, .unset, .unset, .unset, .unset, .unset, .unset]) (st' := [.int tb, .int ta]) rfl ?_
  refine wp_static C (al := [.int ta, .int tb]) (rest := []) (L1 := []) (W := 0) (cells' := 0) (slots' := 0) 8 19 (rm_min l Z a0 hw ta tb) rfl rfl (wd hw 5 rfl) (wd hw 6 rfl) (wd hw 8 rfl) (wd hw 7 rfl) (by decide) pd8 rfl rfl rfl rfl (by decide) (by decide) rfl rfl rfl (by decide) (by decide) (fun v L' hQ => ?_)
  obtain ⟨rfl, rfl⟩ := hQ
  show Wp K 0 0 [] 19 [.val (.int a), .val (.int b), .val (.int c), .val (.int d), .val (.int t), .val (.int ta), .val (.int tb), .unset, .unset, .unset, .unset, .unset, .unset, .unset, .unset] [.int (minV ta tb)]
  refine wp_blk C 9 1 (pc' := 21) (ls' := [.val (.int a), .val (.int b), .val (.int c), .val (.int d), .val (.int t), .val (.int ta), .val (.int tb), .val (.int (minV ta tb)), .unset, .unset, .unset, .unset, .unset, .unset, .unset]) (st' := []) rfl ?_
  obtain ⟨lo, hlo⟩ : ∃ z : Int32, z = minV ta tb := ⟨_, rfl⟩
  rw [← hlo]
  refine wp_blk C 10 2 (pc' := 25) (ls' := [.val (.int a), .val (.int b), .val (.int c), .val (.int d), .val (.int t), .val (.int ta), .val (.int tb), .val (.int lo), .unset, .unset, .unset, .unset, .unset, .unset, .unset]) (st' := [.int tb, .int ta]) rfl ?_
  refine wp_static C (al := [.int ta, .int tb]) (rest := []) (L1 := []) (W := 0) (cells' := 0) (slots' := 0) 12 28 (rm_max l Z a0 hw ta tb) rfl rfl (wd hw 9 rfl) (wd hw 10 rfl) (wd hw 11 rfl) (wd hw 7 rfl) (by decide) pd8 rfl rfl rfl rfl (by decide) (by decide) rfl rfl rfl (by decide) (by decide) (fun v L' hQ => ?_)
  obtain ⟨rfl, rfl⟩ := hQ
  show Wp K 0 0 [] 28 [.val (.int a), .val (.int b), .val (.int c), .val (.int d), .val (.int t), .val (.int ta), .val (.int tb), .val (.int lo), .unset, .unset, .unset, .unset, .unset, .unset, .unset] [.int (maxV ta tb)]
  refine wp_blk C 13 1 (pc' := 30) (ls' := [.val (.int a), .val (.int b), .val (.int c), .val (.int d), .val (.int t), .val (.int ta), .val (.int tb), .val (.int lo), .val (.int (maxV ta tb)), .unset, .unset, .unset, .unset, .unset, .unset]) (st' := []) rfl ?_
  obtain ⟨hi, hhi⟩ : ∃ z : Int32, z = maxV ta tb := ⟨_, rfl⟩
  rw [← hhi]
  have Blo : Span lo ∧ Span hi ∧ lo.toInt ≤ hi.toInt := by rcases min_cases ta tb with ⟨e1, q1⟩ | ⟨e1, q1⟩ <;> rcases max_cases ta tb with ⟨e2, q2⟩ | ⟨e2, q2⟩ <;> rw [← hlo] at e1 <;> rw [← hhi] at e2 <;> subst e1 e2 <;> exact ⟨by assumption, by assumption, by omega⟩
  obtain ⟨Blo, Bhi, hlh⟩ := Blo
  refine wp_blk C 14 1 (pc' := 31) (ls' := [.val (.int a), .val (.int b), .val (.int c), .val (.int d), .val (.int t), .val (.int ta), .val (.int tb), .val (.int lo), .val (.int hi), .unset, .unset, .unset, .unset, .unset, .unset]) (st' := [.int c]) rfl ?_
  refine wp_static C (al := [.int c]) (rest := []) (L1 := []) (W := 0) (cells' := 0) (slots' := 0) 15 34 (rm_ti l Z a0 hw c) rfl rfl (wd hw 0 rfl) (wd hw 1 rfl) (wd hw 3 rfl) (wd hw 2 rfl) (by decide) pd9 rfl rfl rfl rfl (by decide) (by decide) rfl rfl rfl (by decide) (by decide) (fun v L' hQ => ?_)
  obtain ⟨rfl, rfl⟩ := hQ
  show Wp K 0 0 [] 34 [.val (.int a), .val (.int b), .val (.int c), .val (.int d), .val (.int t), .val (.int ta), .val (.int tb), .val (.int lo), .val (.int hi), .unset, .unset, .unset, .unset, .unset, .unset] [.int (c % 1000000001)]
  refine wp_blk C 16 2 (pc' := 38) (ls' := [.val (.int a), .val (.int b), .val (.int c), .val (.int d), .val (.int t), .val (.int ta), .val (.int tb), .val (.int lo), .val (.int hi), .unset, .unset, .unset, .unset, .unset, .unset]) (st' := [.int hi, .int lo, .int (c % 1000000001)]) rfl ?_
  refine wp_static C (al := [.int (c % 1000000001), .int lo, .int hi]) (rest := []) (L1 := []) (W := 0) (cells' := 0) (slots' := 0) 18 41 (rm_cl l Z a0 hw (c % 1000000001) lo hi) rfl rfl (wd hw 12 rfl) (wd hw 13 rfl) (wd hw 14 rfl) (wd hw 2 rfl) (by decide) pd10 rfl rfl rfl rfl (by decide) (by decide) rfl rfl rfl (by decide) (by decide) (fun v L' hQ => ?_)
  obtain ⟨rfl, rfl⟩ := hQ
  show Wp K 0 0 [] 41 [.val (.int a), .val (.int b), .val (.int c), .val (.int d), .val (.int t), .val (.int ta), .val (.int tb), .val (.int lo), .val (.int hi), .unset, .unset, .unset, .unset, .unset, .unset] [.int (maxV lo (minV hi (c % 1000000001)))]
  refine wp_blk C 19 1 (pc' := 43) (ls' := [.val (.int a), .val (.int b), .val (.int c), .val (.int d), .val (.int t), .val (.int ta), .val (.int tb), .val (.int lo), .val (.int hi), .val (.int (maxV lo (minV hi (c % 1000000001)))), .unset, .unset, .unset, .unset, .unset]) (st' := []) rfl ?_
  obtain ⟨tc, htc⟩ : ∃ z : Int32, z = maxV lo (minV hi (c % 1000000001)) := ⟨_, rfl⟩
  rw [← htc]
  have Ntc := clamp_ok (y := c % 1000000001) hlh
  rw [← htc] at Ntc
  have Btc : Span tc := ⟨by have := Blo.1; omega, by have := Bhi.2; omega⟩
  refine wp_blk C 20 1 (pc' := 44) (ls' := [.val (.int a), .val (.int b), .val (.int c), .val (.int d), .val (.int t), .val (.int ta), .val (.int tb), .val (.int lo), .val (.int hi), .val (.int tc), .unset, .unset, .unset, .unset, .unset]) (st' := [.int d]) rfl ?_
  refine wp_static C (al := [.int d]) (rest := []) (L1 := []) (W := 0) (cells' := 0) (slots' := 0) 21 47 (rm_ti l Z a0 hw d) rfl rfl (wd hw 0 rfl) (wd hw 1 rfl) (wd hw 3 rfl) (wd hw 2 rfl) (by decide) pd9 rfl rfl rfl rfl (by decide) (by decide) rfl rfl rfl (by decide) (by decide) (fun v L' hQ => ?_)
  obtain ⟨rfl, rfl⟩ := hQ
  show Wp K 0 0 [] 47 [.val (.int a), .val (.int b), .val (.int c), .val (.int d), .val (.int t), .val (.int ta), .val (.int tb), .val (.int lo), .val (.int hi), .val (.int tc), .unset, .unset, .unset, .unset, .unset] [.int (d % 1000000001)]
  refine wp_blk C 22 2 (pc' := 51) (ls' := [.val (.int a), .val (.int b), .val (.int c), .val (.int d), .val (.int t), .val (.int ta), .val (.int tb), .val (.int lo), .val (.int hi), .val (.int tc), .unset, .unset, .unset, .unset, .unset]) (st' := [.int hi, .int lo, .int (d % 1000000001)]) rfl ?_
  refine wp_static C (al := [.int (d % 1000000001), .int lo, .int hi]) (rest := []) (L1 := []) (W := 0) (cells' := 0) (slots' := 0) 24 54 (rm_cl l Z a0 hw (d % 1000000001) lo hi) rfl rfl (wd hw 12 rfl) (wd hw 13 rfl) (wd hw 14 rfl) (wd hw 2 rfl) (by decide) pd10 rfl rfl rfl rfl (by decide) (by decide) rfl rfl rfl (by decide) (by decide) (fun v L' hQ => ?_)
  obtain ⟨rfl, rfl⟩ := hQ
  show Wp K 0 0 [] 54 [.val (.int a), .val (.int b), .val (.int c), .val (.int d), .val (.int t), .val (.int ta), .val (.int tb), .val (.int lo), .val (.int hi), .val (.int tc), .unset, .unset, .unset, .unset, .unset] [.int (maxV lo (minV hi (d % 1000000001)))]
  refine wp_blk C 25 1 (pc' := 56) (ls' := [.val (.int a), .val (.int b), .val (.int c), .val (.int d), .val (.int t), .val (.int ta), .val (.int tb), .val (.int lo), .val (.int hi), .val (.int tc), .val (.int (maxV lo (minV hi (d % 1000000001)))), .unset, .unset, .unset, .unset]) (st' := []) rfl ?_
  obtain ⟨td, htd⟩ : ∃ z : Int32, z = maxV lo (minV hi (d % 1000000001)) := ⟨_, rfl⟩
  rw [← htd]
  have Ntd := clamp_ok (y := d % 1000000001) hlh
  rw [← htd] at Ntd
  have Btd : Span td := ⟨by have := Blo.1; omega, by have := Bhi.2; omega⟩
  have hspan : ∀ t ∈ [lo, hi, tc, td], Span t := by intro t ht; simp only [List.mem_cons, List.not_mem_nil, or_false] at ht; rcases ht with rfl | rfl | rfl | rfl <;> assumption
  refine wp_new C (Kc := kP) (cells' := 1) (slots' := 22) 26 59 rfl rfl (wd hw 15 rfl) (wd hw 16 rfl) (wd hw 17 rfl) (kP_ok hw) kP_df rfl rfl (by decide) (by decide) (fun pa => ?_)
  refine wp_blk C 27 1 (pc' := 60) (ls' := [.val (.int a), .val (.int b), .val (.int c), .val (.int d), .val (.int t), .val (.int ta), .val (.int tb), .val (.int lo), .val (.int hi), .val (.int tc), .val (.int td), .unset, .unset, .unset, .unset]) (st' := [.ref pa, .ref pa]) rfl ?_
  refine wp_init C (al := []) (rest := [.ref pa]) (L1 := []) (W := 1) (cells' := 19) (slots' := 231) 28 63 (rm_ctor l Z a0 hw pa) rfl rfl (wd hw 18 rfl) (wd hw 19 rfl) (wd hw 20 rfl) (wd hw 17 rfl) rfl (by decide) pd7 rfl rfl rfl rfl (by decide) (by decide) rfl rfl rfl (by decide) (by decide) (fun v L' hQ => ?_)
  obtain ⟨rfl, ad, rfl⟩ := hQ
  show Wp K 19 231 [(ad 17, true, .inr .long, List.replicate 9 (.long 0)), (ad 16, true, .inr .int, List.replicate 8 (.int 0)), (ad 15, true, .inr (.object "com/example/trapeze/trapeze/core/Rational"), List.replicate 8 (.null)), (ad 14, true, .inr (.object "com/example/trapeze/trapeze/core/Rational"), List.replicate 8 (.null)), (ad 13, true, .inr (.object "com/example/trapeze/trapeze/core/Rational"), List.replicate 8 (.null)), (ad 12, true, .inr (.object "com/example/trapeze/trapeze/core/Rational"), List.replicate 8 (.null)), (ad 11, true, .inr .long, List.replicate 8 (.long 0)), (ad 10, true, .inr .long, List.replicate 8 (.long 0)), (ad 9, true, .inr .int, List.replicate 8 (.int 0)), (ad 8, true, .inr .int, List.replicate 8 (.int 0)), (ad 7, true, .inr .int, List.replicate 16 (.int 0)), (ad 6, true, .inr (.object "com/example/trapeze/trapeze/core/Rational"), List.replicate 16 (.null)), (ad 5, true, .inr (.object "com/example/trapeze/trapeze/core/Rational"), List.replicate 16 (.null)), (ad 4, true, .inr (.object "com/example/trapeze/trapeze/core/Rational"), List.replicate 16 (.null)), (ad 3, true, .inr (.object "com/example/trapeze/trapeze/core/Rational"), List.replicate 16 (.null)), (ad 2, true, .inr .long, List.replicate 16 (.long 0)), (ad 1, true, .inr .long, List.replicate 16 (.long 0)), (ad 0, true, .inr .long, List.replicate 16 (.long 0)), (pa, true, .inl kP, [.ref (ad 0), .ref (ad 1), .ref (ad 2), .ref (ad 3), .ref (ad 4), .ref (ad 5), .ref (ad 6), .ref (ad 7), .ref (ad 8), .ref (ad 9), .ref (ad 10), .ref (ad 11), .ref (ad 12), .ref (ad 13), .ref (ad 14), .ref (ad 15), .ref (ad 16), .ref (ad 17), .int 0, .int 0, .int 0, .int 0])] 63 [.val (.int a), .val (.int b), .val (.int c), .val (.int d), .val (.int t), .val (.int ta), .val (.int tb), .val (.int lo), .val (.int hi), .val (.int tc), .val (.int td), .unset, .unset, .unset, .unset] [.ref pa]
  refine wp_blk C 29 4 (pc' := 71) (ls' := [.val (.int a), .val (.int b), .val (.int c), .val (.int d), .val (.int t), .val (.int ta), .val (.int tb), .val (.int lo), .val (.int hi), .val (.int tc), .val (.int td), .val (.ref pa), .unset, .unset, .unset]) (st' := [.int hi, .int lo, .ref pa]) rfl ?_
  refine wp_front C 10 (L' := [(ad 7, true, .inr .int, List.replicate 16 (.int 0)), (ad 17, true, .inr .long, List.replicate 9 (.long 0)), (ad 16, true, .inr .int, List.replicate 8 (.int 0)), (ad 15, true, .inr (.object "com/example/trapeze/trapeze/core/Rational"), List.replicate 8 (.null)), (ad 14, true, .inr (.object "com/example/trapeze/trapeze/core/Rational"), List.replicate 8 (.null)), (ad 13, true, .inr (.object "com/example/trapeze/trapeze/core/Rational"), List.replicate 8 (.null)), (ad 12, true, .inr (.object "com/example/trapeze/trapeze/core/Rational"), List.replicate 8 (.null)), (ad 11, true, .inr .long, List.replicate 8 (.long 0)), (ad 10, true, .inr .long, List.replicate 8 (.long 0)), (ad 9, true, .inr .int, List.replicate 8 (.int 0)), (ad 8, true, .inr .int, List.replicate 8 (.int 0)), (ad 6, true, .inr (.object "com/example/trapeze/trapeze/core/Rational"), List.replicate 16 (.null)), (ad 5, true, .inr (.object "com/example/trapeze/trapeze/core/Rational"), List.replicate 16 (.null)), (ad 4, true, .inr (.object "com/example/trapeze/trapeze/core/Rational"), List.replicate 16 (.null)), (ad 3, true, .inr (.object "com/example/trapeze/trapeze/core/Rational"), List.replicate 16 (.null)), (ad 2, true, .inr .long, List.replicate 16 (.long 0)), (ad 1, true, .inr .long, List.replicate 16 (.long 0)), (ad 0, true, .inr .long, List.replicate 16 (.long 0)), (pa, true, .inl kP, [.ref (ad 0), .ref (ad 1), .ref (ad 2), .ref (ad 3), .ref (ad 4), .ref (ad 5), .ref (ad 6), .ref (ad 7), .ref (ad 8), .ref (ad 9), .ref (ad 10), .ref (ad 11), .ref (ad 12), .ref (ad 13), .ref (ad 14), .ref (ad 15), .ref (ad 16), .ref (ad 17), .int 0, .int 0, .int 0, .int 0])]) rfl ?_
  refine wp_front C 14 (L' := [(ad 3, true, .inr (.object "com/example/trapeze/trapeze/core/Rational"), List.replicate 16 (.null)), (ad 7, true, .inr .int, List.replicate 16 (.int 0)), (ad 17, true, .inr .long, List.replicate 9 (.long 0)), (ad 16, true, .inr .int, List.replicate 8 (.int 0)), (ad 15, true, .inr (.object "com/example/trapeze/trapeze/core/Rational"), List.replicate 8 (.null)), (ad 14, true, .inr (.object "com/example/trapeze/trapeze/core/Rational"), List.replicate 8 (.null)), (ad 13, true, .inr (.object "com/example/trapeze/trapeze/core/Rational"), List.replicate 8 (.null)), (ad 12, true, .inr (.object "com/example/trapeze/trapeze/core/Rational"), List.replicate 8 (.null)), (ad 11, true, .inr .long, List.replicate 8 (.long 0)), (ad 10, true, .inr .long, List.replicate 8 (.long 0)), (ad 9, true, .inr .int, List.replicate 8 (.int 0)), (ad 8, true, .inr .int, List.replicate 8 (.int 0)), (ad 6, true, .inr (.object "com/example/trapeze/trapeze/core/Rational"), List.replicate 16 (.null)), (ad 5, true, .inr (.object "com/example/trapeze/trapeze/core/Rational"), List.replicate 16 (.null)), (ad 4, true, .inr (.object "com/example/trapeze/trapeze/core/Rational"), List.replicate 16 (.null)), (ad 2, true, .inr .long, List.replicate 16 (.long 0)), (ad 1, true, .inr .long, List.replicate 16 (.long 0)), (ad 0, true, .inr .long, List.replicate 16 (.long 0)), (pa, true, .inl kP, [.ref (ad 0), .ref (ad 1), .ref (ad 2), .ref (ad 3), .ref (ad 4), .ref (ad 5), .ref (ad 6), .ref (ad 7), .ref (ad 8), .ref (ad 9), .ref (ad 10), .ref (ad 11), .ref (ad 12), .ref (ad 13), .ref (ad 14), .ref (ad 15), .ref (ad 16), .ref (ad 17), .int 0, .int 0, .int 0, .int 0])]) rfl ?_
  refine wp_front C 15 (L' := [(ad 2, true, .inr .long, List.replicate 16 (.long 0)), (ad 3, true, .inr (.object "com/example/trapeze/trapeze/core/Rational"), List.replicate 16 (.null)), (ad 7, true, .inr .int, List.replicate 16 (.int 0)), (ad 17, true, .inr .long, List.replicate 9 (.long 0)), (ad 16, true, .inr .int, List.replicate 8 (.int 0)), (ad 15, true, .inr (.object "com/example/trapeze/trapeze/core/Rational"), List.replicate 8 (.null)), (ad 14, true, .inr (.object "com/example/trapeze/trapeze/core/Rational"), List.replicate 8 (.null)), (ad 13, true, .inr (.object "com/example/trapeze/trapeze/core/Rational"), List.replicate 8 (.null)), (ad 12, true, .inr (.object "com/example/trapeze/trapeze/core/Rational"), List.replicate 8 (.null)), (ad 11, true, .inr .long, List.replicate 8 (.long 0)), (ad 10, true, .inr .long, List.replicate 8 (.long 0)), (ad 9, true, .inr .int, List.replicate 8 (.int 0)), (ad 8, true, .inr .int, List.replicate 8 (.int 0)), (ad 6, true, .inr (.object "com/example/trapeze/trapeze/core/Rational"), List.replicate 16 (.null)), (ad 5, true, .inr (.object "com/example/trapeze/trapeze/core/Rational"), List.replicate 16 (.null)), (ad 4, true, .inr (.object "com/example/trapeze/trapeze/core/Rational"), List.replicate 16 (.null)), (ad 1, true, .inr .long, List.replicate 16 (.long 0)), (ad 0, true, .inr .long, List.replicate 16 (.long 0)), (pa, true, .inl kP, [.ref (ad 0), .ref (ad 1), .ref (ad 2), .ref (ad 3), .ref (ad 4), .ref (ad 5), .ref (ad 6), .ref (ad 7), .ref (ad 8), .ref (ad 9), .ref (ad 10), .ref (ad 11), .ref (ad 12), .ref (ad 13), .ref (ad 14), .ref (ad 15), .ref (ad 16), .ref (ad 17), .int 0, .int 0, .int 0, .int 0])]) rfl ?_
  refine wp_front C 16 (L' := [(ad 1, true, .inr .long, List.replicate 16 (.long 0)), (ad 2, true, .inr .long, List.replicate 16 (.long 0)), (ad 3, true, .inr (.object "com/example/trapeze/trapeze/core/Rational"), List.replicate 16 (.null)), (ad 7, true, .inr .int, List.replicate 16 (.int 0)), (ad 17, true, .inr .long, List.replicate 9 (.long 0)), (ad 16, true, .inr .int, List.replicate 8 (.int 0)), (ad 15, true, .inr (.object "com/example/trapeze/trapeze/core/Rational"), List.replicate 8 (.null)), (ad 14, true, .inr (.object "com/example/trapeze/trapeze/core/Rational"), List.replicate 8 (.null)), (ad 13, true, .inr (.object "com/example/trapeze/trapeze/core/Rational"), List.replicate 8 (.null)), (ad 12, true, .inr (.object "com/example/trapeze/trapeze/core/Rational"), List.replicate 8 (.null)), (ad 11, true, .inr .long, List.replicate 8 (.long 0)), (ad 10, true, .inr .long, List.replicate 8 (.long 0)), (ad 9, true, .inr .int, List.replicate 8 (.int 0)), (ad 8, true, .inr .int, List.replicate 8 (.int 0)), (ad 6, true, .inr (.object "com/example/trapeze/trapeze/core/Rational"), List.replicate 16 (.null)), (ad 5, true, .inr (.object "com/example/trapeze/trapeze/core/Rational"), List.replicate 16 (.null)), (ad 4, true, .inr (.object "com/example/trapeze/trapeze/core/Rational"), List.replicate 16 (.null)), (ad 0, true, .inr .long, List.replicate 16 (.long 0)), (pa, true, .inl kP, [.ref (ad 0), .ref (ad 1), .ref (ad 2), .ref (ad 3), .ref (ad 4), .ref (ad 5), .ref (ad 6), .ref (ad 7), .ref (ad 8), .ref (ad 9), .ref (ad 10), .ref (ad 11), .ref (ad 12), .ref (ad 13), .ref (ad 14), .ref (ad 15), .ref (ad 16), .ref (ad 17), .int 0, .int 0, .int 0, .int 0])]) rfl ?_
  refine wp_front C 17 (L' := [(ad 0, true, .inr .long, List.replicate 16 (.long 0)), (ad 1, true, .inr .long, List.replicate 16 (.long 0)), (ad 2, true, .inr .long, List.replicate 16 (.long 0)), (ad 3, true, .inr (.object "com/example/trapeze/trapeze/core/Rational"), List.replicate 16 (.null)), (ad 7, true, .inr .int, List.replicate 16 (.int 0)), (ad 17, true, .inr .long, List.replicate 9 (.long 0)), (ad 16, true, .inr .int, List.replicate 8 (.int 0)), (ad 15, true, .inr (.object "com/example/trapeze/trapeze/core/Rational"), List.replicate 8 (.null)), (ad 14, true, .inr (.object "com/example/trapeze/trapeze/core/Rational"), List.replicate 8 (.null)), (ad 13, true, .inr (.object "com/example/trapeze/trapeze/core/Rational"), List.replicate 8 (.null)), (ad 12, true, .inr (.object "com/example/trapeze/trapeze/core/Rational"), List.replicate 8 (.null)), (ad 11, true, .inr .long, List.replicate 8 (.long 0)), (ad 10, true, .inr .long, List.replicate 8 (.long 0)), (ad 9, true, .inr .int, List.replicate 8 (.int 0)), (ad 8, true, .inr .int, List.replicate 8 (.int 0)), (ad 6, true, .inr (.object "com/example/trapeze/trapeze/core/Rational"), List.replicate 16 (.null)), (ad 5, true, .inr (.object "com/example/trapeze/trapeze/core/Rational"), List.replicate 16 (.null)), (ad 4, true, .inr (.object "com/example/trapeze/trapeze/core/Rational"), List.replicate 16 (.null)), (pa, true, .inl kP, [.ref (ad 0), .ref (ad 1), .ref (ad 2), .ref (ad 3), .ref (ad 4), .ref (ad 5), .ref (ad 6), .ref (ad 7), .ref (ad 8), .ref (ad 9), .ref (ad 10), .ref (ad 11), .ref (ad 12), .ref (ad 13), .ref (ad 14), .ref (ad 15), .ref (ad 16), .ref (ad 17), .int 0, .int 0, .int 0, .int 0])]) rfl ?_
  refine wp_front C 18 (L' := [(pa, true, .inl kP, [.ref (ad 0), .ref (ad 1), .ref (ad 2), .ref (ad 3), .ref (ad 4), .ref (ad 5), .ref (ad 6), .ref (ad 7), .ref (ad 8), .ref (ad 9), .ref (ad 10), .ref (ad 11), .ref (ad 12), .ref (ad 13), .ref (ad 14), .ref (ad 15), .ref (ad 16), .ref (ad 17), .int 0, .int 0, .int 0, .int 0]), (ad 0, true, .inr .long, List.replicate 16 (.long 0)), (ad 1, true, .inr .long, List.replicate 16 (.long 0)), (ad 2, true, .inr .long, List.replicate 16 (.long 0)), (ad 3, true, .inr (.object "com/example/trapeze/trapeze/core/Rational"), List.replicate 16 (.null)), (ad 7, true, .inr .int, List.replicate 16 (.int 0)), (ad 17, true, .inr .long, List.replicate 9 (.long 0)), (ad 16, true, .inr .int, List.replicate 8 (.int 0)), (ad 15, true, .inr (.object "com/example/trapeze/trapeze/core/Rational"), List.replicate 8 (.null)), (ad 14, true, .inr (.object "com/example/trapeze/trapeze/core/Rational"), List.replicate 8 (.null)), (ad 13, true, .inr (.object "com/example/trapeze/trapeze/core/Rational"), List.replicate 8 (.null)), (ad 12, true, .inr (.object "com/example/trapeze/trapeze/core/Rational"), List.replicate 8 (.null)), (ad 11, true, .inr .long, List.replicate 8 (.long 0)), (ad 10, true, .inr .long, List.replicate 8 (.long 0)), (ad 9, true, .inr .int, List.replicate 8 (.int 0)), (ad 8, true, .inr .int, List.replicate 8 (.int 0)), (ad 6, true, .inr (.object "com/example/trapeze/trapeze/core/Rational"), List.replicate 16 (.null)), (ad 5, true, .inr (.object "com/example/trapeze/trapeze/core/Rational"), List.replicate 16 (.null)), (ad 4, true, .inr (.object "com/example/trapeze/trapeze/core/Rational"), List.replicate 16 (.null))]) rfl ?_
  refine wp_virtual C (al := [.int lo, .int hi]) (rest := []) (L1 := [(ad 17, true, .inr .long, List.replicate 9 (.long 0)), (ad 16, true, .inr .int, List.replicate 8 (.int 0)), (ad 15, true, .inr (.object "com/example/trapeze/trapeze/core/Rational"), List.replicate 8 (.null)), (ad 14, true, .inr (.object "com/example/trapeze/trapeze/core/Rational"), List.replicate 8 (.null)), (ad 13, true, .inr (.object "com/example/trapeze/trapeze/core/Rational"), List.replicate 8 (.null)), (ad 12, true, .inr (.object "com/example/trapeze/trapeze/core/Rational"), List.replicate 8 (.null)), (ad 11, true, .inr .long, List.replicate 8 (.long 0)), (ad 10, true, .inr .long, List.replicate 8 (.long 0)), (ad 9, true, .inr .int, List.replicate 8 (.int 0)), (ad 8, true, .inr .int, List.replicate 8 (.int 0)), (ad 6, true, .inr (.object "com/example/trapeze/trapeze/core/Rational"), List.replicate 16 (.null)), (ad 5, true, .inr (.object "com/example/trapeze/trapeze/core/Rational"), List.replicate 16 (.null)), (ad 4, true, .inr (.object "com/example/trapeze/trapeze/core/Rational"), List.replicate 16 (.null))]) (W := 0) (cells' := 19) (slots' := 231) 33 74 0 (rm_clear l Z a0 hw pa ad lo hi) rfl rfl rfl (wd hw 64 rfl) (wd hw 65 rfl) (nf_self (wd hw 67 rfl)) (wd hw 67 rfl) (wd hw 66 rfl) (wd hw 68 rfl) (wd hw 17 rfl) (by decide) pd11 rfl rfl rfl rfl (by decide) (by decide) rfl rfl rfl (by decide) (by decide) (fun v L' hQ => ?_)
  obtain ⟨rfl, rfl⟩ := hQ
  show Wp K 19 231 [(pa, true, .inl kP, [.ref (ad 0), .ref (ad 1), .ref (ad 2), .ref (ad 3), .ref (ad 4), .ref (ad 5), .ref (ad 6), .ref (ad 7), .ref (ad 8), .ref (ad 9), .ref (ad 10), .ref (ad 11), .ref (ad 12), .ref (ad 13), .ref (ad 14), .ref (ad 15), .ref (ad 16), .ref (ad 17), .int 2, .int 0, .int 1, .int 1]), (ad 0, true, .inr .long, evs [evV lo 0, evV hi 1]), (ad 1, true, .inr .long, List.replicate 16 (.long 0)), (ad 2, true, .inr .long, List.replicate 16 (.long 0)), (ad 3, true, .inr (.object "com/example/trapeze/trapeze/core/Rational"), List.replicate 16 (.null)), (ad 7, true, .inr .int, List.replicate 16 (.int 0)), (ad 17, true, .inr .long, List.replicate 9 (.long 0)), (ad 16, true, .inr .int, List.replicate 8 (.int 0)), (ad 15, true, .inr (.object "com/example/trapeze/trapeze/core/Rational"), List.replicate 8 (.null)), (ad 14, true, .inr (.object "com/example/trapeze/trapeze/core/Rational"), List.replicate 8 (.null)), (ad 13, true, .inr (.object "com/example/trapeze/trapeze/core/Rational"), List.replicate 8 (.null)), (ad 12, true, .inr (.object "com/example/trapeze/trapeze/core/Rational"), List.replicate 8 (.null)), (ad 11, true, .inr .long, List.replicate 8 (.long 0)), (ad 10, true, .inr .long, List.replicate 8 (.long 0)), (ad 9, true, .inr .int, List.replicate 8 (.int 0)), (ad 8, true, .inr .int, List.replicate 8 (.int 0)), (ad 6, true, .inr (.object "com/example/trapeze/trapeze/core/Rational"), List.replicate 16 (.null)), (ad 5, true, .inr (.object "com/example/trapeze/trapeze/core/Rational"), List.replicate 16 (.null)), (ad 4, true, .inr (.object "com/example/trapeze/trapeze/core/Rational"), List.replicate 16 (.null))] 74 [.val (.int a), .val (.int b), .val (.int c), .val (.int d), .val (.int t), .val (.int ta), .val (.int tb), .val (.int lo), .val (.int hi), .val (.int tc), .val (.int td), .val (.ref pa), .unset, .unset, .unset] []
  refine wp_blk C 34 2 (pc' := 78) (ls' := [.val (.int a), .val (.int b), .val (.int c), .val (.int d), .val (.int t), .val (.int ta), .val (.int tb), .val (.int lo), .val (.int hi), .val (.int tc), .val (.int td), .val (.ref pa), .unset, .unset, .unset]) (st' := [.int tc, .ref pa]) rfl ?_
  refine wp_virtual C (al := [.int tc]) (rest := []) (L1 := [(ad 17, true, .inr .long, List.replicate 9 (.long 0)), (ad 16, true, .inr .int, List.replicate 8 (.int 0)), (ad 15, true, .inr (.object "com/example/trapeze/trapeze/core/Rational"), List.replicate 8 (.null)), (ad 14, true, .inr (.object "com/example/trapeze/trapeze/core/Rational"), List.replicate 8 (.null)), (ad 13, true, .inr (.object "com/example/trapeze/trapeze/core/Rational"), List.replicate 8 (.null)), (ad 12, true, .inr (.object "com/example/trapeze/trapeze/core/Rational"), List.replicate 8 (.null)), (ad 11, true, .inr .long, List.replicate 8 (.long 0)), (ad 10, true, .inr .long, List.replicate 8 (.long 0)), (ad 9, true, .inr .int, List.replicate 8 (.int 0)), (ad 8, true, .inr .int, List.replicate 8 (.int 0)), (ad 6, true, .inr (.object "com/example/trapeze/trapeze/core/Rational"), List.replicate 16 (.null)), (ad 5, true, .inr (.object "com/example/trapeze/trapeze/core/Rational"), List.replicate 16 (.null)), (ad 4, true, .inr (.object "com/example/trapeze/trapeze/core/Rational"), List.replicate 16 (.null))]) (W := 0) (cells' := 19) (slots' := 231) 36 81 0 (rm_bd l Z a0 hw pa ad [evV lo 0, evV hi 1] tc 2 0 rfl (by simp)) rfl rfl rfl (wd hw 87 rfl) (wd hw 78 rfl) (nf_self (wd hw 80 rfl)) (wd hw 80 rfl) (wd hw 79 rfl) (wd hw 81 rfl) (wd hw 17 rfl) (by decide) pd1 rfl rfl rfl rfl (by decide) (by decide) rfl rfl rfl (by decide) (by decide) (fun v L' hQ => ?_)
  obtain ⟨rfl, rfl⟩ := hQ
  show Wp K 19 231 [(pa, true, .inl kP, [.ref (ad 0), .ref (ad 1), .ref (ad 2), .ref (ad 3), .ref (ad 4), .ref (ad 5), .ref (ad 6), .ref (ad 7), .ref (ad 8), .ref (ad 9), .ref (ad 10), .ref (ad 11), .ref (ad 12), .ref (ad 13), .ref (ad 14), .ref (ad 15), .ref (ad 16), .ref (ad 17), .int 3, .int 0, .int 1, .int 1]), (ad 0, true, .inr .long, evs [evV lo 0, evV hi 1, evV tc 2]), (ad 1, true, .inr .long, List.replicate 16 (.long 0)), (ad 2, true, .inr .long, List.replicate 16 (.long 0)), (ad 3, true, .inr (.object "com/example/trapeze/trapeze/core/Rational"), List.replicate 16 (.null)), (ad 7, true, .inr .int, List.replicate 16 (.int 0)), (ad 17, true, .inr .long, List.replicate 9 (.long 0)), (ad 16, true, .inr .int, List.replicate 8 (.int 0)), (ad 15, true, .inr (.object "com/example/trapeze/trapeze/core/Rational"), List.replicate 8 (.null)), (ad 14, true, .inr (.object "com/example/trapeze/trapeze/core/Rational"), List.replicate 8 (.null)), (ad 13, true, .inr (.object "com/example/trapeze/trapeze/core/Rational"), List.replicate 8 (.null)), (ad 12, true, .inr (.object "com/example/trapeze/trapeze/core/Rational"), List.replicate 8 (.null)), (ad 11, true, .inr .long, List.replicate 8 (.long 0)), (ad 10, true, .inr .long, List.replicate 8 (.long 0)), (ad 9, true, .inr .int, List.replicate 8 (.int 0)), (ad 8, true, .inr .int, List.replicate 8 (.int 0)), (ad 6, true, .inr (.object "com/example/trapeze/trapeze/core/Rational"), List.replicate 16 (.null)), (ad 5, true, .inr (.object "com/example/trapeze/trapeze/core/Rational"), List.replicate 16 (.null)), (ad 4, true, .inr (.object "com/example/trapeze/trapeze/core/Rational"), List.replicate 16 (.null))] 81 [.val (.int a), .val (.int b), .val (.int c), .val (.int d), .val (.int t), .val (.int ta), .val (.int tb), .val (.int lo), .val (.int hi), .val (.int tc), .val (.int td), .val (.ref pa), .unset, .unset, .unset] []
  refine wp_blk C 37 2 (pc' := 85) (ls' := [.val (.int a), .val (.int b), .val (.int c), .val (.int d), .val (.int t), .val (.int ta), .val (.int tb), .val (.int lo), .val (.int hi), .val (.int tc), .val (.int td), .val (.ref pa), .unset, .unset, .unset]) (st' := [.int td, .ref pa]) rfl ?_
  refine wp_virtual C (al := [.int td]) (rest := []) (L1 := [(ad 17, true, .inr .long, List.replicate 9 (.long 0)), (ad 16, true, .inr .int, List.replicate 8 (.int 0)), (ad 15, true, .inr (.object "com/example/trapeze/trapeze/core/Rational"), List.replicate 8 (.null)), (ad 14, true, .inr (.object "com/example/trapeze/trapeze/core/Rational"), List.replicate 8 (.null)), (ad 13, true, .inr (.object "com/example/trapeze/trapeze/core/Rational"), List.replicate 8 (.null)), (ad 12, true, .inr (.object "com/example/trapeze/trapeze/core/Rational"), List.replicate 8 (.null)), (ad 11, true, .inr .long, List.replicate 8 (.long 0)), (ad 10, true, .inr .long, List.replicate 8 (.long 0)), (ad 9, true, .inr .int, List.replicate 8 (.int 0)), (ad 8, true, .inr .int, List.replicate 8 (.int 0)), (ad 6, true, .inr (.object "com/example/trapeze/trapeze/core/Rational"), List.replicate 16 (.null)), (ad 5, true, .inr (.object "com/example/trapeze/trapeze/core/Rational"), List.replicate 16 (.null)), (ad 4, true, .inr (.object "com/example/trapeze/trapeze/core/Rational"), List.replicate 16 (.null))]) (W := 0) (cells' := 19) (slots' := 231) 39 88 0 (rm_bd l Z a0 hw pa ad [evV lo 0, evV hi 1, evV tc 2] td 3 0 rfl (by simp)) rfl rfl rfl (wd hw 87 rfl) (wd hw 78 rfl) (nf_self (wd hw 80 rfl)) (wd hw 80 rfl) (wd hw 79 rfl) (wd hw 81 rfl) (wd hw 17 rfl) (by decide) pd1 rfl rfl rfl rfl (by decide) (by decide) rfl rfl rfl (by decide) (by decide) (fun v L' hQ => ?_)
  obtain ⟨rfl, rfl⟩ := hQ
  show Wp K 19 231 [(pa, true, .inl kP, [.ref (ad 0), .ref (ad 1), .ref (ad 2), .ref (ad 3), .ref (ad 4), .ref (ad 5), .ref (ad 6), .ref (ad 7), .ref (ad 8), .ref (ad 9), .ref (ad 10), .ref (ad 11), .ref (ad 12), .ref (ad 13), .ref (ad 14), .ref (ad 15), .ref (ad 16), .ref (ad 17), .int 4, .int 0, .int 1, .int 1]), (ad 0, true, .inr .long, evs [evV lo 0, evV hi 1, evV tc 2, evV td 3]), (ad 1, true, .inr .long, List.replicate 16 (.long 0)), (ad 2, true, .inr .long, List.replicate 16 (.long 0)), (ad 3, true, .inr (.object "com/example/trapeze/trapeze/core/Rational"), List.replicate 16 (.null)), (ad 7, true, .inr .int, List.replicate 16 (.int 0)), (ad 17, true, .inr .long, List.replicate 9 (.long 0)), (ad 16, true, .inr .int, List.replicate 8 (.int 0)), (ad 15, true, .inr (.object "com/example/trapeze/trapeze/core/Rational"), List.replicate 8 (.null)), (ad 14, true, .inr (.object "com/example/trapeze/trapeze/core/Rational"), List.replicate 8 (.null)), (ad 13, true, .inr (.object "com/example/trapeze/trapeze/core/Rational"), List.replicate 8 (.null)), (ad 12, true, .inr (.object "com/example/trapeze/trapeze/core/Rational"), List.replicate 8 (.null)), (ad 11, true, .inr .long, List.replicate 8 (.long 0)), (ad 10, true, .inr .long, List.replicate 8 (.long 0)), (ad 9, true, .inr .int, List.replicate 8 (.int 0)), (ad 8, true, .inr .int, List.replicate 8 (.int 0)), (ad 6, true, .inr (.object "com/example/trapeze/trapeze/core/Rational"), List.replicate 16 (.null)), (ad 5, true, .inr (.object "com/example/trapeze/trapeze/core/Rational"), List.replicate 16 (.null)), (ad 4, true, .inr (.object "com/example/trapeze/trapeze/core/Rational"), List.replicate 16 (.null))] 88 [.val (.int a), .val (.int b), .val (.int c), .val (.int d), .val (.int t), .val (.int ta), .val (.int tb), .val (.int lo), .val (.int hi), .val (.int tc), .val (.int td), .val (.ref pa), .unset, .unset, .unset] []
  refine wp_blk C 40 1 (pc' := 90) (ls' := [.val (.int a), .val (.int b), .val (.int c), .val (.int d), .val (.int t), .val (.int ta), .val (.int tb), .val (.int lo), .val (.int hi), .val (.int tc), .val (.int td), .val (.ref pa), .unset, .unset, .unset]) (st' := [.ref pa]) rfl ?_
  have hidx := evl_idx (ts := [lo, hi, tc, td]) hspan (by simp)
  refine wp_front C 7 (L' := [(ad 16, true, .inr .int, List.replicate 8 (.int 0)), (pa, true, .inl kP, [.ref (ad 0), .ref (ad 1), .ref (ad 2), .ref (ad 3), .ref (ad 4), .ref (ad 5), .ref (ad 6), .ref (ad 7), .ref (ad 8), .ref (ad 9), .ref (ad 10), .ref (ad 11), .ref (ad 12), .ref (ad 13), .ref (ad 14), .ref (ad 15), .ref (ad 16), .ref (ad 17), .int 4, .int 0, .int 1, .int 1]), (ad 0, true, .inr .long, evs [evV lo 0, evV hi 1, evV tc 2, evV td 3]), (ad 1, true, .inr .long, List.replicate 16 (.long 0)), (ad 2, true, .inr .long, List.replicate 16 (.long 0)), (ad 3, true, .inr (.object "com/example/trapeze/trapeze/core/Rational"), List.replicate 16 (.null)), (ad 7, true, .inr .int, List.replicate 16 (.int 0)), (ad 17, true, .inr .long, List.replicate 9 (.long 0)), (ad 15, true, .inr (.object "com/example/trapeze/trapeze/core/Rational"), List.replicate 8 (.null)), (ad 14, true, .inr (.object "com/example/trapeze/trapeze/core/Rational"), List.replicate 8 (.null)), (ad 13, true, .inr (.object "com/example/trapeze/trapeze/core/Rational"), List.replicate 8 (.null)), (ad 12, true, .inr (.object "com/example/trapeze/trapeze/core/Rational"), List.replicate 8 (.null)), (ad 11, true, .inr .long, List.replicate 8 (.long 0)), (ad 10, true, .inr .long, List.replicate 8 (.long 0)), (ad 9, true, .inr .int, List.replicate 8 (.int 0)), (ad 8, true, .inr .int, List.replicate 8 (.int 0)), (ad 6, true, .inr (.object "com/example/trapeze/trapeze/core/Rational"), List.replicate 16 (.null)), (ad 5, true, .inr (.object "com/example/trapeze/trapeze/core/Rational"), List.replicate 16 (.null)), (ad 4, true, .inr (.object "com/example/trapeze/trapeze/core/Rational"), List.replicate 16 (.null))]) rfl ?_
  refine wp_front C 12 (L' := [(ad 11, true, .inr .long, List.replicate 8 (.long 0)), (ad 16, true, .inr .int, List.replicate 8 (.int 0)), (pa, true, .inl kP, [.ref (ad 0), .ref (ad 1), .ref (ad 2), .ref (ad 3), .ref (ad 4), .ref (ad 5), .ref (ad 6), .ref (ad 7), .ref (ad 8), .ref (ad 9), .ref (ad 10), .ref (ad 11), .ref (ad 12), .ref (ad 13), .ref (ad 14), .ref (ad 15), .ref (ad 16), .ref (ad 17), .int 4, .int 0, .int 1, .int 1]), (ad 0, true, .inr .long, evs [evV lo 0, evV hi 1, evV tc 2, evV td 3]), (ad 1, true, .inr .long, List.replicate 16 (.long 0)), (ad 2, true, .inr .long, List.replicate 16 (.long 0)), (ad 3, true, .inr (.object "com/example/trapeze/trapeze/core/Rational"), List.replicate 16 (.null)), (ad 7, true, .inr .int, List.replicate 16 (.int 0)), (ad 17, true, .inr .long, List.replicate 9 (.long 0)), (ad 15, true, .inr (.object "com/example/trapeze/trapeze/core/Rational"), List.replicate 8 (.null)), (ad 14, true, .inr (.object "com/example/trapeze/trapeze/core/Rational"), List.replicate 8 (.null)), (ad 13, true, .inr (.object "com/example/trapeze/trapeze/core/Rational"), List.replicate 8 (.null)), (ad 12, true, .inr (.object "com/example/trapeze/trapeze/core/Rational"), List.replicate 8 (.null)), (ad 10, true, .inr .long, List.replicate 8 (.long 0)), (ad 9, true, .inr .int, List.replicate 8 (.int 0)), (ad 8, true, .inr .int, List.replicate 8 (.int 0)), (ad 6, true, .inr (.object "com/example/trapeze/trapeze/core/Rational"), List.replicate 16 (.null)), (ad 5, true, .inr (.object "com/example/trapeze/trapeze/core/Rational"), List.replicate 16 (.null)), (ad 4, true, .inr (.object "com/example/trapeze/trapeze/core/Rational"), List.replicate 16 (.null))]) rfl ?_
  refine wp_front C 13 (L' := [(ad 10, true, .inr .long, List.replicate 8 (.long 0)), (ad 11, true, .inr .long, List.replicate 8 (.long 0)), (ad 16, true, .inr .int, List.replicate 8 (.int 0)), (pa, true, .inl kP, [.ref (ad 0), .ref (ad 1), .ref (ad 2), .ref (ad 3), .ref (ad 4), .ref (ad 5), .ref (ad 6), .ref (ad 7), .ref (ad 8), .ref (ad 9), .ref (ad 10), .ref (ad 11), .ref (ad 12), .ref (ad 13), .ref (ad 14), .ref (ad 15), .ref (ad 16), .ref (ad 17), .int 4, .int 0, .int 1, .int 1]), (ad 0, true, .inr .long, evs [evV lo 0, evV hi 1, evV tc 2, evV td 3]), (ad 1, true, .inr .long, List.replicate 16 (.long 0)), (ad 2, true, .inr .long, List.replicate 16 (.long 0)), (ad 3, true, .inr (.object "com/example/trapeze/trapeze/core/Rational"), List.replicate 16 (.null)), (ad 7, true, .inr .int, List.replicate 16 (.int 0)), (ad 17, true, .inr .long, List.replicate 9 (.long 0)), (ad 15, true, .inr (.object "com/example/trapeze/trapeze/core/Rational"), List.replicate 8 (.null)), (ad 14, true, .inr (.object "com/example/trapeze/trapeze/core/Rational"), List.replicate 8 (.null)), (ad 13, true, .inr (.object "com/example/trapeze/trapeze/core/Rational"), List.replicate 8 (.null)), (ad 12, true, .inr (.object "com/example/trapeze/trapeze/core/Rational"), List.replicate 8 (.null)), (ad 9, true, .inr .int, List.replicate 8 (.int 0)), (ad 8, true, .inr .int, List.replicate 8 (.int 0)), (ad 6, true, .inr (.object "com/example/trapeze/trapeze/core/Rational"), List.replicate 16 (.null)), (ad 5, true, .inr (.object "com/example/trapeze/trapeze/core/Rational"), List.replicate 16 (.null)), (ad 4, true, .inr (.object "com/example/trapeze/trapeze/core/Rational"), List.replicate 16 (.null))]) rfl ?_
  refine wp_front C 14 (L' := [(ad 9, true, .inr .int, List.replicate 8 (.int 0)), (ad 10, true, .inr .long, List.replicate 8 (.long 0)), (ad 11, true, .inr .long, List.replicate 8 (.long 0)), (ad 16, true, .inr .int, List.replicate 8 (.int 0)), (pa, true, .inl kP, [.ref (ad 0), .ref (ad 1), .ref (ad 2), .ref (ad 3), .ref (ad 4), .ref (ad 5), .ref (ad 6), .ref (ad 7), .ref (ad 8), .ref (ad 9), .ref (ad 10), .ref (ad 11), .ref (ad 12), .ref (ad 13), .ref (ad 14), .ref (ad 15), .ref (ad 16), .ref (ad 17), .int 4, .int 0, .int 1, .int 1]), (ad 0, true, .inr .long, evs [evV lo 0, evV hi 1, evV tc 2, evV td 3]), (ad 1, true, .inr .long, List.replicate 16 (.long 0)), (ad 2, true, .inr .long, List.replicate 16 (.long 0)), (ad 3, true, .inr (.object "com/example/trapeze/trapeze/core/Rational"), List.replicate 16 (.null)), (ad 7, true, .inr .int, List.replicate 16 (.int 0)), (ad 17, true, .inr .long, List.replicate 9 (.long 0)), (ad 15, true, .inr (.object "com/example/trapeze/trapeze/core/Rational"), List.replicate 8 (.null)), (ad 14, true, .inr (.object "com/example/trapeze/trapeze/core/Rational"), List.replicate 8 (.null)), (ad 13, true, .inr (.object "com/example/trapeze/trapeze/core/Rational"), List.replicate 8 (.null)), (ad 12, true, .inr (.object "com/example/trapeze/trapeze/core/Rational"), List.replicate 8 (.null)), (ad 8, true, .inr .int, List.replicate 8 (.int 0)), (ad 6, true, .inr (.object "com/example/trapeze/trapeze/core/Rational"), List.replicate 16 (.null)), (ad 5, true, .inr (.object "com/example/trapeze/trapeze/core/Rational"), List.replicate 16 (.null)), (ad 4, true, .inr (.object "com/example/trapeze/trapeze/core/Rational"), List.replicate 16 (.null))]) rfl ?_
  refine wp_front C 15 (L' := [(ad 8, true, .inr .int, List.replicate 8 (.int 0)), (ad 9, true, .inr .int, List.replicate 8 (.int 0)), (ad 10, true, .inr .long, List.replicate 8 (.long 0)), (ad 11, true, .inr .long, List.replicate 8 (.long 0)), (ad 16, true, .inr .int, List.replicate 8 (.int 0)), (pa, true, .inl kP, [.ref (ad 0), .ref (ad 1), .ref (ad 2), .ref (ad 3), .ref (ad 4), .ref (ad 5), .ref (ad 6), .ref (ad 7), .ref (ad 8), .ref (ad 9), .ref (ad 10), .ref (ad 11), .ref (ad 12), .ref (ad 13), .ref (ad 14), .ref (ad 15), .ref (ad 16), .ref (ad 17), .int 4, .int 0, .int 1, .int 1]), (ad 0, true, .inr .long, evs [evV lo 0, evV hi 1, evV tc 2, evV td 3]), (ad 1, true, .inr .long, List.replicate 16 (.long 0)), (ad 2, true, .inr .long, List.replicate 16 (.long 0)), (ad 3, true, .inr (.object "com/example/trapeze/trapeze/core/Rational"), List.replicate 16 (.null)), (ad 7, true, .inr .int, List.replicate 16 (.int 0)), (ad 17, true, .inr .long, List.replicate 9 (.long 0)), (ad 15, true, .inr (.object "com/example/trapeze/trapeze/core/Rational"), List.replicate 8 (.null)), (ad 14, true, .inr (.object "com/example/trapeze/trapeze/core/Rational"), List.replicate 8 (.null)), (ad 13, true, .inr (.object "com/example/trapeze/trapeze/core/Rational"), List.replicate 8 (.null)), (ad 12, true, .inr (.object "com/example/trapeze/trapeze/core/Rational"), List.replicate 8 (.null)), (ad 6, true, .inr (.object "com/example/trapeze/trapeze/core/Rational"), List.replicate 16 (.null)), (ad 5, true, .inr (.object "com/example/trapeze/trapeze/core/Rational"), List.replicate 16 (.null)), (ad 4, true, .inr (.object "com/example/trapeze/trapeze/core/Rational"), List.replicate 16 (.null))]) rfl ?_
  refine wp_front C 10 (L' := [(ad 7, true, .inr .int, List.replicate 16 (.int 0)), (ad 8, true, .inr .int, List.replicate 8 (.int 0)), (ad 9, true, .inr .int, List.replicate 8 (.int 0)), (ad 10, true, .inr .long, List.replicate 8 (.long 0)), (ad 11, true, .inr .long, List.replicate 8 (.long 0)), (ad 16, true, .inr .int, List.replicate 8 (.int 0)), (pa, true, .inl kP, [.ref (ad 0), .ref (ad 1), .ref (ad 2), .ref (ad 3), .ref (ad 4), .ref (ad 5), .ref (ad 6), .ref (ad 7), .ref (ad 8), .ref (ad 9), .ref (ad 10), .ref (ad 11), .ref (ad 12), .ref (ad 13), .ref (ad 14), .ref (ad 15), .ref (ad 16), .ref (ad 17), .int 4, .int 0, .int 1, .int 1]), (ad 0, true, .inr .long, evs [evV lo 0, evV hi 1, evV tc 2, evV td 3]), (ad 1, true, .inr .long, List.replicate 16 (.long 0)), (ad 2, true, .inr .long, List.replicate 16 (.long 0)), (ad 3, true, .inr (.object "com/example/trapeze/trapeze/core/Rational"), List.replicate 16 (.null)), (ad 17, true, .inr .long, List.replicate 9 (.long 0)), (ad 15, true, .inr (.object "com/example/trapeze/trapeze/core/Rational"), List.replicate 8 (.null)), (ad 14, true, .inr (.object "com/example/trapeze/trapeze/core/Rational"), List.replicate 8 (.null)), (ad 13, true, .inr (.object "com/example/trapeze/trapeze/core/Rational"), List.replicate 8 (.null)), (ad 12, true, .inr (.object "com/example/trapeze/trapeze/core/Rational"), List.replicate 8 (.null)), (ad 6, true, .inr (.object "com/example/trapeze/trapeze/core/Rational"), List.replicate 16 (.null)), (ad 5, true, .inr (.object "com/example/trapeze/trapeze/core/Rational"), List.replicate 16 (.null)), (ad 4, true, .inr (.object "com/example/trapeze/trapeze/core/Rational"), List.replicate 16 (.null))]) rfl ?_
  refine wp_front C 9 (L' := [(ad 2, true, .inr .long, List.replicate 16 (.long 0)), (ad 7, true, .inr .int, List.replicate 16 (.int 0)), (ad 8, true, .inr .int, List.replicate 8 (.int 0)), (ad 9, true, .inr .int, List.replicate 8 (.int 0)), (ad 10, true, .inr .long, List.replicate 8 (.long 0)), (ad 11, true, .inr .long, List.replicate 8 (.long 0)), (ad 16, true, .inr .int, List.replicate 8 (.int 0)), (pa, true, .inl kP, [.ref (ad 0), .ref (ad 1), .ref (ad 2), .ref (ad 3), .ref (ad 4), .ref (ad 5), .ref (ad 6), .ref (ad 7), .ref (ad 8), .ref (ad 9), .ref (ad 10), .ref (ad 11), .ref (ad 12), .ref (ad 13), .ref (ad 14), .ref (ad 15), .ref (ad 16), .ref (ad 17), .int 4, .int 0, .int 1, .int 1]), (ad 0, true, .inr .long, evs [evV lo 0, evV hi 1, evV tc 2, evV td 3]), (ad 1, true, .inr .long, List.replicate 16 (.long 0)), (ad 3, true, .inr (.object "com/example/trapeze/trapeze/core/Rational"), List.replicate 16 (.null)), (ad 17, true, .inr .long, List.replicate 9 (.long 0)), (ad 15, true, .inr (.object "com/example/trapeze/trapeze/core/Rational"), List.replicate 8 (.null)), (ad 14, true, .inr (.object "com/example/trapeze/trapeze/core/Rational"), List.replicate 8 (.null)), (ad 13, true, .inr (.object "com/example/trapeze/trapeze/core/Rational"), List.replicate 8 (.null)), (ad 12, true, .inr (.object "com/example/trapeze/trapeze/core/Rational"), List.replicate 8 (.null)), (ad 6, true, .inr (.object "com/example/trapeze/trapeze/core/Rational"), List.replicate 16 (.null)), (ad 5, true, .inr (.object "com/example/trapeze/trapeze/core/Rational"), List.replicate 16 (.null)), (ad 4, true, .inr (.object "com/example/trapeze/trapeze/core/Rational"), List.replicate 16 (.null))]) rfl ?_
  refine wp_front C 9 (L' := [(ad 1, true, .inr .long, List.replicate 16 (.long 0)), (ad 2, true, .inr .long, List.replicate 16 (.long 0)), (ad 7, true, .inr .int, List.replicate 16 (.int 0)), (ad 8, true, .inr .int, List.replicate 8 (.int 0)), (ad 9, true, .inr .int, List.replicate 8 (.int 0)), (ad 10, true, .inr .long, List.replicate 8 (.long 0)), (ad 11, true, .inr .long, List.replicate 8 (.long 0)), (ad 16, true, .inr .int, List.replicate 8 (.int 0)), (pa, true, .inl kP, [.ref (ad 0), .ref (ad 1), .ref (ad 2), .ref (ad 3), .ref (ad 4), .ref (ad 5), .ref (ad 6), .ref (ad 7), .ref (ad 8), .ref (ad 9), .ref (ad 10), .ref (ad 11), .ref (ad 12), .ref (ad 13), .ref (ad 14), .ref (ad 15), .ref (ad 16), .ref (ad 17), .int 4, .int 0, .int 1, .int 1]), (ad 0, true, .inr .long, evs [evV lo 0, evV hi 1, evV tc 2, evV td 3]), (ad 3, true, .inr (.object "com/example/trapeze/trapeze/core/Rational"), List.replicate 16 (.null)), (ad 17, true, .inr .long, List.replicate 9 (.long 0)), (ad 15, true, .inr (.object "com/example/trapeze/trapeze/core/Rational"), List.replicate 8 (.null)), (ad 14, true, .inr (.object "com/example/trapeze/trapeze/core/Rational"), List.replicate 8 (.null)), (ad 13, true, .inr (.object "com/example/trapeze/trapeze/core/Rational"), List.replicate 8 (.null)), (ad 12, true, .inr (.object "com/example/trapeze/trapeze/core/Rational"), List.replicate 8 (.null)), (ad 6, true, .inr (.object "com/example/trapeze/trapeze/core/Rational"), List.replicate 16 (.null)), (ad 5, true, .inr (.object "com/example/trapeze/trapeze/core/Rational"), List.replicate 16 (.null)), (ad 4, true, .inr (.object "com/example/trapeze/trapeze/core/Rational"), List.replicate 16 (.null))]) rfl ?_
  refine wp_front C 9 (L' := [(ad 0, true, .inr .long, evs [evV lo 0, evV hi 1, evV tc 2, evV td 3]), (ad 1, true, .inr .long, List.replicate 16 (.long 0)), (ad 2, true, .inr .long, List.replicate 16 (.long 0)), (ad 7, true, .inr .int, List.replicate 16 (.int 0)), (ad 8, true, .inr .int, List.replicate 8 (.int 0)), (ad 9, true, .inr .int, List.replicate 8 (.int 0)), (ad 10, true, .inr .long, List.replicate 8 (.long 0)), (ad 11, true, .inr .long, List.replicate 8 (.long 0)), (ad 16, true, .inr .int, List.replicate 8 (.int 0)), (pa, true, .inl kP, [.ref (ad 0), .ref (ad 1), .ref (ad 2), .ref (ad 3), .ref (ad 4), .ref (ad 5), .ref (ad 6), .ref (ad 7), .ref (ad 8), .ref (ad 9), .ref (ad 10), .ref (ad 11), .ref (ad 12), .ref (ad 13), .ref (ad 14), .ref (ad 15), .ref (ad 16), .ref (ad 17), .int 4, .int 0, .int 1, .int 1]), (ad 3, true, .inr (.object "com/example/trapeze/trapeze/core/Rational"), List.replicate 16 (.null)), (ad 17, true, .inr .long, List.replicate 9 (.long 0)), (ad 15, true, .inr (.object "com/example/trapeze/trapeze/core/Rational"), List.replicate 8 (.null)), (ad 14, true, .inr (.object "com/example/trapeze/trapeze/core/Rational"), List.replicate 8 (.null)), (ad 13, true, .inr (.object "com/example/trapeze/trapeze/core/Rational"), List.replicate 8 (.null)), (ad 12, true, .inr (.object "com/example/trapeze/trapeze/core/Rational"), List.replicate 8 (.null)), (ad 6, true, .inr (.object "com/example/trapeze/trapeze/core/Rational"), List.replicate 16 (.null)), (ad 5, true, .inr (.object "com/example/trapeze/trapeze/core/Rational"), List.replicate 16 (.null)), (ad 4, true, .inr (.object "com/example/trapeze/trapeze/core/Rational"), List.replicate 16 (.null))]) rfl ?_
  refine wp_front C 9 (L' := [(pa, true, .inl kP, [.ref (ad 0), .ref (ad 1), .ref (ad 2), .ref (ad 3), .ref (ad 4), .ref (ad 5), .ref (ad 6), .ref (ad 7), .ref (ad 8), .ref (ad 9), .ref (ad 10), .ref (ad 11), .ref (ad 12), .ref (ad 13), .ref (ad 14), .ref (ad 15), .ref (ad 16), .ref (ad 17), .int 4, .int 0, .int 1, .int 1]), (ad 0, true, .inr .long, evs [evV lo 0, evV hi 1, evV tc 2, evV td 3]), (ad 1, true, .inr .long, List.replicate 16 (.long 0)), (ad 2, true, .inr .long, List.replicate 16 (.long 0)), (ad 7, true, .inr .int, List.replicate 16 (.int 0)), (ad 8, true, .inr .int, List.replicate 8 (.int 0)), (ad 9, true, .inr .int, List.replicate 8 (.int 0)), (ad 10, true, .inr .long, List.replicate 8 (.long 0)), (ad 11, true, .inr .long, List.replicate 8 (.long 0)), (ad 16, true, .inr .int, List.replicate 8 (.int 0)), (ad 3, true, .inr (.object "com/example/trapeze/trapeze/core/Rational"), List.replicate 16 (.null)), (ad 17, true, .inr .long, List.replicate 9 (.long 0)), (ad 15, true, .inr (.object "com/example/trapeze/trapeze/core/Rational"), List.replicate 8 (.null)), (ad 14, true, .inr (.object "com/example/trapeze/trapeze/core/Rational"), List.replicate 8 (.null)), (ad 13, true, .inr (.object "com/example/trapeze/trapeze/core/Rational"), List.replicate 8 (.null)), (ad 12, true, .inr (.object "com/example/trapeze/trapeze/core/Rational"), List.replicate 8 (.null)), (ad 6, true, .inr (.object "com/example/trapeze/trapeze/core/Rational"), List.replicate 16 (.null)), (ad 5, true, .inr (.object "com/example/trapeze/trapeze/core/Rational"), List.replicate 16 (.null)), (ad 4, true, .inr (.object "com/example/trapeze/trapeze/core/Rational"), List.replicate 16 (.null))]) rfl ?_
  refine wp_virtual C (al := []) (rest := []) (L1 := [(ad 3, true, .inr (.object "com/example/trapeze/trapeze/core/Rational"), List.replicate 16 (.null)), (ad 17, true, .inr .long, List.replicate 9 (.long 0)), (ad 15, true, .inr (.object "com/example/trapeze/trapeze/core/Rational"), List.replicate 8 (.null)), (ad 14, true, .inr (.object "com/example/trapeze/trapeze/core/Rational"), List.replicate 8 (.null)), (ad 13, true, .inr (.object "com/example/trapeze/trapeze/core/Rational"), List.replicate 8 (.null)), (ad 12, true, .inr (.object "com/example/trapeze/trapeze/core/Rational"), List.replicate 8 (.null)), (ad 6, true, .inr (.object "com/example/trapeze/trapeze/core/Rational"), List.replicate 16 (.null)), (ad 5, true, .inr (.object "com/example/trapeze/trapeze/core/Rational"), List.replicate 16 (.null)), (ad 4, true, .inr (.object "com/example/trapeze/trapeze/core/Rational"), List.replicate 16 (.null))]) (W := 0) (cells' := 19) (slots' := 231) 41 93 0 (rm_build l Z a0 hw pa ad (evl [lo, hi, tc, td] 0) 4 rfl (by simp [evl]) (by simp [evl]) (fun ys hp => seg_le (by rw [hp.length_eq]; simp [evl])) hidx) rfl rfl rfl (wd hw 88 rfl) (wd hw 89 rfl) (nf_self (wd hw 91 rfl)) (wd hw 91 rfl) (wd hw 90 rfl) (wd hw 92 rfl) (wd hw 17 rfl) (by decide) pd7 rfl rfl rfl rfl (by decide) (by decide) rfl rfl rfl (by decide) (by decide) (fun v L' hQ => ?_)
  obtain ⟨rfl, ys, S, cc, hp, hso, hS, hcc, rfl⟩ := hQ
  show Wp K 19 231 [(pa, true, .inl kP, [.ref (ad 0), .ref (ad 1), .ref (ad 2), .ref (ad 3), .ref (ad 4), .ref (ad 5), .ref (ad 6), .ref (ad 7), .ref (ad 8), .ref (ad 9), .ref (ad 10), .ref (ad 11), .ref (ad 12), .ref (ad 13), .ref (ad 14), .ref (ad 15), .ref (ad 16), .ref (ad 17), .int 4, .int cc, .int 1, .int 1]), (ad 0, true, .inr .long, evs ys), (ad 1, true, .inr .long, List.replicate 16 (.long 0)), (ad 2, true, .inr .long, List.replicate 16 (.long 0)), (ad 7, true, .inr .int, List.replicate 16 (.int 0)), (ad 8, true, .inr .int, seg8 (S.map Prod.fst)), (ad 9, true, .inr .int, seg8 (S.map Prod.snd)), (ad 10, true, .inr .long, List.replicate 8 (.long 0)), (ad 11, true, .inr .long, List.replicate 8 (.long 0)), (ad 16, true, .inr .int, List.replicate 8 (.int 0)), (ad 3, true, .inr (.object "com/example/trapeze/trapeze/core/Rational"), List.replicate 16 (.null)), (ad 17, true, .inr .long, List.replicate 9 (.long 0)), (ad 15, true, .inr (.object "com/example/trapeze/trapeze/core/Rational"), List.replicate 8 (.null)), (ad 14, true, .inr (.object "com/example/trapeze/trapeze/core/Rational"), List.replicate 8 (.null)), (ad 13, true, .inr (.object "com/example/trapeze/trapeze/core/Rational"), List.replicate 8 (.null)), (ad 12, true, .inr (.object "com/example/trapeze/trapeze/core/Rational"), List.replicate 8 (.null)), (ad 6, true, .inr (.object "com/example/trapeze/trapeze/core/Rational"), List.replicate 16 (.null)), (ad 5, true, .inr (.object "com/example/trapeze/trapeze/core/Rational"), List.replicate 16 (.null)), (ad 4, true, .inr (.object "com/example/trapeze/trapeze/core/Rational"), List.replicate 16 (.null))] 93 [.val (.int a), .val (.int b), .val (.int c), .val (.int d), .val (.int t), .val (.int ta), .val (.int tb), .val (.int lo), .val (.int hi), .val (.int tc), .val (.int td), .val (.ref pa), .unset, .unset, .unset] []
  obtain ⟨us, hu, hsd, hul⟩ := sort2 Ntc.1 Ntc.2 Ntd.1 Ntd.2
  have hts : ys.map timeV = us := times_sorted hspan (by simp) hp hso hu hsd
  rw [hts] at hS
  have hE : (S.map Prod.fst).Pairwise LeI := by rw [hS]; exact seg_fst_sorted _ hsd
  have hSl : S.length ≤ 3 := by rw [hS]; rcases seg_len us with q | q; omega; rw [q]; simp [seg]
  refine wp_blk C 42 2 (pc' := 97) (ls' := [.val (.int a), .val (.int b), .val (.int c), .val (.int d), .val (.int t), .val (.int ta), .val (.int tb), .val (.int lo), .val (.int hi), .val (.int tc), .val (.int td), .val (.ref pa), .unset, .unset, .unset]) (st' := [.int t, .ref pa]) rfl ?_
  refine wp_front C 5 (L' := [(ad 8, true, .inr .int, seg8 (S.map Prod.fst)), (pa, true, .inl kP, [.ref (ad 0), .ref (ad 1), .ref (ad 2), .ref (ad 3), .ref (ad 4), .ref (ad 5), .ref (ad 6), .ref (ad 7), .ref (ad 8), .ref (ad 9), .ref (ad 10), .ref (ad 11), .ref (ad 12), .ref (ad 13), .ref (ad 14), .ref (ad 15), .ref (ad 16), .ref (ad 17), .int 4, .int cc, .int 1, .int 1]), (ad 0, true, .inr .long, evs ys), (ad 1, true, .inr .long, List.replicate 16 (.long 0)), (ad 2, true, .inr .long, List.replicate 16 (.long 0)), (ad 7, true, .inr .int, List.replicate 16 (.int 0)), (ad 9, true, .inr .int, seg8 (S.map Prod.snd)), (ad 10, true, .inr .long, List.replicate 8 (.long 0)), (ad 11, true, .inr .long, List.replicate 8 (.long 0)), (ad 16, true, .inr .int, List.replicate 8 (.int 0)), (ad 3, true, .inr (.object "com/example/trapeze/trapeze/core/Rational"), List.replicate 16 (.null)), (ad 17, true, .inr .long, List.replicate 9 (.long 0)), (ad 15, true, .inr (.object "com/example/trapeze/trapeze/core/Rational"), List.replicate 8 (.null)), (ad 14, true, .inr (.object "com/example/trapeze/trapeze/core/Rational"), List.replicate 8 (.null)), (ad 13, true, .inr (.object "com/example/trapeze/trapeze/core/Rational"), List.replicate 8 (.null)), (ad 12, true, .inr (.object "com/example/trapeze/trapeze/core/Rational"), List.replicate 8 (.null)), (ad 6, true, .inr (.object "com/example/trapeze/trapeze/core/Rational"), List.replicate 16 (.null)), (ad 5, true, .inr (.object "com/example/trapeze/trapeze/core/Rational"), List.replicate 16 (.null)), (ad 4, true, .inr (.object "com/example/trapeze/trapeze/core/Rational"), List.replicate 16 (.null))]) rfl ?_
  refine wp_front C 1 (L' := [(pa, true, .inl kP, [.ref (ad 0), .ref (ad 1), .ref (ad 2), .ref (ad 3), .ref (ad 4), .ref (ad 5), .ref (ad 6), .ref (ad 7), .ref (ad 8), .ref (ad 9), .ref (ad 10), .ref (ad 11), .ref (ad 12), .ref (ad 13), .ref (ad 14), .ref (ad 15), .ref (ad 16), .ref (ad 17), .int 4, .int cc, .int 1, .int 1]), (ad 8, true, .inr .int, seg8 (S.map Prod.fst)), (ad 0, true, .inr .long, evs ys), (ad 1, true, .inr .long, List.replicate 16 (.long 0)), (ad 2, true, .inr .long, List.replicate 16 (.long 0)), (ad 7, true, .inr .int, List.replicate 16 (.int 0)), (ad 9, true, .inr .int, seg8 (S.map Prod.snd)), (ad 10, true, .inr .long, List.replicate 8 (.long 0)), (ad 11, true, .inr .long, List.replicate 8 (.long 0)), (ad 16, true, .inr .int, List.replicate 8 (.int 0)), (ad 3, true, .inr (.object "com/example/trapeze/trapeze/core/Rational"), List.replicate 16 (.null)), (ad 17, true, .inr .long, List.replicate 9 (.long 0)), (ad 15, true, .inr (.object "com/example/trapeze/trapeze/core/Rational"), List.replicate 8 (.null)), (ad 14, true, .inr (.object "com/example/trapeze/trapeze/core/Rational"), List.replicate 8 (.null)), (ad 13, true, .inr (.object "com/example/trapeze/trapeze/core/Rational"), List.replicate 8 (.null)), (ad 12, true, .inr (.object "com/example/trapeze/trapeze/core/Rational"), List.replicate 8 (.null)), (ad 6, true, .inr (.object "com/example/trapeze/trapeze/core/Rational"), List.replicate 16 (.null)), (ad 5, true, .inr (.object "com/example/trapeze/trapeze/core/Rational"), List.replicate 16 (.null)), (ad 4, true, .inr (.object "com/example/trapeze/trapeze/core/Rational"), List.replicate 16 (.null))]) rfl ?_
  refine wp_virtual C (al := [.int t]) (rest := []) (L1 := [(ad 0, true, .inr .long, evs ys), (ad 1, true, .inr .long, List.replicate 16 (.long 0)), (ad 2, true, .inr .long, List.replicate 16 (.long 0)), (ad 7, true, .inr .int, List.replicate 16 (.int 0)), (ad 9, true, .inr .int, seg8 (S.map Prod.snd)), (ad 10, true, .inr .long, List.replicate 8 (.long 0)), (ad 11, true, .inr .long, List.replicate 8 (.long 0)), (ad 16, true, .inr .int, List.replicate 8 (.int 0)), (ad 3, true, .inr (.object "com/example/trapeze/trapeze/core/Rational"), List.replicate 16 (.null)), (ad 17, true, .inr .long, List.replicate 9 (.long 0)), (ad 15, true, .inr (.object "com/example/trapeze/trapeze/core/Rational"), List.replicate 8 (.null)), (ad 14, true, .inr (.object "com/example/trapeze/trapeze/core/Rational"), List.replicate 8 (.null)), (ad 13, true, .inr (.object "com/example/trapeze/trapeze/core/Rational"), List.replicate 8 (.null)), (ad 12, true, .inr (.object "com/example/trapeze/trapeze/core/Rational"), List.replicate 8 (.null)), (ad 6, true, .inr (.object "com/example/trapeze/trapeze/core/Rational"), List.replicate 16 (.null)), (ad 5, true, .inr (.object "com/example/trapeze/trapeze/core/Rational"), List.replicate 16 (.null)), (ad 4, true, .inr (.object "com/example/trapeze/trapeze/core/Rational"), List.replicate 16 (.null))]) (W := 0) (cells' := 19) (slots' := 231) 44 100 0 (rm_lsb l Z a0 hw pa ad (S.map Prod.fst) t 4 cc (by rw [hcc]; simp) (by simp; omega) (sorted_at hE)) rfl rfl rfl (wd hw 121 rfl) (wd hw 122 rfl) (nf_self (wd hw 124 rfl)) (wd hw 124 rfl) (wd hw 123 rfl) (wd hw 125 rfl) (wd hw 17 rfl) (by decide) pd9 rfl rfl rfl rfl (by decide) (by decide) rfl rfl rfl (by decide) (by decide) (fun v L' hQ => ?_)
  obtain ⟨r0, m, rfl, hr0, hm, hlo2, hhi2, rfl⟩ := hQ
  show Wp K 19 231 [(pa, true, .inl kP, [.ref (ad 0), .ref (ad 1), .ref (ad 2), .ref (ad 3), .ref (ad 4), .ref (ad 5), .ref (ad 6), .ref (ad 7), .ref (ad 8), .ref (ad 9), .ref (ad 10), .ref (ad 11), .ref (ad 12), .ref (ad 13), .ref (ad 14), .ref (ad 15), .ref (ad 16), .ref (ad 17), .int 4, .int cc, .int 1, .int 1]), (ad 8, true, .inr .int, seg8 (S.map Prod.fst)), (ad 0, true, .inr .long, evs ys), (ad 1, true, .inr .long, List.replicate 16 (.long 0)), (ad 2, true, .inr .long, List.replicate 16 (.long 0)), (ad 7, true, .inr .int, List.replicate 16 (.int 0)), (ad 9, true, .inr .int, seg8 (S.map Prod.snd)), (ad 10, true, .inr .long, List.replicate 8 (.long 0)), (ad 11, true, .inr .long, List.replicate 8 (.long 0)), (ad 16, true, .inr .int, List.replicate 8 (.int 0)), (ad 3, true, .inr (.object "com/example/trapeze/trapeze/core/Rational"), List.replicate 16 (.null)), (ad 17, true, .inr .long, List.replicate 9 (.long 0)), (ad 15, true, .inr (.object "com/example/trapeze/trapeze/core/Rational"), List.replicate 8 (.null)), (ad 14, true, .inr (.object "com/example/trapeze/trapeze/core/Rational"), List.replicate 8 (.null)), (ad 13, true, .inr (.object "com/example/trapeze/trapeze/core/Rational"), List.replicate 8 (.null)), (ad 12, true, .inr (.object "com/example/trapeze/trapeze/core/Rational"), List.replicate 8 (.null)), (ad 6, true, .inr (.object "com/example/trapeze/trapeze/core/Rational"), List.replicate 16 (.null)), (ad 5, true, .inr (.object "com/example/trapeze/trapeze/core/Rational"), List.replicate 16 (.null)), (ad 4, true, .inr (.object "com/example/trapeze/trapeze/core/Rational"), List.replicate 16 (.null))] 100 [.val (.int a), .val (.int b), .val (.int c), .val (.int d), .val (.int t), .val (.int ta), .val (.int tb), .val (.int lo), .val (.int hi), .val (.int tc), .val (.int td), .val (.ref pa), .unset, .unset, .unset] [.int (r0 - 1)]
  rw [List.length_map] at hm
  obtain ⟨r, hr⟩ : ∃ z : Int32, z = r0 - 1 := ⟨_, rfl⟩
  rw [← hr]
  have Hr : r.toInt = (m : Int) - 1 := by rw [hr]; exact subI hr0 one32
  refine wp_blk C 45 2 (pc' := 104) (ls' := [.val (.int a), .val (.int b), .val (.int c), .val (.int d), .val (.int t), .val (.int ta), .val (.int tb), .val (.int lo), .val (.int hi), .val (.int tc), .val (.int td), .val (.ref pa), .val (.int r), .unset, .unset]) (st' := [.ref pa]) rfl ?_
  refine wp_virtual C (al := []) (rest := []) (L1 := [(ad 8, true, .inr .int, seg8 (S.map Prod.fst)), (ad 0, true, .inr .long, evs ys), (ad 1, true, .inr .long, List.replicate 16 (.long 0)), (ad 2, true, .inr .long, List.replicate 16 (.long 0)), (ad 7, true, .inr .int, List.replicate 16 (.int 0)), (ad 9, true, .inr .int, seg8 (S.map Prod.snd)), (ad 10, true, .inr .long, List.replicate 8 (.long 0)), (ad 11, true, .inr .long, List.replicate 8 (.long 0)), (ad 16, true, .inr .int, List.replicate 8 (.int 0)), (ad 3, true, .inr (.object "com/example/trapeze/trapeze/core/Rational"), List.replicate 16 (.null)), (ad 17, true, .inr .long, List.replicate 9 (.long 0)), (ad 15, true, .inr (.object "com/example/trapeze/trapeze/core/Rational"), List.replicate 8 (.null)), (ad 14, true, .inr (.object "com/example/trapeze/trapeze/core/Rational"), List.replicate 8 (.null)), (ad 13, true, .inr (.object "com/example/trapeze/trapeze/core/Rational"), List.replicate 8 (.null)), (ad 12, true, .inr (.object "com/example/trapeze/trapeze/core/Rational"), List.replicate 8 (.null)), (ad 6, true, .inr (.object "com/example/trapeze/trapeze/core/Rational"), List.replicate 16 (.null)), (ad 5, true, .inr (.object "com/example/trapeze/trapeze/core/Rational"), List.replicate 16 (.null)), (ad 4, true, .inr (.object "com/example/trapeze/trapeze/core/Rational"), List.replicate 16 (.null))]) (W := 0) (cells' := 19) (slots' := 231) 47 107 0 (rm_cnt l Z a0 hw pa ad 4 cc) rfl rfl rfl (wd hw 126 rfl) (wd hw 127 rfl) (nf_self (wd hw 129 rfl)) (wd hw 129 rfl) (wd hw 128 rfl) (wd hw 130 rfl) (wd hw 17 rfl) (by decide) pd12 rfl rfl rfl rfl (by decide) (by decide) rfl rfl rfl (by decide) (by decide) (fun v L' hQ => ?_)
  obtain ⟨rfl, rfl⟩ := hQ
  show Wp K 19 231 [(pa, true, .inl kP, [.ref (ad 0), .ref (ad 1), .ref (ad 2), .ref (ad 3), .ref (ad 4), .ref (ad 5), .ref (ad 6), .ref (ad 7), .ref (ad 8), .ref (ad 9), .ref (ad 10), .ref (ad 11), .ref (ad 12), .ref (ad 13), .ref (ad 14), .ref (ad 15), .ref (ad 16), .ref (ad 17), .int 4, .int cc, .int 1, .int 1]), (ad 8, true, .inr .int, seg8 (S.map Prod.fst)), (ad 0, true, .inr .long, evs ys), (ad 1, true, .inr .long, List.replicate 16 (.long 0)), (ad 2, true, .inr .long, List.replicate 16 (.long 0)), (ad 7, true, .inr .int, List.replicate 16 (.int 0)), (ad 9, true, .inr .int, seg8 (S.map Prod.snd)), (ad 10, true, .inr .long, List.replicate 8 (.long 0)), (ad 11, true, .inr .long, List.replicate 8 (.long 0)), (ad 16, true, .inr .int, List.replicate 8 (.int 0)), (ad 3, true, .inr (.object "com/example/trapeze/trapeze/core/Rational"), List.replicate 16 (.null)), (ad 17, true, .inr .long, List.replicate 9 (.long 0)), (ad 15, true, .inr (.object "com/example/trapeze/trapeze/core/Rational"), List.replicate 8 (.null)), (ad 14, true, .inr (.object "com/example/trapeze/trapeze/core/Rational"), List.replicate 8 (.null)), (ad 13, true, .inr (.object "com/example/trapeze/trapeze/core/Rational"), List.replicate 8 (.null)), (ad 12, true, .inr (.object "com/example/trapeze/trapeze/core/Rational"), List.replicate 8 (.null)), (ad 6, true, .inr (.object "com/example/trapeze/trapeze/core/Rational"), List.replicate 16 (.null)), (ad 5, true, .inr (.object "com/example/trapeze/trapeze/core/Rational"), List.replicate 16 (.null)), (ad 4, true, .inr (.object "com/example/trapeze/trapeze/core/Rational"), List.replicate 16 (.null))] 107 [.val (.int a), .val (.int b), .val (.int c), .val (.int d), .val (.int t), .val (.int ta), .val (.int tb), .val (.int lo), .val (.int hi), .val (.int tc), .val (.int td), .val (.ref pa), .val (.int r), .unset, .unset] [.int cc]
  refine wp_blk C 48 2 (pc' := 111) (ls' := [.val (.int a), .val (.int b), .val (.int c), .val (.int d), .val (.int t), .val (.int ta), .val (.int tb), .val (.int lo), .val (.int hi), .val (.int tc), .val (.int td), .val (.ref pa), .val (.int r), .val (.int cc), .unset]) (st' := [.int cc]) rfl ?_
  refine wp_ifz C 50 120 114 rfl rfl rfl (by decide) (fun h => absurd h (fun q : cc.toInt < (0 : Int32).toInt => by rw [zero32] at q; omega)) (fun _ => ?_)
  refine wp_blk C 51 2 (pc' := 117) (ls' := [.val (.int a), .val (.int b), .val (.int c), .val (.int d), .val (.int t), .val (.int ta), .val (.int tb), .val (.int lo), .val (.int hi), .val (.int tc), .val (.int td), .val (.ref pa), .val (.int r), .val (.int cc), .unset]) (st' := [.int 3, .int cc]) rfl ?_
  refine wp_icmp C 53 122 120 rfl rfl rfl (by decide) (fun _ => ?_) (fun h => absurd h (fun q : (3 : Int32).toInt < cc.toInt => by rw [show (3 : Int32).toInt = 3 from rfl] at q; omega))
  refine wp_blk C 54 2 (pc' := 125) (ls' := [.val (.int a), .val (.int b), .val (.int c), .val (.int d), .val (.int t), .val (.int ta), .val (.int tb), .val (.int lo), .val (.int hi), .val (.int tc), .val (.int td), .val (.ref pa), .val (.int r), .val (.int cc), .val (.int (-1))]) (st' := []) rfl ?_
  have J3 : ∀ e : Int32, e.toInt = ((min m 3 : Nat) : Int) - 1 → Wp K 19 231 [(pa, true, .inl kP, [.ref (ad 0), .ref (ad 1), .ref (ad 2), .ref (ad 3), .ref (ad 4), .ref (ad 5), .ref (ad 6), .ref (ad 7), .ref (ad 8), .ref (ad 9), .ref (ad 10), .ref (ad 11), .ref (ad 12), .ref (ad 13), .ref (ad 14), .ref (ad 15), .ref (ad 16), .ref (ad 17), .int 4, .int cc, .int 1, .int 1]), (ad 8, true, .inr .int, seg8 (S.map Prod.fst)), (ad 0, true, .inr .long, evs ys), (ad 1, true, .inr .long, List.replicate 16 (.long 0)), (ad 2, true, .inr .long, List.replicate 16 (.long 0)), (ad 7, true, .inr .int, List.replicate 16 (.int 0)), (ad 9, true, .inr .int, seg8 (S.map Prod.snd)), (ad 10, true, .inr .long, List.replicate 8 (.long 0)), (ad 11, true, .inr .long, List.replicate 8 (.long 0)), (ad 16, true, .inr .int, List.replicate 8 (.int 0)), (ad 3, true, .inr (.object "com/example/trapeze/trapeze/core/Rational"), List.replicate 16 (.null)), (ad 17, true, .inr .long, List.replicate 9 (.long 0)), (ad 15, true, .inr (.object "com/example/trapeze/trapeze/core/Rational"), List.replicate 8 (.null)), (ad 14, true, .inr (.object "com/example/trapeze/trapeze/core/Rational"), List.replicate 8 (.null)), (ad 13, true, .inr (.object "com/example/trapeze/trapeze/core/Rational"), List.replicate 8 (.null)), (ad 12, true, .inr (.object "com/example/trapeze/trapeze/core/Rational"), List.replicate 8 (.null)), (ad 6, true, .inr (.object "com/example/trapeze/trapeze/core/Rational"), List.replicate 16 (.null)), (ad 5, true, .inr (.object "com/example/trapeze/trapeze/core/Rational"), List.replicate 16 (.null)), (ad 4, true, .inr (.object "com/example/trapeze/trapeze/core/Rational"), List.replicate 16 (.null))] 184 [.val (.int a), .val (.int b), .val (.int c), .val (.int d), .val (.int t), .val (.int ta), .val (.int tb), .val (.int lo), .val (.int hi), .val (.int tc), .val (.int td), .val (.ref pa), .val (.int r), .val (.int cc), .val (.int e)] [] := by
    intro e he
    refine wp_blk C 85 2 (pc' := 188) (ls' := [.val (.int a), .val (.int b), .val (.int c), .val (.int d), .val (.int t), .val (.int ta), .val (.int tb), .val (.int lo), .val (.int hi), .val (.int tc), .val (.int td), .val (.ref pa), .val (.int r), .val (.int cc), .val (.int e)]) (st' := [.int e, .int r]) rfl ?_
    refine wp_icmp C 87 195 191 rfl rfl rfl (by decide) (fun h => absurd h (fun q : r ≠ e => q (Int32.toInt_inj.mp (by omega)))) (fun _ => ?_)
    refine wp_blk C 88 2 (pc' := 196) (ls' := [.val (.int a), .val (.int b), .val (.int c), .val (.int d), .val (.int t), .val (.int ta), .val (.int tb), .val (.int lo), .val (.int hi), .val (.int tc), .val (.int td), .val (.ref pa), .val (.int r), .val (.int cc), .val (.int e)]) (st' := [.int 1]) rfl ?_
    exact wp_retN C 90 rfl (Or.inl rfl) rfl (by decide) (by decide) (rfl)
  have J2 : ∀ e : Int32, e.toInt = ((min m 2 : Nat) : Int) - 1 → Wp K 19 231 [(pa, true, .inl kP, [.ref (ad 0), .ref (ad 1), .ref (ad 2), .ref (ad 3), .ref (ad 4), .ref (ad 5), .ref (ad 6), .ref (ad 7), .ref (ad 8), .ref (ad 9), .ref (ad 10), .ref (ad 11), .ref (ad 12), .ref (ad 13), .ref (ad 14), .ref (ad 15), .ref (ad 16), .ref (ad 17), .int 4, .int cc, .int 1, .int 1]), (ad 8, true, .inr .int, seg8 (S.map Prod.fst)), (ad 0, true, .inr .long, evs ys), (ad 1, true, .inr .long, List.replicate 16 (.long 0)), (ad 2, true, .inr .long, List.replicate 16 (.long 0)), (ad 7, true, .inr .int, List.replicate 16 (.int 0)), (ad 9, true, .inr .int, seg8 (S.map Prod.snd)), (ad 10, true, .inr .long, List.replicate 8 (.long 0)), (ad 11, true, .inr .long, List.replicate 8 (.long 0)), (ad 16, true, .inr .int, List.replicate 8 (.int 0)), (ad 3, true, .inr (.object "com/example/trapeze/trapeze/core/Rational"), List.replicate 16 (.null)), (ad 17, true, .inr .long, List.replicate 9 (.long 0)), (ad 15, true, .inr (.object "com/example/trapeze/trapeze/core/Rational"), List.replicate 8 (.null)), (ad 14, true, .inr (.object "com/example/trapeze/trapeze/core/Rational"), List.replicate 8 (.null)), (ad 13, true, .inr (.object "com/example/trapeze/trapeze/core/Rational"), List.replicate 8 (.null)), (ad 12, true, .inr (.object "com/example/trapeze/trapeze/core/Rational"), List.replicate 8 (.null)), (ad 6, true, .inr (.object "com/example/trapeze/trapeze/core/Rational"), List.replicate 16 (.null)), (ad 5, true, .inr (.object "com/example/trapeze/trapeze/core/Rational"), List.replicate 16 (.null)), (ad 4, true, .inr (.object "com/example/trapeze/trapeze/core/Rational"), List.replicate 16 (.null))] 164 [.val (.int a), .val (.int b), .val (.int c), .val (.int d), .val (.int t), .val (.int ta), .val (.int tb), .val (.int lo), .val (.int hi), .val (.int tc), .val (.int td), .val (.ref pa), .val (.int r), .val (.int cc), .val (.int e)] [] := by
    intro e he
    refine wp_blk C 75 2 (pc' := 167) (ls' := [.val (.int a), .val (.int b), .val (.int c), .val (.int d), .val (.int t), .val (.int ta), .val (.int tb), .val (.int lo), .val (.int hi), .val (.int tc), .val (.int td), .val (.ref pa), .val (.int r), .val (.int cc), .val (.int e)]) (st' := [.int 2, .int cc]) rfl ?_
    refine wp_icmp C 77 184 170 rfl rfl rfl (by decide) (fun (hq : (cc : Int32).toInt ≤ (2 : Int32).toInt) => ?_) (fun (hq : (2 : Int32).toInt < (cc : Int32).toInt) => ?_)
    · rw [show (2 : Int32).toInt = 2 from rfl] at hq
      exact J3 (e) (by omega)
    · rw [show (2 : Int32).toInt = 2 from rfl] at hq
      obtain ⟨v, hv⟩ : ∃ v, (S.map Prod.fst)[2]? = some v := ⟨_, List.getElem?_eq_getElem (by simp; omega)⟩
      refine wp_blk C 78 2 (pc' := 173) (ls' := [.val (.int a), .val (.int b), .val (.int c), .val (.int d), .val (.int t), .val (.int ta), .val (.int tb), .val (.int lo), .val (.int hi), .val (.int tc), .val (.int td), .val (.ref pa), .val (.int r), .val (.int cc), .val (.int e)]) (st' := [.int 2, .ref pa]) rfl ?_
      refine wp_virtual C (al := [.int 2]) (rest := []) (L1 := [(ad 0, true, .inr .long, evs ys), (ad 1, true, .inr .long, List.replicate 16 (.long 0)), (ad 2, true, .inr .long, List.replicate 16 (.long 0)), (ad 7, true, .inr .int, List.replicate 16 (.int 0)), (ad 9, true, .inr .int, seg8 (S.map Prod.snd)), (ad 10, true, .inr .long, List.replicate 8 (.long 0)), (ad 11, true, .inr .long, List.replicate 8 (.long 0)), (ad 16, true, .inr .int, List.replicate 8 (.int 0)), (ad 3, true, .inr (.object "com/example/trapeze/trapeze/core/Rational"), List.replicate 16 (.null)), (ad 17, true, .inr .long, List.replicate 9 (.long 0)), (ad 15, true, .inr (.object "com/example/trapeze/trapeze/core/Rational"), List.replicate 8 (.null)), (ad 14, true, .inr (.object "com/example/trapeze/trapeze/core/Rational"), List.replicate 8 (.null)), (ad 13, true, .inr (.object "com/example/trapeze/trapeze/core/Rational"), List.replicate 8 (.null)), (ad 12, true, .inr (.object "com/example/trapeze/trapeze/core/Rational"), List.replicate 8 (.null)), (ad 6, true, .inr (.object "com/example/trapeze/trapeze/core/Rational"), List.replicate 16 (.null)), (ad 5, true, .inr (.object "com/example/trapeze/trapeze/core/Rational"), List.replicate 16 (.null)), (ad 4, true, .inr (.object "com/example/trapeze/trapeze/core/Rational"), List.replicate 16 (.null))]) (W := 0) (cells' := 19) (slots' := 231) 80 176 0 (rm_start l Z a0 hw pa ad (S.map Prod.fst) 4 cc 2 v 2 rfl hv) rfl rfl rfl (wd hw 131 rfl) (wd hw 132 rfl) (nf_self (wd hw 134 rfl)) (wd hw 134 rfl) (wd hw 133 rfl) (wd hw 135 rfl) (wd hw 17 rfl) (by decide) pd9 rfl rfl rfl rfl (by decide) (by decide) rfl rfl rfl (by decide) (by decide) (fun v L' hQ => ?_)
      obtain ⟨rfl, rfl⟩ := hQ
      show Wp K 19 231 [(pa, true, .inl kP, [.ref (ad 0), .ref (ad 1), .ref (ad 2), .ref (ad 3), .ref (ad 4), .ref (ad 5), .ref (ad 6), .ref (ad 7), .ref (ad 8), .ref (ad 9), .ref (ad 10), .ref (ad 11), .ref (ad 12), .ref (ad 13), .ref (ad 14), .ref (ad 15), .ref (ad 16), .ref (ad 17), .int 4, .int cc, .int 1, .int 1]), (ad 8, true, .inr .int, seg8 (S.map Prod.fst)), (ad 0, true, .inr .long, evs ys), (ad 1, true, .inr .long, List.replicate 16 (.long 0)), (ad 2, true, .inr .long, List.replicate 16 (.long 0)), (ad 7, true, .inr .int, List.replicate 16 (.int 0)), (ad 9, true, .inr .int, seg8 (S.map Prod.snd)), (ad 10, true, .inr .long, List.replicate 8 (.long 0)), (ad 11, true, .inr .long, List.replicate 8 (.long 0)), (ad 16, true, .inr .int, List.replicate 8 (.int 0)), (ad 3, true, .inr (.object "com/example/trapeze/trapeze/core/Rational"), List.replicate 16 (.null)), (ad 17, true, .inr .long, List.replicate 9 (.long 0)), (ad 15, true, .inr (.object "com/example/trapeze/trapeze/core/Rational"), List.replicate 8 (.null)), (ad 14, true, .inr (.object "com/example/trapeze/trapeze/core/Rational"), List.replicate 8 (.null)), (ad 13, true, .inr (.object "com/example/trapeze/trapeze/core/Rational"), List.replicate 8 (.null)), (ad 12, true, .inr (.object "com/example/trapeze/trapeze/core/Rational"), List.replicate 8 (.null)), (ad 6, true, .inr (.object "com/example/trapeze/trapeze/core/Rational"), List.replicate 16 (.null)), (ad 5, true, .inr (.object "com/example/trapeze/trapeze/core/Rational"), List.replicate 16 (.null)), (ad 4, true, .inr (.object "com/example/trapeze/trapeze/core/Rational"), List.replicate 16 (.null))] 176 [.val (.int a), .val (.int b), .val (.int c), .val (.int d), .val (.int t), .val (.int ta), .val (.int tb), .val (.int lo), .val (.int hi), .val (.int tc), .val (.int td), .val (.ref pa), .val (.int r), .val (.int cc), .val (.int e)] [.int v]
      refine wp_blk C 81 1 (pc' := 178) (ls' := [.val (.int a), .val (.int b), .val (.int c), .val (.int d), .val (.int t), .val (.int ta), .val (.int tb), .val (.int lo), .val (.int hi), .val (.int tc), .val (.int td), .val (.ref pa), .val (.int r), .val (.int cc), .val (.int e)]) (st' := [.int t, .int v]) rfl ?_
      refine wp_icmp C 82 184 181 rfl rfl rfl (by decide) (fun (hr2 : (t : Int32).toInt ≤ (v : Int32).toInt) => ?_) (fun (hr2 : (v : Int32).toInt < (t : Int32).toInt) => ?_)
      · have : m ≤ 2 := by rcases Nat.lt_or_ge 2 m with q | q; have := hlo2 2 v q hv; omega; exact q
        exact J3 (e) (by omega)
      · refine wp_blk C 83 2 (pc' := 184) (ls' := [.val (.int a), .val (.int b), .val (.int c), .val (.int d), .val (.int t), .val (.int ta), .val (.int tb), .val (.int lo), .val (.int hi), .val (.int tc), .val (.int td), .val (.ref pa), .val (.int r), .val (.int cc), .val (.int 2)]) (st' := []) rfl ?_
        have : 2 < m := by rcases Nat.lt_or_ge 2 m with q | q; exact q; have := hhi2 2 v q hv; omega
        exact J3 2 (by rw [show (2 : Int32).toInt = 2 from rfl]; omega)
  have J1 : ∀ e : Int32, e.toInt = ((min m 1 : Nat) : Int) - 1 → Wp K 19 231 [(pa, true, .inl kP, [.ref (ad 0), .ref (ad 1), .ref (ad 2), .ref (ad 3), .ref (ad 4), .ref (ad 5), .ref (ad 6), .ref (ad 7), .ref (ad 8), .ref (ad 9), .ref (ad 10), .ref (ad 11), .ref (ad 12), .ref (ad 13), .ref (ad 14), .ref (ad 15), .ref (ad 16), .ref (ad 17), .int 4, .int cc, .int 1, .int 1]), (ad 8, true, .inr .int, seg8 (S.map Prod.fst)), (ad 0, true, .inr .long, evs ys), (ad 1, true, .inr .long, List.replicate 16 (.long 0)), (ad 2, true, .inr .long, List.replicate 16 (.long 0)), (ad 7, true, .inr .int, List.replicate 16 (.int 0)), (ad 9, true, .inr .int, seg8 (S.map Prod.snd)), (ad 10, true, .inr .long, List.replicate 8 (.long 0)), (ad 11, true, .inr .long, List.replicate 8 (.long 0)), (ad 16, true, .inr .int, List.replicate 8 (.int 0)), (ad 3, true, .inr (.object "com/example/trapeze/trapeze/core/Rational"), List.replicate 16 (.null)), (ad 17, true, .inr .long, List.replicate 9 (.long 0)), (ad 15, true, .inr (.object "com/example/trapeze/trapeze/core/Rational"), List.replicate 8 (.null)), (ad 14, true, .inr (.object "com/example/trapeze/trapeze/core/Rational"), List.replicate 8 (.null)), (ad 13, true, .inr (.object "com/example/trapeze/trapeze/core/Rational"), List.replicate 8 (.null)), (ad 12, true, .inr (.object "com/example/trapeze/trapeze/core/Rational"), List.replicate 8 (.null)), (ad 6, true, .inr (.object "com/example/trapeze/trapeze/core/Rational"), List.replicate 16 (.null)), (ad 5, true, .inr (.object "com/example/trapeze/trapeze/core/Rational"), List.replicate 16 (.null)), (ad 4, true, .inr (.object "com/example/trapeze/trapeze/core/Rational"), List.replicate 16 (.null))] 144 [.val (.int a), .val (.int b), .val (.int c), .val (.int d), .val (.int t), .val (.int ta), .val (.int tb), .val (.int lo), .val (.int hi), .val (.int tc), .val (.int td), .val (.ref pa), .val (.int r), .val (.int cc), .val (.int e)] [] := by
    intro e he
    refine wp_blk C 65 2 (pc' := 147) (ls' := [.val (.int a), .val (.int b), .val (.int c), .val (.int d), .val (.int t), .val (.int ta), .val (.int tb), .val (.int lo), .val (.int hi), .val (.int tc), .val (.int td), .val (.ref pa), .val (.int r), .val (.int cc), .val (.int e)]) (st' := [.int 1, .int cc]) rfl ?_
    refine wp_icmp C 67 164 150 rfl rfl rfl (by decide) (fun (hq : (cc : Int32).toInt ≤ (1 : Int32).toInt) => ?_) (fun (hq : (1 : Int32).toInt < (cc : Int32).toInt) => ?_)
    · rw [show (1 : Int32).toInt = 1 from rfl] at hq
      exact J2 (e) (by omega)
    · rw [show (1 : Int32).toInt = 1 from rfl] at hq
      obtain ⟨v, hv⟩ : ∃ v, (S.map Prod.fst)[1]? = some v := ⟨_, List.getElem?_eq_getElem (by simp; omega)⟩
      refine wp_blk C 68 2 (pc' := 153) (ls' := [.val (.int a), .val (.int b), .val (.int c), .val (.int d), .val (.int t), .val (.int ta), .val (.int tb), .val (.int lo), .val (.int hi), .val (.int tc), .val (.int td), .val (.ref pa), .val (.int r), .val (.int cc), .val (.int e)]) (st' := [.int 1, .ref pa]) rfl ?_
      refine wp_virtual C (al := [.int 1]) (rest := []) (L1 := [(ad 0, true, .inr .long, evs ys), (ad 1, true, .inr .long, List.replicate 16 (.long 0)), (ad 2, true, .inr .long, List.replicate 16 (.long 0)), (ad 7, true, .inr .int, List.replicate 16 (.int 0)), (ad 9, true, .inr .int, seg8 (S.map Prod.snd)), (ad 10, true, .inr .long, List.replicate 8 (.long 0)), (ad 11, true, .inr .long, List.replicate 8 (.long 0)), (ad 16, true, .inr .int, List.replicate 8 (.int 0)), (ad 3, true, .inr (.object "com/example/trapeze/trapeze/core/Rational"), List.replicate 16 (.null)), (ad 17, true, .inr .long, List.replicate 9 (.long 0)), (ad 15, true, .inr (.object "com/example/trapeze/trapeze/core/Rational"), List.replicate 8 (.null)), (ad 14, true, .inr (.object "com/example/trapeze/trapeze/core/Rational"), List.replicate 8 (.null)), (ad 13, true, .inr (.object "com/example/trapeze/trapeze/core/Rational"), List.replicate 8 (.null)), (ad 12, true, .inr (.object "com/example/trapeze/trapeze/core/Rational"), List.replicate 8 (.null)), (ad 6, true, .inr (.object "com/example/trapeze/trapeze/core/Rational"), List.replicate 16 (.null)), (ad 5, true, .inr (.object "com/example/trapeze/trapeze/core/Rational"), List.replicate 16 (.null)), (ad 4, true, .inr (.object "com/example/trapeze/trapeze/core/Rational"), List.replicate 16 (.null))]) (W := 0) (cells' := 19) (slots' := 231) 70 156 0 (rm_start l Z a0 hw pa ad (S.map Prod.fst) 4 cc 1 v 1 rfl hv) rfl rfl rfl (wd hw 131 rfl) (wd hw 132 rfl) (nf_self (wd hw 134 rfl)) (wd hw 134 rfl) (wd hw 133 rfl) (wd hw 135 rfl) (wd hw 17 rfl) (by decide) pd9 rfl rfl rfl rfl (by decide) (by decide) rfl rfl rfl (by decide) (by decide) (fun v L' hQ => ?_)
      obtain ⟨rfl, rfl⟩ := hQ
      show Wp K 19 231 [(pa, true, .inl kP, [.ref (ad 0), .ref (ad 1), .ref (ad 2), .ref (ad 3), .ref (ad 4), .ref (ad 5), .ref (ad 6), .ref (ad 7), .ref (ad 8), .ref (ad 9), .ref (ad 10), .ref (ad 11), .ref (ad 12), .ref (ad 13), .ref (ad 14), .ref (ad 15), .ref (ad 16), .ref (ad 17), .int 4, .int cc, .int 1, .int 1]), (ad 8, true, .inr .int, seg8 (S.map Prod.fst)), (ad 0, true, .inr .long, evs ys), (ad 1, true, .inr .long, List.replicate 16 (.long 0)), (ad 2, true, .inr .long, List.replicate 16 (.long 0)), (ad 7, true, .inr .int, List.replicate 16 (.int 0)), (ad 9, true, .inr .int, seg8 (S.map Prod.snd)), (ad 10, true, .inr .long, List.replicate 8 (.long 0)), (ad 11, true, .inr .long, List.replicate 8 (.long 0)), (ad 16, true, .inr .int, List.replicate 8 (.int 0)), (ad 3, true, .inr (.object "com/example/trapeze/trapeze/core/Rational"), List.replicate 16 (.null)), (ad 17, true, .inr .long, List.replicate 9 (.long 0)), (ad 15, true, .inr (.object "com/example/trapeze/trapeze/core/Rational"), List.replicate 8 (.null)), (ad 14, true, .inr (.object "com/example/trapeze/trapeze/core/Rational"), List.replicate 8 (.null)), (ad 13, true, .inr (.object "com/example/trapeze/trapeze/core/Rational"), List.replicate 8 (.null)), (ad 12, true, .inr (.object "com/example/trapeze/trapeze/core/Rational"), List.replicate 8 (.null)), (ad 6, true, .inr (.object "com/example/trapeze/trapeze/core/Rational"), List.replicate 16 (.null)), (ad 5, true, .inr (.object "com/example/trapeze/trapeze/core/Rational"), List.replicate 16 (.null)), (ad 4, true, .inr (.object "com/example/trapeze/trapeze/core/Rational"), List.replicate 16 (.null))] 156 [.val (.int a), .val (.int b), .val (.int c), .val (.int d), .val (.int t), .val (.int ta), .val (.int tb), .val (.int lo), .val (.int hi), .val (.int tc), .val (.int td), .val (.ref pa), .val (.int r), .val (.int cc), .val (.int e)] [.int v]
      refine wp_blk C 71 1 (pc' := 158) (ls' := [.val (.int a), .val (.int b), .val (.int c), .val (.int d), .val (.int t), .val (.int ta), .val (.int tb), .val (.int lo), .val (.int hi), .val (.int tc), .val (.int td), .val (.ref pa), .val (.int r), .val (.int cc), .val (.int e)]) (st' := [.int t, .int v]) rfl ?_
      refine wp_icmp C 72 164 161 rfl rfl rfl (by decide) (fun (hr2 : (t : Int32).toInt ≤ (v : Int32).toInt) => ?_) (fun (hr2 : (v : Int32).toInt < (t : Int32).toInt) => ?_)
      · have : m ≤ 1 := by rcases Nat.lt_or_ge 1 m with q | q; have := hlo2 1 v q hv; omega; exact q
        exact J2 (e) (by omega)
      · refine wp_blk C 73 2 (pc' := 164) (ls' := [.val (.int a), .val (.int b), .val (.int c), .val (.int d), .val (.int t), .val (.int ta), .val (.int tb), .val (.int lo), .val (.int hi), .val (.int tc), .val (.int td), .val (.ref pa), .val (.int r), .val (.int cc), .val (.int 1)]) (st' := []) rfl ?_
        have : 1 < m := by rcases Nat.lt_or_ge 1 m with q | q; exact q; have := hhi2 1 v q hv; omega
        exact J2 1 (by rw [show (1 : Int32).toInt = 1 from rfl]; omega)
  have he : (-1 : Int32).toInt = ((min m 0 : Nat) : Int) - 1 := by rw [show (-1 : Int32).toInt = -1 from rfl]; omega
  refine wp_blk C 56 1 (pc' := 127) (ls' := [.val (.int a), .val (.int b), .val (.int c), .val (.int d), .val (.int t), .val (.int ta), .val (.int tb), .val (.int lo), .val (.int hi), .val (.int tc), .val (.int td), .val (.ref pa), .val (.int r), .val (.int cc), .val (.int (-1))]) (st' := [.int cc]) rfl ?_
  refine wp_ifz C 57 144 130 rfl rfl rfl (by decide) (fun (hq : (cc : Int32).toInt ≤ (0 : Int32).toInt) => ?_) (fun (hq : (0 : Int32).toInt < (cc : Int32).toInt) => ?_)
  · rw [zero32] at hq
    exact J1 (-1) (by omega)
  · rw [zero32] at hq
    obtain ⟨v, hv⟩ : ∃ v, (S.map Prod.fst)[0]? = some v := ⟨_, List.getElem?_eq_getElem (by simp; omega)⟩
    refine wp_blk C 58 2 (pc' := 133) (ls' := [.val (.int a), .val (.int b), .val (.int c), .val (.int d), .val (.int t), .val (.int ta), .val (.int tb), .val (.int lo), .val (.int hi), .val (.int tc), .val (.int td), .val (.ref pa), .val (.int r), .val (.int cc), .val (.int (-1))]) (st' := [.int 0, .ref pa]) rfl ?_
    refine wp_virtual C (al := [.int 0]) (rest := []) (L1 := [(ad 0, true, .inr .long, evs ys), (ad 1, true, .inr .long, List.replicate 16 (.long 0)), (ad 2, true, .inr .long, List.replicate 16 (.long 0)), (ad 7, true, .inr .int, List.replicate 16 (.int 0)), (ad 9, true, .inr .int, seg8 (S.map Prod.snd)), (ad 10, true, .inr .long, List.replicate 8 (.long 0)), (ad 11, true, .inr .long, List.replicate 8 (.long 0)), (ad 16, true, .inr .int, List.replicate 8 (.int 0)), (ad 3, true, .inr (.object "com/example/trapeze/trapeze/core/Rational"), List.replicate 16 (.null)), (ad 17, true, .inr .long, List.replicate 9 (.long 0)), (ad 15, true, .inr (.object "com/example/trapeze/trapeze/core/Rational"), List.replicate 8 (.null)), (ad 14, true, .inr (.object "com/example/trapeze/trapeze/core/Rational"), List.replicate 8 (.null)), (ad 13, true, .inr (.object "com/example/trapeze/trapeze/core/Rational"), List.replicate 8 (.null)), (ad 12, true, .inr (.object "com/example/trapeze/trapeze/core/Rational"), List.replicate 8 (.null)), (ad 6, true, .inr (.object "com/example/trapeze/trapeze/core/Rational"), List.replicate 16 (.null)), (ad 5, true, .inr (.object "com/example/trapeze/trapeze/core/Rational"), List.replicate 16 (.null)), (ad 4, true, .inr (.object "com/example/trapeze/trapeze/core/Rational"), List.replicate 16 (.null))]) (W := 0) (cells' := 19) (slots' := 231) 60 136 0 (rm_start l Z a0 hw pa ad (S.map Prod.fst) 4 cc 0 v 0 rfl hv) rfl rfl rfl (wd hw 131 rfl) (wd hw 132 rfl) (nf_self (wd hw 134 rfl)) (wd hw 134 rfl) (wd hw 133 rfl) (wd hw 135 rfl) (wd hw 17 rfl) (by decide) pd9 rfl rfl rfl rfl (by decide) (by decide) rfl rfl rfl (by decide) (by decide) (fun v L' hQ => ?_)
    obtain ⟨rfl, rfl⟩ := hQ
    show Wp K 19 231 [(pa, true, .inl kP, [.ref (ad 0), .ref (ad 1), .ref (ad 2), .ref (ad 3), .ref (ad 4), .ref (ad 5), .ref (ad 6), .ref (ad 7), .ref (ad 8), .ref (ad 9), .ref (ad 10), .ref (ad 11), .ref (ad 12), .ref (ad 13), .ref (ad 14), .ref (ad 15), .ref (ad 16), .ref (ad 17), .int 4, .int cc, .int 1, .int 1]), (ad 8, true, .inr .int, seg8 (S.map Prod.fst)), (ad 0, true, .inr .long, evs ys), (ad 1, true, .inr .long, List.replicate 16 (.long 0)), (ad 2, true, .inr .long, List.replicate 16 (.long 0)), (ad 7, true, .inr .int, List.replicate 16 (.int 0)), (ad 9, true, .inr .int, seg8 (S.map Prod.snd)), (ad 10, true, .inr .long, List.replicate 8 (.long 0)), (ad 11, true, .inr .long, List.replicate 8 (.long 0)), (ad 16, true, .inr .int, List.replicate 8 (.int 0)), (ad 3, true, .inr (.object "com/example/trapeze/trapeze/core/Rational"), List.replicate 16 (.null)), (ad 17, true, .inr .long, List.replicate 9 (.long 0)), (ad 15, true, .inr (.object "com/example/trapeze/trapeze/core/Rational"), List.replicate 8 (.null)), (ad 14, true, .inr (.object "com/example/trapeze/trapeze/core/Rational"), List.replicate 8 (.null)), (ad 13, true, .inr (.object "com/example/trapeze/trapeze/core/Rational"), List.replicate 8 (.null)), (ad 12, true, .inr (.object "com/example/trapeze/trapeze/core/Rational"), List.replicate 8 (.null)), (ad 6, true, .inr (.object "com/example/trapeze/trapeze/core/Rational"), List.replicate 16 (.null)), (ad 5, true, .inr (.object "com/example/trapeze/trapeze/core/Rational"), List.replicate 16 (.null)), (ad 4, true, .inr (.object "com/example/trapeze/trapeze/core/Rational"), List.replicate 16 (.null))] 136 [.val (.int a), .val (.int b), .val (.int c), .val (.int d), .val (.int t), .val (.int ta), .val (.int tb), .val (.int lo), .val (.int hi), .val (.int tc), .val (.int td), .val (.ref pa), .val (.int r), .val (.int cc), .val (.int (-1))] [.int v]
    refine wp_blk C 61 1 (pc' := 138) (ls' := [.val (.int a), .val (.int b), .val (.int c), .val (.int d), .val (.int t), .val (.int ta), .val (.int tb), .val (.int lo), .val (.int hi), .val (.int tc), .val (.int td), .val (.ref pa), .val (.int r), .val (.int cc), .val (.int (-1))]) (st' := [.int t, .int v]) rfl ?_
    refine wp_icmp C 62 144 141 rfl rfl rfl (by decide) (fun (hr2 : (t : Int32).toInt ≤ (v : Int32).toInt) => ?_) (fun (hr2 : (v : Int32).toInt < (t : Int32).toInt) => ?_)
    · have : m ≤ 0 := by rcases Nat.lt_or_ge 0 m with q | q; have := hlo2 0 v q hv; omega; exact q
      exact J1 (-1) (by omega)
    · refine wp_blk C 63 2 (pc' := 144) (ls' := [.val (.int a), .val (.int b), .val (.int c), .val (.int d), .val (.int t), .val (.int ta), .val (.int tb), .val (.int lo), .val (.int hi), .val (.int tc), .val (.int td), .val (.ref pa), .val (.int r), .val (.int cc), .val (.int 0)]) (st' := []) rfl ?_
      have : 0 < m := by rcases Nat.lt_or_ge 0 m with q | q; exact q; have := hhi2 0 v q hv; omega
      exact J1 0 (by rw [show (0 : Int32).toInt = 0 from rfl]; omega)
set_option maxRecDepth 65536 in
set_option maxHeartbeats 40000000 in
theorem comes_1 {Post : Tables → Env → Array Value → State → Outcome → State → Prop} (hpost : ∀ tb e args s v u, (limb_1_1.after args s (.returned v) u = true ∧ limb_1_2.after args s (.returned v) u = true ∧ True) → FrameEnd s (.returned v) u (Jvm.fieldLocs frame_1_writes args s ++ Jvm.arrayLocs frame_1_arrays args s ++ Jvm.staticLocs frame_1_statics s) room_1.cells room_1.slots → Post tb e args s (.returned v) u) :
    ArmFor flags0 classFile x code maxLocals ret World_1 tables_1 room_1 Calls_1 rest_1 Pre_1 Post := by
  intro l hfl _ _ p e ha hc hk s m args below hf hA hF happ hP
  obtain ⟨hcalls, hrest, hpre⟩ := hP
  obtain ⟨-, -, -, hnamed, -, -, -, hat⟩ := (Spec.applies_iff hf).mp happ
  obtain ⟨hg, hn⟩ := and_e (Cond.before_iff.mp (show (Jvm.Cond.and given_1 narrow_1).before args s = true from hpre))
  obtain ⟨g0, g1⟩ := and_e hg
  obtain ⟨g1, g2⟩ := and_e g1
  obtain ⟨g2, g3⟩ := and_e g2
  obtain ⟨g3, g4⟩ := and_e g3
  obtain ⟨g4, g5⟩ := and_e g4
  obtain ⟨w0, w1, w2, w3, w4, rfl⟩ : ∃ w0 w1 w2 w3 w4 : Value, args = #[w0, w1, w2, w3, w4] := by
    have hs : args.size = 5 := by simpa [Cond.value, given_1] using g0
    obtain ⟨L⟩ := args
    match L, hs with
    | [w0, w1, w2, w3, w4], _ => exact ⟨w0, w1, w2, w3, w4, rfl⟩
  have hw := fun d (hd : d ∈ tables_1) => atoms_spec (ws := Jvm.Cond.code x code maxLocals ret :: tables_1) hat d (List.mem_cons_of_mem _ hd)
  obtain ⟨i0, e0⟩ := is_v g1
  obtain rfl : w0 = (.int i0) := Option.some.inj e0
  obtain ⟨i1, e1⟩ := is_v g2
  obtain rfl : w1 = (.int i1) := Option.some.inj e1
  obtain ⟨i2, e2⟩ := is_v g3
  obtain rfl : w2 = (.int i2) := Option.some.inj e2
  obtain ⟨i3, e3⟩ := is_v g4
  obtain rfl : w3 = (.int i3) := Option.some.inj e3
  obtain ⟨i4, e4⟩ := is_v g5
  obtain rfl : w4 = (.int i4) := Option.some.inj e4
  have hH : Hp s EL1 s.vm s.heap ([] ++ []) := ⟨⟨Nat.le_refl _, fun _ _ q => q⟩, fun p hp => (by cases hp), (by simp), (by simp), (by simp)⟩
  obtain ⟨n, o, h1, h2, h3, v, Lc, L', rfl, hG, -, hFr, hwm, -, hq⟩ := rm_law l s _ hw i0 i1 i2 i3 i4 [] p e ha hc hk s m _ below hf ((Spec.applies_iff_loose hf).mp happ).1 ⟨rfl, State.Warmed39.refl s, hH⟩ trivial
  obtain rfl := hG
  refine ⟨n, _, h1, h2, h3, hpost _ _ _ _ _ _ ⟨Cond.after_iff.mpr rfl, Cond.after_iff.mpr (eq_i res_at (Term.int_eval (1)) rfl), trivial⟩ ⟨hq.1, hwm rfl, (hq.2.2.2.sift fun y hy => Or.inr (hFr y hy)).mono (Nat.le_refl _) (Nat.le_refl _)⟩⟩
theorem main_1_1 : Claimed_1_1 := comes_1 fun _ _ _ _ _ _ h hF => ⟨h.1, hF⟩
theorem main_1_2 : Claimed_1_2 := comes_1 fun _ _ _ _ _ _ h hF => ⟨h.2.1, hF⟩
end Jvm.Pilot.@@N@@
namespace Jvm.Pilot.@@N@@
open Jvm Jvm.ClassFile Sem Op Lib Jvm.Free Jvm.Stand Jvm.Pilot.@@N@@.Jvm.D
/-! MADE BY PROGRAM (witnessworld.py) out of the Statement's table words and the real class files: 17 classes; the members and pool entries that the words name. The judged class is class 1, her method 3. -/
namespace start1
open Jvm.ClassFile
def u (s : String) : CpInfo := .utf8 (stringToUtf16 s)
/-- a pool by its gaps: so many unusable entries, then the entry; so many at the end -/
def gap : Nat → List CpInfo → List CpInfo
  | 0, r => r
  | n + 1, r => .unusable :: gap n r
def poolList (es : List (Nat × CpInfo)) (last : Nat) : List CpInfo := es.foldr (fun e r => gap e.1 (e.2 :: r)) (gap last [])
def pool (es : List (Nat × CpInfo)) (last : Nat) : Array CpInfo := ⟨poolList es last⟩
def fileOf (pool : Array CpInfo) (this : Nat) (attrs : Array Attribute := #[]) (ms : Array MethodInfo := #[]) (fl : Nat := 33) (sup : Nat := 0) (ifs : Array Nat := #[]) (fds : Array FieldInfo := #[]) : ClassFile where
  minorVersion := 0
  majorVersion := 65
  constantPool := pool
  accessFlags := fl
  thisClass := this
  superClass := sup
  interfaces := ifs
  fields := fds
  methods := ms
  attributes := attrs
def plain (name : String) (sup : Option ClassId) : Class where
  name := name
  kind := .ordinary
  loader := none
  accessFlags := 33
  super := sup
  interfaces := #[]
  cf := none
  fields := #[]
  methods := #[]
  instanceTypes := #[]
  staticTypes := #[]
  resolved := #[]
  callSites := []
  init := .initialized
  statics := none
  mirror := none

def pool0 : Array CpInfo := pool [(5, u "<init>"), (0, u "()V"), (1, .class_ 10), (1, u "java/lang/Object")] 113

def k0c0 : Code := { maxStack := 0, maxLocals := 1, code := object_method_1_code, exceptionTable := #[], attributes := #[] }
def k0m0 : Method := { name := "<init>", desc := "()V", sig := { parameters := [], returnType := none }, accessFlags := 1, code := some k0c0 }
/-- java/lang/Object -/
def k0 : Class := { plain "java/lang/Object" none with
  accessFlags := 33
  interfaces := #[]
  cf := some (fileOf pool0 8 #[] #[{ accessFlags := 1, nameIndex := 5, descriptorIndex := 6, attributes := #[] }] 33 0 #[] #[])
  fields := #[]
  methods := #[k0m0]
  instanceTypes := #[]
  staticTypes := #[]
  resolved := Array.replicate 124 none
  statics := none }

def pool1 : Array CpInfo := pool [(2, .class_ 4), (0, .nameAndType 5 6), (0, u "java/lang/Object"), (0, u "<init>"), (0, u "()V"), (0, .integer 1000000001), (0, .methodref 9 10), (0, .class_ 11), (0, .nameAndType 12 13), (0, u "java/lang/Math"), (0, u "min"), (0, u "(II)I"), (0, .methodref 9 15), (0, .nameAndType 16 13), (0, u "max"), (0, .methodref 18 19), (0, .class_ 20), (0, .nameAndType 21 22), (0, u "com/example/trapeze/trapeze/scheduling/ProfileLastStartingBeforePinLaw"), (0, u "time"), (0, u "(I)I"), (0, .methodref 18 24), (0, .nameAndType 25 26), (0, u "clamp"), (0, u "(III)I"), (0, .class_ 28), (0, u "com/example/trapeze/trapeze/scheduling/Profile"), (0, .methodref 27 3), (0, .methodref 27 31), (0, .nameAndType 32 33), (0, u "clear"), (0, u "(II)V"), (0, .methodref 27 35), (0, .nameAndType 36 37), (0, u "addBoundary"), (0, u "(I)V"), (0, .methodref 27 39), (0, .nameAndType 40 6), (0, u "build"), (0, .methodref 27 42), (0, .nameAndType 43 22), (0, u "lastStartingBefore"), (0, .methodref 27 45), (0, .nameAndType 46 47), (0, u "segmentCount"), (0, u "()I"), (0, .methodref 27 49), (0, .nameAndType 50 22), (0, u "start"), (2, u "law"), (0, u "(IIIII)Z")] 3

def k1m0 : Method := { name := "<init>", desc := "()V", sig := { parameters := [], returnType := none }, accessFlags := 1, code := none }
def k1c1 : Code := { maxStack := 2, maxLocals := 1, code := method_2_code, exceptionTable := #[], attributes := #[] }
def k1m1 : Method := { name := "time", desc := "(I)I", sig := { parameters := [.int], returnType := some .int }, accessFlags := 10, code := some k1c1 }
def k1c2 : Code := { maxStack := 3, maxLocals := 3, code := method_3_code, exceptionTable := #[], attributes := #[] }
def k1m2 : Method := { name := "clamp", desc := "(III)I", sig := { parameters := [.int, .int, .int], returnType := some .int }, accessFlags := 10, code := some k1c2 }
def k1c3 : Code := { maxStack := 3, maxLocals := 15, code := code, exceptionTable := #[], attributes := #[] }
def k1m3 : Method := { name := "law", desc := "(IIIII)Z", sig := { parameters := [.int, .int, .int, .int, .int], returnType := some .boolean }, accessFlags := 9, code := some k1c3 }
/-- com/example/trapeze/trapeze/scheduling/ProfileLastStartingBeforePinLaw -/
def k1 : Class := { plain "com/example/trapeze/trapeze/scheduling/ProfileLastStartingBeforePinLaw" (some 0) with
  accessFlags := 49
  interfaces := #[]
  cf := some (fileOf pool1 18 #[] #[{ accessFlags := 1, nameIndex := 5, descriptorIndex := 6, attributes := #[] }, { accessFlags := 10, nameIndex := 21, descriptorIndex := 22, attributes := #[] }, { accessFlags := 10, nameIndex := 25, descriptorIndex := 26, attributes := #[] }, { accessFlags := 9, nameIndex := 53, descriptorIndex := 54, attributes := #[] }] 49 2 #[] #[])
  fields := #[]
  methods := #[k1m0, k1m1, k1m2, k1m3]
  instanceTypes := #[]
  staticTypes := #[]
  resolved := Array.replicate 58 none
  statics := none }

def pool2 : Array CpInfo := pool [(1, .class_ 2), (0, u "java/lang/Math"), (1, .class_ 6), (1, u "java/lang/Object"), (0, u "<init>"), (0, u "()V"), (89, .class_ 100), (1, u "java/lang/Math$RandomNumberGeneratorHolder"), (71, u "negativeZeroFloatBits"), (0, u "J"), (2, u "negativeZeroDoubleBits"), (21, u "max"), (2, u "min"), (43, u "$assertionsDisabled"), (0, u "Z"), (88, u "(II)I"), (2, u "twoToTheDoubleScaleDown"), (0, u "D"), (4, u "twoToTheDoubleScaleUp"), (9, u "E"), (3, u "PI"), (2, u "TAU"), (2, u "DEGREES_TO_RADIANS"), (0, u "RADIANS_TO_DEGREES")] 94

def k2m0 : Method := { name := "<init>", desc := "()V", sig := { parameters := [], returnType := none }, accessFlags := 2, code := none }
def k2c1 : Code := { maxStack := 2, maxLocals := 2, code := jdk_29_method_65_code, exceptionTable := #[], attributes := #[] }
def k2m1 : Method := { name := "max", desc := "(II)I", sig := { parameters := [.int, .int], returnType := some .int }, accessFlags := 9, code := some k2c1 }
def k2c2 : Code := { maxStack := 2, maxLocals := 2, code := jdk_29_method_69_code, exceptionTable := #[], attributes := #[] }
def k2m2 : Method := { name := "min", desc := "(II)I", sig := { parameters := [.int, .int], returnType := some .int }, accessFlags := 9, code := some k2c2 }
/-- java/lang/Math -/
def k2 : Class := { plain "java/lang/Math" (some 0) with
  accessFlags := 49
  interfaces := #[]
  cf := some (fileOf pool2 1 #[.nestMembers #[98]] #[{ accessFlags := 2, nameIndex := 7, descriptorIndex := 8, attributes := #[] }, { accessFlags := 9, nameIndex := 198, descriptorIndex := 335, attributes := #[] }, { accessFlags := 9, nameIndex := 201, descriptorIndex := 335, attributes := #[] }] 49 4 #[] #[{ accessFlags := 25, nameIndex := 354, descriptorIndex := 339, attributes := #[] }, { accessFlags := 25, nameIndex := 358, descriptorIndex := 339, attributes := #[] }, { accessFlags := 25, nameIndex := 361, descriptorIndex := 339, attributes := #[] }, { accessFlags := 26, nameIndex := 364, descriptorIndex := 339, attributes := #[] }, { accessFlags := 26, nameIndex := 365, descriptorIndex := 339, attributes := #[] }, { accessFlags := 26, nameIndex := 172, descriptorIndex := 173, attributes := #[] }, { accessFlags := 26, nameIndex := 176, descriptorIndex := 173, attributes := #[] }, { accessFlags := 8, nameIndex := 344, descriptorIndex := 339, attributes := #[] }, { accessFlags := 8, nameIndex := 338, descriptorIndex := 339, attributes := #[] }, { accessFlags := 4120, nameIndex := 245, descriptorIndex := 246, attributes := #[] }])
  fields := #[{ name := "E", type := .double, accessFlags := 25, slot := 0, constantValue := 0 }, { name := "PI", type := .double, accessFlags := 25, slot := 1, constantValue := 0 }, { name := "TAU", type := .double, accessFlags := 25, slot := 2, constantValue := 0 }, { name := "DEGREES_TO_RADIANS", type := .double, accessFlags := 26, slot := 3, constantValue := 0 }, { name := "RADIANS_TO_DEGREES", type := .double, accessFlags := 26, slot := 4, constantValue := 0 }, { name := "negativeZeroFloatBits", type := .long, accessFlags := 26, slot := 5, constantValue := 0 }, { name := "negativeZeroDoubleBits", type := .long, accessFlags := 26, slot := 6, constantValue := 0 }, { name := "twoToTheDoubleScaleUp", type := .double, accessFlags := 8, slot := 7, constantValue := 0 }, { name := "twoToTheDoubleScaleDown", type := .double, accessFlags := 8, slot := 8, constantValue := 0 }, { name := "$assertionsDisabled", type := .boolean, accessFlags := 4120, slot := 9, constantValue := 0 }]
  methods := #[k2m0, k2m1, k2m2]
  instanceTypes := #[]
  staticTypes := #[.double, .double, .double, .double, .double, .long, .long, .double, .double, .boolean]
  resolved := Array.replicate 460 none
  statics := none }

def pool3 : Array CpInfo := pool [(1, .methodref 2 3), (0, .class_ 4), (0, .nameAndType 5 6), (0, u "java/lang/Object"), (0, u "<init>"), (0, u "()V"), (0, .fieldref 8 9), (0, .class_ 10), (0, .nameAndType 11 12), (0, u "com/example/trapeze/trapeze/scheduling/Profile"), (0, u "events"), (0, u "[J"), (0, .fieldref 8 14), (0, .nameAndType 15 12), (0, u "leastDeltas"), (0, .fieldref 8 17), (0, .nameAndType 18 12), (0, u "greatestDeltas"), (0, .class_ 20), (0, u "com/example/trapeze/trapeze/core/Rational"), (0, .fieldref 8 22), (0, .nameAndType 23 24), (0, u "leastIntercepts"), (0, u "[Lcom/example/trapeze/trapeze/core/Rational;"), (0, .fieldref 8 26), (0, .nameAndType 27 24), (0, u "leastSlopes"), (0, .fieldref 8 29), (0, .nameAndType 30 24), (0, u "greatestIntercepts"), (0, .fieldref 8 32), (0, .nameAndType 33 24), (0, u "greatestSlopes"), (0, .fieldref 8 35), (0, .nameAndType 36 37), (0, u "runningDeltas"), (0, u "[I"), (0, .fieldref 8 39), (0, .nameAndType 40 37), (0, u "segmentStarts"), (0, .fieldref 8 42), (0, .nameAndType 43 37), (0, u "segmentEnds"), (0, .fieldref 8 45), (0, .nameAndType 46 12), (0, u "wholeLeasts"), (0, .fieldref 8 48), (0, .nameAndType 49 12), (0, u "wholeGreatests"), (0, .fieldref 8 51), (0, .nameAndType 52 24), (0, u "leastAtStarts"), (0, .fieldref 8 54), (0, .nameAndType 55 24), (0, u "leastAtEnds"), (0, .fieldref 8 57), (0, .nameAndType 58 24), (0, u "greatestAtStarts"), (0, .fieldref 8 60), (0, .nameAndType 61 24), (0, u "greatestAtEnds"), (0, .fieldref 8 63), (0, .nameAndType 64 37), (0, u "segmentRunning"), (0, .fieldref 8 66), (0, .nameAndType 67 12), (0, u "leastEnergyBefore"), (0, .fieldref 8 69), (0, .nameAndType 70 71), (0, u "eventCount"), (0, u "I"), (0, .fieldref 8 73), (0, .nameAndType 74 71), (0, u "segmentCount"), (0, .fieldref 8 76), (0, .nameAndType 77 78), (0, u "whole"), (0, u "Z"), (0, .fieldref 8 80), (0, .nameAndType 81 78), (0, u "flat"), (0, .methodref 8 83), (0, .nameAndType 84 85), (0, u "addBoundary"), (0, u "(I)V"), (0, .methodref 8 87), (0, .nameAndType 88 89), (0, u "addEvent"), (0, u "(IJJI)V"), (23, .methodref 114 115), (0, .class_ 116), (0, .nameAndType 117 118), (0, u "java/util/Arrays"), (0, u "sort"), (0, u "([JII)V"), (0, .methodref 8 120), (0, .nameAndType 121 6), (0, u "sweepWhole"), (3, .methodref 8 126), (0, .nameAndType 127 128), (0, u "timeOf"), (0, u "(J)I"), (0, .methodref 8 130), (0, .nameAndType 131 132), (0, u "addSegment"), (0, u "(III)V"), (25, u "(I)I"), (13, .long 1000000000), (3, u "clear"), (0, u "(II)V"), (4, u "build"), (6, u "()I"), (0, u "start"), (7, u "lastStartingBefore")] 3

def k3c0 : Code := { maxStack := 2, maxLocals := 1, code := prog_39_method_1_code, exceptionTable := #[], attributes := #[] }
def k3m0 : Method := { name := "<init>", desc := "()V", sig := { parameters := [], returnType := none }, accessFlags := 0, code := some k3c0 }
def k3c1 : Code := { maxStack := 2, maxLocals := 3, code := prog_39_method_2_code, exceptionTable := #[], attributes := #[] }
def k3m1 : Method := { name := "clear", desc := "(II)V", sig := { parameters := [.int, .int], returnType := none }, accessFlags := 0, code := some k3c1 }
def k3c2 : Code := { maxStack := 7, maxLocals := 2, code := prog_39_method_5_code, exceptionTable := #[], attributes := #[] }
def k3m2 : Method := { name := "addBoundary", desc := "(I)V", sig := { parameters := [.int], returnType := none }, accessFlags := 0, code := some k3c2 }
def k3c3 : Code := { maxStack := 3, maxLocals := 1, code := prog_39_method_6_code, exceptionTable := #[], attributes := #[] }
def k3m3 : Method := { name := "build", desc := "()V", sig := { parameters := [], returnType := none }, accessFlags := 0, code := some k3c3 }
def k3c4 : Code := { maxStack := 4, maxLocals := 9, code := prog_39_method_7_code, exceptionTable := #[], attributes := #[] }
def k3m4 : Method := { name := "sweepWhole", desc := "()V", sig := { parameters := [], returnType := none }, accessFlags := 2, code := some k3c4 }
def k3c5 : Code := { maxStack := 1, maxLocals := 1, code := prog_39_method_14_code, exceptionTable := #[], attributes := #[] }
def k3m5 : Method := { name := "segmentCount", desc := "()I", sig := { parameters := [], returnType := some .int }, accessFlags := 0, code := some k3c5 }
def k3c6 : Code := { maxStack := 2, maxLocals := 2, code := prog_39_method_15_code, exceptionTable := #[], attributes := #[] }
def k3m6 : Method := { name := "start", desc := "(I)I", sig := { parameters := [.int], returnType := some .int }, accessFlags := 0, code := some k3c6 }
def k3c7 : Code := { maxStack := 2, maxLocals := 5, code := prog_39_method_22_code, exceptionTable := #[], attributes := #[] }
def k3m7 : Method := { name := "lastStartingBefore", desc := "(I)I", sig := { parameters := [.int], returnType := some .int }, accessFlags := 0, code := some k3c7 }
def k3c8 : Code := { maxStack := 6, maxLocals := 7, code := prog_39_method_24_code, exceptionTable := #[], attributes := #[] }
def k3m8 : Method := { name := "addEvent", desc := "(IJJI)V", sig := { parameters := [.int, .long, .long, .int], returnType := none }, accessFlags := 2, code := some k3c8 }
def k3c9 : Code := { maxStack := 4, maxLocals := 2, code := prog_39_method_26_code, exceptionTable := #[], attributes := #[] }
def k3m9 : Method := { name := "timeOf", desc := "(J)I", sig := { parameters := [.long], returnType := some .int }, accessFlags := 10, code := some k3c9 }
def k3c10 : Code := { maxStack := 4, maxLocals := 4, code := prog_39_method_27_code, exceptionTable := #[], attributes := #[] }
def k3m10 : Method := { name := "addSegment", desc := "(III)V", sig := { parameters := [.int, .int, .int], returnType := none }, accessFlags := 2, code := some k3c10 }
/-- com/example/trapeze/trapeze/scheduling/Profile -/
def k3 : Class := { plain "com/example/trapeze/trapeze/scheduling/Profile" (some 0) with
  accessFlags := 48
  interfaces := #[]
  cf := some (fileOf pool3 8 #[] #[{ accessFlags := 0, nameIndex := 5, descriptorIndex := 6, attributes := #[] }, { accessFlags := 0, nameIndex := 176, descriptorIndex := 177, attributes := #[] }, { accessFlags := 0, nameIndex := 84, descriptorIndex := 85, attributes := #[] }, { accessFlags := 0, nameIndex := 182, descriptorIndex := 6, attributes := #[] }, { accessFlags := 2, nameIndex := 121, descriptorIndex := 6, attributes := #[] }, { accessFlags := 0, nameIndex := 74, descriptorIndex := 189, attributes := #[] }, { accessFlags := 0, nameIndex := 190, descriptorIndex := 158, attributes := #[] }, { accessFlags := 0, nameIndex := 198, descriptorIndex := 158, attributes := #[] }, { accessFlags := 2, nameIndex := 88, descriptorIndex := 89, attributes := #[] }, { accessFlags := 10, nameIndex := 127, descriptorIndex := 128, attributes := #[] }, { accessFlags := 2, nameIndex := 131, descriptorIndex := 132, attributes := #[] }] 48 2 #[] #[{ accessFlags := 2, nameIndex := 11, descriptorIndex := 12, attributes := #[] }, { accessFlags := 2, nameIndex := 15, descriptorIndex := 12, attributes := #[] }, { accessFlags := 2, nameIndex := 18, descriptorIndex := 12, attributes := #[] }, { accessFlags := 2, nameIndex := 23, descriptorIndex := 24, attributes := #[] }, { accessFlags := 2, nameIndex := 27, descriptorIndex := 24, attributes := #[] }, { accessFlags := 2, nameIndex := 30, descriptorIndex := 24, attributes := #[] }, { accessFlags := 2, nameIndex := 33, descriptorIndex := 24, attributes := #[] }, { accessFlags := 2, nameIndex := 36, descriptorIndex := 37, attributes := #[] }, { accessFlags := 2, nameIndex := 70, descriptorIndex := 71, attributes := #[] }, { accessFlags := 2, nameIndex := 77, descriptorIndex := 78, attributes := #[] }, { accessFlags := 2, nameIndex := 81, descriptorIndex := 78, attributes := #[] }, { accessFlags := 2, nameIndex := 40, descriptorIndex := 37, attributes := #[] }, { accessFlags := 2, nameIndex := 43, descriptorIndex := 37, attributes := #[] }, { accessFlags := 2, nameIndex := 46, descriptorIndex := 12, attributes := #[] }, { accessFlags := 2, nameIndex := 49, descriptorIndex := 12, attributes := #[] }, { accessFlags := 2, nameIndex := 52, descriptorIndex := 24, attributes := #[] }, { accessFlags := 2, nameIndex := 55, descriptorIndex := 24, attributes := #[] }, { accessFlags := 2, nameIndex := 58, descriptorIndex := 24, attributes := #[] }, { accessFlags := 2, nameIndex := 61, descriptorIndex := 24, attributes := #[] }, { accessFlags := 2, nameIndex := 64, descriptorIndex := 37, attributes := #[] }, { accessFlags := 2, nameIndex := 67, descriptorIndex := 12, attributes := #[] }, { accessFlags := 2, nameIndex := 74, descriptorIndex := 71, attributes := #[] }])
  fields := #[{ name := "events", type := (.array .long), accessFlags := 2, slot := 0, constantValue := 0 }, { name := "leastDeltas", type := (.array .long), accessFlags := 2, slot := 1, constantValue := 0 }, { name := "greatestDeltas", type := (.array .long), accessFlags := 2, slot := 2, constantValue := 0 }, { name := "leastIntercepts", type := (.array (.object "com/example/trapeze/trapeze/core/Rational")), accessFlags := 2, slot := 3, constantValue := 0 }, { name := "leastSlopes", type := (.array (.object "com/example/trapeze/trapeze/core/Rational")), accessFlags := 2, slot := 4, constantValue := 0 }, { name := "greatestIntercepts", type := (.array (.object "com/example/trapeze/trapeze/core/Rational")), accessFlags := 2, slot := 5, constantValue := 0 }, { name := "greatestSlopes", type := (.array (.object "com/example/trapeze/trapeze/core/Rational")), accessFlags := 2, slot := 6, constantValue := 0 }, { name := "runningDeltas", type := (.array .int), accessFlags := 2, slot := 7, constantValue := 0 }, { name := "eventCount", type := .int, accessFlags := 2, slot := 8, constantValue := 0 }, { name := "whole", type := .boolean, accessFlags := 2, slot := 9, constantValue := 0 }, { name := "flat", type := .boolean, accessFlags := 2, slot := 10, constantValue := 0 }, { name := "segmentStarts", type := (.array .int), accessFlags := 2, slot := 11, constantValue := 0 }, { name := "segmentEnds", type := (.array .int), accessFlags := 2, slot := 12, constantValue := 0 }, { name := "wholeLeasts", type := (.array .long), accessFlags := 2, slot := 13, constantValue := 0 }, { name := "wholeGreatests", type := (.array .long), accessFlags := 2, slot := 14, constantValue := 0 }, { name := "leastAtStarts", type := (.array (.object "com/example/trapeze/trapeze/core/Rational")), accessFlags := 2, slot := 15, constantValue := 0 }, { name := "leastAtEnds", type := (.array (.object "com/example/trapeze/trapeze/core/Rational")), accessFlags := 2, slot := 16, constantValue := 0 }, { name := "greatestAtStarts", type := (.array (.object "com/example/trapeze/trapeze/core/Rational")), accessFlags := 2, slot := 17, constantValue := 0 }, { name := "greatestAtEnds", type := (.array (.object "com/example/trapeze/trapeze/core/Rational")), accessFlags := 2, slot := 18, constantValue := 0 }, { name := "segmentRunning", type := (.array .int), accessFlags := 2, slot := 19, constantValue := 0 }, { name := "leastEnergyBefore", type := (.array .long), accessFlags := 2, slot := 20, constantValue := 0 }, { name := "segmentCount", type := .int, accessFlags := 2, slot := 21, constantValue := 0 }]
  methods := #[k3m0, k3m1, k3m2, k3m3, k3m4, k3m5, k3m6, k3m7, k3m8, k3m9, k3m10]
  instanceTypes := #[(.array .long), (.array .long), (.array .long), (.array (.object "com/example/trapeze/trapeze/core/Rational")), (.array (.object "com/example/trapeze/trapeze/core/Rational")), (.array (.object "com/example/trapeze/trapeze/core/Rational")), (.array (.object "com/example/trapeze/trapeze/core/Rational")), (.array .int), .int, .boolean, .boolean, (.array .int), (.array .int), (.array .long), (.array .long), (.array (.object "com/example/trapeze/trapeze/core/Rational")), (.array (.object "com/example/trapeze/trapeze/core/Rational")), (.array (.object "com/example/trapeze/trapeze/core/Rational")), (.array (.object "com/example/trapeze/trapeze/core/Rational")), (.array .int), (.array .long), .int]
  staticTypes := #[]
  resolved := Array.replicate 202 none
  statics := none }

def pool4 : Array CpInfo := pool [(1, .class_ 2), (0, u "java/lang/Comparable"), (0, .class_ 4), (0, u "java/lang/Object")] 7

/-- java/lang/Comparable -/
def k4 : Class := { plain "java/lang/Comparable" (some 0) with
  accessFlags := 1537
  interfaces := #[]
  cf := some (fileOf pool4 1 #[] #[] 1537 3 #[] #[])
  fields := #[]
  methods := #[]
  instanceTypes := #[]
  staticTypes := #[]
  resolved := Array.replicate 12 none
  statics := none }

def pool5 : Array CpInfo := pool [(2, .class_ 4), (1, u "java/lang/Object"), (3, .class_ 10), (1, u "com/example/trapeze/trapeze/core/Rational"), (0, u "numerator"), (0, u "J"), (2, u "denominator"), (2, u "bigNumerator"), (0, u "Ljava/math/BigInteger;"), (2, u "bigDenominator"), (6, u "CACHED"), (0, u "[Lcom/example/trapeze/trapeze/core/Rational;"), (158, u "ZERO"), (0, u "Lcom/example/trapeze/trapeze/core/Rational;"), (0, .class_ 192), (0, u "java/lang/Comparable"), (0, u "CACHED_MIN"), (0, u "I"), (2, u "CACHED_MAX")] 37

/-- com/example/trapeze/trapeze/core/Rational -/
def k5 : Class := { plain "com/example/trapeze/trapeze/core/Rational" (some 0) with
  accessFlags := 49
  interfaces := #[4]
  cf := some (fileOf pool5 8 #[] #[] 49 2 #[191] #[{ accessFlags := 26, nameIndex := 193, descriptorIndex := 194, attributes := #[] }, { accessFlags := 26, nameIndex := 197, descriptorIndex := 194, attributes := #[] }, { accessFlags := 26, nameIndex := 29, descriptorIndex := 30, attributes := #[] }, { accessFlags := 25, nameIndex := 189, descriptorIndex := 190, attributes := #[] }, { accessFlags := 18, nameIndex := 11, descriptorIndex := 12, attributes := #[] }, { accessFlags := 18, nameIndex := 15, descriptorIndex := 12, attributes := #[] }, { accessFlags := 18, nameIndex := 18, descriptorIndex := 19, attributes := #[] }, { accessFlags := 18, nameIndex := 22, descriptorIndex := 19, attributes := #[] }])
  fields := #[{ name := "CACHED_MIN", type := .int, accessFlags := 26, slot := 0, constantValue := 0 }, { name := "CACHED_MAX", type := .int, accessFlags := 26, slot := 1, constantValue := 0 }, { name := "CACHED", type := (.array (.object "com/example/trapeze/trapeze/core/Rational")), accessFlags := 26, slot := 2, constantValue := 0 }, { name := "ZERO", type := (.object "com/example/trapeze/trapeze/core/Rational"), accessFlags := 25, slot := 3, constantValue := 0 }, { name := "numerator", type := .long, accessFlags := 18, slot := 0, constantValue := 0 }, { name := "denominator", type := .long, accessFlags := 18, slot := 1, constantValue := 0 }, { name := "bigNumerator", type := (.object "java/math/BigInteger"), accessFlags := 18, slot := 2, constantValue := 0 }, { name := "bigDenominator", type := (.object "java/math/BigInteger"), accessFlags := 18, slot := 3, constantValue := 0 }]
  methods := #[]
  instanceTypes := #[.long, .long, (.object "java/math/BigInteger"), (.object "java/math/BigInteger")]
  staticTypes := #[.int, .int, (.array (.object "com/example/trapeze/trapeze/core/Rational")), (.object "com/example/trapeze/trapeze/core/Rational")]
  resolved := Array.replicate 235 none
  statics := none }

def pool6 : Array CpInfo := pool [(2, .class_ 4), (1, u "java/lang/Object"), (0, u "<init>"), (0, u "()V"), (1, .class_ 10), (1, u "java/util/DualPivotQuicksort"), (0, u "sort"), (1, .methodref 14 15), (0, .class_ 16), (0, .nameAndType 17 18), (0, u "java/util/Arrays"), (0, u "rangeCheck"), (0, u "(III)V"), (0, .methodref 8 20), (0, .nameAndType 11 21), (0, u "([JIII)V"), (52, .class_ 76), (1, u "java/util/Arrays$NaturalOrder"), (36, .class_ 115), (1, u "java/util/Arrays$LegacyMergeSort"), (1, u "Z"), (257, .class_ 376), (0, u "java/util/Arrays$ArrayList"), (68, u "$assertionsDisabled"), (269, u "MIN_ARRAY_SORT_GRAN"), (0, u "I"), (2, u "INSERTIONSORT_THRESHOLD"), (12, u "([JII)V"), (242, .class_ 976), (0, u "java/util/Arrays$ArrayItr")] 52

def k6m0 : Method := { name := "<init>", desc := "()V", sig := { parameters := [], returnType := none }, accessFlags := 2, code := none }
def k6c1 : Code := { maxStack := 4, maxLocals := 3, code := jdk_65_method_5_code, exceptionTable := #[], attributes := #[] }
def k6m1 : Method := { name := "sort", desc := "([JII)V", sig := { parameters := [(.array .long), .int, .int], returnType := none }, accessFlags := 9, code := some k6c1 }
def k6c2 : Code := { maxStack := 4, maxLocals := 3, code := jdk_65_method_30_code, exceptionTable := #[], attributes := #[] }
def k6m2 : Method := { name := "rangeCheck", desc := "(III)V", sig := { parameters := [.int, .int, .int], returnType := none }, accessFlags := 8, code := some k6c2 }
/-- java/util/Arrays -/
def k6 : Class := { plain "java/util/Arrays" (some 0) with
  accessFlags := 49
  interfaces := #[]
  cf := some (fileOf pool6 14 #[.nestMembers #[975, 375, 113, 74]] #[{ accessFlags := 2, nameIndex := 5, descriptorIndex := 6, attributes := #[] }, { accessFlags := 9, nameIndex := 11, descriptorIndex := 732, attributes := #[] }, { accessFlags := 8, nameIndex := 17, descriptorIndex := 18, attributes := #[] }] 49 2 #[] #[{ accessFlags := 26, nameIndex := 715, descriptorIndex := 716, attributes := #[] }, { accessFlags := 26, nameIndex := 719, descriptorIndex := 716, attributes := #[] }, { accessFlags := 4120, nameIndex := 445, descriptorIndex := 117, attributes := #[] }])
  fields := #[{ name := "MIN_ARRAY_SORT_GRAN", type := .int, accessFlags := 26, slot := 0, constantValue := 0 }, { name := "INSERTIONSORT_THRESHOLD", type := .int, accessFlags := 26, slot := 1, constantValue := 0 }, { name := "$assertionsDisabled", type := .boolean, accessFlags := 4120, slot := 2, constantValue := 0 }]
  methods := #[k6m0, k6m1, k6m2]
  instanceTypes := #[]
  staticTypes := #[.int, .int, .boolean]
  resolved := Array.replicate 1029 none
  statics := none }

def pool7 : Array CpInfo := pool [(1, .class_ 2), (0, u "java/util/DualPivotQuicksort"), (5, .class_ 10), (1, u "java/lang/Object"), (0, u "<init>"), (0, u "()V"), (4, .class_ 18), (0, u "java/util/DualPivotQuicksort$Sorter"), (9, u "sort"), (7, u "insertionSort"), (31, u "I"), (4, .class_ 74), (0, u "java/util/DualPivotQuicksort$RunMerger"), (10, .class_ 86), (0, u "java/util/DualPivotQuicksort$Merger"), (12, .methodref 1 100), (0, .nameAndType 28 101), (0, u "(Ljava/util/DualPivotQuicksort$Sorter;[JIII)V"), (2, u "([JIII)V"), (0, .methodref 1 106), (0, .nameAndType 36 107), (0, u "([JII)V"), (106, u "MAX_MIXED_INSERTION_SORT_SIZE"), (2, u "MAX_INSERTION_SORT_SIZE"), (1, u "MIN_PARALLEL_SORT_SIZE"), (1, u "MIN_TRY_MERGE_SIZE"), (0, u "MIN_FIRST_RUN_SIZE"), (1, u "MIN_FIRST_RUNS_FACTOR"), (1, u "MAX_RUN_CAPACITY"), (1, u "MIN_RUN_COUNT"), (1, u "MIN_PARALLEL_MERGE_PARTS_SIZE"), (0, u "MIN_BYTE_COUNTING_SORT_SIZE"), (1, u "MIN_SHORT_OR_CHAR_COUNTING_SORT_SIZE"), (1, u "DELTA"), (1, u "MAX_RECURSION_DEPTH"), (1, u "NUM_BYTE_VALUES"), (1, u "MAX_BYTE_INDEX"), (0, u "NUM_CHAR_VALUES"), (0, u "NUM_SHORT_VALUES"), (0, u "MAX_SHORT_INDEX")] 86

def k7m0 : Method := { name := "<init>", desc := "()V", sig := { parameters := [], returnType := none }, accessFlags := 2, code := none }
def k7c1 : Code := { maxStack := 9, maxLocals := 7, code := jdk_2529_method_12_code, exceptionTable := #[], attributes := #[] }
def k7m1 : Method := { name := "sort", desc := "([JIII)V", sig := { parameters := [(.array .long), .int, .int, .int], returnType := none }, accessFlags := 8, code := some k7c1 }
def k7c2 : Code := { maxStack := 6, maxLocals := 25, code := jdk_2529_method_13_code, exceptionTable := #[], attributes := #[] }
def k7m2 : Method := { name := "sort", desc := "(Ljava/util/DualPivotQuicksort$Sorter;[JIII)V", sig := { parameters := [(.object "java/util/DualPivotQuicksort$Sorter"), (.array .long), .int, .int, .int], returnType := none }, accessFlags := 8, code := some k7c2 }
def k7c3 : Code := { maxStack := 5, maxLocals := 7, code := jdk_2529_method_15_code, exceptionTable := #[], attributes := #[] }
def k7m3 : Method := { name := "insertionSort", desc := "([JII)V", sig := { parameters := [(.array .long), .int, .int], returnType := none }, accessFlags := 10, code := some k7c3 }
/-- java/util/DualPivotQuicksort -/
def k7 : Class := { plain "java/util/DualPivotQuicksort" (some 0) with
  accessFlags := 48
  interfaces := #[]
  cf := some (fileOf pool7 1 #[.nestMembers #[73, 85, 17]] #[{ accessFlags := 2, nameIndex := 11, descriptorIndex := 12, attributes := #[] }, { accessFlags := 8, nameIndex := 28, descriptorIndex := 104, attributes := #[] }, { accessFlags := 8, nameIndex := 28, descriptorIndex := 101, attributes := #[] }, { accessFlags := 10, nameIndex := 36, descriptorIndex := 107, attributes := #[] }] 48 8 #[] #[{ accessFlags := 26, nameIndex := 214, descriptorIndex := 68, attributes := #[] }, { accessFlags := 26, nameIndex := 217, descriptorIndex := 68, attributes := #[] }, { accessFlags := 26, nameIndex := 219, descriptorIndex := 68, attributes := #[] }, { accessFlags := 26, nameIndex := 221, descriptorIndex := 68, attributes := #[] }, { accessFlags := 26, nameIndex := 222, descriptorIndex := 68, attributes := #[] }, { accessFlags := 26, nameIndex := 224, descriptorIndex := 68, attributes := #[] }, { accessFlags := 26, nameIndex := 226, descriptorIndex := 68, attributes := #[] }, { accessFlags := 26, nameIndex := 228, descriptorIndex := 68, attributes := #[] }, { accessFlags := 26, nameIndex := 230, descriptorIndex := 68, attributes := #[] }, { accessFlags := 26, nameIndex := 231, descriptorIndex := 68, attributes := #[] }, { accessFlags := 26, nameIndex := 233, descriptorIndex := 68, attributes := #[] }, { accessFlags := 26, nameIndex := 235, descriptorIndex := 68, attributes := #[] }, { accessFlags := 26, nameIndex := 237, descriptorIndex := 68, attributes := #[] }, { accessFlags := 26, nameIndex := 239, descriptorIndex := 68, attributes := #[] }, { accessFlags := 26, nameIndex := 241, descriptorIndex := 68, attributes := #[] }, { accessFlags := 26, nameIndex := 242, descriptorIndex := 68, attributes := #[] }, { accessFlags := 26, nameIndex := 243, descriptorIndex := 68, attributes := #[] }, { accessFlags := 26, nameIndex := 244, descriptorIndex := 68, attributes := #[] }])
  fields := #[{ name := "MAX_MIXED_INSERTION_SORT_SIZE", type := .int, accessFlags := 26, slot := 0, constantValue := 0 }, { name := "MAX_INSERTION_SORT_SIZE", type := .int, accessFlags := 26, slot := 1, constantValue := 0 }, { name := "MIN_PARALLEL_SORT_SIZE", type := .int, accessFlags := 26, slot := 2, constantValue := 0 }, { name := "MIN_TRY_MERGE_SIZE", type := .int, accessFlags := 26, slot := 3, constantValue := 0 }, { name := "MIN_FIRST_RUN_SIZE", type := .int, accessFlags := 26, slot := 4, constantValue := 0 }, { name := "MIN_FIRST_RUNS_FACTOR", type := .int, accessFlags := 26, slot := 5, constantValue := 0 }, { name := "MAX_RUN_CAPACITY", type := .int, accessFlags := 26, slot := 6, constantValue := 0 }, { name := "MIN_RUN_COUNT", type := .int, accessFlags := 26, slot := 7, constantValue := 0 }, { name := "MIN_PARALLEL_MERGE_PARTS_SIZE", type := .int, accessFlags := 26, slot := 8, constantValue := 0 }, { name := "MIN_BYTE_COUNTING_SORT_SIZE", type := .int, accessFlags := 26, slot := 9, constantValue := 0 }, { name := "MIN_SHORT_OR_CHAR_COUNTING_SORT_SIZE", type := .int, accessFlags := 26, slot := 10, constantValue := 0 }, { name := "DELTA", type := .int, accessFlags := 26, slot := 11, constantValue := 0 }, { name := "MAX_RECURSION_DEPTH", type := .int, accessFlags := 26, slot := 12, constantValue := 0 }, { name := "NUM_BYTE_VALUES", type := .int, accessFlags := 26, slot := 13, constantValue := 0 }, { name := "MAX_BYTE_INDEX", type := .int, accessFlags := 26, slot := 14, constantValue := 0 }, { name := "NUM_CHAR_VALUES", type := .int, accessFlags := 26, slot := 15, constantValue := 0 }, { name := "NUM_SHORT_VALUES", type := .int, accessFlags := 26, slot := 16, constantValue := 0 }, { name := "MAX_SHORT_INDEX", type := .int, accessFlags := 26, slot := 17, constantValue := 0 }]
  methods := #[k7m0, k7m1, k7m2, k7m3]
  instanceTypes := #[]
  staticTypes := #[.int, .int, .int, .int, .int, .int, .int, .int, .int, .int, .int, .int, .int, .int, .int, .int, .int, .int]
  resolved := Array.replicate 331 none
  statics := none }

def pool8 : Array CpInfo := pool [(1, u "java/lang/Cloneable"), (0, .class_ 1), (0, u "java/lang/Object"), (0, .class_ 3)] 3

/-- java/lang/Cloneable -/
def k8 : Class := { plain "java/lang/Cloneable" (some 0) with
  accessFlags := 1537
  interfaces := #[]
  cf := some (fileOf pool8 2 #[] #[] 1537 4 #[] #[])
  fields := #[]
  methods := #[]
  instanceTypes := #[]
  staticTypes := #[]
  resolved := Array.replicate 8 none
  statics := none }

def pool9 : Array CpInfo := pool [(1, u "java/io/Serializable"), (0, .class_ 1), (0, u "java/lang/Object"), (0, .class_ 3)] 3

/-- java/io/Serializable -/
def k9 : Class := { plain "java/io/Serializable" (some 0) with
  accessFlags := 1537
  interfaces := #[]
  cf := some (fileOf pool9 2 #[] #[] 1537 4 #[] #[])
  fields := #[]
  methods := #[]
  instanceTypes := #[]
  staticTypes := #[]
  resolved := Array.replicate 8 none
  statics := none }

/-- the primitive byte -/
def k10 : Class := { plain "byte" none with kind := .primitive 'B', accessFlags := 0x411 }
/-- [B -/
def k11 : Class := { plain "[B" (some 0) with kind := .array 10 .byte, interfaces := #[8, 9], accessFlags := 1041 }

/-- the primitive int -/
def k12 : Class := { plain "int" none with kind := .primitive 'I', accessFlags := 0x411 }
/-- [I -/
def k13 : Class := { plain "[I" (some 0) with kind := .array 12 .int, interfaces := #[8, 9], accessFlags := 1041 }

/-- the primitive long -/
def k14 : Class := { plain "long" none with kind := .primitive 'J', accessFlags := 0x411 }
/-- [J -/
def k15 : Class := { plain "[J" (some 0) with kind := .array 14 .long, interfaces := #[8, 9], accessFlags := 1041 }

/-- [Lcom/example/trapeze/trapeze/core/Rational; -/
def k16 : Class := { plain "[Lcom/example/trapeze/trapeze/core/Rational;" (some 0) with kind := .array 5 (.object "com/example/trapeze/trapeze/core/Rational"), interfaces := #[8, 9], accessFlags := 1041 }

def heap : Heap := #[]
def classes : Array Class := #[k0, k1, k2, k3, k4, k5, k6, k7, k8, k9, k10, k11, k12, k13, k14, k15, k16]
def interned : List (Array UInt16 × Addr) := []
def slotsUsed : Nat := 0
def theMethod : MethodId := ⟨1, 3⟩
def args0 : Array Value := #[.int 5, .int 1, .int 2, .int 3, .int 4]
def aboutOver (below : List Frame) : State where
  vm := { classes := classes, interned := interned.toArray }
  heap := heap
  slotsUsed := slotsUsed
  threads := #[{ frames := .invoking theMethod args0 :: below }]
def below0 : List Frame := [.native { method := ⟨0, 0⟩, args := #[] }]
def about1 : State := aboutOver below0
def p0 : Program := .bare "" "" ""
def e0 : Env := launch0.env 0 0 0
theorem w_frames : about1.frames = Frame.invoking theMethod args0 :: below0 := rfl
set_option maxRecDepth 65536 in
theorem w_args : argsFit about1.vm theMethod args0 = true := by decide +kernel
set_option maxRecDepth 65536 in
theorem w_heap : heapFits about1 = true := by decide +kernel
set_option maxRecDepth 65536 in
theorem w_runnable : about1.curStatus? = some .runnable := by decide +kernel
set_option maxRecDepth 65536 in
theorem w_alone : about1.alone = true := by decide +kernel
set_option maxRecDepth 65536 in
theorem w_named : about1.methodNamed? x = some theMethod := by decide +kernel
set_option maxRecDepth 65536 in
theorem w_hears : about1.hears theMethod below0 = true := by decide +kernel
set_option maxRecDepth 65536 in
theorem w_ripe : about1.ripe theMethod args0 below0 = true := by decide +kernel
theorem w_running : about1.status = .running := rfl
set_option maxRecDepth 65536 in
theorem w_room : about1.hasRoom e0.platform room_1 = true :=
  launch0.hasRoom_least _ room_1 (by decide +kernel) (by decide +kernel) (by decide +kernel) (by decide +kernel) (by decide +kernel) (by decide +kernel)
theorem allAtoms_all (ts : List Jvm.Cond) (a : Array Jvm.Value) (st : Jvm.State) : (allAtoms ts).before a st = ts.all (fun c => c.before a st) := by
  induction ts with
  | nil => rfl
  | cons c t ih =>
    show (Jvm.Cond.and c (allAtoms t)).before a st = _
    rw [Jvm.Cond.before_and, ih, List.all_cons]
def words1 : List Jvm.Cond := Jvm.Cond.code x code maxLocals ret :: tables_1
/-- a 'code' word, met by the world's own term for the bytes: nothing is compared byte by byte -/
theorem code_word {y : MethodName} {bytes : ByteArray} {mx : Nat} {rt : Option FieldType} {a : Array Value} {s : State} {m : MethodId} {meth : Method} {c : Code} (h1 : s.methodNamed? y = some m) (h2 : s.vm.method? m = some meth) (h3 : meth.code = some c) (h4 : c.code = bytes)
    (h5 : (c.maxLocals == mx && c.exceptionTable.isEmpty && decide (c.maxStack ≤ mostOperands) && decide (meth.sig.returnType = rt) && !meth.locks && decide (parseMethodDescriptor y.desc = some meth.sig)) = true) : (Jvm.Cond.code y bytes mx rt).before a s = true := by
  simp only [Bool.and_eq_true, beq_iff_eq, Bool.not_eq_true', decide_eq_true_eq] at h5
  obtain ⟨⟨⟨⟨⟨g1, g2⟩, g3⟩, g4⟩, g5⟩, g6⟩ := h5
  simp [Cond.before, Cond.holds, Cond.value, h1, h2, h3, h4, g1, g2, g3, g4, g5, g6]
def isCode : Jvm.Cond → Bool
  | .code _ _ _ _ => true
  | _ => false
theorem all_split {L : List Jvm.Cond} {P : Jvm.Cond → Bool} (h1 : L.all (fun c => isCode c || P c) = true) (h2 : ∀ c ∈ L.filter isCode, P c = true) : L.all P = true := by
  refine List.all_eq_true.mpr fun c hc => ?_
  have h := List.all_eq_true.mp h1 c hc
  rcases Bool.eq_false_or_eq_true (isCode c) with hi | hi
  · exact h2 c (List.mem_filter.mpr ⟨hc, hi⟩)
  · simpa [hi] using h
set_option maxRecDepth 65536 in
theorem w_c0 : (Jvm.Cond.code x code maxLocals ret).before args0 about1 = true := code_word (m := ⟨1, 3⟩) (meth := k1m3) (c := k1c3) (by decide +kernel) rfl rfl rfl (by decide +kernel)
set_option maxRecDepth 65536 in
theorem w_c1 : (Jvm.Cond.code ({ cls := "com/example/trapeze/trapeze/scheduling/ProfileLastStartingBeforePinLaw", name := "time", desc := "(I)I" } : Jvm.MethodName) method_2_code (1 : Nat) (Option.some Jvm.ClassFile.FieldType.int)).before args0 about1 = true := code_word (m := ⟨1, 1⟩) (meth := k1m1) (c := k1c1) (by decide +kernel) rfl rfl rfl (by decide +kernel)
set_option maxRecDepth 65536 in
theorem w_c2 : (Jvm.Cond.code ({ cls := "java/lang/Math", name := "min", desc := "(II)I" } : Jvm.MethodName) jdk_29_method_69_code (2 : Nat) (Option.some Jvm.ClassFile.FieldType.int)).before args0 about1 = true := code_word (m := ⟨2, 2⟩) (meth := k2m2) (c := k2c2) (by decide +kernel) rfl rfl rfl (by decide +kernel)
set_option maxRecDepth 65536 in
theorem w_c3 : (Jvm.Cond.code ({ cls := "java/lang/Math", name := "max", desc := "(II)I" } : Jvm.MethodName) jdk_29_method_65_code (2 : Nat) (Option.some Jvm.ClassFile.FieldType.int)).before args0 about1 = true := code_word (m := ⟨2, 1⟩) (meth := k2m1) (c := k2c1) (by decide +kernel) rfl rfl rfl (by decide +kernel)
set_option maxRecDepth 65536 in
theorem w_c4 : (Jvm.Cond.code ({ cls := "com/example/trapeze/trapeze/scheduling/ProfileLastStartingBeforePinLaw", name := "clamp", desc := "(III)I" } : Jvm.MethodName) method_3_code (3 : Nat) (Option.some Jvm.ClassFile.FieldType.int)).before args0 about1 = true := code_word (m := ⟨1, 2⟩) (meth := k1m2) (c := k1c2) (by decide +kernel) rfl rfl rfl (by decide +kernel)
set_option maxRecDepth 65536 in
theorem w_c5 : (Jvm.Cond.code ({ cls := "com/example/trapeze/trapeze/scheduling/Profile", name := "<init>", desc := "()V" } : Jvm.MethodName) prog_39_method_1_code (1 : Nat) (Option.none : Option Jvm.ClassFile.FieldType)).before args0 about1 = true := code_word (m := ⟨3, 0⟩) (meth := k3m0) (c := k3c0) (by decide +kernel) rfl rfl rfl (by decide +kernel)
set_option maxRecDepth 65536 in
theorem w_c6 : (Jvm.Cond.code ({ cls := "java/lang/Object", name := "<init>", desc := "()V" } : Jvm.MethodName) object_method_1_code (1 : Nat) (Option.none : Option Jvm.ClassFile.FieldType)).before args0 about1 = true := code_word (m := ⟨0, 0⟩) (meth := k0m0) (c := k0c0) (by decide +kernel) rfl rfl rfl (by decide +kernel)
set_option maxRecDepth 65536 in
theorem w_c7 : (Jvm.Cond.code ({ cls := "com/example/trapeze/trapeze/scheduling/Profile", name := "clear", desc := "(II)V" } : Jvm.MethodName) prog_39_method_2_code (3 : Nat) (Option.none : Option Jvm.ClassFile.FieldType)).before args0 about1 = true := code_word (m := ⟨3, 1⟩) (meth := k3m1) (c := k3c1) (by decide +kernel) rfl rfl rfl (by decide +kernel)
set_option maxRecDepth 65536 in
theorem w_c8 : (Jvm.Cond.code ({ cls := "com/example/trapeze/trapeze/scheduling/Profile", name := "addBoundary", desc := "(I)V" } : Jvm.MethodName) prog_39_method_5_code (2 : Nat) (Option.none : Option Jvm.ClassFile.FieldType)).before args0 about1 = true := code_word (m := ⟨3, 2⟩) (meth := k3m2) (c := k3c2) (by decide +kernel) rfl rfl rfl (by decide +kernel)
set_option maxRecDepth 65536 in
theorem w_c9 : (Jvm.Cond.code ({ cls := "com/example/trapeze/trapeze/scheduling/Profile", name := "addEvent", desc := "(IJJI)V" } : Jvm.MethodName) prog_39_method_24_code (7 : Nat) (Option.none : Option Jvm.ClassFile.FieldType)).before args0 about1 = true := code_word (m := ⟨3, 8⟩) (meth := k3m8) (c := k3c8) (by decide +kernel) rfl rfl rfl (by decide +kernel)
set_option maxRecDepth 65536 in
theorem w_c10 : (Jvm.Cond.code ({ cls := "com/example/trapeze/trapeze/scheduling/Profile", name := "build", desc := "()V" } : Jvm.MethodName) prog_39_method_6_code (1 : Nat) (Option.none : Option Jvm.ClassFile.FieldType)).before args0 about1 = true := code_word (m := ⟨3, 3⟩) (meth := k3m3) (c := k3c3) (by decide +kernel) rfl rfl rfl (by decide +kernel)
set_option maxRecDepth 65536 in
theorem w_c11 : (Jvm.Cond.code ({ cls := "java/util/Arrays", name := "sort", desc := "([JII)V" } : Jvm.MethodName) jdk_65_method_5_code (3 : Nat) (Option.none : Option Jvm.ClassFile.FieldType)).before args0 about1 = true := code_word (m := ⟨6, 1⟩) (meth := k6m1) (c := k6c1) (by decide +kernel) rfl rfl rfl (by decide +kernel)
set_option maxRecDepth 65536 in
theorem w_c12 : (Jvm.Cond.code ({ cls := "java/util/Arrays", name := "rangeCheck", desc := "(III)V" } : Jvm.MethodName) jdk_65_method_30_code (3 : Nat) (Option.none : Option Jvm.ClassFile.FieldType)).before args0 about1 = true := code_word (m := ⟨6, 2⟩) (meth := k6m2) (c := k6c2) (by decide +kernel) rfl rfl rfl (by decide +kernel)
set_option maxRecDepth 65536 in
theorem w_c13 : (Jvm.Cond.code ({ cls := "java/util/DualPivotQuicksort", name := "sort", desc := "([JIII)V" } : Jvm.MethodName) jdk_2529_method_12_code (7 : Nat) (Option.none : Option Jvm.ClassFile.FieldType)).before args0 about1 = true := code_word (m := ⟨7, 1⟩) (meth := k7m1) (c := k7c1) (by decide +kernel) rfl rfl rfl (by decide +kernel)
set_option maxRecDepth 65536 in
theorem w_c14 : (Jvm.Cond.code ({ cls := "java/util/DualPivotQuicksort", name := "sort", desc := "(Ljava/util/DualPivotQuicksort$Sorter;[JIII)V" } : Jvm.MethodName) jdk_2529_method_13_code (25 : Nat) (Option.none : Option Jvm.ClassFile.FieldType)).before args0 about1 = true := code_word (m := ⟨7, 2⟩) (meth := k7m2) (c := k7c2) (by decide +kernel) rfl rfl rfl (by decide +kernel)
set_option maxRecDepth 65536 in
theorem w_c15 : (Jvm.Cond.code ({ cls := "java/util/DualPivotQuicksort", name := "insertionSort", desc := "([JII)V" } : Jvm.MethodName) jdk_2529_method_15_code (7 : Nat) (Option.none : Option Jvm.ClassFile.FieldType)).before args0 about1 = true := code_word (m := ⟨7, 3⟩) (meth := k7m3) (c := k7c3) (by decide +kernel) rfl rfl rfl (by decide +kernel)
set_option maxRecDepth 65536 in
theorem w_c16 : (Jvm.Cond.code ({ cls := "com/example/trapeze/trapeze/scheduling/Profile", name := "sweepWhole", desc := "()V" } : Jvm.MethodName) prog_39_method_7_code (9 : Nat) (Option.none : Option Jvm.ClassFile.FieldType)).before args0 about1 = true := code_word (m := ⟨3, 4⟩) (meth := k3m4) (c := k3c4) (by decide +kernel) rfl rfl rfl (by decide +kernel)
set_option maxRecDepth 65536 in
theorem w_c17 : (Jvm.Cond.code ({ cls := "com/example/trapeze/trapeze/scheduling/Profile", name := "timeOf", desc := "(J)I" } : Jvm.MethodName) prog_39_method_26_code (2 : Nat) (Option.some Jvm.ClassFile.FieldType.int)).before args0 about1 = true := code_word (m := ⟨3, 9⟩) (meth := k3m9) (c := k3c9) (by decide +kernel) rfl rfl rfl (by decide +kernel)
set_option maxRecDepth 65536 in
theorem w_c18 : (Jvm.Cond.code ({ cls := "com/example/trapeze/trapeze/scheduling/Profile", name := "addSegment", desc := "(III)V" } : Jvm.MethodName) prog_39_method_27_code (4 : Nat) (Option.none : Option Jvm.ClassFile.FieldType)).before args0 about1 = true := code_word (m := ⟨3, 10⟩) (meth := k3m10) (c := k3c10) (by decide +kernel) rfl rfl rfl (by decide +kernel)
set_option maxRecDepth 65536 in
theorem w_c19 : (Jvm.Cond.code ({ cls := "com/example/trapeze/trapeze/scheduling/Profile", name := "lastStartingBefore", desc := "(I)I" } : Jvm.MethodName) prog_39_method_22_code (5 : Nat) (Option.some Jvm.ClassFile.FieldType.int)).before args0 about1 = true := code_word (m := ⟨3, 7⟩) (meth := k3m7) (c := k3c7) (by decide +kernel) rfl rfl rfl (by decide +kernel)
set_option maxRecDepth 65536 in
theorem w_c20 : (Jvm.Cond.code ({ cls := "com/example/trapeze/trapeze/scheduling/Profile", name := "segmentCount", desc := "()I" } : Jvm.MethodName) prog_39_method_14_code (1 : Nat) (Option.some Jvm.ClassFile.FieldType.int)).before args0 about1 = true := code_word (m := ⟨3, 5⟩) (meth := k3m5) (c := k3c5) (by decide +kernel) rfl rfl rfl (by decide +kernel)
set_option maxRecDepth 65536 in
theorem w_c21 : (Jvm.Cond.code ({ cls := "com/example/trapeze/trapeze/scheduling/Profile", name := "start", desc := "(I)I" } : Jvm.MethodName) prog_39_method_15_code (2 : Nat) (Option.some Jvm.ClassFile.FieldType.int)).before args0 about1 = true := code_word (m := ⟨3, 6⟩) (meth := k3m6) (c := k3c6) (by decide +kernel) rfl rfl rfl (by decide +kernel)
def codes1 : List Jvm.Cond := [Jvm.Cond.code x code maxLocals ret, Jvm.Cond.code ({ cls := "com/example/trapeze/trapeze/scheduling/ProfileLastStartingBeforePinLaw", name := "time", desc := "(I)I" } : Jvm.MethodName) method_2_code (1 : Nat) (Option.some Jvm.ClassFile.FieldType.int), Jvm.Cond.code ({ cls := "java/lang/Math", name := "min", desc := "(II)I" } : Jvm.MethodName) jdk_29_method_69_code (2 : Nat) (Option.some Jvm.ClassFile.FieldType.int), Jvm.Cond.code ({ cls := "java/lang/Math", name := "max", desc := "(II)I" } : Jvm.MethodName) jdk_29_method_65_code (2 : Nat) (Option.some Jvm.ClassFile.FieldType.int), Jvm.Cond.code ({ cls := "com/example/trapeze/trapeze/scheduling/ProfileLastStartingBeforePinLaw", name := "clamp", desc := "(III)I" } : Jvm.MethodName) method_3_code (3 : Nat) (Option.some Jvm.ClassFile.FieldType.int), Jvm.Cond.code ({ cls := "com/example/trapeze/trapeze/scheduling/Profile", name := "<init>", desc := "()V" } : Jvm.MethodName) prog_39_method_1_code (1 : Nat) (Option.none : Option Jvm.ClassFile.FieldType), Jvm.Cond.code ({ cls := "java/lang/Object", name := "<init>", desc := "()V" } : Jvm.MethodName) object_method_1_code (1 : Nat) (Option.none : Option Jvm.ClassFile.FieldType), Jvm.Cond.code ({ cls := "com/example/trapeze/trapeze/scheduling/Profile", name := "clear", desc := "(II)V" } : Jvm.MethodName) prog_39_method_2_code (3 : Nat) (Option.none : Option Jvm.ClassFile.FieldType), Jvm.Cond.code ({ cls := "com/example/trapeze/trapeze/scheduling/Profile", name := "addBoundary", desc := "(I)V" } : Jvm.MethodName) prog_39_method_5_code (2 : Nat) (Option.none : Option Jvm.ClassFile.FieldType), Jvm.Cond.code ({ cls := "com/example/trapeze/trapeze/scheduling/Profile", name := "addEvent", desc := "(IJJI)V" } : Jvm.MethodName) prog_39_method_24_code (7 : Nat) (Option.none : Option Jvm.ClassFile.FieldType), Jvm.Cond.code ({ cls := "com/example/trapeze/trapeze/scheduling/Profile", name := "build", desc := "()V" } : Jvm.MethodName) prog_39_method_6_code (1 : Nat) (Option.none : Option Jvm.ClassFile.FieldType), Jvm.Cond.code ({ cls := "java/util/Arrays", name := "sort", desc := "([JII)V" } : Jvm.MethodName) jdk_65_method_5_code (3 : Nat) (Option.none : Option Jvm.ClassFile.FieldType), Jvm.Cond.code ({ cls := "java/util/Arrays", name := "rangeCheck", desc := "(III)V" } : Jvm.MethodName) jdk_65_method_30_code (3 : Nat) (Option.none : Option Jvm.ClassFile.FieldType), Jvm.Cond.code ({ cls := "java/util/DualPivotQuicksort", name := "sort", desc := "([JIII)V" } : Jvm.MethodName) jdk_2529_method_12_code (7 : Nat) (Option.none : Option Jvm.ClassFile.FieldType), Jvm.Cond.code ({ cls := "java/util/DualPivotQuicksort", name := "sort", desc := "(Ljava/util/DualPivotQuicksort$Sorter;[JIII)V" } : Jvm.MethodName) jdk_2529_method_13_code (25 : Nat) (Option.none : Option Jvm.ClassFile.FieldType), Jvm.Cond.code ({ cls := "java/util/DualPivotQuicksort", name := "insertionSort", desc := "([JII)V" } : Jvm.MethodName) jdk_2529_method_15_code (7 : Nat) (Option.none : Option Jvm.ClassFile.FieldType), Jvm.Cond.code ({ cls := "com/example/trapeze/trapeze/scheduling/Profile", name := "sweepWhole", desc := "()V" } : Jvm.MethodName) prog_39_method_7_code (9 : Nat) (Option.none : Option Jvm.ClassFile.FieldType), Jvm.Cond.code ({ cls := "com/example/trapeze/trapeze/scheduling/Profile", name := "timeOf", desc := "(J)I" } : Jvm.MethodName) prog_39_method_26_code (2 : Nat) (Option.some Jvm.ClassFile.FieldType.int), Jvm.Cond.code ({ cls := "com/example/trapeze/trapeze/scheduling/Profile", name := "addSegment", desc := "(III)V" } : Jvm.MethodName) prog_39_method_27_code (4 : Nat) (Option.none : Option Jvm.ClassFile.FieldType), Jvm.Cond.code ({ cls := "com/example/trapeze/trapeze/scheduling/Profile", name := "lastStartingBefore", desc := "(I)I" } : Jvm.MethodName) prog_39_method_22_code (5 : Nat) (Option.some Jvm.ClassFile.FieldType.int), Jvm.Cond.code ({ cls := "com/example/trapeze/trapeze/scheduling/Profile", name := "segmentCount", desc := "()I" } : Jvm.MethodName) prog_39_method_14_code (1 : Nat) (Option.some Jvm.ClassFile.FieldType.int), Jvm.Cond.code ({ cls := "com/example/trapeze/trapeze/scheduling/Profile", name := "start", desc := "(I)I" } : Jvm.MethodName) prog_39_method_15_code (2 : Nat) (Option.some Jvm.ClassFile.FieldType.int)]
set_option maxRecDepth 65536 in
theorem codes_eq : words1.filter isCode = codes1 := rfl
theorem w_codes : ∀ c ∈ words1.filter isCode, c.before args0 about1 = true := by
  rw [codes_eq]
  intro c hc
  simp only [codes1, List.mem_cons, List.not_mem_nil, or_false] at hc
  rcases hc with rfl | rfl | rfl | rfl | rfl | rfl | rfl | rfl | rfl | rfl | rfl | rfl | rfl | rfl | rfl | rfl | rfl | rfl | rfl | rfl | rfl | rfl
  · exact w_c0
  · exact w_c1
  · exact w_c2
  · exact w_c3
  · exact w_c4
  · exact w_c5
  · exact w_c6
  · exact w_c7
  · exact w_c8
  · exact w_c9
  · exact w_c10
  · exact w_c11
  · exact w_c12
  · exact w_c13
  · exact w_c14
  · exact w_c15
  · exact w_c16
  · exact w_c17
  · exact w_c18
  · exact w_c19
  · exact w_c20
  · exact w_c21
set_option maxRecDepth 65536 in
theorem w_t1 : (words1.take 24).all (fun c => isCode c || c.before args0 about1) = true := by decide +kernel
set_option maxRecDepth 65536 in
theorem w_t2 : ((words1.drop 24).take 24).all (fun c => isCode c || c.before args0 about1) = true := by decide +kernel
set_option maxRecDepth 65536 in
theorem w_t3 : (((words1.drop 24).drop 24).take 24).all (fun c => isCode c || c.before args0 about1) = true := by decide +kernel
set_option maxRecDepth 65536 in
theorem w_t4 : ((((words1.drop 24).drop 24).drop 24).take 24).all (fun c => isCode c || c.before args0 about1) = true := by decide +kernel
set_option maxRecDepth 65536 in
theorem w_t5 : (((((words1.drop 24).drop 24).drop 24).drop 24).take 24).all (fun c => isCode c || c.before args0 about1) = true := by decide +kernel
set_option maxRecDepth 65536 in
theorem w_t6 : (((((words1.drop 24).drop 24).drop 24).drop 24).drop 24).all (fun c => isCode c || c.before args0 about1) = true := by decide +kernel
theorem w_tables : (allAtoms (Jvm.Cond.code x code maxLocals ret :: tables_1)).before args0 about1 = true := by
  rw [allAtoms_all]
  show words1.all (fun c => c.before args0 about1) = true
  refine all_split ?_ w_codes
  rw [← List.take_append_drop 24 words1, List.all_append, w_t1, ← List.take_append_drop 24 (words1.drop 24), List.all_append, w_t2, ← List.take_append_drop 24 ((words1.drop 24).drop 24), List.all_append, w_t3, ← List.take_append_drop 24 (((words1.drop 24).drop 24).drop 24), List.all_append, w_t4, ← List.take_append_drop 24 ((((words1.drop 24).drop 24).drop 24).drop 24), List.all_append, w_t5, w_t6]
  rfl
set_option maxRecDepth 65536 in
theorem w_case : (Jvm.Cond.and given_1 narrow_1).before args0 about1 = true := by decide +kernel
theorem w_applies : (headSpec (Jvm.Cond.code x code maxLocals ret :: tables_1) room_1).applies x e0.platform about1 = true :=
  (Spec.applies_iff w_frames).mpr ⟨w_running, w_runnable, w_alone, w_named, w_hears, w_ripe, w_room, w_tables⟩
theorem atStart : AtStart classFile x code maxLocals ret World_1 tables_1 room_1 Calls_1 rest_1 Pre_1 launch0 p0 e0 about1 theMethod args0 below0 :=
  ⟨lists_1, trivial, launch0.admits_env _ _ _, launch0.least_env, fairChoices_fair.cas, fairChoices_fair.clock, w_frames, w_args, w_heap, w_applies, trivial, trivial, w_case⟩
end start1
theorem witness_1 : WitnessClaimed_1 := ⟨start1.p0, start1.e0, start1.about1, start1.theMethod, start1.args0, start1.below0, start1.atStart⟩
end Jvm.Pilot.@@N@@
