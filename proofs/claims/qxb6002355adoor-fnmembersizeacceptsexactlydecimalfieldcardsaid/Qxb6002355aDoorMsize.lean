import Derived.Test.Qxb6002355aDoorWritten
import Derived.Test.Qxb6002355aDoorShelf
namespace Go.Proofs.Qxb6002355aDoor
open Go.RowKit
set_option maxRecDepth 100000
set_option linter.unusedSimpArgs false
set_option linter.unusedVariables false

theorem dropWhile_is_drop {α : Type} (p : α → Bool) : ∀ l : List α, l.dropWhile p = l.drop (l.length - (l.dropWhile p).length)
  | [] => rfl
  | a :: r => by
    by_cases h : p a = true
    · rw [List.dropWhile_cons_of_pos h]
      have ih := dropWhile_is_drop p r
      have hle : (r.dropWhile p).length ≤ r.length := (List.dropWhile_sublist p).length_le
      rw [show (a :: r).length - (r.dropWhile p).length = (r.length - (r.dropWhile p).length) + 1 by simp; omega, List.drop_succ_cons]
      exact ih
    · rw [List.dropWhile_cons_of_neg h]; simp

theorem trim_take (l : List UInt8) : Lib.trimSpace l = ((l.drop (Lib.spLo l)).take (Lib.trimSpace l).length) := by
  have e1 : l.dropWhile Lib.isSp = l.drop (Lib.spLo l) := dropWhile_is_drop _ l
  have hp : Lib.trimSpace l <+: l.dropWhile Lib.isSp := by
    unfold Lib.trimSpace
    have := List.dropWhile_suffix (l := (l.dropWhile Lib.isSp).reverse) Lib.isSp
    have h2 := List.reverse_prefix.2 this
    simpa using h2
  rw [← e1]
  exact List.prefix_iff_eq_take.1 hp

theorem trim_empty (l : List UInt8) (h : l.dropWhile Lib.isSp = []) : Lib.trimSpace l = [] := by simp [Lib.trimSpace, h]

/-- string(bytes.TrimSpace(field)). -/
theorem conv_trim (W : World) (b o c : Nat) (f : List Int) (hrow : RowU8 W b o f) :
    (convert 22 9 (Lib.bytesTrimSpace b o c (Lib.bytesOf f))).run Tryd.prog W = .ok (.string ⟨(Lib.trimSpace (Lib.bytesOf f)).toArray⟩) W := by
  unfold Lib.bytesTrimSpace
  split
  · rename_i h
    rw [run_convert_bytes_nil (P := Tryd.prog) W 22 5 Tryd.underlying22 Tryd.underlying5 0 0 9 Tryd.underlying9, trim_empty _ h]
    rfl
  · have hlen : (Lib.bytesOf f).length = f.length := by simp [Lib.bytesOf]
    have ht := trim_take (Lib.bytesOf f)
    have hk : Lib.spLo (Lib.bytesOf f) + (Lib.trimSpace (Lib.bytesOf f)).length ≤ f.length := by
      have h1 := congrArg List.length ht
      rw [List.length_take, List.length_drop, hlen] at h1
      have h2 : Lib.spLo (Lib.bytesOf f) ≤ f.length := by unfold Lib.spLo; omega
      omega
    generalize hlo : Lib.spLo (Lib.bytesOf f) = lo at *
    generalize hn : (Lib.trimSpace (Lib.bytesOf f)).length = k at *
    have hc := run_convert_bytes_arg (P := Tryd.prog) W 22 5 Tryd.underlying22 Tryd.underlying5 b (o + lo) k (c - lo) ((f.drop lo).take k) (by rw [List.length_take, List.length_drop]; omega) (fun i hi => by
      have := hrow (lo + i) (by omega)
      rw [show o + lo + i = o + (lo + i) by omega, this]
      simp [List.getD, List.getElem?_take, List.getElem?_drop, hi]) 9 Tryd.underlying9
    rw [hc, ht]
    simp [strOfNums, Lib.bytesOf]

/-- A new error, as errors.New makes it. -/
theorem new_any (s : ByteArray) (w : World) : Calls Tryd.prog 17 #[.string s] w fun e w' => e = .returned (.iface 42 (.pointer (some ⟨w.heap.size, 0, none⟩))) ∧ Below w.heap.size w w' := by
  go_enter Tryd.func17, Tryd.ntmps17
  go_wp2
  go_ret
  exact ⟨rfl, (Below.refl _ _).alloc (Nat.le_refl _) _⟩

theorem field_size (f : List Int) (h : f.length = 10) : (⟨(Lib.trimSpace (Lib.bytesOf f)).toArray⟩ : ByteArray).size ≤ 18 := by
  have h1 := congrArg List.length (trim_take (Lib.bytesOf f))
  rw [List.length_take, List.length_drop] at h1
  have : (Lib.bytesOf f).length = 10 := by simp [Lib.bytesOf, h]
  show ((Lib.trimSpace (Lib.bytesOf f)).toArray).size ≤ 18
  rw [List.size_toArray]
  omega

theorem nth_ascii (f : List Int) (hf : f.length = 10) (hasc : ∀ x ∈ f, 0 ≤ x ∧ x < 128) : ∀ i, i < 10 → 0 ≤ f.getD i 0 ∧ f.getD i 0 < 128 := fun i hi =>
  hasc (f.getD i 0) (by simp [List.getD, show i < f.length by omega])

set_option maxHeartbeats 800000 in
theorem msize14_ok (b o n c : Nat) (f : List Int) (v : Int) (w : World) (hn : 58 ≤ n) (hnc : n ≤ c) (hmax : n ≤ 1048576) (hf : f.length = 10) (hrow : RowU8 w b (o + 48) f) (hasc : ∀ x ∈ f, 0 ≤ x ∧ x < 128) (hv : Vars w)
    (ha : Lib.atoi (Lib.trimSpace (Lib.bytesOf f)) = some v) (h0 : 0 ≤ v) :
    Calls Tryd.prog 14 #[.slice (some ⟨b, o, none⟩) n c] w fun e w' => e = .returned (.tuple #[.int .i64 v, .nilIface]) ∧ Below w.heap.size w w' := by
  have hT := Tryd.bytes_TrimSpace b (o + 48) 10 (c - 48) f w hf (by omega) (by omega) (fun i hi => hrow i (by omega)) (nth_ascii f hf hasc) hv.tab
  have hC := conv_trim w b (o + 48) (c - 48) f hrow
  have hA := Tryd.strconv_Atoi ⟨(Lib.trimSpace (Lib.bytesOf f)).toArray⟩ v (field_size f hf) (by simpa using ha) w
  generalize Lib.bytesTrimSpace b (o + 48) (c - 48) (Lib.bytesOf f) = tv at hT hC
  generalize (⟨(Lib.trimSpace (Lib.bytesOf f)).toArray⟩ : ByteArray) = sv at hA hC
  clear ha hrow hasc
  go_enter Tryd.func14, Tryd.ntmps14
  go_wp2_with fail
  refine hT.mono ?_
  rintro e w1 ⟨rfl, hw⟩
  subst w1
  go_wp2_with fail
  refine hA.mono ?_
  rintro e w1 ⟨rfl, t, hw⟩
  have hb : Below w.heap.size w w1 := by rw [hw]; exact Lib.bytesWorld_below _ _ _
  clear hw hA hT hC
  go_wp2_with fail
  go_ret2
  exact ⟨rfl, hb⟩

set_option maxHeartbeats 800000 in
theorem msize14_neg (b o n c : Nat) (f : List Int) (v : Int) (w : World) (hn : 58 ≤ n) (hnc : n ≤ c) (hmax : n ≤ 1048576) (hf : f.length = 10) (hrow : RowU8 w b (o + 48) f) (hasc : ∀ x ∈ f, 0 ≤ x ∧ x < 128) (hv : Vars w)
    (ha : Lib.atoi (Lib.trimSpace (Lib.bytesOf f)) = some v) (h0 : v < 0) :
    Calls Tryd.prog 14 #[.slice (some ⟨b, o, none⟩) n c] w fun e w' => ∃ te pe, e = .returned (.tuple #[.int .i64 0, .iface te pe]) ∧ Below w.heap.size w w' := by
  have hT := Tryd.bytes_TrimSpace b (o + 48) 10 (c - 48) f w hf (by omega) (by omega) (fun i hi => hrow i (by omega)) (nth_ascii f hf hasc) hv.tab
  have hC := conv_trim w b (o + 48) (c - 48) f hrow
  have hA := Tryd.strconv_Atoi ⟨(Lib.trimSpace (Lib.bytesOf f)).toArray⟩ v (field_size f hf) (by simpa using ha) w
  generalize Lib.bytesTrimSpace b (o + 48) (c - 48) (Lib.bytesOf f) = tv at hT hC
  generalize (⟨(Lib.trimSpace (Lib.bytesOf f)).toArray⟩ : ByteArray) = sv at hA hC
  clear ha hrow hasc
  go_enter Tryd.func14, Tryd.ntmps14
  go_wp2_with fail
  refine hT.mono ?_
  rintro e w1 ⟨rfl, hw⟩
  subst w1
  go_wp2_with fail
  refine hA.mono ?_
  rintro e w1 ⟨rfl, t, hw⟩
  have hb : Below w.heap.size w w1 := by rw [hw]; exact Lib.bytesWorld_below _ _ _
  clear hw hA hT hC
  go_wp2_with fail
  refine (new_any _ _).mono ?_
  rintro e w2 ⟨rfl, hb2⟩
  go_wp2_with fail
  go_ret2
  exact ⟨_, _, rfl, hb.trans (hb2.mono hb.size)⟩

set_option maxHeartbeats 800000 in
theorem msize14_err (b o n c : Nat) (f : List Int) (w : World) (hn : 58 ≤ n) (hnc : n ≤ c) (hmax : n ≤ 1048576) (hf : f.length = 10) (hrow : RowU8 w b (o + 48) f) (hasc : ∀ x ∈ f, 0 ≤ x ∧ x < 128) (hv : Vars w)
    (ha : Lib.atoi (Lib.trimSpace (Lib.bytesOf f)) = none) :
    Calls Tryd.prog 14 #[.slice (some ⟨b, o, none⟩) n c] w fun e w' => ∃ te pe, e = .returned (.tuple #[.int .i64 0, .iface te pe]) ∧ Below w.heap.size w w' := by
  obtain ⟨tp, p, he⟩ := hv.err
  have hT := Tryd.bytes_TrimSpace b (o + 48) 10 (c - 48) f w hf (by omega) (by omega) (fun i hi => hrow i (by omega)) (nth_ascii f hf hasc) hv.tab
  have hC := conv_trim w b (o + 48) (c - 48) f hrow
  have hA := Tryd.strconv_Atoi_err_var ⟨(Lib.trimSpace (Lib.bytesOf f)).toArray⟩ (field_size f hf) (by simpa using ha) tp p w he
  generalize Lib.bytesTrimSpace b (o + 48) (c - 48) (Lib.bytesOf f) = tv at hT hC
  generalize (⟨(Lib.trimSpace (Lib.bytesOf f)).toArray⟩ : ByteArray) = sv at hA hC
  clear ha hrow hasc he
  go_enter Tryd.func14, Tryd.ntmps14
  go_wp2_with fail
  refine hT.mono ?_
  rintro e w1 ⟨rfl, hw⟩
  subst w1
  go_wp2_with fail
  refine hA.mono ?_
  rintro e w1 ⟨N, rfl, _, _, hb⟩
  clear hA hT hC
  go_wp2_with fail
  refine (new_any _ _).mono ?_
  rintro e w2 ⟨rfl, hb2⟩
  go_wp2_with fail
  go_ret2
  exact ⟨_, _, rfl, hb.trans (hb2.mono hb.size)⟩

set_option maxHeartbeats 400000 in
theorem msize_ok : MsizeOk := by
  intro b o n c f v w hn hnc hmax hf hrow hasc hv ha h0
  have hC := msize14_ok b o n c f v w hn hnc hmax hf hrow hasc hv ha h0
  clear ha hrow hasc hv
  go_enter Tryd.func9, Tryd.ntmps9
  go_wp2_with fail
  refine hC.mono ?_
  rintro e w1 ⟨rfl, hb⟩
  clear hC
  go_wp2_with fail
  go_ret2
  exact ⟨rfl, hb⟩

set_option maxHeartbeats 400000 in
theorem msize_err (b o n c : Nat) (f : List Int) (w : World) (hn : 58 ≤ n) (hnc : n ≤ c) (hmax : n ≤ 1048576) (hf : f.length = 10) (hrow : RowU8 w b (o + 48) f) (hasc : ∀ x ∈ f, 0 ≤ x ∧ x < 128) (hv : Vars w)
    (ha : ∀ v, Lib.atoi (Lib.trimSpace (Lib.bytesOf f)) = some v → v < 0) :
    Calls Tryd.prog 9 #[.slice (some ⟨b, o, none⟩) n c] w fun e w' => ∃ te pe, e = .returned (.tuple #[.int .i64 0, .iface te pe]) ∧ Below w.heap.size w w' := by
  have hC : Calls Tryd.prog 14 #[.slice (some ⟨b, o, none⟩) n c] w fun e w' => ∃ te pe, e = .returned (.tuple #[.int .i64 0, .iface te pe]) ∧ Below w.heap.size w w' := by
    cases h : Lib.atoi (Lib.trimSpace (Lib.bytesOf f)) with
    | none => exact msize14_err b o n c f w hn hnc hmax hf hrow hasc hv h
    | some v => exact msize14_neg b o n c f v w hn hnc hmax hf hrow hasc hv h (ha v h)
  clear ha hrow hasc hv
  go_enter Tryd.func9, Tryd.ntmps9
  go_wp2_with fail
  refine hC.mono ?_
  rintro e w1 ⟨te, pe, rfl, hb⟩
  clear hC
  go_wp2_with fail
  go_ret2
  exact ⟨te, pe, rfl, hb⟩
end Go.Proofs.Qxb6002355aDoor
