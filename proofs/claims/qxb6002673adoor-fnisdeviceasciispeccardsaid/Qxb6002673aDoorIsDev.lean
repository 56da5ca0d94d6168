import Derived.Test.Qxb6002673aDoorDev
namespace Go.Proofs.Qxb6002673aDoor
open Go.RowKit
set_option maxRecDepth 100000
set_option linter.unusedSimpArgs false
set_option linter.unusedVariables false

/-- What 'isDevice' answers on ASCII text, by the string in upper case. -/
def DevSaid (s : ByteArray) (w : World) : Prop := Calls Tryd.prog 12 #[.string s] w fun e w' => e = .returned (.bool (modB s)) ∧ Below w.heap.size w w'

theorem up_call (s : ByteArray) (w : World) (hs : s.size ≤ 1048576) (ha : ∀ t, t < s.size → bt s t < 128) :
    Calls Tryd.prog 17 #[.string s] w fun e w' => e = .returned (.string ⟨(U s).toArray⟩) ∧ Below w.heap.size w w' :=
  Tryd.strings_ToUpper_ascii s w (by omega) (fun j b hb => by
    have hj : j < s.size := by have := (List.getElem?_eq_some_iff.1 hb).1; simpa using this
    have := ha j hj
    unfold bt at this
    rw [List.getD, hb] at this
    simp at this
    omega)

set_option maxHeartbeats 400000 in
theorem dev_w0 (s : ByteArray) (w : World) (hs : s.size ≤ 1048576) (ha : ∀ t, t < s.size → bt s t < 128) (hu : U s = [67, 79, 78]) : DevSaid s w := by
  have hup := up_call s w hs ha
  rw [hu] at hup
  have hf : Hid (modB s = true) := mod_yes (by rw [hu]; exact .inl (by decide))
  clear ha hu
  unfold DevSaid
  go_enter Tryd.func12, Tryd.ntmps12
  go_wp2_with fail
  refine hup.mono ?_
  rintro e w1 ⟨rfl, hb⟩
  clear hup
  go_wp2_with fail
  go_ret
  exact ⟨by rw [hf.out]; rfl, hb⟩

set_option maxHeartbeats 400000 in
theorem dev_w1 (s : ByteArray) (w : World) (hs : s.size ≤ 1048576) (ha : ∀ t, t < s.size → bt s t < 128) (hu : U s = [80, 82, 78]) : DevSaid s w := by
  have hup := up_call s w hs ha
  rw [hu] at hup
  have hf : Hid (modB s = true) := mod_yes (by rw [hu]; exact .inl (by decide))
  clear ha hu
  unfold DevSaid
  go_enter Tryd.func12, Tryd.ntmps12
  go_wp2_with fail
  refine hup.mono ?_
  rintro e w1 ⟨rfl, hb⟩
  clear hup
  go_wp2_with fail
  go_ret
  exact ⟨by rw [hf.out]; rfl, hb⟩

set_option maxHeartbeats 400000 in
theorem dev_w2 (s : ByteArray) (w : World) (hs : s.size ≤ 1048576) (ha : ∀ t, t < s.size → bt s t < 128) (hu : U s = [65, 85, 88]) : DevSaid s w := by
  have hup := up_call s w hs ha
  rw [hu] at hup
  have hf : Hid (modB s = true) := mod_yes (by rw [hu]; exact .inl (by decide))
  clear ha hu
  unfold DevSaid
  go_enter Tryd.func12, Tryd.ntmps12
  go_wp2_with fail
  refine hup.mono ?_
  rintro e w1 ⟨rfl, hb⟩
  clear hup
  go_wp2_with fail
  go_ret
  exact ⟨by rw [hf.out]; rfl, hb⟩

set_option maxHeartbeats 400000 in
theorem dev_w3 (s : ByteArray) (w : World) (hs : s.size ≤ 1048576) (ha : ∀ t, t < s.size → bt s t < 128) (hu : U s = [78, 85, 76]) : DevSaid s w := by
  have hup := up_call s w hs ha
  rw [hu] at hup
  have hf : Hid (modB s = true) := mod_yes (by rw [hu]; exact .inl (by decide))
  clear ha hu
  unfold DevSaid
  go_enter Tryd.func12, Tryd.ntmps12
  go_wp2_with fail
  refine hup.mono ?_
  rintro e w1 ⟨rfl, hb⟩
  clear hup
  go_wp2_with fail
  go_ret
  exact ⟨by rw [hf.out]; rfl, hb⟩

set_option maxHeartbeats 400000 in
theorem dev_w4 (s : ByteArray) (w : World) (hs : s.size ≤ 1048576) (ha : ∀ t, t < s.size → bt s t < 128) (hu : U s = [67, 79, 78, 73, 78, 36]) : DevSaid s w := by
  have hup := up_call s w hs ha
  rw [hu] at hup
  have hf : Hid (modB s = true) := mod_yes (by rw [hu]; exact .inl (by decide))
  clear ha hu
  unfold DevSaid
  go_enter Tryd.func12, Tryd.ntmps12
  go_wp2_with fail
  refine hup.mono ?_
  rintro e w1 ⟨rfl, hb⟩
  clear hup
  go_wp2_with fail
  go_ret
  exact ⟨by rw [hf.out]; rfl, hb⟩

set_option maxHeartbeats 400000 in
theorem dev_w5 (s : ByteArray) (w : World) (hs : s.size ≤ 1048576) (ha : ∀ t, t < s.size → bt s t < 128) (hu : U s = [67, 79, 78, 79, 85, 84, 36]) : DevSaid s w := by
  have hup := up_call s w hs ha
  rw [hu] at hup
  have hf : Hid (modB s = true) := mod_yes (by rw [hu]; exact .inl (by decide))
  clear ha hu
  unfold DevSaid
  go_enter Tryd.func12, Tryd.ntmps12
  go_wp2_with fail
  refine hup.mono ?_
  rintro e w1 ⟨rfl, hb⟩
  clear hup
  go_wp2_with fail
  go_ret
  exact ⟨by rw [hf.out]; rfl, hb⟩

/-- The tail behind COM or LPT. -/
structure Tail (tb : ByteArray) : Prop where
  n1 : (tb.toList == [194, 185]) = false
  n2 : (tb.toList == [194, 178]) = false
  n3 : (tb.toList == [194, 179]) = false

theorem tail_of {tb : ByteArray} {t : List UInt8} (ht : tb.data.toList = t) (ha : ∀ x ∈ t, x.toNat < 128) : Tail tb := by
  have key : ∀ y : UInt8, (tb.toList == [194, y]) = false := by
    intro y
    apply beq_eq_false_iff_ne.2
    intro e
    rw [Lib.toList_data, ht] at e
    have := ha 194 (by rw [e]; exact List.mem_cons_self ..)
    simp at this
  exact ⟨key _, key _, key _⟩

/-- What a tail tells. -/
theorem tail_tells (s tb : ByteArray) (ht : tb.data.toList = (U s).drop 3) (hcl : (U s).take 3 = [67, 79, 77] ∨ (U s).take 3 = [76, 80, 84])
    (hno : ¬ (U s = [67, 79, 78] ∨ U s = [80, 82, 78] ∨ U s = [65, 85, 88] ∨ U s = [78, 85, 76] ∨ U s = [67, 79, 78, 73, 78, 36] ∨ U s = [67, 79, 78, 79, 85, 84, 36])) :
    (tb.size = 1 → 48 ≤ bt tb 0 → bt tb 0 ≤ 57 → modB s = true) ∧ (tb.size ≠ 1 ∨ bt tb 0 < 48 ∨ 57 < bt tb 0 → modB s = false) := by
  have h3 : 3 ≤ (U s).length := by
    rcases hcl with h | h <;> (have := congrArg List.length h; rw [List.length_take] at this; simp at this; omega)
  have hsz : tb.size = (U s).length - 3 := by
    have := congrArg List.length ht
    rw [List.length_drop] at this
    simpa using this
  have hbt : bt tb 0 = (((U s).getD 3 0).toNat : Int) := by
    unfold bt
    rw [ht]
    simp [List.getD, List.getElem?_drop]
  constructor
  · intro h1 h2 h3'
    apply mod_yes
    exact .inr ⟨by omega, hcl, by omega, by omega⟩
  · intro h
    apply mod_no
    rintro (hw | ⟨h4, _, h5, h6⟩)
    · exact hno hw
    · omega

set_option maxHeartbeats 1000000 in
theorem dev_other (s : ByteArray) (w : World) (hs : s.size ≤ 1048576) (ha : ∀ t, t < s.size → bt s t < 128)
    (hno : ¬ (U s = [67, 79, 78] ∨ U s = [80, 82, 78] ∨ U s = [65, 85, 88] ∨ U s = [78, 85, 76] ∨ U s = [67, 79, 78, 73, 78, 36] ∨ U s = [67, 79, 78, 79, 85, 84, 36])) : DevSaid s w := by
  have hup := up_call s w hs ha
  have hw0 : ¬ U s = [67, 79, 78] := fun h => hno (.inl h)
  have hw1 : ¬ U s = [80, 82, 78] := fun h => hno (.inr (.inl h))
  have hw2 : ¬ U s = [65, 85, 88] := fun h => hno (.inr (.inr (.inl h)))
  have hw3 : ¬ U s = [78, 85, 76] := fun h => hno (.inr (.inr (.inr (.inl h))))
  have hw4 : ¬ U s = [67, 79, 78, 73, 78, 36] := fun h => hno (.inr (.inr (.inr (.inr (.inl h)))))
  have hw5 : ¬ U s = [67, 79, 78, 79, 85, 84, 36] := fun h => hno (.inr (.inr (.inr (.inr (.inr (h))))))
  have k0 : ((⟨(U s).toArray⟩ : ByteArray).toList == [67, 79, 78]) = false := by rw [Lib.toList_data]; exact beq_eq_false_iff_ne.2 (by simpa using hw0)
  have k1 : ((⟨(U s).toArray⟩ : ByteArray).toList == [80, 82, 78]) = false := by rw [Lib.toList_data]; exact beq_eq_false_iff_ne.2 (by simpa using hw1)
  have k2 : ((⟨(U s).toArray⟩ : ByteArray).toList == [65, 85, 88]) = false := by rw [Lib.toList_data]; exact beq_eq_false_iff_ne.2 (by simpa using hw2)
  have k3 : ((⟨(U s).toArray⟩ : ByteArray).toList == [78, 85, 76]) = false := by rw [Lib.toList_data]; exact beq_eq_false_iff_ne.2 (by simpa using hw3)
  have k4 : ((⟨(U s).toArray⟩ : ByteArray).toList == [67, 79, 78, 73, 78, 36]) = false := by rw [Lib.toList_data]; exact beq_eq_false_iff_ne.2 (by simpa using hw4)
  have k5 : ((⟨(U s).toArray⟩ : ByteArray).toList == [67, 79, 78, 79, 85, 84, 36]) = false := by rw [Lib.toList_data]; exact beq_eq_false_iff_ne.2 (by simpa using hw5)
  have hasc : ∀ x ∈ (U s).drop 3, x.toNat < 128 := fun x hx => U_ascii s ha x (List.mem_of_mem_drop hx)
  have hcC : ∀ w1, Calls Tryd.prog 18 #[.string ⟨(U s).toArray⟩, .string ⟨#[67, 79, 77]⟩] w1 fun e w' => e = .returned (.tuple #[.string ⟨(Lib.trimPrefix (U s) [67, 79, 77]).toArray⟩, .bool (Lib.hasPrefix (U s) [67, 79, 77])]) ∧ w' = w1 := fun w1 => Tryd.strings_CutPrefix ⟨(U s).toArray⟩ ⟨#[67, 79, 77]⟩ w1
  have hcL : ∀ w1, Calls Tryd.prog 18 #[.string ⟨(U s).toArray⟩, .string ⟨#[76, 80, 84]⟩] w1 fun e w' => e = .returned (.tuple #[.string ⟨(Lib.trimPrefix (U s) [76, 80, 84]).toArray⟩, .bool (Lib.hasPrefix (U s) [76, 80, 84])]) ∧ w' = w1 := fun w1 => Tryd.strings_CutPrefix ⟨(U s).toArray⟩ ⟨#[76, 80, 84]⟩ w1
  unfold DevSaid
  cases hC : Lib.hasPrefix (U s) [67, 79, 77] with
  | true =>
    have htr : Lib.trimPrefix (U s) [67, 79, 77] = (U s).drop 3 := by unfold Lib.trimPrefix; rw [if_pos hC]; rfl
    rw [hC, htr] at hcC
    have HT := tail_tells s ⟨((U s).drop 3).toArray⟩ rfl (.inl ((pre_iff _ _).1 hC)) hno
    have htl : Tail ⟨((U s).drop 3).toArray⟩ := tail_of rfl hasc
    have HTT : Hid (_ ∧ _) := HT
    clear HT hcL hC htr hasc hno ha hw0 hw1 hw2 hw3 hw4 hw5
    have HT := HTT
    clear HTT
    generalize (⟨((U s).drop 3).toArray⟩ : ByteArray) = tb at *
    generalize (⟨(U s).toArray⟩ : ByteArray) = r at *
    have HC : Hid _ := hcC
    clear hcC
    go_enter Tryd.func12, Tryd.ntmps12
    go_wp2_with fail
    refine hup.mono ?_
    rintro e w1 ⟨rfl, hb1⟩
    clear hup
    go_wp2_with fail
    refine (HC.out _).mono ?_
    rintro e w2 ⟨rfl, hw⟩
    subst w2
    obtain ⟨n1, n2, n3⟩ := htl
    by_cases hone : tb.size = 1
    · have hq : ((tb.size : Int) == 1) = true := by simp; omega
      have hb0 := bt_at tb 0 (by omega)
      have hlt0 : (0 : Int) < (tb.size : Int) := by omega
      have hb := bt_bd tb 0
      by_cases hlo : 48 ≤ bt tb 0
      · by_cases hhi : bt tb 0 ≤ 57
        · have hf : Hid (modB s = true) := HT.out.1 hone hlo hhi
          go_wp2_with fail
          go_ret
          exact ⟨by rw [hf.out]; rfl, hb1⟩
        · have hf : Hid (modB s = false) := HT.out.2 (by omega)
          have hdd : decide (bt tb 0 ≤ 57) = false := decide_eq_false hhi
          go_wp2_with fail
          go_ret
          exact ⟨by rw [hf.out]; rfl, hb1⟩
      · have hf : Hid (modB s = false) := HT.out.2 (by omega)
        go_wp2_with fail
        go_ret
        exact ⟨by rw [hf.out]; rfl, hb1⟩
    · have hq : ((tb.size : Int) == 1) = false := by simp; omega
      have hf : Hid (modB s = false) := HT.out.2 (by omega)
      go_wp2_with fail
      go_ret
      exact ⟨by rw [hf.out]; rfl, hb1⟩
  | false =>
    rw [hC] at hcC
    cases hL : Lib.hasPrefix (U s) [76, 80, 84] with
    | true =>
      have htr : Lib.trimPrefix (U s) [76, 80, 84] = (U s).drop 3 := by unfold Lib.trimPrefix; rw [if_pos hL]; rfl
      rw [hL, htr] at hcL
      have HT := tail_tells s ⟨((U s).drop 3).toArray⟩ rfl (.inr ((pre_iff _ _).1 hL)) hno
      have htl : Tail ⟨((U s).drop 3).toArray⟩ := tail_of rfl hasc
      have HTT : Hid (_ ∧ _) := HT
      clear HT hL hC htr hasc hno ha hw0 hw1 hw2 hw3 hw4 hw5
      have HT := HTT
      clear HTT
      generalize (⟨((U s).drop 3).toArray⟩ : ByteArray) = tb at *
      generalize (⟨(Lib.trimPrefix (U s) [67, 79, 77]).toArray⟩ : ByteArray) = tc at *
      generalize (⟨(U s).toArray⟩ : ByteArray) = r at *
      have HC : Hid _ := hcC
      have HL : Hid _ := hcL
      clear hcC hcL
      go_enter Tryd.func12, Tryd.ntmps12
      go_wp2_with fail
      refine hup.mono ?_
      rintro e w1 ⟨rfl, hb1⟩
      clear hup
      go_wp2_with fail
      refine (HC.out _).mono ?_
      rintro e w2 ⟨rfl, hw⟩
      subst w2
      go_wp2_with fail
      refine (HL.out _).mono ?_
      rintro e w2 ⟨rfl, hw⟩
      subst w2
      obtain ⟨n1, n2, n3⟩ := htl
      by_cases hone : tb.size = 1
      · have hq : ((tb.size : Int) == 1) = true := by simp; omega
        have hb0 := bt_at tb 0 (by omega)
        have hlt0 : (0 : Int) < (tb.size : Int) := by omega
        have hb := bt_bd tb 0
        by_cases hlo : 48 ≤ bt tb 0
        · by_cases hhi : bt tb 0 ≤ 57
          · have hf : Hid (modB s = true) := HT.out.1 hone hlo hhi
            go_wp2_with fail
            go_ret
            exact ⟨by rw [hf.out]; rfl, hb1⟩
          · have hf : Hid (modB s = false) := HT.out.2 (by omega)
            have hdd : decide (bt tb 0 ≤ 57) = false := decide_eq_false hhi
            go_wp2_with fail
            go_ret
            exact ⟨by rw [hf.out]; rfl, hb1⟩
        · have hf : Hid (modB s = false) := HT.out.2 (by omega)
          go_wp2_with fail
          go_ret
          exact ⟨by rw [hf.out]; rfl, hb1⟩
      · have hq : ((tb.size : Int) == 1) = false := by simp; omega
        have hf : Hid (modB s = false) := HT.out.2 (by omega)
        go_wp2_with fail
        go_ret
        exact ⟨by rw [hf.out]; rfl, hb1⟩
    | false =>
      rw [hL] at hcL
      have hf : Hid (modB s = false) := mod_no (by
        rintro (hw | ⟨h4, h, _⟩)
        · exact hno hw
        · rcases h with h | h
          · rw [(pre_iff (U s) [67, 79, 77]).2 h] at hC; cases hC
          · rw [(pre_iff (U s) [76, 80, 84]).2 h] at hL; cases hL)
      clear hL hC hasc hno ha hw0 hw1 hw2 hw3 hw4 hw5
      generalize (⟨(Lib.trimPrefix (U s) [67, 79, 77]).toArray⟩ : ByteArray) = tc at *
      generalize (⟨(Lib.trimPrefix (U s) [76, 80, 84]).toArray⟩ : ByteArray) = tl at *
      generalize (⟨(U s).toArray⟩ : ByteArray) = r at *
      have HC : Hid _ := hcC
      have HL : Hid _ := hcL
      clear hcC hcL
      go_enter Tryd.func12, Tryd.ntmps12
      go_wp2_with fail
      refine hup.mono ?_
      rintro e w1 ⟨rfl, hb1⟩
      clear hup
      go_wp2_with fail
      refine (HC.out _).mono ?_
      rintro e w2 ⟨rfl, hw⟩
      subst w2
      go_wp2_with fail
      refine (HL.out _).mono ?_
      rintro e w2 ⟨rfl, hw⟩
      subst w2
      go_wp2_with fail
      go_ret
      exact ⟨by rw [hf.out]; rfl, hb1⟩
end Go.Proofs.Qxb6002673aDoor
