import Derived.Test.Qxb6002673aDoorFold
namespace Go.Proofs.Qxb6002673aDoor
open Go.RowKit
set_option maxRecDepth 100000
set_option linter.unusedSimpArgs false
set_option linter.unusedVariables false

theorem upperB_toNat (b : UInt8) : (((Lib.upperB b).toNat : Nat) : Int) = upI ((b.toNat : Nat) : Int) := by
  have hb := UInt8.toNat_lt b
  unfold Lib.upperB Lib.isLowerB upI
  by_cases h : 97 ≤ b.toNat ∧ b.toNat ≤ 122
  · have h1 : (97 ≤ b && b ≤ 122) = true := by
      simp only [Bool.and_eq_true, decide_eq_true_iff, UInt8.le_iff_toNat_le]
      exact h
    rw [if_pos (by simpa using h1), if_pos (by omega), UInt8.toNat_sub_of_le]
    · show (((b.toNat - 32 : Nat)) : Int) = _
      omega
    · rw [UInt8.le_iff_toNat_le]
      show 32 ≤ b.toNat
      omega
  · have h1 : (97 ≤ b && b ≤ 122) = false := by
      apply Bool.eq_false_iff.2
      intro e
      simp only [Bool.and_eq_true, decide_eq_true_iff, UInt8.le_iff_toNat_le] at e
      exact h e
    rw [if_neg (by simpa using h1), if_neg (by omega)]

/-- The string in upper case. -/
def U (s : ByteArray) : List UInt8 := Lib.toUpperA s.data.toList
theorem U_length (s : ByteArray) : (U s).length = s.size := by simp [U, Lib.toUpperA]
theorem U_at (s : ByteArray) (t : Nat) (h : t < s.size) : ((((U s).getD t 0).toNat : Nat) : Int) = upI (bt s t) := by
  have hl : t < s.data.toList.length := by simpa using h
  unfold U Lib.toUpperA bt
  rw [List.getD, List.getElem?_map, List.getElem?_eq_getElem hl, List.getD, List.getElem?_eq_getElem hl]
  exact upperB_toNat _

theorem fold_iff (a b : ByteArray) : foldB a b = true ↔ U a = U b := by
  unfold foldB
  rw [decide_eq_true_iff]
  constructor
  · rintro ⟨h1, h2⟩
    apply List.ext_getElem
    · rw [U_length, U_length, h1]
    · intro t ha hb
      rw [U_length] at ha hb
      have e := h2 t ha
      rw [← U_at a t ha, ← U_at b t hb] at e
      apply UInt8.toNat_inj.1
      simp [List.getD, U_length, ha, hb] at e
      omega
  · intro h
    have hs : a.size = b.size := by rw [← U_length, ← U_length, h]
    refine ⟨hs, fun t ht => ?_⟩
    rw [← U_at a t ht, ← U_at b t (by omega), h]

theorem U_extract (s : ByteArray) : U (s.extract 0 3) = (U s).take 3 := by
  unfold U Lib.toUpperA
  rw [← List.map_take]
  congr 1
  simp [ByteArray.data_extract]

/-- What the model says, in upper case. -/
def devP (u : List UInt8) : Prop := (u = [67, 79, 78] ∨ u = [80, 82, 78] ∨ u = [65, 85, 88] ∨ u = [78, 85, 76] ∨ u = [67, 79, 78, 73, 78, 36] ∨ u = [67, 79, 78, 79, 85, 84, 36]) ∨
  (u.length = 4 ∧ (u.take 3 = [67, 79, 77] ∨ u.take 3 = [76, 80, 84]) ∧ 48 ≤ (u.getD 3 0).toNat ∧ (u.getD 3 0).toNat ≤ 57)

theorem U_word (j : Nat) : U (word j) = (word j).data.toList := by
  unfold word
  split <;> decide

theorem upI_digit (x : Int) : (48 ≤ upI x ∧ upI x ≤ 57) ↔ (48 ≤ x ∧ x ≤ 57) := by
  unfold upI
  split <;> omega

theorem mod_dev (s : ByteArray) : modP s ↔ devP (U s) := by
  unfold modP devP
  have hw : (∃ j, j < 6 ∧ foldB s (word j) = true) ↔ (U s = [67, 79, 78] ∨ U s = [80, 82, 78] ∨ U s = [65, 85, 88] ∨ U s = [78, 85, 76] ∨ U s = [67, 79, 78, 73, 78, 36] ∨ U s = [67, 79, 78, 79, 85, 84, 36]) := by
    constructor
    · rintro ⟨j, hj, hf⟩
      rw [fold_iff, U_word] at hf
      match j, hj with
      | 0, _ => exact .inl hf
      | 1, _ => exact .inr (.inl hf)
      | 2, _ => exact .inr (.inr (.inl hf))
      | 3, _ => exact .inr (.inr (.inr (.inl hf)))
      | 4, _ => exact .inr (.inr (.inr (.inr (.inl hf))))
      | 5, _ => exact .inr (.inr (.inr (.inr (.inr hf))))
    · rintro (h | h | h | h | h | h)
      · exact ⟨0, by omega, by rw [fold_iff, U_word]; exact h⟩
      · exact ⟨1, by omega, by rw [fold_iff, U_word]; exact h⟩
      · exact ⟨2, by omega, by rw [fold_iff, U_word]; exact h⟩
      · exact ⟨3, by omega, by rw [fold_iff, U_word]; exact h⟩
      · exact ⟨4, by omega, by rw [fold_iff, U_word]; exact h⟩
      · exact ⟨5, by omega, by rw [fold_iff, U_word]; exact h⟩
  have hc : foldB (s.extract 0 3) sCOM = true ↔ (U s).take 3 = [67, 79, 77] := by rw [fold_iff, U_extract, show U sCOM = [67, 79, 77] by decide]
  have hl : foldB (s.extract 0 3) sLPT = true ↔ (U s).take 3 = [76, 80, 84] := by rw [fold_iff, U_extract, show U sLPT = [76, 80, 84] by decide]
  rw [hw, hc, hl, U_length]
  refine or_congr Iff.rfl ?_
  constructor
  · rintro ⟨h4, h, h1, h2⟩
    have := U_at s 3 (by omega)
    have hd := (upI_digit (bt s 3)).2 ⟨h1, h2⟩
    exact ⟨h4, h, by omega, by omega⟩
  · rintro ⟨h4, h, h1, h2⟩
    have := U_at s 3 (by omega)
    have hd := (upI_digit (bt s 3)).1 ⟨by omega, by omega⟩
    exact ⟨h4, h, hd.1, hd.2⟩

theorem U_ascii (s : ByteArray) (h : ∀ t, t < s.size → bt s t < 128) : ∀ x ∈ U s, x.toNat < 128 := by
  intro x hx
  obtain ⟨t, ht⟩ := List.mem_iff_getElem?.1 hx
  have hl : t < s.size := by rw [← U_length]; exact (List.getElem?_eq_some_iff.1 ht).1
  have h1 := U_at s t hl
  rw [List.getD, ht] at h1
  have h2 := h t hl
  have h0 := bt_bd s t
  have : upI (bt s t) < 128 := by unfold upI; split <;> omega
  simp at h1
  omega

theorem mod_yes {s : ByteArray} (h : devP (U s)) : modB s = true := modB_true ((mod_dev s).2 h)
theorem mod_no {s : ByteArray} (h : ¬ devP (U s)) : modB s = false := modB_false (fun hm => h ((mod_dev s).1 hm))

theorem pre_iff (u p : List UInt8) : Lib.hasPrefix u p = true ↔ u.take p.length = p := by
  unfold Lib.hasPrefix
  rw [List.isPrefixOf_iff_prefix, List.prefix_iff_eq_take]
  exact eq_comm
end Go.Proofs.Qxb6002673aDoor
