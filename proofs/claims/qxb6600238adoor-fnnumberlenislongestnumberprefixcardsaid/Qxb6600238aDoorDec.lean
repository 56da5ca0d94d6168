import Derived.Test.Qxb6600238aDoorNum
namespace Go.Proofs.Qxb6600238aDoor
open Go.RowKit
set_option maxRecDepth 100000
set_option linter.unusedSimpArgs false
set_option linter.unusedVariables false

def headB (s : ByteArray) : Bool := decide (2 < s.size) && decide (nth s.data.toList 0 = 48) && (decide (nth s.data.toList 1 = 120) || decide (nth s.data.toList 1 = 88))

def dotB (s : ByteArray) (n : Nat) : Bool := decide (n < s.size) && decide (nth s.data.toList n = 46)

theorem mant_dot (s : ByteArray) (h : dotB s (run decB s.data.toList) = true) : mant s.data.toList = run decB s.data.toList + (1 + run decB (s.data.toList.drop (run decB s.data.toList + 1))) ∧ run decB s.data.toList < s.size := by
  simp only [dotB, Bool.and_eq_true, decide_eq_true_iff] at h
  unfold mant
  rw [if_pos ⟨by rw [← size_len]; exact h.1, h.2⟩]
  exact ⟨rfl, h.1⟩
theorem mant_plain (s : ByteArray) (h : dotB s (run decB s.data.toList) = false) : mant s.data.toList = run decB s.data.toList := by
  simp only [dotB, Bool.and_eq_false_iff, decide_eq_false_iff_not] at h
  unfold mant
  rw [if_neg (by rw [← size_len]; rintro ⟨a, b⟩; rcases h with h | h; exact h a; exact h b)]
theorem mant_le (l : List UInt8) : mant l ≤ l.length := by
  unfold mant
  have := run_le decB l
  have h2 := run_le decB (l.drop (run decB l + 1))
  rw [List.length_drop] at h2
  split
  · rename_i h; omega
  · exact this
theorem take_ext (s : ByteArray) (m : Nat) (h : m ≤ s.size) : (s.extract 0 m).toList = s.data.toList.take m := by
  rw [Lib.toList_data]
  simp [ByteArray.data_extract]

theorem ret_nat {a b : Int} (h : b = a) : Ending.returned (.int .i64 a) = .returned (.int .i64 b) := by rw [h]

theorem with_e (s : ByteArray) (m : Nat) (hlt : m < s.size) (hE : nth s.data.toList m = 101 ∨ nth s.data.toList m = 69) :
    withExp s.data.toList m = if 0 < run decB (s.data.toList.drop (expAt s.data.toList m)) then expAt s.data.toList m + run decB (s.data.toList.drop (expAt s.data.toList m)) else m := by
  unfold withExp
  rw [← size_len]
  by_cases h : 0 < run decB (s.data.toList.drop (expAt s.data.toList m))
  · rw [if_pos ⟨hlt, hE, h⟩, if_pos h]
  · rw [if_neg (fun h' => h h'.2.2), if_neg h]
theorem exp_sign (s : ByteArray) (m : Nat) (hx : m + 1 < s.size) (h : nth s.data.toList (m + 1) = 43 ∨ nth s.data.toList (m + 1) = 45) : expAt s.data.toList m = m + 2 := by
  unfold expAt
  rw [if_pos ⟨by rw [← size_len]; exact hx, h⟩]
theorem exp_plain (s : ByteArray) (m : Nat) (h : nth s.data.toList (m + 1) ≠ 43 ∧ nth s.data.toList (m + 1) ≠ 45) : expAt s.data.toList m = m + 1 := by
  unfold expAt
  rw [if_neg (by rintro ⟨_, h' | h'⟩; exact h.1 h'; exact h.2 h')]
theorem exp_end (s : ByteArray) (m : Nat) (hx : ¬ m + 1 < s.size) : expAt s.data.toList m = m + 1 := by
  unfold expAt
  rw [if_neg (by rw [← size_len]; rintro ⟨h, _⟩; exact hx h)]

set_option maxHeartbeats 4000000 in
theorem num_dec (s : ByteArray) (w : World) (hs : s.size ≤ 1048576) (hh : ¬ isHexNum s.data.toList) :
    Calls Tryd.prog 12 #[.string s] w fun e w' => e = .returned (.int .i64 (decLen s.data.toList)) ∧ Below w.heap.size w w' := by
  have HX : Hid (headB s = true → run hexB (s.data.toList.drop 2) = 0) := fun h => by
    simp only [headB, Bool.and_eq_true, Bool.or_eq_true, decide_eq_true_iff] at h
    have hhd : hexHead s.data.toList := ⟨by rw [← size_len]; exact h.1.1, h.1.2, h.2⟩
    apply Nat.eq_zero_of_not_pos
    intro hp
    exact hh ⟨hhd, hp⟩
  clear hh
  go_enter Tryd.func12, Tryd.ntmps12
  go_upto_region 1 with fail
  go_cut [24] (fun s24 wx => s24 = .bool (headB s) ∧ wx = w)
  case first =>
    by_cases hA : 2 < s.size
    · have a0 := nth_at s 0 (by omega)
      have a1 := nth_at s 1 (by omega)
      have hA' : (2 : Int) < (s.size : Int) := by omega
      by_cases hB : nth s.data.toList 0 = 48
      · have qB : (nth s.data.toList 0 == 48) = true := beq_iff_eq.2 hB
        by_cases hC : nth s.data.toList 1 = 120
        · have qC : (nth s.data.toList 1 == 120) = true := beq_iff_eq.2 hC
          have hd : Hid (headB s = true) := (by simp [headB, hA, hB, hC] : headB s = true)
          clear hB hC
          go_wp2_with fail
          go_meet
          exact ⟨by rw [hd.out], rfl⟩
        · have qC : (nth s.data.toList 1 == 120) = false := beq_eq_false_iff_ne.2 hC
          by_cases hD : nth s.data.toList 1 = 88
          · have qD : (nth s.data.toList 1 == 88) = true := beq_iff_eq.2 hD
            have hd : Hid (headB s = true) := (by simp [headB, hA, hB, hC, hD] : headB s = true)
            clear hB hC hD
            go_wp2_with fail
            go_meet
            exact ⟨by rw [hd.out], rfl⟩
          · have qD : (nth s.data.toList 1 == 88) = false := beq_eq_false_iff_ne.2 hD
            have hd : Hid (headB s = false) := (by simp [headB, hA, hB, hC, hD] : headB s = false)
            clear hB hC hD
            go_wp2_with fail
            go_meet
            exact ⟨by rw [hd.out], rfl⟩
      · have qB : (nth s.data.toList 0 == 48) = false := beq_eq_false_iff_ne.2 hB
        have hd : Hid (headB s = false) := (by simp [headB, hA, hB] : headB s = false)
        clear hB
        go_wp2_with fail
        go_meet
        exact ⟨by rw [hd.out], rfl⟩
    · have hA' : ¬ (2 : Int) < (s.size : Int) := by omega
      have hd : Hid (headB s = false) := (by simp [headB, hA] : headB s = false)
      go_wp2_with fail
      go_meet
      exact ⟨by rw [hd.out], rfl⟩
  case rest =>
  obtain ⟨h1, h2⟩ := hcut
  subst h1
  subst wc
  go_upto_if 24 with fail
  go_cut [] (fun wx => Below w.heap.size w wx)
  case first =>
    cases hb : headB s with
    | false =>
      clear HX
      go_wp2_with fail
      go_meet
      exact Below.refl _ _
    | true =>
      have h2s : (2 : Int) ≤ (s.size : Int) := by
        simp only [headB, Bool.and_eq_true, decide_eq_true_iff] at hb
        omega
      have hcon := pre_hex_at s 2 w hs
      rw [HX.out hb] at hcon
      clear HX hb
      go_wp2_with fail
      refine hcon.mono ?_
      rintro e w1 ⟨rfl, hb1⟩
      clear hcon
      go_wp2_with fail
      go_meet
      exact hb1
  case rest =>
  have hb1 := hcut
  clear hcut
  have hz1 := hb1.size
  have hn0 := run_le decB s.data.toList
  rw [← size_len] at hn0
  go_wp2_with fail
  refine (pre_dec s _ hs).mono ?_
  rintro e w2 ⟨rfl, hb2⟩
  have hz2 := hb2.size
  have hbb2 : Below w.heap.size w w2 := hb1.trans (hb2.mono hz1)
  clear hb1 hb2
  have HD : Hid (dotB s (run decB s.data.toList) = true → mant s.data.toList = run decB s.data.toList + (1 + run decB (s.data.toList.drop (run decB s.data.toList + 1))) ∧ run decB s.data.toList < s.size) := mant_dot s
  have HP : Hid (dotB s (run decB s.data.toList) = false → mant s.data.toList = run decB s.data.toList) := mant_plain s
  have hd1 := run_le decB (s.data.toList.drop (run decB s.data.toList + 1))
  rw [List.length_drop, ← size_len] at hd1
  have HC1 : Hid (∀ W, Calls Tryd.prog 15 #[.string (s.extract (run decB s.data.toList + 1) s.size), .string sDec] W fun e w' => e = .returned (.int .i64 (run decB (s.data.toList.drop (run decB s.data.toList + 1)))) ∧ Below W.heap.size W w') := fun W => pre_dec_at s _ W hs
  generalize hN0 : run decB s.data.toList = n0 at *
  clear hN0
  generalize run decB (s.data.toList.drop (n0 + 1)) = d1 at *
  go_upto_region 6 with fail
  go_cut [43] (fun s43 wx => s43 = .bool (dotB s n0) ∧ wx = w2)
  case first =>
    by_cases hA : n0 < s.size
    · have hA' : decide ((n0 : Int) < (s.size : Int)) = true := by simp; omega
      have a0 := nth_at s n0 hA
      by_cases hB : nth s.data.toList n0 = 46
      · have qB : (nth s.data.toList n0 == 46) = true := beq_iff_eq.2 hB
        have hd : Hid (dotB s n0 = true) := (by simp [dotB, hA, hB] : dotB s n0 = true)
        clear hB HD HP HC1
        go_wp2_with fail
        go_meet
        exact ⟨by rw [hd.out], rfl⟩
      · have qB : (nth s.data.toList n0 == 46) = false := beq_eq_false_iff_ne.2 hB
        have hd : Hid (dotB s n0 = false) := (by simp [dotB, hB] : dotB s n0 = false)
        clear hB HD HP HC1
        go_wp2_with fail
        go_meet
        exact ⟨by rw [hd.out], rfl⟩
    · have hA' : decide ((n0 : Int) < (s.size : Int)) = false := by simp; omega
      have hd : Hid (dotB s n0 = false) := (by simp [dotB, hA] : dotB s n0 = false)
      clear HD HP HC1
      go_wp2_with fail
      go_meet
      exact ⟨by rw [hd.out], rfl⟩
  case rest =>
  obtain ⟨h1, h2⟩ := hcut
  subst h1
  subst wc
  go_upto_if 43 with fail
  go_cut [4] (fun s4 wx => s4 = .int .i64 (mant s.data.toList) ∧ Below w.heap.size w wx)
  case first =>
    cases hb : dotB s n0 with
    | false =>
      have hm : Hid (mant s.data.toList = n0) := HP.out hb
      clear HP HD HC1 hb
      go_wp2_with fail
      go_meet
      exact ⟨by rw [hm.out], hbb2⟩
    | true =>
      have hm : Hid (mant s.data.toList = n0 + (1 + d1)) := (HD.out hb).1
      have hlt := (HD.out hb).2
      have hcon := HC1.out w2
      clear HP HD HC1 hb
      go_wp2_with fail
      refine hcon.mono ?_
      rintro e w3 ⟨rfl, hb3⟩
      clear hcon
      go_wp2_with fail
      go_meet
      exact ⟨by rw [hm.out]; go_num, hbb2.trans (hb3.mono (by omega))⟩
  case rest =>
  obtain ⟨h1, hb3⟩ := hcut
  subst h1
  clear HP HD HC1 hbb2
  have hz3 := hb3.size
  have hml := mant_le s.data.toList
  rw [← size_len] at hml
  have H0 : Hid (mant s.data.toList = 0 ∨ s.data.toList.take (mant s.data.toList) = [46] → decLen s.data.toList = 0) := fun h => by unfold decLen; rw [if_pos h]
  have H1 : Hid (¬ (mant s.data.toList = 0 ∨ s.data.toList.take (mant s.data.toList) = [46]) → decLen s.data.toList = withExp s.data.toList (mant s.data.toList)) := fun h => by unfold decLen; rw [if_neg h]
  generalize mant s.data.toList = m at *
  have htk := take_ext s m hml
  by_cases hm0 : m = 0
  · have hf : Hid (decLen s.data.toList = 0) := H0.out (.inl hm0)
    have hq : ((m : Int) == 0) = true := by rw [beq_iff_eq]; omega
    clear H0 H1 htk
    subst hm0
    go_wp2_with fail
    go_ret
    exact ⟨ret_nat (by rw [hf.out]; rfl), hb3⟩
  have hq0 : ((m : Int) == 0) = false := beq_eq_false_iff_ne.2 (by omega)
  by_cases hdot : s.data.toList.take m = [46]
  · have hf : Hid (decLen s.data.toList = 0) := H0.out (.inr hdot)
    have hq : ((s.extract 0 m).toList == [46]) = true := by rw [htk, hdot]; rfl
    clear H0 H1 htk hdot
    go_wp2_with fail
    go_ret
    exact ⟨ret_nat (by rw [hf.out]; rfl), hb3⟩
  have hqd : ((s.extract 0 m).toList == [46]) = false := by rw [htk]; exact beq_eq_false_iff_ne.2 hdot
  have hdec : Hid (decLen s.data.toList = withExp s.data.toList m) := H1.out (by rintro (h | h); exact hm0 h; exact hdot h)
  clear H0 H1 htk hdot
  by_cases hlt : m < s.size
  · have a0 := nth_at s m hlt
    have hdl : decide ((m : Int) < (s.size : Int)) = true := by simp; omega
    by_cases hE : nth s.data.toList m = 101 ∨ nth s.data.toList m = 69
    · have HEE : Hid (nth s.data.toList m = 101 ∨ nth s.data.toList m = 69) := hE
      rcases hE with hE | hE
      all_goals
        rw [hE] at a0
        clear hE
        have hE := HEE
        clear HEE
        by_cases hx : m + 1 < s.size
        · have hdx : decide ((m : Int) + 1 < (s.size : Int)) = true := by simp; omega
          have a1 := nth_at s (m + 1) hx
          by_cases hs1 : nth s.data.toList (m + 1) = 43
          · rw [hs1] at a1
            have HS1 : Hid (nth s.data.toList (m + 1) = 43) := hs1
            clear hs1
            have HCE := pre_dec_at s (m + 2) wc hs
            have hde := run_le decB (s.data.toList.drop (m + 2))
            rw [List.length_drop, ← size_len] at hde
            have hw : Hid (decLen s.data.toList = if 0 < run decB (s.data.toList.drop (m + 2)) then (m + 2) + run decB (s.data.toList.drop (m + 2)) else m) := by
              refine hdec.out.trans ?_
              rw [with_e s m hlt hE.out, exp_sign s m hx (.inl HS1.out)]
            generalize run decB (s.data.toList.drop (m + 2)) = d at *
            go_wp2_with fail
            refine HCE.mono ?_
            rintro e w4 ⟨rfl, hb4⟩
            clear HCE
            by_cases hd0 : 0 < d
            · have hf : Hid (decLen s.data.toList = (m + 2) + d) := by rw [Hid, hw.out, if_pos hd0]
              go_wp2_with fail
              go_ret
              exact ⟨ret_nat (by rw [hf.out]; omega), hb3.trans (hb4.mono (by omega))⟩
            · have hf : Hid (decLen s.data.toList = m) := by rw [Hid, hw.out, if_neg hd0]
              go_wp2_with fail
              go_ret
              exact ⟨ret_nat (by rw [hf.out]), hb3.trans (hb4.mono (by omega))⟩
          · by_cases hs2 : nth s.data.toList (m + 1) = 45
            · rw [hs2] at a1
              have HS1 : Hid (nth s.data.toList (m + 1) = 45) := hs2
              clear hs2 hs1
              have HCE := pre_dec_at s (m + 2) wc hs
              have hde := run_le decB (s.data.toList.drop (m + 2))
              rw [List.length_drop, ← size_len] at hde
              have hw : Hid (decLen s.data.toList = if 0 < run decB (s.data.toList.drop (m + 2)) then (m + 2) + run decB (s.data.toList.drop (m + 2)) else m) := by
                refine hdec.out.trans ?_
                rw [with_e s m hlt hE.out, exp_sign s m hx (.inr HS1.out)]
              generalize run decB (s.data.toList.drop (m + 2)) = d at *
              go_wp2_with fail
              refine HCE.mono ?_
              rintro e w4 ⟨rfl, hb4⟩
              clear HCE
              by_cases hd0 : 0 < d
              · have hf : Hid (decLen s.data.toList = (m + 2) + d) := by rw [Hid, hw.out, if_pos hd0]
                go_wp2_with fail
                go_ret
                exact ⟨ret_nat (by rw [hf.out]; omega), hb3.trans (hb4.mono (by omega))⟩
              · have hf : Hid (decLen s.data.toList = m) := by rw [Hid, hw.out, if_neg hd0]
                go_wp2_with fail
                go_ret
                exact ⟨ret_nat (by rw [hf.out]), hb3.trans (hb4.mono (by omega))⟩
            · have q1 : (nth s.data.toList (m + 1) == 43) = false := beq_eq_false_iff_ne.2 hs1
              have q2 : (nth s.data.toList (m + 1) == 45) = false := beq_eq_false_iff_ne.2 hs2
              have HS1 : Hid (nth s.data.toList (m + 1) ≠ 43 ∧ nth s.data.toList (m + 1) ≠ 45) := ⟨hs1, hs2⟩
              clear hs2 hs1
              have HCE := pre_dec_at s (m + 1) wc hs
              have hde := run_le decB (s.data.toList.drop (m + 1))
              rw [List.length_drop, ← size_len] at hde
              have hw : Hid (decLen s.data.toList = if 0 < run decB (s.data.toList.drop (m + 1)) then (m + 1) + run decB (s.data.toList.drop (m + 1)) else m) := by
                refine hdec.out.trans ?_
                rw [with_e s m hlt hE.out, exp_plain s m HS1.out]
              generalize run decB (s.data.toList.drop (m + 1)) = d at *
              go_wp2_with fail
              refine HCE.mono ?_
              rintro e w4 ⟨rfl, hb4⟩
              clear HCE
              by_cases hd0 : 0 < d
              · have hf : Hid (decLen s.data.toList = (m + 1) + d) := by rw [Hid, hw.out, if_pos hd0]
                go_wp2_with fail
                go_ret
                exact ⟨ret_nat (by rw [hf.out]; omega), hb3.trans (hb4.mono (by omega))⟩
              · have hf : Hid (decLen s.data.toList = m) := by rw [Hid, hw.out, if_neg hd0]
                go_wp2_with fail
                go_ret
                exact ⟨ret_nat (by rw [hf.out]), hb3.trans (hb4.mono (by omega))⟩
        · have hdx : decide ((m : Int) + 1 < (s.size : Int)) = false := by simp; omega
          have HCE := pre_dec_at s (m + 1) wc hs
          have hde := run_le decB (s.data.toList.drop (m + 1))
          rw [List.length_drop, ← size_len] at hde
          have hw : Hid (decLen s.data.toList = if 0 < run decB (s.data.toList.drop (m + 1)) then (m + 1) + run decB (s.data.toList.drop (m + 1)) else m) := by
            refine hdec.out.trans ?_
            rw [with_e s m hlt hE.out, exp_end s m hx]
          generalize run decB (s.data.toList.drop (m + 1)) = d at *
          go_wp2_with fail
          refine HCE.mono ?_
          rintro e w4 ⟨rfl, hb4⟩
          clear HCE
          by_cases hd0 : 0 < d
          · have hf : Hid (decLen s.data.toList = (m + 1) + d) := by rw [Hid, hw.out, if_pos hd0]
            go_wp2_with fail
            go_ret
            exact ⟨ret_nat (by rw [hf.out]; omega), hb3.trans (hb4.mono (by omega))⟩
          · have hf : Hid (decLen s.data.toList = m) := by rw [Hid, hw.out, if_neg hd0]
            go_wp2_with fail
            go_ret
            exact ⟨ret_nat (by rw [hf.out]), hb3.trans (hb4.mono (by omega))⟩
    · have hf : Hid (decLen s.data.toList = m) := by
        refine hdec.out.trans ?_
        unfold withExp
        rw [if_neg (fun h => hE h.2.1)]
      have q1 : (nth s.data.toList m == 101) = false := beq_eq_false_iff_ne.2 (fun h => hE (.inl h))
      have q2 : (nth s.data.toList m == 69) = false := beq_eq_false_iff_ne.2 (fun h => hE (.inr h))
      clear hE hdec
      go_wp2_with fail
      go_ret
      exact ⟨ret_nat (by rw [hf.out]), hb3⟩
  · have hdl : decide ((m : Int) < (s.size : Int)) = false := by simp; omega
    have hf : Hid (decLen s.data.toList = m) := by
      refine hdec.out.trans ?_
      unfold withExp
      rw [if_neg (by rw [← size_len]; intro h; omega)]
    clear hdec
    go_wp2_with fail
    go_ret
    exact ⟨ret_nat (by rw [hf.out]), hb3⟩
end Go.Proofs.Qxb6600238aDoor
