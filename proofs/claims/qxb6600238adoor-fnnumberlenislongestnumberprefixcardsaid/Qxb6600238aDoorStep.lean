import Derived.Test.Qxb6600238aDoorAuto
namespace Go.Proofs.Qxb6600238aDoor
open Go.RowKit
set_option maxRecDepth 100000
set_option linter.unusedSimpArgs false
set_option linter.unusedVariables false

set_option maxHeartbeats 400000 in
theorem exp_any (x : Int) (w : World) : Calls Tryd.prog 16 #[.int .u8 x] w fun e w' => e = .returned (.bool (expI x)) ∧ w' = w := by
  by_cases h1 : x = 101
  · subst h1
    have hd : expI 101 = true := by decide
    rw [hd]
    go_enter Tryd.func16, Tryd.ntmps16; go_wp2; go_ret; exact ⟨rfl, rfl⟩
  · by_cases h2 : x = 69
    · subst h2
      have hd : expI 69 = true := by decide
      rw [hd]
      go_enter Tryd.func16, Tryd.ntmps16; go_wp2; go_ret; exact ⟨rfl, rfl⟩
    · have hd : expI x = false := by simp [expI, h1, h2]
      rw [hd]
      have q1 : (x == 101) = false := beq_eq_false_iff_ne.2 h1
      have q2 : (x == 69) = false := beq_eq_false_iff_ne.2 h2
      clear hd
      go_enter Tryd.func16, Tryd.ntmps16; go_wp2; go_ret; exact ⟨rfl, rfl⟩

set_option maxHeartbeats 400000 in
theorem hex_any (x : Int) (w : World) : Calls Tryd.prog 17 #[.int .u8 x] w fun e w' => e = .returned (.bool (hexI x)) ∧ w' = w := by
  have hc := dig_any x w
  cases hd : digI x with
  | true =>
    rw [hd] at hc
    have hx : hexI x = true := by simp [hexI, hd]
    rw [hx]
    clear hx hd
    go_enter Tryd.func17, Tryd.ntmps17
    go_wp2_with fail
    refine hc.mono ?_
    rintro e w1 ⟨rfl, hw⟩
    subst w1
    go_wp2_with fail
    go_ret
    exact ⟨rfl, rfl⟩
  | false =>
    rw [hd] at hc
    have hw' : hexI x = (decide (97 ≤ x ∧ x ≤ 102) || decide (65 ≤ x ∧ x ≤ 70)) := by simp [hexI, hd]
    clear hd
    by_cases a1 : 97 ≤ x
    · by_cases a2 : x ≤ 102
      · have hx : hexI x = true := by rw [hw']; simp; omega
        rw [hx]
        clear hx hw'
        go_enter Tryd.func17, Tryd.ntmps17
        go_wp2_with fail
        refine hc.mono ?_
        rintro e w1 ⟨rfl, hw⟩
        subst w1
        go_wp2_with fail
        go_ret
        exact ⟨rfl, rfl⟩
      · have hx : hexI x = false := by rw [hw']; simp; omega
        rw [hx]
        have b1 : 65 ≤ x := by omega
        have b2 : ¬ x ≤ 70 := by omega
        have d1 : decide (x ≤ 102) = false := decide_eq_false a2
        have d2 : decide (x ≤ 70) = false := decide_eq_false b2
        clear hx hw'
        go_enter Tryd.func17, Tryd.ntmps17
        go_wp2_with fail
        refine hc.mono ?_
        rintro e w1 ⟨rfl, hw⟩
        subst w1
        go_wp2_with fail
        go_ret
        exact ⟨rfl, rfl⟩
    · by_cases b1 : 65 ≤ x
      · by_cases b2 : x ≤ 70
        · have hx : hexI x = true := by rw [hw']; simp; omega
          rw [hx]
          have d1 : decide (97 ≤ x) = false := decide_eq_false a1
          clear hx hw'
          go_enter Tryd.func17, Tryd.ntmps17
          go_wp2_with fail
          refine hc.mono ?_
          rintro e w1 ⟨rfl, hw⟩
          subst w1
          go_wp2_with fail
          go_ret
          exact ⟨rfl, rfl⟩
        · have hx : hexI x = false := by rw [hw']; simp; omega
          rw [hx]
          have d1 : decide (97 ≤ x) = false := decide_eq_false a1
          have d2 : decide (x ≤ 70) = false := decide_eq_false b2
          clear hx hw'
          go_enter Tryd.func17, Tryd.ntmps17
          go_wp2_with fail
          refine hc.mono ?_
          rintro e w1 ⟨rfl, hw⟩
          subst w1
          go_wp2_with fail
          go_ret
          exact ⟨rfl, rfl⟩
      · have hx : hexI x = false := by rw [hw']; simp; omega
        rw [hx]
        have d1 : decide (97 ≤ x) = false := decide_eq_false a1
        have d2 : decide (65 ≤ x) = false := decide_eq_false b1
        clear hx hw'
        go_enter Tryd.func17, Tryd.ntmps17
        go_wp2_with fail
        refine hc.mono ?_
        rintro e w1 ⟨rfl, hw⟩
        subst w1
        go_wp2_with fail
        go_ret
        exact ⟨rfl, rfl⟩

theorem d46 : digI 46 = false := by decide

theorem acc_at (st : Nat) (w : World) (h : st ≤ 10) : Calls Tryd.prog 14 #[.int .i64 st] w fun e w' => e = .returned (.bool (acc st)) ∧ w' = w := by
  match st, h with
  | 0, _ => go_enter Tryd.func14, Tryd.ntmps14; go_wp2; go_ret; exact ⟨rfl, rfl⟩
  | 1, _ => go_enter Tryd.func14, Tryd.ntmps14; go_wp2; go_ret; exact ⟨rfl, rfl⟩
  | 2, _ => go_enter Tryd.func14, Tryd.ntmps14; go_wp2; go_ret; exact ⟨rfl, rfl⟩
  | 3, _ => go_enter Tryd.func14, Tryd.ntmps14; go_wp2; go_ret; exact ⟨rfl, rfl⟩
  | 4, _ => go_enter Tryd.func14, Tryd.ntmps14; go_wp2; go_ret; exact ⟨rfl, rfl⟩
  | 5, _ => go_enter Tryd.func14, Tryd.ntmps14; go_wp2; go_ret; exact ⟨rfl, rfl⟩
  | 6, _ => go_enter Tryd.func14, Tryd.ntmps14; go_wp2; go_ret; exact ⟨rfl, rfl⟩
  | 7, _ => go_enter Tryd.func14, Tryd.ntmps14; go_wp2; go_ret; exact ⟨rfl, rfl⟩
  | 8, _ => go_enter Tryd.func14, Tryd.ntmps14; go_wp2; go_ret; exact ⟨rfl, rfl⟩
  | 9, _ => go_enter Tryd.func14, Tryd.ntmps14; go_wp2; go_ret; exact ⟨rfl, rfl⟩
  | 10, _ => go_enter Tryd.func14, Tryd.ntmps14; go_wp2; go_ret; exact ⟨rfl, rfl⟩

set_option maxHeartbeats 800000 in
theorem step0 (c : Int) (w : World) : Calls Tryd.prog 13 #[.int .i64 0, .int .u8 c] w fun e w' => e = .returned (.int .i64 (step 0 c : Nat)) ∧ w' = w := by
  by_cases e48 : c = 48
  · have hst : Hid (step 0 c = 1) := (by simp [step, e48] : step 0 c = 1)
    have q48 : (c == 48) = true := beq_iff_eq.2 e48
    clear e48
    go_enter Tryd.func13, Tryd.ntmps13
    go_wp2_with fail
    go_ret
    exact ⟨ret_nat (by rw [hst.out]; rfl), rfl⟩
  · have q48 : (c == 48) = false := beq_eq_false_iff_ne.2 e48
    have cdig := dig_any c w
    cases hdig : digI c with
    | true =>
      rw [hdig] at cdig
      have hst : Hid (step 0 c = 4) := (by simp [step, e48, hdig] : step 0 c = 4)
      clear e48 hdig
      go_enter Tryd.func13, Tryd.ntmps13
      go_wp2_with fail
      refine cdig.mono ?_
      rintro e w1 ⟨rfl, hw⟩
      subst w1
      go_wp2_with fail
      go_ret
      exact ⟨ret_nat (by rw [hst.out]; rfl), rfl⟩
    | false =>
      rw [hdig] at cdig
      by_cases e46 : c = 46
      · have hst : Hid (step 0 c = 5) := (by simp [step, e48, hdig, e46, d46] : step 0 c = 5)
        have q46 : (c == 46) = true := beq_iff_eq.2 e46
        clear e48 hdig e46
        go_enter Tryd.func13, Tryd.ntmps13
        go_wp2_with fail
        refine cdig.mono ?_
        rintro e w1 ⟨rfl, hw⟩
        subst w1
        go_wp2_with fail
        go_ret
        exact ⟨ret_nat (by rw [hst.out]; rfl), rfl⟩
      · have q46 : (c == 46) = false := beq_eq_false_iff_ne.2 e46
        have hst : Hid (step 0 c = 10) := (by simp [step, e48, hdig, e46] : step 0 c = 10)
        clear e48 hdig e46
        go_enter Tryd.func13, Tryd.ntmps13
        go_wp2_with fail
        refine cdig.mono ?_
        rintro e w1 ⟨rfl, hw⟩
        subst w1
        go_wp2_with fail
        go_ret
        exact ⟨ret_nat (by rw [hst.out]; rfl), rfl⟩

set_option maxHeartbeats 800000 in
theorem step1 (c : Int) (w : World) : Calls Tryd.prog 13 #[.int .i64 1, .int .u8 c] w fun e w' => e = .returned (.int .i64 (step 1 c : Nat)) ∧ w' = w := by
  by_cases e120 : c = 120
  · have hst : Hid (step 1 c = 2) := (by simp [step, e120] : step 1 c = 2)
    have q120 : (c == 120) = true := beq_iff_eq.2 e120
    clear e120
    go_enter Tryd.func13, Tryd.ntmps13
    go_wp2_with fail
    go_ret
    exact ⟨ret_nat (by rw [hst.out]; rfl), rfl⟩
  · have q120 : (c == 120) = false := beq_eq_false_iff_ne.2 e120
    by_cases e88 : c = 88
    · have hst : Hid (step 1 c = 2) := (by simp [step, e120, e88] : step 1 c = 2)
      have q88 : (c == 88) = true := beq_iff_eq.2 e88
      clear e120 e88
      go_enter Tryd.func13, Tryd.ntmps13
      go_wp2_with fail
      go_ret
      exact ⟨ret_nat (by rw [hst.out]; rfl), rfl⟩
    · have q88 : (c == 88) = false := beq_eq_false_iff_ne.2 e88
      have cdig := dig_any c w
      cases hdig : digI c with
      | true =>
        rw [hdig] at cdig
        have hst : Hid (step 1 c = 4) := (by simp [step, e120, e88, hdig] : step 1 c = 4)
        clear e120 e88 hdig
        go_enter Tryd.func13, Tryd.ntmps13
        go_wp2_with fail
        refine cdig.mono ?_
        rintro e w1 ⟨rfl, hw⟩
        subst w1
        go_wp2_with fail
        go_ret
        exact ⟨ret_nat (by rw [hst.out]; rfl), rfl⟩
      | false =>
        rw [hdig] at cdig
        by_cases e46 : c = 46
        · have hst : Hid (step 1 c = 6) := (by simp [step, e120, e88, hdig, e46, d46] : step 1 c = 6)
          have q46 : (c == 46) = true := beq_iff_eq.2 e46
          clear e120 e88 hdig e46
          go_enter Tryd.func13, Tryd.ntmps13
          go_wp2_with fail
          refine cdig.mono ?_
          rintro e w1 ⟨rfl, hw⟩
          subst w1
          go_wp2_with fail
          go_ret
          exact ⟨ret_nat (by rw [hst.out]; rfl), rfl⟩
        · have q46 : (c == 46) = false := beq_eq_false_iff_ne.2 e46
          have cexp := exp_any c w
          cases hexp : expI c with
          | true =>
            rw [hexp] at cexp
            have hst : Hid (step 1 c = 7) := (by simp [step, e120, e88, hdig, e46, hexp] : step 1 c = 7)
            clear e120 e88 hdig e46 hexp
            go_enter Tryd.func13, Tryd.ntmps13
            go_wp2_with fail
            refine cdig.mono ?_
            rintro e w1 ⟨rfl, hw⟩
            subst w1
            go_wp2_with fail
            refine cexp.mono ?_
            rintro e w1 ⟨rfl, hw⟩
            subst w1
            go_wp2_with fail
            go_ret
            exact ⟨ret_nat (by rw [hst.out]; rfl), rfl⟩
          | false =>
            rw [hexp] at cexp
            have hst : Hid (step 1 c = 10) := (by simp [step, e120, e88, hdig, e46, hexp] : step 1 c = 10)
            clear e120 e88 hdig e46 hexp
            go_enter Tryd.func13, Tryd.ntmps13
            go_wp2_with fail
            refine cdig.mono ?_
            rintro e w1 ⟨rfl, hw⟩
            subst w1
            go_wp2_with fail
            refine cexp.mono ?_
            rintro e w1 ⟨rfl, hw⟩
            subst w1
            go_wp2_with fail
            go_ret
            exact ⟨ret_nat (by rw [hst.out]; rfl), rfl⟩

set_option maxHeartbeats 800000 in
theorem step2 (c : Int) (w : World) : Calls Tryd.prog 13 #[.int .i64 2, .int .u8 c] w fun e w' => e = .returned (.int .i64 (step 2 c : Nat)) ∧ w' = w := by
  have chex := hex_any c w
  cases hhex : hexI c with
  | true =>
    rw [hhex] at chex
    have hst : Hid (step 2 c = 3) := (by simp [step, hhex] : step 2 c = 3)
    clear hhex
    go_enter Tryd.func13, Tryd.ntmps13
    go_wp2_with fail
    refine chex.mono ?_
    rintro e w1 ⟨rfl, hw⟩
    subst w1
    go_wp2_with fail
    go_ret
    exact ⟨ret_nat (by rw [hst.out]; rfl), rfl⟩
  | false =>
    rw [hhex] at chex
    have hst : Hid (step 2 c = 10) := (by simp [step, hhex] : step 2 c = 10)
    clear hhex
    go_enter Tryd.func13, Tryd.ntmps13
    go_wp2_with fail
    refine chex.mono ?_
    rintro e w1 ⟨rfl, hw⟩
    subst w1
    go_wp2_with fail
    go_ret
    exact ⟨ret_nat (by rw [hst.out]; rfl), rfl⟩

set_option maxHeartbeats 800000 in
theorem step3 (c : Int) (w : World) : Calls Tryd.prog 13 #[.int .i64 3, .int .u8 c] w fun e w' => e = .returned (.int .i64 (step 3 c : Nat)) ∧ w' = w := by
  have chex := hex_any c w
  cases hhex : hexI c with
  | true =>
    rw [hhex] at chex
    have hst : Hid (step 3 c = 3) := (by simp [step, hhex] : step 3 c = 3)
    clear hhex
    go_enter Tryd.func13, Tryd.ntmps13
    go_wp2_with fail
    refine chex.mono ?_
    rintro e w1 ⟨rfl, hw⟩
    subst w1
    go_wp2_with fail
    go_ret
    exact ⟨ret_nat (by rw [hst.out]; rfl), rfl⟩
  | false =>
    rw [hhex] at chex
    have hst : Hid (step 3 c = 10) := (by simp [step, hhex] : step 3 c = 10)
    clear hhex
    go_enter Tryd.func13, Tryd.ntmps13
    go_wp2_with fail
    refine chex.mono ?_
    rintro e w1 ⟨rfl, hw⟩
    subst w1
    go_wp2_with fail
    go_ret
    exact ⟨ret_nat (by rw [hst.out]; rfl), rfl⟩

set_option maxHeartbeats 800000 in
theorem step4 (c : Int) (w : World) : Calls Tryd.prog 13 #[.int .i64 4, .int .u8 c] w fun e w' => e = .returned (.int .i64 (step 4 c : Nat)) ∧ w' = w := by
  have cdig := dig_any c w
  cases hdig : digI c with
  | true =>
    rw [hdig] at cdig
    have hst : Hid (step 4 c = 4) := (by simp [step, hdig] : step 4 c = 4)
    clear hdig
    go_enter Tryd.func13, Tryd.ntmps13
    go_wp2_with fail
    refine cdig.mono ?_
    rintro e w1 ⟨rfl, hw⟩
    subst w1
    go_wp2_with fail
    go_ret
    exact ⟨ret_nat (by rw [hst.out]; rfl), rfl⟩
  | false =>
    rw [hdig] at cdig
    by_cases e46 : c = 46
    · have hst : Hid (step 4 c = 6) := (by simp [step, hdig, e46, d46] : step 4 c = 6)
      have q46 : (c == 46) = true := beq_iff_eq.2 e46
      clear hdig e46
      go_enter Tryd.func13, Tryd.ntmps13
      go_wp2_with fail
      refine cdig.mono ?_
      rintro e w1 ⟨rfl, hw⟩
      subst w1
      go_wp2_with fail
      go_ret
      exact ⟨ret_nat (by rw [hst.out]; rfl), rfl⟩
    · have q46 : (c == 46) = false := beq_eq_false_iff_ne.2 e46
      have cexp := exp_any c w
      cases hexp : expI c with
      | true =>
        rw [hexp] at cexp
        have hst : Hid (step 4 c = 7) := (by simp [step, hdig, e46, hexp] : step 4 c = 7)
        clear hdig e46 hexp
        go_enter Tryd.func13, Tryd.ntmps13
        go_wp2_with fail
        refine cdig.mono ?_
        rintro e w1 ⟨rfl, hw⟩
        subst w1
        go_wp2_with fail
        refine cexp.mono ?_
        rintro e w1 ⟨rfl, hw⟩
        subst w1
        go_wp2_with fail
        go_ret
        exact ⟨ret_nat (by rw [hst.out]; rfl), rfl⟩
      | false =>
        rw [hexp] at cexp
        have hst : Hid (step 4 c = 10) := (by simp [step, hdig, e46, hexp] : step 4 c = 10)
        clear hdig e46 hexp
        go_enter Tryd.func13, Tryd.ntmps13
        go_wp2_with fail
        refine cdig.mono ?_
        rintro e w1 ⟨rfl, hw⟩
        subst w1
        go_wp2_with fail
        refine cexp.mono ?_
        rintro e w1 ⟨rfl, hw⟩
        subst w1
        go_wp2_with fail
        go_ret
        exact ⟨ret_nat (by rw [hst.out]; rfl), rfl⟩

set_option maxHeartbeats 800000 in
theorem step5 (c : Int) (w : World) : Calls Tryd.prog 13 #[.int .i64 5, .int .u8 c] w fun e w' => e = .returned (.int .i64 (step 5 c : Nat)) ∧ w' = w := by
  have cdig := dig_any c w
  cases hdig : digI c with
  | true =>
    rw [hdig] at cdig
    have hst : Hid (step 5 c = 6) := (by simp [step, hdig] : step 5 c = 6)
    clear hdig
    go_enter Tryd.func13, Tryd.ntmps13
    go_wp2_with fail
    refine cdig.mono ?_
    rintro e w1 ⟨rfl, hw⟩
    subst w1
    go_wp2_with fail
    go_ret
    exact ⟨ret_nat (by rw [hst.out]; rfl), rfl⟩
  | false =>
    rw [hdig] at cdig
    have hst : Hid (step 5 c = 10) := (by simp [step, hdig] : step 5 c = 10)
    clear hdig
    go_enter Tryd.func13, Tryd.ntmps13
    go_wp2_with fail
    refine cdig.mono ?_
    rintro e w1 ⟨rfl, hw⟩
    subst w1
    go_wp2_with fail
    go_ret
    exact ⟨ret_nat (by rw [hst.out]; rfl), rfl⟩

set_option maxHeartbeats 800000 in
theorem step6 (c : Int) (w : World) : Calls Tryd.prog 13 #[.int .i64 6, .int .u8 c] w fun e w' => e = .returned (.int .i64 (step 6 c : Nat)) ∧ w' = w := by
  have cdig := dig_any c w
  cases hdig : digI c with
  | true =>
    rw [hdig] at cdig
    have hst : Hid (step 6 c = 6) := (by simp [step, hdig] : step 6 c = 6)
    clear hdig
    go_enter Tryd.func13, Tryd.ntmps13
    go_wp2_with fail
    refine cdig.mono ?_
    rintro e w1 ⟨rfl, hw⟩
    subst w1
    go_wp2_with fail
    go_ret
    exact ⟨ret_nat (by rw [hst.out]; rfl), rfl⟩
  | false =>
    rw [hdig] at cdig
    have cexp := exp_any c w
    cases hexp : expI c with
    | true =>
      rw [hexp] at cexp
      have hst : Hid (step 6 c = 7) := (by simp [step, hdig, hexp] : step 6 c = 7)
      clear hdig hexp
      go_enter Tryd.func13, Tryd.ntmps13
      go_wp2_with fail
      refine cdig.mono ?_
      rintro e w1 ⟨rfl, hw⟩
      subst w1
      go_wp2_with fail
      refine cexp.mono ?_
      rintro e w1 ⟨rfl, hw⟩
      subst w1
      go_wp2_with fail
      go_ret
      exact ⟨ret_nat (by rw [hst.out]; rfl), rfl⟩
    | false =>
      rw [hexp] at cexp
      have hst : Hid (step 6 c = 10) := (by simp [step, hdig, hexp] : step 6 c = 10)
      clear hdig hexp
      go_enter Tryd.func13, Tryd.ntmps13
      go_wp2_with fail
      refine cdig.mono ?_
      rintro e w1 ⟨rfl, hw⟩
      subst w1
      go_wp2_with fail
      refine cexp.mono ?_
      rintro e w1 ⟨rfl, hw⟩
      subst w1
      go_wp2_with fail
      go_ret
      exact ⟨ret_nat (by rw [hst.out]; rfl), rfl⟩

set_option maxHeartbeats 800000 in
theorem step7 (c : Int) (w : World) : Calls Tryd.prog 13 #[.int .i64 7, .int .u8 c] w fun e w' => e = .returned (.int .i64 (step 7 c : Nat)) ∧ w' = w := by
  by_cases e43 : c = 43
  · have hst : Hid (step 7 c = 8) := (by simp [step, e43] : step 7 c = 8)
    have q43 : (c == 43) = true := beq_iff_eq.2 e43
    clear e43
    go_enter Tryd.func13, Tryd.ntmps13
    go_wp2_with fail
    go_ret
    exact ⟨ret_nat (by rw [hst.out]; rfl), rfl⟩
  · have q43 : (c == 43) = false := beq_eq_false_iff_ne.2 e43
    by_cases e45 : c = 45
    · have hst : Hid (step 7 c = 8) := (by simp [step, e43, e45] : step 7 c = 8)
      have q45 : (c == 45) = true := beq_iff_eq.2 e45
      clear e43 e45
      go_enter Tryd.func13, Tryd.ntmps13
      go_wp2_with fail
      go_ret
      exact ⟨ret_nat (by rw [hst.out]; rfl), rfl⟩
    · have q45 : (c == 45) = false := beq_eq_false_iff_ne.2 e45
      have cdig := dig_any c w
      cases hdig : digI c with
      | true =>
        rw [hdig] at cdig
        have hst : Hid (step 7 c = 9) := (by simp [step, e43, e45, hdig] : step 7 c = 9)
        clear e43 e45 hdig
        go_enter Tryd.func13, Tryd.ntmps13
        go_wp2_with fail
        refine cdig.mono ?_
        rintro e w1 ⟨rfl, hw⟩
        subst w1
        go_wp2_with fail
        go_ret
        exact ⟨ret_nat (by rw [hst.out]; rfl), rfl⟩
      | false =>
        rw [hdig] at cdig
        have hst : Hid (step 7 c = 10) := (by simp [step, e43, e45, hdig] : step 7 c = 10)
        clear e43 e45 hdig
        go_enter Tryd.func13, Tryd.ntmps13
        go_wp2_with fail
        refine cdig.mono ?_
        rintro e w1 ⟨rfl, hw⟩
        subst w1
        go_wp2_with fail
        go_ret
        exact ⟨ret_nat (by rw [hst.out]; rfl), rfl⟩

set_option maxHeartbeats 800000 in
theorem step8 (c : Int) (w : World) : Calls Tryd.prog 13 #[.int .i64 8, .int .u8 c] w fun e w' => e = .returned (.int .i64 (step 8 c : Nat)) ∧ w' = w := by
  have cdig := dig_any c w
  cases hdig : digI c with
  | true =>
    rw [hdig] at cdig
    have hst : Hid (step 8 c = 9) := (by simp [step, hdig] : step 8 c = 9)
    clear hdig
    go_enter Tryd.func13, Tryd.ntmps13
    go_wp2_with fail
    refine cdig.mono ?_
    rintro e w1 ⟨rfl, hw⟩
    subst w1
    go_wp2_with fail
    go_ret
    exact ⟨ret_nat (by rw [hst.out]; rfl), rfl⟩
  | false =>
    rw [hdig] at cdig
    have hst : Hid (step 8 c = 10) := (by simp [step, hdig] : step 8 c = 10)
    clear hdig
    go_enter Tryd.func13, Tryd.ntmps13
    go_wp2_with fail
    refine cdig.mono ?_
    rintro e w1 ⟨rfl, hw⟩
    subst w1
    go_wp2_with fail
    go_ret
    exact ⟨ret_nat (by rw [hst.out]; rfl), rfl⟩

set_option maxHeartbeats 800000 in
theorem step9 (c : Int) (w : World) : Calls Tryd.prog 13 #[.int .i64 9, .int .u8 c] w fun e w' => e = .returned (.int .i64 (step 9 c : Nat)) ∧ w' = w := by
  have cdig := dig_any c w
  cases hdig : digI c with
  | true =>
    rw [hdig] at cdig
    have hst : Hid (step 9 c = 9) := (by simp [step, hdig] : step 9 c = 9)
    clear hdig
    go_enter Tryd.func13, Tryd.ntmps13
    go_wp2_with fail
    refine cdig.mono ?_
    rintro e w1 ⟨rfl, hw⟩
    subst w1
    go_wp2_with fail
    go_ret
    exact ⟨ret_nat (by rw [hst.out]; rfl), rfl⟩
  | false =>
    rw [hdig] at cdig
    have hst : Hid (step 9 c = 10) := (by simp [step, hdig] : step 9 c = 10)
    clear hdig
    go_enter Tryd.func13, Tryd.ntmps13
    go_wp2_with fail
    refine cdig.mono ?_
    rintro e w1 ⟨rfl, hw⟩
    subst w1
    go_wp2_with fail
    go_ret
    exact ⟨ret_nat (by rw [hst.out]; rfl), rfl⟩

theorem step_any (st : Nat) (c : Int) (w : World) (h : st ≤ 9) : Calls Tryd.prog 13 #[.int .i64 st, .int .u8 c] w fun e w' => e = .returned (.int .i64 (step st c : Nat)) ∧ w' = w := by
  match st, h with
  | 0, _ => exact step0 c w
  | 1, _ => exact step1 c w
  | 2, _ => exact step2 c w
  | 3, _ => exact step3 c w
  | 4, _ => exact step4 c w
  | 5, _ => exact step5 c w
  | 6, _ => exact step6 c w
  | 7, _ => exact step7 c w
  | 8, _ => exact step8 c w
  | 9, _ => exact step9 c w

theorem step_le (st : Nat) (c : Int) : step st c ≤ 10 := by
  unfold step
  split <;> (repeat' split) <;> omega

theorem mgo_dead {b : UInt8} {r : List UInt8} {i best st : Nat} (h : step st (num b) = 10) : mgo (b :: r) i best st = best := by simp [mgo, h]
theorem mgo_acc {b : UInt8} {r : List UInt8} {i best st : Nat} (h : step st (num b) ≠ 10) (ha : acc (step st (num b)) = true) : mgo (b :: r) i best st = mgo r (i + 1) (i + 1) (step st (num b)) := by simp [mgo, h, ha]
theorem mgo_not {b : UInt8} {r : List UInt8} {i best st : Nat} (h : step st (num b) ≠ 10) (ha : acc (step st (num b)) = false) : mgo (b :: r) i best st = mgo r (i + 1) best (step st (num b)) := by simp [mgo, h, ha]

set_option maxHeartbeats 800000 in
theorem model_any (s : ByteArray) (w : World) (hs : s.size ≤ 1048576) :
    Calls Tryd.prog 8 #[.string s] w fun e w' => e = .returned (.int .i64 (modelLen s.data.toList : Nat)) ∧ w' = w := by
  go_enter Tryd.func8, Tryd.ntmps8
  go_wp2_with fail
  go_loop [3, 4, 5] (fun bb ss kk => ∃ best st k : Nat, k ≤ s.size ∧ st ≤ 9 ∧ best ≤ k ∧ bb = .int .i64 best ∧ ss = .int .i64 st ∧ kk = .int .i64 k ∧ mgo (s.data.toList.drop k) k best st = modelLen s.data.toList) (fun _ _ kk => s.size - (intOf kk).toNat)
  case atStart => exact ⟨0, 0, 0, by omega, by omega, by omega, rfl, rfl, rfl, rfl⟩
  case round =>
    obtain ⟨best, st, k, hk, hst, hbk, rfl, rfl, rfl, hm⟩ := hrel
    by_cases hlt : k < s.size
    · obtain ⟨b, r, hd, hnb, hr⟩ := nth_drop (l := s.data.toList) (n := k) (by rw [← size_len]; exact hlt)
      have ak := nth_at s k hlt
      rw [hnb] at ak
      have hcon := step_any st (num b) w hst
      have hle := step_le st (num b)
      rw [hd] at hm
      by_cases h10 : step st (num b) = 10
      · rw [mgo_dead h10] at hm
        have HM : Hid (best = modelLen s.data.toList) := hm
        rw [h10] at hcon
        clear hm h10 hd hr hnb hle
        generalize num b = c at *
        go_wp2_with fail
        refine hcon.mono ?_
        rintro e w1 ⟨rfl, hw⟩
        subst w1
        clear hcon
        go_wp2_with fail
        go_ret
        exact ⟨ret_nat (by rw [← HM.out]), rfl⟩
      · have hacc := acc_at (step st (num b)) w hle
        cases ha : acc (step st (num b)) with
        | true =>
          rw [mgo_acc h10 ha, ← hr] at hm
          rw [ha] at hacc
          have HM : Hid (mgo (s.data.toList.drop (k + 1)) (k + 1) (k + 1) (step st (num b)) = modelLen s.data.toList) := hm
          clear hm hd hr hnb ha
          generalize hst2 : step st (num b) = st2 at *
          have hne : ((st2 : Int) == 10) = false := beq_eq_false_iff_ne.2 (by omega)
          have hlt9 : st2 ≤ 9 := by omega
          clear hst2 h10
          generalize num b = c at *
          go_wp2_with fail
          refine hcon.mono ?_
          rintro e w1 ⟨rfl, hw⟩
          subst w1
          clear hcon
          go_wp2_with fail
          refine hacc.mono ?_
          rintro e w1 ⟨rfl, hw⟩
          subst w1
          clear hacc
          go_wp2_with fail
          exact ⟨⟨k + 1, st2, k + 1, by omega, hlt9, by omega, by go_num, rfl, by go_num, HM.out⟩, by simp [intOf]; omega⟩
        | false =>
          rw [mgo_not h10 ha, ← hr] at hm
          rw [ha] at hacc
          have HM : Hid (mgo (s.data.toList.drop (k + 1)) (k + 1) best (step st (num b)) = modelLen s.data.toList) := hm
          clear hm hd hr hnb ha
          generalize hst2 : step st (num b) = st2 at *
          have hne : ((st2 : Int) == 10) = false := beq_eq_false_iff_ne.2 (by omega)
          have hlt9 : st2 ≤ 9 := by omega
          clear hst2 h10
          generalize num b = c at *
          go_wp2_with fail
          refine hcon.mono ?_
          rintro e w1 ⟨rfl, hw⟩
          subst w1
          clear hcon
          go_wp2_with fail
          refine hacc.mono ?_
          rintro e w1 ⟨rfl, hw⟩
          subst w1
          clear hacc
          go_wp2_with fail
          exact ⟨⟨best, st2, k + 1, by omega, hlt9, by omega, rfl, rfl, by go_num, HM.out⟩, by simp [intOf]; omega⟩
    · rw [drop_end (by rw [← size_len]; exact hlt)] at hm
      have HM : Hid (best = modelLen s.data.toList) := hm
      clear hm
      go_wp2_with fail
      go_ret
      exact ⟨ret_nat (by rw [← HM.out]), rfl⟩

set_option maxHeartbeats 400000 in
theorem zzb6 (s : ByteArray) (w : World) (h : s.size ≤ 1048576) : Calls Tryd.prog 6 #[.string s] w fun e w' => e = .returned (.bool true) ∧ w' = w := by
  have h2 : ¬ (1048576 : Int) < (s.size : Int) := by omega
  go_enter Tryd.func6, Tryd.ntmps6
  go_wp2
  go_ret
  exact ⟨rfl, rfl⟩

set_option maxHeartbeats 800000 in
theorem longest_any (s : ByteArray) (w : World) (hmax : s.size ≤ 9223372036854775807) :
    Calls Tryd.prog 3 #[.string s] w fun e w' => e = .returned (.bool true) ∧ Below w.heap.size w w' := by
  by_cases h1 : 1048576 < s.size
  · have h2 : (1048576 : Int) < (s.size : Int) := by omega
    go_enter Tryd.func3, Tryd.ntmps3
    go_wp2
    go_ret
    exact ⟨rfl, Below.refl _ _⟩
  have hs : s.size ≤ 1048576 := by omega
  have hd1 : ¬ (1048576 : Int) < (s.size : Int) := by omega
  obtain ⟨n, hN, hcon⟩ := zznum s w hs
  have hn := num_model _ _ hN
  have HM : Hid (∀ w1, Calls Tryd.prog 8 #[.string s] w1 fun e w' => e = .returned (.int .i64 n) ∧ w' = w1) := fun w1 => by
    rw [hn]
    exact model_any s w1 hs
  clear hN hn
  go_enter Tryd.func3, Tryd.ntmps3
  go_wp2_with fail
  refine (zzb6 _ _ hs).mono ?_
  rintro e w1 ⟨rfl, hw⟩
  subst w1
  go_wp2_with fail
  refine hcon.mono ?_
  rintro e w1 ⟨rfl, hb⟩
  clear hcon
  go_wp2_with fail
  refine (HM.out w1).mono ?_
  rintro e w2 ⟨rfl, hw⟩
  subst w2
  go_wp2_with fail
  go_ret
  exact ⟨by simp, hb⟩
end Go.Proofs.Qxb6600238aDoor
