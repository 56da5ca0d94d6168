import Derived.Test.Qxb6600238aDoorDec
namespace Go.Proofs.Qxb6600238aDoor
open Go.RowKit
set_option maxRecDepth 100000
set_option linter.unusedSimpArgs false
set_option linter.unusedVariables false

/-- numberLen's answer: n is the hexadecimal number's length, or the decimal one's. -/
def NumIs (l : List UInt8) (n : Nat) : Prop := (isHexNum l ∧ n = 2 + run hexB (l.drop 2)) ∨ (¬ isHexNum l ∧ n = decLen l)

set_option maxHeartbeats 400000 in
theorem zznum (s : ByteArray) (w : World) (hs : s.size ≤ 1048576) : ∃ n : Nat, NumIs s.data.toList n ∧ Calls Tryd.prog 7 #[.string s] w fun e w' => e = .returned (.int .i64 n) ∧ Below w.heap.size w w' := by
  obtain ⟨n, hN, h⟩ : ∃ n : Nat, NumIs s.data.toList n ∧ Calls Tryd.prog 12 #[.string s] w fun e w' => e = .returned (.int .i64 n) ∧ Below w.heap.size w w' := by
    by_cases hh : isHexNum s.data.toList
    · exact ⟨_, .inl ⟨hh, rfl⟩, (num_hex s w hs hh).mono fun e w' ⟨h1, h2⟩ => ⟨by rw [h1]; simp, h2⟩⟩
    · exact ⟨_, .inr ⟨hh, rfl⟩, num_dec s w hs hh⟩
  refine ⟨n, hN, ?_⟩
  clear hN
  go_enter Tryd.func7, Tryd.ntmps7
  go_wp2_with fail
  refine h.mono ?_
  rintro e w1 ⟨rfl, hb⟩
  clear h
  go_wp2_with fail
  go_ret
  exact ⟨rfl, hb⟩

def digI (x : Int) : Bool := decide (48 ≤ x ∧ x ≤ 57)

set_option maxHeartbeats 400000 in
theorem dig_any (x : Int) (w : World) : Calls Tryd.prog 11 #[.int .u8 x] w fun e w' => e = .returned (.bool (digI x)) ∧ w' = w := by
  by_cases h1 : 48 ≤ x
  · by_cases h2 : x ≤ 57
    · have hd : digI x = true := by simp [digI, h1, h2]
      rw [hd]
      clear hd
      go_enter Tryd.func11, Tryd.ntmps11; go_wp2; go_ret; exact ⟨rfl, rfl⟩
    · have hd : digI x = false := by simp [digI]; omega
      rw [hd]
      clear hd
      go_enter Tryd.func11, Tryd.ntmps11; go_wp2; go_ret; exact ⟨rfl, rfl⟩
  · have hd : digI x = false := by simp [digI]; omega
    rw [hd]
    clear hd
    go_enter Tryd.func11, Tryd.ntmps11; go_wp2; go_ret; exact ⟨rfl, rfl⟩

/-- Does a number start here? -/
def startsP (l : List UInt8) : Prop := 0 < l.length ∧ (digI (nth l 0) = true ∨ (nth l 0 = 46 ∧ 1 < l.length ∧ digI (nth l 1) = true))

theorem decB_digI (b : UInt8) : decB b = digI ((b.toNat : Nat) : Int) := by
  unfold decB digI
  rw [Bool.eq_iff_iff]
  simp
  omega

theorem run_pos (p : UInt8 → Bool) (l : List UInt8) : 0 < run p l ↔ ∃ b r, l = b :: r ∧ p b = true := by
  cases l with
  | nil => simp [run]
  | cons b r =>
    unfold run
    by_cases h : p b = true
    · rw [List.takeWhile_cons_of_pos h]; simp [h]
    · rw [List.takeWhile_cons_of_neg h]; simp [h]

theorem withExp_ge (l : List UInt8) (n : Nat) : n ≤ withExp l n := by
  have he : n ≤ expAt l n := by unfold expAt; split <;> omega
  unfold withExp
  split <;> omega

theorem dec_starts (l : List UInt8) : 0 < decLen l ↔ startsP l := by
  have hge := withExp_ge l (mant l)
  unfold decLen startsP
  by_cases hn : 0 < run decB l
  · obtain ⟨b, r, rfl, hb⟩ := (run_pos _ _).1 hn
    have hm : run decB (b :: r) ≤ mant (b :: r) := by unfold mant; split <;> omega
    have hd : digI (nth (b :: r) 0) = true := by
      rw [decB_digI] at hb
      simpa [nth] using hb
    have hne : ¬ (mant (b :: r) = 0 ∨ (b :: r).take (mant (b :: r)) = [46]) := by
      rintro (h | h)
      · omega
      · obtain ⟨k, hk⟩ : ∃ k, mant (b :: r) = k + 1 := ⟨mant (b :: r) - 1, by omega⟩
        rw [hk, List.take_succ_cons] at h
        injection h with h1 _
        subst h1
        revert hb
        decide
    rw [if_neg hne]
    constructor
    · intro _
      exact ⟨by simp, .inl hd⟩
    · intro _
      omega
  · have h0 : run decB l = 0 := by omega
    cases l with
    | nil => simp [mant, run]
    | cons b r =>
      have hb : decB b = false := by
        cases h : decB b with
        | false => rfl
        | true => exact absurd ((run_pos _ _).2 ⟨b, r, rfl, h⟩) hn
      have hd : digI (nth (b :: r) 0) = false := by
        rw [decB_digI] at hb
        simpa [nth] using hb
      have hmant : mant (b :: r) = if nth (b :: r) 0 = 46 then 1 + run decB r else 0 := by
        unfold mant
        rw [h0]
        by_cases h46 : nth (b :: r) 0 = 46
        · rw [if_pos ⟨by simp, h46⟩, if_pos h46]
          simp
        · rw [if_neg (fun h => h46 h.2), if_neg h46]
      by_cases h46 : nth (b :: r) 0 = 46
      · rw [if_pos h46] at hmant
        have hb46 : b = 46 := by
          apply UInt8.toNat_inj.1
          simp [nth] at h46
          have : b.toNat = 46 := by omega
          rw [this]; rfl
        by_cases hr : 0 < run decB r
        · obtain ⟨c, q, rfl, hc⟩ := (run_pos _ _).1 hr
          have hne : ¬ (mant (b :: c :: q) = 0 ∨ (b :: c :: q).take (mant (b :: c :: q)) = [46]) := by
            rintro (h | h)
            · omega
            · have := congrArg List.length h
              rw [List.length_take] at this
              simp at this
              omega
          rw [if_neg hne]
          constructor
          · intro _
            refine ⟨by simp, .inr ⟨h46, by simp, ?_⟩⟩
            rw [decB_digI] at hc
            simpa [nth] using hc
          · intro _
            omega
        · have hz : run decB r = 0 := by omega
          have hm1 : mant (b :: r) = 1 := by omega
          rw [if_pos (.inr (by rw [hm1]; simp [hb46]))]
          constructor
          · intro h; omega
          · rintro ⟨_, h | ⟨_, h1, h2⟩⟩
            · rw [hd] at h; cases h
            · cases r with
              | nil => simp at h1
              | cons c q =>
                have : decB c = true := by rw [decB_digI]; simpa [nth] using h2
                exact absurd ((run_pos decB (c :: q)).2 ⟨c, q, rfl, this⟩) hr
      · rw [if_neg h46] at hmant
        rw [if_pos (.inl hmant)]
        constructor
        · intro h; omega
        · rintro ⟨_, h | ⟨h, _⟩⟩
          · rw [hd] at h; cases h
          · exact absurd h h46

theorem num_starts (l : List UInt8) (n : Nat) (h : NumIs l n) : 0 < n ↔ startsP l := by
  rcases h with ⟨⟨⟨h2, h0, _⟩, hr⟩, rfl⟩ | ⟨_, rfl⟩
  · constructor
    · intro _
      exact ⟨by omega, .inl (by rw [h0]; decide)⟩
    · intro _
      omega
  · exact dec_starts l

set_option maxHeartbeats 400000 in
theorem zzb10 (s : ByteArray) (w : World) (h : s.size ≤ 1048576) : Calls Tryd.prog 10 #[.string s] w fun e w' => e = .returned (.bool true) ∧ w' = w := by
  have h2 : ¬ (1048576 : Int) < (s.size : Int) := by omega
  go_enter Tryd.func10, Tryd.ntmps10
  go_wp2
  go_ret
  exact ⟨rfl, rfl⟩

set_option maxHeartbeats 800000 in
theorem starts_any (s : ByteArray) (w : World) (hmax : s.size ≤ 9223372036854775807) :
    Calls Tryd.prog 5 #[.string s] w fun e w' => e = .returned (.bool true) ∧ Below w.heap.size w w' := by
  by_cases h1 : 1048576 < s.size
  · have h2 : (1048576 : Int) < (s.size : Int) := by omega
    go_enter Tryd.func5, Tryd.ntmps5
    go_wp2
    go_ret
    exact ⟨rfl, Below.refl _ _⟩
  have hs : s.size ≤ 1048576 := by omega
  have hd1 : ¬ (1048576 : Int) < (s.size : Int) := by omega
  obtain ⟨n, hN, hcon⟩ := zznum s w hs
  have hst := num_starts _ _ hN
  unfold startsP at hst
  rw [← size_len] at hst
  have HS : Hid (0 < n ↔ 0 < s.size ∧ (digI (nth s.data.toList 0) = true ∨ (nth s.data.toList 0 = 46 ∧ 1 < s.size ∧ digI (nth s.data.toList 1) = true))) := hst
  clear hst hN
  by_cases hz : 0 < s.size
  · have hz' : decide ((0 : Int) < (s.size : Int)) = true := by simp; omega
    have a0 := nth_at s 0 hz
    have hc0 := dig_any (nth s.data.toList 0) w
    cases hd0 : digI (nth s.data.toList 0) with
    | true =>
      rw [hd0] at hc0
      have hpos : 0 < n := HS.out.2 ⟨hz, .inl hd0⟩
      have hp' : decide ((0 : Int) < (n : Int)) = true := by simp; omega
      clear hd0 HS
      go_enter Tryd.func5, Tryd.ntmps5
      go_wp2_with fail
      refine (zzb10 _ _ hs).mono ?_
      rintro e w1 ⟨rfl, hw⟩
      subst w1
      go_wp2_with fail
      refine hc0.mono ?_
      rintro e w1 ⟨rfl, hw⟩
      subst w1
      clear hc0
      go_wp2_with fail
      refine hcon.mono ?_
      rintro e w1 ⟨rfl, hb⟩
      clear hcon
      go_wp2_with fail
      go_ret
      exact ⟨rfl, hb⟩
    | false =>
      rw [hd0] at hc0
      by_cases h46 : nth s.data.toList 0 = 46
      · by_cases hz1 : 1 < s.size
        · have hz1' : decide ((1 : Int) < (s.size : Int)) = true := by simp; omega
          have a1 := nth_at s 1 hz1
          have hc1 := dig_any (nth s.data.toList 1) w
          cases hd1 : digI (nth s.data.toList 1) with
          | true =>
            rw [hd1] at hc1
            have hpos : 0 < n := HS.out.2 ⟨hz, .inr ⟨h46, hz1, hd1⟩⟩
            have hp' : decide ((0 : Int) < (n : Int)) = true := by simp; omega
            rw [h46] at a0 hc0
            clear hd0 HS hd1 h46
            go_enter Tryd.func5, Tryd.ntmps5
            go_wp2_with fail
            refine (zzb10 _ _ hs).mono ?_
            rintro e w1 ⟨rfl, hw⟩
            subst w1
            go_wp2_with fail
            refine hc0.mono ?_
            rintro e w1 ⟨rfl, hw⟩
            subst w1
            clear hc0
            go_wp2_with fail
            refine hc1.mono ?_
            rintro e w1 ⟨rfl, hw⟩
            subst w1
            clear hc1
            go_wp2_with fail
            refine hcon.mono ?_
            rintro e w1 ⟨rfl, hb⟩
            clear hcon
            go_wp2_with fail
            go_ret
            exact ⟨rfl, hb⟩
          | false =>
            rw [hd1] at hc1
            have hpos : ¬ 0 < n := fun h => by
              obtain ⟨_, h' | ⟨_, _, h'⟩⟩ := HS.out.1 h
              · rw [hd0] at h'; cases h'
              · rw [hd1] at h'; cases h'
            have hp' : decide ((0 : Int) < (n : Int)) = false := by simp; omega
            rw [h46] at a0 hc0
            clear hd0 HS hd1 h46
            go_enter Tryd.func5, Tryd.ntmps5
            go_wp2_with fail
            refine (zzb10 _ _ hs).mono ?_
            rintro e w1 ⟨rfl, hw⟩
            subst w1
            go_wp2_with fail
            refine hc0.mono ?_
            rintro e w1 ⟨rfl, hw⟩
            subst w1
            clear hc0
            go_wp2_with fail
            refine hc1.mono ?_
            rintro e w1 ⟨rfl, hw⟩
            subst w1
            clear hc1
            go_wp2_with fail
            refine hcon.mono ?_
            rintro e w1 ⟨rfl, hb⟩
            clear hcon
            go_wp2_with fail
            go_ret
            exact ⟨rfl, hb⟩
        · have hz1' : decide ((1 : Int) < (s.size : Int)) = false := by simp; omega
          have hpos : ¬ 0 < n := fun h => by
            obtain ⟨_, h' | ⟨_, h', _⟩⟩ := HS.out.1 h
            · rw [hd0] at h'; cases h'
            · exact hz1 h'
          have hp' : decide ((0 : Int) < (n : Int)) = false := by simp; omega
          rw [h46] at a0 hc0
          clear hd0 HS h46
          go_enter Tryd.func5, Tryd.ntmps5
          go_wp2_with fail
          refine (zzb10 _ _ hs).mono ?_
          rintro e w1 ⟨rfl, hw⟩
          subst w1
          go_wp2_with fail
          refine hc0.mono ?_
          rintro e w1 ⟨rfl, hw⟩
          subst w1
          clear hc0
          go_wp2_with fail
          refine hcon.mono ?_
          rintro e w1 ⟨rfl, hb⟩
          clear hcon
          go_wp2_with fail
          go_ret
          exact ⟨rfl, hb⟩
      · have q46 : (nth s.data.toList 0 == 46) = false := beq_eq_false_iff_ne.2 h46
        have hpos : ¬ 0 < n := fun h => by
          obtain ⟨_, h' | ⟨h', _⟩⟩ := HS.out.1 h
          · rw [hd0] at h'; cases h'
          · exact h46 h'
        have hp' : decide ((0 : Int) < (n : Int)) = false := by simp; omega
        clear hd0 HS h46
        go_enter Tryd.func5, Tryd.ntmps5
        go_wp2_with fail
        refine (zzb10 _ _ hs).mono ?_
        rintro e w1 ⟨rfl, hw⟩
        subst w1
        go_wp2_with fail
        refine hc0.mono ?_
        rintro e w1 ⟨rfl, hw⟩
        subst w1
        clear hc0
        go_wp2_with fail
        refine hcon.mono ?_
        rintro e w1 ⟨rfl, hb⟩
        clear hcon
        go_wp2_with fail
        go_ret
        exact ⟨rfl, hb⟩
  · have hz' : decide ((0 : Int) < (s.size : Int)) = false := decide_eq_false (by omega)
    have hpos : ¬ 0 < n := fun h => hz (HS.out.1 h).1
    have hp' : decide ((0 : Int) < (n : Int)) = false := by simp; omega
    clear HS
    go_enter Tryd.func5, Tryd.ntmps5
    go_wp2_with fail
    refine (zzb10 _ _ hs).mono ?_
    rintro e w1 ⟨rfl, hw⟩
    subst w1
    go_wp2_with fail
    refine hcon.mono ?_
    rintro e w1 ⟨rfl, hb⟩
    clear hcon
    go_wp2_with fail
    go_ret
    exact ⟨rfl, hb⟩
end Go.Proofs.Qxb6600238aDoor
