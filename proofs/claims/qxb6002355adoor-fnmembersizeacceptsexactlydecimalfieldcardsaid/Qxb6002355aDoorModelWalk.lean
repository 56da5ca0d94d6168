import Derived.Test.Qxb6002355aDoorModel
namespace Go.Proofs.Qxb6002355aDoor
open Go.RowKit
set_option maxRecDepth 100000
set_option linter.unusedSimpArgs false
set_option linter.unusedVariables false

/-- The i-th byte of the field. -/
def fb (f : List Int) (i : Nat) : Int := f.getD i 0

theorem ret_ms {f : List Int} {v : Int} {b : Bool} (h : msPair f = (v, b)) : Ending.returned (.tuple #[.int .i64 v, .bool b]) = .returned (.tuple #[.int .i64 (msPair f).1, .bool (msPair f).2]) := by rw [h]

theorem piece_len (f : List Int) (i k : Nat) (hk : k ≤ f.length) : (piece f i k).length = k - i := by
  simp [piece, Lib.bytesOf]; omega
theorem val_bound (f : List Int) (i k v : Nat) (hf : f.length = 10) (hik : i ≤ k) (hk : k ≤ 10) (h : Lib.decFrom 0 (piece f i k) = some v) : v ≤ 10000000000 := by
  have h1 := decFrom_lt _ _ _ h
  rw [piece_len f i k (by omega)] at h1
  have h2 : 10 ^ (k - i) ≤ 10 ^ 10 := Nat.pow_le_pow_right (by omega) (by omega)
  have h3 : (10 : Nat) ^ 10 = 10000000000 := by decide
  omega
theorem decNat_piece (f : List Int) (i k : Nat) (hf : f.length = 10) (hk : k ≤ 10) (hik : i < k) : Lib.decNat (piece f i k) = Lib.decFrom 0 (piece f i k) := by
  unfold Lib.decNat
  rw [piece_cons f i k hik (by omega)]
  rfl
theorem piece_bad (f : List Int) (i m k : Nat) (hf : f.length = 10) (hm : m ≤ 10) (him : i < m) (hk : i ≤ k) (hkm : k < m) (ha : 0 ≤ fb f k ∧ fb f k < 128) (hd : ¬ (48 ≤ fb f k ∧ fb f k ≤ 57)) : Lib.decNat (piece f i m) = none := by
  rw [decNat_piece f i m hf hm him]
  refine decFrom_none _ _ (UInt8.ofNat (fb f k).toNat) ?_ (digit_no _ ha.1 (by omega) hd)
  unfold piece Lib.bytesOf
  apply List.mem_map.2
  refine ⟨fb f k, ?_, rfl⟩
  apply List.mem_iff_getElem?.2
  refine ⟨k - i, ?_⟩
  rw [List.getElem?_take, if_pos (by omega), List.getElem?_drop, show i + (k - i) = k by omega]
  simp [fb, List.getD, show k < f.length by omega]

set_option maxHeartbeats 2000000 in
theorem model_any (b o c : Nat) (f : List Int) (w : World) (hf : f.length = 10) (hrow : ∀ i, i < 10 → w.cell? ⟨b, o + i, none⟩ = some (.int .u8 (fb f i))) (hasc : ∀ i, i < 10 → 0 ≤ fb f i ∧ fb f i < 128) :
    Calls Tryd.prog 8 #[.slice (some ⟨b, o, none⟩) 10 c] w fun e w' => e = .returned (.tuple #[.int .i64 (msPair f).1, .bool (msPair f).2]) ∧ w' = w := by
  have HR : Hid (∀ i, i < 10 → w.cell? ⟨b, o + i, none⟩ = some (.int .u8 (fb f i))) := hrow
  have HA : Hid (∀ i, i < 10 → 0 ≤ fb f i ∧ fb f i < 128) := hasc
  clear hrow hasc
  go_enter Tryd.func8, Tryd.ntmps8
  go_wp2_with fail
  go_loop [4] (fun i => ∃ k : Nat, k ≤ 10 ∧ i = .int .i64 k ∧ ∀ j, j < k → spI (fb f j) = true) (fun i => 10 - (intOf i).toNat)
  case atStart => exact ⟨0, by omega, rfl, fun j h => by omega⟩
  case round =>
    obtain ⟨lo, hlo, rfl, hsp⟩ := hrel
    have HS : Hid (∀ j, j < lo → spI (fb f j) = true) := hsp
    clear hsp
    by_cases hgo : lo < 10 ∧ spI (fb f lo) = true
    · obtain ⟨hlt, hs⟩ := hgo
      have hc := HR.out lo (by omega)
      have ha := HA.out lo hlt
      have hcon := space_any (fb f lo) w ha.1 (by omega)
      rw [hs] at hcon
      have HS1 : Hid (spI (fb f lo) = true) := hs
      clear hs
      have hd : decide ((lo : Int) < 10) = true := by simp; omega
      go_wp2_with fail
      refine hcon.mono ?_
      rintro e w1 ⟨rfl, hw⟩
      subst w1
      go_wp2_with fail
      refine ⟨⟨lo + 1, by omega, by go_num, ?_⟩, by simp [intOf]; omega⟩
      intro j hj
      by_cases hjl : j = lo
      · subst hjl; exact HS1.out
      · exact HS.out j (by omega)
    · have hst : Hid (lo < 10 → spI (fb f lo) = false) := fun h => by
        cases hb : spI (fb f lo) with
        | false => rfl
        | true => exact absurd ⟨h, hb⟩ hgo
      clear hgo
      have hup : lo < 10 → Calls Tryd.prog 13 #[.int .u8 (fb f lo)] w fun e w' => e = .returned (.bool false) ∧ w' = w := fun h => by
        have := space_any (fb f lo) w (HA.out lo h).1 (by have := HA.out lo h; omega)
        rw [hst.out h] at this
        exact this
      by_cases hlt : lo < 10
      · have hc := HR.out lo hlt
        have hcon := hup hlt
        clear hup
        have hd : decide ((lo : Int) < 10) = true := by simp; omega
        go_wp2_with fail
        refine hcon.mono ?_
        rintro e w1 ⟨rfl, hw⟩
        subst w1
        clear hcon
        go_wp2_with fail
        go_loop [5] (fun j => ∃ hi : Nat, lo < hi ∧ hi ≤ 10 ∧ j = .int .i64 hi ∧ ∀ t, hi ≤ t → t < 10 → spI (fb f t) = true) (fun j => (intOf j).toNat)
        case atStart => exact ⟨10, by omega, by omega, rfl, fun t h1 h2 => by omega⟩
        case round =>
          obtain ⟨hi, hh1, hh2, rfl, hsp2⟩ := hrel
          have HS2 : Hid (∀ t, hi ≤ t → t < 10 → spI (fb f t) = true) := hsp2
          clear hsp2
          have hcc := HR.out (hi - 1) (by omega)
          have haa := HA.out (hi - 1) (by omega)
          have hcon := space_any (fb f (hi - 1)) w haa.1 (by omega)
          have hd2 : decide ((lo : Int) < (hi : Int)) = true := by simp; omega
          have hsub : ((hi : Int) - 1).toNat = hi - 1 := by omega
          cases hlast : spI (fb f (hi - 1)) with
          | true =>
            rw [hlast] at hcon
            have HL : Hid (spI (fb f (hi - 1)) = true) := hlast
            clear hlast
            have hne : lo < hi - 1 := by
              apply Nat.lt_of_not_le
              intro hle
              have e : hi - 1 = lo := by omega
              have := HL.out
              rw [e, hst.out hlt] at this
              cases this
            go_wp2_with fail
            refine hcon.mono ?_
            rintro e w1 ⟨rfl, hw⟩
            subst w1
            go_wp2_with fail
            refine ⟨⟨hi - 1, by omega, by omega, by congr 1; omega, ?_⟩, by simp [intOf]; omega⟩
            intro t h1 h2
            by_cases ht : t = hi - 1
            · subst ht; exact HL.out
            · exact HS2.out t (by omega) h2
          | false =>
            rw [hlast] at hcon
            have HT : Hid (Lib.trimSpace (Lib.bytesOf f) = piece f lo hi) := trim_piece f lo hi (by omega) (by omega) HS.out (fun _ => hst.out hlt) (fun _ => hlast) (fun t h1 h2 => HS2.out t h1 (by omega))
            clear hlast
            have hfl := HA.out lo hlt
            go_wp2_with fail
            refine hcon.mono ?_
            rintro e w1 ⟨rfl, hw⟩
            subst w1
            clear hcon hcc haa
            by_cases hp : fb f lo = 43
            · have hq1 : (fb f lo == 43) = true := beq_iff_eq.2 hp
              have hq2 : (fb f lo == 45) = false := by rw [hp]; rfl
              have HP : Hid (fb f lo = 43) := hp
              clear hp
              have HG : Hid (Signed f (lo + 1) hi false) := Signed.plus HT.out hh1 (by omega) HP.out
              have hI : (lo + 1) ≤ hi := by omega
              by_cases hem : (lo + 1) = hi
              · have hfin : Hid (msPair f = (0, false)) := HG.out.fail (by rw [hem, piece_nil]; rfl)
                have hq : (((lo : Int) + 1 : Int) == (hi : Int)) = true := by rw [beq_iff_eq]; omega
                go_wp2_with fail
                go_ret2
                exact ⟨ret_ms hfin.out, rfl⟩
              · have hq : (((lo : Int) + 1 : Int) == (hi : Int)) = false := by apply beq_eq_false_iff_ne.2; omega
                go_wp2_with fail
                go_loop [8, 7] (fun kk vv => ∃ k v : Nat, (lo + 1) ≤ k ∧ k ≤ hi ∧ kk = .int .i64 k ∧ vv = .int .i64 v ∧ Lib.decFrom 0 (piece f (lo + 1) k) = some v) (fun kk _ => hi - (intOf kk).toNat)
                case atStart => exact ⟨lo + 1, 0, by omega, by omega, by go_num, rfl, by rw [piece_nil]; rfl⟩
                case round =>
                  obtain ⟨k, v, hk1, hk2, rfl, rfl, hdec⟩ := hrel
                  have hvb := val_bound f (lo + 1) k v hf (by omega) (by omega) hdec
                  have HD : Hid (Lib.decFrom 0 (piece f (lo + 1) k) = some v) := hdec
                  clear hdec
                  by_cases hlt : k < hi
                  · have hc := HR.out k (by omega)
                    have ha := HA.out k (by omega)
                    by_cases hdg : 48 ≤ fb f k ∧ fb f k ≤ 57
                    · obtain ⟨hg1, hg2⟩ := hdg
                      have hg3 : ¬ fb f k < 48 := by omega
                      have hg4 : ¬ 57 < fb f k := by omega
                      go_wp2_with fail
                      refine ⟨⟨k + 1, v * 10 + (fb f k - 48).toNat, by omega, by omega, by go_num, ?_, ?_⟩, by simp [intOf]; omega⟩
                      · congr 1; omega
                      · rw [piece_snoc f (lo + 1) k (by omega) (by omega)]
                        exact decFrom_snoc _ _ _ _ _ HD.out (digit_yes _ ⟨hg1, hg2⟩)
                    · have hfin : Hid (msPair f = (0, false)) := HG.out.fail (piece_bad f (lo + 1) hi k hf (by omega) (by omega) (by omega) (by omega) ha hdg)
                      by_cases hlow : fb f k < 48
                      · go_wp2_with fail
                        go_ret2
                        exact ⟨ret_ms hfin.out, rfl⟩
                      · have hhigh : 57 < fb f k := by omega
                        go_wp2_with fail
                        go_ret2
                        exact ⟨ret_ms hfin.out, rfl⟩
                  · obtain rfl : k = hi := by omega
                    have hdn : Lib.decNat (piece f (lo + 1) k) = some v := by rw [decNat_piece f (lo + 1) k hf (by omega) (by omega)]; exact HD.out
                    have hfin : Hid (msPair f = ((v : Int), true)) := HG.out.yes hdn
                    clear hdn
                    go_wp2_with fail
                    go_ret2
                    exact ⟨ret_ms hfin.out, rfl⟩
            · by_cases hm : fb f lo = 45
              · have hq1 : (fb f lo == 43) = false := by rw [hm]; rfl
                have hq2 : (fb f lo == 45) = true := beq_iff_eq.2 hm
                have HP : Hid (fb f lo = 45) := hm
                clear hm hp
                have HG : Hid (Signed f (lo + 1) hi true) := Signed.minus HT.out hh1 (by omega) HP.out
                have hI : (lo + 1) ≤ hi := by omega
                by_cases hem : (lo + 1) = hi
                · have hfin : Hid (msPair f = (0, false)) := HG.out.fail (by rw [hem, piece_nil]; rfl)
                  have hq : (((lo : Int) + 1 : Int) == (hi : Int)) = true := by rw [beq_iff_eq]; omega
                  go_wp2_with fail
                  go_ret2
                  exact ⟨ret_ms hfin.out, rfl⟩
                · have hq : (((lo : Int) + 1 : Int) == (hi : Int)) = false := by apply beq_eq_false_iff_ne.2; omega
                  go_wp2_with fail
                  go_loop [8, 7] (fun kk vv => ∃ k v : Nat, (lo + 1) ≤ k ∧ k ≤ hi ∧ kk = .int .i64 k ∧ vv = .int .i64 v ∧ Lib.decFrom 0 (piece f (lo + 1) k) = some v) (fun kk _ => hi - (intOf kk).toNat)
                  case atStart => exact ⟨lo + 1, 0, by omega, by omega, by go_num, rfl, by rw [piece_nil]; rfl⟩
                  case round =>
                    obtain ⟨k, v, hk1, hk2, rfl, rfl, hdec⟩ := hrel
                    have hvb := val_bound f (lo + 1) k v hf (by omega) (by omega) hdec
                    have HD : Hid (Lib.decFrom 0 (piece f (lo + 1) k) = some v) := hdec
                    clear hdec
                    by_cases hlt : k < hi
                    · have hc := HR.out k (by omega)
                      have ha := HA.out k (by omega)
                      by_cases hdg : 48 ≤ fb f k ∧ fb f k ≤ 57
                      · obtain ⟨hg1, hg2⟩ := hdg
                        have hg3 : ¬ fb f k < 48 := by omega
                        have hg4 : ¬ 57 < fb f k := by omega
                        go_wp2_with fail
                        refine ⟨⟨k + 1, v * 10 + (fb f k - 48).toNat, by omega, by omega, by go_num, ?_, ?_⟩, by simp [intOf]; omega⟩
                        · congr 1; omega
                        · rw [piece_snoc f (lo + 1) k (by omega) (by omega)]
                          exact decFrom_snoc _ _ _ _ _ HD.out (digit_yes _ ⟨hg1, hg2⟩)
                      · have hfin : Hid (msPair f = (0, false)) := HG.out.fail (piece_bad f (lo + 1) hi k hf (by omega) (by omega) (by omega) (by omega) ha hdg)
                        by_cases hlow : fb f k < 48
                        · go_wp2_with fail
                          go_ret2
                          exact ⟨ret_ms hfin.out, rfl⟩
                        · have hhigh : 57 < fb f k := by omega
                          go_wp2_with fail
                          go_ret2
                          exact ⟨ret_ms hfin.out, rfl⟩
                    · obtain rfl : k = hi := by omega
                      have hdn : Lib.decNat (piece f (lo + 1) k) = some v := by rw [decNat_piece f (lo + 1) k hf (by omega) (by omega)]; exact HD.out
                      by_cases hv0 : v = 0
                      · subst hv0
                        have hfin : Hid (msPair f = (0, true)) := HG.out.zeroNeg hdn
                        clear hdn
                        go_wp2_with fail
                        go_ret2
                        exact ⟨ret_ms hfin.out, rfl⟩
                      · have hfin : Hid (msPair f = (0, false)) := HG.out.yesNeg hdn hv0
                        clear hdn
                        have hvb2 : ((v : Int) == 0) = false := by apply beq_eq_false_iff_ne.2; omega
                        go_wp2_with fail
                        go_ret2
                        exact ⟨ret_ms hfin.out, rfl⟩
              · have hq1 : (fb f lo == 43) = false := beq_eq_false_iff_ne.2 hp
                have hq2 : (fb f lo == 45) = false := beq_eq_false_iff_ne.2 hm
                have HP : Hid (fb f lo ≠ 43) := hp
                have HP2 : Hid (fb f lo ≠ 45) := hm
                clear hm hp
                have HG : Hid (Signed f (lo) hi false) := Signed.bare HT.out hh1 (by omega) ⟨hfl.1, by have := hfl.2; unfold fb at this; omega⟩ HP.out HP2.out
                have hI : (lo) ≤ hi := by omega
                by_cases hem : (lo) = hi
                · have hfin : Hid (msPair f = (0, false)) := HG.out.fail (by rw [hem, piece_nil]; rfl)
                  have hq : (((lo : Int) : Int) == (hi : Int)) = true := by rw [beq_iff_eq]; omega
                  go_wp2_with fail
                  go_ret2
                  exact ⟨ret_ms hfin.out, rfl⟩
                · have hq : (((lo : Int) : Int) == (hi : Int)) = false := by apply beq_eq_false_iff_ne.2; omega
                  go_wp2_with fail
                  go_loop [8, 7] (fun kk vv => ∃ k v : Nat, (lo) ≤ k ∧ k ≤ hi ∧ kk = .int .i64 k ∧ vv = .int .i64 v ∧ Lib.decFrom 0 (piece f (lo) k) = some v) (fun kk _ => hi - (intOf kk).toNat)
                  case atStart => exact ⟨lo, 0, by omega, by omega, rfl, rfl, by rw [piece_nil]; rfl⟩
                  case round =>
                    obtain ⟨k, v, hk1, hk2, rfl, rfl, hdec⟩ := hrel
                    have hvb := val_bound f (lo) k v hf (by omega) (by omega) hdec
                    have HD : Hid (Lib.decFrom 0 (piece f (lo) k) = some v) := hdec
                    clear hdec
                    by_cases hlt : k < hi
                    · have hc := HR.out k (by omega)
                      have ha := HA.out k (by omega)
                      by_cases hdg : 48 ≤ fb f k ∧ fb f k ≤ 57
                      · obtain ⟨hg1, hg2⟩ := hdg
                        have hg3 : ¬ fb f k < 48 := by omega
                        have hg4 : ¬ 57 < fb f k := by omega
                        go_wp2_with fail
                        refine ⟨⟨k + 1, v * 10 + (fb f k - 48).toNat, by omega, by omega, by go_num, ?_, ?_⟩, by simp [intOf]; omega⟩
                        · congr 1; omega
                        · rw [piece_snoc f (lo) k (by omega) (by omega)]
                          exact decFrom_snoc _ _ _ _ _ HD.out (digit_yes _ ⟨hg1, hg2⟩)
                      · have hfin : Hid (msPair f = (0, false)) := HG.out.fail (piece_bad f (lo) hi k hf (by omega) (by omega) (by omega) (by omega) ha hdg)
                        by_cases hlow : fb f k < 48
                        · go_wp2_with fail
                          go_ret2
                          exact ⟨ret_ms hfin.out, rfl⟩
                        · have hhigh : 57 < fb f k := by omega
                          go_wp2_with fail
                          go_ret2
                          exact ⟨ret_ms hfin.out, rfl⟩
                    · obtain rfl : k = hi := by omega
                      have hdn : Lib.decNat (piece f (lo) k) = some v := by rw [decNat_piece f (lo) k hf (by omega) (by omega)]; exact HD.out
                      have hfin : Hid (msPair f = ((v : Int), true)) := HG.out.yes hdn
                      clear hdn
                      go_wp2_with fail
                      go_ret2
                      exact ⟨ret_ms hfin.out, rfl⟩
      · obtain rfl : lo = 10 := by omega
        have hfin : Hid (msPair f = (0, false)) := Signed.none (trim_piece f 10 10 (by omega) (by omega) HS.out (fun h => by omega) (fun h => by omega) (fun t h1 h2 => by omega))
        clear hup
        go_wp2_with fail
        go_rounds 1
        go_ret2
        exact ⟨ret_ms hfin.out, rfl⟩
end Go.Proofs.Qxb6002355aDoor
