import Derived.Test.Qxb6002673aDoorIsDev
namespace Go.Proofs.Qxb6002673aDoor
open Go.RowKit
set_option maxRecDepth 100000
set_option linter.unusedSimpArgs false
set_option linter.unusedVariables false

theorem dev_any (s : ByteArray) (w : World) (hs : s.size ≤ 1048576) (ha : ∀ t, t < s.size → bt s t < 128) : DevSaid s w := by
  by_cases h0 : U s = [67, 79, 78]
  · exact dev_w0 s w hs ha h0
  by_cases h1 : U s = [80, 82, 78]
  · exact dev_w1 s w hs ha h1
  by_cases h2 : U s = [65, 85, 88]
  · exact dev_w2 s w hs ha h2
  by_cases h3 : U s = [78, 85, 76]
  · exact dev_w3 s w hs ha h3
  by_cases h4 : U s = [67, 79, 78, 73, 78, 36]
  · exact dev_w4 s w hs ha h4
  by_cases h5 : U s = [67, 79, 78, 79, 85, 84, 36]
  · exact dev_w5 s w hs ha h5
  · refine dev_other s w hs ha ?_
    rintro (h | h | h | h | h | h)
    · exact h0 h
    · exact h1 h
    · exact h2 h
    · exact h3 h
    · exact h4 h
    · exact h5 h

set_option maxHeartbeats 400000 in
theorem zzDev {s : ByteArray} {w : World} (h : DevSaid s w) : Calls Tryd.prog 7 #[.string s] w fun e w' => e = .returned (.bool (modB s)) ∧ Below w.heap.size w w' := by
  unfold DevSaid at h
  go_enter Tryd.func7, Tryd.ntmps7
  go_wp2_with fail
  refine h.mono ?_
  rintro e w1 ⟨rfl, hb⟩
  clear h
  go_wp2_with fail
  go_ret
  exact ⟨rfl, hb⟩

set_option maxHeartbeats 400000 in
theorem zzb6 (s : ByteArray) (w : World) (h : s.size ≤ 1048576) : Calls Tryd.prog 6 #[.string s] w fun e w' => e = .returned (.bool true) ∧ w' = w := by
  have h2 : ¬ (1048576 : Int) < (s.size : Int) := by omega
  go_enter Tryd.func6, Tryd.ntmps6
  go_wp2
  go_ret
  exact ⟨rfl, rfl⟩

set_option maxHeartbeats 800000 in
theorem law_any (s : ByteArray) (w : World) (hmax : s.size ≤ 9223372036854775807) :
    Calls Tryd.prog 3 #[.string s] w fun e w' => e = .returned (.bool true) ∧ Below w.heap.size w w' := by
  by_cases h1 : 1048576 < s.size
  · have h2 : (1048576 : Int) < (s.size : Int) := by omega
    go_enter Tryd.func3, Tryd.ntmps3
    go_wp2
    go_ret
    exact ⟨rfl, Below.refl _ _⟩
  have hs : s.size ≤ 1048576 := by omega
  by_cases h3 : 65536 < s.size
  · have h2 : ¬ (1048576 : Int) < (s.size : Int) := by omega
    have h4 : (65536 : Int) < (s.size : Int) := by omega
    go_enter Tryd.func3, Tryd.ntmps3
    go_wp2
    go_ret
    exact ⟨rfl, Below.refl _ _⟩
  have h4 : ¬ (65536 : Int) < (s.size : Int) := by omega
  go_enter Tryd.func3, Tryd.ntmps3
  go_wp2_with fail
  refine (zzb6 _ _ hs).mono ?_
  rintro e w1 ⟨rfl, hw⟩
  subst w1
  go_wp2_with fail
  go_loop [3] (fun kk => ∃ k : Nat, k ≤ s.size ∧ kk = .int .i64 k ∧ ∀ t, t < k → bt s t < 128) (fun kk => s.size - (intOf kk).toNat)
  case atStart => exact ⟨0, by omega, rfl, fun t h => by omega⟩
  case round =>
    obtain ⟨k, hk, rfl, hall⟩ := hrel
    have HA : Hid (∀ t, t < k → bt s t < 128) := hall
    clear hall
    by_cases hlt : k < s.size
    · have hbk := bt_at s k hlt
      have hbd := bt_bd s k
      by_cases hbig : 128 ≤ bt s k
      · go_wp2_with fail
        go_ret
        exact ⟨rfl, Below.refl _ _⟩
      · go_wp2_with fail
        refine ⟨⟨k + 1, by omega, by go_num, ?_⟩, by simp [intOf]; omega⟩
        intro t ht
        by_cases e : t = k
        · subst e; omega
        · exact HA.out t (by omega)
    · have hdev := zzDev (dev_any s w hs fun t ht => HA.out t (by omega))
      have HM : Hid (∀ w1, Calls Tryd.prog 8 #[.string s] w1 fun e w' => e = .returned (.bool (modB s)) ∧ Below w1.heap.size w1 w') := fun w1 => model_any s w1 hs
      generalize modB s = v at *
      go_wp2_with fail
      refine hdev.mono ?_
      rintro e w1 ⟨rfl, hb1⟩
      clear hdev
      go_wp2_with fail
      refine (HM.out w1).mono ?_
      rintro e w2 ⟨rfl, hb2⟩
      go_wp2_with fail
      go_ret
      exact ⟨by simp, hb1.trans (hb2.mono hb1.size)⟩
end Go.Proofs.Qxb6002673aDoor
