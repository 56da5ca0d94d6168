import Derived.Test.Qxb6002589aDoorPlain
namespace Go.Proofs.Qxb6002589aDoor
open Go.RowKit
set_option maxRecDepth 100000
set_option linter.unusedSimpArgs false
set_option linter.unusedVariables false

set_option maxHeartbeats 800000 in
theorem send_any (b o n c i k : Nat) (g : Nat → Int) (w : World) (hn : n ≤ 1048576) (hr : Row w b o n g) (hs : StrAt g n i k) :
    Calls Tryd.prog 25 #[.slice (some ⟨b, o, none⟩) n c, .int .i64 i] w fun e w' => e = .returned (.int .i64 ((k : Int) + 1)) ∧ w' = w := by
  obtain ⟨hq, hik, hkn, hpl, hgk⟩ := hs
  have HR : Hid (Row w b o n g) := hr
  have HP : Hid (∀ j, i < j → j < k → plainB (g j) = true) := hpl
  have HK : Hid (g k = 34) := hgk
  clear hr hq hpl hgk
  go_enter Tryd.func25, Tryd.ntmps25
  go_wp2_with fail
  go_loop [5] (fun jj => ∃ j : Nat, i < j ∧ j ≤ k ∧ jj = .int .i64 j) (fun jj => k - (intOf jj).toNat)
  case atStart => exact ⟨i + 1, by omega, by omega, by go_num⟩
  case round =>
    obtain ⟨j, hj1, hj2, rfl⟩ := hrel
    have hc := HR.out j (by omega)
    by_cases hlt : j < k
    · obtain ⟨p1, p2, p3, p4⟩ := plainB_facts (HP.out j hj1 hlt)
      have q1 : (g j == 34) = false := beq_eq_false_iff_ne.2 p3
      have q2 : (g j == 92) = false := beq_eq_false_iff_ne.2 p4
      clear p3 p4
      go_wp2_with fail
      exact ⟨⟨j + 1, by omega, by omega, by go_num⟩, by simp [intOf]; omega⟩
    · obtain rfl : j = k := by omega
      rw [HK.out] at hc
      go_wp2_with fail
      go_ret
      exact ⟨rfl, rfl⟩

def sDelim : ByteArray := ⟨#[44, 125, 32, 9, 13, 10]⟩

theorem byte8 (x : Int) (h0 : 0 ≤ x) (h1 : x < 256) (k : UInt8) : (x.toNat.toUInt8 = k) ↔ x = (k.toNat : Int) := by
  have hb : (x.toNat.toUInt8).toNat = x.toNat := by simp; omega
  constructor
  · intro e
    have := congrArg UInt8.toNat e
    omega
  · intro e
    apply UInt8.toNat_inj.1
    omega

theorem idx_no (x : Int) (h0 : 0 ≤ x) (h1 : x < 256) (h : delimB x = false) : Lib.indexByte [44, 125, 32, 9, 13, 10] x.toNat.toUInt8 = -1 := by
  have hd : ¬ (x = 44 ∨ x = 125 ∨ x = 32 ∨ x = 9 ∨ x = 13 ∨ x = 10) := by simpa [delimB] using h
  have key : ∀ k : UInt8, x ≠ (k.toNat : Int) → (k == x.toNat.toUInt8) = false := fun k hk => by
    apply beq_eq_false_iff_ne.2
    intro e
    exact hk ((byte8 x h0 h1 k).1 e.symm)
  have k1 := key 44 (by intro e; exact hd (.inl e))
  have k2 := key 125 (by intro e; exact hd (.inr (.inl e)))
  have k3 := key 32 (by intro e; exact hd (.inr (.inr (.inl e))))
  have k4 := key 9 (by intro e; exact hd (.inr (.inr (.inr (.inl e)))))
  have k5 := key 13 (by intro e; exact hd (.inr (.inr (.inr (.inr (.inl e))))))
  have k6 := key 10 (by intro e; exact hd (.inr (.inr (.inr (.inr (.inr e))))))
  simp [Lib.indexByte, k1, k2, k3, k4, k5, k6]

theorem idx_yes (x : Int) (h : delimB x = true) : 0 ≤ Lib.indexByte [44, 125, 32, 9, 13, 10] x.toNat.toUInt8 := by
  have hd : x = 44 ∨ x = 125 ∨ x = 32 ∨ x = 9 ∨ x = 13 ∨ x = 10 := by simpa [delimB] using h
  rcases hd with rfl | rfl | rfl | rfl | rfl | rfl <;> decide

theorem run_ibs (x : Int) (w : World) : (callFunc 30 #[.string ⟨#[44, 125, 32, 9, 13, 10]⟩, .int .u8 x]).run Tryd.prog w = .ok (.value (.int .i64 (Lib.indexByte [44, 125, 32, 9, 13, 10] x.toNat.toUInt8))) w := by
  rw [run_callFunc_extern Tryd.func30 (by kernel_rfl) (by kernel_rfl) (by kernel_rfl) (e := Extern.BytealgIndexByte.indexByte) (by kernel_rfl), Lib.run_indexByteString]
  rfl

set_option maxHeartbeats 800000 in
theorem ia_short (b o n c k : Nat) (g : Nat → Int) (w : World) (h2 : 2 ≤ n) (h8 : n ≤ 8) (hk : k < n) (hr : Row w b o n g) (hby : ∀ j, j ≤ k → 0 ≤ g j ∧ g j < 128) (hno : ∀ j, j < k → delimB (g j) = false) (hyes : delimB (g k) = true) :
    Calls Tryd.prog 26 #[.slice (some ⟨b, o, none⟩) n c, .string sDelim] w fun e w' => e = .returned (.int .i64 k) ∧ w' = w := by
  have HR : Hid (Row w b o n g) := hr
  have HB : Hid (∀ j, j ≤ k → 0 ≤ g j ∧ g j < 128) := hby
  have HN : Hid (∀ j, j < k → delimB (g j) = false) := hno
  have HY : Hid (delimB (g k) = true) := hyes
  clear hr hby hno hyes
  have hq1 : ((n : Int) == 1) = false := beq_eq_false_iff_ne.2 (by omega)
  have hd8 : decide ((8 : Int) < (n : Int)) = false := by simp; omega
  unfold sDelim
  go_enter Tryd.func26, Tryd.ntmps26
  go_wp2
  go_loop [12, 11] (fun jj ww => ∃ j : Nat, j ≤ k ∧ jj = .int .i64 j) (fun jj _ => k - (intOf jj).toNat)
  case atStart => exact ⟨0, by omega, rfl⟩
  case round =>
    obtain ⟨j, hj2, rfl⟩ := hrel
    have hc := HR.out j (by omega)
    have hg := HB.out j hj2
    have hrun := run_ibs (g j) w
    by_cases hlt : j < k
    · rw [idx_no (g j) hg.1 (by omega) (HN.out j hlt)] at hrun
      go_wp2
      exact ⟨⟨j + 1, by omega, by go_num⟩, by simp [intOf]; omega⟩
    · obtain rfl : j = k := by omega
      have hpos := idx_yes (g j) HY.out
      generalize Lib.indexByte [44, 125, 32, 9, 13, 10] (g j).toNat.toUInt8 = x at hrun hpos
      go_wp2
      go_ret
      exact ⟨rfl, rfl⟩
end Go.Proofs.Qxb6002589aDoor
