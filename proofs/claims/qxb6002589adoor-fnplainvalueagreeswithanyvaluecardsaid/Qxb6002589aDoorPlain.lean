import Derived.Test.Qxb6002589aDoorEnds
import Derived.Lib.Bytealg
namespace Go.Proofs.Qxb6002589aDoor
open Go.RowKit
set_option maxRecDepth 100000
set_option linter.unusedSimpArgs false
set_option linter.unusedVariables false

theorem plainB_facts {x : Int} (h : plainB x = true) : 32 ≤ x ∧ x ≤ 126 ∧ x ≠ 34 ∧ x ≠ 92 := by simpa [plainB] using h
theorem digB_facts {x : Int} (h : digB x = true) : 48 ≤ x ∧ x ≤ 57 := by simpa [digB] using h
theorem digB_not {x : Int} (h : digB x = false) : x < 48 ∨ 57 < x := by simp [digB] at h; omega

set_option maxHeartbeats 800000 in
theorem pstr_any (b o n c i k : Nat) (g : Nat → Int) (w : World) (hn : n ≤ 1048576) (hnc : n ≤ c) (hr : Row w b o n g) (hs : StrAt g n i k) :
    Calls Tryd.prog 24 #[.slice (some ⟨b, o, none⟩) n c, .int .i64 i] w fun e w' => (∃ v, e = .returned (.tuple #[v, .int .i64 ((k : Int) + 1)])) ∧ w' = w := by
  obtain ⟨hq, hik, hkn, hpl, hgk⟩ := hs
  have HR : Hid (Row w b o n g) := hr
  have HP : Hid (∀ j, i < j → j < k → plainB (g j) = true) := hpl
  have HK : Hid (g k = 34) := hgk
  have hci := hr i (by omega)
  rw [hq] at hci
  clear hr hq hpl hgk
  have hd1 : ((i : Int) == (n : Int)) = false := beq_eq_false_iff_ne.2 (by omega)
  go_enter Tryd.func24, Tryd.ntmps24
  go_wp2_with fail
  clear hci
  go_loop [6] (fun jj => ∃ j : Nat, i < j ∧ j ≤ k ∧ jj = .int .i64 j) (fun jj => k - (intOf jj).toNat)
  case atStart => exact ⟨i + 1, by omega, by omega, by go_num⟩
  case round =>
    obtain ⟨j, hj1, hj2, rfl⟩ := hrel
    have hd2 : decide ((j : Int) < (n : Int)) = true := by simp; omega
    have hc := HR.out j (by omega)
    by_cases hlt : j < k
    · obtain ⟨p1, p2, p3, p4⟩ := plainB_facts (HP.out j hj1 hlt)
      have q1 : (g j == 34) = false := beq_eq_false_iff_ne.2 p3
      have q2 : (g j == 92) = false := beq_eq_false_iff_ne.2 p4
      clear p3 p4
      go_wp2_with fail
      exact ⟨⟨j + 1, by omega, by omega, by go_num⟩, by simp [intOf]; omega⟩
    · obtain rfl : j = k := by omega
      rw [HK.out] at hc
      go_wp2_with fail
      go_ret2
      exact ⟨⟨_, rfl⟩, rfl⟩

/-- What 'plainValue' answers where a plain value stands. -/
def PlainSaid (b o n c i m : Nat) (w : World) : Prop :=
  Calls Tryd.prog 17 #[.slice (some ⟨b, o, none⟩) n c, .int .i64 i] w fun e w' => e = .returned (.tuple #[.slice (some ⟨b, o + i, none⟩) (m - i) (c - i), .int .i64 m]) ∧ Below w.heap.size w w'

set_option maxHeartbeats 800000 in
theorem pv_str (b o n c i k : Nat) (g : Nat → Int) (w : World) (hn : n ≤ 1048576) (hnc : n ≤ c) (hr : Row w b o n g) (hs : StrAt g n i k) : PlainSaid b o n c i (k + 1) w := by
  have hcon := pstr_any b o n c i k g w hn hnc hr hs
  obtain ⟨hq, hik, hkn, _, _⟩ := hs
  have hci := hr i (by omega)
  rw [hq] at hci
  clear hr hq
  have hd1 : ((i : Int) == (n : Int)) = false := beq_eq_false_iff_ne.2 (by omega)
  unfold PlainSaid
  go_enter Tryd.func17, Tryd.ntmps17
  go_wp2_with fail
  refine hcon.mono ?_
  rintro e w1 ⟨⟨v, rfl⟩, hw⟩
  subst w1
  go_wp2_with fail
  go_ret2
  exact ⟨rfl, Below.refl _ _⟩

set_option maxHeartbeats 800000 in
theorem pv_zero (b o n c i : Nat) (g : Nat → Int) (w : World) (hn : n ≤ 1048576) (hi : i < n) (hnc : n ≤ c) (hr : Row w b o n g) (hq : g i = 48) : PlainSaid b o n c i (i + 1) w := by
  have hci := hr i (by omega)
  rw [hq] at hci
  clear hr hq
  have hd1 : ((i : Int) == (n : Int)) = false := beq_eq_false_iff_ne.2 (by omega)
  have hsub : i + 1 - i = 1 := by omega
  unfold PlainSaid
  go_enter Tryd.func17, Tryd.ntmps17
  go_wp2_with fail
  go_ret2
  exact ⟨by simp, Below.refl _ _⟩

set_option maxHeartbeats 800000 in
theorem pv_run (b o n c i m : Nat) (g : Nat → Int) (w : World) (hn : n ≤ 1048576) (hnc : n ≤ c) (hr : Row w b o n g) (hs : RunAt g n i m) : PlainSaid b o n c i m w := by
  obtain ⟨h1, h2, him, hmn, hdig, hend⟩ := hs
  have HR : Hid (Row w b o n g) := hr
  have HD : Hid (∀ j, i < j → j < m → digB (g j) = true) := hdig
  have HE : Hid (m < n → digB (g m) = false) := hend
  have hci := hr i (by omega)
  clear hr hdig hend
  have hd1 : ((i : Int) == (n : Int)) = false := beq_eq_false_iff_ne.2 (by omega)
  have hq1 : (g i == 34) = false := beq_eq_false_iff_ne.2 (by omega)
  have hq2 : (g i == 48) = false := beq_eq_false_iff_ne.2 (by omega)
  unfold PlainSaid
  go_enter Tryd.func17, Tryd.ntmps17
  go_wp2_with fail
  clear hci
  go_loop [5] (fun jj => ∃ j : Nat, i < j ∧ j ≤ m ∧ jj = .int .i64 j) (fun jj => m - (intOf jj).toNat)
  case atStart => exact ⟨i + 1, by omega, by omega, by go_num⟩
  case round =>
    obtain ⟨j, hj1, hj2, rfl⟩ := hrel
    by_cases hlt : j < m
    · have hd2 : decide ((j : Int) < (n : Int)) = true := by simp; omega
      have hc := HR.out j (by omega)
      obtain ⟨p1, p2⟩ := digB_facts (HD.out j hj1 hlt)
      go_wp2_with fail
      exact ⟨⟨j + 1, by omega, by omega, by go_num⟩, by simp [intOf]; omega⟩
    · obtain rfl : j = m := by omega
      by_cases hjn : j < n
      · have hd2 : decide ((j : Int) < (n : Int)) = true := by simp; omega
        have hc := HR.out j hjn
        by_cases hlow : g j < 48
        · go_wp2_with fail
          go_ret2
          exact ⟨rfl, Below.refl _ _⟩
        · have hhi : 57 < g j := by have := digB_not (HE.out hjn); omega
          go_wp2_with fail
          go_ret2
          exact ⟨rfl, Below.refl _ _⟩
      · have hd2 : decide ((j : Int) < (n : Int)) = false := by simp; omega
        go_wp2_with fail
        go_ret2
        exact ⟨rfl, Below.refl _ _⟩

/-- string(line[i:i+len]). -/
theorem conv_win (W : World) (b o n c i len : Nat) (g : Nat → Int) (hr : Row W b o n g) (h : i + len ≤ n) :
    (convert 22 9 (.slice (some ⟨b, o + i, none⟩) len (c - i))).run Tryd.prog W = .ok (.string (strOfNums ((List.range len).map fun t => g (i + t)))) W :=
  run_convert_bytes_arg (P := Tryd.prog) W 22 5 Tryd.underlying22 Tryd.underlying5 b (o + i) len (c - i) _ (by simp) (fun t ht => by
    rw [Nat.add_assoc, hr (i + t) (by omega)]
    simp [ht]) 9 Tryd.underlying9

theorem win_eq {g : Nat → Int} {n i : Nat} {s : ByteArray} (h : LitAt g n i s) : strOfNums ((List.range s.size).map fun t => g (i + t)) = s := by
  obtain ⟨_, he⟩ := h
  unfold strOfNums
  apply ByteArray.ext
  apply Array.ext'
  rw [List.map_map]
  apply List.ext_getElem
  · simp
  · intro t h1 h2
    have ht : t < s.size := by simpa using h2
    have hx := he t ht
    have hl := lb_at s t ht
    simp only [List.getElem_map, List.getElem_range, Function.comp, hx, ← hl]
    simp
    rfl

theorem win_ne {g : Nat → Int} {i len : Nat} {x : UInt8} {l : List UInt8} (h0 : 0 < len) (hb : 0 ≤ g i ∧ g i < 256) (hne : g i ≠ (x.toNat : Int)) : ((strOfNums ((List.range len).map fun t => g (i + t))).toList == x :: l) = false := by
  apply beq_eq_false_iff_ne.2
  intro e
  apply hne
  obtain ⟨m, rfl⟩ : ∃ m, len = m + 1 := ⟨len - 1, by omega⟩
  rw [Lib.toList_data] at e
  simp only [strOfNums, List.range_succ_eq_map, List.map_cons, Nat.add_zero] at e
  injection e with e1 _
  have := congrArg UInt8.toNat e1
  rw [UInt8.toNat_ofNat'] at this
  omega

theorem lits_below {w : World} {b o n : Nat} {g : Nat → Int} (hr : Row w b o n g) (hb : b < w.heap.size) : Row (w.alloc (.cells #[.string ⟨#[116, 114, 117, 101]⟩, .string ⟨#[102, 97, 108, 115, 101]⟩, .string ⟨#[110, 117, 108, 108]⟩] 9)) b o n g :=
  hr.below ((Below.refl _ _).alloc (Nat.le_refl _) _) hb

set_option maxHeartbeats 800000 in
theorem pv_true (b o n c i : Nat) (g : Nat → Int) (w : World) (hn : n ≤ 1048576) (hnc : n ≤ c) (hb : b < w.heap.size) (hr : Row w b o n g) (hs : LitAt g n i sTrue) : PlainSaid b o n c i (i + 4) w := by
  have hC := conv_win (w.alloc (.cells #[.string ⟨#[116, 114, 117, 101]⟩, .string ⟨#[102, 97, 108, 115, 101]⟩, .string ⟨#[110, 117, 108, 108]⟩] 9)) b o n c i 4 g (hr.below ((Below.refl _ _).alloc (Nat.le_refl _) _) hb) hs.1
  rw [show strOfNums ((List.range 4).map fun t => g (i + t)) = ⟨#[116, 114, 117, 101]⟩ from win_eq hs] at hC
  obtain ⟨hle, heq⟩ := hs
  have hle4 : i + 4 ≤ n := hle
  have e0 : g i = 116 := heq 0 (by decide)
  have hci := hr i (by omega)
  rw [e0] at hci
  clear hr heq hle e0
  have hd1 : ((i : Int) == (n : Int)) = false := beq_eq_false_iff_ne.2 (by omega)
  unfold PlainSaid
  go_enter Tryd.func17, Tryd.ntmps17
  go_wp2_with fail
  go_rounds 1
  go_ret2
  exact ⟨rfl, (Below.refl _ _).alloc (Nat.le_refl _) _⟩

set_option maxHeartbeats 800000 in
theorem pv_false (b o n c i : Nat) (g : Nat → Int) (w : World) (hn : n ≤ 1048576) (hnc : n ≤ c) (hb : b < w.heap.size) (hr : Row w b o n g) (hs : LitAt g n i sFalse) : PlainSaid b o n c i (i + 5) w := by
  have hle5 : i + 5 ≤ n := hs.1
  have e0 : g i = 102 := hs.2 0 (by decide)
  have hC := conv_win _ b o n c i 5 g (lits_below hr hb) hs.1
  rw [show strOfNums ((List.range 5).map fun t => g (i + t)) = ⟨#[102, 97, 108, 115, 101]⟩ from win_eq hs] at hC
  have hC4 := conv_win _ b o n c i 4 g (lits_below hr hb) (by omega)
  have hne := win_ne (g := g) (i := i) (len := 4) (x := 116) (l := [114, 117, 101]) (by omega) (by omega) (by rw [e0]; decide)
  generalize strOfNums ((List.range 4).map fun t => g (i + t)) = S4 at hC4 hne
  have hci := hr i (by omega)
  rw [e0] at hci
  clear hr hs e0
  have hd1 : ((i : Int) == (n : Int)) = false := beq_eq_false_iff_ne.2 (by omega)
  unfold PlainSaid
  go_enter Tryd.func17, Tryd.ntmps17
  go_wp2_with fail
  go_rounds 2
  go_ret2
  exact ⟨rfl, (Below.refl _ _).alloc (Nat.le_refl _) _⟩

set_option maxHeartbeats 800000 in
theorem pv_null (b o n c i : Nat) (g : Nat → Int) (w : World) (hn : n ≤ 1048576) (hnc : n ≤ c) (hb : b < w.heap.size) (hr : Row w b o n g) (hs : LitAt g n i sNull) : PlainSaid b o n c i (i + 4) w := by
  have hle4 : i + 4 ≤ n := hs.1
  have e0 : g i = 110 := hs.2 0 (by decide)
  have hC4 := conv_win _ b o n c i 4 g (lits_below hr hb) (by omega)
  rw [show strOfNums ((List.range 4).map fun t => g (i + t)) = ⟨#[110, 117, 108, 108]⟩ from win_eq hs] at hC4
  have hci := hr i (by omega)
  rw [e0] at hci
  have hd1 : ((i : Int) == (n : Int)) = false := beq_eq_false_iff_ne.2 (by omega)
  unfold PlainSaid
  by_cases h5 : i + 5 ≤ n
  · have hC := conv_win _ b o n c i 5 g (lits_below hr hb) h5
    have hne := win_ne (g := g) (i := i) (len := 5) (x := 102) (l := [97, 108, 115, 101]) (by omega) (by omega) (by rw [e0]; decide)
    generalize strOfNums ((List.range 5).map fun t => g (i + t)) = S5 at hC hne
    clear hr hs e0
    go_enter Tryd.func17, Tryd.ntmps17
    go_wp2_with fail
    go_rounds 3
    go_ret2
    exact ⟨rfl, (Below.refl _ _).alloc (Nat.le_refl _) _⟩
  · have h5' : ¬ (5 : Int) ≤ (n : Int) - (i : Int) := by omega
    clear hr hs e0
    go_enter Tryd.func17, Tryd.ntmps17
    go_wp2_with fail
    go_rounds 3
    go_ret2
    exact ⟨rfl, (Below.refl _ _).alloc (Nat.le_refl _) _⟩
end Go.Proofs.Qxb6002589aDoor
