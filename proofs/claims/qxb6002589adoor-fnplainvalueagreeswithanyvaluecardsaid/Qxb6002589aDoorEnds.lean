import Derived.Test.Qxb6002589aDoorBase
namespace Go.Proofs.Qxb6002589aDoor
open Go.RowKit
set_option maxRecDepth 100000
set_option linter.unusedSimpArgs false
set_option linter.unusedVariables false

/-- A plain string stands at i; k is its closing quote. -/
def StrAt (g : Nat → Int) (n i k : Nat) : Prop := g i = 34 ∧ i < k ∧ k < n ∧ (∀ j, i < j → j < k → plainB (g j) = true) ∧ g k = 34
/-- A run of digits from i to m. -/
def RunAt (g : Nat → Int) (n i m : Nat) : Prop := 49 ≤ g i ∧ g i ≤ 57 ∧ i < m ∧ m ≤ n ∧ (∀ j, i < j → j < m → digB (g j) = true) ∧ (m < n → digB (g m) = false)
def sTrue : ByteArray := ⟨#[116, 114, 117, 101]⟩
def sFalse : ByteArray := ⟨#[102, 97, 108, 115, 101]⟩
def sNull : ByteArray := ⟨#[110, 117, 108, 108]⟩
/-- A plain value stands at i and ends ahead of m. -/
def ValAt (g : Nat → Int) (n i m : Nat) : Prop :=
  (∃ k, StrAt g n i k ∧ m = k + 1) ∨ (g i = 48 ∧ m = i + 1) ∨ RunAt g n i m ∨ (LitAt g n i sTrue ∧ m = i + 4) ∨ (LitAt g n i sFalse ∧ m = i + 5) ∨ (LitAt g n i sNull ∧ m = i + 4)

set_option maxHeartbeats 800000 in
theorem strEnd_any (b o n c i : Nat) (g : Nat → Int) (w : World) (hn : n ≤ 1048576) (hi : i < n) (hr : Row w b o n g) (hq : g i = 34) :
    Calls Tryd.prog 14 #[.slice (some ⟨b, o, none⟩) n c, .int .i64 i] w fun e w' => w' = w ∧ (e = .returned (.int .i64 (-1)) ∨ ∃ k : Nat, e = .returned (.int .i64 ((k : Int) + 1)) ∧ StrAt g n i k) := by
  have HR : Hid (Row w b o n g) := hr
  have HQ : Hid (g i = 34) := hq
  have hci := hr i hi
  rw [hq] at hci
  clear hr hq
  have hd1 : ¬ (n : Int) ≤ (i : Int) := by omega
  go_enter Tryd.func14, Tryd.ntmps14
  go_wp2_with fail
  clear hci
  go_loop [5] (fun kk => ∃ k : Nat, i < k ∧ k ≤ n ∧ kk = .int .i64 k ∧ ∀ j, i < j → j < k → plainB (g j) = true) (fun kk => n - (intOf kk).toNat)
  case atStart => exact ⟨i + 1, by omega, by omega, by go_num, fun j h1 h2 => by omega⟩
  case round =>
    obtain ⟨k, hk1, hk2, rfl, hpl⟩ := hrel
    have HP : Hid (∀ j, i < j → j < k → plainB (g j) = true) := hpl
    clear hpl
    by_cases hlt : k < n
    · have hc := HR.out k hlt
      have hcon := plain_any (g k) w
      have hd : decide ((k : Int) < (n : Int)) = true := by simp; omega
      cases hp : plainB (g k) with
      | true =>
        rw [hp] at hcon
        have HK : Hid (plainB (g k) = true) := hp
        clear hp
        go_wp2_with fail
        refine hcon.mono ?_
        rintro e w1 ⟨rfl, hw⟩
        subst w1
        go_wp2_with fail
        refine ⟨⟨k + 1, by omega, by omega, by go_num, ?_⟩, by simp [intOf]; omega⟩
        intro j h1 h2
        by_cases e : j = k
        · subst e; exact HK.out
        · exact HP.out j h1 (by omega)
      | false =>
        rw [hp] at hcon
        clear hp
        by_cases hgk : g k = 34
        · have hs : Hid (StrAt g n i k) := ⟨HQ.out, hk1, hlt, HP.out, hgk⟩
          rw [hgk] at hc hcon
          clear hgk
          go_wp2_with fail
          refine hcon.mono ?_
          rintro e w1 ⟨rfl, hw⟩
          subst w1
          go_wp2_with fail
          go_ret
          exact ⟨rfl, .inr ⟨k, rfl, hs.out⟩⟩
        · have hgb : (g k == 34) = false := beq_eq_false_iff_ne.2 hgk
          clear hgk
          go_wp2_with fail
          refine hcon.mono ?_
          rintro e w1 ⟨rfl, hw⟩
          subst w1
          go_wp2_with fail
          go_ret
          exact ⟨rfl, .inl rfl⟩
    · have hd : decide ((k : Int) < (n : Int)) = false := by simp; omega
      go_wp2_with fail
      go_ret
      exact ⟨rfl, .inl rfl⟩

/-- What 'jobB1PlainValueEnd' answers. -/
def EndSaid (b o n c i : Nat) (g : Nat → Int) (w : World) : Prop :=
  Calls Tryd.prog 7 #[.slice (some ⟨b, o, none⟩) n c, .int .i64 i] w fun e w' => Below w.heap.size w w' ∧ (e = .returned (.int .i64 (-1)) ∨ ∃ m : Nat, e = .returned (.int .i64 m) ∧ ValAt g n i m)

set_option maxHeartbeats 800000 in
theorem end_str (b o n c i : Nat) (g : Nat → Int) (w : World) (hn : n ≤ 1048576) (hi : i < n) (hr : Row w b o n g) (hq : g i = 34) : EndSaid b o n c i g w := by
  have hcon := strEnd_any b o n c i g w hn hi hr hq
  have hci := hr i hi
  rw [hq] at hci
  clear hr hq
  have hd1 : ¬ (n : Int) ≤ (i : Int) := by omega
  unfold EndSaid
  go_enter Tryd.func7, Tryd.ntmps7
  go_wp2_with fail
  refine hcon.mono ?_
  rintro e w1 ⟨hw, h⟩
  subst w1
  rcases h with rfl | ⟨k, rfl, hs⟩
  · go_wp2_with fail
    go_ret
    exact ⟨Below.refl _ _, .inl rfl⟩
  · have HS : Hid (StrAt g n i k) := hs
    clear hs
    go_wp2_with fail
    go_ret
    exact ⟨Below.refl _ _, .inr ⟨k + 1, rfl, .inl ⟨k, HS.out, rfl⟩⟩⟩

set_option maxHeartbeats 800000 in
theorem end_zero (b o n c i : Nat) (g : Nat → Int) (w : World) (hn : n ≤ 1048576) (hi : i < n) (hr : Row w b o n g) (hq : g i = 48) : EndSaid b o n c i g w := by
  have HQ : Hid (g i = 48) := hq
  have hci := hr i hi
  rw [hq] at hci
  clear hr hq
  have hd1 : ¬ (n : Int) ≤ (i : Int) := by omega
  unfold EndSaid
  go_enter Tryd.func7, Tryd.ntmps7
  go_wp2_with fail
  go_ret
  exact ⟨Below.refl _ _, .inr ⟨i + 1, rfl, .inr (.inl ⟨HQ.out, rfl⟩)⟩⟩

set_option maxHeartbeats 800000 in
theorem end_run (b o n c i : Nat) (g : Nat → Int) (w : World) (hn : n ≤ 1048576) (hi : i < n) (hr : Row w b o n g) (h1 : 49 ≤ g i) (h2 : g i ≤ 57) : EndSaid b o n c i g w := by
  have HR : Hid (Row w b o n g) := hr
  have hci := hr i hi
  clear hr
  have hd1 : ¬ (n : Int) ≤ (i : Int) := by omega
  have hq1 : (g i == 34) = false := beq_eq_false_iff_ne.2 (by omega)
  have hq2 : (g i == 48) = false := beq_eq_false_iff_ne.2 (by omega)
  unfold EndSaid
  go_enter Tryd.func7, Tryd.ntmps7
  go_wp2_with fail
  go_loop [6] (fun kk => ∃ k : Nat, i < k ∧ k ≤ n ∧ kk = .int .i64 k ∧ ∀ j, i < j → j < k → digB (g j) = true) (fun kk => n - (intOf kk).toNat)
  case atStart => exact ⟨i + 1, by omega, by omega, by go_num, fun j h1 h2 => by omega⟩
  case round =>
    obtain ⟨k, hk1, hk2, rfl, hpl⟩ := hrel
    have HP : Hid (∀ j, i < j → j < k → digB (g j) = true) := hpl
    clear hpl
    by_cases hlt : k < n
    · have hc := HR.out k hlt
      have hcon := dig_any (g k) w
      have hd : decide ((k : Int) < (n : Int)) = true := by simp; omega
      cases hp : digB (g k) with
      | true =>
        rw [hp] at hcon
        have HK : Hid (digB (g k) = true) := hp
        clear hp
        go_wp2_with fail
        refine hcon.mono ?_
        rintro e w1 ⟨rfl, hw⟩
        subst w1
        go_wp2_with fail
        refine ⟨⟨k + 1, by omega, by omega, by go_num, ?_⟩, by simp [intOf]; omega⟩
        intro j h1 h2
        by_cases e : j = k
        · subst e; exact HK.out
        · exact HP.out j h1 (by omega)
      | false =>
        rw [hp] at hcon
        have HV : Hid (RunAt g n i k) := ⟨h1, h2, hk1, hk2, HP.out, fun _ => hp⟩
        clear hp
        go_wp2_with fail
        refine hcon.mono ?_
        rintro e w1 ⟨rfl, hw⟩
        subst w1
        go_wp2_with fail
        go_ret
        exact ⟨Below.refl _ _, .inr ⟨k, rfl, .inr (.inr (.inl HV.out))⟩⟩
    · have hd : decide ((k : Int) < (n : Int)) = false := by simp; omega
      have HV : Hid (RunAt g n i k) := ⟨h1, h2, hk1, hk2, HP.out, fun h => by omega⟩
      go_wp2_with fail
      go_ret
      exact ⟨Below.refl _ _, .inr ⟨k, rfl, .inr (.inr (.inl HV.out))⟩⟩

set_option maxHeartbeats 800000 in
theorem end_lit (b o n c i : Nat) (g : Nat → Int) (w : World) (hn : n ≤ 1048576) (hi : i < n) (hb : b < w.heap.size) (hr : Row w b o n g) (h1 : g i ≠ 34) (h2 : g i < 48 ∨ 57 < g i) : EndSaid b o n c i g w := by
  have HR : Hid (Row w b o n g) := hr
  have hci := hr i hi
  clear hr
  have hd1 : ¬ (n : Int) ≤ (i : Int) := by omega
  have hq1 : (g i == 34) = false := beq_eq_false_iff_ne.2 (by omega)
  have hq2 : (g i == 48) = false := beq_eq_false_iff_ne.2 (by omega)
  have hq3 : (decide (49 ≤ g i) && decide (g i ≤ 57)) = false := by simp; omega
  have hlow : ¬ (49 ≤ g i ∧ g i ≤ 57) := by omega
  unfold EndSaid
  by_cases hT : LitAt g n i sTrue
  · have hcon := lit_yes b o n c i g sTrue w hn (by decide) hb HR.out hT
    have HV : Hid (ValAt g n i (i + 4)) := .inr (.inr (.inr (.inl ⟨hT, rfl⟩)))
    clear hT
    by_cases hc49 : 49 ≤ g i
    all_goals
      go_enter Tryd.func7, Tryd.ntmps7
      go_wp2_with fail
      refine hcon.mono ?_
      rintro e w1 ⟨rfl, hb1⟩
      go_wp2_with fail
      go_ret
      exact ⟨hb1, .inr ⟨i + 4, rfl, HV.out⟩⟩
  · have hconT := lit_no b o n c i g sTrue w hn (by omega) (by decide) hb HR.out hT
    clear hT
    by_cases hF : LitAt g n i sFalse
    · have HV : Hid (ValAt g n i (i + 5)) := .inr (.inr (.inr (.inr (.inl ⟨hF, rfl⟩))))
      have hcon : Hid (∀ w1, b < w1.heap.size → Row w1 b o n g → Calls Tryd.prog 16 #[.slice (some ⟨b, o, none⟩) n c, .int .i64 i, .string sFalse] w1 fun e w' => e = .returned (.bool true) ∧ Below w1.heap.size w1 w') := fun w1 a1 a2 => lit_yes b o n c i g sFalse w1 hn (by decide) a1 a2 hF
      clear hF
      by_cases hc49 : 49 ≤ g i
      all_goals
        go_enter Tryd.func7, Tryd.ntmps7
        go_wp2_with fail
        refine hconT.mono ?_
        rintro e w1 ⟨rfl, hb1⟩
        have hz := hb1.size
        go_wp2_with fail
        refine (hcon.out w1 (by omega) (HR.out.below hb1 hb)).mono ?_
        rintro e w2 ⟨rfl, hb2⟩
        go_wp2_with fail
        go_ret
        exact ⟨hb1.trans (hb2.mono hz), .inr ⟨i + 5, rfl, HV.out⟩⟩
    · have hconF : Hid (∀ w1, b < w1.heap.size → Row w1 b o n g → Calls Tryd.prog 16 #[.slice (some ⟨b, o, none⟩) n c, .int .i64 i, .string sFalse] w1 fun e w' => e = .returned (.bool false) ∧ Below w1.heap.size w1 w') := fun w1 a1 a2 => lit_no b o n c i g sFalse w1 hn (by omega) (by decide) a1 a2 hF
      clear hF
      by_cases hN : LitAt g n i sNull
      · have HV : Hid (ValAt g n i (i + 4)) := .inr (.inr (.inr (.inr (.inr ⟨hN, rfl⟩))))
        have hcon : Hid (∀ w1, b < w1.heap.size → Row w1 b o n g → Calls Tryd.prog 16 #[.slice (some ⟨b, o, none⟩) n c, .int .i64 i, .string sNull] w1 fun e w' => e = .returned (.bool true) ∧ Below w1.heap.size w1 w') := fun w1 a1 a2 => lit_yes b o n c i g sNull w1 hn (by decide) a1 a2 hN
        clear hN
        by_cases hc49 : 49 ≤ g i
        all_goals
          go_enter Tryd.func7, Tryd.ntmps7
          go_wp2_with fail
          refine hconT.mono ?_
          rintro e w1 ⟨rfl, hb1⟩
          have hz := hb1.size
          go_wp2_with fail
          refine (hconF.out w1 (by omega) (HR.out.below hb1 hb)).mono ?_
          rintro e w2 ⟨rfl, hb2⟩
          have hz2 := hb2.size
          have hb12 := hb1.trans (hb2.mono hz)
          go_wp2_with fail
          refine (hcon.out w2 (by omega) (HR.out.below hb12 hb)).mono ?_
          rintro e w3 ⟨rfl, hb3⟩
          go_wp2_with fail
          go_ret
          exact ⟨hb12.trans (hb3.mono (by omega)), .inr ⟨i + 4, rfl, HV.out⟩⟩
      · have hcon : Hid (∀ w1, b < w1.heap.size → Row w1 b o n g → Calls Tryd.prog 16 #[.slice (some ⟨b, o, none⟩) n c, .int .i64 i, .string sNull] w1 fun e w' => e = .returned (.bool false) ∧ Below w1.heap.size w1 w') := fun w1 a1 a2 => lit_no b o n c i g sNull w1 hn (by omega) (by decide) a1 a2 hN
        clear hN
        by_cases hc49 : 49 ≤ g i
        all_goals
          go_enter Tryd.func7, Tryd.ntmps7
          go_wp2_with fail
          refine hconT.mono ?_
          rintro e w1 ⟨rfl, hb1⟩
          have hz := hb1.size
          go_wp2_with fail
          refine (hconF.out w1 (by omega) (HR.out.below hb1 hb)).mono ?_
          rintro e w2 ⟨rfl, hb2⟩
          have hz2 := hb2.size
          have hb12 := hb1.trans (hb2.mono hz)
          go_wp2_with fail
          refine (hcon.out w2 (by omega) (HR.out.below hb12 hb)).mono ?_
          rintro e w3 ⟨rfl, hb3⟩
          go_wp2_with fail
          go_ret
          exact ⟨hb12.trans (hb3.mono (by omega)), .inl rfl⟩
end Go.Proofs.Qxb6002589aDoor
