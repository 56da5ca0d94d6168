import Derived.Test.Qxb6002673aDoorShelf
import Derived.WalkKit
import Derived.WalkSpells
import Derived.WalkLawsBesides
import Derived.Handy
import Derived.Deep.QuietTactic
import Derived.BigQuiet
namespace Go.Proofs.Qxb6002673aDoor
open Go.RowKit
set_option maxRecDepth 100000
set_option linter.unusedSimpArgs false
set_option linter.unusedVariables false

/-- One byte in upper case, as a number. -/
def upI (x : Int) : Int := if 97 ≤ x ∧ x ≤ 122 then x - 32 else x
theorem upI_yes {x : Int} (h1 : 97 ≤ x) (h2 : x ≤ 122) : upI x = x - 32 := by simp [upI, h1, h2]
theorem upI_no {x : Int} (h : ¬ (97 ≤ x ∧ x ≤ 122)) : upI x = x := by unfold upI; rw [if_neg h]

set_option maxHeartbeats 400000 in
theorem upper_any (x : Int) (w : World) (h0 : 0 ≤ x) (h1 : x < 256) : Calls Tryd.prog 15 #[.int .u8 x] w fun e w' => e = .returned (.int .u8 (upI x)) ∧ w' = w := by
  by_cases h2 : 97 ≤ x
  · by_cases h3 : x ≤ 122
    · rw [upI_yes h2 h3]
      go_enter Tryd.func15, Tryd.ntmps15; go_wp2; go_ret; exact ⟨rfl, rfl⟩
    · rw [upI_no (by omega)]
      go_enter Tryd.func15, Tryd.ntmps15; go_wp2; go_ret; exact ⟨rfl, rfl⟩
  · rw [upI_no (by omega)]
    go_enter Tryd.func15, Tryd.ntmps15; go_wp2; go_ret; exact ⟨rfl, rfl⟩

/-- The bytes of a string, as numbers. -/
def bt (s : ByteArray) (t : Nat) : Int := ((s.data.toList.getD t 0).toNat : Int)
theorem bt_at (s : ByteArray) (t : Nat) (h : t < s.size) : ((s[t].toNat : Nat) : Int) = bt s t := by
  unfold bt
  have hl : t < s.data.toList.length := by simpa using h
  rw [List.getD, List.getElem?_eq_getElem hl]
  rfl
theorem bt_bd (s : ByteArray) (t : Nat) : 0 ≤ bt s t ∧ bt s t < 256 := by
  unfold bt
  have := UInt8.toNat_lt (s.data.toList.getD t 0)
  omega

/-- Are the two strings one, up to case? -/
def foldB (a b : ByteArray) : Bool := decide (a.size = b.size ∧ ∀ t, t < a.size → upI (bt a t) = upI (bt b t))

set_option maxHeartbeats 800000 in
theorem fold_any (a b : ByteArray) (w : World) (ha : a.size ≤ 1048576) (hb : b.size ≤ 1048576) :
    Calls Tryd.prog 13 #[.string a, .string b] w fun e w' => e = .returned (.bool (foldB a b)) ∧ Below w.heap.size w w' := by
  by_cases hsz : a.size = b.size
  · have hq : ((a.size : Int) != (b.size : Int)) = false := by simp [hsz]
    have HZ : Hid (a.size = b.size) := hsz
    have hle : a.size ≤ b.size := by omega
    clear hsz
    go_enter Tryd.func13, Tryd.ntmps13
    go_wp2_with fail
    go_loopw [5] (fun kk wr => ∃ k : Nat, k ≤ a.size ∧ kk = .int .i64 k ∧ Below w.heap.size w wr ∧ ∀ t, t < k → upI (bt a t) = upI (bt b t)) (fun kk _ => a.size - (intOf kk).toNat)
    case atStart => exact ⟨0, by omega, rfl, Below.refl _ _, fun t h => by omega⟩
    case round =>
      obtain ⟨k, hk, rfl, hbel, hall⟩ := hrel
      have HA : Hid (∀ t, t < k → upI (bt a t) = upI (bt b t)) := hall
      clear hall
      by_cases hlt : k < a.size
      · have h1 := bt_at a k hlt
        have h2 := bt_at b k (by omega)
        have b1 := bt_bd a k
        have b2 := bt_bd b k
        have hltb : k < b.size := by omega
        by_cases heq : upI (bt a k) = upI (bt b k)
        · have hne : (upI (bt a k) != upI (bt b k)) = false := by simp [heq]
          have HE : Hid (upI (bt a k) = upI (bt b k)) := heq
          clear heq
          go_wp2_with fail
          go_quiet ((go_at_call 15; exact Calls.quiet_of_same (upper_any _ _ (by omega) (by omega))))
          go_wp2_with fail
          refine ⟨⟨k + 1, by omega, by go_num, below_drewN hbel _, ?_⟩, by simp [intOf]; omega⟩
          intro t ht
          by_cases e : t = k
          · subst e; exact HE.out
          · exact HA.out t (by omega)
        · have hne : (upI (bt a k) != upI (bt b k)) = true := by simpa using heq
          have hf : Hid (foldB a b = false) := by
            have : ¬ (a.size = b.size ∧ ∀ t, t < a.size → upI (bt a t) = upI (bt b t)) := fun h => heq (h.2 k hlt)
            exact (decide_eq_false this : foldB a b = false)
          clear heq
          go_wp2_with fail
          go_quiet ((go_at_call 15; exact Calls.quiet_of_same (upper_any _ _ (by omega) (by omega))))
          go_wp2_with fail
          go_ret
          exact ⟨by rw [hf.out]; rfl, below_drewN hbel _⟩
      · have hf : Hid (foldB a b = true) := (decide_eq_true ⟨HZ.out, fun t ht => HA.out t (by omega)⟩ : foldB a b = true)
        go_wp2_with fail
        go_ret
        exact ⟨by rw [hf.out]; rfl, hbel⟩
  · have hq : ((a.size : Int) != (b.size : Int)) = true := by simp; omega
    have hf : Hid (foldB a b = false) := by
      have : ¬ (a.size = b.size ∧ ∀ t, t < a.size → upI (bt a t) = upI (bt b t)) := fun h => hsz h.1
      exact (decide_eq_false this : foldB a b = false)
    clear hsz
    go_enter Tryd.func13, Tryd.ntmps13
    go_wp2_with fail
    go_ret
    exact ⟨by rw [hf.out]; rfl, Below.refl _ _⟩

def word : Nat → ByteArray
  | 0 => ⟨#[67, 79, 78]⟩
  | 1 => ⟨#[80, 82, 78]⟩
  | 2 => ⟨#[65, 85, 88]⟩
  | 3 => ⟨#[78, 85, 76]⟩
  | 4 => ⟨#[67, 79, 78, 73, 78, 36]⟩
  | _ => ⟨#[67, 79, 78, 79, 85, 84, 36]⟩
theorem word_size (k : Nat) : (word k).size ≤ 7 := by
  unfold word
  split <;> decide

set_option maxHeartbeats 400000 in
theorem word_any (k : Nat) (w : World) (h : k < 6) : Calls Tryd.prog 14 #[.int .i64 k] w fun e w' => e = .returned (.string (word k)) ∧ w' = w := by
  match k, h with
  | 0, _ => go_enter Tryd.func14, Tryd.ntmps14; go_wp2; go_ret; exact ⟨rfl, rfl⟩
  | 1, _ => go_enter Tryd.func14, Tryd.ntmps14; go_wp2; go_ret; exact ⟨rfl, rfl⟩
  | 2, _ => go_enter Tryd.func14, Tryd.ntmps14; go_wp2; go_ret; exact ⟨rfl, rfl⟩
  | 3, _ => go_enter Tryd.func14, Tryd.ntmps14; go_wp2; go_ret; exact ⟨rfl, rfl⟩
  | 4, _ => go_enter Tryd.func14, Tryd.ntmps14; go_wp2; go_ret; exact ⟨rfl, rfl⟩
  | 5, _ => go_enter Tryd.func14, Tryd.ntmps14; go_wp2; go_ret; exact ⟨rfl, rfl⟩

def sCOM : ByteArray := ⟨#[67, 79, 77]⟩
def sLPT : ByteArray := ⟨#[76, 80, 84]⟩
/-- What the model answers. -/
def modP (s : ByteArray) : Prop := (∃ j, j < 6 ∧ foldB s (word j) = true) ∨ (s.size = 4 ∧ (foldB (s.extract 0 3) sCOM = true ∨ foldB (s.extract 0 3) sLPT = true) ∧ 48 ≤ bt s 3 ∧ bt s 3 ≤ 57)
def modB (s : ByteArray) : Bool := ((List.range 6).any fun j => foldB s (word j)) || (decide (s.size = 4) && (foldB (s.extract 0 3) sCOM || foldB (s.extract 0 3) sLPT) && decide (48 ≤ bt s 3) && decide (bt s 3 ≤ 57))
theorem modB_iff (s : ByteArray) : modB s = true ↔ modP s := by
  unfold modB modP
  simp only [Bool.or_eq_true, Bool.and_eq_true, List.any_eq_true, List.mem_range, decide_eq_true_iff, and_assoc]
theorem modB_true {s : ByteArray} (h : modP s) : modB s = true := (modB_iff s).2 h
theorem modB_false {s : ByteArray} (h : ¬ modP s) : modB s = false := by
  cases hb : modB s with
  | false => rfl
  | true => exact absurd ((modB_iff s).1 hb) h

theorem mod_tail {s : ByteArray} (h4 : s.size = 4) (hcl : foldB (s.extract 0 3) sCOM = true ∨ foldB (s.extract 0 3) sLPT = true) (h1 : 48 ≤ bt s 3) (h2 : bt s 3 ≤ 57) : modB s = true := modB_true (.inr ⟨h4, hcl, h1, h2⟩)
theorem mod_nodigit {s : ByteArray} (hn : ∀ j, j < 6 → foldB s (word j) = false) (h : bt s 3 < 48 ∨ 57 < bt s 3) : modB s = false := modB_false (by
  rintro (⟨j, hj, hf⟩ | ⟨_, _, h1, h2⟩)
  · rw [hn j hj] at hf; cases hf
  · omega)
theorem mod_nosize {s : ByteArray} (hn : ∀ j, j < 6 → foldB s (word j) = false) (h : s.size ≠ 4) : modB s = false := modB_false (by
  rintro (⟨j, hj, hf⟩ | ⟨h4, _⟩)
  · rw [hn j hj] at hf; cases hf
  · exact h h4)
theorem mod_noword {s : ByteArray} (hn : ∀ j, j < 6 → foldB s (word j) = false) (h1 : foldB (s.extract 0 3) sCOM = false) (h2 : foldB (s.extract 0 3) sLPT = false) : modB s = false := modB_false (by
  rintro (⟨j, hj, hf⟩ | ⟨_, h, _⟩)
  · rw [hn j hj] at hf; cases hf
  · rw [h1, h2] at h; rcases h with h | h <;> cases h)

set_option maxHeartbeats 1000000 in
theorem model_any (s : ByteArray) (w : World) (hs : s.size ≤ 1048576) :
    Calls Tryd.prog 8 #[.string s] w fun e w' => e = .returned (.bool (modB s)) ∧ Below w.heap.size w w' := by
  go_enter Tryd.func8, Tryd.ntmps8
  go_wp2_with fail
  go_loopw [3] (fun kk wr => ∃ k : Nat, k ≤ 6 ∧ kk = .int .i64 k ∧ Below w.heap.size w wr ∧ ∀ j, j < k → foldB s (word j) = false) (fun kk _ => 6 - (intOf kk).toNat)
  case atStart => exact ⟨0, by omega, rfl, Below.refl _ _, fun t h => by omega⟩
  case round =>
    obtain ⟨k, hk, rfl, hbel, hall⟩ := hrel
    have HA : Hid (∀ j, j < k → foldB s (word j) = false) := hall
    clear hall
    by_cases hlt : k < 6
    · have hwd := word_any k wr hlt
      have hws := word_size k
      have hcon := fold_any s (word k) wr hs (by omega)
      have hz := hbel.size
      cases hf : foldB s (word k) with
      | true =>
        rw [hf] at hcon
        have HM : Hid (modB s = true) := modB_true (.inl ⟨k, hlt, hf⟩)
        clear hf
        go_wp2_with fail
        refine hwd.mono ?_
        rintro e w1 ⟨rfl, hw⟩
        subst w1
        go_wp2_with fail
        refine hcon.mono ?_
        rintro e w1 ⟨rfl, hb1⟩
        clear hcon hwd
        go_wp2_with fail
        go_ret
        exact ⟨by rw [HM.out]; rfl, hbel.trans (hb1.mono hz)⟩
      | false =>
        rw [hf] at hcon
        have HF : Hid (foldB s (word k) = false) := hf
        clear hf
        go_wp2_with fail
        refine hwd.mono ?_
        rintro e w1 ⟨rfl, hw⟩
        subst w1
        go_wp2_with fail
        refine hcon.mono ?_
        rintro e w1 ⟨rfl, hb1⟩
        clear hcon hwd
        go_wp2_with fail
        refine ⟨⟨k + 1, by omega, by go_num, hbel.trans (hb1.mono hz), ?_⟩, by simp [intOf]; omega⟩
        intro j hj
        by_cases e : j = k
        · subst e; exact HF.out
        · exact HA.out j (by omega)
    · have HN : Hid (∀ j, j < 6 → foldB s (word j) = false) := fun j hj => HA.out j (by omega)
      have hz := hbel.size
      by_cases h4 : s.size = 4
      · have hq : ((s.size : Int) == 4) = true := by simp; omega
        have h4' : (s.size : Int) = 4 := by omega
        have h3 : (3 : Int) ≤ (s.size : Int) := by omega
        have hb3 := bt_at s 3 (by omega)
        have he : (s.extract 0 3).size ≤ 1048576 := by simp; omega
        have hcon := fold_any (s.extract 0 3) sCOM wr he (by decide)
        cases hC : foldB (s.extract 0 3) sCOM with
        | true =>
          rw [hC] at hcon
          have HCL : Hid (foldB (s.extract 0 3) sCOM = true ∨ foldB (s.extract 0 3) sLPT = true) := .inl hC
          clear hC
          go_wp2_with fail
          refine hcon.mono ?_
          rintro e w1 ⟨rfl, hb1⟩
          clear hcon
          by_cases hlo : 48 ≤ bt s 3
          · by_cases hhi : bt s 3 ≤ 57
            · have hf : Hid (modB s = true) := mod_tail h4 HCL.out hlo hhi
              go_wp2_with fail
              go_ret
              exact ⟨by rw [hf.out]; rfl, hbel.trans (hb1.mono hz)⟩
            · have hf : Hid (modB s = false) := mod_nodigit HN.out (by omega)
              go_wp2_with fail
              go_ret
              exact ⟨by rw [hf.out]; rfl, hbel.trans (hb1.mono hz)⟩
          · have hf : Hid (modB s = false) := mod_nodigit HN.out (by omega)
            go_wp2_with fail
            go_ret
            exact ⟨by rw [hf.out]; rfl, hbel.trans (hb1.mono hz)⟩
        | false =>
          rw [hC] at hcon
          have HC : Hid (foldB (s.extract 0 3) sCOM = false) := hC
          clear hC
          go_wp2_with fail
          refine hcon.mono ?_
          rintro e w1 ⟨rfl, hb1⟩
          clear hcon
          have hz1 := hb1.size
          have hcon := fold_any (s.extract 0 3) sLPT w1 he (by decide)
          cases hL : foldB (s.extract 0 3) sLPT with
          | true =>
            rw [hL] at hcon
            have HCL : Hid (foldB (s.extract 0 3) sCOM = true ∨ foldB (s.extract 0 3) sLPT = true) := .inr hL
            clear hL
            go_wp2_with fail
            refine hcon.mono ?_
            rintro e w2 ⟨rfl, hb2⟩
            clear hcon
            by_cases hlo : 48 ≤ bt s 3
            · by_cases hhi : bt s 3 ≤ 57
              · have hf : Hid (modB s = true) := mod_tail h4 HCL.out hlo hhi
                go_wp2_with fail
                go_ret
                exact ⟨by rw [hf.out]; rfl, (hbel.trans (hb1.mono hz)).trans (hb2.mono (by omega))⟩
              · have hf : Hid (modB s = false) := mod_nodigit HN.out (by omega)
                go_wp2_with fail
                go_ret
                exact ⟨by rw [hf.out]; rfl, (hbel.trans (hb1.mono hz)).trans (hb2.mono (by omega))⟩
            · have hf : Hid (modB s = false) := mod_nodigit HN.out (by omega)
              go_wp2_with fail
              go_ret
              exact ⟨by rw [hf.out]; rfl, (hbel.trans (hb1.mono hz)).trans (hb2.mono (by omega))⟩
          | false =>
            rw [hL] at hcon
            have hf : Hid (modB s = false) := mod_noword HN.out HC.out hL
            clear hL
            go_wp2_with fail
            refine hcon.mono ?_
            rintro e w2 ⟨rfl, hb2⟩
            clear hcon
            go_wp2_with fail
            go_ret
            exact ⟨by rw [hf.out]; rfl, (hbel.trans (hb1.mono hz)).trans (hb2.mono (by omega))⟩
      · have hq : ((s.size : Int) == 4) = false := by simp; omega
        have hf : Hid (modB s = false) := mod_nosize HN.out h4
        go_wp2_with fail
        go_ret
        exact ⟨by rw [hf.out]; rfl, hbel⟩
end Go.Proofs.Qxb6002673aDoor
