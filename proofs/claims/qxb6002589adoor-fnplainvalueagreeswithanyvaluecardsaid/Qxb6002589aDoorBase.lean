import Derived.Test.Qxb6002589aDoorClone
import Derived.Deep.QuietTactic
import Derived.BigQuiet
namespace Go.Proofs.Qxb6002589aDoor
open Go.RowKit
set_option maxRecDepth 100000
set_option linter.unusedSimpArgs false
set_option linter.unusedVariables false

/-- The n cells from ⟨b, o⟩ on hold the bytes g. -/
def Row (w : World) (b o n : Nat) (g : Nat → Int) : Prop := ∀ k, k < n → w.cell? ⟨b, o + k, none⟩ = some (.int .u8 (g k))
def Byt (n : Nat) (g : Nat → Int) : Prop := ∀ k, k < n → 0 ≤ g k ∧ g k < 256

theorem Row.below {B : Nat} {w w' : World} {b o n : Nat} {g : Nat → Int} (h : Row w b o n g) (hb : Below B w w') (hB : b < B) : Row w' b o n g :=
  fun i hi => (hb.cell (p := ⟨b, o + i, none⟩) hB).trans (h i hi)

def digB (x : Int) : Bool := decide (48 ≤ x ∧ x ≤ 57)
def plainB (x : Int) : Bool := decide (32 ≤ x ∧ x ≤ 126 ∧ x ≠ 34 ∧ x ≠ 92)
def delimB (x : Int) : Bool := decide (x = 44 ∨ x = 125 ∨ x = 32 ∨ x = 9 ∨ x = 13 ∨ x = 10)

set_option maxHeartbeats 400000 in
theorem dig_any (x : Int) (w : World) : Calls Tryd.prog 15 #[.int .u8 x] w fun e w' => e = .returned (.bool (digB x)) ∧ w' = w := by
  by_cases h1 : 48 ≤ x
  · by_cases h2 : x ≤ 57
    · have hd : digB x = true := by simp [digB, h1, h2]
      rw [hd]
      clear hd
      go_enter Tryd.func15, Tryd.ntmps15; go_wp2; go_ret; exact ⟨rfl, rfl⟩
    · have hd : digB x = false := by simp [digB]; omega
      rw [hd]
      clear hd
      go_enter Tryd.func15, Tryd.ntmps15; go_wp2; go_ret; exact ⟨rfl, rfl⟩
  · have hd : digB x = false := by simp [digB]; omega
    rw [hd]
    clear hd
    go_enter Tryd.func15, Tryd.ntmps15; go_wp2; go_ret; exact ⟨rfl, rfl⟩

set_option maxHeartbeats 400000 in
theorem plain_any (x : Int) (w : World) : Calls Tryd.prog 23 #[.int .u8 x] w fun e w' => e = .returned (.bool (plainB x)) ∧ w' = w := by
  by_cases h1 : 32 ≤ x
  · by_cases h2 : x ≤ 126
    · by_cases h3 : x = 34
      · subst h3
        have hd : plainB 34 = false := by decide
        rw [hd]
        go_enter Tryd.func23, Tryd.ntmps23; go_wp2; go_ret; exact ⟨rfl, rfl⟩
      · have hq : (x != 34) = true := by simpa using h3
        by_cases h4 : x = 92
        · subst h4
          have hd : plainB 92 = false := by decide
          rw [hd]
          go_enter Tryd.func23, Tryd.ntmps23; go_wp2; go_ret; exact ⟨rfl, rfl⟩
        · have hd : plainB x = true := by simp [plainB]; omega
          rw [hd]
          have hq2 : (x != 92) = true := by simpa using h4
          clear hd h3 h4
          go_enter Tryd.func23, Tryd.ntmps23; go_wp2; go_ret; exact ⟨rfl, rfl⟩
    · have hd : plainB x = false := by simp [plainB]; omega
      rw [hd]
      clear hd
      go_enter Tryd.func23, Tryd.ntmps23; go_wp2; go_ret; exact ⟨rfl, rfl⟩
  · have hd : plainB x = false := by simp [plainB]; omega
    rw [hd]
    clear hd
    go_enter Tryd.func23, Tryd.ntmps23; go_wp2; go_ret; exact ⟨rfl, rfl⟩

set_option maxHeartbeats 400000 in
theorem delim_any (x : Int) (w : World) : Calls Tryd.prog 8 #[.int .u8 x] w fun e w' => e = .returned (.bool (delimB x)) ∧ w' = w := by
  by_cases a1 : x = 44
  · subst a1; have hd : delimB 44 = true := by decide
    rw [hd]; go_enter Tryd.func8, Tryd.ntmps8; go_wp2; go_ret; exact ⟨rfl, rfl⟩
  by_cases a2 : x = 125
  · subst a2; have hd : delimB 125 = true := by decide
    rw [hd]; go_enter Tryd.func8, Tryd.ntmps8; go_wp2; go_ret; exact ⟨rfl, rfl⟩
  by_cases a3 : x = 32
  · subst a3; have hd : delimB 32 = true := by decide
    rw [hd]; go_enter Tryd.func8, Tryd.ntmps8; go_wp2; go_ret; exact ⟨rfl, rfl⟩
  by_cases a4 : x = 9
  · subst a4; have hd : delimB 9 = true := by decide
    rw [hd]; go_enter Tryd.func8, Tryd.ntmps8; go_wp2; go_ret; exact ⟨rfl, rfl⟩
  by_cases a5 : x = 13
  · subst a5; have hd : delimB 13 = true := by decide
    rw [hd]; go_enter Tryd.func8, Tryd.ntmps8; go_wp2; go_ret; exact ⟨rfl, rfl⟩
  by_cases a6 : x = 10
  · subst a6; have hd : delimB 10 = true := by decide
    rw [hd]; go_enter Tryd.func8, Tryd.ntmps8; go_wp2; go_ret; exact ⟨rfl, rfl⟩
  have hs : delimB x = false := by simp [delimB, a1, a2, a3, a4, a5, a6]
  rw [hs]
  have b1 : (x == 44) = false := by simpa using a1
  have b2 : (x == 125) = false := by simpa using a2
  have b3 : (x == 32) = false := by simpa using a3
  have b4 : (x == 9) = false := by simpa using a4
  have b5 : (x == 13) = false := by simpa using a5
  have b6 : (x == 10) = false := by simpa using a6
  clear hs
  go_enter Tryd.func8, Tryd.ntmps8
  go_wp2
  go_ret
  exact ⟨rfl, rfl⟩

/-- The bytes of a literal. -/
def lb (s : ByteArray) (t : Nat) : Int := ((s.data.toList.getD t 0).toNat : Int)
theorem lb_at (s : ByteArray) (t : Nat) (h : t < s.size) : ((s[t].toNat : Nat) : Int) = lb s t := by
  unfold lb
  have hl : t < s.data.toList.length := by simpa using h
  rw [List.getD, List.getElem?_eq_getElem hl]
  rfl
def LitAt (g : Nat → Int) (n i : Nat) (s : ByteArray) : Prop := i + s.size ≤ n ∧ ∀ t, t < s.size → g (i + t) = lb s t

set_option maxHeartbeats 800000 in
theorem lit_yes (b o n c i : Nat) (g : Nat → Int) (s : ByteArray) (w : World) (hn : n ≤ 1048576) (hs : s.size ≤ 100) (hb : b < w.heap.size) (hr : Row w b o n g) (hm : LitAt g n i s) :
    Calls Tryd.prog 16 #[.slice (some ⟨b, o, none⟩) n c, .int .i64 i, .string s] w fun e w' => e = .returned (.bool true) ∧ Below w.heap.size w w' := by
  obtain ⟨hle, heq⟩ := hm
  have HE : Hid (∀ t, t < s.size → g (i + t) = lb s t) := heq
  have HR : Hid (Row w b o n g) := hr
  clear heq hr
  have hd : ¬ ((n : Int) - (i : Int) < (s.size : Int)) := by omega
  go_enter Tryd.func16, Tryd.ntmps16
  go_wp2_with fail
  go_loopw [7] (fun kk wr => ∃ k : Nat, k ≤ s.size ∧ kk = .int .i64 k ∧ Below w.heap.size w wr) (fun kk _ => s.size - (intOf kk).toNat)
  case atStart => exact ⟨0, by omega, rfl, Below.refl _ _⟩
  case round =>
    obtain ⟨k, hk, rfl, hbel⟩ := hrel
    by_cases hlt : k < s.size
    · have hc := (HR.out.below hbel hb) (i + k) (by omega)
      have hg := HE.out k hlt
      rw [hg] at hc
      have hl := lb_at s k hlt
      go_wp2_with fail
      go_quiet (fail)
      go_wp2_with fail
      exact ⟨⟨k + 1, by omega, by go_num, below_drewN hbel _⟩, by simp [intOf]; omega⟩
    · go_wp2_with fail
      go_ret
      exact ⟨rfl, hbel⟩

set_option maxHeartbeats 800000 in
theorem lit_no (b o n c i : Nat) (g : Nat → Int) (s : ByteArray) (w : World) (hn : n ≤ 1048576) (hi : i ≤ n) (hs : s.size ≤ 100) (hb : b < w.heap.size) (hr : Row w b o n g) (hm : ¬ LitAt g n i s) :
    Calls Tryd.prog 16 #[.slice (some ⟨b, o, none⟩) n c, .int .i64 i, .string s] w fun e w' => e = .returned (.bool false) ∧ Below w.heap.size w w' := by
  by_cases hle : i + s.size ≤ n
  · have HR : Hid (Row w b o n g) := hr
    have HM : Hid (¬ LitAt g n i s) := hm
    clear hr hm
    have hd : ¬ ((n : Int) - (i : Int) < (s.size : Int)) := by omega
    go_enter Tryd.func16, Tryd.ntmps16
    go_wp2_with fail
    go_loopw [7] (fun kk wr => ∃ k : Nat, k ≤ s.size ∧ kk = .int .i64 k ∧ Below w.heap.size w wr ∧ ∀ t, t < k → g (i + t) = lb s t) (fun kk _ => s.size - (intOf kk).toNat)
    case atStart => exact ⟨0, by omega, rfl, Below.refl _ _, fun t h => by omega⟩
    case round =>
      obtain ⟨k, hk, rfl, hbel, heq⟩ := hrel
      have HE : Hid (∀ t, t < k → g (i + t) = lb s t) := heq
      clear heq
      by_cases hlt : k < s.size
      · have hc := (HR.out.below hbel hb) (i + k) (by omega)
        have hl := lb_at s k hlt
        by_cases hg : g (i + k) = lb s k
        · rw [hg] at hc
          have HG : Hid (g (i + k) = lb s k) := hg
          clear hg
          go_wp2_with fail
          go_quiet (fail)
          go_wp2_with fail
          refine ⟨⟨k + 1, by omega, by go_num, below_drewN hbel _, ?_⟩, by simp [intOf]; omega⟩
          intro t ht
          by_cases e : t = k
          · subst e; exact HG.out
          · exact HE.out t (by omega)
        · have hq : (g (i + k) != lb s k) = true := by simpa using hg
          clear hg
          go_wp2_with fail
          go_quiet (fail)
          go_wp2_with fail
          go_ret
          exact ⟨rfl, below_drewN hbel _⟩
      · exact absurd ⟨hle, fun t ht => HE.out t (by omega)⟩ HM.out
  · have hd : (n : Int) - (i : Int) < (s.size : Int) := by omega
    go_enter Tryd.func16, Tryd.ntmps16
    go_wp2_with fail
    go_ret
    exact ⟨rfl, Below.refl _ _⟩
end Go.Proofs.Qxb6002589aDoor
