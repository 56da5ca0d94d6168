import Derived.Test.Qxb6002589aDoorProg
import Derived.WalkKit
import Derived.WalkSpells
import Derived.WalkLawsBesides
import Derived.Handy
namespace Go.Proofs.Qxb6002589aDoor
open Go.RowKit
set_option maxRecDepth 100000
set_option linter.unusedSimpArgs false
set_option linter.unusedVariables false

/-- What the new row holds when k bytes have been copied. -/
def cloneAt (xs : List Int) (n k : Nat) : Array Value := ((xs.take k).map (Value.int .u8) ++ List.replicate (n - k) (Value.int .u8 0)).toArray

theorem cloneAt_zero (xs : List Int) (n : Nat) : cloneAt xs n 0 = Array.replicate n (Value.int .u8 0) := by simp [cloneAt]
theorem cloneAt_full (xs : List Int) (n : Nat) (hx : xs.length = n) : cloneAt xs n n = (xs.map (Value.int .u8)).toArray := by
  subst hx; simp [cloneAt]
theorem cloneAt_size (xs : List Int) (n k : Nat) (hx : xs.length = n) (hk : k ≤ n) : (cloneAt xs n k).size = n := by
  subst hx; simp [cloneAt]; omega
theorem cloneAt_step (xs : List Int) (n k : Nat) (hx : xs.length = n) (hk : k < n) : (cloneAt xs n k).setIfInBounds k (.int .u8 (xs[k]?.getD 0)) = cloneAt xs n (k + 1) := by
  subst hx
  apply Array.ext_getElem?
  intro j
  simp only [cloneAt, Array.getElem?_setIfInBounds, List.getElem?_toArray, List.size_toArray, List.length_append, List.length_map, List.length_take, List.length_replicate, List.getElem?_append, List.getElem?_map, List.getElem?_take, List.getElem?_replicate]
  by_cases h1 : k = j
  · subst h1
    have e1 : min k xs.length = k := by omega
    have e2 : min (k + 1) xs.length = k + 1 := by omega
    simp [e1, e2, hk]
    omega
  · have e1 : min k xs.length = k := by omega
    have e2 : min (k + 1) xs.length = k + 1 := by omega
    simp only [h1, e1, e2, if_false]
    by_cases h2 : j < k
    · simp [h2, show j < k + 1 by omega]
    · have h3 : ¬ j < k + 1 := by omega
      simp only [h2, h3, if_false]
      by_cases h4 : j < xs.length
      · simp [show j - k < xs.length - k by omega, show j - (k + 1) < xs.length - (k + 1) by omega]
      · simp [show ¬ j - k < xs.length - k by omega, show ¬ j - (k + 1) < xs.length - (k + 1) by omega]

theorem eqnil (w : World) (a : Option Addr) (n c n' c' : Nat) : (binOp .eql 22 (.slice a n c) (.slice none n' c')).run Tryd.prog w = .ok (.bool a.isNone) w :=
  Lib.run_eql_slice_nil w _ _ a n c n' c' Tryd.underlying22

theorem madeU8 (m : Nat) : madeCells (Value.int .u8 0).cells m = Array.replicate m (Value.int .u8 0) := by
  simp only [madeCells, Value.cells]
  apply Array.ext_getElem?
  intro j
  simp only [Array.getElem?_map, Array.getElem?_range, Array.getElem?_replicate, List.size_toArray]
  by_cases h : j < m <;> simp [h, Nat.mod_one]

theorem make8 (w : World) (n : Nat) (hn : n ≤ 1048576) : (Instr.makeSlice 22 (.int .i64 (n : Int)) (.int .i64 (n : Int))).run Tryd.prog w = .ok (.slice (some ⟨w.heap.size, 0, none⟩) n n) (w.alloc (.cells (Array.replicate n (Value.int .u8 0)) 5)) := by
  have := run_makeSlice (P := Tryd.prog) w 22 5 Tryd.t5 (.int .u8 0) Tryd.underlying22 (by kernel_rfl) (by kernel_rfl) .i64 .i64 n n (by omega) (Int.le_refl _) (by show (n : Int).toNat * 1 ≤ _; omega) (by show ((1 : Nat) : Int) * n ≤ _; omega) (by omega)
  rw [madeU8] at this
  have e : (n : Int).toNat * Tryd.t5.size = n := by show (n : Int).toNat * 1 = n; omega
  rw [e] at this
  simpa using this

set_option maxHeartbeats 400000 in
theorem clone_nil (w : World) : Calls Tryd.prog 6 #[.slice none 0 0] w fun e w' => e = .returned (.slice none 0 0) ∧ w' = w := by
  have q22 := eqnil
  go_enter Tryd.func6, Tryd.ntmps6
  go_wp2
  go_ret
  exact ⟨rfl, rfl⟩

set_option maxHeartbeats 400000 in
theorem clone_any (b o n c : Nat) (xs : List Int) (w : World) (hx : xs.length = n) (hn : n ≤ 1048576) (hb : b < w.heap.size)
    (hc : ∀ i, i < n → w.cell? ⟨b, o + i, none⟩ = some (.int .u8 (xs.getD i 0))) :
    Calls Tryd.prog 6 #[.slice (some ⟨b, o, none⟩) n c] w fun e w' => e = .returned (.slice (some ⟨w.heap.size, 0, none⟩) n n) ∧ w' = w.alloc (.cells (xs.map (Value.int .u8)).toArray 5) := by
  have q22 := eqnil
  have mk := make8 w n hn
  go_enter Tryd.func6, Tryd.ntmps6
  go_wp2
  clear mk q22
  go_loopw [4] (fun i wr => ∃ k : Nat, k ≤ n ∧ i = .int .i64 k ∧ wr = w.alloc (.cells (cloneAt xs n k) 5)) (fun i _ => n - (intOf i).toNat)
  case atStart => exact ⟨0, Nat.zero_le _, rfl, by rw [cloneAt_zero]⟩
  case round =>
    obtain ⟨k, hk, rfl, rfl⟩ := hrel
    by_cases hlt : k < n
    · have hck := hc k hlt
      have hsz := cloneAt_size xs n k hx hk
      have hst : Hid ((cloneAt xs n k).setIfInBounds k (.int .u8 (xs[k]?.getD 0)) = cloneAt xs n (k + 1)) := cloneAt_step xs n k hx hlt
      clear hc
      go_wp2
      refine ⟨⟨k + 1, by omega, by go_num, ?_⟩, by simp [intOf]; omega⟩
      rw [← hst.out, List.getElem?_eq_getElem (by omega)]
      rfl
    · go_wp2
      go_ret
      have : k = n := by omega
      subst this
      exact ⟨rfl, by rw [cloneAt_full xs k hx]⟩
end Go.Proofs.Qxb6002589aDoor
