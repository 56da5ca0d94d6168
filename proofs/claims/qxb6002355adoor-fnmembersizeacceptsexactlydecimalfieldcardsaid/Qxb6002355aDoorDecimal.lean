import Derived.Test.Qxb6002355aDoorClone
namespace Go.Proofs.Qxb6002355aDoor
open Go.RowKit
set_option maxRecDepth 100000
set_option linter.unusedSimpArgs false
set_option linter.unusedVariables false

/-- The number that the digits spell, behind m. -/
def valI : Nat → List Int → Nat
  | m, [] => m
  | m, d :: r => valI (m * 10 + (d - 48).toNat) r

theorem valI_ge : ∀ (l : List Int) (m : Nat), m * 10 ^ l.length ≤ valI m l
  | [], m => by simp [valI]
  | d :: r, m => by
    have := valI_ge r (m * 10 + (d - 48).toNat)
    simp only [valI, List.length_cons, Nat.pow_succ]
    refine Nat.le_trans ?_ this
    rw [show m * (10 ^ r.length * 10) = (m * 10) * 10 ^ r.length by rw [Nat.mul_comm (10 ^ r.length) 10, Nat.mul_assoc]]
    exact Nat.mul_le_mul_right _ (Nat.le_add_right _ _)

theorem valI_step (m : Nat) (l : List Int) : valI (m / 10) ((48 + ((m : Int) % 10)) :: l) = valI m l := by
  simp only [valI]
  congr 1
  omega

theorem len_lt (l : List Int) (m n : Nat) (h : valI m l = n) (hm : 0 < m) (hn : n ≤ 9999999999) : l.length < 10 := by
  have := valI_ge l m
  apply Nat.lt_of_not_le
  intro h10
  have h2 : 10 ^ 10 ≤ 10 ^ l.length := Nat.pow_le_pow_right (by omega) h10
  have h3 : 1 * 10 ^ l.length ≤ m * 10 ^ l.length := Nat.mul_le_mul_right _ hm
  have : (10 : Nat) ^ 10 = 10000000000 := by decide
  omega

def bufAt (ds : List Int) : Array Value := ((List.replicate (20 - ds.length) (0 : Int) ++ ds).map (Value.int .u8)).toArray
theorem bufAt_size (ds : List Int) (h : ds.length ≤ 20) : (bufAt ds).size = 20 := by simp [bufAt]; omega
theorem bufAt_step (ds : List Int) (d : Int) (h : ds.length < 20) : (bufAt ds).setIfInBounds (20 - ds.length - 1) (.int .u8 d) = bufAt (d :: ds) := by
  apply Array.ext_getElem?
  intro j
  obtain ⟨m, hm⟩ : ∃ m, 20 - ds.length = m + 1 := ⟨20 - ds.length - 1, by omega⟩
  have hm2 : 20 - (ds.length + 1) = m := by omega
  simp only [bufAt, List.length_cons, hm, hm2, Nat.add_sub_cancel, Array.getElem?_setIfInBounds, List.getElem?_toArray, List.size_toArray, List.length_map, List.length_append, List.length_replicate, List.getElem?_map, List.getElem?_append, List.getElem?_replicate]
  by_cases h1 : m = j
  · subst h1
    simp
    omega
  · simp only [h1, if_false]
    by_cases h2 : j < m
    · simp [h2, show j < m + 1 by omega]
    · have e : j - m = (j - (m + 1)) + 1 := by omega
      simp [h2, show ¬ j < m + 1 by omega, e]

theorem tail20 (W : World) (B k : Nat) (h1 : 1 ≤ k) (h2 : k ≤ 20) : (Instr.sliceAt 35 (.pointer (some ⟨B, 0, none⟩)) (some (.int .i64 ((20 - k : Nat) : Int))) none none).run Tryd.prog W = .ok (.slice (some ⟨B, 20 - k, none⟩) k k) W := by
  have hl : Tryd.prog.arrayLen 35 = 20 := by kernel_rfl
  have he : (sizeOf (Tryd.prog.elem 35)).run Tryd.prog W = .ok 1 W := by kernel_rfl
  rw [run_sliceAt_array_l (P := Tryd.prog) W 35 ⟨B, 0, none⟩ (by kernel_rfl) .i64 _ (by omega) (by rw [hl]; omega), he, hl]
  simp only [Result.andThen, slicedAt]
  rw [if_neg (by omega)]
  simp [Addr.add]
  omega

set_option maxHeartbeats 400000 in
theorem decimal_zero (w : World) : Calls Tryd.prog 11 #[.int .i64 0] w fun e w' => e = .returned (.slice (some ⟨w.heap.size, 0, none⟩) 1 1) ∧ w' = w.alloc (.cells #[.int .u8 48] 5) := by
  go_enter Tryd.func11, Tryd.ntmps11
  go_wp2
  go_ret
  exact ⟨rfl, rfl⟩

set_option maxHeartbeats 400000 in
theorem decimal_pos (n : Nat) (w : World) (h0 : 0 < n) (hn : n ≤ 9999999999) :
    Calls Tryd.prog 11 #[.int .i64 n] w fun e w' => ∃ ds : List Int, e = .returned (.slice (some ⟨w.heap.size + 1, 0, none⟩) ds.length ds.length) ∧ w' = (w.alloc (.cells (bufAt ds) 35)).alloc (.cells (ds.map (Value.int .u8)).toArray 5) ∧
      valI 0 ds = n ∧ 1 ≤ ds.length ∧ ds.length ≤ 10 ∧ ∀ x ∈ ds, 48 ≤ x ∧ x ≤ 57 := by
  have hnz : ((n : Int) == 0) = false := beq_eq_false_iff_ne.2 (by omega)
  go_enter Tryd.func11, Tryd.ntmps11
  go_wp2
  clear hnz
  go_loopw [4, 0] (fun i m wr => ∃ (k : Nat) (ds : List Int), valI k ds = n ∧ ds.length ≤ 10 ∧ (∀ x ∈ ds, 48 ≤ x ∧ x ≤ 57) ∧ (k = 0 → 1 ≤ ds.length) ∧ i = .int .i64 ((20 - ds.length : Nat) : Int) ∧ m = .int .i64 k ∧ wr = w.alloc (.cells (bufAt ds) 35)) (fun _ m _ => (intOf m).toNat)
  case atStart => exact ⟨n, [], rfl, by simp, by simp, by omega, rfl, rfl, rfl⟩
  case round =>
    obtain ⟨k, ds, hv, hl, hd, h1, rfl, rfl, rfl⟩ := hrel
    have hsz := bufAt_size ds (by omega)
    have hle : k ≤ n := by
      have := valI_ge ds k
      rw [hv] at this
      exact Nat.le_trans (Nat.le_mul_of_pos_right _ (Nat.pow_pos (by omega))) this
    have HV : Hid (valI k ds = n) := hv
    by_cases hk : 0 < k
    · have hlt := len_lt ds k n hv hk hn
      have hst : Hid ((bufAt ds).setIfInBounds (20 - ds.length - 1) (.int .u8 (48 + (k : Int) % 10)) = bufAt ((48 + (k : Int) % 10) :: ds)) := bufAt_step ds _ (by omega)
      obtain ⟨v, hold⟩ : ∃ v, (bufAt ds)[20 - ds.length - 1]? = some v := ⟨_, Array.getElem?_eq_getElem (by omega)⟩
      clear hv h1
      have HD : Hid (∀ x ∈ ds, 48 ≤ x ∧ x ≤ 57) := hd
      clear hd
      go_wp2
      refine ⟨⟨k / 10, (48 + (k : Int) % 10) :: ds, by rw [valI_step]; exact HV.out, by simp; omega, ?_, fun _ => by simp, by simp; omega, by simp, by rw [← hst.out]⟩, by simp [intOf]; omega⟩
      intro x hx
      rcases List.mem_cons.1 hx with rfl | h
      · omega
      · exact HD.out x h
    · have hk0 : k = 0 := by omega
      subst hk0
      have hl1 := h1 rfl
      have hcl := clone_any w.heap.size (20 - ds.length) ds.length ds.length ds (w.alloc (.cells (bufAt ds) 35)) rfl (by omega) (by simp) (fun i hi => by
        rw [World.cell?_alloc_at _ _ _ _ rfl]
        simp only [bufAt, List.getElem?_toArray, List.getElem?_map]
        rw [List.getElem?_append_right (by simp)]
        simp [hi])
      have hts := tail20 (w.alloc (.cells (bufAt ds) 35)) w.heap.size ds.length hl1 (by omega)
      have HD : Hid (∀ x ∈ ds, 48 ≤ x ∧ x ≤ 57) := hd
      clear hv hd h1
      go_wp2_with (go_at_call 7; refine hcl.mono ?_; rintro e w' ⟨rfl, rfl⟩)
      go_ret
      exact ⟨ds, by simp, rfl, HV.out, hl1, hl, HD.out⟩
end Go.Proofs.Qxb6002355aDoor
