import Derived.Test.Qxb6002355aDoorModelWalk
namespace Go.Proofs.Qxb6002355aDoor
open Go.RowKit
set_option maxRecDepth 100000
set_option linter.unusedSimpArgs false
set_option linter.unusedVariables false

set_option maxHeartbeats 400000 in
theorem zzb6 (a : Option Addr) (len cap : Nat) (w : World) (h : len ≤ 1048576) :
    Calls Tryd.prog 6 #[.slice a len cap] w fun e w' => e = .returned (.bool true) ∧ w' = w := by
  have h2 : ¬ (1048576 : Int) < (len : Int) := by omega
  go_enter Tryd.func6, Tryd.ntmps6
  go_wp2
  go_ret
  exact ⟨rfl, rfl⟩

set_option maxHeartbeats 400000 in
theorem accepts_no (a : Option Addr) (len cap : Nat) (w : World) (h : 1048576 < len ∨ len < 58) (hlen : len ≤ 9223372036854775807) :
    Calls Tryd.prog 3 #[.slice a len cap] w fun e w' => e = .returned (.bool true) ∧ Below w.heap.size w w' := by
  by_cases h1 : 1048576 < len
  · have h2 : (1048576 : Int) < (len : Int) := by omega
    go_enter Tryd.func3, Tryd.ntmps3
    go_wp2
    go_ret
    exact ⟨rfl, Below.refl _ _⟩
  · have h2 : ¬ (1048576 : Int) < (len : Int) := by omega
    have h3 : (len : Int) < 58 := by omega
    go_enter Tryd.func3, Tryd.ntmps3
    go_wp2
    go_ret
    exact ⟨rfl, Below.refl _ _⟩

/-- The header's field. -/
def fld (xs : List Int) : List Int := (xs.drop 48).take 10
theorem fld_len (xs : List Int) (h : 58 ≤ xs.length) : (fld xs).length = 10 := by simp [fld]; omega
theorem fld_at (xs : List Int) (h : 58 ≤ xs.length) (i : Nat) (hi : i < 10) : fb (fld xs) i = fb xs (48 + i) := by
  simp [fb, fld, List.getD, List.getElem?_take, List.getElem?_drop, hi]

/-- What memberSize answers is what the model says. -/
theorem ms_yes {f : List Int} (h : (msPair f).2 = true) : ∃ v : Int, Lib.atoi (Lib.trimSpace (Lib.bytesOf f)) = some v ∧ 0 ≤ v ∧ msPair f = (v, true) := by
  unfold msPair at h ⊢
  cases ha : Lib.atoi (Lib.trimSpace (Lib.bytesOf f)) with
  | none => rw [ha] at h; cases h
  | some v =>
    rw [ha] at h
    by_cases h0 : 0 ≤ v
    · exact ⟨v, rfl, h0, by simp [h0]⟩
    · simp [h0] at h
theorem ms_no {f : List Int} (h : (msPair f).2 = false) : msPair f = (0, false) ∧ ∀ v, Lib.atoi (Lib.trimSpace (Lib.bytesOf f)) = some v → v < 0 := by
  unfold msPair at h ⊢
  cases ha : Lib.atoi (Lib.trimSpace (Lib.bytesOf f)) with
  | none => exact ⟨rfl, fun v e => by cases e⟩
  | some v =>
    rw [ha] at h
    by_cases h0 : 0 ≤ v
    · simp [h0] at h
    · refine ⟨by simp [h0], fun u e => ?_⟩
      cases e
      omega

set_option maxHeartbeats 1000000 in
theorem accepts_yes (b o n c : Nat) (xs : List Int) (w : World) (hx : xs.length = n) (hn : 58 ≤ n) (hmax : n ≤ 1048576) (hb : b < w.heap.size) (hv : Vars w)
    (hc : ∀ i, i < n → w.cell? ⟨b, o + i, none⟩ = some (.int .u8 (fb xs i))) (hbyte : ∀ i, i < n → 0 ≤ fb xs i ∧ fb xs i < 256) :
    Calls Tryd.prog 3 #[.slice (some ⟨b, o, none⟩) n c] w fun e w' => e = .returned (.bool true) ∧ Below w.heap.size w w' := by
  have hcl := clone_any b o n c xs w hx hmax hb hc
  have HC : Hid (∀ i, i < n → w.cell? ⟨b, o + i, none⟩ = some (.int .u8 (fb xs i))) := hc
  have HB : Hid (∀ i, i < n → 0 ≤ fb xs i ∧ fb xs i < 256) := hbyte
  clear hc hbyte
  go_enter Tryd.func3, Tryd.ntmps3
  go_wp2_with fail
  refine (zzb6 _ _ _ _ hmax).mono ?_
  rintro e w1 ⟨rfl, hw⟩
  subst w1
  go_wp2_with fail
  go_loop [3] (fun i => ∃ k : Nat, 48 ≤ k ∧ k ≤ 58 ∧ i = .int .i64 k ∧ ∀ j, 48 ≤ j → j < k → fb xs j < 128) (fun i => 58 - (intOf i).toNat)
  case atStart => exact ⟨48, by omega, by omega, rfl, fun j h1 h2 => by omega⟩
  case round =>
    obtain ⟨k, hk1, hk2, rfl, hasc⟩ := hrel
    have HA : Hid (∀ j, 48 ≤ j → j < k → fb xs j < 128) := hasc
    clear hasc
    by_cases hlt : k < 58
    · have hck := HC.out k (by omega)
      have hbk := HB.out k (by omega)
      by_cases hbig : 128 ≤ fb xs k
      · go_wp2_with fail
        go_ret
        exact ⟨rfl, Below.refl _ _⟩
      · go_wp2_with fail
        refine ⟨⟨k + 1, by omega, by omega, by go_num, ?_⟩, by simp [intOf]; omega⟩
        intro j h1 h2
        by_cases hj : j = k
        · subst hj; omega
        · exact HA.out j h1 (by omega)
    · obtain rfl : k = 58 := by omega
      have hfl := fld_len xs (by omega)
      have hfa : ∀ i, i < 10 → 0 ≤ fb (fld xs) i ∧ fb (fld xs) i < 128 := fun i hi => by
        rw [fld_at xs (by omega) i hi]
        exact ⟨(HB.out _ (by omega)).1, HA.out _ (by omega) (by omega)⟩
      have hfm : ∀ x ∈ fld xs, 0 ≤ x ∧ x < 128 := by
        intro x hx'
        obtain ⟨i, hi⟩ := List.mem_iff_getElem?.1 hx'
        have hil : i < (fld xs).length := (List.getElem?_eq_some_iff.1 hi).1
        have := hfa i (by omega)
        unfold fb at this
        rw [List.getD, hi] at this
        exact this
      have hrow2 : RowU8 (w.alloc (.cells (xs.map (Value.int .u8)).toArray 5)) w.heap.size (0 + 48) (fld xs) := by
        intro i hi
        rw [World.cell?_alloc_at _ _ _ _ rfl]
        have h1 := fld_at xs (by omega) i (by omega)
        unfold fb at h1
        rw [h1]
        simp [show 48 + i < xs.length by omega]
      have hmod := model_any w.heap.size (0 + 48) (n - 48) (fld xs) (w.alloc (.cells (xs.map (Value.int .u8)).toArray 5)) hfl (fun i hi => hrow2 i (by omega)) hfa
      have hv2 : Vars (w.alloc (.cells (xs.map (Value.int .u8)).toArray 5)) := hv.below ((Below.refl _ _).alloc (Nat.le_refl _) _) hv.big
      have hbw : Below w.heap.size w (w.alloc (.cells (xs.map (Value.int .u8)).toArray 5)) := (Below.refl _ _).alloc (Nat.le_refl _) _
      rw [Nat.zero_add] at hmod
      cases hms : (msPair (fld xs)).2 with
      | true =>
        obtain ⟨v, ha, h0, hp⟩ := ms_yes hms
        have hcon := msize_ok w.heap.size 0 n n (fld xs) v _ hn (Nat.le_refl _) hmax hfl hrow2 hfm hv2 ha h0
        rw [hp] at hmod
        clear hms hp ha hrow2 hfm hfa hv2
        generalize w.alloc (.cells (xs.map (Value.int .u8)).toArray 5) = w2 at *
        go_wp2_with fail
        refine hcl.mono ?_
        rintro e w1 ⟨rfl, hw⟩
        subst w1
        go_wp2_with fail
        refine hmod.mono ?_
        rintro e w1 ⟨rfl, hw⟩
        subst w1
        go_wp2_with fail
        refine hcon.mono ?_
        rintro e w1 ⟨rfl, hb2⟩
        clear hcon hmod hcl
        go_wp2_with fail
        go_ret
        exact ⟨rfl, hbw.trans (hb2.mono hbw.size)⟩
      | false =>
        obtain ⟨hp, ha⟩ := ms_no hms
        have hcon := msize_err w.heap.size 0 n n (fld xs) _ hn (Nat.le_refl _) hmax hfl hrow2 hfm hv2 ha
        rw [hp] at hmod
        clear hms hp ha hrow2 hfm hfa hv2
        generalize w.alloc (.cells (xs.map (Value.int .u8)).toArray 5) = w2 at *
        go_wp2_with fail
        refine hcl.mono ?_
        rintro e w1 ⟨rfl, hw⟩
        subst w1
        go_wp2_with fail
        refine hmod.mono ?_
        rintro e w1 ⟨rfl, hw⟩
        subst w1
        go_wp2_with fail
        refine hcon.mono ?_
        rintro e w1 ⟨te, pe, rfl, hb2⟩
        clear hcon hmod hcl
        go_wp2_with fail
        go_ret
        exact ⟨rfl, hbw.trans (hb2.mono hbw.size)⟩
end Go.Proofs.Qxb6002355aDoor
