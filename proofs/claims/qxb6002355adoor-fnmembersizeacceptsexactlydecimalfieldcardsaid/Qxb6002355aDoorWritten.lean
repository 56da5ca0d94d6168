import Derived.Test.Qxb6002355aDoorField
namespace Go.Proofs.Qxb6002355aDoor
open Go.RowKit
set_option maxRecDepth 100000
set_option linter.unusedSimpArgs false
set_option linter.unusedVariables false

/-- memberSize on a field of ASCII bytes that spells a number that is not negative. -/
def MsizeOk : Prop := ∀ (b o n c : Nat) (f : List Int) (v : Int) (w : World), 58 ≤ n → n ≤ c → n ≤ 1048576 → f.length = 10 → RowU8 w b (o + 48) f → (∀ x ∈ f, 0 ≤ x ∧ x < 128) → Vars w →
  Lib.atoi (Lib.trimSpace (Lib.bytesOf f)) = some v → 0 ≤ v →
  Calls Tryd.prog 9 #[.slice (some ⟨b, o, none⟩) n c] w fun e w' => e = .returned (.tuple #[.int .i64 v, .nilIface]) ∧ Below w.heap.size w w'

def blank60 : Array Value := Array.replicate 60 (Value.int .u8 0)
theorem make60 (w : World) : (Instr.makeSlice 22 (.int .i64 60) (.int .i64 60)).run Tryd.prog w = .ok (.slice (some ⟨w.heap.size, 0, none⟩) 60 60) (w.alloc (.cells blank60 5)) := make8 w 60 (by omega)
theorem blank_row (w : World) : RowU8 (w.alloc (.cells blank60 5)) w.heap.size 0 (List.replicate 60 0) := by
  intro i hi
  rw [World.cell?_alloc_at _ _ _ _ rfl]
  have hi60 : i < 60 := by rw [List.length_replicate] at hi; exact hi
  rw [blank60, Nat.zero_add, Array.getElem?_replicate, if_pos hi60, List.getD, List.getElem?_replicate, if_pos hi60]
  rfl

set_option maxHeartbeats 400000 in
theorem written_no (n : Int) (ra : Bool) (a : Option Addr) (len cap : Nat) (w : World) (h : 1048576 < len ∨ n < 0 ∨ 9999999999 < n) (hlen : len ≤ 9223372036854775807) :
    Calls Tryd.prog 4 #[.int .i64 n, .bool ra, .slice a len cap] w fun e w' => e = .returned (.bool true) ∧ Below w.heap.size w w' := by
  by_cases h1 : 1048576 < len
  · have h2 : (1048576 : Int) < (len : Int) := by omega
    go_enter Tryd.func4, Tryd.ntmps4
    go_wp2
    go_ret
    exact ⟨rfl, Below.refl _ _⟩
  · have h2 : ¬ (1048576 : Int) < (len : Int) := by omega
    have h3 : n < 0 ∨ 9999999999 < n := by omega
    by_cases h4 : n < 0
    · go_enter Tryd.func4, Tryd.ntmps4
      go_wp2
      go_ret
      exact ⟨rfl, Below.refl _ _⟩
    · have h5 : 9999999999 < n := by omega
      go_enter Tryd.func4, Tryd.ntmps4
      go_wp2
      go_ret
      exact ⟨rfl, Below.refl _ _⟩

/-- One store into the header. -/
theorem hdr_store {w wr : World} {H k : Nat} {hs : List Int} {v : Int} (hB : Below w.heap.size w wr) (hH : w.heap.size ≤ H) (hl : hs.length = 60) (hr : RowU8 wr H 0 hs) (hk : k < 60) :
    Below w.heap.size w (wr.setCell ⟨H, k, none⟩ (.int .u8 v)) ∧ (hs.set k v).length = 60 ∧ RowU8 (wr.setCell ⟨H, k, none⟩ (.int .u8 v)) H 0 (hs.set k v) :=
  ⟨hB.setCell hH _, by simp [hl], hr.set (by omega)⟩

/-- What stands in the two loops that fill the field. -/
structure Hdr (w wr : World) (H D : Nat) (hs ds : List Int) : Prop where
  below : Below w.heap.size w wr
  len : hs.length = 60
  row : RowU8 wr H 0 hs
  free : ∀ i, i < 60 → wr.frozen? ⟨H, i, none⟩ = false
  dig : RowU8 wr D 0 ds

theorem Hdr.store {w wr : World} {H D k : Nat} {hs ds : List Int} {v : Int} (h : Hdr w wr H D hs ds) (hH : w.heap.size ≤ H) (hD : H ≠ D) (hk : k < 60) : Hdr w (wr.setCell ⟨H, k, none⟩ (.int .u8 v)) H D (hs.set k v) ds where
  below := h.below.setCell hH _
  len := by rw [List.length_set]; exact h.len
  row := h.row.set (by rw [h.len]; exact hk)
  free := fun i hi => by rw [World.frozen?_setCell]; exact h.free i hi
  dig := h.dig.other hD

theorem getD_set_same (l : List Int) (k : Nat) (v : Int) (h : k < l.length) : (l.set k v).getD k 0 = v := by simp [List.getD, h]
theorem getD_set_other (l : List Int) (k j : Nat) (v : Int) (h : j ≠ k) : (l.set k v).getD j 0 = l.getD j 0 := by simp [List.getD, List.getElem?_set, Ne.symm h]

/-- The field when k digits stand in it, from 'at' on. -/
def Filled (hs ds : List Int) (s k : Nat) : Prop := ∀ j, 48 ≤ j → j < 58 → hs.getD j 0 = if s ≤ j ∧ j < s + k then ds.getD (j - s) 0 else 32
theorem Filled.start {hs ds : List Int} {s : Nat} (h : ∀ j, 48 ≤ j → j < 58 → hs.getD j 0 = 32) : Filled hs ds s 0 := fun j h1 h2 => by rw [if_neg (by omega)]; exact h j h1 h2
theorem Filled.step {hs ds : List Int} {s k : Nat} (h : Filled hs ds s k) (hk : s + k < hs.length) : Filled (hs.set (s + k) (ds.getD k 0)) ds s (k + 1) := by
  intro j h1 h2
  by_cases hj : j = s + k
  · subst hj
    rw [getD_set_same _ _ _ hk, if_pos (by omega), Nat.add_sub_cancel_left]
  · rw [getD_set_other _ _ _ _ hj, h j h1 h2]
    by_cases hc : s ≤ j ∧ j < s + k
    · rw [if_pos hc, if_pos (by omega)]
    · rw [if_neg hc, if_neg (by omega)]
theorem Filled.row {wr : World} {H : Nat} {hs ds : List Int} (ra : Bool) (h10 : ds.length ≤ 10) (hl : hs.length = 60) (h : Filled hs ds (48 + (if ra then 10 - ds.length else 0)) ds.length) (hr : RowU8 wr H 0 hs) : RowU8 wr H (0 + 48) (field ra ds) := by
  intro i hi
  rw [field_length ra ds h10] at hi
  have := hr (48 + i) (by omega)
  rw [h (48 + i) (by omega) (by omega)] at this
  rw [field_get ra ds h10 i hi, show 0 + 48 + i = 0 + (48 + i) by omega, this]
  have e : 48 + i - (48 + (if ra then 10 - ds.length else 0)) = i - (if ra then 10 - ds.length else 0) := by omega
  rw [e]
  by_cases hc : (if ra then 10 - ds.length else 0) ≤ i ∧ i < (if ra then 10 - ds.length else 0) + ds.length
  · rw [if_pos hc, if_pos (by omega)]
  · rw [if_neg hc, if_neg (by omega)]

set_option maxHeartbeats 400000 in
theorem zzb10 (n : Int) (ra : Bool) (a : Option Addr) (len cap : Nat) (w : World) (h : len ≤ 1048576) :
    Calls Tryd.prog 10 #[.int .i64 n, .bool ra, .slice a len cap] w fun e w' => e = .returned (.bool true) ∧ w' = w := by
  have h2 : ¬ (1048576 : Int) < (len : Int) := by omega
  go_enter Tryd.func10, Tryd.ntmps10
  go_wp2
  go_ret
  exact ⟨rfl, rfl⟩

set_option maxHeartbeats 800000 in
theorem written_yes (hM : MsizeOk) (n : Nat) (ra : Bool) (a : Option Addr) (len cap : Nat) (xs : List Int) (w : World) (hx : xs.length = len) (hlen : len ≤ 1048576) (hn : n ≤ 9999999999) (hv : Vars w)
    (hs : a = none ∧ len = 0 ∧ cap = 0 ∨ ∃ p : Addr, a = some p ∧ ∀ i, i < len → w.cell? (p.add i) = some (.int .u8 (xs.getD i 0))) :
    Calls Tryd.prog 4 #[.int .i64 n, .bool ra, .slice a len cap] w fun e w' => e = .returned (.bool true) ∧ Below w.heap.size w w' := by
  have h2 : ¬ (1048576 : Int) < (len : Int) := by omega
  have h3 : ¬ (9999999999 : Int) < (n : Int) := by omega
  have hcl := clone_all a len cap xs w hx hlen hs
  clear hs
  go_enter Tryd.func4, Tryd.ntmps4
  go_wp2_with fail
  refine (zzb10 _ _ _ _ _ _ hlen).mono ?_
  rintro e w1 ⟨rfl, hw⟩
  subst w1
  go_wp2_with fail
  refine hcl.mono ?_
  rintro e w1 ⟨a', c', rfl, hc', hb1, hcell⟩
  clear hcl
  have mk := make60 w1
  go_wp2_with fail
  clear mk
  have hb0 : RowU8 (w1.alloc (.cells blank60 5)) w1.heap.size 0 (List.replicate 60 0) := blank_row w1
  have HW := hb1.size
  go_loopw [8] (fun i wr => ∃ (k : Nat) (hs : List Int), i = .int .i64 k ∧ k ≤ 60 ∧ hs.length = 60 ∧ RowU8 wr w1.heap.size 0 hs ∧ (∀ i, i < 60 → wr.frozen? ⟨w1.heap.size, i, none⟩ = false) ∧ Below w1.heap.size w1 wr ∧ w1.heap.size < wr.heap.size)
    (fun i _ => 60 - (intOf i).toNat)
  case atStart => exact ⟨0, _, rfl, by omega, by simp, hb0, fun i hi => World.frozen?_alloc_at _ _ _ _ rfl, (Below.refl _ _).alloc (Nat.le_refl _) _, by simp⟩
  case round =>
    obtain ⟨k, hs, rfl, hk, hl, hrow, hfz, hb2, hsz⟩ := hrel
    by_cases hgo : k < 60 ∧ k < len
    · obtain ⟨hg1, hg2⟩ := hgo
      obtain ⟨e1, e2, hsz1, hxr⟩ := hcell (by omega)
      subst c'
      subst a'
      have hold := hrow k (by omega)
      have hfk := hfz k hg1
      have hin := (hxr.below hb2 hsz1) k (by omega)
      rw [Nat.zero_add] at hold hin
      have HR : Hid (RowU8 wr w1.heap.size 0 hs) := hrow
      have HF : Hid (∀ i, i < 60 → wr.frozen? ⟨w1.heap.size, i, none⟩ = false) := hfz
      clear hrow hfz hcell hb0 hxr
      go_wp2_with fail
      exact ⟨⟨k + 1, hs.set k _, by go_num, by omega, by simp [hl], HR.out.set (by omega), fun i hi => by rw [World.frozen?_setCell]; exact HF.out i hi, hb2.setCell (Nat.le_refl _) _, by simpa using hsz⟩, by simp [intOf]; omega⟩
    · have hb3 : Below w.heap.size w wr := hb1.trans (hb2.mono HW)
      have HR : Hid (RowU8 wr w1.heap.size 0 hs) := hrow
      have HF : Hid (∀ i, i < 60 → wr.frozen? ⟨w1.heap.size, i, none⟩ = false) := hfz
      clear hrow hfz hcell hb0
      have hg2 : k < 60 → ¬ k < len := fun h h' => hgo ⟨h, h'⟩
      clear hgo
      by_cases hg1 : k < 60
      all_goals
        first | (have hg3 : ¬ k < len := hg2 hg1) | skip
        clear hg2
        go_wp2_with fail
        refine (decimal_any n _ hn).mono ?_
        rintro e w2 ⟨ds, D, rfl, hD, hdr, hb4, hval, hl1, hl10, hdig⟩
        have hHD : w1.heap.size ≠ D := by omega
        have hH2 : Hdr w w2 w1.heap.size D hs ds := ⟨hb3.trans (hb4.mono (by omega)), hl, HR.out.below hb4 hsz, fun i hi => (hb4.frozen (p := ⟨w1.heap.size, i, none⟩) hsz).trans (HF.out i hi), hdr⟩
        have HV : Hid (valI 0 ds = n) := hval
        have HG : Hid (∀ x ∈ ds, 48 ≤ x ∧ x ≤ 57) := hdig
        clear hdr hval hdig HR HF hb2
        go_wp2_with fail
        go_loopw [11] (fun i wr => ∃ (k : Nat) (hs : List Int), i = .int .i64 k ∧ 48 ≤ k ∧ k ≤ 58 ∧ Hdr w wr w1.heap.size D hs ds ∧ ∀ j, 48 ≤ j → j < k → hs.getD j 0 = 32)
          (fun i _ => 58 - (intOf i).toNat)
        case atStart => exact ⟨48, hs, rfl, by omega, by omega, hH2, fun j h1 h2 => by omega⟩
        case round =>
          clear hH2 hl hs
          obtain ⟨k, hs, rfl, hk1, hk2, hH, hfill⟩ := hrel
          have hl := hH.len
          have HF : Hid (∀ j, 48 ≤ j → j < k → hs.getD j 0 = 32) := hfill
          clear hfill
          by_cases hlt : k < 58
          · have hold := hH.row k (by omega)
            rw [Nat.zero_add] at hold
            have hfk := hH.free k (by omega)
            go_wp2_with fail
            refine ⟨⟨k + 1, hs.set k 32, by go_num, by omega, by omega, hH.store HW hHD (by omega), ?_⟩, by simp [intOf]; omega⟩
            intro j h1 h2
            by_cases hj : j = k
            · subst hj; exact getD_set_same _ _ _ (by omega)
            · rw [getD_set_other _ _ _ _ hj]; exact HF.out j h1 (by omega)
          · cases ra
            · go_wp2_with fail
              have hfl := HF.out
              go_loopw [13] (fun i wr => ∃ (k : Nat) (hs : List Int), i = .int .i64 k ∧ k ≤ ds.length ∧ Hdr w wr w1.heap.size D hs ds ∧ Filled hs ds (48 + 0) k)
                (fun i _ => ds.length - (intOf i).toNat)
              case atStart => exact ⟨0, hs, rfl, by omega, hH, Filled.start fun j h1 h2 => hfl j h1 (by omega)⟩
              case round =>
                clear hfl HF hH hl hs
                obtain ⟨k, hs, rfl, hk, hH, hfill⟩ := hrel
                have hl := hH.len
                by_cases hlt : k < ds.length
                · have hold := hH.row (48 + 0 + k) (by omega)
                  have hin := hH.dig k hlt
                  rw [Nat.zero_add] at hold hin
                  have hfk := hH.free (48 + 0 + k) (by omega)
                  have HF : Hid (Filled hs ds (48 + 0) k) := hfill
                  clear hfill
                  go_wp2_with fail
                  refine ⟨⟨k + 1, hs.set (48 + 0 + k) (ds.getD k 0), by go_num, by omega, ?_, HF.out.step (by omega)⟩, by simp [intOf]; omega⟩
                  have hst := hH.store (k := 48 + 0 + k) (v := ds.getD k 0) HW hHD (by omega)
                  rw [show ds.getD k 0 = ds[k] by simp [List.getD, hlt]] at hst ⊢
                  exact hst
                · obtain rfl : k = ds.length := by omega
                  have hrow := Filled.row false hl10 hl hfill hH.row
                  clear hfill
                  have hcon := hM w1.heap.size 0 60 60 (field false ds) ((valI 0 ds : Nat) : Int) wr (by omega) (by omega) (by omega) (field_length _ _ hl10) hrow (field_ascii _ _ HG.out) (hv.below hH.below (by have := hv.big; omega)) (field_reads _ _ HG.out hl1) (by omega)
                  rw [HV.out] at hcon
                  clear hrow
                  go_wp2_with fail
                  refine hcon.mono ?_
                  rintro e w3 ⟨rfl, hb5⟩
                  clear hcon
                  go_wp2_with fail
                  go_ret
                  exact ⟨rfl, hH.below.trans (hb5.mono hH.below.size)⟩
            · go_wp2_with fail
              have hfl := HF.out
              go_loopw [13] (fun i wr => ∃ (k : Nat) (hs : List Int), i = .int .i64 k ∧ k ≤ ds.length ∧ Hdr w wr w1.heap.size D hs ds ∧ Filled hs ds (48 + (10 - ds.length)) k)
                (fun i _ => ds.length - (intOf i).toNat)
              case atStart => exact ⟨0, hs, rfl, by omega, hH, Filled.start fun j h1 h2 => hfl j h1 (by omega)⟩
              case round =>
                clear hfl HF hH hl hs
                obtain ⟨k, hs, rfl, hk, hH, hfill⟩ := hrel
                have hl := hH.len
                by_cases hlt : k < ds.length
                · have hold := hH.row (48 + (10 - ds.length) + k) (by omega)
                  have hin := hH.dig k hlt
                  rw [Nat.zero_add] at hold hin
                  have hfk := hH.free (48 + (10 - ds.length) + k) (by omega)
                  have HF : Hid (Filled hs ds (48 + (10 - ds.length)) k) := hfill
                  clear hfill
                  go_wp2_with fail
                  refine ⟨⟨k + 1, hs.set (48 + (10 - ds.length) + k) (ds.getD k 0), by go_num, by omega, ?_, HF.out.step (by omega)⟩, by simp [intOf]; omega⟩
                  have hst := hH.store (k := 48 + (10 - ds.length) + k) (v := ds.getD k 0) HW hHD (by omega)
                  rw [show ds.getD k 0 = ds[k] by simp [List.getD, hlt]] at hst ⊢
                  exact hst
                · obtain rfl : k = ds.length := by omega
                  have hrow := Filled.row true hl10 hl hfill hH.row
                  clear hfill
                  have hcon := hM w1.heap.size 0 60 60 (field true ds) ((valI 0 ds : Nat) : Int) wr (by omega) (by omega) (by omega) (field_length _ _ hl10) hrow (field_ascii _ _ HG.out) (hv.below hH.below (by have := hv.big; omega)) (field_reads _ _ HG.out hl1) (by omega)
                  rw [HV.out] at hcon
                  clear hrow
                  go_wp2_with fail
                  refine hcon.mono ?_
                  rintro e w3 ⟨rfl, hb5⟩
                  clear hcon
                  go_wp2_with fail
                  go_ret
                  exact ⟨rfl, hH.below.trans (hb5.mono hH.below.size)⟩
end Go.Proofs.Qxb6002355aDoor
