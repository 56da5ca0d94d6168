import Derived.Test.Qxb6002589aDoorAny
import Derived.Test.Qxb6002589aDoorShelf
namespace Go.Proofs.Qxb6002589aDoor
open Go.RowKit
set_option maxRecDepth 100000
set_option linter.unusedSimpArgs false
set_option linter.unusedVariables false

def delimCells : Array Value := Lib.setCells [44, 125, 32, 9, 13, 10]
theorem delimCells_at (x : Int) (h0 : 0 ≤ x) (h1 : x < 256) : delimCells[x.toNat]? = some (.bool (delimB x)) := by
  have hb : (x.toNat.toUInt8).toNat = x.toNat := by simp; omega
  have := Lib.setCells_at [44, 125, 32, 9, 13, 10] x.toNat.toUInt8
  rw [hb] at this
  unfold delimCells
  rw [this]
  congr 2
  have key := byte8 x h0 h1
  rw [Bool.eq_iff_iff]
  simp only [List.contains_cons, List.contains_nil, Bool.or_false, Bool.or_eq_true, beq_iff_eq, key, delimB, decide_eq_true_iff]
  exact Iff.rfl

theorem ascii6 : ∀ (j : Nat) (b : UInt8), (⟨#[44, 125, 32, 9, 13, 10]⟩ : ByteArray).data.toList[j]? = some b → b.toNat < 128 := by
  intro j b h
  have hm : b ∈ [(44 : UInt8), 125, 32, 9, 13, 10] := List.mem_of_getElem? h
  simp at hm
  rcases hm with rfl | rfl | rfl | rfl | rfl | rfl <;> decide
def blank256 : Array Value := Array.replicate 256 (.bool false)
theorem zero37 (W : World) : (zeroValue 37).run Tryd.prog W = .ok (.agg blank256) W := by kernel_rfl

theorem run_sai (n : Nat) (w : World) (h : 8 < n) : Calls Tryd.prog 32 #[.int .i64 n] w fun e w' => e = .returned (.bool true) ∧ w' = w := by
  have hd8 : (8 : Int) < (n : Int) := by omega
  go_enter Tryd.func32, Tryd.ntmps32
  go_wp2
  go_ret
  exact ⟨rfl, rfl⟩

theorem contains_at (B : Nat) (x : Int) (v : Bool) (W : World) (h0 : 0 ≤ x) (h1 : x < 256) (hc : W.cell? ⟨B, x.toNat, none⟩ = some (.bool v)) :
    Calls Tryd.prog 34 #[.pointer (some ⟨B, 0, none⟩), .int .u8 x] W fun e w' => e = .returned (.bool v) ∧ w' = W := by
  have hb : (x.toNat.toUInt8).toNat = x.toNat := by simp; omega
  have hx : (((x.toNat.toUInt8).toNat : Nat) : Int) = x := by omega
  have := Tryd.bytes_asciiSet_contains B x.toNat.toUInt8 v W (by rw [hb]; exact hc)
  rw [hx] at this
  exact this

set_option maxHeartbeats 1000000 in
theorem ia_long (b o n c k : Nat) (g : Nat → Int) (w : World) (h8 : 8 < n) (hn : n ≤ 1048576) (hb : b < w.heap.size) (hk : k < n) (hr : Row w b o n g) (hby : ∀ j, j ≤ k → 0 ≤ g j ∧ g j < 128) (hno : ∀ j, j < k → delimB (g j) = false) (hyes : delimB (g k) = true) :
    Calls Tryd.prog 26 #[.slice (some ⟨b, o, none⟩) n c, .string sDelim] w fun e w' => e = .returned (.int .i64 k) ∧ Below w.heap.size w w' := by
  have hbw : Below w.heap.size w ((w.alloc (.cells delimCells 37)).alloc (.cells delimCells 37)) := ((Below.refl _ _).alloc (Nat.le_refl _) _).alloc (by simp) _
  have HR : Hid (Row ((w.alloc (.cells delimCells 37)).alloc (.cells delimCells 37)) b o n g) := hr.below hbw hb
  have HB : Hid (∀ j, j ≤ k → 0 ≤ g j ∧ g j < 128) := hby
  have HN : Hid (∀ j, j < k → delimB (g j) = false) := hno
  have HY : Hid (delimB (g k) = true) := hyes
  have HW : Hid (Below w.heap.size w ((w.alloc (.cells delimCells 37)).alloc (.cells delimCells 37))) := hbw
  clear hr hby hno hyes hbw
  have hM : Calls Tryd.prog 33 #[.string ⟨#[44, 125, 32, 9, 13, 10]⟩] w fun e w' => e = .returned (.tuple #[.agg delimCells, .bool true]) ∧ w' = w.alloc (.cells delimCells 37) :=
    Tryd.bytes_makeASCIISet ⟨#[44, 125, 32, 9, 13, 10]⟩ w (by decide) ascii6
  have hsz : delimCells.size = 256 := Lib.setCells_size _
  have hsc : (storeCells ⟨w.heap.size + 1, 0, none⟩ delimCells.toList 0).run Tryd.prog ((w.alloc (.cells delimCells 37)).alloc (.cells blank256 37)) = .ok () ((w.alloc (.cells delimCells 37)).alloc (.cells delimCells 37)) := by
    have := run_storeCells_new (P := Tryd.prog) (w.alloc (.cells delimCells 37)) 37 blank256 delimCells (by rw [hsz]; kernel_rfl) (by rw [hsz, blank256, Array.size_replicate]) (Lib.setCells_one _)
    simpa using this
  have hq1 : ((n : Int) == 1) = false := beq_eq_false_iff_ne.2 (by omega)
  have hsai := run_sai n w h8
  have hz37 := zero37
  unfold sDelim
  go_enter Tryd.func26, Tryd.ntmps26
  go_wp2_with fail
  refine hsai.mono ?_
  rintro e w1 ⟨rfl, hw⟩
  subst w1
  go_wp2_with fail
  refine hM.mono ?_
  rintro e w1 ⟨rfl, hw⟩
  subst w1
  go_wp2_with fail
  clear hM hsc hsai hz37
  generalize hW2 : (w.alloc (.cells delimCells 37)).alloc (.cells delimCells 37) = W2 at *
  have HC : Hid (∀ x : Int, 0 ≤ x → x < 256 → W2.cell? ⟨w.heap.size + 1, x.toNat, none⟩ = some (.bool (delimB x))) := fun x h0 h1 => by
    rw [← hW2, World.cell?_alloc_at _ _ _ _ (by simp)]
    exact delimCells_at x h0 h1
  clear hW2 hsz
  go_loop [62] (fun jj => ∃ j : Nat, j ≤ k ∧ jj = .int .i64 j) (fun jj => k - (intOf jj).toNat)
  case atStart => exact ⟨0, by omega, rfl⟩
  case round =>
    obtain ⟨j, hj2, rfl⟩ := hrel
    have hc := HR.out j (by omega)
    have hg := HB.out j hj2
    have hcx := HC.out (g j) hg.1 (by omega)
    by_cases hlt : j < k
    · rw [HN.out j hlt] at hcx
      have hcon := contains_at (w.heap.size + 1) (g j) false W2 hg.1 (by omega) hcx
      clear hcx
      go_wp2_with fail
      refine hcon.mono ?_
      rintro e w1 ⟨rfl, hw⟩
      subst w1
      go_wp2_with fail
      exact ⟨⟨j + 1, by omega, by go_num⟩, by simp [intOf]; omega⟩
    · obtain rfl : j = k := by omega
      rw [HY.out] at hcx
      have hcon := contains_at (w.heap.size + 1) (g j) true W2 hg.1 (by omega) hcx
      clear hcx
      go_wp2_with fail
      refine hcon.mono ?_
      rintro e w1 ⟨rfl, hw⟩
      subst w1
      go_wp2_with fail
      go_ret
      exact ⟨rfl, HW.out⟩

theorem ia_any (b o n c k : Nat) (g : Nat → Int) (w : World) (h2 : 2 ≤ n) (hn : n ≤ 1048576) (hb : b < w.heap.size) (hk : k < n) (hr : Row w b o n g) (hby : ∀ j, j ≤ k → 0 ≤ g j ∧ g j < 128) (hno : ∀ j, j < k → delimB (g j) = false) (hyes : delimB (g k) = true) :
    Calls Tryd.prog 26 #[.slice (some ⟨b, o, none⟩) n c, .string sDelim] w fun e w' => e = .returned (.int .i64 k) ∧ Below w.heap.size w w' := by
  by_cases h8 : n ≤ 8
  · exact (ia_short b o n c k g w h2 h8 hk hr hby hno hyes).mono fun e w' ⟨he, hw⟩ => ⟨he, by rw [hw]; exact Below.refl _ _⟩
  · exact ia_long b o n c k g w (by omega) hn hb hk hr hby hno hyes

theorem ret_pair {A : Option Addr} {l l' cc : Nat} {x y : Int} (h1 : l = l') (h2 : x = y) : Ending.returned (.tuple #[.slice A l cc, .int .i64 x]) = .returned (.tuple #[.slice A l' cc, .int .i64 y]) := by rw [h1, h2]

/-- What 'anyValue' answers. -/
def AnySaid (b o n c i m : Nat) (w : World) : Prop :=
  Calls Tryd.prog 18 #[.slice (some ⟨b, o, none⟩) n c, .int .i64 i] w fun e w' => e = .returned (.tuple #[.slice (some ⟨b, o + i, none⟩) (m - i) (c - i), .int .i64 m]) ∧ Below w.heap.size w w'

set_option maxHeartbeats 800000 in
theorem av_str (b o n c i k : Nat) (g : Nat → Int) (w : World) (hn : n ≤ 1048576) (hnc : n ≤ c) (hr : Row w b o n g) (hs : StrAt g n i k) : AnySaid b o n c i (k + 1) w := by
  have hcon := send_any b o n c i k g w hn hr hs
  obtain ⟨hq, hik, hkn, _, _⟩ := hs
  have hci := hr i (by omega)
  rw [hq] at hci
  clear hr hq
  unfold AnySaid
  go_enter Tryd.func18, Tryd.ntmps18
  go_wp2_with fail
  refine hcon.mono ?_
  rintro e w1 ⟨rfl, hw⟩
  subst w1
  go_wp2_with fail
  go_ret2
  exact ⟨rfl, Below.refl _ _⟩

set_option maxHeartbeats 800000 in
theorem av_other (b o n c i m : Nat) (g : Nat → Int) (w : World) (hn : n ≤ 1048576) (hnc : n ≤ c) (hb : b < w.heap.size) (him : i < m) (hmn : m < n) (hr : Row w b o n g) (hby : Byt n g) (h1 : g i ≠ 34) (h2 : g i ≠ 123) (h3 : g i ≠ 91)
    (hno : ∀ j, i ≤ j → j < m → delimB (g j) = false ∧ g j < 128) (hyes : delimB (g m) = true) : AnySaid b o n c i m w := by
  have hm128 : g m < 128 := by have : g m = 44 ∨ g m = 125 ∨ g m = 32 ∨ g m = 9 ∨ g m = 13 ∨ g m = 10 := by simpa [delimB] using hyes
                               omega
  have hcon := ia_any b (o + i) (n - i) (c - i) (m - i) (fun j => g (i + j)) w (by omega) (by omega) hb (by omega) (fun j hj => by rw [Nat.add_assoc]; exact hr (i + j) (by omega))
    (fun j hj => by
      by_cases e : j = m - i
      · subst e; rw [show i + (m - i) = m by omega]; exact ⟨(hby m (by omega)).1, hm128⟩
      · exact ⟨(hby (i + j) (by omega)).1, (hno (i + j) (by omega) (by omega)).2⟩)
    (fun j hj => (hno (i + j) (by omega) (by omega)).1) (by show delimB (g (i + (m - i))) = true; rw [show i + (m - i) = m by omega]; exact hyes)
  have hci := hr i (by omega)
  have q1 : (g i == 34) = false := beq_eq_false_iff_ne.2 h1
  have q2 : (g i == 123) = false := beq_eq_false_iff_ne.2 h2
  have q3 : (g i == 91) = false := beq_eq_false_iff_ne.2 h3
  clear hr hby h1 h2 h3 hno hyes
  unfold AnySaid
  go_enter Tryd.func18, Tryd.ntmps18
  go_wp2_with fail
  refine hcon.mono ?_
  rintro e w1 ⟨rfl, hb1⟩
  go_wp2_with fail
  go_ret2
  exact ⟨ret_pair (by omega) (by omega), hb1⟩
end Go.Proofs.Qxb6002589aDoor
