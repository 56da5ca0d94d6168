import Derived.Test.Qxb6002355aDoorDecimal
import Derived.Lib.LaidTab
import Derived.Lib.BytesSpace
import Derived.Lib.Atoi
namespace Go.Proofs.Qxb6002355aDoor
open Go.RowKit
set_option maxRecDepth 100000
set_option linter.unusedSimpArgs false
set_option linter.unusedVariables false

/-- The cells from ⟨b, o⟩ on hold these bytes. -/
def RowU8 (w : World) (b o : Nat) (xs : List Int) : Prop := ∀ i, i < xs.length → w.cell? ⟨b, o + i, none⟩ = some (.int .u8 (xs.getD i 0))

theorem RowU8.below {B : Nat} {w w' : World} {b o : Nat} {xs : List Int} (h : RowU8 w b o xs) (hb : Below B w w') (hB : b < B) : RowU8 w' b o xs :=
  fun i hi => (hb.cell (p := ⟨b, o + i, none⟩) hB).trans (h i hi)
theorem RowU8.other {w : World} {b o b' k : Nat} {xs : List Int} {v : Value} (h : RowU8 w b o xs) (hne : b' ≠ b) : RowU8 (w.setCell ⟨b', k, none⟩ v) b o xs :=
  fun i hi => (World.cell?_setCell_other _ _ _ _ (by simp [hne])).trans (h i hi)
theorem RowU8.set {w : World} {b k : Nat} {xs : List Int} {v : Int} (h : RowU8 w b 0 xs) (hk : k < xs.length) : RowU8 (w.setCell ⟨b, k, none⟩ (.int .u8 v)) b 0 (xs.set k v) := by
  intro i hi
  rw [List.length_set] at hi
  by_cases hik : i = k
  · subst hik
    have h0 := h i hi
    rw [Nat.zero_add] at h0 ⊢
    rw [World.cell?_setCell_same _ _ _ h0]
    simp [hi]
  · rw [World.cell?_setCell_other _ _ _ _ (by intro e; injection e with _ e2; omega)]
    rw [h i hi]
    simp [List.getD, List.getElem?_set, Ne.symm hik]

/-- What the library's variables hold: the table of white space; the sentinel. -/
structure Vars (w : World) : Prop where
  tab : Lib.TabIs Tryd.prog w "bytes.asciiSpace" .u8 Lib.asciiSpaceTab
  err : ∃ tp p, w.var? Tryd.prog "strconv.ErrSyntax" = some #[.iface tp p]
  big : 3 ≤ w.heap.size

theorem gSpace : Tryd.prog.globalNamed "bytes.asciiSpace" = some 0 := by kernel_rfl
theorem gErr : Tryd.prog.globalNamed "strconv.ErrSyntax" = some 2 := by kernel_rfl
theorem Vars.below {w w' : World} {B : Nat} (h : Vars w) (hb : Below B w w') (hB : 3 ≤ B) : Vars w' where
  tab := var?_below hb gSpace (by omega) h.tab
  err := by
    obtain ⟨tp, p, he⟩ := h.err
    exact ⟨tp, p, var?_below hb gErr (by omega) he⟩
  big := Nat.le_trans h.big hb.size

theorem addAt (b o i : Nat) : (⟨b, o, none⟩ : Addr).add i = ⟨b, o + i, none⟩ := by
  unfold Addr.add
  split
  · simp_all
  · rfl

/-- cloneBytes at whatever slice. -/
theorem clone_all (a : Option Addr) (n c : Nat) (xs : List Int) (w : World) (hx : xs.length = n) (hn : n ≤ 1048576)
    (hs : a = none ∧ n = 0 ∧ c = 0 ∨ ∃ p : Addr, a = some p ∧ ∀ i, i < n → w.cell? (p.add i) = some (.int .u8 (xs.getD i 0))) :
    Calls Tryd.prog 7 #[.slice a n c] w fun e w' => ∃ a' c', e = .returned (.slice a' n c') ∧ n ≤ c' ∧ Below w.heap.size w w' ∧
      (0 < n → c' = n ∧ a' = some ⟨w.heap.size, 0, none⟩ ∧ w.heap.size < w'.heap.size ∧ RowU8 w' w.heap.size 0 xs) := by
  rcases hs with ⟨rfl, rfl, rfl⟩ | ⟨p, rfl, hc⟩
  · refine (clone_nil w).mono ?_
    rintro e w' ⟨rfl, rfl⟩
    exact ⟨none, 0, rfl, Nat.le_refl _, Below.refl _ _, fun h => absurd h (by omega)⟩
  · by_cases h0 : n = 0
    · subst h0
      have q22 := eqnil
      have mk : (Instr.makeSlice 22 (.int .i64 0) (.int .i64 0)).run Tryd.prog w = .ok (.slice (some ⟨w.heap.size, 0, none⟩) 0 0) (w.alloc (.cells (Array.replicate 0 (Value.int .u8 0)) 5)) := make8 w 0 (by omega)
      go_enter Tryd.func7, Tryd.ntmps7
      go_wp2
      go_rounds 1
      go_ret
      exact ⟨_, _, rfl, Nat.le_refl _, (Below.refl _ _).alloc (Nat.le_refl _) _, fun h => absurd h (by omega)⟩
    · obtain ⟨b, o, sp⟩ := p
      have hsp : sp = none := by simpa [Addr.add] using World.cell?_spot (hc 0 (by omega))
      subst hsp
      have hc' : ∀ i, i < n → w.cell? ⟨b, o + i, none⟩ = some (.int .u8 (xs.getD i 0)) := fun i hi => by rw [← addAt]; exact hc i hi
      have hb : b < w.heap.size := by
        have := hc' 0 (by omega)
        exact World.block_lt_of_cell? _ _ this
      refine (clone_any b o n c xs w hx hn hb hc').mono ?_
      rintro e w' ⟨rfl, rfl⟩
      refine ⟨_, _, rfl, Nat.le_refl _, (Below.refl _ _).alloc (Nat.le_refl _) _, fun _ => ⟨rfl, rfl, by simp, ?_⟩⟩
      intro i hi
      rw [World.cell?_alloc_at _ _ _ _ rfl]
      simp [hi]

/-- decimal at whatever number that ten digits write. -/
theorem decimal_any (n : Nat) (w : World) (hn : n ≤ 9999999999) :
    Calls Tryd.prog 11 #[.int .i64 n] w fun e w' => ∃ (ds : List Int) (D : Nat), e = .returned (.slice (some ⟨D, 0, none⟩) ds.length ds.length) ∧ w.heap.size ≤ D ∧ RowU8 w' D 0 ds ∧ Below w.heap.size w w' ∧
      valI 0 ds = n ∧ 1 ≤ ds.length ∧ ds.length ≤ 10 ∧ ∀ x ∈ ds, 48 ≤ x ∧ x ≤ 57 := by
  by_cases h0 : n = 0
  · subst h0
    refine (decimal_zero w).mono ?_
    rintro e w' ⟨rfl, rfl⟩
    refine ⟨[48], w.heap.size, rfl, Nat.le_refl _, ?_, (Below.refl _ _).alloc (Nat.le_refl _) _, rfl, by simp, by simp, by simp⟩
    intro i hi
    obtain rfl : i = 0 := by simpa using hi
    rw [World.cell?_alloc_at _ _ _ _ rfl]
    rfl
  · refine (decimal_pos n w (by omega) hn).mono ?_
    rintro e w' ⟨ds, rfl, rfl, hv, h1, h10, hd⟩
    refine ⟨ds, _, rfl, by omega, ?_, ((Below.refl _ _).alloc (Nat.le_refl _) _).alloc (by simp) _, hv, h1, h10, hd⟩
    intro i hi
    rw [World.cell?_alloc_at _ _ _ _ (by simp)]
    simp [hi]
end Go.Proofs.Qxb6002355aDoor
