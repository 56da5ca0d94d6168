import Derived.Test.Qxb6002589aDoorLong
namespace Go.Proofs.Qxb6002589aDoor
open Go.RowKit
set_option maxRecDepth 100000
set_option linter.unusedSimpArgs false
set_option linter.unusedVariables false

set_option maxHeartbeats 400000 in
theorem zzPlain {b o n c i m : Nat} {w : World} (h : PlainSaid b o n c i m w) :
    Calls Tryd.prog 9 #[.slice (some ⟨b, o, none⟩) n c, .int .i64 i] w fun e w' => e = .returned (.tuple #[.slice (some ⟨b, o + i, none⟩) (m - i) (c - i), .int .i64 m]) ∧ Below w.heap.size w w' := by
  unfold PlainSaid at h
  go_enter Tryd.func9, Tryd.ntmps9
  go_wp2_with fail
  refine h.mono ?_
  rintro e w1 ⟨rfl, hb⟩
  clear h
  go_wp2_with fail
  go_ret2
  exact ⟨rfl, hb⟩

set_option maxHeartbeats 400000 in
theorem zzAny {b o n c i m : Nat} {w : World} (h : AnySaid b o n c i m w) :
    Calls Tryd.prog 10 #[.slice (some ⟨b, o, none⟩) n c, .int .i64 i] w fun e w' => e = .returned (.tuple #[.slice (some ⟨b, o + i, none⟩) (m - i) (c - i), .int .i64 m]) ∧ Below w.heap.size w w' := by
  unfold AnySaid at h
  go_enter Tryd.func10, Tryd.ntmps10
  go_wp2_with fail
  refine h.mono ?_
  rintro e w1 ⟨rfl, hb⟩
  clear h
  go_wp2_with fail
  go_ret2
  exact ⟨rfl, hb⟩

set_option maxHeartbeats 800000 in
theorem same_self (b o n c : Nat) (g : Nat → Int) (w : World) (hn : n ≤ 1048576) (hb : b < w.heap.size) (hr : Row w b o n g) :
    Calls Tryd.prog 11 #[.slice (some ⟨b, o, none⟩) n c, .slice (some ⟨b, o, none⟩) n c] w fun e w' => e = .returned (.bool true) ∧ Below w.heap.size w w' := by
  have HR : Hid (Row w b o n g) := hr
  clear hr
  go_enter Tryd.func11, Tryd.ntmps11
  go_wp2_with fail
  go_loopw [5] (fun kk wr => ∃ k : Nat, k ≤ n ∧ kk = .int .i64 k ∧ Below w.heap.size w wr) (fun kk _ => n - (intOf kk).toNat)
  case atStart => exact ⟨0, by omega, rfl, Below.refl _ _⟩
  case round =>
    obtain ⟨k, hk, rfl, hbel⟩ := hrel
    by_cases hlt : k < n
    · have hc := (HR.out.below hbel hb) k hlt
      go_wp2_with fail
      go_quiet (fail)
      go_wp2_with fail
      exact ⟨⟨k + 1, by omega, by go_num, below_drewN hbel _⟩, by simp [intOf]; omega⟩
    · go_wp2_with fail
      go_ret
      exact ⟨rfl, hbel⟩

/-- A value that is no string: no delimiter in it, and 'plainValue' reads it whole. -/
structure Other (b o n c i m : Nat) (g : Nat → Int) : Prop where
  lo : i < m
  hi : m ≤ n
  q1 : g i ≠ 34
  q2 : g i ≠ 123
  q3 : g i ≠ 91
  no : ∀ j, i ≤ j → j < m → delimB (g j) = false ∧ g j < 128
  pv : ∀ W : World, b < W.heap.size → Row W b o n g → PlainSaid b o n c i m W

theorem dig_nodelim {x : Int} (h1 : 48 ≤ x) (h2 : x ≤ 57) : delimB x = false ∧ x < 128 := by
  refine ⟨?_, by omega⟩
  simp [delimB]
  omega

theorem lit_nodelim {g : Nat → Int} {n i : Nat} {s : ByteArray} (h : LitAt g n i s) (hall : ∀ t, t < s.size → delimB (lb s t) = false ∧ lb s t < 128) : ∀ j, i ≤ j → j < i + s.size → delimB (g j) = false ∧ g j < 128 := by
  intro j h1 h2
  have e := h.2 (j - i) (by omega)
  rw [show i + (j - i) = j by omega] at e
  rw [e]
  exact hall _ (by omega)

theorem all4 (s : ByteArray) (hs : s.size = 4) (h : (delimB (lb s 0) = false ∧ lb s 0 < 128) ∧ (delimB (lb s 1) = false ∧ lb s 1 < 128) ∧ (delimB (lb s 2) = false ∧ lb s 2 < 128) ∧ (delimB (lb s 3) = false ∧ lb s 3 < 128)) : ∀ t, t < s.size → delimB (lb s t) = false ∧ lb s t < 128 := by
  intro t ht
  rw [hs] at ht
  match t, ht with
  | 0, _ => exact h.1
  | 1, _ => exact h.2.1
  | 2, _ => exact h.2.2.1
  | 3, _ => exact h.2.2.2
theorem all5 (s : ByteArray) (hs : s.size = 5) (h : (delimB (lb s 0) = false ∧ lb s 0 < 128) ∧ (delimB (lb s 1) = false ∧ lb s 1 < 128) ∧ (delimB (lb s 2) = false ∧ lb s 2 < 128) ∧ (delimB (lb s 3) = false ∧ lb s 3 < 128) ∧ (delimB (lb s 4) = false ∧ lb s 4 < 128)) : ∀ t, t < s.size → delimB (lb s t) = false ∧ lb s t < 128 := by
  intro t ht
  rw [hs] at ht
  match t, ht with
  | 0, _ => exact h.1
  | 1, _ => exact h.2.1
  | 2, _ => exact h.2.2.1
  | 3, _ => exact h.2.2.2.1
  | 4, _ => exact h.2.2.2.2

theorem val_kinds {b o n c i m : Nat} {g : Nat → Int} (hn : n ≤ 1048576) (hi : i < n) (hnc : n ≤ c) (h : ValAt g n i m) : (∃ k, StrAt g n i k ∧ m = k + 1) ∨ Other b o n c i m g := by
  rcases h with h | ⟨h0, rfl⟩ | hr | ⟨hl, rfl⟩ | ⟨hl, rfl⟩ | ⟨hl, rfl⟩
  · exact .inl h
  · refine .inr ⟨by omega, by omega, by omega, by omega, by omega, fun j h1 h2 => ?_, fun W hb hr => pv_zero b o n c i g W hn hi hnc hr h0⟩
    have e : j = i := by omega
    subst e
    exact dig_nodelim (by omega) (by omega)
  · obtain ⟨a1, a2, a3, a4, a5, a6⟩ := hr
    refine .inr ⟨a3, a4, by omega, by omega, by omega, fun j h1 h2 => ?_, fun W hb hr => pv_run b o n c i m g W hn hnc hr ⟨a1, a2, a3, a4, a5, a6⟩⟩
    by_cases e : j = i
    · subst e; exact dig_nodelim (by omega) (by omega)
    · have := digB_facts (a5 j (by omega) h2)
      exact dig_nodelim this.1 this.2
  · have e0 : g i = 116 := hl.2 0 (by decide)
    exact .inr ⟨by omega, hl.1, by omega, by omega, by omega, lit_nodelim hl (all4 sTrue rfl (by decide)), fun W hb hr => pv_true b o n c i g W hn hnc hb hr hl⟩
  · have e0 : g i = 102 := hl.2 0 (by decide)
    exact .inr ⟨by omega, hl.1, by omega, by omega, by omega, lit_nodelim hl (all5 sFalse rfl (by decide)), fun W hb hr => pv_false b o n c i g W hn hnc hb hr hl⟩
  · have e0 : g i = 110 := hl.2 0 (by decide)
    exact .inr ⟨by omega, hl.1, by omega, by omega, by omega, lit_nodelim hl (all4 sNull rfl (by decide)), fun W hb hr => pv_null b o n c i g W hn hnc hb hr hl⟩

set_option maxHeartbeats 400000 in
theorem zzb5 (a : Option Addr) (len cap : Nat) (i : Int) (w : World) (h : len ≤ 1048576) :
    Calls Tryd.prog 5 #[.slice a len cap, .int .i64 i] w fun e w' => e = .returned (.bool true) ∧ w' = w := by
  have h2 : ¬ (1048576 : Int) < (len : Int) := by omega
  go_enter Tryd.func5, Tryd.ntmps5
  go_wp2
  go_ret
  exact ⟨rfl, rfl⟩

set_option maxHeartbeats 400000 in
theorem law_no (a : Option Addr) (len cap : Nat) (i : Int) (w : World) (h : 1048576 < len ∨ i < 0 ∨ (len : Int) ≤ i) (hlen : len ≤ 9223372036854775807) :
    Calls Tryd.prog 3 #[.slice a len cap, .int .i64 i] w fun e w' => e = .returned (.bool true) ∧ Below w.heap.size w w' := by
  by_cases h1 : 1048576 < len
  · have h2 : (1048576 : Int) < (len : Int) := by omega
    go_enter Tryd.func3, Tryd.ntmps3
    go_wp2
    go_ret
    exact ⟨rfl, Below.refl _ _⟩
  · have h2 : ¬ (1048576 : Int) < (len : Int) := by omega
    by_cases h4 : i < 0
    · go_enter Tryd.func3, Tryd.ntmps3
      go_wp2
      go_ret
      exact ⟨rfl, Below.refl _ _⟩
    · have h5 : (len : Int) ≤ i := by omega
      go_enter Tryd.func3, Tryd.ntmps3
      go_wp2
      go_ret
      exact ⟨rfl, Below.refl _ _⟩

theorem end_any (b o n c i : Nat) (g : Nat → Int) (w : World) (hn : n ≤ 1048576) (hi : i < n) (hb : b < w.heap.size) (hr : Row w b o n g) : EndSaid b o n c i g w := by
  by_cases h1 : g i = 34
  · exact end_str b o n c i g w hn hi hr h1
  by_cases h2 : g i = 48
  · exact end_zero b o n c i g w hn hi hr h2
  by_cases h3 : 49 ≤ g i ∧ g i ≤ 57
  · exact end_run b o n c i g w hn hi hr h3.1 h3.2
  · exact end_lit b o n c i g w hn hi hb hr h1 (by omega)

set_option maxHeartbeats 1000000 in
theorem law_yes (b o n c i : Nat) (xs : List Int) (w : World) (hx : xs.length = n) (hn : n ≤ 1048576) (hi : i < n) (hb : b < w.heap.size)
    (hc : ∀ k, k < n → w.cell? ⟨b, o + k, none⟩ = some (.int .u8 (xs.getD k 0))) (hby : ∀ k, k < n → 0 ≤ xs.getD k 0 ∧ xs.getD k 0 < 256) :
    Calls Tryd.prog 3 #[.slice (some ⟨b, o, none⟩) n c, .int .i64 i] w fun e w' => e = .returned (.bool true) ∧ Below w.heap.size w w' := by
  have hcl := clone_any b o n c xs w hx hn hb hc
  have hb0 : Below w.heap.size w (w.alloc (.cells (xs.map (Value.int .u8)).toArray 5)) := (Below.refl _ _).alloc (Nat.le_refl _) _
  have hsz0 : w.heap.size < (w.alloc (.cells (xs.map (Value.int .u8)).toArray 5)).heap.size := by simp
  obtain ⟨g, hg⟩ : ∃ g : Nat → Int, ∀ k, g k = xs.getD k 0 := ⟨fun k => xs.getD k 0, fun k => rfl⟩
  have hrow : Row (w.alloc (.cells (xs.map (Value.int .u8)).toArray 5)) w.heap.size 0 n g := by
    intro k hk
    rw [World.cell?_alloc_at _ _ _ _ rfl, hg]
    simp [show k < xs.length by omega]
  have hbyt : Byt n g := fun k hk => by rw [hg]; exact hby k hk
  clear hc hby hg hb
  generalize w.alloc (.cells (xs.map (Value.int .u8)).toArray 5) = W at *
  have HR : Hid (Row W w.heap.size 0 n g) := hrow
  have HB : Hid (Byt n g) := hbyt
  have hend := end_any w.heap.size 0 n n i g W hn hi hsz0 hrow
  have hd1 : ¬ (1048576 : Int) < (n : Int) := by omega
  have hd2 : ¬ (n : Int) ≤ (i : Int) := by omega
  clear hrow hbyt
  unfold EndSaid at hend
  go_enter Tryd.func3, Tryd.ntmps3
  go_wp2_with fail
  refine (zzb5 _ _ _ _ _ hn).mono ?_
  rintro e w1 ⟨rfl, hw⟩
  subst w1
  go_wp2_with fail
  refine hcl.mono ?_
  rintro e w1 ⟨rfl, hw⟩
  subst w1
  go_wp2_with fail
  refine hend.mono ?_
  rintro e W1 ⟨hb1, he⟩
  clear hend hcl
  rcases he with rfl | ⟨m, rfl, hval⟩
  · go_wp2_with fail
    go_ret
    exact ⟨rfl, hb0.trans (hb1.mono hb0.size)⟩
  · have hz1 := hb1.size
    have hz0 := hb0.size
    have HR1 : Hid (Row W1 w.heap.size 0 n g) := HR.out.below hb1 hsz0
    rcases val_kinds (b := w.heap.size) (o := 0) (c := n) hn hi (Nat.le_refl _) hval with ⟨k, hs, hmk⟩ | ho
    · have hci := HR1.out i hi
      rw [hs.1, Nat.zero_add] at hci
      have hmn : m ≤ n := by have := hs.2.2.1; omega
      have him : i < m := by have := hs.2.1; omega
      have HPA : Hid ((∀ W' : World, w.heap.size < W'.heap.size → Row W' w.heap.size 0 n g → Calls Tryd.prog 9 #[.slice (some ⟨w.heap.size, 0, none⟩) n n, .int .i64 i] W' fun e w' => e = .returned (.tuple #[.slice (some ⟨w.heap.size, i, none⟩) (m - i) (n - i), .int .i64 m]) ∧ Below W'.heap.size W' w') ∧
          (∀ W' : World, w.heap.size < W'.heap.size → Row W' w.heap.size 0 n g → Calls Tryd.prog 10 #[.slice (some ⟨w.heap.size, 0, none⟩) n n, .int .i64 i] W' fun e w' => e = .returned (.tuple #[.slice (some ⟨w.heap.size, i, none⟩) (m - i) (n - i), .int .i64 m]) ∧ Below W'.heap.size W' w')) := by
        subst hmk
        constructor
        · intro W' h1 h2
          have := zzPlain (pv_str w.heap.size 0 n n i k g W' hn (Nat.le_refl _) h2 hs)
          rwa [Nat.zero_add] at this
        · intro W' h1 h2
          have := zzAny (av_str w.heap.size 0 n n i k g W' hn (Nat.le_refl _) h2 hs)
          rwa [Nat.zero_add] at this
      clear hs hval hmk
      have HRX := HR1
      have hbX : Below W1.heap.size W1 W1 := Below.refl _ _
      go_wp2_with fail
      refine (HPA.out.1 _ (by omega) HRX.out).mono ?_
      rintro e W2 ⟨rfl, hb2⟩
      have hz2 := hb2.size
      have HR2 : Hid (Row W2 w.heap.size 0 n g) := HRX.out.below hb2 (by omega)
      go_wp2_with fail
      refine (HPA.out.2 _ (by omega) HR2.out).mono ?_
      rintro e W3 ⟨rfl, hb3⟩
      have hz3 := hb3.size
      have HR3 : Hid (Row W3 w.heap.size i (m - i) fun j => g (i + j)) := fun j hj => by
        have := (HR2.out.below hb3 (by omega)) (i + j) (by omega)
        rwa [Nat.zero_add] at this
      go_wp2_with fail
      refine (same_self w.heap.size i (m - i) (n - i) _ _ (by omega) (by omega) HR3.out).mono ?_
      rintro e W4 ⟨rfl, hb4⟩
      have hz4 := hb4.size
      have HR4 : Hid (Row W4 w.heap.size i (m - i) fun j => g (i + j)) := HR3.out.below hb4 (by omega)
      go_wp2_with fail
      refine (same_self w.heap.size i (m - i) (n - i) _ _ (by omega) (by omega) HR4.out).mono ?_
      rintro e W5 ⟨rfl, hb5⟩
      go_wp2_with fail
      go_ret
      exact ⟨rfl, (((((hb0.trans (hb1.mono (by omega))).trans (hbX.mono (by omega))).trans (hb2.mono (by omega))).trans (hb3.mono (by omega))).trans (hb4.mono (by omega))).trans (hb5.mono (by omega))⟩
    · have hci := HR1.out i hi
      rw [Nat.zero_add] at hci
      have hmn := ho.hi
      have him := ho.lo
      have hgi : (g i != 34) = true := by simpa using ho.q1
      by_cases hmn2 : m < n
      · have hcm := HR1.out m hmn2
        rw [Nat.zero_add] at hcm
        have hcon := delim_any (g m) W1
        have hdm : ¬ (n : Int) ≤ (m : Int) := by omega
        cases hdl : delimB (g m) with
        | false =>
          rw [hdl] at hcon
          clear hdl ho hval
          go_wp2_with fail
          refine hcon.mono ?_
          rintro e W2 ⟨rfl, hw⟩
          subst W2
          go_wp2_with fail
          go_ret
          exact ⟨rfl, hb0.trans (hb1.mono (by omega))⟩
        | true =>
          rw [hdl] at hcon
          have HPA : Hid ((∀ W' : World, w.heap.size < W'.heap.size → Row W' w.heap.size 0 n g → Calls Tryd.prog 9 #[.slice (some ⟨w.heap.size, 0, none⟩) n n, .int .i64 i] W' fun e w' => e = .returned (.tuple #[.slice (some ⟨w.heap.size, i, none⟩) (m - i) (n - i), .int .i64 m]) ∧ Below W'.heap.size W' w') ∧
              (∀ W' : World, w.heap.size < W'.heap.size → Row W' w.heap.size 0 n g → Calls Tryd.prog 10 #[.slice (some ⟨w.heap.size, 0, none⟩) n n, .int .i64 i] W' fun e w' => e = .returned (.tuple #[.slice (some ⟨w.heap.size, i, none⟩) (m - i) (n - i), .int .i64 m]) ∧ Below W'.heap.size W' w')) := by
            constructor
            · intro W' h1 h2
              have := zzPlain (ho.pv W' h1 h2)
              rwa [Nat.zero_add] at this
            · intro W' h1 h2
              have := zzAny (av_other w.heap.size 0 n n i m g W' hn (Nat.le_refl _) h1 him hmn2 h2 HB.out ho.q1 ho.q2 ho.q3 ho.no hdl)
              rwa [Nat.zero_add] at this
          clear hdl ho hval
          go_wp2_with fail
          refine hcon.mono ?_
          rintro e W2 ⟨rfl, hw⟩
          subst W2
          clear hcon
          have HRX := HR1
          have hbX : Below W1.heap.size W1 W1 := Below.refl _ _
          go_wp2_with fail
          refine (HPA.out.1 _ (by omega) HRX.out).mono ?_
          rintro e W2 ⟨rfl, hb2⟩
          have hz2 := hb2.size
          have HR2 : Hid (Row W2 w.heap.size 0 n g) := HRX.out.below hb2 (by omega)
          go_wp2_with fail
          refine (HPA.out.2 _ (by omega) HR2.out).mono ?_
          rintro e W3 ⟨rfl, hb3⟩
          have hz3 := hb3.size
          have HR3 : Hid (Row W3 w.heap.size i (m - i) fun j => g (i + j)) := fun j hj => by
            have := (HR2.out.below hb3 (by omega)) (i + j) (by omega)
            rwa [Nat.zero_add] at this
          go_wp2_with fail
          refine (same_self w.heap.size i (m - i) (n - i) _ _ (by omega) (by omega) HR3.out).mono ?_
          rintro e W4 ⟨rfl, hb4⟩
          have hz4 := hb4.size
          have HR4 : Hid (Row W4 w.heap.size i (m - i) fun j => g (i + j)) := HR3.out.below hb4 (by omega)
          go_wp2_with fail
          refine (same_self w.heap.size i (m - i) (n - i) _ _ (by omega) (by omega) HR4.out).mono ?_
          rintro e W5 ⟨rfl, hb5⟩
          go_wp2_with fail
          go_ret
          exact ⟨rfl, (((((hb0.trans (hb1.mono (by omega))).trans (hbX.mono (by omega))).trans (hb2.mono (by omega))).trans (hb3.mono (by omega))).trans (hb4.mono (by omega))).trans (hb5.mono (by omega))⟩
      · have hdm : (n : Int) ≤ (m : Int) := by omega
        clear ho hval
        go_wp2_with fail
        go_ret
        exact ⟨rfl, hb0.trans (hb1.mono (by omega))⟩
end Go.Proofs.Qxb6002589aDoor
