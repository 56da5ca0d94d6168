import Derived.Test.Qxb6002355aDoorMsize
namespace Go.Proofs.Qxb6002355aDoor
open Go.RowKit
set_option maxRecDepth 100000
set_option linter.unusedSimpArgs false
set_option linter.unusedVariables false

/-- Is it one of the six blanks? -/
def spI (x : Int) : Bool := Lib.isSp (UInt8.ofNat x.toNat)

theorem spI_eq (x : Int) (h0 : 0 ≤ x) (h1 : x < 256) : spI x = (decide (x = 32) || decide (x = 9) || decide (x = 10) || decide (x = 11) || decide (x = 12) || decide (x = 13)) := by
  have hb : (UInt8.ofNat x.toNat).toNat = x.toNat := by rw [UInt8.toNat_ofNat']; omega
  have key : ∀ k : UInt8, (UInt8.ofNat x.toNat == k) = decide (x = k.toNat) := by
    intro k
    rw [Bool.eq_iff_iff, beq_iff_eq, decide_eq_true_iff]
    constructor
    · intro e
      have := congrArg UInt8.toNat e
      omega
    · intro e
      apply UInt8.toNat_inj.1
      omega
  unfold spI Lib.isSp
  simp only [key]
  rw [Bool.eq_iff_iff]
  simp
  omega

set_option maxHeartbeats 400000 in
theorem space_any (x : Int) (w : World) (h0 : 0 ≤ x) (h1 : x < 256) : Calls Tryd.prog 13 #[.int .u8 x] w fun e w' => e = .returned (.bool (spI x)) ∧ w' = w := by
  have he := spI_eq x h0 h1
  by_cases a1 : x = 32
  · subst a1; rw [he]; go_enter Tryd.func13, Tryd.ntmps13; go_wp2; go_ret; exact ⟨rfl, rfl⟩
  by_cases a2 : x = 9
  · subst a2; rw [he]; go_enter Tryd.func13, Tryd.ntmps13; go_wp2; go_ret; exact ⟨rfl, rfl⟩
  by_cases a3 : x = 10
  · subst a3; rw [he]; go_enter Tryd.func13, Tryd.ntmps13; go_wp2; go_ret; exact ⟨rfl, rfl⟩
  by_cases a4 : x = 11
  · subst a4; rw [he]; go_enter Tryd.func13, Tryd.ntmps13; go_wp2; go_ret; exact ⟨rfl, rfl⟩
  by_cases a5 : x = 12
  · subst a5; rw [he]; go_enter Tryd.func13, Tryd.ntmps13; go_wp2; go_ret; exact ⟨rfl, rfl⟩
  by_cases a6 : x = 13
  · subst a6; rw [he]; go_enter Tryd.func13, Tryd.ntmps13; go_wp2; go_ret; exact ⟨rfl, rfl⟩
  have hs : spI x = false := by rw [he]; simp [a1, a2, a3, a4, a5, a6]
  rw [hs]
  have b1 : (x == 32) = false := by simpa using a1
  have b2 : (x == 9) = false := by simpa using a2
  have b3 : (x == 10) = false := by simpa using a3
  have b4 : (x == 11) = false := by simpa using a4
  have b5 : (x == 12) = false := by simpa using a5
  have b6 : (x == 13) = false := by simpa using a6
  clear he hs
  go_enter Tryd.func13, Tryd.ntmps13
  go_wp2
  go_ret
  exact ⟨rfl, rfl⟩

/-- What the model answers. -/
def msPair (f : List Int) : Int × Bool := match Lib.atoi (Lib.trimSpace (Lib.bytesOf f)) with
  | some v => if 0 ≤ v then (v, true) else (0, false)
  | none => (0, false)

/-- The piece of the field from i to j. -/
def piece (f : List Int) (i j : Nat) : List UInt8 := Lib.bytesOf ((f.drop i).take (j - i))

theorem piece_nil (f : List Int) (i : Nat) : piece f i i = [] := by simp [piece, Lib.bytesOf]
theorem piece_cons (f : List Int) (i j : Nat) (hij : i < j) (hj : j ≤ f.length) : piece f i j = UInt8.ofNat (f.getD i 0).toNat :: piece f (i + 1) j := by
  unfold piece Lib.bytesOf
  rw [List.drop_eq_getElem_cons (by omega), show j - i = (j - (i + 1)) + 1 by omega, List.take_succ_cons, List.map_cons]
  simp [List.getD, show i < f.length by omega]
theorem piece_snoc (f : List Int) (i k : Nat) (hik : i ≤ k) (hk : k < f.length) : piece f i (k + 1) = piece f i k ++ [UInt8.ofNat (f.getD k 0).toNat] := by
  unfold piece Lib.bytesOf
  rw [show k + 1 - i = (k - i) + 1 by omega, List.take_succ_eq_append_getElem (by rw [List.length_drop]; omega), List.map_append]
  simp [List.getD, hk, show i + (k - i) = k by omega]

theorem trim_piece (f : List Int) (lo hi : Nat) (hlh : lo ≤ hi) (hhi : hi ≤ f.length) (h1 : ∀ j, j < lo → spI (f.getD j 0) = true) (h2 : lo < f.length → spI (f.getD lo 0) = false)
    (h3 : lo < hi → spI (f.getD (hi - 1) 0) = false) (h4 : ∀ j, hi ≤ j → j < f.length → spI (f.getD j 0) = true) : Lib.trimSpace (Lib.bytesOf f) = piece f lo hi := by
  have hl : (Lib.bytesOf f).length = f.length := by simp [Lib.bytesOf]
  have hat : ∀ j x, (Lib.bytesOf f)[j]? = some x → j < f.length ∧ Lib.isSp x = spI (f.getD j 0) := by
    intro j x hx
    simp only [Lib.bytesOf, List.getElem?_map, Option.map_eq_some_iff] at hx
    obtain ⟨y, hy, rfl⟩ := hx
    have hj : j < f.length := (List.getElem?_eq_some_iff.1 hy).1
    refine ⟨hj, ?_⟩
    simp [spI, List.getD, hy]
  by_cases hlt : lo < hi
  · have := Lib.trimSpace_cut (Lib.bytesOf f) lo (hi - 1) (by omega) (by omega) (fun j b hj hb => by rw [(hat j b hb).2]; exact h1 j hj) (fun b hb => by rw [(hat _ b hb).2]; exact h2 (by omega))
      (fun b hb => by rw [(hat _ b hb).2]; exact h3 hlt) (fun j b hj hb => by obtain ⟨a1, a2⟩ := hat j b hb; rw [a2]; exact h4 j (by omega) a1)
    rw [this, piece, Lib.bytesOf, Lib.bytesOf, List.map_take, List.map_drop]
    congr 1
    omega
  · have hlo : lo = f.length := by
      by_cases h : lo < f.length
      · have e1 := h2 h
        have e2 := h4 lo (by omega) h
        rw [e1] at e2
        cases e2
      · omega
    have := Lib.trimSpace_all (Lib.bytesOf f) (fun j b hb => by obtain ⟨a1, a2⟩ := hat j b hb; rw [a2]; exact h1 j (by omega))
    rw [this, show hi = lo by omega, piece_nil]

/-- The digits part's value tells what the field spells. -/
def Signed (f : List Int) (i m : Nat) (neg : Bool) : Prop := Lib.atoi (Lib.trimSpace (Lib.bytesOf f)) = (Lib.decNat (piece f i m)).map fun (n : Nat) => if neg then -(n : Int) else (n : Int)

theorem byte_eq (x : Int) (h0 : 0 ≤ x) (h1 : x < 256) (k : UInt8) : (UInt8.ofNat x.toNat == k) = (x == (k.toNat : Int)) := by
  have hb : (UInt8.ofNat x.toNat).toNat = x.toNat := by rw [UInt8.toNat_ofNat']; omega
  rw [Bool.eq_iff_iff, beq_iff_eq, beq_iff_eq]
  constructor
  · intro e
    have := congrArg UInt8.toNat e
    omega
  · intro e
    apply UInt8.toNat_inj.1
    omega

section
variable {f : List Int} {lo hi : Nat}
theorem Signed.none (ht : Lib.trimSpace (Lib.bytesOf f) = piece f lo lo) : msPair f = (0, false) := by
  unfold msPair
  rw [ht, piece_nil]
  rfl
theorem Signed.bare (ht : Lib.trimSpace (Lib.bytesOf f) = piece f lo hi) (hlt : lo < hi) (hhi : hi ≤ f.length) (hx : 0 ≤ f.getD lo 0 ∧ f.getD lo 0 < 256) (h1 : f.getD lo 0 ≠ 43) (h2 : f.getD lo 0 ≠ 45) : Signed f lo hi false := by
  unfold Signed
  rw [ht, piece_cons f lo hi hlt hhi]
  have e1 := byte_eq _ hx.1 hx.2 45
  have e2 := byte_eq _ hx.1 hx.2 43
  rw [show (f.getD lo 0 == ((45 : UInt8).toNat : Int)) = false from beq_eq_false_iff_ne.2 h2] at e1
  rw [show (f.getD lo 0 == ((43 : UInt8).toNat : Int)) = false from beq_eq_false_iff_ne.2 h1] at e2
  simp only [Lib.atoi, e1, e2, Bool.false_eq_true, if_false]
theorem Signed.plus (ht : Lib.trimSpace (Lib.bytesOf f) = piece f lo hi) (hlt : lo < hi) (hhi : hi ≤ f.length) (h1 : f.getD lo 0 = 43) : Signed f (lo + 1) hi false := by
  unfold Signed
  rw [ht, piece_cons f lo hi hlt hhi, h1]
  simp [Lib.atoi]
theorem Signed.minus (ht : Lib.trimSpace (Lib.bytesOf f) = piece f lo hi) (hlt : lo < hi) (hhi : hi ≤ f.length) (h1 : f.getD lo 0 = 45) : Signed f (lo + 1) hi true := by
  unfold Signed
  rw [ht, piece_cons f lo hi hlt hhi, h1]
  simp [Lib.atoi]
end

theorem Signed.fail {f : List Int} {i m : Nat} {neg : Bool} (h : Signed f i m neg) (hn : Lib.decNat (piece f i m) = Option.none) : msPair f = (0, false) := by
  unfold msPair
  rw [h, hn]
  rfl
theorem Signed.yes {f : List Int} {i m v : Nat} (h : Signed f i m false) (hn : Lib.decNat (piece f i m) = some v) : msPair f = ((v : Int), true) := by
  unfold msPair
  rw [h, hn]
  simp
theorem Signed.yesNeg {f : List Int} {i m v : Nat} (h : Signed f i m true) (hn : Lib.decNat (piece f i m) = some v) (h0 : v ≠ 0) : msPair f = (0, false) := by
  unfold msPair
  rw [h, hn]
  simp
  omega
theorem Signed.zeroNeg {f : List Int} {i m : Nat} (h : Signed f i m true) (hn : Lib.decNat (piece f i m) = some 0) : msPair f = (0, true) := by
  unfold msPair
  rw [h, hn]
  simp

theorem decFrom_lt : ∀ (l : List UInt8) (acc n : Nat), Lib.decFrom acc l = some n → n < (acc + 1) * 10 ^ l.length
  | [], acc, n, h => by simp [Lib.decFrom] at h; subst h; simp
  | b :: r, acc, n, h => by
    simp only [Lib.decFrom] at h
    cases hd : Lib.digitVal b with
    | none => simp [hd] at h
    | some d =>
      simp only [hd] at h
      have ih := decFrom_lt r _ n h
      have h9 : d ≤ 9 := by
        unfold Lib.digitVal at hd
        split at hd
        · simp at hd; omega
        · cases hd
      refine Nat.lt_of_lt_of_le ih ?_
      rw [List.length_cons, Nat.pow_succ, Nat.mul_comm (10 ^ r.length) 10, ← Nat.mul_assoc]
      exact Nat.mul_le_mul_right _ (by omega)

theorem decFrom_none : ∀ (l : List UInt8) (acc : Nat) (b : UInt8), b ∈ l → Lib.digitVal b = none → Lib.decFrom acc l = none
  | a :: r, acc, b, hm, hb => by
    simp only [Lib.decFrom]
    rcases List.mem_cons.1 hm with rfl | h
    · simp [hb]
    · cases Lib.digitVal a with
      | none => rfl
      | some d => exact decFrom_none r _ b h hb

theorem decFrom_snoc : ∀ (l : List UInt8) (acc : Nat) (b : UInt8) (n d : Nat), Lib.decFrom acc l = some n → Lib.digitVal b = some d → Lib.decFrom acc (l ++ [b]) = some (n * 10 + d)
  | [], acc, b, n, d, h, hd => by simp [Lib.decFrom] at h ⊢; subst h; simp [hd]
  | a :: r, acc, b, n, d, h, hd => by
    simp only [Lib.decFrom, List.cons_append] at h ⊢
    cases ha : Lib.digitVal a with
    | none => simp [ha] at h
    | some e =>
      simp only [ha] at h ⊢
      exact decFrom_snoc r _ b n d h hd

theorem digit_yes (x : Int) (h : 48 ≤ x ∧ x ≤ 57) : Lib.digitVal (UInt8.ofNat x.toNat) = some (x - 48).toNat := by
  unfold Lib.digitVal
  rw [digit_byte x h, if_pos (by omega)]
  congr 1
  omega
theorem digit_no (x : Int) (h0 : 0 ≤ x) (h1 : x < 256) (h : ¬ (48 ≤ x ∧ x ≤ 57)) : Lib.digitVal (UInt8.ofNat x.toNat) = none := by
  unfold Lib.digitVal
  have hb : (UInt8.ofNat x.toNat).toNat = x.toNat := by rw [UInt8.toNat_ofNat']; omega
  rw [hb, if_neg (by omega)]
end Go.Proofs.Qxb6002355aDoor
