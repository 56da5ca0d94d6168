import Derived.Test.Qxb6600238aDoorStarts
namespace Go.Proofs.Qxb6600238aDoor
set_option maxRecDepth 100000
set_option linter.unusedSimpArgs false
set_option linter.unusedVariables false

def expI (x : Int) : Bool := decide (x = 101 ∨ x = 69)
def hexI (x : Int) : Bool := digI x || decide (97 ≤ x ∧ x ≤ 102) || decide (65 ≤ x ∧ x ≤ 70)

/-- The machine's step. -/
def step (st : Nat) (c : Int) : Nat := match st with
  | 0 => if c = 48 then 1 else if digI c then 4 else if c = 46 then 5 else 10
  | 1 => if c = 120 then 2 else if c = 88 then 2 else if digI c then 4 else if c = 46 then 6 else if expI c then 7 else 10
  | 2 => if hexI c then 3 else 10
  | 3 => if hexI c then 3 else 10
  | 4 => if digI c then 4 else if c = 46 then 6 else if expI c then 7 else 10
  | 5 => if digI c then 6 else 10
  | 6 => if digI c then 6 else if expI c then 7 else 10
  | 7 => if c = 43 then 8 else if c = 45 then 8 else if digI c then 9 else 10
  | 8 => if digI c then 9 else 10
  | 9 => if digI c then 9 else 10
  | _ => 10
def acc (st : Nat) : Bool := decide (st = 1 ∨ st = 3 ∨ st = 4 ∨ st = 6 ∨ st = 9)

def num (b : UInt8) : Int := ((b.toNat : Nat) : Int)

/-- The machine's run: what is left, the place, the best so far, the state. -/
def mgo : List UInt8 → Nat → Nat → Nat → Nat
  | [], _, best, _ => best
  | b :: r, i, best, st => if step st (num b) = 10 then best else mgo r (i + 1) (if acc (step st (num b)) then i + 1 else best) (step st (num b))
def modelLen (l : List UInt8) : Nat := mgo l 0 0 0

theorem run_nil (p : UInt8 → Bool) : run p [] = 0 := rfl
theorem run_yes {p : UInt8 → Bool} {b : UInt8} {r : List UInt8} (h : p b = true) : run p (b :: r) = run p r + 1 := by
  unfold run; rw [List.takeWhile_cons_of_pos h]; rfl
theorem run_no {p : UInt8 → Bool} {b : UInt8} {r : List UInt8} (h : p b = false) : run p (b :: r) = 0 := by
  unfold run; rw [List.takeWhile_cons_of_neg (by simp [h])]; rfl
theorem dec_num (b : UInt8) : decB b = digI (num b) := decB_digI b
theorem hex_num (b : UInt8) : hexB b = hexI (num b) := by
  unfold hexB hexI num
  rw [decB_digI]
  congr 1
  · congr 1
    rw [Bool.eq_iff_iff]; simp; omega
  · rw [Bool.eq_iff_iff]; simp; omega

/-- The exponent's length. -/
def expLen : List UInt8 → Nat
  | [] => 0
  | c :: r => if expI (num c) then
      (match r with
      | [] => 0
      | d :: q => if num d = 43 ∨ num d = 45 then (if 0 < run decB q then 2 + run decB q else 0) else (if 0 < run decB (d :: q) then 1 + run decB (d :: q) else 0))
    else 0
def fracLen (l : List UInt8) : Nat := run decB l + expLen (l.drop (run decB l))
def dotLen : List UInt8 → Nat
  | [] => 0
  | c :: r => if num c = 46 then 1 + fracLen r else expLen (c :: r)
def intLen (l : List UInt8) : Nat := run decB l + dotLen (l.drop (run decB l))

theorem dig_facts {x : Int} (h : digI x = true) : 48 ≤ x ∧ x ≤ 57 := by simpa [digI] using h
theorem dig_not_exp {x : Int} (h : digI x = true) : expI x = false := by have := dig_facts h; simp [expI]; omega
theorem fracLen_yes {b : UInt8} {r : List UInt8} (h : decB b = true) : fracLen (b :: r) = 1 + fracLen r := by
  unfold fracLen; rw [run_yes h, List.drop_succ_cons]; omega
theorem fracLen_no {b : UInt8} {r : List UInt8} (h : decB b = false) : fracLen (b :: r) = expLen (b :: r) := by
  unfold fracLen; rw [run_no h]; simp
theorem intLen_yes {b : UInt8} {r : List UInt8} (h : decB b = true) : intLen (b :: r) = 1 + intLen r := by
  unfold intLen; rw [run_yes h, List.drop_succ_cons]; omega
theorem intLen_no {b : UInt8} {r : List UInt8} (h : decB b = false) : intLen (b :: r) = dotLen (b :: r) := by
  unfold intLen; rw [run_no h]; simp

theorem s9 : ∀ (l : List UInt8) (i : Nat), mgo l i i 9 = i + run decB l
  | [], i => rfl
  | b :: r, i => by
    cases h : digI (num b) with
    | true =>
      rw [run_yes (by rw [dec_num]; exact h)]
      have := s9 r (i + 1)
      simp [mgo, step, h, acc]
      omega
    | false =>
      rw [run_no (by rw [dec_num]; exact h)]
      simp [mgo, step, h]
theorem s8 (l : List UInt8) (i best : Nat) : mgo l i best 8 = if 0 < run decB l then i + run decB l else best := by
  cases l with
  | nil => rfl
  | cons b r =>
    cases h : digI (num b) with
    | true =>
      rw [run_yes (by rw [dec_num]; exact h), if_pos (by omega)]
      have := s9 r (i + 1)
      simp [mgo, step, h, acc]
      omega
    | false =>
      rw [run_no (by rw [dec_num]; exact h), if_neg (by omega)]
      simp [mgo, step, h]
/-- Behind the exponent's mark. -/
theorem s7 (l : List UInt8) (i best : Nat) : mgo l i best 7 = match l with
    | [] => best
    | d :: q => if num d = 43 ∨ num d = 45 then (if 0 < run decB q then i + 1 + run decB q else best) else (if 0 < run decB (d :: q) then i + run decB (d :: q) else best) := by
  cases l with
  | nil => rfl
  | cons d q =>
    have h8 := s8 q (i + 1) best
    show mgo (d :: q) i best 7 = (if num d = 43 ∨ num d = 45 then (if 0 < run decB q then i + 1 + run decB q else best) else (if 0 < run decB (d :: q) then i + run decB (d :: q) else best))
    by_cases h1 : num d = 43
    · simp only [h1, true_or, if_true]
      rw [← h8]
      simp [mgo, step, h1, acc]
    · by_cases h2 : num d = 45
      · simp only [h2, or_true, if_true]
        rw [← h8]
        simp [mgo, step, h2, acc]
      · rw [if_neg (by rintro (h | h); exact h1 h; exact h2 h)]
        cases h : digI (num d) with
        | true =>
          rw [run_yes (by rw [dec_num]; exact h), if_pos (by omega)]
          have := s9 q (i + 1)
          simp [mgo, step, h1, h2, h, acc]
          omega
        | false =>
          rw [run_no (by rw [dec_num]; exact h), if_neg (by omega)]
          simp [mgo, step, h1, h2, h]
/-- At an exponent's mark, the number standing at i. -/
theorem s7_exp (c : UInt8) (r : List UInt8) (i : Nat) (hc : expI (num c) = true) : mgo r (i + 1) i 7 = i + expLen (c :: r) := by
  rw [s7]
  simp only [expLen, hc, if_true]
  cases r with
  | nil => rfl
  | cons d q =>
    simp only
    split
    · split <;> omega
    · split <;> omega
theorem expLen_no {c : UInt8} {r : List UInt8} (h : expI (num c) = false) : expLen (c :: r) = 0 := by simp [expLen, h]

theorem s6 : ∀ (l : List UInt8) (i : Nat), mgo l i i 6 = i + fracLen l
  | [], i => rfl
  | b :: r, i => by
    cases h : digI (num b) with
    | true =>
      rw [fracLen_yes (by rw [dec_num]; exact h)]
      have := s6 r (i + 1)
      simp [mgo, step, h, acc]
      omega
    | false =>
      rw [fracLen_no (by rw [dec_num]; exact h)]
      cases he : expI (num b) with
      | true =>
        rw [← s7_exp b r i he]
        simp [mgo, step, h, he, acc]
      | false =>
        rw [expLen_no he]
        simp [mgo, step, h, he]
theorem s5 (l : List UInt8) (i best : Nat) : mgo l i best 5 = if 0 < run decB l then i + fracLen l else best := by
  cases l with
  | nil => rfl
  | cons b r =>
    cases h : digI (num b) with
    | true =>
      rw [run_yes (by rw [dec_num]; exact h), if_pos (by omega), fracLen_yes (by rw [dec_num]; exact h)]
      have := s6 r (i + 1)
      simp [mgo, step, h, acc]
      omega
    | false =>
      rw [run_no (by rw [dec_num]; exact h), if_neg (by omega)]
      simp [mgo, step, h]
theorem s4 : ∀ (l : List UInt8) (i : Nat), mgo l i i 4 = i + intLen l
  | [], i => rfl
  | b :: r, i => by
    cases h : digI (num b) with
    | true =>
      rw [intLen_yes (by rw [dec_num]; exact h)]
      have := s4 r (i + 1)
      simp [mgo, step, h, acc]
      omega
    | false =>
      rw [intLen_no (by rw [dec_num]; exact h)]
      by_cases hp : num b = 46
      · have := s6 r (i + 1)
        simp only [dotLen, hp, if_true]
        have h46 : digI 46 = false := by decide
        simp [mgo, step, h46, hp, acc]
        omega
      · simp only [dotLen, hp, if_false]
        cases he : expI (num b) with
        | true =>
          rw [← s7_exp b r i he]
          simp [mgo, step, h, hp, he, acc]
        | false =>
          rw [expLen_no he]
          simp [mgo, step, h, hp, he]
theorem s3 : ∀ (l : List UInt8) (i : Nat), mgo l i i 3 = i + run hexB l
  | [], i => rfl
  | b :: r, i => by
    cases h : hexI (num b) with
    | true =>
      rw [run_yes (by rw [hex_num]; exact h)]
      have := s3 r (i + 1)
      simp [mgo, step, h, acc]
      omega
    | false =>
      rw [run_no (by rw [hex_num]; exact h)]
      simp [mgo, step, h]
theorem s2 (l : List UInt8) (i best : Nat) : mgo l i best 2 = if 0 < run hexB l then i + run hexB l else best := by
  cases l with
  | nil => rfl
  | cons b r =>
    cases h : hexI (num b) with
    | true =>
      rw [run_yes (by rw [hex_num]; exact h), if_pos (by omega)]
      have := s3 r (i + 1)
      simp [mgo, step, h, acc]
      omega
    | false =>
      rw [run_no (by rw [hex_num]; exact h), if_neg (by omega)]
      simp [mgo, step, h]

theorem s1 (l : List UInt8) (i : Nat) : mgo l i i 1 = match l with
    | [] => i
    | x :: r => if num x = 120 ∨ num x = 88 then (if 0 < run hexB r then i + 1 + run hexB r else i) else i + intLen (x :: r) := by
  cases l with
  | nil => rfl
  | cons x r =>
    show mgo (x :: r) i i 1 = (if num x = 120 ∨ num x = 88 then (if 0 < run hexB r then i + 1 + run hexB r else i) else i + intLen (x :: r))
    have h2 := s2 r (i + 1) i
    by_cases h120 : num x = 120
    · rw [if_pos (.inl h120), ← h2]
      simp [mgo, step, h120, acc]
    · by_cases h88 : num x = 88
      · rw [if_pos (.inr h88), ← h2]
        simp [mgo, step, h88, acc]
      · rw [if_neg (by rintro (h | h); exact h120 h; exact h88 h), ← s4 (x :: r) i]
        simp only [mgo, step, h120, h88, if_false]
theorem s0 (l : List UInt8) : modelLen l = match l with
    | [] => 0
    | c :: r => if num c = 48 then (match r with
        | [] => 1
        | x :: q => if num x = 120 ∨ num x = 88 then (if 0 < run hexB q then 2 + run hexB q else 1) else 1 + intLen (x :: q))
      else if digI (num c) then 1 + intLen r else if num c = 46 then (if 0 < run decB r then 1 + fracLen r else 0) else 0 := by
  unfold modelLen
  cases l with
  | nil => rfl
  | cons c r =>
    have h1 := s1 r 1
    have h4 := s4 r 1
    have h5 := s5 r 1 0
    by_cases h48 : num c = 48
    · simp only [h48, if_true]
      rw [show mgo (c :: r) 0 0 0 = mgo r 1 1 1 by simp [mgo, step, h48, acc], h1]
    · simp only [h48, if_false]
      cases hd : digI (num c) with
      | true =>
        simp only [if_true]
        rw [show mgo (c :: r) 0 0 0 = mgo r 1 1 4 by simp [mgo, step, h48, hd, acc], h4]
      | false =>
        simp only [Bool.false_eq_true, if_false]
        by_cases h46 : num c = 46
        · simp only [h46, if_true]
          have hd46 : digI 46 = false := by decide
          rw [show mgo (c :: r) 0 0 0 = mgo r 1 0 5 by simp [mgo, step, hd46, h46, acc], h5]
        · simp only [h46, if_false]
          simp [mgo, step, h48, hd, h46]

/-! The other side: what numberLen computes. -/
theorem nth_drop {l : List UInt8} {n : Nat} (h : n < l.length) : ∃ b r, l.drop n = b :: r ∧ nth l n = num b ∧ l.drop (n + 1) = r := by
  refine ⟨l[n], l.drop (n + 1), List.drop_eq_getElem_cons h, ?_, rfl⟩
  simp [nth, num, List.getD, h]
theorem drop_end {l : List UInt8} {n : Nat} (h : ¬ n < l.length) : l.drop n = [] := List.drop_of_length_le (by omega)

theorem exp_eq (l : List UInt8) (n : Nat) : withExp l n = n + expLen (l.drop n) := by
  unfold withExp
  by_cases hn : n < l.length
  · obtain ⟨c, r, hd, hc, hr⟩ := nth_drop hn
    rw [hd, hc]
    have he : expI (num c) = true ↔ (num c = 101 ∨ num c = 69) := by simp [expI]
    by_cases hE : num c = 101 ∨ num c = 69
    · simp only [expLen, he.2 hE, if_true]
      unfold expAt
      by_cases hn1 : n + 1 < l.length
      · obtain ⟨d, q, hd1, hc1, hr1⟩ := nth_drop hn1
        have hrr : r = d :: q := by rw [← hr, hd1]
        subst hrr
        simp only [hc1]
        by_cases hs : num d = 43 ∨ num d = 45
        · simp only [hn1, hs, true_and, if_true]
          rw [show l.drop (n + 2) = q from hr1]
          by_cases hp : 0 < run decB q
          · rw [if_pos ⟨hn, hE, hp⟩, if_pos hp]; omega
          · rw [if_neg (fun h => hp h.2.2), if_neg hp]; rfl
        · simp only [hn1, hs, and_false, if_false]
          rw [hr]
          by_cases hp : 0 < run decB (d :: q)
          · rw [if_pos ⟨hn, hE, hp⟩, if_pos hp]; omega
          · rw [if_neg (fun h => hp h.2.2), if_neg hp]; rfl
      · have hrn : r = [] := by rw [← hr]; exact drop_end hn1
        subst hrn
        rw [if_neg (show ¬ (n + 1 < l.length ∧ _) from fun h => hn1 h.1), hr]
        simp [run_nil]
    · rw [if_neg (fun h => hE h.2.1)]
      have : expI (num c) = false := by
        cases hx : expI (num c) with
        | false => rfl
        | true => exact absurd (he.1 hx) hE
      rw [expLen_no this]
      rfl
  · rw [if_neg (fun h => hn h.1), drop_end hn]
    rfl

theorem int_eq (l : List UInt8) (h : 0 < run decB l) : decLen l = intLen l := by
  have hne : ¬ (mant l = 0 ∨ l.take (mant l) = [46]) := by
    intro hx
    have h1 := (dec_starts l).2 (by
      obtain ⟨b, r, rfl, hb⟩ := (run_pos _ _).1 h
      exact ⟨by simp, .inl (by rw [decB_digI] at hb; simpa [nth] using hb)⟩)
    unfold decLen at h1
    rw [if_pos hx] at h1
    omega
  unfold decLen
  rw [if_neg hne, exp_eq]
  unfold intLen mant
  by_cases hn : run decB l < l.length
  · obtain ⟨c, r, hd, hc, hr⟩ := nth_drop hn
    rw [hd, hc]
    by_cases h46 : num c = 46
    · rw [if_pos ⟨hn, h46⟩]
      simp only [dotLen, h46, if_true, fracLen]
      rw [hr, show run decB l + (1 + run decB r) = (run decB l + 1) + run decB r by omega, ← List.drop_drop, hr]
      omega
    · rw [if_neg (fun h => h46 h.2), hd]
      simp only [dotLen, h46, if_false]
  · rw [if_neg (fun h => hn h.1), drop_end hn]
    rfl

theorem dec_eq (l : List UInt8) : decLen l = match l with
    | [] => 0
    | c :: r => if digI (num c) then 1 + intLen r else if num c = 46 then (if 0 < run decB r then 1 + fracLen r else 0) else 0 := by
  cases l with
  | nil => simp [decLen, mant, run]
  | cons c r =>
    show decLen (c :: r) = (if digI (num c) then 1 + intLen r else if num c = 46 then (if 0 < run decB r then 1 + fracLen r else 0) else 0)
    cases hd : digI (num c) with
    | true =>
      have hb : decB c = true := by rw [dec_num]; exact hd
      rw [int_eq _ ((run_pos _ _).2 ⟨c, r, rfl, hb⟩), intLen_yes hb]
      rfl
    | false =>
      have hb : decB c = false := by rw [dec_num]; exact hd
      have h0 : run decB (c :: r) = 0 := run_no hb
      simp only [Bool.false_eq_true, if_false]
      have hn0 : nth (c :: r) 0 = num c := rfl
      by_cases h46 : num c = 46
      · simp only [h46, if_true]
        have hm : mant (c :: r) = 1 + run decB r := by
          unfold mant
          rw [h0, if_pos ⟨by simp, by rw [hn0]; exact h46⟩]
          simp
        have hc46 : c = 46 := by
          apply UInt8.toNat_inj.1
          unfold num at h46
          have : c.toNat = 46 := by omega
          rw [this]; rfl
        unfold decLen
        rw [hm]
        by_cases hp : 0 < run decB r
        · have hlen := run_le decB r
          have hne : ¬ (1 + run decB r = 0 ∨ (c :: r).take (1 + run decB r) = [46]) := by
            rintro (h | h)
            · omega
            · have := congrArg List.length h
              rw [List.length_take] at this
              simp at this
              omega
          rw [if_neg hne, if_pos hp, exp_eq]
          unfold fracLen
          rw [Nat.add_comm 1 (run decB r), List.drop_succ_cons]
          omega
        · have hz : run decB r = 0 := by omega
          rw [if_neg hp, hz, if_pos (.inr (by simp [hc46]))]
      · simp only [h46, if_false]
        have hm : mant (c :: r) = 0 := by
          unfold mant
          rw [h0, if_neg (fun h => h46 (by rw [hn0] at h; exact h.2))]
        unfold decLen
        rw [if_pos (.inl hm)]

/-- THE PLAIN LAW. -/
theorem num_model (l : List UInt8) (n : Nat) (h : NumIs l n) : n = modelLen l := by
  rw [s0]
  rcases h with ⟨⟨⟨h2, h0, h1⟩, hr⟩, rfl⟩ | ⟨hno, rfl⟩
  · match l, h2, h0, h1, hr with
    | c :: x :: q, _, h0, h1, hr =>
      have hc : num c = 48 := h0
      have hx : num x = 120 ∨ num x = 88 := h1
      have hq : 0 < run hexB q := hr
      show 2 + run hexB q = _
      simp only [hc, if_true, hx, hq]
  · rw [dec_eq]
    cases l with
    | nil => rfl
    | cons c r =>
      dsimp only
      by_cases h48 : num c = 48
      · have hd : digI (num c) = true := by rw [h48]; decide
        rw [if_pos hd, if_pos h48]
        cases r with
        | nil => rfl
        | cons x q =>
          show 1 + intLen (x :: q) = (if num x = 120 ∨ num x = 88 then (if 0 < run hexB q then 2 + run hexB q else 1) else 1 + intLen (x :: q))
          by_cases hx : num x = 120 ∨ num x = 88
          · rw [if_pos hx]
            have hq : ¬ 0 < run hexB q := fun hq => hno ⟨⟨by
              cases q with
              | nil => simp [run] at hq
              | cons a t => simp, h48, hx⟩, hq⟩
            rw [if_neg hq]
            have hxd : decB x = false := by
              rw [dec_num]
              rcases hx with h | h <;> (rw [h]; decide)
            rw [intLen_no hxd]
            have h46 : num x ≠ 46 := by rcases hx with h | h <;> omega
            simp only [dotLen, h46, if_false]
            rw [expLen_no (by rcases hx with h | h <;> (rw [h]; decide))]
          · rw [if_neg hx]
      · rw [if_neg h48]
end Go.Proofs.Qxb6600238aDoor
