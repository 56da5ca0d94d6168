import Derived.Test.Qxb6002355aDoorBase
namespace Go.Proofs.Qxb6002355aDoor
set_option maxRecDepth 100000
set_option linter.unusedSimpArgs false
set_option linter.unusedVariables false

/-- A digit's byte. -/
theorem digit_byte (x : Int) (h : 48 ≤ x ∧ x ≤ 57) : (UInt8.ofNat x.toNat).toNat = x.toNat := by
  rw [UInt8.toNat_ofNat']; omega

theorem decFrom_valI : ∀ (ds : List Int) (m : Nat), (∀ x ∈ ds, 48 ≤ x ∧ x ≤ 57) → Lib.decFrom m (Lib.bytesOf ds) = some (valI m ds)
  | [], m, _ => rfl
  | d :: r, m, h => by
    have hd := h d (List.mem_cons_self ..)
    have hb := digit_byte d hd
    have hv : Lib.digitVal (UInt8.ofNat d.toNat) = some (d - 48).toNat := by
      unfold Lib.digitVal
      rw [hb, if_pos (by omega)]
      congr 1
      omega
    show Lib.decFrom m (UInt8.ofNat d.toNat :: Lib.bytesOf r) = _
    simp only [Lib.decFrom, hv, valI]
    exact decFrom_valI r _ (fun x hx => h x (List.mem_cons_of_mem _ hx))

theorem atoi_digits (ds : List Int) (hd : ∀ x ∈ ds, 48 ≤ x ∧ x ≤ 57) (h1 : 1 ≤ ds.length) : Lib.atoi (Lib.bytesOf ds) = some ((valI 0 ds : Nat) : Int) := by
  match ds, hd, h1 with
  | d :: r, hd, _ =>
    have h0 := hd d (List.mem_cons_self ..)
    have hb := digit_byte d h0
    have hf := decFrom_valI (d :: r) 0 hd
    have e1 : (UInt8.ofNat d.toNat == 45) = false := by
      apply beq_eq_false_iff_ne.2
      intro e
      have := congrArg UInt8.toNat e
      rw [hb] at this
      simp at this
      omega
    have e2 : (UInt8.ofNat d.toNat == 43) = false := by
      apply beq_eq_false_iff_ne.2
      intro e
      have := congrArg UInt8.toNat e
      rw [hb] at this
      simp at this
      omega
    have e3 : Lib.bytesOf (d :: r) = UInt8.ofNat d.toNat :: Lib.bytesOf r := rfl
    rw [e3] at hf ⊢
    simp only [Lib.atoi, e1, e2, Bool.false_eq_true, if_false, Lib.decNat, List.isEmpty_cons, hf, Option.map_some]

theorem isSp_digit (x : Int) (h : 48 ≤ x ∧ x ≤ 57) : Lib.isSp (UInt8.ofNat x.toNat) = false := by
  have hb := digit_byte x h
  have : ∀ c : UInt8, c.toNat ≤ 32 → UInt8.ofNat x.toNat ≠ c := by
    intro c hc e
    rw [e] at hb
    omega
  simp only [Lib.isSp, Bool.or_eq_false_iff]
  refine ⟨⟨⟨⟨⟨?_, ?_⟩, ?_⟩, ?_⟩, ?_⟩, ?_⟩ <;> exact beq_eq_false_iff_ne.2 (this _ (by decide))

theorem bytesOf_append (a b : List Int) : Lib.bytesOf (a ++ b) = Lib.bytesOf a ++ Lib.bytesOf b := by simp [Lib.bytesOf]
theorem bytesOf_blank (k : Nat) : Lib.bytesOf (List.replicate k 32) = List.replicate k 32 := by simp [Lib.bytesOf]

theorem drop_blanks (k : Nat) (l : List UInt8) (h : ∀ x, l.head? = some x → Lib.isSp x = false) : (List.replicate k 32 ++ l).dropWhile Lib.isSp = l := by
  induction k with
  | zero =>
    cases l with
    | nil => rfl
    | cons a r => simp [List.dropWhile, h a rfl]
  | succ k ih =>
    rw [List.replicate_succ, List.cons_append, List.dropWhile_cons_of_pos (by decide)]
    exact ih

theorem trim_pads (j k : Nat) (l : List UInt8) (hne : l ≠ []) (h : ∀ x ∈ l, Lib.isSp x = false) : Lib.trimSpace (List.replicate j 32 ++ l ++ List.replicate k 32) = l := by
  unfold Lib.trimSpace
  rw [List.append_assoc, drop_blanks]
  · rw [List.reverse_append, List.reverse_replicate, drop_blanks]
    · simp
    · intro x hx
      exact h x (by have := List.mem_of_mem_head? (by rw [hx]; rfl : x ∈ l.reverse.head?); simpa using this)
  · intro x hx
    match l, hne with
    | a :: r, _ =>
      simp at hx
      subst hx
      exact h _ (List.mem_cons_self ..)

/-- The field as it is written: the digits, padded with blanks on the one side or the other. -/
def field (ra : Bool) (ds : List Int) : List Int := if ra then List.replicate (10 - ds.length) 32 ++ ds else ds ++ List.replicate (10 - ds.length) 32

theorem field_length (ra : Bool) (ds : List Int) (h : ds.length ≤ 10) : (field ra ds).length = 10 := by
  unfold field; cases ra <;> simp <;> omega

theorem field_ascii (ra : Bool) (ds : List Int) (hd : ∀ x ∈ ds, 48 ≤ x ∧ x ≤ 57) : ∀ x ∈ field ra ds, 0 ≤ x ∧ x < 128 := by
  intro x hx
  have : x = 32 ∨ x ∈ ds := by
    unfold field at hx
    cases ra <;> simp at hx <;> rcases hx with h | h
    · exact .inr h
    · exact .inl h.2
    · exact .inl h.2
    · exact .inr h
  rcases this with rfl | h
  · omega
  · have := hd x h; omega

theorem field_reads (ra : Bool) (ds : List Int) (hd : ∀ x ∈ ds, 48 ≤ x ∧ x ≤ 57) (h1 : 1 ≤ ds.length) : Lib.atoi (Lib.trimSpace (Lib.bytesOf (field ra ds))) = some ((valI 0 ds : Nat) : Int) := by
  have hne : Lib.bytesOf ds ≠ [] := by
    intro e
    have := congrArg List.length e
    simp [Lib.bytesOf] at this
    subst this
    simp at h1
  have hsp : ∀ x ∈ Lib.bytesOf ds, Lib.isSp x = false := by
    intro x hx
    simp only [Lib.bytesOf, List.mem_map] at hx
    obtain ⟨y, hy, rfl⟩ := hx
    exact isSp_digit y (hd y hy)
  have ht : Lib.trimSpace (Lib.bytesOf (field ra ds)) = Lib.bytesOf ds := by
    unfold field
    cases ra
    · simp only [Bool.false_eq_true, if_false, bytesOf_append, bytesOf_blank]
      have := trim_pads 0 (10 - ds.length) _ hne hsp
      simpa using this
    · simp only [if_true, bytesOf_append, bytesOf_blank]
      have := trim_pads (10 - ds.length) 0 _ hne hsp
      simpa using this
  rw [ht]
  exact atoi_digits ds hd h1

/-- The cells of the field, once all is written. -/
theorem field_get (ra : Bool) (ds : List Int) (h10 : ds.length ≤ 10) (j : Nat) (hj : j < 10) :
    (field ra ds).getD j 0 = if (if ra then 10 - ds.length else 0) ≤ j ∧ j < (if ra then 10 - ds.length else 0) + ds.length then ds.getD (j - (if ra then 10 - ds.length else 0)) 0 else 32 := by
  unfold field
  cases ra
  · simp only [Bool.false_eq_true, if_false, List.getD, List.getElem?_append, List.getElem?_replicate, Nat.sub_zero, Nat.zero_le, true_and, Nat.zero_add]
    by_cases h : j < ds.length
    · simp [h]
    · simp [h, show j - ds.length < 10 - ds.length by omega]
  · simp only [if_true, List.getD, List.getElem?_append, List.getElem?_replicate, List.length_replicate]
    by_cases h : j < 10 - ds.length
    · simp [h, show ¬ 10 - ds.length ≤ j by omega]
    · simp [h, show 10 - ds.length ≤ j by omega, show j < 10 - ds.length + ds.length by omega]
end Go.Proofs.Qxb6002355aDoor
