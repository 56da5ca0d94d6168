/-
  The plain mathematics of numberLen: no Go in sight.
-/
namespace Go.Proofs.Qxb6600238aDoor
set_option maxRecDepth 100000

def decB (b : UInt8) : Bool := decide (48 ≤ b.toNat) && decide (b.toNat ≤ 57)
def hexB (b : UInt8) : Bool := decB b || (decide (97 ≤ b.toNat) && decide (b.toNat ≤ 102)) || (decide (65 ≤ b.toNat) && decide (b.toNat ≤ 70))
/-- How many bytes in front are of the kind p. -/
def run (p : UInt8 → Bool) (l : List UInt8) : Nat := (l.takeWhile p).length
/-- The i-th byte; 0 past the end. -/
def nth (l : List UInt8) (i : Nat) : Int := ((l.getD i 0).toNat : Int)

theorem nth_bd (l : List UInt8) (i : Nat) : 0 ≤ nth l i ∧ nth l i < 256 := by
  unfold nth
  have := UInt8.toNat_lt (l.getD i 0)
  omega

theorem run_le (p : UInt8 → Bool) (l : List UInt8) : run p l ≤ l.length := (List.takeWhile_sublist p).length_le
theorem run_drop (p : UInt8 → Bool) : ∀ l : List UInt8, l.length - (l.dropWhile p).length = run p l
  | [] => rfl
  | a :: r => by
    unfold run
    by_cases h : p a = true
    · rw [List.dropWhile_cons_of_pos h, List.takeWhile_cons_of_pos h, List.length_cons, List.length_cons]
      have ih := run_drop p r
      unfold run at ih
      have hle : (r.dropWhile p).length ≤ r.length := (List.dropWhile_sublist p).length_le
      omega
    · rw [List.dropWhile_cons_of_neg h, List.takeWhile_cons_of_neg h]
      simp
theorem dropWhile_le (p : UInt8 → Bool) (l : List UInt8) : (l.dropWhile p).length ≤ l.length := (List.dropWhile_sublist p).length_le

def expAt (l : List UInt8) (n : Nat) : Nat := if n + 1 < l.length ∧ (nth l (n + 1) = 43 ∨ nth l (n + 1) = 45) then n + 2 else n + 1
def withExp (l : List UInt8) (n : Nat) : Nat :=
  if n < l.length ∧ (nth l n = 101 ∨ nth l n = 69) ∧ 0 < run decB (l.drop (expAt l n)) then expAt l n + run decB (l.drop (expAt l n)) else n
def mant (l : List UInt8) : Nat := if run decB l < l.length ∧ nth l (run decB l) = 46 then run decB l + (1 + run decB (l.drop (run decB l + 1))) else run decB l
def decLen (l : List UInt8) : Nat := if mant l = 0 ∨ l.take (mant l) = [46] then 0 else withExp l (mant l)
def hexHead (l : List UInt8) : Prop := 2 < l.length ∧ nth l 0 = 48 ∧ (nth l 1 = 120 ∨ nth l 1 = 88)
def isHexNum (l : List UInt8) : Prop := hexHead l ∧ 0 < run hexB (l.drop 2)

theorem all256 (P : UInt8 → Prop) [DecidablePred P] (h : ∀ n : Fin 256, P (UInt8.ofNat n.val)) (b : UInt8) : P b := by
  have := h ⟨b.toNat, UInt8.toNat_lt b⟩
  simpa using this
theorem decSet (b : UInt8) : [(48 : UInt8), 49, 50, 51, 52, 53, 54, 55, 56, 57].contains b = decB b :=
  all256 (fun b => [(48 : UInt8), 49, 50, 51, 52, 53, 54, 55, 56, 57].contains b = decB b) (by decide) b
theorem hexSet (b : UInt8) : [(48 : UInt8), 49, 50, 51, 52, 53, 54, 55, 56, 57, 97, 98, 99, 100, 101, 102, 65, 66, 67, 68, 69, 70].contains b = hexB b :=
  all256 (fun b => [(48 : UInt8), 49, 50, 51, 52, 53, 54, 55, 56, 57, 97, 98, 99, 100, 101, 102, 65, 66, 67, 68, 69, 70].contains b = hexB b) (by decide) b
end Go.Proofs.Qxb6600238aDoor
