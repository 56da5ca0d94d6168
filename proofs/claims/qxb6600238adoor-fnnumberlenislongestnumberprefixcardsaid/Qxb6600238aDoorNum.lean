import Derived.Test.Qxb6600238aDoorShelf
import Derived.Test.Qxb6600238aDoorPlain
import Derived.WalkKit
import Derived.WalkSpells
import Derived.WalkLawsBesides
import Derived.Handy
import Derived.Deep.DeepCutAuto
namespace Go.Proofs.Qxb6600238aDoor
open Go.RowKit
set_option maxRecDepth 100000
set_option linter.unusedSimpArgs false
set_option linter.unusedVariables false

def sDec : ByteArray := ⟨#[48, 49, 50, 51, 52, 53, 54, 55, 56, 57]⟩
def sHex : ByteArray := ⟨#[48, 49, 50, 51, 52, 53, 54, 55, 56, 57, 97, 98, 99, 100, 101, 102, 65, 66, 67, 68, 69, 70]⟩

theorem asciiDec : ∀ (j : Nat) (b : UInt8), sDec.data.toList[j]? = some b → b.toNat < 128 := ascii_of_all (by decide)
theorem asciiHex : ∀ (j : Nat) (b : UInt8), sHex.data.toList[j]? = some b → b.toNat < 128 := ascii_of_all (by decide)

theorem trimDec (l : List UInt8) : Lib.trimLeftS l sDec.data.toList = l.dropWhile decB := by
  unfold Lib.trimLeftS
  congr 1
  funext b
  exact decSet b
theorem trimHex (l : List UInt8) : Lib.trimLeftS l sHex.data.toList = l.dropWhile hexB := by
  unfold Lib.trimLeftS
  congr 1
  funext b
  exact hexSet b

theorem size_len (s : ByteArray) : s.size = s.data.toList.length := by simp

set_option maxHeartbeats 400000 in
theorem pre_of (s cut : ByteArray) (p : UInt8 → Bool) (w : World) (hs : s.size ≤ 1048576)
    (hT : Calls Tryd.prog 18 #[.string s, .string cut] w fun e w' => e = .returned (.string ⟨(s.data.toList.dropWhile p).toArray⟩) ∧ Below w.heap.size w w') :
    Calls Tryd.prog 15 #[.string s, .string cut] w fun e w' => e = .returned (.int .i64 (run p s.data.toList)) ∧ Below w.heap.size w w' := by
  have hz : (⟨(s.data.toList.dropWhile p).toArray⟩ : ByteArray).size = (s.data.toList.dropWhile p).length := by
    show ((s.data.toList.dropWhile p).toArray).size = _
    simp
  have hle := dropWhile_le p s.data.toList
  have hr := run_drop p s.data.toList
  rw [← size_len] at hle hr
  rw [← hz] at hle hr
  generalize (⟨(s.data.toList.dropWhile p).toArray⟩ : ByteArray) = t at *
  generalize run p s.data.toList = m at *
  have HR : Hid (s.size - t.size = m) := hr
  clear hr hz
  go_enter Tryd.func15, Tryd.ntmps15
  go_wp2_with fail
  refine hT.mono ?_
  rintro e w1 ⟨rfl, hb⟩
  clear hT
  go_wp2_with fail
  go_ret
  have e1 : (s.size : Int) - (t.size : Int) = (m : Int) := by rw [← HR.out]; omega
  exact ⟨by rw [← e1]; rfl, hb⟩

theorem pre_dec (s : ByteArray) (w : World) (hs : s.size ≤ 1048576) : Calls Tryd.prog 15 #[.string s, .string sDec] w fun e w' => e = .returned (.int .i64 (run decB s.data.toList)) ∧ Below w.heap.size w w' :=
  pre_of s sDec decB w hs (by have := Tryd.strings_TrimLeft s sDec w (by decide) asciiDec; rw [trimDec] at this; exact this)
theorem pre_hex (s : ByteArray) (w : World) (hs : s.size ≤ 1048576) : Calls Tryd.prog 15 #[.string s, .string sHex] w fun e w' => e = .returned (.int .i64 (run hexB s.data.toList)) ∧ Below w.heap.size w w' :=
  pre_of s sHex hexB w hs (by have := Tryd.strings_TrimLeft s sHex w (by decide) asciiHex; rw [trimHex] at this; exact this)

theorem drop_ext (s : ByteArray) (i : Nat) : (s.extract i s.size).data.toList = s.data.toList.drop i := by
  simp only [ByteArray.data_extract, Array.toList_extract, List.extract_eq_take_drop]
  rw [List.take_of_length_le]
  rw [List.length_drop]
  simp
theorem ext_size (s : ByteArray) (i : Nat) (hs : s.size ≤ 1048576) : (s.extract i s.size).size ≤ 1048576 := by simp; omega
theorem pre_dec_at (s : ByteArray) (i : Nat) (w : World) (hs : s.size ≤ 1048576) : Calls Tryd.prog 15 #[.string (s.extract i s.size), .string sDec] w fun e w' => e = .returned (.int .i64 (run decB (s.data.toList.drop i))) ∧ Below w.heap.size w w' := by
  have := pre_dec (s.extract i s.size) w (ext_size s i hs)
  rwa [drop_ext] at this
theorem pre_hex_at (s : ByteArray) (i : Nat) (w : World) (hs : s.size ≤ 1048576) : Calls Tryd.prog 15 #[.string (s.extract i s.size), .string sHex] w fun e w' => e = .returned (.int .i64 (run hexB (s.data.toList.drop i))) ∧ Below w.heap.size w w' := by
  have := pre_hex (s.extract i s.size) w (ext_size s i hs)
  rwa [drop_ext] at this

theorem nth_at (s : ByteArray) (t : Nat) (h : t < s.size) : ((s[t].toNat : Nat) : Int) = nth s.data.toList t := by
  unfold nth
  have hl : t < s.data.toList.length := by simpa using h
  rw [List.getD, List.getElem?_eq_getElem hl]
  rfl

/-- numberLen at a hexadecimal number. -/
theorem num_hex (s : ByteArray) (w : World) (hs : s.size ≤ 1048576) (hh : isHexNum s.data.toList) :
    Calls Tryd.prog 12 #[.string s] w fun e w' => e = .returned (.int .i64 (2 + (run hexB (s.data.toList.drop 2) : Nat) : Int)) ∧ Below w.heap.size w w' := by
  obtain ⟨⟨h2, h0, h1⟩, hr⟩ := hh
  rw [← size_len] at h2
  have hcon := pre_hex_at s 2 w hs
  have hle : run hexB (s.data.toList.drop 2) ≤ 1048576 := by
    have := run_le hexB (s.data.toList.drop 2)
    rw [List.length_drop, ← size_len] at this
    omega
  have a0 := nth_at s 0 (by omega)
  have a1 := nth_at s 1 (by omega)
  rw [h0] at a0
  have h2' : (2 : Int) < (s.size : Int) := by omega
  generalize run hexB (s.data.toList.drop 2) = m at *
  rcases h1 with h1 | h1
  · rw [h1] at a1
    clear h1 h0
    go_enter Tryd.func12, Tryd.ntmps12
    go_wp2_with fail
    refine hcon.mono ?_
    rintro e w1 ⟨rfl, hb⟩
    clear hcon
    go_wp2_with fail
    go_ret
    exact ⟨rfl, hb⟩
  · rw [h1] at a1
    clear h1 h0
    go_enter Tryd.func12, Tryd.ntmps12
    go_wp2_with fail
    refine hcon.mono ?_
    rintro e w1 ⟨rfl, hb⟩
    clear hcon
    go_wp2_with fail
    go_ret
    exact ⟨rfl, hb⟩
end Go.Proofs.Qxb6600238aDoor
