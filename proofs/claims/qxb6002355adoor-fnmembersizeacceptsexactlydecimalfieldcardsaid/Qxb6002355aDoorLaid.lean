import Derived.Test.Qxb6002355aDoorTie
import Derived.Test.Qxb6002355aDoorCards
import Derived.Test.Qxb6002355aDoorMsize
import Derived.Lib.LaidU8
import Derived.PinnedBridge
import Derived.Lay
import Derived.ProofKit
import Derived.OpenShut
import Derived.ShutString
import Derived.ChangeOld
import Derived.Below
namespace Go.Proofs.Qxb6002355aDoor
open Go.ChangeShapes Go.WideShapes Go.ChangeAt Go.RowKit
set_option maxRecDepth 100000
set_option linter.unusedSimpArgs false
set_option linter.unusedVariables false

theorem own : ownKnob Tryd.prog.godebug = none := by kernel_rfl
theorem laidOut : laidOutB Tryd.prog = true := by kernel_rfl
theorem tSpace : (Tryd.prog.globals[0]?).map (·.type) = some 41 := by kernel_rfl
theorem tErr : (Tryd.prog.globals[2]?).map (·.type) = some 28 := by kernel_rfl
theorem cells41 : Tryd.prog.cellsOf 41 = 256 := by kernel_rfl
theorem cells5 : Tryd.prog.cellsOf 5 = 1 := by kernel_rfl
theorem spaceEq : Rows.laid_bytes_asciiSpace = (Lib.tabData .u8 Lib.asciiSpaceTab : DataW Unit) := by kernel_rfl

theorem var_lt {W : World} {n : String} {g : Nat} {cs : Array Value} (hg : Tryd.prog.globalNamed n = some g) (hv : W.var? Tryd.prog n = some cs) : g < W.heap.size := by
  unfold World.var? at hv
  rw [hg] at hv
  rcases Nat.lt_or_ge g W.heap.size with h | h
  · exact h
  · simp [Array.getElem?_eq_none h] at hv

/-- What the row's condition gives the walks. -/
theorem vars_of_laid {l : List (String × DataW Unit)} {W : World} (h1 : ("bytes.asciiSpace", (Rows.laid_bytes_asciiSpace : DataW Unit)) ∈ l) (h2 : ("strconv.ErrSyntax", (Rows.laid_strconv_ErrSyntax : DataW Unit)) ∈ l)
    (h : laidMet Tryd.prog l W) : Vars W := by
  obtain ⟨g, t, cs, fuel, p, hg, ht, hv, hd⟩ := Lib.laidMet.reads h h1
  obtain rfl := Option.some.inj (gSpace.symm.trans hg)
  obtain rfl := Option.some.inj (tSpace.symm.trans ht)
  rw [spaceEq] at hd
  obtain ⟨g2, t2, cs2, fuel2, p2, hg2, ht2, hv2, hd2⟩ := Lib.laidMet.reads h h2
  obtain rfl := Option.some.inj (gErr.symm.trans hg2)
  obtain rfl := Option.some.inj (tErr.symm.trans ht2)
  refine ⟨?_, ?_, ?_⟩
  · unfold Lib.TabIs
    rw [hv, ← Lib.cells_of_tab Tryd.underlying41 Tryd.underlying5 cells5 cells41 hd]
  · obtain ⟨f1, u, v, e, _, _⟩ := iface_of_trod Tryd.underlying28 hd2
    exact ⟨u, v, by rw [hv2, ← e]⟩
  · exact var_lt gErr hv2
end Go.Proofs.Qxb6002355aDoor
