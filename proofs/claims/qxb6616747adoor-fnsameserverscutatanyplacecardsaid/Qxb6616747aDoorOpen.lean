/-
  What both rows' proofs share: the listed table read off the condition; a world that meets the condition (the door's own run); a slice of strings opened.
-/
import Derived.Test.Qxb6616747aDoorRows
import Derived.Test.Qxb6616747aDoorLawA
import Derived.ProofKit
import Derived.LaidMore
import Derived.OpenShut
import Derived.SliceStrings
import Derived.Lib.LaidTab
import Derived.Stop.Joined
namespace Go.Proofs.Qxb6616747aDoor
open Go.ChangeShapes Go.WideShapes Go.ChangeAt Go.RowKit

theorem Tryd.own : ownKnob Tryd.prog.godebug = none := by kernel_rfl
theorem Tryd.laidOut : laidOutB Tryd.prog = true := by kernel_rfl
theorem Tryd.cells9 : Tryd.prog.cellsOf 9 = 1 := by kernel_rfl

/-- The list that both rows bear. -/
def laidL : List (String × DataW Unit) := Rows.fnSameServersIsHostEqualityRow.laid
def tabName : String := (laidL.map Prod.fst).headD ""
theorem laidL_eq : laidL = [(tabName, Lib.tabData .u8 Pl.tab)] := by kernel_rfl
theorem laidL_plain : (laidL.all fun x => x.2.handleName?.isNone) = true := by kernel_rfl
theorem gTab : Tryd.prog.globalNamed tabName = some 0 := by kernel_rfl
theorem tTab : (Tryd.prog.globals[0]?).map (·.type) = some 67 := by kernel_rfl
theorem cTab : Tryd.prog.cellsOf 67 = 256 := by kernel_rfl
theorem cEnc : Tryd.prog.cellsOf 49 = 1 := by kernel_rfl
theorem tab_len : Pl.tab.length = 256 := by decide +kernel

theorem tab_of_laid {W : World} (h : laidMetH Tryd.prog laidL W) : TabAt W ∧ 0 < W.heap.size := by
  rw [MakeChecks.laidMetH_plain _ _ _ laidL_plain, laidL_eq] at h
  have hT := Lib.tabIs_of_head gTab tTab Tryd.underlying67 Tryd.underlying49 cEnc cTab h
  have hA : TabAt W := fun c => hT.cell gTab c.toNat (by rw [tab_len]; exact c.toNat_lt)
  exact ⟨hA, lt_of_cell (hA 0)⟩

/-- The door's own heap meets the condition. -/
theorem door_met (os : Os) (args : Array Value) : laidMetH Tryd.prog laidL ((World.doorLaid Tryd.prog 14 os).forCall (fun _ _ => 0) ⟨#[], args, []⟩).memory :=
  laidMetH_of_parts3 (fuel := 8) (laidMet_of_run' 8 (by kernel_rfl) (by kernel_rfl)) (by kernel_rfl) (by kernel_rfl)

theorem strs_view {H : Type} {enc : TypeId × Value → H} {W : World} {fuel : Nat} {a0 : Option Addr} {len cap : Nat} {x : DataW H × List MemPlace}
    (h : DataW.trod enc Tryd.prog W 0 (fun _ => true) true fuel 22 (Value.slice a0 len cap).cells.toList = some x) :
    ∃ A : List ByteArray, A.length = len ∧ Strs W a0 A ∧ (∀ x ∈ A, x.size ≤ 9223372036854775807) ∧ len ≤ 9223372036854775807 := by
  rcases open_strings Tryd.underlying22 Tryd.underlying9 Tryd.cells9 h with ⟨hcs, _⟩ | ⟨a, l, c, ss, hcs, _, hl, hm, hz, _, hcell, hws⟩
  · simp [Value.cells] at hcs
    obtain ⟨rfl, rfl, rfl⟩ := hcs
    exact ⟨[], rfl, fun i x hx => by simp at hx, fun x hx => by simp at hx, by omega⟩
  · simp [Value.cells] at hcs
    obtain ⟨rfl, rfl, rfl⟩ := hcs
    have hz' : ss.length = cap := by simpa using hz
    unfold maxLen at hm hws
    refine ⟨ss.take len, by rw [List.length_take]; omega, ?_, fun x hx => hws x (List.mem_of_mem_take hx), by omega⟩
    intro i x hx
    rw [List.getElem?_take] at hx
    split at hx
    · rename_i hi
      have hsl : 0 < ss.length := by omega
      obtain ⟨b, off, spot⟩ := a
      have hspot : spot = none := by simpa [Addr.add] using World.cell?_spot (hcell 0 hsl)
      subst hspot
      refine ⟨b, off, rfl, ?_⟩
      have hc := hcell i (by omega)
      rw [add_plain] at hc
      rw [hc]
      simp [List.getD, hx]
    · cases hx
end Go.Proofs.Qxb6616747aDoor
