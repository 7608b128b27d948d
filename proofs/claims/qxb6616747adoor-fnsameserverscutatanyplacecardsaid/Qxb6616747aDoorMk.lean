/-
  zzHostURLs, walked: a new row of pointers, each to a new URL of the scheme and its host.
-/
import Derived.Test.Qxb6616747aDoorEq
namespace Go.Proofs.Qxb6616747aDoor
open Go.RowKit

/-- The strings that a slice's cells hold; where there is none, of its address nothing is said. -/
def Strs (w : World) (ao : Option Addr) (A : List ByteArray) : Prop :=
  ∀ i x, A[i]? = some x → ∃ b off, ao = some ⟨b, off, none⟩ ∧ w.cell? ⟨b, off + i, none⟩ = some (.string x)

theorem Strs.kept {w w' : World} {ao : Option Addr} {A : List ByteArray} (h : Strs w ao A) (hb : Below w.heap.size w w') : Strs w' ao A := by
  intro i x hx
  obtain ⟨b, off, ha, hc⟩ := h i x hx
  exact ⟨b, off, ha, (hb.cell (p := ⟨b, off + i, none⟩) (lt_of_cell hc)).trans hc⟩

set_option maxHeartbeats 400000 in
theorem new_any (sc x : ByteArray) (w : World) :
    Calls Tryd.prog 10 #[.string sc, .string x] w fun e w' => e = .returned (.pointer (some ⟨w.heap.size, 0, none⟩)) ∧ UrlAt w' w.heap.size sc x ∧ Below w.heap.size w w' ∧ w'.heap.size = w.heap.size + 1 := by
  go_enter Tryd.func10, Tryd.ntmps10
  go_wp2
  go_ret
  exact ⟨rfl, heap_alloc_new w _, (Below.refl _ w).alloc (Nat.le_refl _) _, by simp⟩

theorem Tryd.infoUrlPtr : (Tryd.prog.info? 28).map (fun i => (i.zero, i.size, i.bytes)) = some (some (.pointer none), 1, 8) := by kernel_rfl

/-- A row of so many nil pointers. -/
def nilRow (m : Nat) : Array Value := madeCells (Value.pointer none).cells (m * 1)
theorem nilRow_size (m : Nat) : (nilRow m).size = m := by unfold nilRow; rw [size_madeCells]; omega

theorem make_urls (m : Nat) (hm : m ≤ 1048576) (W : World) :
    Sem.run Tryd.prog (Instr.makeSlice 24 (.int .i64 m) (.int .i64 m)) W = .ok (.slice (some ⟨W.heap.size, 0, none⟩) m m) (W.alloc (.cells (nilRow m) 28)) := by
  obtain ⟨i0, hi, hz0, hz1, hz2⟩ := info_parts Tryd.infoUrlPtr
  have hr := run_make (P := Tryd.prog) W 24 28 i0 (.pointer none) Tryd.underlying24 hi hz0 .i64 .i64 m m (by omega) (Int.le_refl _) (by rw [hz2]; omega) (by omega)
  simp only [Int.toNat_natCast, hz1] at hr
  exact hr

/-- What a store into the row does. -/
theorem Urls.put {w : World} {B k n : Nat} {sc x : ByteArray} {A : List ByteArray} {cu : Array Value} {d : Nat} (hB : w.heap[B]? = some (.cells cu 28 (0, 0))) (hn : cu.size = n) (hk : k < n) (h : Urls w B 0 sc (A.take k)) (hx : A[k]? = some x) (hd : UrlAt w d sc x) :
    (∃ cu', (w.setCell ⟨B, k, none⟩ (.pointer (some ⟨d, 0, none⟩))).heap[B]? = some (.cells cu' 28 (0, 0)) ∧ cu'.size = n) ∧ Urls (w.setCell ⟨B, k, none⟩ (.pointer (some ⟨d, 0, none⟩))) B 0 sc (A.take (k + 1)) := by
  have hrow := heap_setCell_same w B k cu 28 (.pointer (some ⟨d, 0, none⟩)) hB
  have hoth : ∀ b y, UrlAt w b sc y → UrlAt (w.setCell ⟨B, k, none⟩ (.pointer (some ⟨d, 0, none⟩))) b sc y := by
    intro b y hy
    have hne : b ≠ B := by
      intro e
      subst e
      unfold UrlAt at hy
      rw [hB] at hy
      simp at hy
    exact (heap_setCell_other w ⟨B, k, none⟩ b _ hne).trans hy
  refine ⟨⟨_, hrow, by simpa using hn⟩, ?_⟩
  intro i y hy
  rw [List.getElem?_take] at hy
  split at hy
  · rename_i hi
    by_cases hik : i = k
    · subst hik
      rw [hx] at hy
      cases hy
      refine ⟨d, ?_, hoth d _ hd⟩
      rw [cell_of_row _ B (0 + i) _ 28 (0, 0) hrow, Nat.zero_add, Array.getElem?_setIfInBounds_self_of_lt (by omega)]
    · obtain ⟨b, hc, hu⟩ := h i y (by rw [List.getElem?_take, if_pos (by omega)]; exact hy)
      refine ⟨b, ?_, hoth b _ hu⟩
      rw [cell_of_row _ B (0 + i) _ 28 (0, 0) hB, Nat.zero_add] at hc
      rw [cell_of_row _ B (0 + i) _ 28 (0, 0) hrow, Nat.zero_add, Array.getElem?_setIfInBounds_ne (by omega)]
      exact hc
  · cases hy

set_option maxHeartbeats 400000 in
theorem urls_any (sc : ByteArray) (A : List ByteArray) (ao : Option Addr) (n c : Nat) (w : World) (hn : Hid (A.length = n)) (hS : Strs w ao A) (hn' : n ≤ 1048576) :
    Calls Tryd.prog 7 #[.string sc, .slice ao n c] w fun e w' => e = .returned (.slice (some ⟨w.heap.size, 0, none⟩) n n) ∧ Urls w' w.heap.size 0 sc A ∧ Below w.heap.size w w' := by
  have hmk := make_urls n hn'
  have HS : Hid (Strs w ao A) := hS
  clear hS
  go_enter Tryd.func7, Tryd.ntmps7
  go_wp2
  clear hmk
  go_loopw [6] (fun i wr => ∃ k : Nat, k ≤ n ∧ i = .int .i64 k ∧ (∃ cu, wr.heap[w.heap.size]? = some (.cells cu 28 (0, 0)) ∧ cu.size = n) ∧ Urls wr w.heap.size 0 sc (A.take k) ∧ Below w.heap.size w wr) (fun i _ => n - (intOf i).toNat)
  case atStart => exact ⟨0, Nat.zero_le _, rfl, ⟨nilRow n, heap_alloc_new w _, nilRow_size n⟩, fun i x h => by simp at h, (Below.refl _ w).alloc (Nat.le_refl _) _⟩
  case round =>
    obtain ⟨k, hk, rfl, ⟨cu, hrow, hcu⟩, hU, hb⟩ := hrel
    have HU : Hid (Urls wr w.heap.size 0 sc (A.take k)) := hU
    have HR : Hid (wr.heap[w.heap.size]? = some (.cells cu 28 (0, 0))) := hrow
    have hsz : w.heap.size < wr.heap.size := (Array.getElem?_eq_some_iff.1 hrow).1
    clear hU hrow
    by_cases hlt : k < n
    · obtain ⟨x, hx⟩ : ∃ x, A[k]? = some x := ⟨_, List.getElem?_eq_getElem (by rw [hn.out]; exact hlt)⟩
      obtain ⟨b, off, rfl, hc⟩ := (HS.out.kept hb) k x hx
      have HX : Hid (A[k]? = some x) := hx
      clear hx
      go_wp2_with fail
      refine (new_any sc x wr).mono ?_
      rintro e w1 ⟨rfl, hu1, hb1, hz1⟩
      have HR1 : Hid (w1.heap[w.heap.size]? = some (.cells cu 28 (0, 0))) := (hb1.block _ hsz).trans HR.out
      obtain ⟨v, hv⟩ := cell_ex HR1.out k (by omega)
      have hf : w1.frozen? ⟨w.heap.size, k, none⟩ = false := frozen_of_row w1 w.heap.size k cu 28 HR1.out
      have HP := Urls.put HR1.out hcu hlt (HU.out.kept hb1) HX.out hu1
      have HP1 : Hid (∃ cu', (w1.setCell ⟨w.heap.size, k, none⟩ (.pointer (some ⟨wr.heap.size, 0, none⟩))).heap[w.heap.size]? = some (.cells cu' 28 (0, 0)) ∧ cu'.size = n) := HP.1
      have HP2 : Hid (Urls (w1.setCell ⟨w.heap.size, k, none⟩ (.pointer (some ⟨wr.heap.size, 0, none⟩))) w.heap.size 0 sc (A.take (k + 1))) := HP.2
      have hb2 : Below w.heap.size w w1 := hb.trans (hb1.mono (by omega))
      clear HP hc hu1 hb1 hz1
      go_wp2
      go_roundw
      case rel => exact ⟨k + 1, by omega, by go_num, HP1.out, HP2.out, hb2.setCell (p := ⟨w.heap.size, k, none⟩) (Nat.le_refl _) _⟩
      case measure => simp [intOf]; omega
    · obtain rfl : k = n := by omega
      have hfull : A.take k = A := List.take_of_length_le (by rw [hn.out]; exact Nat.le_refl _)
      have HF : Hid (Urls wr w.heap.size 0 sc A) := by rw [hfull] at HU; exact HU
      clear hfull HU
      go_wp2
      go_ret
      exact ⟨rfl, HF.out, hb⟩
end Go.Proofs.Qxb6616747aDoor
