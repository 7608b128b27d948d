/-
  What (*net/url.URL).String comes to, by contracts: EscapedPath, Username, Password, the builder's methods, Cut and Contains at the empty string.
-/
import Derived.Test.Qxb6616747aDoorEsc
import Derived.Test.Qxb6616747aDoorShelf
import Derived.Deep.QuietTactic
import Derived.BigQuiet
import Derived.Lib.Bytealg
namespace Go.Proofs.Qxb6616747aDoor
open Go.RowKit

/-- A URL that has a scheme and a host alone, as its eleven cells. -/
def urlCells (sc h : ByteArray) : Array Value := #[.string sc, .string ⟨#[]⟩, .pointer none, .string h, .string ⟨#[]⟩, .string ⟨#[]⟩, .string ⟨#[]⟩, .string ⟨#[]⟩, .string ⟨#[]⟩, .bool false, .bool false]
def UrlAt (w : World) (b : Nat) (sc h : ByteArray) : Prop := w.heap[b]? = some (.cells (urlCells sc h) 32 (0, 0))

theorem UrlAt.below {B : Nat} {w w' : World} {b : Nat} {sc h : ByteArray} (hu : UrlAt w b sc h) (hb : Below B w w') (hB : b < B) : UrlAt w' b sc h := (hb.block b hB).trans hu
theorem UrlAt.lt {w : World} {b : Nat} {sc h : ByteArray} (hu : UrlAt w b sc h) : b < w.heap.size := (Array.getElem?_eq_some_iff.1 hu).1
theorem UrlAt.cell {w : World} {b : Nat} {sc h : ByteArray} (hu : UrlAt w b sc h) (i : Nat) : w.cell? ⟨b, i, none⟩ = (urlCells sc h)[i]? := cell_of_row w b i _ 32 (0, 0) hu

set_option maxHeartbeats 400000 in
theorem path_any (sc h : ByteArray) (b : Nat) (w : World) (hu : UrlAt w b sc h) :
    Calls Tryd.prog 22 #[.pointer (some ⟨b, 0, none⟩)] w fun e w' => e = .returned (.string ⟨#[]⟩) ∧ Below w.heap.size w w' := by
  have c7 : w.cell? ⟨b, 7, none⟩ = some (.string ⟨#[]⟩) := hu.cell 7
  have c4 : w.cell? ⟨b, 4, none⟩ = some (.string ⟨#[]⟩) := hu.cell 4
  have hlt := hu.lt
  go_enter Tryd.func22, Tryd.ntmps22
  go_wp2_with (go_at_call 21; refine (esc_empty 1 _).mono ?_; rintro e w' ⟨rfl, hb⟩)
  go_ret
  exact ⟨rfl, hb⟩

set_option maxHeartbeats 400000 in
theorem user_nil (w : World) : Calls Tryd.prog 15 #[.pointer none] w fun e w' => e = .returned (.string ⟨#[]⟩) ∧ w' = w := by
  go_enter Tryd.func15, Tryd.ntmps15
  go_wp2
  go_ret
  exact ⟨rfl, rfl⟩
set_option maxHeartbeats 400000 in
theorem pass_nil (w : World) : Calls Tryd.prog 16 #[.pointer none] w fun e w' => e = .returned (.tuple #[.string ⟨#[]⟩, .bool false]) ∧ w' = w := by
  go_enter Tryd.func16, Tryd.ntmps16
  go_wp2
  go_ret2
  exact ⟨rfl, rfl⟩

/-- The builder that this call has laid (its block: the first behind w's) holds the bytes L; all that lay in w lies. -/
def BI (w : World) (L : List UInt8) (wx : World) : Prop := Lib.IsBuilder 39 5 w.heap.size w.heap.size (Lib.byteCells L) wx ∧ Below w.heap.size w wx

theorem BI.lt {w : World} {L : List UInt8} {wx : World} (h : BI w L wx) : w.heap.size < wx.heap.size := by
  rcases h.1 with h | h
  · exact h.lt
  · exact h.lt

theorem builderAt_kept {T e : TypeId} {B b : Nat} {p : Value} {bs : List Value} {wx wy : World} (h : Lib.BuilderAt T e B b p bs wx) (hb : Below wx.heap.size wx wy) : Lib.BuilderAt T e B b p bs wy := by
  have hlt := h.lt
  obtain ⟨hB, v, hv, hown, hne⟩ := h
  exact ⟨hB, v, (hb.block b hlt).trans hv, hown.kept (row := none) ⟨hb.os, hb.tape, hb.output, hb.size, fun k hk _ => hb.block k hk⟩ (by cases hv : v.ownBlock <;> simp), hne⟩

theorem BI.kept {w : World} {L : List UInt8} {wx wy : World} (h : BI w L wx) (hb : Below wx.heap.size wx wy) : BI w L wy :=
  ⟨h.1.elim (fun k => Or.inl (builderAt_kept k hb)) (fun k => Or.inr (builderAt_kept k hb)), h.2.trans (hb.mono (Nat.le_of_lt h.lt))⟩

theorem BI.cells {w : World} {L : List UInt8} {wx : World} (h : BI w L wx) (b : Nat) (hb : b < w.heap.size) : ∀ i, wx.cell? ⟨b, i, none⟩ = w.cell? ⟨b, i, none⟩ := fun i => h.2.cell (p := ⟨b, i, none⟩) hb

theorem grow_any (w : World) (nq : Nat) (x : Int) (h0 : 0 ≤ x) (h1 : x ≤ 16777216) :
    Calls Tryd.prog 17 #[.pointer (some ⟨w.heap.size, 0, none⟩), .int .i64 x] ((w.alloc (.cells #[.pointer none, .slice none 0 0] 39)).drewN nq) fun e w' => e = .returned (.tuple #[]) ∧ BI w [] w' := by
  obtain ⟨n, rfl⟩ : ∃ n : Nat, x = n := ⟨x.toNat, by omega⟩
  refine (Tryd.Builder_Grow_fresh w.heap.size w.heap.size n _ (Nat.le_refl _) ?_ ?_ (by omega)).mono ?_
  · exact heap_alloc_new w _
  · show w.heap.size ≤ (w.alloc (.cells #[.pointer none, .slice none 0 0] 39)).heap.size
    simp
  · rintro e w' ⟨rfl, hB, hb⟩
    exact ⟨rfl, Or.inr hB, (below_drewN ((Below.refl _ w).alloc (Nat.le_refl _) _) nq).trans hb⟩

theorem ws_any (w : World) (L : List UInt8) (s : ByteArray) (wx : World) (h : BI w L wx) (hl : L.length + s.size ≤ 16777216) :
    Calls Tryd.prog 18 #[.pointer (some ⟨w.heap.size, 0, none⟩), .string s] wx fun e w' => e = .returned (.tuple #[.int .i64 s.size, .nilIface]) ∧ BI w (L ++ s.data.toList) w' := by
  refine (Tryd.Builder_WriteString w.heap.size w.heap.size (Lib.byteCells L) s wx h.1 (by rw [Lib.byteCells_length]; omega) (Nat.le_of_lt h.lt)).mono ?_
  rintro e w' ⟨rfl, hB, hb⟩
  refine ⟨rfl, Or.inr ?_, h.2.trans hb⟩
  rw [Lib.byteCells_append]
  exact hB

theorem wb_any (w : World) (L : List UInt8) (c : UInt8) (x : Int) (hx : x = c.toNat) (wx : World) (h : BI w L wx) (hl : L.length + 1 ≤ 16777216) :
    Calls Tryd.prog 19 #[.pointer (some ⟨w.heap.size, 0, none⟩), .int .u8 x] wx fun e w' => e = .returned .nilIface ∧ BI w (L ++ [c]) w' := by
  subst hx
  refine (Tryd.Builder_WriteByte w.heap.size w.heap.size (Lib.byteCells L) c.toNat wx h.1 (by rw [Lib.byteCells_length]; omega) (Nat.le_of_lt h.lt)).mono ?_
  rintro e w' ⟨rfl, hB, hb⟩
  refine ⟨rfl, Or.inr ?_, h.2.trans hb⟩
  rw [Lib.byteCells_append]
  exact hB

theorem len_any (w : World) (L : List UInt8) (wx : World) (h : BI w L wx) :
    Calls Tryd.prog 24 #[.pointer (some ⟨w.heap.size, 0, none⟩)] wx fun e w' => e = .returned (.int .i64 L.length) ∧ w' = wx := by
  have := Tryd.Builder_Len w.heap.size w.heap.size (Lib.byteCells L) wx h.1
  rw [Lib.byteCells_length] at this
  exact this

theorem str_any (w : World) (L : List UInt8) (wx : World) (h : BI w L wx) :
    Calls Tryd.prog 28 #[.pointer (some ⟨w.heap.size, 0, none⟩)] wx fun e w' => e = .returned (.string ⟨L.toArray⟩) ∧ Below w.heap.size w w' := by
  refine (Tryd.Builder_String_any w.heap.size w.heap.size L wx h.1 (Nat.le_of_lt h.lt)).mono ?_
  rintro e w' ⟨rfl, hb⟩
  exact ⟨rfl, h.2.trans hb⟩

theorem index_empty (x : Int) (w : World) : Sem.run Tryd.prog (callFunc 46 #[.string ⟨#[]⟩, .int .u8 x]) w = .ok (.value (.int .i64 (-1))) w := by
  rw [run_callFunc_extern Tryd.func46 (by kernel_rfl) (by kernel_rfl) (by kernel_rfl) (e := Extern.BytealgIndexByte.indexByte) (by kernel_rfl), Lib.run_indexByteString]
  rfl
set_option maxHeartbeats 400000 in
theorem cutlite_empty (w : World) : Calls Tryd.prog 35 #[.string ⟨#[]⟩, .string ⟨#[47]⟩] w fun e w' => e = .returned (.tuple #[.string ⟨#[]⟩, .string ⟨#[]⟩, .bool false]) ∧ w' = w := by
  have hi := fun x => index_empty x w
  go_enter Tryd.func35, Tryd.ntmps35
  go_wp2
  go_ret3
  exact ⟨rfl, rfl⟩
set_option maxHeartbeats 400000 in
theorem cut_empty (w : World) : Calls Tryd.prog 25 #[.string ⟨#[]⟩, .string ⟨#[47]⟩] w fun e w' => e = .returned (.tuple #[.string ⟨#[]⟩, .string ⟨#[]⟩, .bool false]) ∧ w' = w := by
  go_enter Tryd.func25, Tryd.ntmps25
  go_wp2_with (go_at_call 35; refine (cutlite_empty _).mono ?_; rintro e w' ⟨rfl, rfl⟩)
  go_ret3
  exact ⟨rfl, rfl⟩
set_option maxHeartbeats 400000 in
theorem contains_empty (w : World) : Calls Tryd.prog 26 #[.string ⟨#[]⟩, .string ⟨#[58]⟩] w fun e w' => e = .returned (.bool false) ∧ w' = w := by
  have hi := fun x => index_empty x w
  go_enter Tryd.func26, Tryd.ntmps26
  go_wp2
  go_ret
  exact ⟨rfl, rfl⟩
end Go.Proofs.Qxb6616747aDoor
