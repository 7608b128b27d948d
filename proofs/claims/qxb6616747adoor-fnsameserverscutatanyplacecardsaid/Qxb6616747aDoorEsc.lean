/-
  net/url's shouldEscape and escape, walked: 'escape(s, encodeHost)' is 'Pl.escL' of the bytes, whatever s of at most 2^20 bytes; 'escape' of the empty string is the empty string, whatever the mode.
-/
import Derived.Test.Qxb6616747aDoorProg
import Derived.Test.Qxb6616747aDoorPlain
import Derived.WalkKit
import Derived.WalkSpells
import Derived.WalkLawsBesides
import Derived.Deep.DeepCutAuto
namespace Go.Proofs.Qxb6616747aDoor
open Go.RowKit

/-- The table lies in its variable's cells. -/
def TabAt (w : World) : Prop := ∀ c : UInt8, w.cell? ⟨0, c.toNat, none⟩ = some (.int .u8 (Pl.tab.getD c.toNat 0))

theorem TabAt.below {B : Nat} {w w' : World} (h : TabAt w) (hb : Below B w w') (h0 : 0 < B) : TabAt w' :=
  fun c => (hb.cell (p := ⟨0, c.toNat, none⟩) h0).trans (h c)

/-- The k-th byte of a string. -/
def byteAt (s : ByteArray) (k : Nat) : UInt8 := s.data.toList.getD k 0

theorem take_byte (s : ByteArray) (k : Nat) (h : k < s.size) : s.data.toList.take (k + 1) = s.data.toList.take k ++ [byteAt s k] := by
  have h' : k < s.data.toList.length := by simpa using h
  rw [List.take_succ_eq_append_getElem h']
  simp [byteAt, List.getD, List.getElem?_eq_getElem h']

/-- '[]byte(s)': a new block that holds the bytes; all that lay lies. -/
theorem conv_ex (s : ByteArray) (W : World) : ∃ cap w1, Sem.run Tryd.prog (convert 9 37 (.string s)) W = .ok (.slice (some ⟨W.heap.size, 0, none⟩) s.size cap) w1 ∧
    (∀ k, k < s.size → w1.cell? ⟨W.heap.size, k, none⟩ = some (.int .u8 (byteAt s k).toNat)) ∧ Below W.heap.size W w1 ∧ w1.heap.size = W.heap.size + 1 := by
  refine ⟨_, _, run_bytes_of_string (P := Tryd.prog) W 9 37 5 s Tryd.underlying9 Tryd.underlying37 Tryd.underlying5, ?_, ?_, ?_⟩
  · intro k hk
    have hk' : k < s.data.size := hk
    have h1 := World.cell?_alloc_mark W.drew (bytesRow s (grownCap W s.size 0 5)) 5 ((bytesRow s (grownCap W s.size 0 5)).size, (bytesRow s (grownCap W s.size 0 5)).size + 1) k
    have h2 := bytesRow_at s (grownCap W s.size 0 5) k hk'
    refine h1.trans (h2.trans ?_)
    have e : byteAt s k = s.data[k] := by simp [byteAt, List.getD, Array.getElem?_eq_getElem hk']
    rw [e]
  · exact ((Below.refl _ W).drew).alloc (Nat.le_refl _) _
  · simp

theorem Tryd.infoByte : (Tryd.prog.info? 5).map (fun i => (i.zero, i.size, i.bytes)) = some (some (.int .u8 0), 1, 1) := by kernel_rfl

/-- A row of so many zero bytes. -/
def zeroRow (m : Nat) : Array Value := madeCells (Value.int .u8 0).cells (m * 1)
theorem zeroRow_size (m : Nat) : (zeroRow m).size = m := by unfold zeroRow; rw [size_madeCells]; omega

theorem make_run (m : Nat) (x : Int) (hx : x = m) (hm : m ≤ 4194304) (W : World) :
    Sem.run Tryd.prog (Instr.makeSlice 37 (.int .i64 x) (.int .i64 x)) W = .ok (.slice (some ⟨W.heap.size, 0, none⟩) m m) (W.alloc (.cells (zeroRow m) 5)) := by
  subst hx
  obtain ⟨i0, hi, hz0, hz1, hz2⟩ := info_parts Tryd.infoByte
  have hr := run_make (P := Tryd.prog) W 37 5 i0 (.int .u8 0) Tryd.underlying37 hi hz0 .i64 .i64 m m (by omega) (Int.le_refl _) (by rw [hz2]; omega) (by omega)
  simp only [Int.toNat_natCast, hz1] at hr
  exact hr

theorem slice_run (m : Nat) (x : Int) (hx : x = m) (hm : m ≤ 64) (a : Addr) (W : World) :
    Sem.run Tryd.prog (Instr.sliceAt 57 (.pointer (some a)) none (some (.int .i64 x)) none) W = .ok (.slice (some a) m 64) W := by
  subst hx
  have e64 : Tryd.prog.arrayLen 57 = 64 := by kernel_rfl
  have he : Tryd.prog.elem 57 = 5 := by kernel_rfl
  have hu : Tryd.prog.underlying 57 = some (.array (Tryd.prog.arrayLen 57) (Tryd.prog.elem 57)) := by kernel_rfl
  have h := run_sliceAt_array_h (P := Tryd.prog) W 57 a hu .i64 (m : Int) (by omega) (by rw [e64]; omega)
  have hadd : a.add 0 = a := by unfold Addr.add; split <;> simp_all
  rw [h, e64, he, Tryd.sizeOf5]
  simp [Result.andThen, slicedAt, hadd]

/-- Bytes as cells. -/
def bcells (l : List UInt8) : List Value := l.map fun b => Value.int .u8 b.toNat

theorem esc_room (s : ByteArray) (k : Nat) (h : k < s.size) : (Pl.escL (s.data.toList.take k)).length + (Pl.escB (byteAt s k)).length ≤ (Pl.escL s.data.toList).length := by
  have e : s.data.toList = s.data.toList.take (k + 1) ++ s.data.toList.drop (k + 1) := (List.take_append_drop _ _).symm
  rw [e, Pl.escL_append, ← e, take_byte s k h, Pl.escL_append]
  simp [Pl.escL]

theorem cell_ex {w : World} {g : Nat} {cu : Array Value} {T : TypeId} (h : w.heap[g]? = some (.cells cu T (0, 0))) (i : Nat) (hi : i < cu.size) : ∃ v, w.cell? ⟨g, i, none⟩ = some v :=
  ⟨cu[i], by rw [cell_of_row w g i cu T (0, 0) h, Array.getElem?_eq_getElem hi]⟩

/-- The row g holds the bytes L at its head and has room for m; every other block is as in w2; below B all is as in w0. -/
def Out (g T : Nat) (w2 : World) (B : Nat) (w0 : World) (m : Nat) (L : List UInt8) (wr : World) : Prop :=
  ∃ cu, wr.heap[g]? = some (.cells cu T (0, 0)) ∧ m ≤ cu.size ∧ cu.toList.take L.length = bcells L ∧ (∀ b, b ≠ g → wr.heap[b]? = w2.heap[b]?) ∧ Below B w0 wr

theorem Out.put {g T : Nat} {w2 : World} {B : Nat} {w0 : World} {m : Nat} {L : List UInt8} {wr : World} (h : Out g T w2 B w0 m L wr) (hB : B ≤ g) (b : UInt8) (hm : L.length < m) (p : Nat) (v : Value) (hp : p = L.length) (hv : v = .int .u8 b.toNat) :
    Out g T w2 B w0 m (L ++ [b]) (wr.setCell ⟨g, p, none⟩ v) := by
  obtain ⟨cu, hg, hc, ht, ho, hb⟩ := h
  subst hp hv
  refine ⟨cu.setIfInBounds L.length (.int .u8 b.toNat), heap_setCell_same wr g L.length cu T _ hg, by simpa using hc, ?_, ?_, hb.setCell (p := ⟨g, L.length, none⟩) hB _⟩
  · have hl : L.length < cu.toList.length := by simp; omega
    rw [Array.toList_setIfInBounds, List.length_append, List.length_singleton, List.take_succ_eq_append_getElem (by simpa using hl), List.take_set, ht, List.getElem_set_self]
    rw [List.set_eq_of_length_le (by simp [bcells])]
    simp [bcells]
  · intro k hk
    exact (heap_setCell_other wr ⟨g, L.length, none⟩ k _ (fun e => hk e)).trans (ho k hk)

theorem Out.text {g T : Nat} {w2 : World} {B : Nat} {w0 : World} {m : Nat} {L : List UInt8} {wr : World} (h : Out g T w2 B w0 m L wr) (n cap : Nat) (hn : L.length = n) :
    Sem.run Tryd.prog (convert 37 9 (.slice (some ⟨g, 0, none⟩) n cap)) wr = .ok (.string ⟨L.toArray⟩) wr := by
  subst hn
  obtain ⟨cu, hg, hc, ht, ho, hb⟩ := h
  refine run_convert_bytes_back wr 37 9 5 ⟨g, 0, none⟩ cap L Tryd.underlying37 Tryd.underlying5 Tryd.underlying9 fun j hj => ?_
  have ha : (⟨g, 0, none⟩ : Addr).add j = ⟨g, j, none⟩ := by unfold Addr.add; split <;> simp_all
  rw [ha, cell_of_row wr g j cu T (0, 0) hg]
  have h1 : (cu.toList.take L.length)[j]? = some (Value.int .u8 (L[j].toNat : Int)) := by
    rw [ht]
    simp [bcells, hj]
  rw [List.getElem?_take, if_pos hj] at h1
  simpa using h1

theorem hexAt (i : Nat) (h : i < (⟨#[48, 49, 50, 51, 52, 53, 54, 55, 56, 57, 65, 66, 67, 68, 69, 70]⟩ : ByteArray).size) : (⟨#[48, 49, 50, 51, 52, 53, 54, 55, 56, 57, 65, 66, 67, 68, 69, 70]⟩ : ByteArray)[i]'h = Pl.hex i := by
  have h16 : i < 16 := h
  have all : ∀ i : Fin 16, (⟨#[48, 49, 50, 51, 52, 53, 54, 55, 56, 57, 65, 66, 67, 68, 69, 70]⟩ : ByteArray)[i.val]'(i.isLt) = Pl.hex i.val := by decide
  exact all ⟨i, h16⟩

theorem escL_next_t (s : ByteArray) (k : Nat) (h : k < s.size) (he : Pl.esc (byteAt s k) = true) :
    Pl.escL (s.data.toList.take (k + 1)) = Pl.escL (s.data.toList.take k) ++ [37] ++ [Pl.hex ((byteAt s k).toNat / 16)] ++ [Pl.hex ((byteAt s k).toNat % 16)] := by
  rw [take_byte s k h, Pl.escL_append]; simp [Pl.escL, Pl.escB, he]
theorem escL_next_f (s : ByteArray) (k : Nat) (h : k < s.size) (he : Pl.esc (byteAt s k) = false) :
    Pl.escL (s.data.toList.take (k + 1)) = Pl.escL (s.data.toList.take k) ++ [byteAt s k] := by
  rw [take_byte s k h, Pl.escL_append]; simp [Pl.escL, Pl.escB, he]
theorem room_t (s : ByteArray) (k : Nat) (h : k < s.size) (he : Pl.esc (byteAt s k) = true) : (Pl.escL (s.data.toList.take k)).length + 3 ≤ (Pl.escL s.data.toList).length := by
  have := esc_room s k h; simpa [Pl.escB, he] using this
theorem room_f (s : ByteArray) (k : Nat) (h : k < s.size) (he : Pl.esc (byteAt s k) = false) : (Pl.escL (s.data.toList.take k)).length + 1 ≤ (Pl.escL s.data.toList).length := by
  have := esc_room s k h; simpa [Pl.escB, he] using this

set_option maxHeartbeats 400000 in
theorem should_any (c : UInt8) (w : World) (hT : TabAt w) :
    Calls Tryd.prog 31 #[.int .u8 c.toNat, .int .u8 4] w fun e w' => e = .returned (.bool (Pl.esc c)) ∧ w' = w := by
  have h := hT c
  generalize hx : Pl.tab.getD c.toNat 0 = x at h
  have H : Hid (Pl.esc c = (bits .and .u8 x 4 == 0)) := by show Pl.esc c = _; rw [← hx]; rfl
  clear hx
  have h1 : c.toNat < 256 := c.toNat_lt
  go_enter Tryd.func31, Tryd.ntmps31
  go_wp2
  go_ret
  rw [H.out]
  exact ⟨rfl, rfl⟩

theorem should_32 (w : World) (hT : TabAt w) :
    Calls Tryd.prog 31 #[.int .u8 32, .int .u8 4] w fun e w' => e = .returned (.bool true) ∧ w' = w := by
  have h := should_any 32 w hT
  have e : Pl.esc 32 = true := by decide +kernel
  rw [e] at h
  exact h

theorem cnt_byte_t (s : ByteArray) (k : Nat) (h : k < s.size) (he : Pl.esc (byteAt s k) = true) : Pl.cnt (s.data.toList.take (k + 1)) = Pl.cnt (s.data.toList.take k) + 1 := by
  rw [take_byte s k h, Pl.cnt_append]; simp [Pl.cnt, he]
theorem cnt_byte_f (s : ByteArray) (k : Nat) (h : k < s.size) (he : Pl.esc (byteAt s k) = false) : Pl.cnt (s.data.toList.take (k + 1)) = Pl.cnt (s.data.toList.take k) := by
  rw [take_byte s k h, Pl.cnt_append]; simp [Pl.cnt, he]

set_option maxHeartbeats 2000000 in
set_option maxRecDepth 100000 in
theorem esc_any (s : ByteArray) (w : World) (hs : s.size ≤ 1048576) (hT : TabAt w) (h0 : 0 < w.heap.size) :
    Calls Tryd.prog 21 #[.string s, .int .u8 4] w fun e w' => e = .returned (.string ⟨(Pl.escL s.data.toList).toArray⟩) ∧ Below w.heap.size w w' := by
  obtain ⟨cap, w1, hconv, hc1, hb1, hz1⟩ := conv_ex s w
  have hT1 := hT.below hb1 h0
  have HC : Hid (∀ k, k < s.size → w1.cell? ⟨w.heap.size, k, none⟩ = some (.int .u8 (byteAt s k).toNat)) := hc1
  clear hc1
  have HT1 : Hid (TabAt w1) := hT1
  clear hT1
  go_enter Tryd.func21, Tryd.ntmps21
  go_wp2
  clear hconv
  go_loop [5, 6, 19] (fun sp h i => ∃ k : Nat, k ≤ s.size ∧ i = .int .i64 k ∧ sp = .int .i64 0 ∧ h = .int .i64 (Pl.cnt (s.data.toList.take k))) (fun _ _ i => s.size - (intOf i).toNat)
  case atStart => exact ⟨0, Nat.zero_le _, rfl, rfl, rfl⟩
  case round =>
    obtain ⟨k, hk, rfl, rfl, rfl⟩ := hrel
    have hcl := Pl.cnt_le (s.data.toList.take k)
    have hl : (s.data.toList.take k).length ≤ k := List.length_take_le _ _
    by_cases hlt : k < s.size
    · have hcell := HC.out k hlt
      have HS1 : Hid (Pl.esc (byteAt s k) = true → Pl.cnt (s.data.toList.take (k + 1)) = Pl.cnt (s.data.toList.take k) + 1) := cnt_byte_t s k hlt
      have HS2 : Hid (Pl.esc (byteAt s k) = false → Pl.cnt (s.data.toList.take (k + 1)) = Pl.cnt (s.data.toList.take k)) := cnt_byte_f s k hlt
      generalize byteAt s k = c at hcell HS1 HS2
      generalize Pl.cnt (s.data.toList.take k) = n at hcl HS1 HS2 ⊢
      by_cases he : Pl.esc c = true
      · go_wp2_with (go_at_call 31; refine (should_any c _ HT1.out).mono ?_; rintro e w' ⟨rfl, rfl⟩)
        all_goals
          go_round
          case rel => exact ⟨k + 1, by omega, by go_num, rfl, by rw [HS1.out he]; go_num⟩
          case measure => simp [intOf]; omega
      · have he' : Pl.esc c = false := by simpa using he
        clear he
        go_wp2_with (go_at_call 31; refine (should_any c _ HT1.out).mono ?_; rintro e w' ⟨rfl, rfl⟩)
        go_round
        case rel => exact ⟨k + 1, by omega, by go_num, rfl, by rw [HS2.out he']⟩
        case measure => simp [intOf]; omega
    · obtain rfl : k = s.size := by omega
      clear hlt hl
      have hfull : s.data.toList.take s.size = s.data.toList := List.take_of_length_le (by simp)
      rw [hfull] at hcl
      simp only [hfull]
      clear hfull
      have HL : Hid ((Pl.escL s.data.toList).length = s.size + 2 * Pl.cnt s.data.toList) := by show _ = _; rw [Pl.escL_length]; simp
      have HI : Hid (Pl.cnt s.data.toList = 0 → Pl.escL s.data.toList = s.data.toList) := Pl.escL_id _
      have hcs : Pl.cnt s.data.toList ≤ s.size := by simpa using Pl.cnt_le s.data.toList
      clear hcl
      generalize Pl.cnt s.data.toList = n at hcs HL HI ⊢
      by_cases hn : n = 0
      · subst hn
        have HJ : Hid (Pl.escL s.data.toList = s.data.toList) := HI.out rfl
        clear HI HL
        go_wp2
        go_ret
        rw [HJ.out]
        exact ⟨rfl, hb1⟩
      · have hne : ((n : Int) == 0) = false := by simpa using hn
        have hmk := make_run (s.size + 2 * n) ((s.size : Int) + 2 * (n : Int)) (by omega) (by omega)
        go_upto_if 50 with fail
        go_cut [10] (fun t wx => ∃ g cap' T cur, t = .slice (some ⟨g, 0, none⟩) (s.size + 2 * n) cap' ∧ wx.heap[g]? = some (.cells cur T (0, 0)) ∧ s.size + 2 * n ≤ cur.size ∧ w.heap.size ≤ g ∧ Below w.heap.size w wx)
        case first =>
          have hsl := slice_run (s.size + 2 * n) ((s.size : Int) + 2 * (n : Int)) (by omega)
          by_cases h64 : (s.size : Int) + 2 * (n : Int) ≤ 64
          · have hsl := hsl (by omega)
            go_wp2
            go_meet
            case rel =>
              refine ⟨w.heap.size + 1, 64, 57, _, rfl, by rw [← hz1]; exact heap_alloc_new w1 _, ?_, by omega, hb1.alloc (by omega) _⟩
              simp only [List.size_toArray, List.length_cons, List.length_nil]
              omega
          · clear hsl
            go_wp2
            go_meet
            case rel =>
              refine ⟨w.heap.size + 1 + 1, _, 5, zeroRow (s.size + 2 * n), rfl, ?_, by rw [zeroRow_size]; omega, by omega, (hb1.alloc (by omega) _).alloc (by simp; omega) _⟩
              have hnew := fun (o : Obj) => heap_alloc_new (w1.alloc o) (Obj.cells (zeroRow (s.size + 2 * n)) 5)
              simp only [World.size_alloc, hz1] at hnew
              exact hnew _
        case rest =>
          obtain ⟨g, cap', T, cur, rfl, hg, hcur, hgb, hbc⟩ := hcut
          obtain ⟨cap2, w2, hconv2, hc2, hb2, hz2⟩ := conv_ex s wc
          have hgl : g < wc.heap.size := (Array.getElem?_eq_some_iff.1 hg).1
          have hsz := hbc.size
          have hbw : Below w.heap.size w w2 := hbc.trans (hb2.mono hsz)
          have HT2 : Hid (TabAt w2) := hT.below hbw h0
          have HC2 : Hid (∀ k, k < s.size → w2.cell? ⟨wc.heap.size, k, none⟩ = some (.int .u8 (byteAt s k).toNat)) := hc2
          have HG : Hid (w2.heap[g]? = some (.cells cur T (0, 0))) := (hb2.block g hgl).trans hg
          have HB : Hid (Below w.heap.size w w2) := hbw
          clear hc2 hg hb2 hbw hmk hb1 hz1 HC HT1 HI hz2
          go_wp2
          clear hconv2
          go_loopw [13, 78] (fun j i wr => ∃ k : Nat, k ≤ s.size ∧ i = .int .i64 k ∧ j = .int .i64 (Pl.escL (s.data.toList.take k)).length ∧ Out g T w2 w.heap.size w (s.size + 2 * n) (Pl.escL (s.data.toList.take k)) wr) (fun _ i _ => s.size - (intOf i).toNat)
          case atStart => exact ⟨0, Nat.zero_le _, rfl, rfl, cur, HG.out, hcur, rfl, fun _ _ => rfl, HB.out⟩
          case round =>
            obtain ⟨k, hk', rfl, rfl, hO⟩ := hrel
            obtain ⟨cu, hgr, hcu, htk, hot, hbr⟩ := id hO
            have HT : Hid (TabAt wr) := fun c => (World.cell?_of_block (w := w2) (hot 0 (by omega))).trans (HT2.out c)
            have HO : Hid (Out g T w2 w.heap.size w (s.size + 2 * n) (Pl.escL (s.data.toList.take k)) wr) := hO
            have HGR : Hid (wr.heap[g]? = some (.cells cu T (0, 0))) := hgr
            have hfr : ∀ i, wr.frozen? ⟨g, i, none⟩ = false := fun i => frozen_of_row wr g i cu T hgr
            by_cases hlt : k < s.size
            · have hcell : wr.cell? ⟨wc.heap.size, k, none⟩ = some (.int .u8 (byteAt s k).toNat) := (World.cell?_of_block (w := w2) (hot wc.heap.size (by omega))).trans (HC2.out k hlt)
              clear hgr hot htk hO
              have HRT := room_t s k hlt
              have HRF := room_f s k hlt
              rw [HL.out] at HRT HRF
              have HNT : Hid (Pl.esc (byteAt s k) = true → Pl.escL (s.data.toList.take (k + 1)) = Pl.escL (s.data.toList.take k) ++ [37] ++ [Pl.hex ((byteAt s k).toNat / 16)] ++ [Pl.hex ((byteAt s k).toNat % 16)]) := escL_next_t s k hlt
              have HNF : Hid (Pl.esc (byteAt s k) = false → Pl.escL (s.data.toList.take (k + 1)) = Pl.escL (s.data.toList.take k) ++ [byteAt s k]) := escL_next_f s k hlt
              generalize byteAt s k = c at hcell HRT HRF HNT HNF
              generalize Pl.escL (s.data.toList.take k) = L at HO HRT HRF HNT HNF ⊢
              by_cases he : Pl.esc c = true
              · have hR := HRT he
                have HN : Hid (Pl.escL (s.data.toList.take (k + 1)) = L ++ [37] ++ [Pl.hex (c.toNat / 16)] ++ [Pl.hex (c.toNat % 16)]) := HNT.out he
                clear HRT HRF HNT HNF
                obtain ⟨v0, c0⟩ := cell_ex HGR.out L.length (by omega)
                obtain ⟨v1, c1⟩ := cell_ex HGR.out (L.length + 1) (by omega)
                obtain ⟨v2, c2⟩ := cell_ex HGR.out (L.length + 2) (by omega)
                have cl := c.toNat_lt
                by_cases h32 : c = 32
                · subst h32
                  go_wp2_with (go_at_call 31; refine (should_32 _ HT.out).mono ?_; rintro e w' ⟨rfl, rfl⟩)
                  go_roundw
                  case rel =>
                    refine ⟨k + 1, by omega, by go_num, ?_, ?_⟩
                    · rw [HN.out]; simp
                    · rw [HN.out]
                      exact ((HO.out.put hgb 37 (by omega) _ _ rfl rfl).put hgb _ (by simp; omega) _ _ (by simp) rfl).put hgb _ (by simp; omega) _ _ (by simp) rfl
                  case measure => simp [intOf]; omega
                · have hne32 : ((c.toNat : Int) == 32) = false := by
                    rw [beq_eq_false_iff_ne]
                    intro h
                    exact h32 (UInt8.toNat_inj.1 (by show c.toNat = 32; omega))
                  clear h32
                  go_wp2_with (go_at_call 31; refine (should_any c _ HT.out).mono ?_; rintro e w' ⟨rfl, rfl⟩)
                  go_roundw
                  case rel =>
                    refine ⟨k + 1, by omega, by go_num, ?_, ?_⟩
                    · rw [HN.out]; simp
                    · rw [HN.out]
                      exact ((HO.out.put hgb 37 (by omega) _ _ rfl rfl).put hgb _ (by simp; omega) _ _ (by simp) (by rw [hexAt])).put hgb _ (by simp; omega) _ _ (by simp) (by rw [hexAt])
                  case measure => simp [intOf]; omega
              · have he' : Pl.esc c = false := by simpa using he
                have hR := HRF he'
                have HN : Hid (Pl.escL (s.data.toList.take (k + 1)) = L ++ [c]) := HNF.out he'
                have hne32 : ((c.toNat : Int) == 32) = false := by
                  rw [beq_eq_false_iff_ne]
                  intro h
                  have : c = 32 := UInt8.toNat_inj.1 (by show c.toNat = 32; omega)
                  subst this
                  exact he (by decide +kernel)
                clear HRT HRF HNT HNF he
                obtain ⟨v0, c0⟩ := cell_ex HGR.out L.length (by omega)
                go_wp2_with (go_at_call 31; refine (should_any c _ HT.out).mono ?_; rintro e w' ⟨rfl, rfl⟩)
                go_roundw
                case rel =>
                  refine ⟨k + 1, by omega, by go_num, ?_, ?_⟩
                  · rw [HN.out]; simp
                  · rw [HN.out]
                    exact HO.out.put hgb c (by omega) _ _ rfl rfl
                case measure => simp [intOf]; omega
            · obtain rfl : k = s.size := by omega
              have hfull : s.data.toList.take s.size = s.data.toList := List.take_of_length_le (by simp)
              rw [hfull] at hO
              have hcv := hO.text (s.size + 2 * n) cap' HL.out
              clear hgr hot htk hO HO hfr HT HGR
              simp only [hfull]
              clear hfull
              go_wp2
              go_ret
              exact ⟨rfl, hbr⟩

set_option maxHeartbeats 400000 in
theorem esc_empty (m : Int) (w : World) :
    Calls Tryd.prog 21 #[.string ⟨#[]⟩, .int .u8 m] w fun e w' => e = .returned (.string ⟨#[]⟩) ∧ Below w.heap.size w w' := by
  obtain ⟨cap, w1, hconv, _, hb1, hz1⟩ := conv_ex ⟨#[]⟩ w
  go_enter Tryd.func21, Tryd.ntmps21
  go_wp2
  refine wp_loop_rounds 1 ?_
  rw [rounds_succ]
  go_wp2
  go_ret
  exact ⟨rfl, hb1⟩
end Go.Proofs.Qxb6616747aDoor
