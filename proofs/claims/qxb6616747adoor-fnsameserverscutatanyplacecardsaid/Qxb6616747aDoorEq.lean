/-
  sameServers, through slices.EqualFunc and its closure: of two rows of URLs of one scheme it says whether their hosts are the same, place by place.
-/
import Derived.Test.Qxb6616747aDoorUrl
namespace Go.Proofs.Qxb6616747aDoor
open Go.RowKit

/-- The URLs that a row of pointers leads to. -/
def Urls (w : World) (g o : Nat) (sc : ByteArray) (A : List ByteArray) : Prop :=
  ∀ i x, A[i]? = some x → ∃ b, w.cell? ⟨g, o + i, none⟩ = some (.pointer (some ⟨b, 0, none⟩)) ∧ UrlAt w b sc x

theorem lt_of_cell {w : World} {a : Addr} {v : Value} (h : w.cell? a = some v) : a.block < w.heap.size := by
  rcases Nat.lt_or_ge a.block w.heap.size with h' | h'
  · exact h'
  · simp [World.cell?, Array.getElem?_eq_none h'] at h

theorem Urls.kept {w w' : World} {g o : Nat} {sc : ByteArray} {A : List ByteArray} (h : Urls w g o sc A) (hb : Below w.heap.size w w') : Urls w' g o sc A := by
  intro i x hx
  obtain ⟨b, hc, hu⟩ := h i x hx
  exact ⟨b, (hb.cell (p := ⟨g, o + i, none⟩) (lt_of_cell hc)).trans hc, hu.below hb hu.lt⟩

/-- All hosts are of a size. -/
def Fit (A : List ByteArray) : Prop := ∀ x ∈ A, x.size ≤ 1048576

def lists (A : List ByteArray) : List (List UInt8) := A.map fun x => x.data.toList
def eqH (A B : List ByteArray) : Bool := lists A == lists B

theorem ret_bool {a b : Bool} (h : a = b) : Ending.returned (.bool a) = .returned (.bool b) := by rw [h]

theorem eqH_self (A : List ByteArray) : eqH A A = true := beq_self_eq_true _
theorem eqH_len {A B : List ByteArray} (h : A.length ≠ B.length) : eqH A B = false := by
  unfold eqH
  rw [beq_eq_false_iff_ne]
  intro e
  have := congrArg List.length e
  simp [lists] at this
  exact h this
theorem lists_take (A : List ByteArray) (k : Nat) : lists (A.take k) = (lists A).take k := by simp [lists, List.map_take]
theorem lists_next {A B : List ByteArray} {k : Nat} {x y : ByteArray} (hx : A[k]? = some x) (hy : B[k]? = some y) (h : lists (A.take k) = lists (B.take k)) (e : (x.data.toList == y.data.toList) = true) :
    lists (A.take (k + 1)) = lists (B.take (k + 1)) := by
  have e' : x.data.toList = y.data.toList := by simpa using e
  have hxA : A.take (k + 1) = A.take k ++ [x] := by
    obtain ⟨hl, rfl⟩ := List.getElem?_eq_some_iff.1 hx
    exact List.take_succ_eq_append_getElem hl
  have hyB : B.take (k + 1) = B.take k ++ [y] := by
    obtain ⟨hl, rfl⟩ := List.getElem?_eq_some_iff.1 hy
    exact List.take_succ_eq_append_getElem hl
  rw [hxA, hyB]
  simp only [lists, List.map_append, List.map_cons, List.map_nil] at h ⊢
  rw [h, e']
theorem eqH_part {A B : List ByteArray} {k : Nat} {x y : ByteArray} (hx : A[k]? = some x) (hy : B[k]? = some y) (e : (x.data.toList == y.data.toList) = false) : eqH A B = false := by
  unfold eqH
  rw [beq_eq_false_iff_ne] at e ⊢
  intro h
  have := congrArg (fun l => l[k]?) h
  simp [lists, hx, hy] at this
  exact e (congrArg Array.toList this)
theorem eqH_done {A B : List ByteArray} {k : Nat} (ha : A.length = k) (hb : B.length = k) (h : lists (A.take k) = lists (B.take k)) : eqH A B = true := by
  rw [List.take_of_length_le (by omega), List.take_of_length_le (by omega)] at h
  unfold eqH
  rw [h]
  exact beq_self_eq_true _

set_option maxHeartbeats 400000 in
theorem clos_any (sc x y : ByteArray) (b d : Nat) (w : World) (hx : UrlAt w b sc x) (hy : UrlAt w d sc y) (hT : TabAt w) (h0 : 0 < w.heap.size) (hs : sc.size ≤ 1048576) (hxs : x.size ≤ 1048576) (hys : y.size ≤ 1048576) :
    Calls Tryd.prog 13 #[.pointer (some ⟨b, 0, none⟩), .pointer (some ⟨d, 0, none⟩)] w fun e w' => e = .returned (.bool (x.data.toList == y.data.toList)) ∧ Below w.heap.size w w' := by
  go_enter Tryd.func13, Tryd.ntmps13
  go_wp2_with fail
  refine (string_any sc x b w hx hT h0 hs hxs).mono ?_
  rintro e w1 ⟨rfl, hb1⟩
  have hsz := hb1.size
  go_wp2_with fail
  refine (string_any sc y d w1 (hy.below hb1 hy.lt) (hT.below hb1 h0) (by omega) hs hys).mono ?_
  rintro e w2 ⟨rfl, hb2⟩
  go_wp2
  go_ret
  exact ⟨ret_bool (Pl.urlL_eq _ _ _), hb1.trans (hb2.mono hsz)⟩

set_option maxHeartbeats 400000 in
theorem eqf_any (sc : ByteArray) (A B : List ByteArray) (n m g o c g' o' c' : Nat) (w : World) (hn : Hid (A.length = n)) (hm : Hid (B.length = m)) (hA : Urls w g o sc A) (hB : Urls w g' o' sc B) (hT : TabAt w) (h0 : 0 < w.heap.size)
    (hs : sc.size ≤ 1048576) (fA : Fit A) (fB : Fit B) (hn' : n ≤ 1048576) (hm' : m ≤ 1048576) :
    Calls Tryd.prog 12 #[.slice (some ⟨g, o, none⟩) n c, .slice (some ⟨g', o', none⟩) m c', .func (.func 13) #[] #[]] w fun e w' => e = .returned (.bool (eqH A B)) ∧ Below w.heap.size w w' := by
  by_cases hnm : n = m
  · subst hnm
    have HA : Hid (Urls w g o sc A) := hA
    have HB : Hid (Urls w g' o' sc B) := hB
    have HT : Hid (TabAt w) := hT
    clear hA hB hT
    go_enter Tryd.func12, Tryd.ntmps12
    go_wp2
    go_loopw [17] (fun i wr => ∃ k : Nat, k ≤ n ∧ i = .int .i64 k ∧ lists (A.take k) = lists (B.take k) ∧ Below w.heap.size w wr) (fun i _ => n - (intOf i).toNat)
    case atStart => exact ⟨0, Nat.zero_le _, rfl, rfl, Below.refl _ _⟩
    case round =>
      obtain ⟨k, hk, rfl, hl, hb⟩ := hrel
      have HLk : Hid (lists (A.take k) = lists (B.take k)) := hl
      have hsz := hb.size
      clear hl
      by_cases hlt : k < n
      · obtain ⟨x, hx⟩ : ∃ x, A[k]? = some x := ⟨_, List.getElem?_eq_getElem (by rw [hn.out]; exact hlt)⟩
        obtain ⟨y, hy⟩ : ∃ y, B[k]? = some y := ⟨_, List.getElem?_eq_getElem (by rw [hm.out]; exact hlt)⟩
        obtain ⟨bx, cx, ux⟩ := (HA.out.kept hb) k x hx
        obtain ⟨dy, cy, uy⟩ := (HB.out.kept hb) k y hy
        have fx : x.size ≤ 1048576 := fA x (List.mem_of_getElem? hx)
        have fy : y.size ≤ 1048576 := fB y (List.mem_of_getElem? hy)
        have HX : Hid (A[k]? = some x) := hx
        have HY : Hid (B[k]? = some y) := hy
        have UX : Hid (UrlAt wr bx sc x) := ux
        have UY : Hid (UrlAt wr dy sc y) := uy
        clear hx hy ux uy
        go_wp2_with fail
        refine (clos_any sc x y bx dy wr UX.out UY.out (HT.out.below hb h0) (by omega) hs fx fy).mono ?_
        rintro e w1 ⟨rfl, hb1⟩
        have hb2 : Below w.heap.size w w1 := hb.trans (hb1.mono hsz)
        clear hb1 cx cy
        cases he : (x.data.toList == y.data.toList) with
        | true =>
          have HN : Hid (lists (A.take (k + 1)) = lists (B.take (k + 1))) := lists_next HX.out HY.out HLk.out he
          clear he
          go_wp2
          go_roundw
          case rel => exact ⟨k + 1, by omega, by go_num, HN.out, hb2⟩
          case measure => simp [intOf]; omega
        | false =>
          have HN : Hid (eqH A B = false) := eqH_part HX.out HY.out he
          clear he
          go_wp2
          go_ret
          exact ⟨ret_bool HN.out.symm, hb2⟩
      · obtain rfl : k = n := by omega
        have HN : Hid (eqH A B = true) := eqH_done hn.out hm.out HLk.out
        go_wp2
        go_ret
        exact ⟨ret_bool HN.out.symm, hb⟩
  · have HN : Hid (eqH A B = false) := eqH_len (by rw [hn.out, hm.out]; exact hnm)
    go_enter Tryd.func12, Tryd.ntmps12
    go_wp2
    go_ret
    exact ⟨ret_bool HN.out.symm, Below.refl _ _⟩

set_option maxHeartbeats 400000 in
theorem same_any (sc : ByteArray) (A B : List ByteArray) (n m g o c g' o' c' : Nat) (w : World) (hn : Hid (A.length = n)) (hm : Hid (B.length = m)) (hA : Urls w g o sc A) (hB : Urls w g' o' sc B) (hT : TabAt w) (h0 : 0 < w.heap.size)
    (hs : sc.size ≤ 1048576) (fA : Fit A) (fB : Fit B) (hn' : n ≤ 1048576) (hm' : m ≤ 1048576) :
    Calls Tryd.prog 8 #[.slice (some ⟨g, o, none⟩) n c, .slice (some ⟨g', o', none⟩) m c'] w fun e w' => e = .returned (.bool (eqH A B)) ∧ Below w.heap.size w w' := by
  go_enter Tryd.func8, Tryd.ntmps8
  go_wp2_with (first | (go_at_call 12; refine (eqf_any sc A B n m g o c g' o' c' _ hn hm hA hB hT h0 hs fA fB hn' hm').mono ?_; rintro e w' ⟨rfl, hb⟩) | go_in)
  go_ret
  exact ⟨rfl, hb⟩
end Go.Proofs.Qxb6616747aDoor
