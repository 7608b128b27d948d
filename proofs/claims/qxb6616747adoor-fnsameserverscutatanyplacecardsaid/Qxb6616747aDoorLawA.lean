/-
  FnSameServersIsHostEquality, walked: it returns true, whatever the scheme and the two lists; all that lay in memory lies.
-/
import Derived.Test.Qxb6616747aDoorGuards
namespace Go.Proofs.Qxb6616747aDoor
open Go.RowKit

/-- What the walk of a law asks of its arguments and of memory. -/
structure Come (w : World) (sc : ByteArray) (A B : List ByteArray) (ao ao' : Option Addr) (n m : Nat) : Prop where
  hn : A.length = n
  hm : B.length = m
  hS : Strs w ao A
  hS' : Strs w ao' B
  hsc : sc.size ≤ 9223372036854775807
  hA : ∀ x ∈ A, x.size ≤ 9223372036854775807
  hB : ∀ x ∈ B, x.size ≤ 9223372036854775807
  hn' : n ≤ 9223372036854775807
  hm' : m ≤ 9223372036854775807
  hT : TabAt w
  h0 : 0 < w.heap.size

set_option maxHeartbeats 2000000 in
theorem law1_any (sc : ByteArray) (A B : List ByteArray) (ao ao' : Option Addr) (n c m c' : Nat) (w : World) (h : Come w sc A B ao ao' n m) :
    Calls Tryd.prog 3 #[.string sc, .slice ao n c, .slice ao' m c'] w fun e w' => e = .returned (.bool true) ∧ Below w.heap.size w w' := by
  go_enter Tryd.func3, Tryd.ntmps3
  go_wp2_with fail
  refine (bytes1_any sc A B ao ao' n c m c' w h.hn h.hm h.hS h.hS' h.hsc h.hA h.hB h.hn' h.hm').mono ?_
  rintro e wz ⟨hwz, r, rfl, hr⟩
  obtain rfl : w = wz := hwz.symm
  cases r with
  | false =>
    clear hr
    go_wp2
    go_ret
    exact ⟨rfl, Below.refl _ _⟩
  | true =>
  obtain ⟨s1, n1, m1, fA, fB⟩ := hr rfl
  clear hr hwz
  go_wp2_with fail
  refine (fit_any sc A B ao ao' n c m c' w h.hn h.hm h.hS h.hS' h.hsc h.hA h.hB h.hn' h.hm').mono ?_
  rintro e wz ⟨hwz, r, rfl, hr⟩
  obtain rfl : w = wz := hwz.symm
  clear hwz hr
  cases r with
  | false =>
    go_wp2
    go_ret
    exact ⟨rfl, Below.refl _ _⟩
  | true =>
  go_wp2_with fail
  refine (urls_any sc A ao n c w h.hn h.hS n1).mono ?_
  rintro e w1 ⟨rfl, hU1, hb1⟩
  have z1 := hb1.size
  go_wp2_with fail
  refine (urls_any sc B ao' m c' w1 h.hm (h.hS'.kept hb1) m1).mono ?_
  rintro e w2 ⟨rfl, hU2, hb2⟩
  have z2 := hb2.size
  have hbw : Below w.heap.size w w2 := hb1.trans (hb2.mono z1)
  have HU1 : Hid (Urls w2 w.heap.size 0 sc A) := hU1.kept hb2
  have HU2 : Hid (Urls w2 w1.heap.size 0 sc B) := hU2
  have HT : Hid (TabAt w2) := h.hT.below hbw h.h0
  have HA : Hid (Strs w2 ao A) := h.hS.kept hbw
  have HB : Hid (Strs w2 ao' B) := h.hS'.kept hbw
  have h0 := h.h0
  have HN : Hid (A.length = n) := h.hn
  have HM : Hid (B.length = m) := h.hm
  clear hU1 hU2 h hb1 hb2
  by_cases hnm : n = m
  · subst hnm
    go_wp2
    go_loopw [9, 10] (fun v i wr => v = .bool true ∧ ∃ k : Nat, k ≤ n ∧ i = .int .i64 k ∧ lists (A.take k) = lists (B.take k) ∧ Below w2.heap.size w2 wr) (fun _ i _ => n - (intOf i).toNat)
    case atStart => exact ⟨rfl, 0, Nat.zero_le _, rfl, rfl, Below.refl _ _⟩
    case round =>
      obtain ⟨rfl, k, hk, rfl, hl, hb⟩ := hrel
      have HL : Hid (lists (A.take k) = lists (B.take k)) := hl
      have zr := hb.size
      have HR1 : Hid (Urls wr w.heap.size 0 sc A) := HU1.out.kept hb
      have HR2 : Hid (Urls wr w1.heap.size 0 sc B) := HU2.out.kept hb
      have HTr : Hid (TabAt wr) := HT.out.below hb (by omega)
      have hbr : Below w.heap.size w wr := hbw.trans (hb.mono (by omega))
      clear hl
      by_cases hlt : k < n
      · obtain ⟨x, hx⟩ : ∃ x, A[k]? = some x := ⟨_, List.getElem?_eq_getElem (by rw [HN.out]; exact hlt)⟩
        obtain ⟨y, hy⟩ : ∃ y, B[k]? = some y := ⟨_, List.getElem?_eq_getElem (by rw [HM.out]; exact hlt)⟩
        obtain ⟨bx, ox, rfl, cx⟩ := (HA.out.kept hb) k x hx
        obtain ⟨b', o', rfl, cy⟩ := (HB.out.kept hb) k y hy
        have HX : Hid (A[k]? = some x) := hx
        have HY : Hid (B[k]? = some y) := hy
        clear hx hy
        cases he : (x.toList == y.toList) with
        | true =>
          have HNx : Hid (lists (A.take (k + 1)) = lists (B.take (k + 1))) := lists_next HX.out HY.out HL.out (by rw [ByteArray.toList_eq, ByteArray.toList_eq] at he; exact he)
          go_wp2
          go_quiet (fail)
          go_wp2
          go_roundw
          case rel => exact ⟨rfl, k + 1, by omega, by go_num, HNx.out, below_drewN hb _⟩
          case measure => simp [intOf]; omega
        | false =>
          have HE : Hid (eqH A B = false) := eqH_part HX.out HY.out (by rw [ByteArray.toList_eq, ByteArray.toList_eq] at he; exact he)
          go_wp2
          go_quiet (fail)
          go_wp2_with fail
          have hq : Below wr.heap.size wr (wr.drewN nq) := below_drewN (Below.refl _ wr) nq
          refine (same_any sc A B n n w.heap.size 0 n w1.heap.size 0 n (wr.drewN nq) HN HM (HR1.out.kept hq) (HR2.out.kept hq) (HTr.out.below hq (by omega)) (show 0 < wr.heap.size by omega) s1 fA fB n1 m1).mono ?_
          rintro e w3 ⟨rfl, hb3⟩
          rw [HE.out]
          go_wp2
          go_ret
          have hq3 : Below wr.heap.size wr w3 := hq.trans hb3
          exact ⟨rfl, hbr.trans (hq3.mono (by omega))⟩
      · obtain rfl : k = n := by omega
        have HE : Hid (eqH A B = true) := eqH_done HN.out HM.out HL.out
        go_wp2_with fail
        refine (same_any sc A B k k w.heap.size 0 k w1.heap.size 0 k wr HN HM HR1.out HR2.out HTr.out (by omega) s1 fA fB n1 m1).mono ?_
        rintro e w3 ⟨rfl, hb3⟩
        rw [HE.out]
        go_wp2
        go_ret
        exact ⟨rfl, hbr.trans (hb3.mono (by omega))⟩
  · have HE : Hid (eqH A B = false) := eqH_len (by rw [HN.out, HM.out]; exact hnm)
    go_wp2_with fail
    refine (same_any sc A B n m w.heap.size 0 n w1.heap.size 0 m w2 HN HM HU1.out HU2.out HT.out (by omega) s1 fA fB n1 m1).mono ?_
    rintro e w3 ⟨rfl, hb3⟩
    rw [HE.out]
    go_wp2
    go_ret
    exact ⟨rfl, hbw.trans (hb3.mono (by omega))⟩
end Go.Proofs.Qxb6616747aDoor
