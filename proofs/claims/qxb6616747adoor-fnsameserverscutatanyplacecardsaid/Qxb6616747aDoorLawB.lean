/-
  FnSameServersCutAtAnyPlace, walked: it returns true, whatever the scheme, the two lists and the cut; all that lay in memory lies.
-/
import Derived.Test.Qxb6616747aDoorLawA
import Derived.Deep.RegionWith
namespace Go.Proofs.Qxb6616747aDoor
open Go.RowKit

theorem eqH_cut (A B : List ByteArray) (k : Nat) (ha : k ≤ A.length) (hb : k ≤ B.length) : eqH A B = (eqH (A.take k) (B.take k) && eqH (A.drop k) (B.drop k)) := by
  have h1 : lists A = lists (A.take k) ++ lists (A.drop k) := by unfold lists; rw [← List.map_append, List.take_append_drop]
  have h2 : lists B = lists (B.take k) ++ lists (B.drop k) := by unfold lists; rw [← List.map_append, List.take_append_drop]
  have hl : (lists (A.take k)).length = (lists (B.take k)).length := by simp [lists]; omega
  unfold eqH
  rw [Bool.eq_iff_iff, Bool.and_eq_true, beq_iff_eq, beq_iff_eq, beq_iff_eq]
  constructor
  · intro e
    rw [h1, h2] at e
    exact List.append_inj e hl
  · rintro ⟨e1, e2⟩
    rw [h1, h2, e1, e2]

theorem Urls.front {w : World} {g o : Nat} {sc : ByteArray} {A : List ByteArray} (h : Urls w g o sc A) (k : Nat) : Urls w g o sc (A.take k) := by
  intro i x hx
  rw [List.getElem?_take] at hx
  split at hx
  · exact h i x hx
  · cases hx
theorem Urls.back {w : World} {g : Nat} {sc : ByteArray} {A : List ByteArray} (h : Urls w g 0 sc A) (k : Nat) : Urls w g k sc (A.drop k) := by
  intro i x hx
  rw [List.getElem?_drop] at hx
  have := h (k + i) x hx
  rw [Nat.zero_add] at this
  exact this
theorem Urls.none (w : World) (g o : Nat) (sc : ByteArray) (A : List ByteArray) (h : A.length = 0) : Urls w g o sc A := by
  intro i x hx
  rw [List.eq_nil_of_length_eq_zero h] at hx
  simp at hx
theorem Fit.front {A : List ByteArray} (h : Fit A) (k : Nat) : Fit (A.take k) := fun x hx => h x (List.mem_of_mem_take hx)
theorem Fit.back {A : List ByteArray} (h : Fit A) (k : Nat) : Fit (A.drop k) := fun x hx => h x (List.mem_of_mem_drop hx)

/-- 'u[k:]' of a row of pointers: its cells from k on; where nothing is left its address is of no matter. -/
theorem back_ex (g n k : Nat) (hk : k ≤ n) (sc : ByteArray) (A : List ByteArray) (hn : A.length = n) :
    ∃ o, (∀ W, Sem.run Tryd.prog (Instr.sliceAt 24 (.slice (some ⟨g, 0, none⟩) n n) (some (.int .i64 k)) none none) W = .ok (.slice (some ⟨g, o, none⟩) (n - k) (n - k)) W) ∧ (∀ wx, Urls wx g 0 sc A → Urls wx g o sc (A.drop k)) := by
  have hu : Tryd.prog.underlying 24 = some (.slice (Tryd.prog.elem 24)) := by kernel_rfl
  have he : Tryd.prog.elem 24 = 28 := by kernel_rfl
  have hrun := fun W => run_slice_l (P := Tryd.prog) W 24 (some ⟨g, 0, none⟩) n n hu .i64 (k : Int) (by omega) (by omega)
  by_cases hnk : n = k
  · refine ⟨0, fun W => ?_, fun wx _ => Urls.none wx g 0 sc _ (by simp; omega)⟩
    rw [run_sliceAt_slice W 24 _ _ _ _ hu, hrun W, he, Tryd.sizeOf28]
    subst hnk
    simp [Result.andThen, sliced]
  · refine ⟨k, fun W => ?_, fun wx h => h.back k⟩
    rw [run_sliceAt_slice W 24 _ _ _ _ hu, hrun W, he, Tryd.sizeOf28]
    simp [Result.andThen, sliced, hnk, Addr.add]
    intro hk0
    exact hk0.symm

set_option maxHeartbeats 2000000 in
theorem law2_any (sc : ByteArray) (A B : List ByteArray) (ao ao' : Option Addr) (n c m c' : Nat) (q : Int) (w : World) (h : Come w sc A B ao ao' n m) :
    Calls Tryd.prog 4 #[.string sc, .slice ao n c, .slice ao' m c', .int .i64 q] w fun e w' => e = .returned (.bool true) ∧ Below w.heap.size w w' := by
  go_enter Tryd.func4, Tryd.ntmps4
  go_wp2_with fail
  refine (bytes2_any sc A B ao ao' n c m c' q w h.hn h.hm h.hS h.hS' h.hsc h.hA h.hB h.hn' h.hm').mono ?_
  rintro e wz ⟨hwz, r, rfl, hr⟩
  obtain rfl : w = wz := hwz.symm
  cases r with
  | false =>
    clear hr
    go_wp2
    go_ret
    exact ⟨rfl, Below.refl _ _⟩
  | true =>
  obtain ⟨s1, n1, m1, fA, fB⟩ := hr rfl
  clear hr hwz
  go_wp2_with fail
  refine (fit_any sc A B ao ao' n c m c' w h.hn h.hm h.hS h.hS' h.hsc h.hA h.hB h.hn' h.hm').mono ?_
  rintro e wz ⟨hwz, r, rfl, hr⟩
  obtain rfl : w = wz := hwz.symm
  clear hwz hr
  cases r with
  | false =>
    go_wp2
    go_ret
    exact ⟨rfl, Below.refl _ _⟩
  | true =>
  by_cases hq0 : q < 0
  case pos =>
    go_wp2
    go_ret
    exact ⟨rfl, Below.refl _ _⟩
  by_cases hq1 : (n : Int) < q
  case pos =>
    go_wp2
    go_ret
    exact ⟨rfl, Below.refl _ _⟩
  by_cases hq2 : (m : Int) < q
  case pos =>
    go_wp2
    go_ret
    exact ⟨rfl, Below.refl _ _⟩
  obtain ⟨k, rfl⟩ : ∃ k : Nat, q = k := ⟨q.toNat, by omega⟩
  clear hq0
  have kn : k ≤ n := by omega
  have km : k ≤ m := by omega
  go_wp2_with fail
  refine (urls_any sc A ao n c w h.hn h.hS n1).mono ?_
  rintro e w1 ⟨rfl, hU1, hb1⟩
  have z1 := hb1.size
  go_wp2_with fail
  refine (urls_any sc B ao' m c' w1 h.hm (h.hS'.kept hb1) m1).mono ?_
  rintro e w2 ⟨rfl, hU2, hb2⟩
  have z2 := hb2.size
  have hbw : Below w.heap.size w w2 := hb1.trans (hb2.mono z1)
  have HU1 : Hid (Urls w2 w.heap.size 0 sc A) := hU1.kept hb2
  have HU2 : Hid (Urls w2 w1.heap.size 0 sc B) := hU2
  have HT : Hid (TabAt w2) := h.hT.below hbw h.h0
  have HA : Hid (Strs w2 ao A) := h.hS.kept hbw
  have h0 := h.h0
  have HN : Hid (A.length = n) := h.hn
  have HM : Hid (B.length = m) := h.hm
  clear hU1 hU2 h hb1 hb2
  go_wp2_with fail
  refine (same_any sc A B n m w.heap.size 0 n w1.heap.size 0 m w2 HN HM HU1.out HU2.out HT.out (by omega) s1 fA fB n1 m1).mono ?_
  rintro e w3 ⟨rfl, hb3⟩
  have z3 := hb3.size
  have HV1 : Hid (Urls w3 w.heap.size 0 sc A) := HU1.out.kept hb3
  have HV2 : Hid (Urls w3 w1.heap.size 0 sc B) := HU2.out.kept hb3
  have HT3 : Hid (TabAt w3) := HT.out.below hb3 (by omega)
  have HA3 : Hid (Strs w3 ao A) := HA.out.kept hb3
  have hbw3 : Below w.heap.size w w3 := hbw.trans (hb3.mono (by omega))
  clear HU1 HU2 HT HA hbw hb3
  obtain ⟨oA, rA, uA⟩ := back_ex w.heap.size n k kn sc A HN.out
  obtain ⟨oB, rB, uB⟩ := back_ex w1.heap.size m k km sc B HM.out
  have RA : Hid (∀ W, Sem.run Tryd.prog (Instr.sliceAt 24 (.slice (some ⟨w.heap.size, 0, none⟩) n n) (some (.int .i64 k)) none none) W = .ok (.slice (some ⟨w.heap.size, oA, none⟩) (n - k) (n - k)) W) := rA
  have RB : Hid (∀ W, Sem.run Tryd.prog (Instr.sliceAt 24 (.slice (some ⟨w1.heap.size, 0, none⟩) m m) (some (.int .i64 k)) none none) W = .ok (.slice (some ⟨w1.heap.size, oB, none⟩) (m - k) (m - k)) W) := rB
  clear rA rB
  have UA : Hid (∀ wx, Urls wx w.heap.size 0 sc A → Urls wx w.heap.size oA sc (A.drop k)) := uA
  have UB : Hid (∀ wx, Urls wx w1.heap.size 0 sc B → Urls wx w1.heap.size oB sc (B.drop k)) := uB
  clear uA uB
  have HC : Hid (eqH A B = (eqH (A.take k) (B.take k) && eqH (A.drop k) (B.drop k))) := eqH_cut A B k (by rw [HN.out]; exact kn) (by rw [HM.out]; exact km)
  have HFN : Hid ((A.take k).length = k) := by show _ = _; rw [List.length_take, HN.out]; omega
  have HFM : Hid ((B.take k).length = k) := by show _ = _; rw [List.length_take, HM.out]; omega
  have HDN : Hid ((A.drop k).length = n - k) := by show _ = _; rw [List.length_drop, HN.out]
  have HDM : Hid ((B.drop k).length = m - k) := by show _ = _; rw [List.length_drop, HM.out]
  go_upto_region 10 with fail
  go_cut [12] (fun v wx => v = .bool (eqH (A.take k) (B.take k)) ∧ Below w3.heap.size w3 wx)
  case first =>
    have hq : Below w3.heap.size w3 w3.drew := (Below.refl _ w3).drew
    have hc := same_any sc (A.take k) (B.take k) k k w.heap.size 0 n w1.heap.size 0 m w3.drew HFN HFM ((HV1.out.kept hq).front k) ((HV2.out.kept hq).front k) (HT3.out.below hq (by omega)) (show 0 < w3.heap.size by omega) s1 (fA.front k) (fB.front k) (by omega) (by omega)
    have HQ := hc
    clear hc
    go_region_with (go_at_call 8; refine HQ.mono ?_; rintro e w4 ⟨rfl, hb4⟩)
    go_wp2_with fail
    go_meet
    case rel => exact ⟨rfl, hq.trans hb4⟩
  case rest =>
    obtain ⟨rfl, hb4⟩ := hcut
    obtain ⟨w4, rfl⟩ : ∃ w4, w4 = wc := ⟨wc, rfl⟩
    have z4 := hb4.size
    have HW1 : Hid (Urls w4 w.heap.size 0 sc A) := HV1.out.kept hb4
    have HW2 : Hid (Urls w4 w1.heap.size 0 sc B) := HV2.out.kept hb4
    have HT4 : Hid (TabAt w4) := HT3.out.below hb4 (by omega)
    have HA4 : Hid (Strs w4 ao A) := HA3.out.kept hb4
    have hbw4 : Below w.heap.size w w4 := hbw3.trans (hb4.mono (by omega))
    clear HV1 HV2 HT3 HA3 hbw3 hb4
    go_upto_region 11 with fail
    go_cut [13] (fun v wx => v = .bool (eqH (A.drop k) (B.drop k)) ∧ Below w4.heap.size w4 wx)
    case first =>
      have hq : Below w4.heap.size w4 w4.drew := (Below.refl _ w4).drew
      have HQ := same_any sc (A.drop k) (B.drop k) (n - k) (m - k) w.heap.size oA (n - k) w1.heap.size oB (m - k) w4.drew HDN HDM (UA.out _ (HW1.out.kept hq)) (UB.out _ (HW2.out.kept hq)) (HT4.out.below hq (by omega)) (show 0 < w4.heap.size by omega) s1 (fA.back k) (fB.back k) (by omega) (by omega)
      have rA := RA.out
      have rB := RB.out
      go_region_with (go_at_call 8; refine HQ.mono ?_; rintro e w5 ⟨rfl, hb5⟩)
      go_wp2_with fail
      go_meet
      case rel => exact ⟨rfl, hq.trans hb5⟩
    case rest =>
      obtain ⟨rfl, hb5⟩ := hcut
      obtain ⟨w5, rfl⟩ : ∃ w5, w5 = wc := ⟨wc, rfl⟩
      have z5 := hb5.size
      have HX1 : Hid (Urls w5 w.heap.size 0 sc A) := HW1.out.kept hb5
      have HT5 : Hid (TabAt w5) := HT4.out.below hb5 (by omega)
      have HA5 : Hid (Strs w5 ao A) := HA4.out.kept hb5
      have hbw5 : Below w.heap.size w w5 := hbw4.trans (hb5.mono (by omega))
      clear HW1 HW2 HT4 HA4 hbw4 hb5
      go_wp2_with fail
      refine (urls_any sc A ao n c w5 HN HA5.out n1).mono ?_
      rintro e w6 ⟨rfl, hU6, hb6⟩
      have z6 := hb6.size
      have HX6 : Hid (Urls w6 w.heap.size 0 sc A) := HX1.out.kept hb6
      have HU6 : Hid (Urls w6 w5.heap.size 0 sc A) := hU6
      have HT6 : Hid (TabAt w6) := HT5.out.below hb6 (by omega)
      have hbw6 : Below w.heap.size w w6 := hbw5.trans (hb6.mono (by omega))
      clear hU6 hb6
      go_wp2_with fail
      refine (same_any sc A A n n w.heap.size 0 n w5.heap.size 0 n w6 HN HN HX6.out HU6.out HT6.out (by omega) s1 fA fA n1 n1).mono ?_
      rintro e w7 ⟨rfl, hb7⟩
      have hbw7 : Below w.heap.size w w7 := hbw6.trans (hb7.mono (by omega))
      have HSelf : Hid (eqH A A = true) := eqH_self A
      rw [HSelf.out]
      generalize eqH A B = x at HC ⊢
      generalize eqH (A.take k) (B.take k) = y at HC ⊢
      generalize eqH (A.drop k) (B.drop k) = z at HC ⊢
      have hxyz := HC.out
      clear HC
      subst hxyz
      cases y <;> cases z <;> (go_wp2; go_ret; exact ⟨rfl, hbw7⟩)
end Go.Proofs.Qxb6616747aDoor
