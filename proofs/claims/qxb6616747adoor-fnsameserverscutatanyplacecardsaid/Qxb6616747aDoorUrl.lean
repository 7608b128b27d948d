/-
  (*net/url.URL).String, walked, of a URL that has a scheme and a host alone: its text is Pl.urlL. Four walks: each of the two empty or not.
-/
import Derived.Test.Qxb6616747aDoorStr
namespace Go.Proofs.Qxb6616747aDoor
open Go.RowKit

set_option maxHeartbeats 2000000 in
set_option maxRecDepth 100000 in
theorem string_ff (sc h : ByteArray) (b : Nat) (w : World) (hu : UrlAt w b sc h) (hT : TabAt w) (h0 : 0 < w.heap.size) (hs : sc.size ≤ 1048576) (hh : h.size ≤ 1048576)
    (es : sc.toList.isEmpty = false) (eh : h.toList.isEmpty = false) :
    Calls Tryd.prog 14 #[.pointer (some ⟨b, 0, none⟩)] w fun e w' => e = .returned (.string ⟨(Pl.urlL sc.data.toList h.data.toList).toArray⟩) ∧ Below w.heap.size w w' := by
  have hlt := hu.lt
  have c0 : w.cell? ⟨b, 0, none⟩ = some (.string sc) := hu.cell 0
  have c1 : w.cell? ⟨b, 1, none⟩ = some (.string ⟨#[]⟩) := hu.cell 1
  have c2 : w.cell? ⟨b, 2, none⟩ = some (.pointer none) := hu.cell 2
  have c3 : w.cell? ⟨b, 3, none⟩ = some (.string h) := hu.cell 3
  have c4 : w.cell? ⟨b, 4, none⟩ = some (.string ⟨#[]⟩) := hu.cell 4
  have c5 : w.cell? ⟨b, 5, none⟩ = some (.string ⟨#[]⟩) := hu.cell 5
  have c6 : w.cell? ⟨b, 6, none⟩ = some (.string ⟨#[]⟩) := hu.cell 6
  have c8 : w.cell? ⟨b, 8, none⟩ = some (.string ⟨#[]⟩) := hu.cell 8
  have c9 : w.cell? ⟨b, 9, none⟩ = some (.bool false) := hu.cell 9
  have c10 : w.cell? ⟨b, 10, none⟩ = some (.bool false) := hu.cell 10
  have HU : Hid (UrlAt w b sc h) := hu
  have HT : Hid (TabAt w) := hT
  clear hu hT
  go_enter Tryd.func14, Tryd.ntmps14
  go_wp2_with (first | (go_at_call 15; refine (user_nil _).mono ?_; rintro e w' ⟨rfl, rfl⟩) | (go_at_call 16; refine (pass_nil _).mono ?_; rintro e w' ⟨rfl, rfl⟩))
  go_quiet (fail)
  go_wp2_with fail
  refine (grow_any w nq _ (by omega) (by omega)).mono ?_
  rintro e w3 ⟨rfl, hI3⟩
  have k3 := hI3.cells b hlt
  go_wp2_with fail
  refine (ws_any w _ sc w3 hI3 (by simp; omega)).mono ?_
  rintro e w4 ⟨rfl, hI4⟩
  have k4 := hI4.cells b hlt
  clear k3 hI3
  go_wp2_with fail
  refine (wb_any w _ 58 58 rfl w4 hI4 (by simp; omega)).mono ?_
  rintro e w5 ⟨rfl, hI5⟩
  have k5 := hI5.cells b hlt
  clear k4 hI4
  go_wp2_with fail
  refine (ws_any w _ ⟨#[47, 47]⟩ w5 hI5 (by have h22 : (⟨#[47, 47]⟩ : ByteArray).size = 2 := rfl; simp; omega)).mono ?_
  rintro e w6 ⟨rfl, hI6⟩
  have k6 := hI6.cells b hlt
  clear k5 hI5
  go_wp2_with fail
  refine (esc_any h w6 hh (HT.out.below hI6.2 h0) (by have := hI6.lt; omega)).mono ?_
  rintro e w7 ⟨rfl, hb7⟩
  have hI7 := hI6.kept hb7
  have k7 := hI7.cells b hlt
  clear k6 hI6 hb7
  have hel : (⟨(Pl.escL h.data.toList).toArray⟩ : ByteArray).size ≤ 3145728 := by
    have e1 := Pl.escL_length h.data.toList
    have e2 := Pl.cnt_le h.data.toList
    have e3 : h.data.toList.length = h.size := by simp
    show (Pl.escL h.data.toList).toArray.size ≤ _
    simp only [List.size_toArray]
    omega
  go_wp2_with fail
  refine (ws_any w _ _ w7 hI7 (by simp; omega)).mono ?_
  rintro e w8 ⟨rfl, hI8⟩
  have k8 := hI8.cells b hlt
  clear k7 hI7
  go_wp2_with fail
  refine (path_any sc h b w8 (HU.out.below hI8.2 hlt)).mono ?_
  rintro e w9 ⟨rfl, hb9⟩
  have hI9 := hI8.kept hb9
  have k9 := hI9.cells b hlt
  clear k8 hI8 hb9
  obtain ⟨L, HL, hJ, hll, HE⟩ : ∃ L, Hid (L = Pl.urlL sc.data.toList h.data.toList) ∧ BI w L w9 ∧ L.length ≤ 8388608 ∧ ((L.length : Int) == 0) = false := by
    rw [ByteArray.toList_eq] at es eh
    simp only [List.isEmpty_eq_false_iff] at es eh
    obtain ⟨L, hL, hJ⟩ : ∃ L, L = Pl.urlL sc.data.toList h.data.toList ∧ BI w L w9 := ⟨_, by simp [Pl.urlL, es, eh], hI9⟩
    have e1 := Pl.urlL_length sc.data.toList h.data.toList
    have e2 : sc.data.toList.length = sc.size := by simp
    have e3 : h.data.toList.length = h.size := by simp
    refine ⟨L, hL, hJ, by rw [hL]; omega, ?_⟩
    have e4 := Pl.urlL_pos sc.data.toList h.data.toList (by simp [es, eh])
    rw [← hL] at e4
    rw [beq_eq_false_iff_ne]
    omega
  clear hI9
  go_wp2_with fail
  refine (len_any w L w9 hJ).mono ?_
  rintro e w' ⟨rfl, rfl⟩
  go_wp2_with fail
  refine (ws_any w L ⟨#[]⟩ _ hJ (by have h00 : (⟨#[]⟩ : ByteArray).size = 0 := rfl; omega)).mono ?_
  rintro e wz ⟨rfl, hIz⟩
  have kz := hIz.cells b hlt
  go_wp2_with fail
  refine (str_any w _ wz hIz).mono ?_
  rintro e wf ⟨rfl, hbf⟩
  go_wp2
  go_ret
  rw [← HL.out]
  exact ⟨by simp, hbf⟩
set_option maxHeartbeats 2000000 in
set_option maxRecDepth 100000 in
theorem string_ft (sc h : ByteArray) (b : Nat) (w : World) (hu : UrlAt w b sc h) (hT : TabAt w) (_h0 : 0 < w.heap.size) (hs : sc.size ≤ 1048576) (hh : h.size ≤ 1048576)
    (es : sc.toList.isEmpty = false) (eh : h.toList.isEmpty = true) :
    Calls Tryd.prog 14 #[.pointer (some ⟨b, 0, none⟩)] w fun e w' => e = .returned (.string ⟨(Pl.urlL sc.data.toList h.data.toList).toArray⟩) ∧ Below w.heap.size w w' := by
  have hlt := hu.lt
  have c0 : w.cell? ⟨b, 0, none⟩ = some (.string sc) := hu.cell 0
  have c1 : w.cell? ⟨b, 1, none⟩ = some (.string ⟨#[]⟩) := hu.cell 1
  have c2 : w.cell? ⟨b, 2, none⟩ = some (.pointer none) := hu.cell 2
  have c3 : w.cell? ⟨b, 3, none⟩ = some (.string h) := hu.cell 3
  have c4 : w.cell? ⟨b, 4, none⟩ = some (.string ⟨#[]⟩) := hu.cell 4
  have c5 : w.cell? ⟨b, 5, none⟩ = some (.string ⟨#[]⟩) := hu.cell 5
  have c6 : w.cell? ⟨b, 6, none⟩ = some (.string ⟨#[]⟩) := hu.cell 6
  have c8 : w.cell? ⟨b, 8, none⟩ = some (.string ⟨#[]⟩) := hu.cell 8
  have c9 : w.cell? ⟨b, 9, none⟩ = some (.bool false) := hu.cell 9
  have c10 : w.cell? ⟨b, 10, none⟩ = some (.bool false) := hu.cell 10
  have HU : Hid (UrlAt w b sc h) := hu
  have HT : Hid (TabAt w) := hT
  clear hu hT
  go_enter Tryd.func14, Tryd.ntmps14
  go_wp2_with (first | (go_at_call 15; refine (user_nil _).mono ?_; rintro e w' ⟨rfl, rfl⟩) | (go_at_call 16; refine (pass_nil _).mono ?_; rintro e w' ⟨rfl, rfl⟩))
  go_quiet (fail)
  go_wp2_with fail
  refine (grow_any w nq _ (by omega) (by omega)).mono ?_
  rintro e w3 ⟨rfl, hI3⟩
  have k3 := hI3.cells b hlt
  go_wp2_with fail
  refine (ws_any w _ sc w3 hI3 (by simp; omega)).mono ?_
  rintro e w4 ⟨rfl, hI4⟩
  have k4 := hI4.cells b hlt
  clear k3 hI3
  go_wp2_with fail
  refine (wb_any w _ 58 58 rfl w4 hI4 (by simp; omega)).mono ?_
  rintro e w5 ⟨rfl, hI5⟩
  have k5 := hI5.cells b hlt
  clear k4 hI4
  go_wp2_with fail
  refine (path_any sc h b w5 (HU.out.below hI5.2 hlt)).mono ?_
  rintro e w6 ⟨rfl, hb6⟩
  have hI6 := hI5.kept hb6
  have k6 := hI6.cells b hlt
  clear k5 hI5 hb6
  obtain ⟨L, HL, hJ, hll, HE⟩ : ∃ L, Hid (L = Pl.urlL sc.data.toList h.data.toList) ∧ BI w L w6 ∧ L.length ≤ 8388608 ∧ ((L.length : Int) == 0) = false := by
    rw [ByteArray.toList_eq] at es eh
    simp only [List.isEmpty_iff, List.isEmpty_eq_false_iff] at es eh
    obtain ⟨L, hL, hJ⟩ : ∃ L, L = Pl.urlL sc.data.toList h.data.toList ∧ BI w L w6 := ⟨_, by simp [Pl.urlL, es, eh], hI6⟩
    have e1 := Pl.urlL_length sc.data.toList h.data.toList
    have e2 : sc.data.toList.length = sc.size := by simp
    have e3 : h.data.toList.length = h.size := by simp
    refine ⟨L, hL, hJ, by rw [hL]; omega, ?_⟩
    have e4 := Pl.urlL_pos sc.data.toList h.data.toList (by simp [es, eh])
    rw [← hL] at e4
    rw [beq_eq_false_iff_ne]
    omega
  clear hI6
  go_wp2_with fail
  refine (len_any w L w6 hJ).mono ?_
  rintro e w' ⟨rfl, rfl⟩
  go_wp2_with fail
  refine (ws_any w L ⟨#[]⟩ _ hJ (by have h00 : (⟨#[]⟩ : ByteArray).size = 0 := rfl; omega)).mono ?_
  rintro e wz ⟨rfl, hIz⟩
  have kz := hIz.cells b hlt
  go_wp2_with fail
  refine (str_any w _ wz hIz).mono ?_
  rintro e wf ⟨rfl, hbf⟩
  go_wp2
  go_ret
  rw [← HL.out]
  exact ⟨by simp, hbf⟩
set_option maxHeartbeats 2000000 in
set_option maxRecDepth 100000 in
theorem string_tf (sc h : ByteArray) (b : Nat) (w : World) (hu : UrlAt w b sc h) (hT : TabAt w) (h0 : 0 < w.heap.size) (hs : sc.size ≤ 1048576) (hh : h.size ≤ 1048576)
    (es : sc.toList.isEmpty = true) (eh : h.toList.isEmpty = false) :
    Calls Tryd.prog 14 #[.pointer (some ⟨b, 0, none⟩)] w fun e w' => e = .returned (.string ⟨(Pl.urlL sc.data.toList h.data.toList).toArray⟩) ∧ Below w.heap.size w w' := by
  have hlt := hu.lt
  have c0 : w.cell? ⟨b, 0, none⟩ = some (.string sc) := hu.cell 0
  have c1 : w.cell? ⟨b, 1, none⟩ = some (.string ⟨#[]⟩) := hu.cell 1
  have c2 : w.cell? ⟨b, 2, none⟩ = some (.pointer none) := hu.cell 2
  have c3 : w.cell? ⟨b, 3, none⟩ = some (.string h) := hu.cell 3
  have c4 : w.cell? ⟨b, 4, none⟩ = some (.string ⟨#[]⟩) := hu.cell 4
  have c5 : w.cell? ⟨b, 5, none⟩ = some (.string ⟨#[]⟩) := hu.cell 5
  have c6 : w.cell? ⟨b, 6, none⟩ = some (.string ⟨#[]⟩) := hu.cell 6
  have c8 : w.cell? ⟨b, 8, none⟩ = some (.string ⟨#[]⟩) := hu.cell 8
  have c9 : w.cell? ⟨b, 9, none⟩ = some (.bool false) := hu.cell 9
  have c10 : w.cell? ⟨b, 10, none⟩ = some (.bool false) := hu.cell 10
  have HU : Hid (UrlAt w b sc h) := hu
  have HT : Hid (TabAt w) := hT
  clear hu hT
  go_enter Tryd.func14, Tryd.ntmps14
  go_wp2_with (first | (go_at_call 15; refine (user_nil _).mono ?_; rintro e w' ⟨rfl, rfl⟩) | (go_at_call 16; refine (pass_nil _).mono ?_; rintro e w' ⟨rfl, rfl⟩))
  go_quiet (fail)
  go_wp2_with fail
  refine (grow_any w nq _ (by omega) (by omega)).mono ?_
  rintro e w3 ⟨rfl, hI3⟩
  have k3 := hI3.cells b hlt
  go_wp2_with fail
  refine (ws_any w _ ⟨#[47, 47]⟩ w3 hI3 (by have h22 : (⟨#[47, 47]⟩ : ByteArray).size = 2 := rfl; simp; omega)).mono ?_
  rintro e w4 ⟨rfl, hI4⟩
  have k4 := hI4.cells b hlt
  clear k3 hI3
  go_wp2_with fail
  refine (esc_any h w4 hh (HT.out.below hI4.2 h0) (by have := hI4.lt; omega)).mono ?_
  rintro e w5 ⟨rfl, hb5⟩
  have hI5 := hI4.kept hb5
  have k5 := hI5.cells b hlt
  clear k4 hI4 hb5
  have hel : (⟨(Pl.escL h.data.toList).toArray⟩ : ByteArray).size ≤ 3145728 := by
    have e1 := Pl.escL_length h.data.toList
    have e2 := Pl.cnt_le h.data.toList
    have e3 : h.data.toList.length = h.size := by simp
    show (Pl.escL h.data.toList).toArray.size ≤ _
    simp only [List.size_toArray]
    omega
  go_wp2_with fail
  refine (ws_any w _ _ w5 hI5 (by simp; omega)).mono ?_
  rintro e w6 ⟨rfl, hI6⟩
  have k6 := hI6.cells b hlt
  clear k5 hI5
  go_wp2_with fail
  refine (path_any sc h b w6 (HU.out.below hI6.2 hlt)).mono ?_
  rintro e w7 ⟨rfl, hb7⟩
  have hI7 := hI6.kept hb7
  have k7 := hI7.cells b hlt
  clear k6 hI6 hb7
  obtain ⟨L, HL, hJ, hll, HE⟩ : ∃ L, Hid (L = Pl.urlL sc.data.toList h.data.toList) ∧ BI w L w7 ∧ L.length ≤ 8388608 ∧ ((L.length : Int) == 0) = false := by
    rw [ByteArray.toList_eq] at es eh
    simp only [List.isEmpty_iff, List.isEmpty_eq_false_iff] at es eh
    obtain ⟨L, hL, hJ⟩ : ∃ L, L = Pl.urlL sc.data.toList h.data.toList ∧ BI w L w7 := ⟨_, by simp [Pl.urlL, es, eh], hI7⟩
    have e1 := Pl.urlL_length sc.data.toList h.data.toList
    have e2 : sc.data.toList.length = sc.size := by simp
    have e3 : h.data.toList.length = h.size := by simp
    refine ⟨L, hL, hJ, by rw [hL]; omega, ?_⟩
    have e4 := Pl.urlL_pos sc.data.toList h.data.toList (by simp [es, eh])
    rw [← hL] at e4
    rw [beq_eq_false_iff_ne]
    omega
  clear hI7
  go_wp2_with fail
  refine (len_any w L w7 hJ).mono ?_
  rintro e w' ⟨rfl, rfl⟩
  go_wp2_with fail
  refine (ws_any w L ⟨#[]⟩ _ hJ (by have h00 : (⟨#[]⟩ : ByteArray).size = 0 := rfl; omega)).mono ?_
  rintro e wz ⟨rfl, hIz⟩
  have kz := hIz.cells b hlt
  go_wp2_with fail
  refine (str_any w _ wz hIz).mono ?_
  rintro e wf ⟨rfl, hbf⟩
  go_wp2
  go_ret
  rw [← HL.out]
  exact ⟨by simp, hbf⟩
set_option maxHeartbeats 2000000 in
set_option maxRecDepth 100000 in
theorem string_tt (sc h : ByteArray) (b : Nat) (w : World) (hu : UrlAt w b sc h) (hT : TabAt w) (_h0 : 0 < w.heap.size) (hs : sc.size ≤ 1048576) (hh : h.size ≤ 1048576)
    (es : sc.toList.isEmpty = true) (eh : h.toList.isEmpty = true) :
    Calls Tryd.prog 14 #[.pointer (some ⟨b, 0, none⟩)] w fun e w' => e = .returned (.string ⟨(Pl.urlL sc.data.toList h.data.toList).toArray⟩) ∧ Below w.heap.size w w' := by
  have hlt := hu.lt
  have c0 : w.cell? ⟨b, 0, none⟩ = some (.string sc) := hu.cell 0
  have c1 : w.cell? ⟨b, 1, none⟩ = some (.string ⟨#[]⟩) := hu.cell 1
  have c2 : w.cell? ⟨b, 2, none⟩ = some (.pointer none) := hu.cell 2
  have c3 : w.cell? ⟨b, 3, none⟩ = some (.string h) := hu.cell 3
  have c4 : w.cell? ⟨b, 4, none⟩ = some (.string ⟨#[]⟩) := hu.cell 4
  have c5 : w.cell? ⟨b, 5, none⟩ = some (.string ⟨#[]⟩) := hu.cell 5
  have c6 : w.cell? ⟨b, 6, none⟩ = some (.string ⟨#[]⟩) := hu.cell 6
  have c8 : w.cell? ⟨b, 8, none⟩ = some (.string ⟨#[]⟩) := hu.cell 8
  have c9 : w.cell? ⟨b, 9, none⟩ = some (.bool false) := hu.cell 9
  have c10 : w.cell? ⟨b, 10, none⟩ = some (.bool false) := hu.cell 10
  have HU : Hid (UrlAt w b sc h) := hu
  have HT : Hid (TabAt w) := hT
  clear hu hT
  go_enter Tryd.func14, Tryd.ntmps14
  go_wp2_with (first | (go_at_call 15; refine (user_nil _).mono ?_; rintro e w' ⟨rfl, rfl⟩) | (go_at_call 16; refine (pass_nil _).mono ?_; rintro e w' ⟨rfl, rfl⟩))
  go_quiet (fail)
  go_wp2_with fail
  refine (grow_any w nq _ (by omega) (by omega)).mono ?_
  rintro e w3 ⟨rfl, hI3⟩
  have k3 := hI3.cells b hlt
  go_wp2_with fail
  refine (path_any sc h b w3 (HU.out.below hI3.2 hlt)).mono ?_
  rintro e w4 ⟨rfl, hb4⟩
  have hI4 := hI3.kept hb4
  have k4 := hI4.cells b hlt
  clear k3 hI3 hb4
  obtain ⟨L, HL, hJ, hll, HE⟩ : ∃ L, Hid (L = Pl.urlL sc.data.toList h.data.toList) ∧ BI w L w4 ∧ L.length ≤ 8388608 ∧ ((L.length : Int) == 0) = true := by
    rw [ByteArray.toList_eq] at es eh
    simp only [List.isEmpty_iff] at es eh
    obtain ⟨L, hL, hJ⟩ : ∃ L, L = Pl.urlL sc.data.toList h.data.toList ∧ BI w L w4 := ⟨_, by simp [Pl.urlL, es, eh], hI4⟩
    have e1 := Pl.urlL_length sc.data.toList h.data.toList
    have e2 : sc.data.toList.length = sc.size := by simp
    have e3 : h.data.toList.length = h.size := by simp
    refine ⟨L, hL, hJ, by rw [hL]; omega, ?_⟩
    rw [hL, es, eh]
    rfl
  clear hI4
  go_wp2_with fail
  refine (len_any w L w4 hJ).mono ?_
  rintro e w' ⟨rfl, rfl⟩
  go_wp2_with (first | (go_at_call 25; refine (cut_empty _).mono ?_; rintro e w' ⟨rfl, rfl⟩) | (go_at_call 26; refine (contains_empty _).mono ?_; rintro e w' ⟨rfl, rfl⟩))
  refine (ws_any w L ⟨#[]⟩ _ hJ (by have h00 : (⟨#[]⟩ : ByteArray).size = 0 := rfl; omega)).mono ?_
  rintro e wz ⟨rfl, hIz⟩
  have kz := hIz.cells b hlt
  go_wp2_with fail
  refine (str_any w _ wz hIz).mono ?_
  rintro e wf ⟨rfl, hbf⟩
  go_wp2
  go_ret
  rw [← HL.out]
  exact ⟨by simp, hbf⟩
theorem string_any (sc h : ByteArray) (b : Nat) (w : World) (hu : UrlAt w b sc h) (hT : TabAt w) (h0 : 0 < w.heap.size) (hs : sc.size ≤ 1048576) (hh : h.size ≤ 1048576) :
    Calls Tryd.prog 14 #[.pointer (some ⟨b, 0, none⟩)] w fun e w' => e = .returned (.string ⟨(Pl.urlL sc.data.toList h.data.toList).toArray⟩) ∧ Below w.heap.size w w' := by
  cases es : sc.toList.isEmpty with
  | false =>
    cases eh : h.toList.isEmpty with
    | false => exact string_ff sc h b w hu hT h0 hs hh es eh
    | true => exact string_ft sc h b w hu hT h0 hs hh es eh
  | true =>
    cases eh : h.toList.isEmpty with
    | false => exact string_tf sc h b w hu hT h0 hs hh es eh
    | true => exact string_tt sc h b w hu hT h0 hs hh es eh
end Go.Proofs.Qxb6616747aDoor
