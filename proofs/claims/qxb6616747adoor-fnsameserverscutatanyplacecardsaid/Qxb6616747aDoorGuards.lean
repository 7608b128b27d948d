/-
  The three guards, walked: each hands back some bool and leaves the world; where it is true, the scheme, the lists and every host are of a size.
-/
import Derived.Test.Qxb6616747aDoorMk
namespace Go.Proofs.Qxb6616747aDoor
open Go.RowKit

theorem Fit.next {A : List ByteArray} {k : Nat} {x : ByteArray} (h : Fit (A.take k)) (hx : A[k]? = some x) (hs : x.size ≤ 1048576) : Fit (A.take (k + 1)) := by
  obtain ⟨hl, rfl⟩ := List.getElem?_eq_some_iff.1 hx
  intro y hy
  rw [List.take_succ_eq_append_getElem hl] at hy
  rcases List.mem_append.1 hy with hy | hy
  · exact h y hy
  · rw [List.mem_singleton.1 hy]
    exact hs
theorem Fit.zero (A : List ByteArray) : Fit (A.take 0) := fun x hx => by simp at hx
theorem Fit.all {A : List ByteArray} {k : Nat} (h : Fit (A.take k)) (hk : A.length = k) : Fit A := by
  rw [List.take_of_length_le (by omega)] at h
  exact h

/-- What a guard's yes says. -/
def Yes (sc : ByteArray) (n m : Nat) (A B : List ByteArray) : Prop := sc.size ≤ 1048576 ∧ n ≤ 1048576 ∧ m ≤ 1048576 ∧ Fit A ∧ Fit B
def YesH (sc : ByteArray) (A B : List ByteArray) : Prop := sc.size ≤ 1048576 ∧ Fit A ∧ Fit B

/-- A guard's end: some bool; where it is true, p. -/
def Guarded (e : Ending) (p : Prop) : Prop := ∃ r : Bool, e = .returned (.bool r) ∧ (r = true → p)
theorem Guarded.no (p : Prop) : Guarded (.returned (.bool false)) p := ⟨false, rfl, fun h => by cases h⟩
theorem Guarded.yes {p : Prop} (h : p) : Guarded (.returned (.bool true)) p := ⟨true, rfl, fun _ => h⟩

set_option maxHeartbeats 2000000 in
theorem bytes1_any (sc : ByteArray) (A B : List ByteArray) (ao ao' : Option Addr) (n c m c' : Nat) (w : World) (hn : Hid (A.length = n)) (hm : Hid (B.length = m)) (hS : Strs w ao A) (hS' : Strs w ao' B)
    (hsc : sc.size ≤ 9223372036854775807) (hA : ∀ x ∈ A, x.size ≤ 9223372036854775807) (hB : ∀ x ∈ B, x.size ≤ 9223372036854775807) (hn' : n ≤ 9223372036854775807) (hm' : m ≤ 9223372036854775807) :
    Calls Tryd.prog 5 #[.string sc, .slice ao n c, .slice ao' m c'] w fun e w' => w' = w ∧ Guarded e (Yes sc n m A B) := by
  have HS : Hid (Strs w ao A) := hS
  have HS' : Hid (Strs w ao' B) := hS'
  clear hS hS'
  by_cases h1 : sc.size ≤ 1048576
  case neg =>
    go_enter Tryd.func5, Tryd.ntmps5
    go_wp2
    go_ret
    exact ⟨rfl, Guarded.no _⟩
  by_cases h2 : n ≤ 1048576
  case neg =>
    go_enter Tryd.func5, Tryd.ntmps5
    go_wp2
    go_ret
    exact ⟨rfl, Guarded.no _⟩
  by_cases h3 : sc.size + n ≤ 1048576
  case neg =>
    go_enter Tryd.func5, Tryd.ntmps5
    go_wp2
    go_ret
    exact ⟨rfl, Guarded.no _⟩
  go_enter Tryd.func5, Tryd.ntmps5
  go_wp2
  go_loop [7, 8] (fun z i => ∃ k t : Nat, k ≤ n ∧ i = .int .i64 k ∧ z = .int .i64 t ∧ t ≤ 1048576 ∧ Fit (A.take k)) (fun _ i => n - (intOf i).toNat)
  case atStart => exact ⟨0, sc.size + n, Nat.zero_le _, rfl, by go_num, by omega, Fit.zero A⟩
  case round =>
    obtain ⟨k, t, hk, rfl, rfl, ht, hf⟩ := hrel
    have HF : Hid (Fit (A.take k)) := hf
    clear hf
    by_cases hlt : k < n
    · obtain ⟨x, hx⟩ : ∃ x, A[k]? = some x := ⟨_, List.getElem?_eq_getElem (by rw [hn.out]; exact hlt)⟩
      obtain ⟨b, off, rfl, hc⟩ := HS.out k x hx
      have hxm := hA x (List.mem_of_getElem? hx)
      have HX : Hid (A[k]? = some x) := hx
      clear hx
      by_cases hx1 : x.size ≤ 1048576
      case neg =>
        go_wp2
        go_ret
        exact ⟨rfl, Guarded.no _⟩
      by_cases hx2 : t + x.size ≤ 1048576
      case neg =>
        go_wp2
        go_ret
        exact ⟨rfl, Guarded.no _⟩
      go_wp2
      go_round
      case rel => exact ⟨k + 1, t + x.size, by omega, by go_num, by go_num, by omega, HF.out.next HX.out hx1⟩
      case measure => simp [intOf]; omega
    · obtain rfl : k = n := by omega
      have HFA : Hid (Fit A) := HF.out.all hn.out
      clear HF
      by_cases h4 : m ≤ 1048576
      case neg =>
        go_wp2
        go_ret
        exact ⟨rfl, Guarded.no _⟩
      by_cases h5 : t + m ≤ 1048576
      case neg =>
        go_wp2
        go_ret
        exact ⟨rfl, Guarded.no _⟩
      go_wp2
      go_loop [7, 9] (fun z i => ∃ l t : Nat, l ≤ m ∧ i = .int .i64 l ∧ z = .int .i64 t ∧ t ≤ 1048576 ∧ Fit (B.take l)) (fun _ i => m - (intOf i).toNat)
      case atStart => exact ⟨0, t + m, Nat.zero_le _, rfl, by go_num, by omega, Fit.zero B⟩
      case round =>
        obtain ⟨l, t, hl, rfl, rfl, ht, hf⟩ := hrel
        have HF : Hid (Fit (B.take l)) := hf
        clear hf
        by_cases hlt : l < m
        · obtain ⟨x, hx⟩ : ∃ x, B[l]? = some x := ⟨_, List.getElem?_eq_getElem (by rw [hm.out]; exact hlt)⟩
          obtain ⟨b, off, rfl, hc⟩ := HS'.out l x hx
          have hxm := hB x (List.mem_of_getElem? hx)
          have HX : Hid (B[l]? = some x) := hx
          clear hx
          by_cases hx1 : x.size ≤ 1048576
          case neg =>
            go_wp2
            go_ret
            exact ⟨rfl, Guarded.no _⟩
          by_cases hx2 : t + x.size ≤ 1048576
          case neg =>
            go_wp2
            go_ret
            exact ⟨rfl, Guarded.no _⟩
          go_wp2
          go_round
          case rel => exact ⟨l + 1, t + x.size, by omega, by go_num, by go_num, by omega, HF.out.next HX.out hx1⟩
          case measure => simp [intOf]; omega
        · obtain rfl : l = m := by omega
          have HFB : Hid (Fit B) := HF.out.all hm.out
          clear HF
          go_wp2
          go_ret
          exact ⟨rfl, Guarded.yes ⟨h1, h2, h4, HFA.out, HFB.out⟩⟩
set_option maxHeartbeats 2000000 in
theorem bytes2_any (sc : ByteArray) (A B : List ByteArray) (ao ao' : Option Addr) (n c m c' : Nat) (q : Int) (w : World) (hn : Hid (A.length = n)) (hm : Hid (B.length = m)) (hS : Strs w ao A) (hS' : Strs w ao' B)
    (hsc : sc.size ≤ 9223372036854775807) (hA : ∀ x ∈ A, x.size ≤ 9223372036854775807) (hB : ∀ x ∈ B, x.size ≤ 9223372036854775807) (hn' : n ≤ 9223372036854775807) (hm' : m ≤ 9223372036854775807) :
    Calls Tryd.prog 9 #[.string sc, .slice ao n c, .slice ao' m c', .int .i64 q] w fun e w' => w' = w ∧ Guarded e (Yes sc n m A B) := by
  have HS : Hid (Strs w ao A) := hS
  have HS' : Hid (Strs w ao' B) := hS'
  clear hS hS'
  by_cases h1 : sc.size ≤ 1048576
  case neg =>
    go_enter Tryd.func9, Tryd.ntmps9
    go_wp2
    go_ret
    exact ⟨rfl, Guarded.no _⟩
  by_cases h2 : n ≤ 1048576
  case neg =>
    go_enter Tryd.func9, Tryd.ntmps9
    go_wp2
    go_ret
    exact ⟨rfl, Guarded.no _⟩
  by_cases h3 : sc.size + n ≤ 1048576
  case neg =>
    go_enter Tryd.func9, Tryd.ntmps9
    go_wp2
    go_ret
    exact ⟨rfl, Guarded.no _⟩
  go_enter Tryd.func9, Tryd.ntmps9
  go_wp2
  go_loop [9, 10] (fun z i => ∃ k t : Nat, k ≤ n ∧ i = .int .i64 k ∧ z = .int .i64 t ∧ t ≤ 1048576 ∧ Fit (A.take k)) (fun _ i => n - (intOf i).toNat)
  case atStart => exact ⟨0, sc.size + n, Nat.zero_le _, rfl, by go_num, by omega, Fit.zero A⟩
  case round =>
    obtain ⟨k, t, hk, rfl, rfl, ht, hf⟩ := hrel
    have HF : Hid (Fit (A.take k)) := hf
    clear hf
    by_cases hlt : k < n
    · obtain ⟨x, hx⟩ : ∃ x, A[k]? = some x := ⟨_, List.getElem?_eq_getElem (by rw [hn.out]; exact hlt)⟩
      obtain ⟨b, off, rfl, hc⟩ := HS.out k x hx
      have hxm := hA x (List.mem_of_getElem? hx)
      have HX : Hid (A[k]? = some x) := hx
      clear hx
      by_cases hx1 : x.size ≤ 1048576
      case neg =>
        go_wp2
        go_ret
        exact ⟨rfl, Guarded.no _⟩
      by_cases hx2 : t + x.size ≤ 1048576
      case neg =>
        go_wp2
        go_ret
        exact ⟨rfl, Guarded.no _⟩
      go_wp2
      go_round
      case rel => exact ⟨k + 1, t + x.size, by omega, by go_num, by go_num, by omega, HF.out.next HX.out hx1⟩
      case measure => simp [intOf]; omega
    · obtain rfl : k = n := by omega
      have HFA : Hid (Fit A) := HF.out.all hn.out
      clear HF
      by_cases h4 : m ≤ 1048576
      case neg =>
        go_wp2
        go_ret
        exact ⟨rfl, Guarded.no _⟩
      by_cases h5 : t + m ≤ 1048576
      case neg =>
        go_wp2
        go_ret
        exact ⟨rfl, Guarded.no _⟩
      go_wp2
      go_loop [9, 11] (fun z i => ∃ l t : Nat, l ≤ m ∧ i = .int .i64 l ∧ z = .int .i64 t ∧ t ≤ 1048576 ∧ Fit (B.take l)) (fun _ i => m - (intOf i).toNat)
      case atStart => exact ⟨0, t + m, Nat.zero_le _, rfl, by go_num, by omega, Fit.zero B⟩
      case round =>
        obtain ⟨l, t, hl, rfl, rfl, ht, hf⟩ := hrel
        have HF : Hid (Fit (B.take l)) := hf
        clear hf
        by_cases hlt : l < m
        · obtain ⟨x, hx⟩ : ∃ x, B[l]? = some x := ⟨_, List.getElem?_eq_getElem (by rw [hm.out]; exact hlt)⟩
          obtain ⟨b, off, rfl, hc⟩ := HS'.out l x hx
          have hxm := hB x (List.mem_of_getElem? hx)
          have HX : Hid (B[l]? = some x) := hx
          clear hx
          by_cases hx1 : x.size ≤ 1048576
          case neg =>
            go_wp2
            go_ret
            exact ⟨rfl, Guarded.no _⟩
          by_cases hx2 : t + x.size ≤ 1048576
          case neg =>
            go_wp2
            go_ret
            exact ⟨rfl, Guarded.no _⟩
          go_wp2
          go_round
          case rel => exact ⟨l + 1, t + x.size, by omega, by go_num, by go_num, by omega, HF.out.next HX.out hx1⟩
          case measure => simp [intOf]; omega
        · obtain rfl : l = m := by omega
          have HFB : Hid (Fit B) := HF.out.all hm.out
          clear HF
          go_wp2
          go_ret
          exact ⟨rfl, Guarded.yes ⟨h1, h2, h4, HFA.out, HFB.out⟩⟩
set_option maxHeartbeats 2000000 in
theorem fit_any (sc : ByteArray) (A B : List ByteArray) (ao ao' : Option Addr) (n c m c' : Nat) (w : World) (hn : Hid (A.length = n)) (hm : Hid (B.length = m)) (hS : Strs w ao A) (hS' : Strs w ao' B)
    (hsc : sc.size ≤ 9223372036854775807) (hA : ∀ x ∈ A, x.size ≤ 9223372036854775807) (hB : ∀ x ∈ B, x.size ≤ 9223372036854775807) (hn' : n ≤ 9223372036854775807) (hm' : m ≤ 9223372036854775807) :
    Calls Tryd.prog 6 #[.string sc, .slice ao n c, .slice ao' m c'] w fun e w' => w' = w ∧ Guarded e (YesH sc A B) := by
  have HS : Hid (Strs w ao A) := hS
  have HS' : Hid (Strs w ao' B) := hS'
  clear hS hS'
  by_cases h1 : sc.size ≤ 1048576
  case neg =>
    go_enter Tryd.func6, Tryd.ntmps6
    go_wp2
    go_ret
    exact ⟨rfl, Guarded.no _⟩
  go_enter Tryd.func6, Tryd.ntmps6
  go_wp2
  go_loop [7, 8] (fun z i => ∃ k t : Nat, k ≤ n ∧ i = .int .i64 k ∧ z = .int .i64 t ∧ t ≤ 1048576 ∧ Fit (A.take k)) (fun _ i => n - (intOf i).toNat)
  case atStart => exact ⟨0, sc.size, Nat.zero_le _, rfl, by go_num, by omega, Fit.zero A⟩
  case round =>
    obtain ⟨k, t, hk, rfl, rfl, ht, hf⟩ := hrel
    have HF : Hid (Fit (A.take k)) := hf
    clear hf
    by_cases hlt : k < n
    · obtain ⟨x, hx⟩ : ∃ x, A[k]? = some x := ⟨_, List.getElem?_eq_getElem (by rw [hn.out]; exact hlt)⟩
      obtain ⟨b, off, rfl, hc⟩ := HS.out k x hx
      have hxm := hA x (List.mem_of_getElem? hx)
      have HX : Hid (A[k]? = some x) := hx
      clear hx
      by_cases hx1 : x.size ≤ 1048576
      case neg =>
        go_wp2
        go_ret
        exact ⟨rfl, Guarded.no _⟩
      by_cases hx2 : t + (8 + x.size) ≤ 1048576
      case neg =>
        go_wp2
        go_ret
        exact ⟨rfl, Guarded.no _⟩
      go_wp2
      go_round
      case rel => exact ⟨k + 1, t + (8 + x.size), by omega, by go_num, by go_num, by omega, HF.out.next HX.out hx1⟩
      case measure => simp [intOf]; omega
    · obtain rfl : k = n := by omega
      have HFA : Hid (Fit A) := HF.out.all hn.out
      clear HF
      go_wp2
      go_loop [7, 9] (fun z i => ∃ l t : Nat, l ≤ m ∧ i = .int .i64 l ∧ z = .int .i64 t ∧ t ≤ 1048576 ∧ Fit (B.take l)) (fun _ i => m - (intOf i).toNat)
      case atStart => exact ⟨0, t, Nat.zero_le _, rfl, by go_num, by omega, Fit.zero B⟩
      case round =>
        obtain ⟨l, t, hl, rfl, rfl, ht, hf⟩ := hrel
        have HF : Hid (Fit (B.take l)) := hf
        clear hf
        by_cases hlt : l < m
        · obtain ⟨x, hx⟩ : ∃ x, B[l]? = some x := ⟨_, List.getElem?_eq_getElem (by rw [hm.out]; exact hlt)⟩
          obtain ⟨b, off, rfl, hc⟩ := HS'.out l x hx
          have hxm := hB x (List.mem_of_getElem? hx)
          have HX : Hid (B[l]? = some x) := hx
          clear hx
          by_cases hx1 : x.size ≤ 1048576
          case neg =>
            go_wp2
            go_ret
            exact ⟨rfl, Guarded.no _⟩
          by_cases hx2 : t + (8 + x.size) ≤ 1048576
          case neg =>
            go_wp2
            go_ret
            exact ⟨rfl, Guarded.no _⟩
          go_wp2
          go_round
          case rel => exact ⟨l + 1, t + (8 + x.size), by omega, by go_num, by go_num, by omega, HF.out.next HX.out hx1⟩
          case measure => simp [intOf]; omega
        · obtain rfl : l = m := by omega
          have HFB : Hid (Fit B) := HF.out.all hm.out
          clear HF
          go_wp2
          go_ret
          exact ⟨rfl, Guarded.yes ⟨h1, HFA.out, HFB.out⟩⟩
end Go.Proofs.Qxb6616747aDoor
