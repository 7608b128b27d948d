/-
  PLAIN MATHEMATICS, NO GO IN SIGHT: how a host is escaped, byte by byte (the table's bit 4 says 'as it is'); that no two hosts are escaped alike; a URL's text out of scheme and host; that two hosts under one scheme give two texts.
-/
import Derived.WalkKit
namespace Go.Proofs.Qxb6616747aDoor.Pl
open Go

/-- net/url's table, as its initialiser lays it. -/
def tab : List Int := [0, 0, 0, 0, 0, 0, 0, 0, 0, 0, 0, 0, 0, 0, 0, 0, 0, 0, 0, 0, 0, 0, 0, 0, 0, 0, 0, 0, 0, 0, 0, 0, 0, 76, 12, 0, 95, 0, 95, 12, 76, 76, 76, 95, 93, 127, 127, 65, 255, 255, 255, 255, 255, 255, 255, 255, 255, 255, 79, 93, 12, 95, 12, 64, 67, 255, 255, 255, 255, 255, 255, 127, 127, 127, 127, 127, 127, 127, 127, 127, 127, 127, 127, 127, 127, 127, 127, 127, 127, 127, 127, 12, 0, 12, 0, 127, 0, 255, 255, 255, 255, 255, 255, 127, 127, 127, 127, 127, 127, 127, 127, 127, 127, 127, 127, 127, 127, 127, 127, 127, 127, 127, 127, 0, 0, 0, 127, 0, 0, 0, 0, 0, 0, 0, 0, 0, 0, 0, 0, 0, 0, 0, 0, 0, 0, 0, 0, 0, 0, 0, 0, 0, 0, 0, 0, 0, 0, 0, 0, 0, 0, 0, 0, 0, 0, 0, 0, 0, 0, 0, 0, 0, 0, 0, 0, 0, 0, 0, 0, 0, 0, 0, 0, 0, 0, 0, 0, 0, 0, 0, 0, 0, 0, 0, 0, 0, 0, 0, 0, 0, 0, 0, 0, 0, 0, 0, 0, 0, 0, 0, 0, 0, 0, 0, 0, 0, 0, 0, 0, 0, 0, 0, 0, 0, 0, 0, 0, 0, 0, 0, 0, 0, 0, 0, 0, 0, 0, 0, 0, 0, 0, 0, 0, 0, 0, 0, 0, 0, 0, 0, 0, 0, 0, 0, 0, 0]

/-- Is this byte to be escaped in a host? -/
def esc (c : UInt8) : Bool := bits .and .u8 (tab.getD c.toNat 0) 4 == 0

/-- One of sixteen digits. -/
def hex (n : Nat) : UInt8 := [48, 49, 50, 51, 52, 53, 54, 55, 56, 57, 65, 66, 67, 68, 69, 70].getD n 0

def escB (c : UInt8) : List UInt8 := if esc c = true then [37, hex (c.toNat / 16), hex (c.toNat % 16)] else [c]
def escL : List UInt8 → List UInt8
  | [] => []
  | c :: l => escB c ++ escL l
/-- How many bytes are to be escaped. -/
def cnt : List UInt8 → Nat
  | [] => 0
  | c :: l => (if esc c = true then 1 else 0) + cnt l

theorem hex_inj : ∀ a, a < 16 → ∀ b, b < 16 → hex a = hex b → a = b := by decide
theorem esc_pct : esc 37 = true := by decide +kernel

theorem cnt_le (l : List UInt8) : cnt l ≤ l.length := by
  induction l with
  | nil => simp [cnt]
  | cons c l ih => simp only [cnt, List.length_cons]; split <;> omega

theorem cnt_append (a b : List UInt8) : cnt (a ++ b) = cnt a + cnt b := by
  induction a with
  | nil => simp [cnt]
  | cons c l ih => simp only [List.cons_append, cnt, ih]; omega

theorem escL_append (a b : List UInt8) : escL (a ++ b) = escL a ++ escL b := by
  induction a with
  | nil => simp [escL]
  | cons c l ih => simp only [List.cons_append, escL, ih, List.append_assoc]

theorem escL_length (l : List UInt8) : (escL l).length = l.length + 2 * cnt l := by
  induction l with
  | nil => simp [escL, cnt]
  | cons c l ih =>
    simp only [escL, cnt, List.length_append, List.length_cons, ih, escB]
    split <;> simp <;> omega

theorem escL_id (l : List UInt8) (h : cnt l = 0) : escL l = l := by
  induction l with
  | nil => rfl
  | cons c l ih =>
    simp only [cnt] at h
    have hc : ¬ esc c = true := by
      intro hc
      rw [if_pos hc] at h
      omega
    rw [if_neg hc] at h
    simp only [escL, escB, if_neg hc, ih (by omega), List.singleton_append]

theorem escB_inj (c d : UInt8) (r t : List UInt8) (h : escB c ++ r = escB d ++ t) : c = d ∧ r = t := by
  unfold escB at h
  by_cases hc : esc c = true
  · by_cases hd : esc d = true
    · rw [if_pos hc, if_pos hd] at h
      simp only [List.cons_append, List.nil_append, List.cons.injEq, true_and] at h
      obtain ⟨h1, h2, h3⟩ := h
      have lc := c.toNat_lt
      have ld := d.toNat_lt
      have e1 := hex_inj _ (by omega) _ (by omega) h1
      have e2 := hex_inj _ (by omega) _ (by omega) h2
      exact ⟨UInt8.toNat_inj.1 (by omega), h3⟩
    · rw [if_pos hc, if_neg hd] at h
      simp only [List.cons_append, List.nil_append, List.cons.injEq] at h
      rw [← h.1] at hd
      exact absurd esc_pct hd
  · by_cases hd : esc d = true
    · rw [if_neg hc, if_pos hd] at h
      simp only [List.cons_append, List.nil_append, List.cons.injEq] at h
      rw [h.1] at hc
      exact absurd esc_pct hc
    · rw [if_neg hc, if_neg hd] at h
      simp only [List.cons_append, List.nil_append, List.cons.injEq] at h
      exact h

theorem escB_ne (c : UInt8) : escB c ≠ [] := by
  unfold escB
  split <;> simp

theorem escL_inj : ∀ a b : List UInt8, escL a = escL b → a = b
  | [], [], _ => rfl
  | [], d :: b, h => by
    simp only [escL] at h
    exact absurd (List.append_eq_nil_iff.1 h.symm).1 (escB_ne d)
  | c :: a, [], h => by
    simp only [escL] at h
    exact absurd (List.append_eq_nil_iff.1 h).1 (escB_ne c)
  | c :: a, d :: b, h => by
    simp only [escL] at h
    obtain ⟨rfl, h2⟩ := escB_inj c d _ _ h
    rw [escL_inj a b h2]

/-- The text of a URL that has a scheme and a host alone. -/
def urlL (s h : List UInt8) : List UInt8 := (if s = [] then [] else s ++ [58]) ++ (if h = [] then [] else [47, 47] ++ escL h)

theorem urlL_inj (s a b : List UInt8) (h : urlL s a = urlL s b) : a = b := by
  unfold urlL at h
  have h := List.append_cancel_left h
  by_cases ha : a = []
  · by_cases hb : b = []
    · rw [ha, hb]
    · rw [if_pos ha, if_neg hb] at h
      simp at h
  · by_cases hb : b = []
    · rw [if_neg ha, if_pos hb] at h
      simp at h
    · rw [if_neg ha, if_neg hb] at h
      exact escL_inj a b (List.append_cancel_left h)

theorem urlL_eq (s a b : List UInt8) : (urlL s a == urlL s b) = (a == b) := by
  by_cases h : a = b
  · subst h
    rw [beq_self_eq_true, beq_self_eq_true]
  · have : ¬ urlL s a = urlL s b := fun e => h (urlL_inj s a b e)
    rw [beq_eq_false_iff_ne.2 this, beq_eq_false_iff_ne.2 h]

theorem urlL_length (s h : List UInt8) : (urlL s h).length ≤ s.length + 3 * h.length + 3 := by
  unfold urlL
  have e := escL_length h
  have c := cnt_le h
  split <;> split <;> simp <;> omega

theorem urlL_pos (s h : List UInt8) (e : ¬ (s = [] ∧ h = [])) : 0 < (urlL s h).length := by
  unfold urlL
  by_cases hs : s = []
  · have hh : ¬ h = [] := fun k => e ⟨hs, k⟩
    simp [hs, hh]
  · simp [hs]
    omega

end Go.Proofs.Qxb6616747aDoor.Pl
