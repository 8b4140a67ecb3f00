/-
  The plain mathematics of the canonical text of an amount: no Go in sight.
-/
import Derived.Test.Qxb6630879aDoorAppend
namespace Go.Proofs.Qxb6630879aDoor
open Go.RowKit

/-- Every sign is a decimal digit. -/
def Digs (l : List Int) : Prop := ∀ d ∈ l, 48 ≤ d ∧ d ≤ 57
/-- The number that a list of digits writes. -/
def val : List Int → Int
  | [] => 0
  | d :: r => (d - 48) * ((10 ^ r.length : Nat) : Int) + val r
def sgn (d : Int) : Int := if d < 0 then -1 else if 0 < d then 1 else 0
def lex : List Int → List Int → Int
  | x :: xs, y :: ys => if x = y then lex xs ys else if x < y then -1 else 1
  | _, _ => 0
def cmpM (X Y : List Int) : Int := if X.length = Y.length then lex X Y else if X.length < Y.length then -1 else 1
/-- The sign at an index. -/
def at_ (l : List Int) (i : Nat) : Int := l.getD i 0

theorem val_snoc (l : List Int) (d : Int) : val (l ++ [d]) = val l * 10 + (d - 48) := by
  induction l with
  | nil => simp [val]
  | cons x r ih =>
    simp only [List.cons_append, val, ih, List.length_append, List.length_cons, List.length_nil]
    have e : ((10 ^ (r.length + (0 + 1)) : Nat) : Int) = ((10 ^ r.length : Nat) : Int) * 10 := by
      rw [Nat.zero_add, Nat.pow_succ]; omega
    rw [e, ← Int.mul_assoc]; omega
theorem val_bound (l : List Int) (h : Digs l) : 0 ≤ val l ∧ val l < ((10 ^ l.length : Nat) : Int) := by
  induction l with
  | nil => simp [val]
  | cons x r ih =>
    obtain ⟨i1, i2⟩ := ih fun d hd => h d (List.mem_cons_of_mem _ hd)
    obtain ⟨x1, x2⟩ := h x (List.mem_cons_self ..)
    have hp : (0 : Int) < ((10 ^ r.length : Nat) : Int) := by have := Nat.pow_pos (n := r.length) (show 0 < 10 by omega); omega
    simp only [val, List.length_cons]
    have e : ((10 ^ (r.length + 1) : Nat) : Int) = 10 * ((10 ^ r.length : Nat) : Int) := by rw [Nat.pow_succ]; omega
    rw [e]
    generalize ((10 ^ r.length : Nat) : Int) = p at *
    have m1 : 0 ≤ (x - 48) * p := Int.mul_nonneg (by omega) (by omega)
    have m2 : (x - 48) * p ≤ 9 * p := Int.mul_le_mul_of_nonneg_right (by omega) (by omega)
    omega
theorem lex_val (X Y : List Int) (hl : X.length = Y.length) (hx : Digs X) (hy : Digs Y) : lex X Y = sgn (val X - val Y) := by
  induction X generalizing Y with
  | nil =>
    cases Y with
    | nil => simp [lex, val, sgn]
    | cons y s => simp at hl
  | cons x r ih =>
    cases Y with
    | nil => simp at hl
    | cons y s =>
      have hl' : r.length = s.length := by simpa using hl
      have hr : Digs r := fun d hd => hx d (List.mem_cons_of_mem _ hd)
      have hs : Digs s := fun d hd => hy d (List.mem_cons_of_mem _ hd)
      have ih' := ih s hl' hr hs
      have b1 := val_bound r hr
      have b2 := val_bound s hs
      rw [← hl'] at b2
      simp only [lex, val, ← hl']
      have hp : (0 : Int) < ((10 ^ r.length : Nat) : Int) := by have := Nat.pow_pos (n := r.length) (show 0 < 10 by omega); omega
      generalize ((10 ^ r.length : Nat) : Int) = p at *
      by_cases e : x = y
      · subst e
        rw [if_pos rfl, ih']
        congr 1; omega
      · rw [if_neg e]
        by_cases l : x < y
        · have m : (x - 48) * p + p ≤ (y - 48) * p := by
            have := Int.mul_le_mul_of_nonneg_right (show x - 48 + 1 ≤ y - 48 by omega) (show 0 ≤ p by omega)
            rw [Int.add_mul] at this; omega
          rw [if_pos l]; unfold sgn; rw [if_pos (by omega)]
        · have m : (y - 48) * p + p ≤ (x - 48) * p := by
            have := Int.mul_le_mul_of_nonneg_right (show y - 48 + 1 ≤ x - 48 by omega) (show 0 ≤ p by omega)
            rw [Int.add_mul] at this; omega
          rw [if_neg l]; unfold sgn; rw [if_neg (by omega), if_pos (by omega)]
theorem lex_append (X Y S S' : List Int) (hl : X.length = Y.length) : lex (X ++ S) (Y ++ S') = if lex X Y = 0 then lex S S' else lex X Y := by
  induction X generalizing Y with
  | nil =>
    cases Y with
    | nil => simp [lex]
    | cons y s => simp at hl
  | cons x r ih =>
    cases Y with
    | nil => simp at hl
    | cons y s =>
      have hl' : r.length = s.length := by simpa using hl
      have a1 : lex (x :: r ++ S) (y :: s ++ S') = if x = y then lex (r ++ S) (s ++ S') else if x < y then -1 else 1 := rfl
      have a2 : lex (x :: r) (y :: s) = if x = y then lex r s else if x < y then -1 else 1 := rfl
      by_cases e : x = y
      · rw [if_pos e] at a1 a2
        rw [a1, a2, ih s hl']
      · rw [if_neg e] at a1 a2
        rw [a1, a2]
        by_cases l : x < y
        · simp [l]
        · simp [l]

theorem dec_small {u : Nat} (h : u < 10) : dec u = [48 + (u : Int)] := by
  unfold dec; rw [Lib.decDigits_one h]
  simp; omega
theorem dec_big {u : Nat} (h : ¬ u < 10) : dec u = dec (u / 10) ++ [48 + ((u % 10 : Nat) : Int)] := by
  have e : Lib.decDigits u = Lib.decDigits (u / 10) ++ [UInt8.ofNat (48 + u % 10)] := by
    rw [Lib.decDigits, dif_neg h]
  unfold dec; rw [e]
  simp; omega
theorem dec_all (u : Nat) : Digs (dec u) ∧ val (dec u) = u ∧ 1 ≤ (dec u).length ∧ (2 ≤ (dec u).length → 49 ≤ at_ (dec u) 0) ∧ (∀ k : Nat, u < 10 ^ (k + 1) → (dec u).length ≤ k + 1) ∧ (1 ≤ u → 10 ^ ((dec u).length - 1) ≤ u) ∧ u < 10 ^ (dec u).length ∧ (1 ≤ u → 49 ≤ at_ (dec u) 0) := by
  induction u using Nat.strongRecOn with
  | _ u ih =>
    by_cases h : u < 10
    · rw [dec_small h]
      refine ⟨?_, by simp [val]; omega, by simp, by simp, by simp, by simp, by simpa using h, ?_⟩
      · intro d hd; simp at hd; omega
      · intro h1; simp [at_]; omega
    · obtain ⟨i1, i2, i3, i4, i5, i6, i7, i8⟩ := ih (u / 10) (by omega)
      rw [dec_big h]
      have hat : at_ (dec (u / 10) ++ [48 + ((u % 10 : Nat) : Int)]) 0 = at_ (dec (u / 10)) 0 := by
        simp only [at_, List.getD]
        rw [List.getElem?_append_left (show 0 < (dec (u / 10)).length by omega)]
      refine ⟨?_, ?_, by simp, ?_, ?_, ?_, ?_, ?_⟩
      · intro d hd
        rcases List.mem_append.1 hd with hd | hd
        · exact i1 d hd
        · simp at hd; omega
      · rw [val_snoc, i2]; omega
      · intro _; rw [hat]; exact i8 (by omega)
      · intro k hk
        cases k with
        | zero => simp at hk; omega
        | succ k =>
          have := i5 k (by rw [Nat.pow_succ] at hk; omega)
          simp; omega
      · intro _
        have := i6 (by omega)
        simp only [List.length_append, List.length_cons, List.length_nil]
        rw [show (dec (u / 10)).length + (0 + 1) - 1 = ((dec (u / 10)).length - 1) + 1 from by omega, Nat.pow_succ]; omega
      · simp only [List.length_append, List.length_cons, List.length_nil]
        rw [show (dec (u / 10)).length + (0 + 1) = (dec (u / 10)).length + 1 from rfl, Nat.pow_succ]; omega
      · intro _; rw [hat]; exact i8 (by omega)
theorem dec_len_lt {u v : Nat} (h : (dec u).length < (dec v).length) : u < v := by
  obtain ⟨_, _, u3, _, u5, u6, u7, _⟩ := dec_all u
  obtain ⟨_, _, v3, _, v5, v6, v7, _⟩ := dec_all v
  have hv : 1 ≤ v := by
    rcases Nat.eq_zero_or_pos v with h0 | h0
    · subst h0; have := v5 0 (by simp); omega
    · exact h0
  have h1 : 10 ^ (dec u).length ≤ 10 ^ ((dec v).length - 1) := Nat.pow_le_pow_right (by omega) (by omega)
  have := v6 hv
  omega

theorem six_digs (f : Int) : Digs (six f) := by
  intro d hd; simp [six] at hd; rcases hd with rfl | rfl | rfl | rfl | rfl | rfl <;> omega
theorem six_val (f : Int) (h0 : 0 ≤ f) (h1 : f ≤ 999999) : val (six f) = f := by
  simp [six, val]; omega

theorem body_cmp (m m' : Int) (h : 0 ≤ m) (h' : 0 ≤ m') : cmpM (body m) (body m') = sgn (m - m') := by
  obtain ⟨d1, v1, _⟩ := dec_all (m / 1000000).toNat
  obtain ⟨d2, v2, _⟩ := dec_all (m' / 1000000).toNat
  have l1 : (body m).length = (dec (m / 1000000).toNat).length + 7 := by simp [body, six]
  have l2 : (body m').length = (dec (m' / 1000000).toNat).length + 7 := by simp [body, six]
  unfold cmpM
  by_cases e : (body m).length = (body m').length
  · rw [if_pos e]
    unfold body
    rw [lex_append _ _ _ _ (by omega)]
    rw [lex_val _ _ (by omega) d1 d2, v1, v2]
    have e3 : lex (46 :: six (m % 1000000)) (46 :: six (m' % 1000000)) = sgn (m % 1000000 - m' % 1000000) := by
      simp only [lex, if_true]
      rw [lex_val _ _ (by simp [six]) (six_digs _) (six_digs _), six_val _ (by omega) (by omega), six_val _ (by omega) (by omega)]
    rw [e3]
    unfold sgn
    split <;> (repeat' split) <;> omega
  · rw [if_neg e]
    by_cases l : (body m).length < (body m').length
    · have := dec_len_lt (show (dec (m / 1000000).toNat).length < (dec (m' / 1000000).toNat).length by omega)
      rw [if_pos l]; unfold sgn; rw [if_pos (by omega)]
    · have := dec_len_lt (show (dec (m' / 1000000).toNat).length < (dec (m / 1000000).toNat).length by omega)
      rw [if_neg l]; unfold sgn; rw [if_neg (by omega), if_pos (by omega)]
end Go.Proofs.Qxb6630879aDoor
