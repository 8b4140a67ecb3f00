/-
  The plain mathematics of the two laws on data sizes: no Go in sight. An extent is (first, count, data).
-/
import Derived.WalkKit
namespace Go.Proofs.Qxb6630822a.M
open Go.RowKit

/-- The bytes of data of one extent, without wraps. -/
def one (e : Int × Int × Bool) : Int := if e.2.2 then e.2.1 * 4096 else 0
/-- The bytes of data of a list of extents, without wraps. -/
def raw : List (Int × Int × Bool) → Int
  | [] => 0
  | e :: r => one e + raw r
/-- The count of all blocks, without wraps. -/
def cnt : List (Int × Int × Bool) → Int
  | [] => 0
  | e :: r => e.2.1 + cnt r
def flip (e : Int × Int × Bool) : Int × Int × Bool := (e.1, e.2.1, !e.2.2)
/-- The extent at an index. -/
def at_ (E : List (Int × Int × Bool)) (i : Nat) : Int × Int × Bool := E.getD i (0, 0, false)

theorem raw_append (a b : List (Int × Int × Bool)) : raw (a ++ b) = raw a + raw b := by
  induction a with
  | nil => simp [raw]
  | cons x r ih => simp [raw, ih]; omega
theorem cnt_append (a b : List (Int × Int × Bool)) : cnt (a ++ b) = cnt a + cnt b := by
  induction a with
  | nil => simp [cnt]
  | cons x r ih => simp [cnt, ih]; omega
theorem take_snoc (E : List (Int × Int × Bool)) (k : Nat) (h : k < E.length) : E.take (k + 1) = E.take k ++ [at_ E k] := by
  rw [List.take_succ_eq_append_getElem h]
  simp [at_, h]
theorem raw_step (E : List (Int × Int × Bool)) (k : Nat) (h : k < E.length) : raw (E.take (k + 1)) = raw (E.take k) + one (at_ E k) := by
  rw [take_snoc E k h, raw_append]; simp [raw]
theorem cnt_step (E : List (Int × Int × Bool)) (k : Nat) (h : k < E.length) : cnt (E.take (k + 1)) = cnt (E.take k) + (at_ E k).2.1 := by
  rw [take_snoc E k h, cnt_append]; simp [cnt]

theorem wrap_add (a b : Int) : wrap64 (wrap64 a + wrap64 b) = wrap64 (a + b) := by unfold wrap64; omega
theorem wrap_add_left (a b : Int) : wrap64 (wrap64 a + b) = wrap64 (a + b) := by unfold wrap64; omega
theorem wrap_mul (a : Int) : wrap64 (wrap64 a * 4096) = wrap64 (a * 4096) := by unfold wrap64; omega

theorem wrapEq (x : Int) : IntKind.i64.wrap x = wrap64 x := by rw [IntKind.wrap_i64]; unfold wrap64; rfl
theorem fin_yes {a b : Int} {e : Bool} (h : e = true) : wrap64 (a + if e = true then b * 4096 else 0) = IntKind.i64.wrap (wrap64 a + wrap64 (b * 4096)) := by
  rw [wrapEq, wrap_add, if_pos h]
theorem fin_no {a b : Int} {e : Bool} (h : e = false) : wrap64 (a + if e = true then b * 4096 else 0) = IntKind.i64.wrap (wrap64 a) := by
  rw [wrapEq, h]; simp; unfold wrap64; omega

theorem raw_flip (E : List (Int × Int × Bool)) : raw E + raw (E.map flip) = cnt E * 4096 := by
  induction E with
  | nil => simp [raw, cnt]
  | cons x r ih =>
    obtain ⟨a, b, c⟩ := x
    cases c <;> simp [raw, cnt, one, flip] at ih ⊢ <;> omega
theorem raw_insert (E : List (Int × Int × Bool)) (k : Nat) (e : Int × Int × Bool) : raw (E.take k ++ e :: E.drop k) = raw E + one e := by
  have h := raw_append (E.take k) (E.drop k)
  rw [List.take_append_drop] at h
  rw [raw_append]; simp [raw]; omega
end Go.Proofs.Qxb6630822a.M
