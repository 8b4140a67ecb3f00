/-
  zzCloneBytes, walked.
-/
import Derived.Test.Qxb6630879aDoorOrd
import Derived.WalkKit
import Derived.WalkSpells
import Derived.WalkLawsBesides
import Derived.Deep.OwnRows
namespace Go.Proofs.Qxb6630879aDoor
open Go.RowKit
theorem make23 (n : Nat) (hn : n ≤ 2000000) (w : World) : (Instr.makeSlice 23 (.int .i64 (n : Int)) (.int .i64 (n : Int))).run Tryd.prog w = .ok (.slice (some ⟨w.heap.size, 0, none⟩) n n) (w.alloc (.cells (madeCells #[.int .u8 0] n) 5)) :=
  run_make_row' (P := Tryd.prog) 23 5 (.int .u8 0) 1 Tryd.underlying23 lays288.i5 rfl .i64 .i64 n (by omega) (by omega) w

set_option maxHeartbeats 400000 in
theorem clone_nil (w : World) :
    Calls Tryd.prog 6 #[.slice none 0 0] w fun e w' => e = .returned (.slice none 0 0) ∧ w' = w := by
  have q := fun a l c w => Lib.run_eql_slice_nil (P := Tryd.prog) w 23 5 a l c 0 0 Tryd.underlying23
  go_enter Tryd.func6, Tryd.ntmps6
  go_wp2
  go_ret
  exact ⟨rfl, rfl⟩

/-- The first k cells of the new row are the signs; the rest is whatever. -/
def Part (w : World) (g n k : Nat) (X : List Int) : Prop := ∃ cur, w.heap[g]? = some (.cells cur 5 (0, 0)) ∧ cur.size = n ∧ ∀ i, i < k → cur[i]? = some (.int .u8 (at_ X i))

set_option maxHeartbeats 400000 in
theorem clone_some (x : Addr) (cap : Nat) (X : List Int) (w : World) (hn : X.length ≤ 1048576) (hx : X = [] ∨ ∃ b off, x = ⟨b, off, none⟩ ∧ Bytes w b off X) :
    Calls Tryd.prog 6 #[.slice (some x) X.length cap] w fun e w' => e = .returned (.slice (some ⟨w.heap.size, 0, none⟩) X.length X.length) ∧ Part w' w.heap.size X.length X.length X ∧ Below w.heap.size w w' := by
  have q := fun a l c w => Lib.run_eql_slice_nil (P := Tryd.prog) w 23 5 a l c 0 0 Tryd.underlying23
  have hmk := make23 X.length (by omega)
  go_enter Tryd.func6, Tryd.ntmps6
  go_wp2
  go_loopw [4] (fun i wr => ∃ k : Nat, k ≤ X.length ∧ i = .int .i64 k ∧ Part wr w.heap.size X.length k X ∧ Below w.heap.size w wr) (fun i _ => X.length - (intOf i).toNat)
  case atStart => exact ⟨0, Nat.zero_le _, rfl, ⟨_, heap_alloc_new w _, size_madeCells _ _, fun i hi => by omega⟩, (Below.refl _ _).alloc (Nat.le_refl _) _⟩
  case round =>
    obtain ⟨k, hk, rfl, ⟨cur, hcur, hcs, hp⟩, hb⟩ := hrel
    by_cases hlt : k < X.length
    · obtain ⟨b, off, rfl, hbx⟩ : ∃ b off, x = ⟨b, off, none⟩ ∧ Bytes w b off X := by
        rcases hx with rfl | h
        · simp at hlt
        · exact h
      have c0 := hbx k hlt
      have hbw : b < w.heap.size := World.block_lt_of_cell? w _ c0
      have c1 := (hb.cell (by exact hbw)).trans c0
      have d1 : wr.cell? ⟨w.heap.size, k, none⟩ = some cur[k] := by rw [cell_of_row wr _ k cur 5 (0, 0) hcur]; simp
      have f1 := frozen_of_row wr w.heap.size k cur 5 hcur
      have hstep : ∀ v, v = .int .u8 (at_ X k) → Part (wr.setCell ⟨w.heap.size, k, none⟩ v) w.heap.size X.length (k + 1) X := by
        intro v hv
        refine ⟨_, heap_setCell_same wr _ k cur 5 v hcur, by simpa using hcs, fun i hi => ?_⟩
        by_cases hik : i = k
        · subst hik; simp [hcs, hlt, hv]
        · rw [Array.getElem?_setIfInBounds_ne (by omega)]; exact hp i (by omega)
      have HS : Hid (Part (wr.setCell ⟨w.heap.size, k, none⟩ (.int .u8 (at_ X k))) w.heap.size X.length (k + 1) X) := hstep _ rfl
      clear hstep hp c0
      generalize at_ X k = p at *
      generalize cur[k] = o at *
      go_wp2
      go_roundw
      case rel => exact ⟨k + 1, by omega, by go_num, HS.out, hb.setCell (Nat.le_refl _) _⟩
      case measure => simp [intOf]; omega
    · go_wp2
      go_ret
      have hkn : k = X.length := by omega
      subst hkn
      exact ⟨rfl, ⟨cur, hcur, hcs, hp⟩, hb⟩

theorem part_own {w : World} {g n : Nat} {X : List Int} (h : Part w g n n X) (hX : X.length = n) (hn : n ≤ 1048576) : w.ownsRow g 5 1 (.slice (some ⟨g, 0, none⟩) n n) n (X.map (Value.int .u8)) := by
  obtain ⟨cur, hcur, hcs, hp⟩ := h
  refine ⟨by simp [hX], .inr ⟨g, n, cur, rfl, Nat.le_refl _, hcur, Nat.le_refl _, by unfold maxLen; omega, by omega, ?_⟩⟩
  rw [Nat.mul_one]
  apply List.ext_getElem?
  intro i
  by_cases hi : i < n
  · rw [List.getElem?_take, if_pos hi]
    have := hp i hi
    simp only [Array.getElem?_toList]
    rw [this]
    simp [at_, hX, hi]
  · rw [List.getElem?_eq_none (by simp; omega), List.getElem?_eq_none (by simp; omega)]

/-- zzCloneBytes: a slice of the call's own (or nil) with the same bytes. -/
theorem clone_any (xo : Option Addr) (cap : Nat) (X : List Int) (w : World) (hn : X.length ≤ 1048576) (h0 : xo = none → X = [] ∧ cap = 0) (hx : X = [] ∨ ∃ b off, xo = some ⟨b, off, none⟩ ∧ Bytes w b off X) :
    Calls Tryd.prog 6 #[.slice xo X.length cap] w fun e w' => ∃ v, e = .returned v ∧ w'.ownsRow w.heap.size 5 1 v X.length (X.map (Value.int .u8)) ∧ Below w.heap.size w w' := by
  cases xo with
  | none =>
    obtain ⟨rfl, rfl⟩ := h0 rfl
    refine (clone_nil w).mono ?_
    rintro _ w' ⟨rfl, rfl⟩
    exact ⟨_, rfl, World.ownsRow_nil _ _ _ _, Below.refl _ _⟩
  | some x =>
    refine (clone_some x cap X w hn (by simpa using hx)).mono ?_
    rintro _ w' ⟨rfl, hp, hb⟩
    exact ⟨_, rfl, part_own hp rfl hn, hb⟩
end Go.Proofs.Qxb6630879aDoor
