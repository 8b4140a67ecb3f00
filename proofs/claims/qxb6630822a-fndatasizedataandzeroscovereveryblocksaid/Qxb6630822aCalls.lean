/-
  The contracts of the small functions: zzExtent, zzRun, zzBytes_.., DataSize, zzRuns, zzExtents.
-/
import Derived.Test.Qxb6630822aRows
import Derived.Test.Qxb6630822aMath
import Derived.WalkKit
import Derived.WalkSpells
import Derived.WalkLawsBesides
namespace Go.Proofs.Qxb6630822a
open Go.RowKit

set_option maxHeartbeats 400000 in
theorem ext_any (a b : Int) (c : Bool) (w : World) :
    Calls Try.prog 8 #[.agg #[.int .i64 a, .int .i64 b, .bool c]] w fun e w' => e = .returned (.agg #[.int .i64 a, .int .i64 b, .bool c]) ∧ Below w.heap.size w w' := by
  go_enter Try.func8, Try.ntmps8
  go_wp2
  refine bodyPost_ret (v := .agg #[.int .i64 a, .int .i64 b, .bool c]) (by simp [results, Try.results8, go_sem]) rfl ⟨rfl, ?_⟩
  exact ((Below.refl _ _).alloc (Nat.le_refl _) _).alloc (by simp) _

set_option maxHeartbeats 400000 in
theorem run_any (a b : Int) (w : World) :
    Calls Try.prog 11 #[.agg #[.int .u64 a, .int .u64 b]] w fun e w' => e = .returned (.agg #[.int .u64 a, .int .u64 b]) ∧ Below w.heap.size w w' := by
  go_enter Try.func11, Try.ntmps11
  go_wp2
  refine bodyPost_ret (v := .agg #[.int .u64 a, .int .u64 b]) (by simp [results, Try.results11, go_sem]) rfl ⟨rfl, ?_⟩
  exact ((Below.refl _ _).alloc (Nat.le_refl _) _).alloc (by simp) _

set_option maxHeartbeats 400000 in
theorem bytes5_any (v k : Int) (r x : Option Addr) (nr cr nx cx : Nat) (a b : Int) (c : Bool) (w : World) :
    Calls Try.prog 5 #[.int .u64 v, .slice r nr cr, .slice x nx cx, .int .i64 k, .agg #[.int .i64 a, .int .i64 b, .bool c]] w fun e w' => ∃ y : Bool, e = .returned (.bool y) ∧ Below w.heap.size w w' := by
  go_enter Try.func5, Try.ntmps5
  go_wp2
  all_goals go_ret
  all_goals exact ⟨_, rfl, by first | exact Below.refl _ _ | exact (Below.refl _ _).alloc (Nat.le_refl _) _⟩
set_option maxHeartbeats 400000 in
theorem bytes10_any (v : Int) (r x : Option Addr) (nr cr nx cx : Nat) (w : World) :
    Calls Try.prog 10 #[.int .u64 v, .slice r nr cr, .slice x nx cx] w fun e w' => ∃ y : Bool, e = .returned (.bool y) ∧ Below w.heap.size w w' := by
  go_enter Try.func10, Try.ntmps10
  go_wp2
  all_goals go_ret
  all_goals exact ⟨_, rfl, by first | exact Below.refl _ _ | exact (Below.refl _ _).alloc (Nat.le_refl _) _⟩

theorem Try.info34 : (Try.prog.info? 34).map (fun i => (i.zero, i.size, i.bytes)) = some (some (.agg #[.int .i64 0, .int .i64 0, .bool false]), 3, 24) := by kernel_rfl
theorem Try.info39 : (Try.prog.info? 39).map (fun i => (i.zero, i.size, i.bytes)) = some (some (.agg #[.int .u64 0, .int .u64 0]), 2, 16) := by kernel_rfl

theorem make30 (n : Nat) (hn : n ≤ 100000) (w : World) : (Instr.makeSlice 30 (.int .i64 (n : Int)) (.int .i64 (n : Int))).run Try.prog w = .ok (.slice (some ⟨w.heap.size, 0, none⟩) n n) (w.alloc (.cells (madeCells #[.int .i64 0, .int .i64 0, .bool false] (n * 3)) 34)) := by
  obtain ⟨i, hi, hz0, hz1, hz2⟩ := info_parts Try.info34
  have h := run_make (P := Try.prog) w 30 34 i _ Try.underlying30 hi hz0 .i64 .i64 n n (by omega) (Int.le_refl _) (by rw [hz2]; omega) (by omega)
  rw [h, hz1]; simp [Value.cells]
set_option maxHeartbeats 400000 in
theorem exts_nil (w : World) :
    Calls Try.prog 7 #[.slice none 0 0] w fun e w' => e = .returned (.slice none 0 0) ∧ w' = w := by
  have q := fun a l c w => Lib.run_eql_slice_nil (P := Try.prog) w 24 26 a l c 0 0 Try.underlying24
  go_enter Try.func7, Try.ntmps7
  go_wp2
  go_ret
  exact ⟨rfl, rfl⟩
def Blk (w : World) (g : Nat) (t : TypeId) (m : Nat) (p : Array Value → Prop) : Prop := ∃ cur, w.heap[g]? = some (.cells cur t (0, 0)) ∧ cur.size = m ∧ p cur
def ExtP (E : List (Int × Int × Bool)) (k : Nat) (cur : Array Value) : Prop := ∀ i, i < k → cur[i * 3]? = some (.int .i64 (M.at_ E i).1) ∧ cur[i * 3 + 1]? = some (.int .i64 (M.at_ E i).2.1) ∧ cur[i * 3 + 2]? = some (.bool (M.at_ E i).2.2)
theorem made_blk (w : World) (z : Array Value) (m : Nat) (t : TypeId) (p : Array Value → Prop) (hp : p (madeCells z m)) : Blk (w.alloc (.cells (madeCells z m) t)) w.heap.size t m p :=
  ⟨_, heap_alloc_new w _, size_madeCells _ _, hp⟩

/-- The extents E lie at the head of a slice's array. -/
def Lies (w : World) (ao : Option Addr) (E : List (Int × Int × Bool)) : Prop :=
  E = [] ∨ ∃ b off, ao = some ⟨b, off, none⟩ ∧ ∀ i, i < E.length → w.cell? ⟨b, off + i * 3, none⟩ = some (.int .i64 (M.at_ E i).1) ∧ w.cell? ⟨b, off + i * 3 + 1, none⟩ = some (.int .i64 (M.at_ E i).2.1) ∧ w.cell? ⟨b, off + i * 3 + 2, none⟩ = some (.bool (M.at_ E i).2.2)

theorem Lies.round {w : World} {ao : Option Addr} {E : List (Int × Int × Bool)} (h : Lies w ao E) {wr : World} (hb : Below w.heap.size w wr) {k : Nat} (hk : k < E.length) :
    ∃ b off, ao = some ⟨b, off, none⟩ ∧ b < w.heap.size ∧ wr.cell? ⟨b, off + k * 3, none⟩ = some (.int .i64 (M.at_ E k).1) ∧ wr.cell? ⟨b, off + k * 3 + 1, none⟩ = some (.int .i64 (M.at_ E k).2.1) ∧ wr.cell? ⟨b, off + k * 3 + 2, none⟩ = some (.bool (M.at_ E k).2.2) := by
  rcases h with rfl | ⟨b, off, rfl, hc⟩
  · simp at hk
  · obtain ⟨c0, c1, c2⟩ := hc k hk
    have hlt : b < w.heap.size := World.block_lt_of_cell? w _ c0
    exact ⟨b, off, rfl, hlt, (hb.cell (by exact hlt)).trans c0, (hb.cell (by exact hlt)).trans c1, (hb.cell (by exact hlt)).trans c2⟩

theorem cell_ex {w : World} {g : Nat} {cur : Array Value} {t : TypeId} (h : w.heap[g]? = some (.cells cur t (0, 0))) (j : Nat) (hj : j < cur.size) : ∃ v, w.cell? ⟨g, j, none⟩ = some v :=
  ⟨cur[j], by rw [cell_of_row w g j cur t (0, 0) h]; simp [hj]⟩
theorem setCell_blk {w : World} {g j : Nat} {cur : Array Value} {t : TypeId} (h : w.heap[g]? = some (.cells cur t (0, 0))) (v : Value) : (w.setCell ⟨g, j, none⟩ v).heap[g]? = some (.cells (cur.setIfInBounds j v) t (0, 0)) :=
  heap_setCell_same w g j cur t v h
theorem ext_store {w1 : World} {g m : Nat} {cur : Array Value} {t : TypeId} {E : List (Int × Int × Bool)} {k : Nat} {e0 e1 : Int} {e2 : Bool} (h : w1.heap[g]? = some (.cells cur t (0, 0))) (hcs : cur.size = m) (hm : k * 3 + 2 < m) (hp : ExtP E k cur)
    (he : M.at_ E k = (e0, e1, e2)) : Blk (((w1.setCell ⟨g, k * 3, none⟩ (.int .i64 e0)).setCell ⟨g, k * 3 + 1, none⟩ (.int .i64 e1)).setCell ⟨g, k * 3 + 2, none⟩ (.bool e2)) g t m (ExtP E (k + 1)) := by
  refine ⟨_, setCell_blk (setCell_blk (setCell_blk h _) _) _, by simpa using hcs, fun i hi => ?_⟩
  by_cases hik : i = k
  · subst hik
    rw [he]
    simp [Array.getElem?_setIfInBounds, hcs]
    omega
  · obtain ⟨a, b, c⟩ := hp i (by omega)
    refine ⟨?_, ?_, ?_⟩
    · rw [Array.getElem?_setIfInBounds_ne (by omega), Array.getElem?_setIfInBounds_ne (by omega), Array.getElem?_setIfInBounds_ne (by omega)]; exact a
    · rw [Array.getElem?_setIfInBounds_ne (by omega), Array.getElem?_setIfInBounds_ne (by omega), Array.getElem?_setIfInBounds_ne (by omega)]; exact b
    · rw [Array.getElem?_setIfInBounds_ne (by omega), Array.getElem?_setIfInBounds_ne (by omega), Array.getElem?_setIfInBounds_ne (by omega)]; exact c
set_option maxHeartbeats 400000 in
theorem exts_some (x : Addr) (cap : Nat) (E : List (Int × Int × Bool)) (w : World) (hE : E.length ≤ 16384) (hl : Lies w (some x) E) :
    Calls Try.prog 7 #[.slice (some x) E.length cap] w fun e w' => e = .returned (.slice (some ⟨w.heap.size, 0, none⟩) E.length E.length) ∧ Blk w' w.heap.size 34 (E.length * 3) (ExtP E E.length) ∧ Below w.heap.size w w' := by
  have q := fun a l c w => Lib.run_eql_slice_nil (P := Try.prog) w 24 26 a l c 0 0 Try.underlying24
  have hmk := make30 E.length (by omega)
  go_enter Try.func7, Try.ntmps7
  go_wp2
  go_loopw [4] (fun i wr => ∃ k : Nat, k ≤ E.length ∧ i = .int .i64 k ∧ Blk wr w.heap.size 34 (E.length * 3) (ExtP E k) ∧ Below w.heap.size w wr ∧ w.heap.size < wr.heap.size) (fun i _ => E.length - (intOf i).toNat)
  case atStart => exact ⟨0, Nat.zero_le _, rfl, made_blk _ _ _ _ _ (fun i hi => by omega), (Below.refl _ _).alloc (Nat.le_refl _) _, by simp⟩
  case round => 
   obtain ⟨k, hk, rfl, hblk, hb, hsz⟩ := hrel
   by_cases hlt : k < E.length
   · obtain ⟨b, off, hx, hbw, c0, c1, c2⟩ := hl.round hb hlt
     obtain rfl := Option.some.inj hx
     clear hx
     generalize he : M.at_ E k = e at *
     obtain ⟨e0, e1, e2⟩ := e
     have HE : Hid (M.at_ E k = (e0, e1, e2)) := he
     clear he
     simp only [] at c0 c1 c2
     go_wp2_with fail
     refine (ext_any _ _ _ _).mono ?_
     rintro _ w1 ⟨rfl, hb1⟩
     obtain ⟨cur, hcur, hcs, hp⟩ := hblk
     have hcur1 : w1.heap[w.heap.size]? = some (.cells cur 34 (0, 0)) := (hb1.block _ hsz).trans hcur
     obtain ⟨o0, d0⟩ := cell_ex hcur1 (k * 3) (by omega)
     obtain ⟨o1, d1⟩ := cell_ex hcur1 (k * 3 + 1) (by omega)
     obtain ⟨o2, d2⟩ := cell_ex hcur1 (k * 3 + 2) (by omega)
     have f0 := fun j => frozen_of_row w1 w.heap.size j cur 34 hcur1
     go_wp2
     go_roundw
     case rel => exact ⟨k + 1, by omega, by go_num, ext_store hcur1 hcs (by omega) hp HE.out, (((hb.trans (hb1.mono (Nat.le_of_lt hsz))).setCell (Nat.le_refl _) _).setCell (Nat.le_refl _) _).setCell (Nat.le_refl _) _, by have := hb1.size; simp [World.setCell]; omega⟩
     case measure => simp [intOf]; omega
   · go_wp2
     go_ret
     have : k = E.length := by omega
     subst this
     exact ⟨rfl, hblk, hb⟩
theorem ret_int {k : IntKind} {a b : Int} (h : a = b) : Ending.returned (.int k a) = .returned (.int k b) := by rw [h]

set_option maxHeartbeats 400000 in
theorem data_any (v0 v1 : Value) (ao : Option Addr) (cap : Nat) (E : List (Int × Int × Bool)) (w : World) (hE : E.length ≤ 1000000) (hl : Lies w ao E) :
    Calls Try.prog 9 #[.agg #[v0, v1, .slice ao E.length cap]] w fun e w' => e = .returned (.int .i64 (wrap64 (M.raw E))) ∧ Below w.heap.size w w' := by
  go_enter Try.func9, Try.ntmps9
  go_wp2
  go_loopw [3, 9] (fun n i wr => ∃ k : Nat, k ≤ E.length ∧ i = .int .i64 k ∧ n = .int .i64 (wrap64 (M.raw (E.take k))) ∧ Below w.heap.size w wr) (fun _ i _ => E.length - (intOf i).toNat)
  case atStart => exact ⟨0, Nat.zero_le _, rfl, by simp [M.raw, wrap64], (Below.refl _ _).alloc (Nat.le_refl _) _⟩
  case round => 
   obtain ⟨k, hk, rfl, rfl, hb⟩ := hrel
   by_cases hlt : k < E.length
   · obtain ⟨b, off, rfl, hbw, c0, c1, c2⟩ := hl.round hb hlt
     have hbw' : b < wr.heap.size := Nat.lt_of_lt_of_le hbw hb.size
     have HS : Hid (M.raw (E.take (k + 1)) = M.raw (E.take k) + M.one (M.at_ E k)) := M.raw_step E k hlt
     generalize M.at_ E k = e at *
     obtain ⟨e0, e1, e2⟩ := e
     simp only [] at c0 c1 c2
     go_wp2
     all_goals
       go_roundw
       case rel => exact ⟨k + 1, by omega, by go_num, by rw [HS.out]; simp_all [M.one, M.wrap_add], (hb.alloc hb.size _)⟩
       case measure => simp [intOf]; omega
   · go_wp2
     go_ret
     exact ⟨ret_int (by rw [List.take_of_length_le (by omega)]), hb⟩

/-- zzExtents, whatever slice: the result leads to the same extents. -/
theorem exts_any (ao : Option Addr) (cap : Nat) (E : List (Int × Int × Bool)) (w : World) (hE : E.length ≤ 16384) (hl : Lies w ao E) (h0 : ao = none → E = [] ∧ cap = 0) :
    Calls Try.prog 7 #[.slice ao E.length cap] w fun e w' => ∃ yo yc, e = .returned (.slice yo E.length yc) ∧ Lies w' yo E ∧ Below w.heap.size w w' := by
  cases ao with
  | none =>
    obtain ⟨rfl, rfl⟩ := h0 rfl
    refine (exts_nil w).mono ?_
    rintro _ _ ⟨rfl, rfl⟩
    exact ⟨none, 0, rfl, .inl rfl, Below.refl _ _⟩
  | some x =>
    refine (exts_some x cap E w hE hl).mono ?_
    rintro _ w' ⟨rfl, ⟨cur, hcur, _, hp⟩, hb⟩
    refine ⟨_, _, rfl, .inr ⟨_, _, rfl, fun i hi => ?_⟩, hb⟩
    obtain ⟨p0, p1, p2⟩ := hp i hi
    simp only [Nat.zero_add]
    rw [cell_of_row w' _ _ cur 34 (0, 0) hcur, cell_of_row w' _ _ cur 34 (0, 0) hcur, cell_of_row w' _ _ cur 34 (0, 0) hcur]
    exact ⟨p0, p1, p2⟩

/-- The runs R lie at the head of a slice's array. -/
def RLies (w : World) (ao : Option Addr) (R : List (Int × Int)) : Prop :=
  R = [] ∨ ∃ b off, ao = some ⟨b, off, none⟩ ∧ ∀ i, i < R.length → w.cell? ⟨b, off + i * 2, none⟩ = some (.int .u64 (R.getD i (0, 0)).1) ∧ w.cell? ⟨b, off + i * 2 + 1, none⟩ = some (.int .u64 (R.getD i (0, 0)).2)

theorem RLies.round {w : World} {ao : Option Addr} {R : List (Int × Int)} (h : RLies w ao R) {wr : World} (hb : Below w.heap.size w wr) {k : Nat} (hk : k < R.length) :
    ∃ b off, ao = some ⟨b, off, none⟩ ∧ b < w.heap.size ∧ ∃ x y, wr.cell? ⟨b, off + k * 2, none⟩ = some (.int .u64 x) ∧ wr.cell? ⟨b, off + k * 2 + 1, none⟩ = some (.int .u64 y) := by
  rcases h with rfl | ⟨b, off, rfl, hc⟩
  · simp at hk
  · obtain ⟨c0, c1⟩ := hc k hk
    have hlt : b < w.heap.size := World.block_lt_of_cell? w _ c0
    exact ⟨b, off, rfl, hlt, _, _, (hb.cell (by exact hlt)).trans c0, (hb.cell (by exact hlt)).trans c1⟩

theorem make28 (n : Nat) (hn : n ≤ 100000) (w : World) : (Instr.makeSlice 28 (.int .i64 (n : Int)) (.int .i64 (n : Int))).run Try.prog w = .ok (.slice (some ⟨w.heap.size, 0, none⟩) n n) (w.alloc (.cells (madeCells #[.int .u64 0, .int .u64 0] (n * 2)) 39)) := by
  obtain ⟨i, hi, hz0, hz1, hz2⟩ := info_parts Try.info39
  have h := run_make (P := Try.prog) w 28 39 i _ Try.underlying28 hi hz0 .i64 .i64 n n (by omega) (Int.le_refl _) (by rw [hz2]; omega) (by omega)
  rw [h, hz1]; simp [Value.cells]

set_option maxHeartbeats 400000 in
theorem runs_nil (w : World) :
    Calls Try.prog 6 #[.slice none 0 0] w fun e w' => e = .returned (.slice none 0 0) ∧ w' = w := by
  have q := fun a l c w => Lib.run_eql_slice_nil (P := Try.prog) w 23 41 a l c 0 0 Try.underlying23
  go_enter Try.func6, Try.ntmps6
  go_wp2
  go_ret
  exact ⟨rfl, rfl⟩

theorem run_store {w1 : World} {g m k : Nat} {cur : Array Value} {t : TypeId} {a b : Value} (h : w1.heap[g]? = some (.cells cur t (0, 0))) (hcs : cur.size = m) :
    Blk ((w1.setCell ⟨g, k * 2, none⟩ a).setCell ⟨g, k * 2 + 1, none⟩ b) g t m (fun _ => True) :=
  ⟨_, setCell_blk (setCell_blk h _) _, by simpa using hcs, trivial⟩

set_option maxHeartbeats 400000 in
theorem runs_some (x : Addr) (cap : Nat) (R : List (Int × Int)) (w : World) (hR : R.length ≤ 16384) (hl : RLies w (some x) R) :
    Calls Try.prog 6 #[.slice (some x) R.length cap] w fun e w' => e = .returned (.slice (some ⟨w.heap.size, 0, none⟩) R.length R.length) ∧ Below w.heap.size w w' := by
  have q := fun a l c w => Lib.run_eql_slice_nil (P := Try.prog) w 23 41 a l c 0 0 Try.underlying23
  have hmk := make28 R.length (by omega)
  go_enter Try.func6, Try.ntmps6
  go_wp2
  go_loopw [4] (fun i wr => ∃ k : Nat, k ≤ R.length ∧ i = .int .i64 k ∧ Blk wr w.heap.size 39 (R.length * 2) (fun _ => True) ∧ Below w.heap.size w wr ∧ w.heap.size < wr.heap.size) (fun i _ => R.length - (intOf i).toNat)
  case atStart => exact ⟨0, Nat.zero_le _, rfl, made_blk _ _ _ _ _ trivial, (Below.refl _ _).alloc (Nat.le_refl _) _, by simp⟩
  case round =>
   obtain ⟨k, hk, rfl, hblk, hb, hsz⟩ := hrel
   by_cases hlt : k < R.length
   · obtain ⟨b, off, hx, hbw, r0, r1, c0, c1⟩ := hl.round hb hlt
     obtain rfl := Option.some.inj hx
     clear hx
     go_wp2_with fail
     refine (run_any _ _ _).mono ?_
     rintro _ w1 ⟨rfl, hb1⟩
     obtain ⟨cur, hcur, hcs, _⟩ := hblk
     have hcur1 : w1.heap[w.heap.size]? = some (.cells cur 39 (0, 0)) := (hb1.block _ hsz).trans hcur
     obtain ⟨o0, d0⟩ := cell_ex hcur1 (k * 2) (by omega)
     obtain ⟨o1, d1⟩ := cell_ex hcur1 (k * 2 + 1) (by omega)
     have f0 := fun j => frozen_of_row w1 w.heap.size j cur 39 hcur1
     go_wp2
     go_roundw
     case rel => exact ⟨k + 1, by omega, by go_num, run_store hcur1 hcs, ((hb.trans (hb1.mono (Nat.le_of_lt hsz))).setCell (Nat.le_refl _) _).setCell (Nat.le_refl _) _, by have := hb1.size; simp [World.setCell]; omega⟩
     case measure => simp [intOf]; omega
   · go_wp2
     go_ret
     exact ⟨rfl, hb⟩

/-- zzRuns, whatever slice: it returns a slice. -/
theorem runs_any (ao : Option Addr) (cap : Nat) (R : List (Int × Int)) (w : World) (hR : R.length ≤ 16384) (hl : RLies w ao R) (h0 : ao = none → R = [] ∧ cap = 0) :
    Calls Try.prog 6 #[.slice ao R.length cap] w fun e w' => ∃ yo yn yc, e = .returned (.slice yo yn yc) ∧ Below w.heap.size w w' := by
  cases ao with
  | none =>
    obtain ⟨rfl, rfl⟩ := h0 rfl
    refine (runs_nil w).mono ?_
    rintro _ _ ⟨rfl, rfl⟩
    exact ⟨none, 0, 0, rfl, Below.refl _ _⟩
  | some x =>
    refine (runs_some x cap R w hR hl).mono ?_
    rintro _ w' ⟨rfl, hb⟩
    exact ⟨_, _, _, rfl, hb⟩

end Go.Proofs.Qxb6630822a
