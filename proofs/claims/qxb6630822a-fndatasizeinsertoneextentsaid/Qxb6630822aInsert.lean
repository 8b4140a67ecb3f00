/-
  THE WALK of FnDataSizeInsertOneExtent.
-/
import Derived.Test.Qxb6630822aCalls
import Derived.WalkKit
import Derived.WalkSpells
import Derived.WalkLawsBesides
import Derived.Deep.RegionWith
namespace Go.Proofs.Qxb6630822a
open Go.RowKit

theorem make30c (n : Nat) (hn : n ≤ 100000) (w : World) : (Instr.makeSlice 30 (.int .i64 0) (.int .i64 ((n : Int) + 1))).run Try.prog w = .ok (.slice (some ⟨w.heap.size, 0, none⟩) 0 (n + 1)) (w.alloc (.cells (madeCells #[.int .i64 0, .int .i64 0, .bool false] ((n + 1) * 3)) 34)) := by
  obtain ⟨i, hi, hz0, hz1, hz2⟩ := info_parts Try.info34
  have h := run_make (P := Try.prog) w 30 34 i _ Try.underlying30 hi hz0 .i64 .i64 0 ((n : Int) + 1) (by omega) (by omega) (by rw [hz2]; omega) (by omega)
  rw [h, hz1]; simp [Value.cells]

/-- The cells of a list of extents. -/
def cellsL : List (Int × Int × Bool) → List Value
  | [] => []
  | e :: r => .int .i64 e.1 :: .int .i64 e.2.1 :: .bool e.2.2 :: cellsL r
theorem cellsL_append (a b : List (Int × Int × Bool)) : cellsL (a ++ b) = cellsL a ++ cellsL b := by
  induction a with
  | nil => rfl
  | cons x r ih => simp [cellsL, ih]
theorem cellsL_length (a : List (Int × Int × Bool)) : (cellsL a).length = a.length * 3 := by
  induction a with
  | nil => rfl
  | cons x r ih => simp [cellsL, ih]; omega
theorem cellsL_get (a : List (Int × Int × Bool)) (i : Nat) (h : i < a.length) : (cellsL a)[i * 3]? = some (.int .i64 (M.at_ a i).1) ∧ (cellsL a)[i * 3 + 1]? = some (.int .i64 (M.at_ a i).2.1) ∧ (cellsL a)[i * 3 + 2]? = some (.bool (M.at_ a i).2.2) := by
  induction a generalizing i with
  | nil => simp at h
  | cons x r ih =>
    cases i with
    | zero => simp [cellsL, M.at_]
    | succ i =>
      have := ih i (by simpa using h)
      rw [show (i + 1) * 3 = i * 3 + 1 + 1 + 1 from by omega]
      simpa [cellsL, M.at_] using this

theorem Lies.kept {w w1 : World} {ao : Option Addr} {E : List (Int × Int × Bool)} {B : Nat} (h : Lies w ao E) (hB : w.heap.size ≤ B) (hb : Below B w w1) : Lies w1 ao E := by
  rcases h with h | ⟨b, off, rfl, hc⟩
  · exact .inl h
  · refine .inr ⟨b, off, rfl, fun i hi => ?_⟩
    obtain ⟨c0, c1, c2⟩ := hc i hi
    have hlt : b < B := Nat.lt_of_lt_of_le (World.block_lt_of_cell? w _ c0) hB
    exact ⟨(hb.cell (by exact hlt)).trans c0, (hb.cell (by exact hlt)).trans c1, (hb.cell (by exact hlt)).trans c2⟩
theorem RLies.kept {w w1 : World} {ao : Option Addr} {R : List (Int × Int)} {B : Nat} (h : RLies w ao R) (hB : w.heap.size ≤ B) (hb : Below B w w1) : RLies w1 ao R := by
  rcases h with h | ⟨b, off, rfl, hc⟩
  · exact .inl h
  · refine .inr ⟨b, off, rfl, fun i hi => ?_⟩
    obtain ⟨c0, c1⟩ := hc i hi
    have hlt : b < B := Nat.lt_of_lt_of_le (World.block_lt_of_cell? w _ c0) hB
    exact ⟨(hb.cell (by exact hlt)).trans c0, (hb.cell (by exact hlt)).trans c1⟩

/-- F is E with e put in at k. -/
structure Ins (E F : List (Int × Int × Bool)) (k : Nat) (e : Int × Int × Bool) : Prop where
  len : F.length = E.length + 1
  lo : ∀ i, i < k → M.at_ F i = M.at_ E i
  mid : M.at_ F k = e
  hi : ∀ i, k ≤ i → i < E.length → M.at_ F (i + 1) = M.at_ E i
  sum : M.raw F = M.raw E + M.one e

theorem cellsL_step (F : List (Int × Int × Bool)) (k : Nat) (h : k < F.length) {e0 e1 : Int} {e2 : Bool} (he : M.at_ F k = (e0, e1, e2)) : cellsL (F.take k) ++ [.int .i64 e0, .int .i64 e1, .bool e2] = cellsL (F.take (k + 1)) := by
  rw [M.take_snoc F k h, cellsL_append, he]; rfl

/-- What the loops know of the new slice. -/
def Has (W : World) (g n j : Nat) (F : List (Int × Int × Bool)) (wr : World) : Prop :=
  wr.ownsRow g 34 3 (.slice (some ⟨g, 0, none⟩) j n) j (cellsL (F.take j)) ∧ Below g W wr ∧ g < wr.heap.size

theorem three_oneCell (a b : Int) (c : Bool) : ∀ u ∈ [Value.int .i64 a, .int .i64 b, .bool c], u.oneCell' = true := by
  intro u hu; simp at hu; rcases hu with rfl | rfl | rfl <;> rfl
theorem three_cells (w : World) (a b : Int) (c : Bool) (t : TypeId) : ∀ j u, [Value.int .i64 a, .int .i64 b, .bool c][j]? = some u → (w.alloc (.cells #[.int .i64 a, .int .i64 b, .bool c] t)).cell? ((⟨w.heap.size, 0, none⟩ : Addr).add j) = some u := by
  intro j u hj
  rw [Addr.add_lit]
  match j, hj with
  | 0, hj => simpa using hj
  | 1, hj => simpa using hj
  | 2, hj => simpa using hj
theorem Has.put {W : World} {g n j : Nat} {F : List (Int × Int × Bool)} {wr w1 w2 : World} {e0 e1 : Int} {e2 : Bool} {o : Obj} (h : Has W g n j F wr) (hb : Below wr.heap.size wr w1) (hj : j < F.length) (he : M.at_ F j = (e0, e1, e2))
    (h1 : w2.ownsRow g 34 3 (.slice (some ⟨g, 0, none⟩) (j + 1) n) (j + 1) (cellsL (F.take j) ++ [.int .i64 e0, .int .i64 e1, .bool e2])) (h2 : (w1.alloc o).grownBy w2 (some g)) : Has W g n (j + 1) F w2 := by
  have hs := h.2.2
  have hs1 := hb.size
  refine ⟨by rw [← cellsL_step F j hj he]; exact h1, ?_, ?_⟩
  · exact (((h.2.1.trans (hb.mono (by omega))).alloc (by omega) o).grown h2 (by simp; omega) (fun k hk => by simp at hk; omega))
  · have := h2.size; simp at this; omega
theorem Has.own {W : World} {g n j : Nat} {F : List (Int × Int × Bool)} {wr w1 : World} (h : Has W g n j F wr) (hb : Below wr.heap.size wr w1) (o : Obj) : (w1.alloc o).ownsRow g 34 3 (.slice (some ⟨g, 0, none⟩) j n) j (cellsL (F.take j)) :=
  (h.1.kept (row := none) ⟨hb.os, hb.tape, hb.output, hb.size, fun k hk _ => hb.block k hk⟩ (by simp [Value.ownBlock])).alloc o

theorem has_start (W : World) (g n : Nat) (F : List (Int × Int × Bool)) (hg : g = W.heap.size) (hn : n ≤ 100000) : Has W g n 0 F (W.alloc (.cells (madeCells #[.int .i64 0, .int .i64 0, .bool false] (n * 3)) 34)) := by
  subst hg
  refine ⟨?_, (Below.refl _ _).alloc (Nat.le_refl _) _, by simp⟩
  exact World.ownsRow_made W _ n (Nat.le_refl _) (by unfold maxLen; omega) (size_madeCells _ _)
theorem Has.old {w3 : World} (o : Obj) {n j : Nat} {F : List (Int × Int × Bool)} {wr : World} (h : Has (w3.alloc o) (w3.heap.size + 1) n j F wr) : Below w3.heap.size w3 wr :=
  ((Below.refl _ _).alloc (Nat.le_refl _) _).trans (h.2.1.mono (by omega))
theorem Has.lies {W : World} {g n : Nat} {F : List (Int × Int × Bool)} {wr : World} (h : Has W g n F.length F wr) : Lies wr (some ⟨g, 0, none⟩) F := by
  have h1 := h.1
  rw [List.take_length] at h1
  refine .inr ⟨g, 0, rfl, fun i hi => ?_⟩
  obtain ⟨p0, p1, p2⟩ := cellsL_get F i hi
  simp only [Nat.zero_add]
  rw [h1.cellAt _ (by omega), h1.cellAt _ (by omega), h1.cellAt _ (by omega)]
  exact ⟨p0, p1, p2⟩

theorem data_n (v0 v1 : Value) (ao : Option Addr) (n cap : Nat) (E : List (Int × Int × Bool)) (w : World) (hn : E.length = n) (hE : E.length ≤ 1000000) (hl : Lies w ao E) :
    Calls Try.prog 9 #[.agg #[v0, v1, .slice ao n cap]] w fun e w' => e = .returned (.int .i64 (wrap64 (M.raw E))) ∧ Below w.heap.size w w' := by
  subst hn
  exact data_any v0 v1 ao cap E w hE hl

theorem Lies.drew {w : World} {ao : Option Addr} {E : List (Int × Int × Bool)} (h : Lies w ao E) : Lies w.drew ao E := h
theorem behind {W w9 : World} {b : Nat} {x0 x1 x2 : Value} {zo : Option Addr} {E : List (Int × Int × Bool)} (hs : b < W.heap.size) (hl : Lies W zo E) (d0 : W.cell? ⟨b, 0, none⟩ = some x0) (d1 : W.cell? ⟨b, 1, none⟩ = some x1) (d2 : W.cell? ⟨b, 2, none⟩ = some x2)
    (h : Below W.drew.heap.size W.drew w9) : Lies w9 zo E ∧ w9.cell? ⟨b, 0, none⟩ = some x0 ∧ w9.cell? ⟨b, 1, none⟩ = some x1 ∧ w9.cell? ⟨b, 2, none⟩ = some x2 ∧ Below W.heap.size W w9 := by
  have h' : Below W.heap.size W w9 := ⟨h.os, h.tape, h.output, h.size, h.block⟩
  exact ⟨hl.kept (Nat.le_refl _) h', (h'.cell (by exact hs)).trans d0, (h'.cell (by exact hs)).trans d1, (h'.cell (by exact hs)).trans d2, h'⟩

set_option maxHeartbeats 1000000 in
theorem ins_main (v : Int) (ro xo : Option Addr) (rc xc : Nat) (R : List (Int × Int)) (E : List (Int × Int × Bool)) (k : Nat) (e0 e1 : Int) (e2 : Bool) (w : World)
    (F : List (Int × Int × Bool)) (hF : Ins E F k (e0, e1, e2)) (hR : R.length ≤ 16384) (hE : E.length ≤ 16384) (hk : k ≤ E.length) (hr : RLies w ro R) (hx : Lies w xo E) (r0 : ro = none → R = [] ∧ rc = 0) (x0 : xo = none → E = [] ∧ xc = 0) :
    Calls Try.prog 3 #[.int .u64 v, .slice ro R.length rc, .slice xo E.length xc, .int .i64 (k : Int), .agg #[.int .i64 e0, .int .i64 e1, .bool e2]] w fun e w' => e = .returned (.bool true) ∧ Below w.heap.size w w' := by
  have hmk := make30c E.length (by omega)
  have t1 : decide ((16384 : Int) < (R.length : Int)) = false := by simp; omega
  have t2 : decide ((16384 : Int) < (E.length : Int)) = false := by simp; omega
  have t3 : decide ((k : Int) < 0) = false := by simp
  have t4 : decide ((E.length : Int) < (k : Int)) = false := by simp; omega
  go_enter Try.func3, Try.ntmps3
  go_wp2_with fail
  refine (bytes5_any _ _ _ _ _ _ _ _ _ _ _ _).mono ?_
  rintro _ w1 ⟨y, rfl, hb1⟩
  cases y
  · go_wp2
    go_ret
    exact ⟨rfl, ((Below.refl _ _).alloc (Nat.le_refl _) _).trans (hb1.mono (by simp))⟩
  · go_wp2_with fail
    have hw1 : Below w.heap.size w w1 := ((Below.refl _ _).alloc (Nat.le_refl _) _).trans (hb1.mono (by simp))
    refine (runs_any _ _ R _ hR (hr.kept (Nat.le_refl _) hw1) r0).mono ?_
    rintro _ w2 ⟨yo, yn, yc, rfl, hb2⟩
    go_wp2_with fail
    have hw2 : Below w.heap.size w w2 := hw1.trans (hb2.mono hw1.size)
    refine (exts_any _ _ E _ hE (hx.kept (Nat.le_refl _) hw2) x0).mono ?_
    rintro _ w3 ⟨zo, zc, rfl, hz, hb3⟩
    have hw3 : Below w.heap.size w w3 := hw2.trans (hb3.mono hw2.size)
    go_wp2_with fail
    obtain ⟨i0, hi0, hz0, hz1, hz2⟩ := info_parts Try.info34
    have hFl := hF.len
    go_loopw [13, 14] (fun s i wr => ∃ j : Nat, j ≤ k ∧ i = .int .i64 j ∧ s = .slice (some ⟨w3.heap.size + 1, 0, none⟩) j (E.length + 1) ∧ Has (w3.alloc (.cells #[.int .u64 v, .slice yo yn yc, .slice zo E.length zc] 33)) (w3.heap.size + 1) (E.length + 1) j F wr) (fun _ i _ => k - (intOf i).toNat)
    case atStart => exact ⟨0, Nat.zero_le _, rfl, rfl, has_start _ _ _ _ (by simp) (by omega)⟩
    case round =>
      obtain ⟨j, hj, rfl, rfl, hh⟩ := hrel
      by_cases hlt : j < k
      · obtain ⟨b, off, rfl, hbw, c0, c1, c2⟩ := (hx.kept (Nat.le_refl _) hw3).round (w := w3) (wr := wr) (hh.old _) (k := j) (by omega)
        have HE := hF.lo j hlt
        generalize he : M.at_ E j = e at *
        obtain ⟨a0, a1, a2⟩ := e
        clear he
        have HE' : Hid (M.at_ F j = (a0, a1, a2)) := HE
        clear HE
        simp only [] at c0 c1 c2
        go_wp2_with fail
        refine (ext_any _ _ _ _).mono ?_
        rintro _ w5 ⟨rfl, hb5⟩
        have hown := hh.own hb5 (.cells #[.int .i64 a0, .int .i64 a1, .bool a2] 34)
        go_wp2_with (at_builtin; refine wpList_append_fits _ rfl (.tmp 55) (.tmp 61) 30 rfl (w3.heap.size + 1) 34 i0 3 Try.underlying30 hi0 hz1 (w3.heap.size + 1) j (E.length + 1) _ rfl hown ⟨w5.heap.size, 0, none⟩ 1 1 [.int .i64 a0, .int .i64 a1, .bool a2] rfl rfl (three_cells _ _ _ _ _) (three_oneCell _ _ _) (by omega) ?_)
        intro w6 h61 h62
        have hh6 := hh.put hb5 (by omega) HE'.out h61 h62
        clear h61 h62 hown
        go_wp2
        go_roundw
        case rel => exact ⟨j + 1, by omega, by go_num, rfl, hh6⟩
        case measure => simp [intOf]; omega
      · have hjk : j = k := by omega
        subst hjk
        have hB3 : Below (w.heap.size + 1) (w.alloc (.cells #[.int .i64 e0, .int .i64 e1, .bool e2] 26)) w3 := (hb1.mono (by simp)).trans ((hb2.mono (by have := hb1.size; simp at this; omega)).trans (hb3.mono (by have := hb1.size; have := hb2.size; simp at *; omega)))
        have hs3 := hB3.size
        simp at hs3
        have hBr : Below (w.heap.size + 1) (w.alloc (.cells #[.int .i64 e0, .int .i64 e1, .bool e2] 26)) wr := hB3.trans ((hh.old _).mono hs3)
        have c0 : wr.cell? ⟨w.heap.size, 0, none⟩ = some (.int .i64 e0) := (hBr.cell (by simp)).trans (by simp)
        have c1 : wr.cell? ⟨w.heap.size, 1, none⟩ = some (.int .i64 e1) := (hBr.cell (by simp)).trans (by simp)
        have c2 : wr.cell? ⟨w.heap.size, 2, none⟩ = some (.bool e2) := (hBr.cell (by simp)).trans (by simp)
        have HM : Hid (M.at_ F j = (e0, e1, e2)) := hF.mid
        go_wp2_with fail
        refine (ext_any _ _ _ _).mono ?_
        rintro _ w5 ⟨rfl, hb5⟩
        have hown := hh.own hb5 (.cells #[.int .i64 e0, .int .i64 e1, .bool e2] 34)
        go_wp2_with (at_builtin; refine wpList_append_fits _ rfl (.tmp 63) (.tmp 66) 30 rfl (w3.heap.size + 1) 34 i0 3 Try.underlying30 hi0 hz1 (w3.heap.size + 1) j (E.length + 1) _ rfl hown ⟨w5.heap.size, 0, none⟩ 1 1 [.int .i64 e0, .int .i64 e1, .bool e2] rfl rfl (three_cells _ _ _ _ _) (three_oneCell _ _ _) (by omega) ?_)
        intro w6 h61 h62
        have hh6 := hh.put hb5 (by omega) HM.out h61 h62
        clear h61 h62 hown c0 c1 c2
        go_wp2
        go_loopw [13, 15] (fun s i ws => ∃ m : Nat, j ≤ m ∧ m ≤ E.length ∧ i = .int .i64 m ∧ s = .slice (some ⟨w3.heap.size + 1, 0, none⟩) (m + 1) (E.length + 1) ∧ Has (w3.alloc (.cells #[.int .u64 v, .slice yo yn yc, .slice zo E.length zc] 33)) (w3.heap.size + 1) (E.length + 1) (m + 1) F ws) (fun _ i _ => E.length - (intOf i).toNat)
        case atStart => exact ⟨j, Nat.le_refl _, hk, rfl, rfl, hh6⟩
        case round =>
          clear hh6 hb5 hh hBr
          obtain ⟨m, hm1, hm2, rfl, rfl, hh⟩ := hrel
          by_cases hlt2 : m < E.length
          · obtain ⟨b, off, rfl, hbw, c0, c1, c2⟩ := (hx.kept (Nat.le_refl _) hw3).round (w := w3) (wr := wr) (hh.old _) (k := m) (by omega)
            have HE := hF.hi m hm1 hlt2
            generalize he : M.at_ E m = e at *
            obtain ⟨a0, a1, a2⟩ := e
            clear he
            have HE' : Hid (M.at_ F (m + 1) = (a0, a1, a2)) := HE
            clear HE
            simp only [] at c0 c1 c2
            go_wp2_with fail
            refine (ext_any _ _ _ _).mono ?_
            rintro _ w7 ⟨rfl, hb7⟩
            have hown := hh.own hb7 (.cells #[.int .i64 a0, .int .i64 a1, .bool a2] 34)
            go_wp2_with (at_builtin; refine wpList_append_fits _ rfl (.tmp 75) (.tmp 81) 30 rfl (w3.heap.size + 1) 34 i0 3 Try.underlying30 hi0 hz1 (w3.heap.size + 1) (m + 1) (E.length + 1) _ rfl hown ⟨w7.heap.size, 0, none⟩ 1 1 [.int .i64 a0, .int .i64 a1, .bool a2] rfl rfl (three_cells _ _ _ _ _) (three_oneCell _ _ _) (by omega) ?_)
            intro w8 h81 h82
            have hh8 := hh.put hb7 (by omega) HE'.out h81 h82
            clear h81 h82 hown
            go_wp2
            go_roundw
            case rel => exact ⟨m + 1, by omega, by omega, by go_num, rfl, hh8⟩
            case measure => simp [intOf]; omega
          · have hmE : m = E.length := by omega
            subst hmE
            have hBr : Below (w.heap.size + 1) (w.alloc (.cells #[.int .i64 e0, .int .i64 e1, .bool e2] 26)) wr := hB3.trans ((hh.old _).mono hs3)
            have c1 : wr.cell? ⟨w.heap.size, 1, none⟩ = some (.int .i64 e1) := (hBr.cell (by simp)).trans (by simp)
            have c2 : wr.cell? ⟨w.heap.size, 2, none⟩ = some (.bool e2) := (hBr.cell (by simp)).trans (by simp)
            have d0 : wr.cell? ⟨w3.heap.size, 0, none⟩ = some (.int .u64 v) := (hh.2.1.cell (by simp)).trans (by simp)
            have d1 : wr.cell? ⟨w3.heap.size, 1, none⟩ = some (.slice yo yn yc) := (hh.2.1.cell (by simp)).trans (by simp)
            have d2 : wr.cell? ⟨w3.heap.size, 2, none⟩ = some (.slice zo E.length zc) := (hh.2.1.cell (by simp)).trans (by simp)
            have hs4 := hh.2.2
            have hs5 : w3.heap.size < wr.heap.size := by omega
            have hs6 : w.heap.size < wr.heap.size := by omega
            have hLF : Lies wr (some ⟨w3.heap.size + 1, 0, none⟩) F := (hFl ▸ hh).lies
            have hLE : Lies wr zo E := hz.kept (Nat.le_refl _) (hh.old _)
            have hbw : Below w.heap.size w wr := hw3.trans ((hh.old _).mono hw3.size)
            go_wp2_with fail
            all_goals
              obtain ⟨W, hW⟩ : ∃ W, W = wr.alloc (.cells #[.int .u64 v, .slice yo yn yc, .slice (some ⟨w3.heap.size + 1, 0, none⟩) (E.length + 1) (E.length + 1)] 33) := ⟨_, rfl⟩
              rw [← hW]
              have g0 : W.cell? ⟨wr.heap.size, 0, none⟩ = some (.int .u64 v) := by rw [hW]; simp
              have g1 : W.cell? ⟨wr.heap.size, 1, none⟩ = some (.slice yo yn yc) := by rw [hW]; simp
              have g2 : W.cell? ⟨wr.heap.size, 2, none⟩ = some (.slice (some ⟨w3.heap.size + 1, 0, none⟩) (E.length + 1) (E.length + 1)) := by rw [hW]; simp
              have hbW : Below wr.heap.size wr W := by rw [hW]; exact (Below.refl _ _).alloc (Nat.le_refl _) _
              have d0' := (hbW.cell (p := ⟨w3.heap.size, 0, none⟩) (by exact hs5)).trans d0
              have d1' := (hbW.cell (p := ⟨w3.heap.size, 1, none⟩) (by exact hs5)).trans d1
              have d2' := (hbW.cell (p := ⟨w3.heap.size, 2, none⟩) (by exact hs5)).trans d2
              have hLF' : Lies W _ F := hLF.kept (Nat.le_refl _) hbW
              have hLE' : Lies W _ E := hLE.kept (Nat.le_refl _) hbW
              have hbw' : Below w.heap.size w W := hbw.trans (hbW.mono hbw.size)
              have hs7 : w3.heap.size < W.heap.size := Nat.lt_of_lt_of_le hs5 hbW.size
              clear hW d0 d1 d2 c1 c2 hLF hLE hbw hbW hh hBr hB3 hb1 hb2 hb3 hw1 hw2 hw3 hx hr hz
              go_region_with (first
                | (go_at_call_of 9 (Value.slice zo E.length zc); refine (data_n _ _ _ _ _ E _ rfl (by omega) ?_).mono ?_; exact hLE9; rintro e w10 ⟨rfl, hb10⟩)
                | (go_at_call 9; refine (data_n _ _ _ _ _ F _ hFl (by omega) ?_).mono ?_; exact hLF'.drew; rintro e w9 ⟨rfl, hb9⟩; obtain ⟨hLE9, d0'', d1'', d2'', hb9'⟩ := behind hs7 hLE' d0' d1' d2' hb9; clear hb9))
              all_goals go_wp2
              all_goals go_ret
              all_goals refine ⟨?_, hbw'.trans ((hb9'.trans (Below.mono ‹_› hb9'.size)).mono hbw'.size)⟩
              all_goals simp [Act.put, hF.sum, M.one]
              all_goals first | exact M.fin_yes ‹_› | exact M.fin_no ‹_›
end Go.Proofs.Qxb6630822a
