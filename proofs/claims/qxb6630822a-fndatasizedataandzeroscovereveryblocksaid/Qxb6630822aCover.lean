/-
  THE WALK of FnDataSizeDataAndZerosCoverEveryBlock.
-/
import Derived.Test.Qxb6630822aCalls
import Derived.WalkKit
import Derived.WalkSpells
import Derived.WalkLawsBesides
import Derived.Deep.RegionWith
import Derived.BigRegion
namespace Go.Proofs.Qxb6630822a.cov
open Go.RowKit
open Go.Proofs.Qxb6630822a

theorem nil_fin : IntKind.i64.wrap (wrap64 (M.raw []) + wrap64 (M.raw [])) = IntKind.i64.wrap 0 := by
  rw [M.wrapEq, M.wrapEq, M.wrap_add]; simp [M.raw]
theorem at_flip (E : List (Int × Int × Bool)) (i : Nat) (h : i < E.length) : M.at_ (E.map M.flip) i = M.flip (M.at_ E i) := by
  simp [M.at_, h]

theorem Lies.kept {w w1 : World} {ao : Option Addr} {E : List (Int × Int × Bool)} {B : Nat} (h : Lies w ao E) (hB : w.heap.size ≤ B) (hb : Below B w w1) : Lies w1 ao E := by
  rcases h with h | ⟨b, off, rfl, hc⟩
  · exact .inl h
  · refine .inr ⟨b, off, rfl, fun i hi => ?_⟩
    obtain ⟨c0, c1, c2⟩ := hc i hi
    have hlt : b < B := Nat.lt_of_lt_of_le (World.block_lt_of_cell? w _ c0) hB
    exact ⟨(hb.cell (by exact hlt)).trans c0, (hb.cell (by exact hlt)).trans c1, (hb.cell (by exact hlt)).trans c2⟩
theorem RLies.kept {w w1 : World} {ao : Option Addr} {R : List (Int × Int)} {B : Nat} (h : RLies w ao R) (hB : w.heap.size ≤ B) (hb : Below B w w1) : RLies w1 ao R := by
  rcases h with h | ⟨b, off, rfl, hc⟩
  · exact .inl h
  · refine .inr ⟨b, off, rfl, fun i hi => ?_⟩
    obtain ⟨c0, c1⟩ := hc i hi
    have hlt : b < B := Nat.lt_of_lt_of_le (World.block_lt_of_cell? w _ c0) hB
    exact ⟨(hb.cell (by exact hlt)).trans c0, (hb.cell (by exact hlt)).trans c1⟩

/-- What the filling loop knows of the new slice. -/
def Fill (W : World) (g : Nat) (E : List (Int × Int × Bool)) (k : Nat) (wr : World) : Prop :=
  Blk wr g 34 (E.length * 3) (ExtP (E.map M.flip) k) ∧ Below g W wr ∧ g < wr.heap.size
theorem Fill.old {w3 : World} (o : Obj) {k : Nat} {E : List (Int × Int × Bool)} {wr : World} (h : Fill (w3.alloc o) (w3.heap.size + 1) E k wr) : Below w3.heap.size w3 wr :=
  ((Below.refl _ _).alloc (Nat.le_refl _) _).trans (h.2.1.mono (by omega))
theorem fill_start (W : World) (g : Nat) (E : List (Int × Int × Bool)) (hg : g = W.heap.size) : Fill W g E 0 (W.alloc (.cells (madeCells #[.int .i64 0, .int .i64 0, .bool false] (E.length * 3)) 34)) := by
  subst hg
  exact ⟨made_blk _ _ _ _ _ (fun i hi => by omega), (Below.refl _ _).alloc (Nat.le_refl _) _, by simp⟩
theorem Fill.lies {W : World} {g : Nat} {E : List (Int × Int × Bool)} {wr : World} (h : Fill W g E E.length wr) : Lies wr (some ⟨g, 0, none⟩) (E.map M.flip) := by
  obtain ⟨⟨cur, hcur, _, hp⟩, _⟩ := h
  refine .inr ⟨g, 0, rfl, fun i hi => ?_⟩
  obtain ⟨p0, p1, p2⟩ := hp i (by simpa using hi)
  simp only [Nat.zero_add]
  rw [cell_of_row wr _ _ cur 34 (0, 0) hcur, cell_of_row wr _ _ cur 34 (0, 0) hcur, cell_of_row wr _ _ cur 34 (0, 0) hcur]
  exact ⟨p0, p1, p2⟩

theorem fill_step {W : World} {g k : Nat} {E : List (Int × Int × Bool)} {wr : World} {cur : Array Value} {a0 a1 : Int} {a2 : Bool} (h : Fill W g E k wr) (hcur : wr.heap[g]? = some (.cells cur 34 (0, 0))) (hcs : cur.size = E.length * 3) (hm : k * 3 + 2 < E.length * 3) (hp : ExtP (E.map M.flip) k cur)
    (he : M.at_ (E.map M.flip) k = (a0, a1, a2)) : Fill W g E (k + 1) (((wr.setCell ⟨g, k * 3, none⟩ (.int .i64 a0)).setCell ⟨g, k * 3 + 1, none⟩ (.int .i64 a1)).setCell ⟨g, k * 3 + 2, none⟩ (.bool a2)).drew :=
  ⟨ext_store hcur hcs hm hp he, (((h.2.1.setCell (Nat.le_refl _) _).setCell (Nat.le_refl _) _).setCell (Nat.le_refl _) _).drew, by have := h.2.2; simpa [World.setCell] using this⟩

theorem data_n (v0 v1 : Value) (ao : Option Addr) (n cap : Nat) (E : List (Int × Int × Bool)) (w : World) (hn : E.length = n) (hE : E.length ≤ 1000000) (hl : Lies w ao E) :
    Calls Try.prog 9 #[.agg #[v0, v1, .slice ao n cap]] w fun e w' => e = .returned (.int .i64 (wrap64 (M.raw E))) ∧ Below w.heap.size w w' := by
  subst hn
  exact data_any v0 v1 ao cap E w hE hl
theorem Lies.drew {w : World} {ao : Option Addr} {E : List (Int × Int × Bool)} (h : Lies w ao E) : Lies w.drew ao E := h
theorem behind {W w9 : World} {b : Nat} {x0 x1 x2 : Value} {zo : Option Addr} {E : List (Int × Int × Bool)} (hs : b < W.heap.size) (hl : Lies W zo E) (d0 : W.cell? ⟨b, 0, none⟩ = some x0) (d1 : W.cell? ⟨b, 1, none⟩ = some x1) (d2 : W.cell? ⟨b, 2, none⟩ = some x2)
    (h : Below W.drew.heap.size W.drew w9) : Lies w9 zo E ∧ w9.cell? ⟨b, 0, none⟩ = some x0 ∧ w9.cell? ⟨b, 1, none⟩ = some x1 ∧ w9.cell? ⟨b, 2, none⟩ = some x2 ∧ Below W.heap.size W w9 := by
  have h' : Below W.heap.size W w9 := ⟨h.os, h.tape, h.output, h.size, h.block⟩
  exact ⟨Lies.kept hl (Nat.le_refl _) h', (h'.cell (by exact hs)).trans d0, (h'.cell (by exact hs)).trans d1, (h'.cell (by exact hs)).trans d2, h'⟩

set_option maxHeartbeats 1000000 in
theorem cov_some (v : Int) (ro : Option Addr) (x : Addr) (rc xc : Nat) (R : List (Int × Int)) (E : List (Int × Int × Bool)) (w : World)
    (hR : R.length ≤ 16384) (hE : E.length ≤ 16384) (hr : RLies w ro R) (hx : Lies w (some x) E) (r0 : ro = none → R = [] ∧ rc = 0) :
    Calls Try.prog 4 #[.int .u64 v, .slice ro R.length rc, .slice (some x) E.length xc] w fun e w' => e = .returned (.bool true) ∧ Below w.heap.size w w' := by
  have hmk := make30 E.length (by omega)
  have q := fun a l c w => run_neq_slice_nil_any (P := Try.prog) w 24 26 a l c 0 0 Try.underlying24
  have t1 : decide ((16384 : Int) < (R.length : Int)) = false := by simp; omega
  have t2 : decide ((16384 : Int) < (E.length : Int)) = false := by simp; omega
  go_enter Try.func4, Try.ntmps4
  go_wp2_with fail
  refine (bytes10_any _ _ _ _ _ _ _ _).mono ?_
  rintro _ w1 ⟨y, rfl, hb1⟩
  cases y
  · go_wp2
    go_ret
    exact ⟨rfl, hb1⟩
  · go_wp2_with fail
    refine (runs_any _ _ R _ hR (RLies.kept hr (Nat.le_refl _) hb1) r0).mono ?_
    rintro _ w2 ⟨yo, yn, yc, rfl, hb2⟩
    go_wp2_with fail
    have hw2 : Below w.heap.size w w2 := hb1.trans (hb2.mono hb1.size)
    refine (exts_any _ _ E _ hE (Lies.kept hx (Nat.le_refl _) hw2) (fun h => by cases h)).mono ?_
    rintro _ w3 ⟨zo, zc, rfl, hz, hb3⟩
    have hw3 : Below w.heap.size w w3 := hw2.trans (hb3.mono hw2.size)
    go_wp2_with fail
    go_loopw [10] (fun i wr => ∃ k : Nat, k ≤ E.length ∧ i = .int .i64 k ∧ Fill (w3.alloc (.cells #[.int .u64 v, .slice yo yn yc, .slice zo E.length zc] 33)) (w3.heap.size + 1) E k wr) (fun i _ => E.length - (intOf i).toNat)
    case atStart => exact ⟨0, Nat.zero_le _, rfl, fill_start _ _ _ (by simp)⟩
    case round =>
      obtain ⟨k, hk, rfl, hh⟩ := hrel
      by_cases hlt : k < E.length
      · obtain ⟨b, off, hx1, hbw, c0, c1, c2⟩ := (Lies.kept hx (Nat.le_refl _) hw3).round (w := w3) (wr := wr) (hh.old _) (k := k) (by omega)
        obtain rfl := Option.some.inj hx1
        clear hx1
        have HE := at_flip E k hlt
        generalize he : M.at_ E k = e at *
        obtain ⟨a0, a1, a2⟩ := e
        clear he
        have HE' : Hid (M.at_ (E.map M.flip) k = (a0, a1, !a2)) := HE
        clear HE
        simp only [] at c0 c1 c2
        obtain ⟨cur, hcur, hcs, hp⟩ := hh.1
        obtain ⟨o0, d0⟩ := cell_ex hcur (k * 3) (by omega)
        obtain ⟨o1, d1⟩ := cell_ex hcur (k * 3 + 1) (by omega)
        obtain ⟨o2, d2⟩ := cell_ex hcur (k * 3 + 2) (by omega)
        have f0 := fun j => frozen_of_row wr (w3.heap.size + 1) j cur 34 hcur
        have i1 : (k : Int) < (E.length : Int) := by omega
        have hst := fill_step hh hcur hcs (by omega) hp HE'.out
        clear hp hcs hcur
        go_wp2_with fail
        go_region
        clear d0 d1 d2 f0 c0 c1 c2
        go_wp2
        go_roundw
        case rel => exact ⟨k + 1, by omega, by go_num, hst⟩
        case measure => simp [intOf]; omega
      · have hkE : k = E.length := by omega
        subst hkE
        have hLF : Lies wr (some ⟨w3.heap.size + 1, 0, none⟩) (E.map M.flip) := hh.lies
        have hLE : Lies wr zo E := Lies.kept hz (Nat.le_refl _) (hh.old _)
        have hLX : Lies wr (some x) E := Lies.kept hx (Nat.le_refl _) (hw3.trans ((hh.old _).mono hw3.size))
        have hbw : Below w.heap.size w wr := hw3.trans ((hh.old _).mono hw3.size)
        have d0 : wr.cell? ⟨w3.heap.size, 0, none⟩ = some (.int .u64 v) := (hh.2.1.cell (by simp)).trans (by simp)
        have d1 : wr.cell? ⟨w3.heap.size, 1, none⟩ = some (.slice yo yn yc) := (hh.2.1.cell (by simp)).trans (by simp)
        have d2 : wr.cell? ⟨w3.heap.size, 2, none⟩ = some (.slice zo E.length zc) := (hh.2.1.cell (by simp)).trans (by simp)
        have hs4 := hh.2.2
        have hs5 : w3.heap.size < wr.heap.size := by omega
        clear hh hb1 hb2 hb3 hw2 hw3 hx hr hz hmk
        go_wp2_with fail
        obtain ⟨W, hW⟩ : ∃ W, W = wr.alloc (.cells #[.int .u64 v, .slice yo yn yc, .slice (some ⟨w3.heap.size + 1, 0, none⟩) E.length E.length] 33) := ⟨_, rfl⟩
        rw [← hW]
        have g0 : W.cell? ⟨wr.heap.size, 0, none⟩ = some (.int .u64 v) := by rw [hW]; simp
        have g1 : W.cell? ⟨wr.heap.size, 1, none⟩ = some (.slice yo yn yc) := by rw [hW]; simp
        have g2 : W.cell? ⟨wr.heap.size, 2, none⟩ = some (.slice (some ⟨w3.heap.size + 1, 0, none⟩) E.length E.length) := by rw [hW]; simp
        have hbW : Below wr.heap.size wr W := by rw [hW]; exact (Below.refl _ _).alloc (Nat.le_refl _) _
        have d0' := (hbW.cell (p := ⟨w3.heap.size, 0, none⟩) (by exact hs5)).trans d0
        have d1' := (hbW.cell (p := ⟨w3.heap.size, 1, none⟩) (by exact hs5)).trans d1
        have d2' := (hbW.cell (p := ⟨w3.heap.size, 2, none⟩) (by exact hs5)).trans d2
        have hLF' : Lies W _ (E.map M.flip) := Lies.kept hLF (Nat.le_refl _) hbW
        have hLE' : Lies W _ E := Lies.kept hLE (Nat.le_refl _) hbW
        have hLX' : Lies W _ E := Lies.kept hLX (Nat.le_refl _) hbW
        have hbw' : Below w.heap.size w W := hbw.trans (hbW.mono hbw.size)
        have hs7 : wr.heap.size < W.heap.size := by rw [hW]; simp
        clear hW d0 d1 d2 hLF hLE hLX hbw hbW
        go_loop [12, 13] (fun n i => ∃ m : Nat, m ≤ E.length ∧ i = .int .i64 m ∧ n = .int .i64 (wrap64 (M.cnt (E.take m)))) (fun _ i => E.length - (intOf i).toNat)
        case atStart => exact ⟨0, Nat.zero_le _, rfl, by simp [M.cnt, wrap64]⟩
        case round =>
          obtain ⟨m, hm, rfl, rfl⟩ := hrel
          by_cases hlt2 : m < E.length
          · obtain ⟨b, off, hx1, hbw, c0, c1, c2⟩ := hLX'.round (Below.refl _ _) hlt2
            obtain rfl := Option.some.inj hx1
            clear hx1
            have HS : Hid (M.cnt (E.take (m + 1)) = M.cnt (E.take m) + (M.at_ E m).2.1) := M.cnt_step E m hlt2
            generalize M.at_ E m = e at *
            obtain ⟨a0, a1, a2⟩ := e
            simp only [] at c0 c1 c2
            go_wp2
            go_round
            case rel => exact ⟨m + 1, by omega, by go_num, by rw [HS.out, M.wrap_add_left]⟩
            case measure => simp [intOf]; omega
          · have hmE : m = E.length := by omega
            subst hmE
            have HF : Hid (M.raw E + M.raw (E.map M.flip) = M.cnt E * 4096) := M.raw_flip E
            have hlen : (E.map M.flip).length = E.length := by simp
            have HL : Hid ((E.map M.flip).length = E.length) := hlen
            clear hlen hLX'
            rw [List.take_length]
            go_wp2_with fail
            go_region_with (first
              | (go_at_call_of 9 (Value.slice zo E.length zc); refine (data_n _ _ _ _ _ E _ rfl (by omega) ?_).mono ?_; exact Lies.drew hLE'; rintro e w9 ⟨rfl, hb9⟩; obtain ⟨hLE9, d0'', d1'', d2'', hb9'⟩ := behind hs7 hLF' g0 g1 g2 hb9; clear hb9)
              | (go_at_call 9; refine (data_n _ _ _ _ _ (E.map M.flip) _ (HL.out) (by rw [HL.out]; omega) ?_).mono ?_; exact hLE9; rintro e w10 ⟨rfl, hb10⟩))
            all_goals go_wp2
            all_goals go_ret
            all_goals refine ⟨?_, hbw'.trans ((hb9'.trans (Below.mono ‹_› hb9'.size)).mono hbw'.size)⟩
            all_goals simp [Act.put]
            all_goals rw [M.wrapEq, M.wrapEq, M.wrap_add, M.wrap_mul, HF.out]

set_option maxHeartbeats 1000000 in
theorem cov_nil (v : Int) (ro : Option Addr) (rc : Nat) (R : List (Int × Int)) (w : World)
    (hR : R.length ≤ 16384) (hr : RLies w ro R) (r0 : ro = none → R = [] ∧ rc = 0) :
    Calls Try.prog 4 #[.int .u64 v, .slice ro R.length rc, .slice none 0 0] w fun e w' => e = .returned (.bool true) ∧ Below w.heap.size w w' := by
  have q := fun a l c w => run_neq_slice_nil_any (P := Try.prog) w 24 26 a l c 0 0 Try.underlying24
  have t1 : decide ((16384 : Int) < (R.length : Int)) = false := by simp; omega
  go_enter Try.func4, Try.ntmps4
  go_wp2_with fail
  refine (bytes10_any _ _ _ _ _ _ _ _).mono ?_
  rintro _ w1 ⟨y, rfl, hb1⟩
  cases y
  · go_wp2
    go_ret
    exact ⟨rfl, hb1⟩
  · go_wp2_with fail
    refine (runs_any _ _ R _ hR (RLies.kept hr (Nat.le_refl _) hb1) r0).mono ?_
    rintro _ w2 ⟨yo, yn, yc, rfl, hb2⟩
    go_wp2_with fail
    have hw2 : Below w.heap.size w w2 := hb1.trans (hb2.mono hb1.size)
    refine (exts_nil _).mono ?_
    rintro _ w3 ⟨rfl, h3⟩
    have hw3 : Below w.heap.size w w3 := by rw [h3]; exact hw2
    clear h3 hb1 hb2 hw2 hr
    go_wp2_with fail
    obtain ⟨W, hW⟩ : ∃ W, W = (w3.alloc (.cells #[.int .u64 v, .slice yo yn yc, .slice none 0 0] 33)).alloc (.cells #[.int .u64 v, .slice yo yn yc, .slice none 0 0] 33) := ⟨_, rfl⟩
    rw [← hW]
    have g0 : W.cell? ⟨w3.heap.size + 1, 0, none⟩ = some (.int .u64 v) := by rw [hW]; simp
    have g1 : W.cell? ⟨w3.heap.size + 1, 1, none⟩ = some (.slice yo yn yc) := by rw [hW]; simp
    have g2 : W.cell? ⟨w3.heap.size + 1, 2, none⟩ = some (.slice none 0 0) := by rw [hW]; simp
    have d0 : W.cell? ⟨w3.heap.size, 0, none⟩ = some (.int .u64 v) := by rw [hW]; simp
    have d1 : W.cell? ⟨w3.heap.size, 1, none⟩ = some (.slice yo yn yc) := by rw [hW]; simp
    have d2 : W.cell? ⟨w3.heap.size, 2, none⟩ = some (.slice none 0 0) := by rw [hW]; simp
    have hbw' : Below w.heap.size w W := by rw [hW]; exact (hw3.alloc hw3.size _).alloc (by have := hw3.size; simp; omega) _
    have hs7 : w3.heap.size + 1 < W.heap.size := by rw [hW]; simp
    clear hW
    refine wp_loop_rounds 1 ?_
    rw [rounds_succ]
    go_wp2_with fail
    go_region_with (first
      | (go_at_call 9; refine (data_n _ _ _ _ _ [] _ rfl (by simp) ?_).mono ?_; exact (Or.inl rfl : Lies W.drew none []); rintro e w9 ⟨rfl, hb9⟩; obtain ⟨hLE9, d0'', d1'', d2'', hb9'⟩ := behind hs7 (Or.inl rfl : Lies W none []) g0 g1 g2 hb9; clear hb9)
      | (go_at_call 9; refine (data_n _ _ _ _ _ [] _ rfl (by simp) ?_).mono ?_; exact hLE9; rintro e w10 ⟨rfl, hb10⟩))
    all_goals go_wp2
    all_goals go_ret
    all_goals refine ⟨?_, hbw'.trans ((hb9'.trans (Below.mono ‹_› hb9'.size)).mono hbw'.size)⟩
    all_goals simp [Act.put]
    all_goals exact nil_fin
end Go.Proofs.Qxb6630822a.cov
