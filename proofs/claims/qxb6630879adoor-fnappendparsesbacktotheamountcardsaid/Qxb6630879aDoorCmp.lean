/-
  The two comparing functions, walked.
-/
import Derived.Test.Qxb6630879aDoorMath
import Derived.WalkKit
import Derived.WalkSpells
import Derived.WalkLawsBesides
import Derived.BigRegion
import Derived.Deep.QuietTactic
import Derived.BigQuiet
namespace Go.Proofs.Qxb6630879aDoor
open Go.RowKit

/-- The signs X lie in block g from o on. -/
def Bytes (w : World) (g o : Nat) (X : List Int) : Prop := ∀ i, i < X.length → w.cell? ⟨g, o + i, none⟩ = some (.int .u8 (at_ X i))
theorem Bytes.draws {w : World} {g o : Nat} {X : List Int} (h : Bytes w g o X) (n : Nat) : Bytes (w.drewN n) g o X := h
theorem below_draws (B : Nat) (w : World) (n : Nat) : Below B w (w.drewN n) := ⟨rfl, rfl, rfl, Nat.le_refl _, fun _ _ => rfl⟩
theorem ret_int {k : IntKind} {a b : Int} (h : a = b) : Ending.returned (.int k a) = .returned (.int k b) := by rw [h]

set_option maxHeartbeats 400000 in
theorem mag_ne (gx ox gy oy cx cy : Nat) (X Y : List Int) (w : World) (h : X.length ≠ Y.length) :
    Calls Tryd.prog 10 #[.slice (some ⟨gx, ox, none⟩) X.length cx, .slice (some ⟨gy, oy, none⟩) Y.length cy] w fun e w' => e = .returned (.int .i64 (cmpM X Y)) ∧ ∃ n, w' = w.drewN n := by
  have t1 : ((X.length : Int) != (Y.length : Int)) = true := by rw [bne_iff_ne]; omega
  by_cases l : X.length < Y.length
  · go_enter Tryd.func10, Tryd.ntmps10
    go_wp2
    go_ret
    exact ⟨ret_int (by unfold cmpM; rw [if_neg h, if_pos l]), 0, rfl⟩
  · go_enter Tryd.func10, Tryd.ntmps10
    go_wp2
    go_ret
    exact ⟨ret_int (by unfold cmpM; rw [if_neg h, if_neg l]), 0, rfl⟩

theorem lex_drop (X Y : List Int) (k : Nat) (hx : k < X.length) (hy : k < Y.length) : lex (X.drop k) (Y.drop k) = if at_ X k = at_ Y k then lex (X.drop (k + 1)) (Y.drop (k + 1)) else if at_ X k < at_ Y k then -1 else 1 := by
  rw [List.drop_eq_getElem_cons hx, List.drop_eq_getElem_cons hy]
  simp [lex, at_, hx, hy]

set_option maxHeartbeats 400000 in
theorem mag_eq (gx ox gy oy cx cy n : Nat) (X Y : List Int) (w : World) (hn : n ≤ 1000) (hX : Hid (X.length = n)) (hY : Hid (Y.length = n)) (hx : Bytes w gx ox X) (hy : Bytes w gy oy Y) :
    Calls Tryd.prog 10 #[.slice (some ⟨gx, ox, none⟩) n cx, .slice (some ⟨gy, oy, none⟩) n cy] w fun e w' => e = .returned (.int .i64 (lex X Y)) ∧ ∃ n, w' = w.drewN n := by
  have t1 : ((n : Int) != (n : Int)) = false := by simp
  go_enter Tryd.func10, Tryd.ntmps10
  go_wp2
  go_loopw [5] (fun i wr => ∃ k m : Nat, k ≤ n ∧ i = .int .i64 k ∧ lex X Y = lex (X.drop k) (Y.drop k) ∧ wr = w.drewN m) (fun i _ => n - (intOf i).toNat)
  case atStart => exact ⟨0, 0, Nat.zero_le _, rfl, rfl, rfl⟩
  case round =>
    obtain ⟨k, m, hk, rfl, hl, rfl⟩ := hrel
    have HL : Hid (lex X Y = lex (X.drop k) (Y.drop k)) := hl
    clear hl
    by_cases hlt : k < n
    · have c1 := hx k (by rw [hX.out]; exact hlt)
      have c2 := hy k (by rw [hY.out]; exact hlt)
      have hs := lex_drop X Y k (by rw [hX.out]; exact hlt) (by rw [hY.out]; exact hlt)
      rw [← HL.out] at hs
      have HS : Hid (lex X Y = if at_ X k = at_ Y k then lex (X.drop (k + 1)) (Y.drop (k + 1)) else if at_ X k < at_ Y k then -1 else 1) := hs
      clear hs HL
      generalize at_ X k = p at *
      generalize at_ Y k = q at *
      have i1 : (k : Int) < (n : Int) := by omega
      by_cases hpq : p = q
      · subst hpq
        go_wp2_with fail
        go_region
        go_wp2
        go_roundw
        case rel => exact ⟨k + 1, m + 1, by omega, by go_num, by rw [HS.out]; simp, rfl⟩
        case measure => simp [intOf]; omega
      · have hne : (p != q) = true := by rw [bne_iff_ne]; exact hpq
        by_cases hl : p < q
        · go_wp2_with fail
          go_region
          go_wp2_with fail
          go_region
          go_wp2
          go_ret
          exact ⟨ret_int (by rw [HS.out, if_neg hpq, if_pos hl]), m + 1 + 1, rfl⟩
        · go_wp2_with fail
          go_region
          go_wp2_with fail
          go_region
          go_wp2
          go_ret
          exact ⟨ret_int (by rw [HS.out, if_neg hpq, if_neg (by omega)]), m + 1 + 1, rfl⟩
    · go_wp2
      go_ret
      exact ⟨ret_int (by rw [HL.out, List.drop_of_length_le (by rw [hX.out]; omega)]; rfl), m, rfl⟩

/-- zzCmpMagnitudeText. -/
theorem mag_any (gx ox gy oy cx cy nx ny : Nat) (X Y : List Int) (w : World) (hX : X.length = nx) (hY : Y.length = ny) (hn : nx ≤ 1000) (hx : Bytes w gx ox X) (hy : Bytes w gy oy Y) :
    Calls Tryd.prog 10 #[.slice (some ⟨gx, ox, none⟩) nx cx, .slice (some ⟨gy, oy, none⟩) ny cy] w fun e w' => e = .returned (.int .i64 (cmpM X Y)) ∧ ∃ n, w' = w.drewN n := by
  subst hX hY
  by_cases h : X.length = Y.length
  · have e : cmpM X Y = lex X Y := by unfold cmpM; rw [if_pos h]
    rw [e]
    have hr := mag_eq gx ox gy oy cx cy X.length X Y w hn rfl h.symm hx hy
    rw [← h]
    exact hr
  · exact mag_ne gx ox gy oy cx cy X Y w h

/-- Cells of an owned row, as signs. -/
theorem bytes_of_own {w : World} {B g n cap : Nat} {X : List Int} (h : w.ownsRow B 5 1 (.slice (some ⟨g, 0, none⟩) n cap) n (X.map (Value.int .u8))) : Bytes w g 0 X := by
  intro i hi
  have hl := h.1
  simp at hl
  rw [Nat.zero_add, h.cellAt i (by omega)]
  simp [at_, hi]

set_option maxHeartbeats 400000 in
theorem sig_pp (gx gy cx cy nx ny : Nat) (X Y : List Int) (w : World) (hX : X.length = nx) (hY : Y.length = ny) (hn : nx ≤ 1000) (hm : ny ≤ 1000) (hx : Bytes w gx 0 X) (hy : Bytes w gy 0 Y) (x1 : 1 ≤ nx) (y1 : 1 ≤ ny) (dx : 48 ≤ at_ X 0) (dy : 48 ≤ at_ Y 0) :
    Calls Tryd.prog 8 #[.slice (some ⟨gx, 0, none⟩) nx cx, .slice (some ⟨gy, 0, none⟩) ny cy] w fun e w' => e = .returned (.int .i64 (cmpM X Y)) ∧ ∃ n, w' = w.drewN n := by
  have c1 : w.cell? ⟨gx, 0, none⟩ = some (.int .u8 (at_ X 0)) := hx 0 (by omega)
  have c2 : w.cell? ⟨gy, 0, none⟩ = some (.int .u8 (at_ Y 0)) := hy 0 (by omega)
  have hc := mag_any gx 0 gy 0 cx cy nx ny X Y w hX hY hn hx hy
  have HX : Hid (Calls Tryd.prog 10 #[.slice (some ⟨gx, 0, none⟩) nx cx, .slice (some ⟨gy, 0, none⟩) ny cy] w fun e w' => e = .returned (.int .i64 (cmpM X Y)) ∧ ∃ n, w' = w.drewN n) := hc
  clear hc hX hY hx hy
  generalize at_ X 0 = p at *
  generalize at_ Y 0 = q at *
  have e1 : (p == 45) = false := by rw [beq_eq_false_iff_ne]; omega
  have e2 : (q == 45) = false := by rw [beq_eq_false_iff_ne]; omega
  have l1 : (0 : Int) < (nx : Int) := by omega
  have l2 : (0 : Int) < (ny : Int) := by omega
  go_enter Tryd.func8, Tryd.ntmps8
  go_wp2_with fail
  refine HX.out.mono ?_
  rintro _ w1 ⟨rfl, n, rfl⟩
  go_wp2
  go_ret
  exact ⟨rfl, n, rfl⟩

set_option maxHeartbeats 400000 in
theorem sig_np (gx gy cx cy nx ny : Nat) (p q : Int) (w : World) (c1 : w.cell? ⟨gx, 0, none⟩ = some (.int .u8 p)) (c2 : w.cell? ⟨gy, 0, none⟩ = some (.int .u8 q)) (x1 : 1 ≤ nx) (y1 : 1 ≤ ny) (dx : (p == 45) = true) (dy : (q == 45) = false) :
    Calls Tryd.prog 8 #[.slice (some ⟨gx, 0, none⟩) nx cx, .slice (some ⟨gy, 0, none⟩) ny cy] w fun e w' => e = .returned (.int .i64 (-1)) ∧ ∃ n, w' = w.drewN n := by
  have l1 : (0 : Int) < (nx : Int) := by omega
  have l2 : (0 : Int) < (ny : Int) := by omega
  go_enter Tryd.func8, Tryd.ntmps8
  go_wp2
  go_ret
  exact ⟨rfl, 0, rfl⟩
set_option maxHeartbeats 400000 in
theorem sig_pn (gx gy cx cy nx ny : Nat) (p q : Int) (w : World) (c1 : w.cell? ⟨gx, 0, none⟩ = some (.int .u8 p)) (c2 : w.cell? ⟨gy, 0, none⟩ = some (.int .u8 q)) (x1 : 1 ≤ nx) (y1 : 1 ≤ ny) (dx : (p == 45) = false) (dy : (q == 45) = true) :
    Calls Tryd.prog 8 #[.slice (some ⟨gx, 0, none⟩) nx cx, .slice (some ⟨gy, 0, none⟩) ny cy] w fun e w' => e = .returned (.int .i64 1) ∧ ∃ n, w' = w.drewN n := by
  have l1 : (0 : Int) < (nx : Int) := by omega
  have l2 : (0 : Int) < (ny : Int) := by omega
  go_enter Tryd.func8, Tryd.ntmps8
  go_wp2
  go_ret
  exact ⟨rfl, 0, rfl⟩

theorem lex_bd (X Y : List Int) : -1 ≤ lex X Y ∧ lex X Y ≤ 1 := by
  induction X generalizing Y with
  | nil => simp [lex]
  | cons x r ih =>
    cases Y with
    | nil => simp [lex]
    | cons y s =>
      simp only [lex]
      split
      · exact ih s
      · split <;> omega
theorem cmpM_bd (X Y : List Int) : -1 ≤ cmpM X Y ∧ cmpM X Y ≤ 1 := by
  unfold cmpM
  split
  · exact lex_bd X Y
  · split <;> omega

set_option maxHeartbeats 400000 in
theorem sig_nn (gx gy cx cy nx ny : Nat) (p q : Int) (X Y : List Int) (w : World) (c1 : w.cell? ⟨gx, 0, none⟩ = some (.int .u8 p)) (c2 : w.cell? ⟨gy, 0, none⟩ = some (.int .u8 q)) (dx : (p == 45) = true) (dy : (q == 45) = true)
    (hX : X.length = nx) (hY : Y.length = ny) (hn : nx ≤ 1000) (hm : ny ≤ 1000) (x1 : 1 ≤ nx) (y1 : 1 ≤ ny) (hcx : nx + 1 ≤ cx) (hcy : ny + 1 ≤ cy) (hx : Bytes w gx 1 X) (hy : Bytes w gy 1 Y) :
    Calls Tryd.prog 8 #[.slice (some ⟨gx, 0, none⟩) (nx + 1) cx, .slice (some ⟨gy, 0, none⟩) (ny + 1) cy] w fun e w' => e = .returned (.int .i64 (-cmpM X Y)) ∧ ∃ n, w' = w.drewN n := by
  have l1 : (0 : Int) < (nx : Int) + 1 := by omega
  have l2 : (0 : Int) < (ny : Int) + 1 := by omega
  have hc := mag_any gx 1 gy 1 (cx - 1) (cy - 1) nx ny X Y w hX hY hn hx hy
  have hb := cmpM_bd X Y
  generalize cmpM X Y = r at *
  have HX : Hid (Calls Tryd.prog 10 #[.slice (some ⟨gx, 1, none⟩) nx (cx - 1), .slice (some ⟨gy, 1, none⟩) ny (cy - 1)] w fun e w' => e = .returned (.int .i64 r) ∧ ∃ n, w' = w.drewN n) := hc
  have s1 : ¬ cx = 1 := by omega
  have s2 : ¬ cy = 1 := by omega
  obtain ⟨b1, b2⟩ := hb
  clear hc hX hY hx hy
  go_enter Tryd.func8, Tryd.ntmps8
  go_wp2_with fail
  refine HX.out.mono ?_
  rintro _ w1 ⟨rfl, n, rfl⟩
  go_wp2
  go_ret
  exact ⟨rfl, n, rfl⟩
end Go.Proofs.Qxb6630879aDoor
