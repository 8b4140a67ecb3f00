/-
  THE WALK of FnEncodeMirrorFlipsSignBitAlone.
-/
import Derived.Test.Qxb6627421aFmtEncode
import Derived.BigRegion
namespace Go.Proofs.Qxb6627421aFmt
open Go.RowKit

theorem Tryf.info28 : (Tryf.prog.info? 28).map (fun i => (i.zero, i.size, i.bytes)) = some (some (.int .i16 0), 1, 2) := by kernel_rfl
theorem make22 (n : Nat) (hn : n ≤ 2000000) (w : World) : (Instr.makeSlice 22 (.int .i64 (n : Int)) (.int .i64 (n : Int))).run Tryf.prog w = .ok (.slice (some ⟨w.heap.size, 0, none⟩) n n) (w.alloc (.cells (madeCells #[.int .i16 0] n) 28)) :=
  run_make_row' (P := Tryf.prog) 22 28 (.int .i16 0) 2 Tryf.underlying22 Tryf.info28 rfl .i64 .i64 n (by omega) (by omega) w
theorem at_mirror (X : List Int) (j : Nat) (h : j < X.length) : at_ (X.map fun x => -1 - x) j = -1 - at_ X j := by
  simp [at_, h]
theorem mirror_range {X : List Int} (h : InRange X) : InRange (X.map fun x => -1 - x) := by
  intro i hi
  have hi' : i < X.length := by simpa using hi
  rw [at_mirror X i hi']
  have := h i hi'
  omega
theorem mirror_lies {X : List Int} {w : World} {g n : Nat} (hX : X.length = n) (h : Part w g 28 .i16 n n (fun i => -1 - at_ X i)) : Lies w (some ⟨g, 0, none⟩) (X.map fun x => -1 - x) := by
  refine .inr ⟨g, 0, rfl, fun i hi => ?_⟩
  have hi' : i < X.length := by simpa using hi
  rw [Nat.zero_add, at_mirror X i hi']
  exact h.cell (by omega)

set_option maxHeartbeats 1000000 in
theorem mirror_u (so : Option Addr) (sc n : Nat) (X : List Int) (w : World) (HX : Hid (X.length = n)) (hn : n ≤ 65536) (hr : InRange X) (hl : Lies w so X) :
    Calls Tryf.prog 4 #[.int .u8 0, .slice so n sc] w fun e w' => e = .returned (.bool true) ∧ Below w.heap.size w w' := by
  have t2 : decide ((65536 : Int) < (n : Int)) = false := by simp; omega
  have t3 : ((n : Int) != (n : Int)) = false := by simp
  have hmk := make22 n (by omega)
  go_enter Tryf.func4, Tryf.ntmps4
  go_wp2_with fail
  refine (bytes9_any _ _ _ _ _).mono ?_
  rintro _ w1 ⟨y, rfl, hw1⟩
  subst hw1
  cases y
  · go_wp2
    go_ret
    exact ⟨rfl, Below.refl _ _⟩
  · go_wp2_with fail
    go_loopw [7] (fun i wr => ∃ k : Nat, k ≤ n ∧ i = .int .i64 k ∧ Part wr w1.heap.size 28 .i16 n k (fun i => -1 - at_ X i) ∧ Below w1.heap.size w1 wr) (fun i _ => n - (intOf i).toNat)
    case atStart => exact ⟨0, Nat.zero_le _, rfl, ⟨_, heap_alloc_new w1 _, size_madeCells _ _, fun i hi => by omega⟩, (Below.refl _ _).alloc (Nat.le_refl _) _⟩
    case round =>
      obtain ⟨k, hk, rfl, hp, hb⟩ := hrel
      by_cases hlt : k < n
      · obtain ⟨b, off, rfl, hbw, c1⟩ := hl.round hb (k := k) (by rw [HX.out]; exact hlt)
        obtain ⟨r0, r1⟩ := hr k (by rw [HX.out]; exact hlt)
        obtain ⟨⟨o, d1⟩, f1, hst⟩ := hp.step hlt
        have HS : Hid (Part (wr.setCell ⟨w1.heap.size, k, none⟩ (.int .i16 (-1 - at_ X k))) w1.heap.size 28 .i16 n (k + 1) (fun i => -1 - at_ X i)) := hst
        clear hst hp
        generalize at_ X k = x at *
        go_wp2
        go_roundw
        case rel => exact ⟨k + 1, by omega, by go_num, HS.out, hb.setCell (Nat.le_refl _) _⟩
        case measure => simp [intOf]; omega
      · have hkn : k = n := by omega
        subst hkn
        go_wp2_with fail
        refine (encode_any 0 (.inl rfl) so sc k X wr HX.out hn hr (hl.kept (Nat.le_refl _) hb)).mono ?_
        rintro _ w2 ⟨rfl, hp2, hb2⟩
        have hwr : w1.heap.size < wr.heap.size := hp.lt
        have hp' : Part w2 w1.heap.size 28 .i16 k k (fun i => -1 - at_ X i) := hp.kept hwr hb2
        go_wp2_with fail
        refine (encode_any 0 (.inl rfl) (some ⟨w1.heap.size, 0, none⟩) k k (X.map fun x => -1 - x) w2 (by rw [List.length_map]; exact HX.out) hn (mirror_range hr) (mirror_lies HX.out hp')).mono ?_
        rintro _ w3 ⟨rfl, hp3, hb3⟩
        have hp2' := hp2.kept hp2.lt hb3
        have hbel : Below w1.heap.size w1 w3 := hb.trans ((hb2.mono hb.size).trans (hb3.mono (Nat.le_trans hb.size hb2.size)))
        clear hp' hp hp2 hb hb2 hb3
        generalize wr.heap.size = ga at *
        generalize w2.heap.size = gb at *
        go_wp2_with fail
        go_loopw [10] (fun i ws => ∃ j m : Nat, j ≤ k ∧ i = .int .i64 j ∧ ws = w3.drewN m) (fun i _ => k - (intOf i).toNat)
        case atStart => exact ⟨0, 0, Nat.zero_le _, rfl, rfl⟩
        case round =>
          obtain ⟨j, m, hj, rfl, rfl⟩ := hrel
          by_cases hjk : j < k
          · obtain ⟨b, off, rfl, hbw, c1⟩ := hl.round hbel (k := j) (by rw [HX.out]; exact hjk)
            have c2 := hp2'.cell hjk
            have c3 := hp3.cell hjk
            have em : at_ (X.map fun x => -1 - x) j = -1 - at_ X j := at_mirror X j (by rw [HX.out]; exact hjk)
            simp only [em] at c3
            obtain ⟨e1, e2, e3⟩ := enc_mirror 0 (at_ X j) (.inl rfl)
            clear em
            generalize at_ X j = x at *
            generalize enc 0 x = p at *
            generalize enc 0 (-1 - x) = q at *
            have i1 : (j : Int) < (k : Int) := by omega
            by_cases hx : x < 0
            · have e4 := e3 hx
              have b1 : decide (0 ≤ x) = false := decide_eq_false (by omega)
              have b2 : decide (128 ≤ p) = false := decide_eq_false (by omega)
              clear e2 e3
              go_wp2_with fail
              go_region
              go_wp2_with fail
              go_region
              go_wp2
              go_roundw
              case rel => exact ⟨j + 1, m + 1 + 1, by omega, by go_num, rfl⟩
              case measure => simp [intOf]; omega
            · have e4 := e2 (by omega)
              have b1 : decide (0 ≤ x) = true := decide_eq_true (by omega)
              have b2 : decide (128 ≤ p) = true := decide_eq_true (by omega)
              clear e2 e3
              go_wp2_with fail
              go_region
              go_wp2_with fail
              go_region
              go_wp2
              go_roundw
              case rel => exact ⟨j + 1, m + 1 + 1, by omega, by go_num, rfl⟩
              case measure => simp [intOf]; omega
          · go_wp2
            go_ret
            exact ⟨rfl, hbel.trans ⟨rfl, rfl, rfl, Nat.le_refl _, fun _ _ => rfl⟩⟩

set_option maxHeartbeats 1000000 in
theorem mirror_a (so : Option Addr) (sc n : Nat) (X : List Int) (w : World) (HX : Hid (X.length = n)) (hn : n ≤ 65536) (hr : InRange X) (hl : Lies w so X) :
    Calls Tryf.prog 4 #[.int .u8 8, .slice so n sc] w fun e w' => e = .returned (.bool true) ∧ Below w.heap.size w w' := by
  have t2 : decide ((65536 : Int) < (n : Int)) = false := by simp; omega
  have t3 : ((n : Int) != (n : Int)) = false := by simp
  have hmk := make22 n (by omega)
  go_enter Tryf.func4, Tryf.ntmps4
  go_wp2_with fail
  refine (bytes9_any _ _ _ _ _).mono ?_
  rintro _ w1 ⟨y, rfl, hw1⟩
  subst hw1
  cases y
  · go_wp2
    go_ret
    exact ⟨rfl, Below.refl _ _⟩
  · go_wp2_with fail
    go_loopw [7] (fun i wr => ∃ k : Nat, k ≤ n ∧ i = .int .i64 k ∧ Part wr w1.heap.size 28 .i16 n k (fun i => -1 - at_ X i) ∧ Below w1.heap.size w1 wr) (fun i _ => n - (intOf i).toNat)
    case atStart => exact ⟨0, Nat.zero_le _, rfl, ⟨_, heap_alloc_new w1 _, size_madeCells _ _, fun i hi => by omega⟩, (Below.refl _ _).alloc (Nat.le_refl _) _⟩
    case round =>
      obtain ⟨k, hk, rfl, hp, hb⟩ := hrel
      by_cases hlt : k < n
      · obtain ⟨b, off, rfl, hbw, c1⟩ := hl.round hb (k := k) (by rw [HX.out]; exact hlt)
        obtain ⟨r0, r1⟩ := hr k (by rw [HX.out]; exact hlt)
        obtain ⟨⟨o, d1⟩, f1, hst⟩ := hp.step hlt
        have HS : Hid (Part (wr.setCell ⟨w1.heap.size, k, none⟩ (.int .i16 (-1 - at_ X k))) w1.heap.size 28 .i16 n (k + 1) (fun i => -1 - at_ X i)) := hst
        clear hst hp
        generalize at_ X k = x at *
        go_wp2
        go_roundw
        case rel => exact ⟨k + 1, by omega, by go_num, HS.out, hb.setCell (Nat.le_refl _) _⟩
        case measure => simp [intOf]; omega
      · have hkn : k = n := by omega
        subst hkn
        go_wp2_with fail
        refine (encode_any 8 (.inr rfl) so sc k X wr HX.out hn hr (hl.kept (Nat.le_refl _) hb)).mono ?_
        rintro _ w2 ⟨rfl, hp2, hb2⟩
        have hwr : w1.heap.size < wr.heap.size := hp.lt
        have hp' : Part w2 w1.heap.size 28 .i16 k k (fun i => -1 - at_ X i) := hp.kept hwr hb2
        go_wp2_with fail
        refine (encode_any 8 (.inr rfl) (some ⟨w1.heap.size, 0, none⟩) k k (X.map fun x => -1 - x) w2 (by rw [List.length_map]; exact HX.out) hn (mirror_range hr) (mirror_lies HX.out hp')).mono ?_
        rintro _ w3 ⟨rfl, hp3, hb3⟩
        have hp2' := hp2.kept hp2.lt hb3
        have hbel : Below w1.heap.size w1 w3 := hb.trans ((hb2.mono hb.size).trans (hb3.mono (Nat.le_trans hb.size hb2.size)))
        clear hp' hp hp2 hb hb2 hb3
        generalize wr.heap.size = ga at *
        generalize w2.heap.size = gb at *
        go_wp2_with fail
        go_loopw [10] (fun i ws => ∃ j m : Nat, j ≤ k ∧ i = .int .i64 j ∧ ws = w3.drewN m) (fun i _ => k - (intOf i).toNat)
        case atStart => exact ⟨0, 0, Nat.zero_le _, rfl, rfl⟩
        case round =>
          obtain ⟨j, m, hj, rfl, rfl⟩ := hrel
          by_cases hjk : j < k
          · obtain ⟨b, off, rfl, hbw, c1⟩ := hl.round hbel (k := j) (by rw [HX.out]; exact hjk)
            have c2 := hp2'.cell hjk
            have c3 := hp3.cell hjk
            have em : at_ (X.map fun x => -1 - x) j = -1 - at_ X j := at_mirror X j (by rw [HX.out]; exact hjk)
            simp only [em] at c3
            obtain ⟨e1, e2, e3⟩ := enc_mirror 8 (at_ X j) (.inr rfl)
            clear em
            generalize at_ X j = x at *
            generalize enc 8 x = p at *
            generalize enc 8 (-1 - x) = q at *
            have i1 : (j : Int) < (k : Int) := by omega
            by_cases hx : x < 0
            · have e4 := e3 hx
              have b1 : decide (0 ≤ x) = false := decide_eq_false (by omega)
              have b2 : decide (128 ≤ p) = false := decide_eq_false (by omega)
              clear e2 e3
              go_wp2_with fail
              go_region
              go_wp2_with fail
              go_region
              go_wp2
              go_roundw
              case rel => exact ⟨j + 1, m + 1 + 1, by omega, by go_num, rfl⟩
              case measure => simp [intOf]; omega
            · have e4 := e2 (by omega)
              have b1 : decide (0 ≤ x) = true := decide_eq_true (by omega)
              have b2 : decide (128 ≤ p) = true := decide_eq_true (by omega)
              clear e2 e3
              go_wp2_with fail
              go_region
              go_wp2_with fail
              go_region
              go_wp2
              go_roundw
              case rel => exact ⟨j + 1, m + 1 + 1, by omega, by go_num, rfl⟩
              case measure => simp [intOf]; omega
          · go_wp2
            go_ret
            exact ⟨rfl, hbel.trans ⟨rfl, rfl, rfl, Nat.le_refl _, fun _ _ => rfl⟩⟩

set_option maxHeartbeats 400000 in
theorem mirror_short (l : Int) (so : Option Addr) (n sc : Nat) (w : World) (h : 65536 < n) :
    Calls Tryf.prog 4 #[.int .u8 l, .slice so n sc] w fun e w' => e = .returned (.bool true) ∧ Below w.heap.size w w' := by
  go_enter Tryf.func4, Tryf.ntmps4
  go_wp2_with (go_at_call 9; refine (bytes9_any _ _ _ _ _).mono ?_; rintro _ w1 ⟨y, rfl, hw1⟩; subst hw1)
  all_goals go_ret
  all_goals exact ⟨rfl, Below.refl _ _⟩
set_option maxHeartbeats 400000 in
theorem mirror_other (l : Int) (so : Option Addr) (n sc : Nat) (w : World) (h : n ≤ 65536) (h0 : (l != 0) = true) (h8 : (l != 8) = true) :
    Calls Tryf.prog 4 #[.int .u8 l, .slice so n sc] w fun e w' => e = .returned (.bool true) ∧ Below w.heap.size w w' := by
  go_enter Tryf.func4, Tryf.ntmps4
  go_wp2_with (go_at_call 9; refine (bytes9_any _ _ _ _ _).mono ?_; rintro _ w1 ⟨y, rfl, hw1⟩; subst hw1)
  all_goals go_ret
  all_goals exact ⟨rfl, Below.refl _ _⟩
theorem mirror_any (l : Int) (so : Option Addr) (sc : Nat) (X : List Int) (w : World) (hr : InRange X) (hl : Lies w so X) :
    Calls Tryf.prog 4 #[.int .u8 l, .slice so X.length sc] w fun e w' => e = .returned (.bool true) ∧ Below w.heap.size w w' := by
  by_cases hn : X.length ≤ 65536
  · by_cases h0 : l = 0
    · subst h0; exact mirror_u so sc _ X w rfl hn hr hl
    · by_cases h8 : l = 8
      · subst h8; exact mirror_a so sc _ X w rfl hn hr hl
      · exact mirror_other l so _ sc w hn (bne_iff_ne.2 h0) (bne_iff_ne.2 h8)
  · exact mirror_short l so _ sc w (by omega)
end Go.Proofs.Qxb6627421aFmt
