/-
  THE WALK of FnAppendOrdersAsTheAmounts.
-/
import Derived.Test.Qxb6630879aDoorCmp
namespace Go.Proofs.Qxb6630879aDoor
open Go.RowKit

theorem Bytes.kept {w w1 : World} {g o B : Nat} {X : List Int} (h : Bytes w g o X) (hg : g < B) (hb : Below B w w1) : Bytes w1 g o X := fun i hi => (hb.cell (by exact hg)).trans (h i hi)
theorem Bytes.tail {w : World} {g : Nat} {x : Int} {X : List Int} (h : Bytes w g 0 (x :: X)) : Bytes w g 1 X := fun i hi => by
  have := h (i + 1) (by simpa using hi)
  rw [show 1 + i = 0 + (i + 1) from by omega]
  simpa [at_] using this

theorem body_len (m : Int) (h0 : 0 ≤ m) (h1 : m ≤ 9223372036854775808) : 8 ≤ (body m).length ∧ (body m).length ≤ 27 := by
  obtain ⟨_, _, h3, _, _⟩ := dec_all (m / 1000000).toNat
  have h4 := dec_le (m / 1000000).toNat (by omega)
  rw [← dec_length] at h4
  simp [body, six]; omega
theorem body_head (m : Int) : 48 ≤ at_ (body m) 0 := by
  obtain ⟨h1, _, h3, _⟩ := dec_all (m / 1000000).toNat
  simp only [at_, body, List.getD]
  rw [List.getElem?_append_left (by omega), List.getElem?_eq_getElem (by omega)]
  exact (h1 _ (List.getElem_mem _)).1
theorem txt_len (a : Int) (h0 : -9223372036854775808 ≤ a) (h1 : a ≤ 9223372036854775807) : 8 ≤ (txt a).length ∧ (txt a).length ≤ 28 := by
  unfold txt
  split
  · have := body_len (-a) (by omega) (by omega); simp; omega
  · have := body_len a (by omega) (by omega); omega

/-- zzCmpSignedText at two texts: the sign of the difference. -/
theorem sig_txt (gx gy cx cy nx ny : Nat) (a c : Int) (a0 : -9223372036854775808 ≤ a) (a1 : a ≤ 9223372036854775807) (c0 : -9223372036854775808 ≤ c) (c1 : c ≤ 9223372036854775807) (w : World) (hX : (txt a).length = nx) (hY : (txt c).length = ny) (hcx : nx ≤ cx) (hcy : ny ≤ cy) (hx : Bytes w gx 0 (txt a)) (hy : Bytes w gy 0 (txt c)) :
    Calls Tryd.prog 8 #[.slice (some ⟨gx, 0, none⟩) nx cx, .slice (some ⟨gy, 0, none⟩) ny cy] w fun e w' => e = .returned (.int .i64 (sgn (a - c))) ∧ ∃ n, w' = w.drewN n := by
  have la := txt_len a a0 a1
  have lc := txt_len c c0 c1
  have ca : w.cell? ⟨gx, 0, none⟩ = some (.int .u8 (at_ (txt a) 0)) := hx 0 (by omega)
  have cc : w.cell? ⟨gy, 0, none⟩ = some (.int .u8 (at_ (txt c) 0)) := hy 0 (by omega)
  by_cases ha : a < 0
  · have ea : txt a = 45 :: body (-a) := by unfold txt; rw [if_pos ha]
    rw [ea] at ca hx hX la
    by_cases hc : c < 0
    · have ec : txt c = 45 :: body (-c) := by unfold txt; rw [if_pos hc]
      rw [ec] at cc hy hY lc
      simp only [List.length_cons] at hX hY la lc
      subst hX hY
      refine (sig_nn gx gy cx cy _ _ _ _ (body (-a)) (body (-c)) w ca cc rfl rfl rfl rfl (by omega) (by omega) (by omega) (by omega) hcx hcy hx.tail hy.tail).mono ?_
      rintro _ w' ⟨rfl, h⟩
      refine ⟨ret_int ?_, h⟩
      rw [body_cmp _ _ (by omega) (by omega)]
      unfold sgn
      (repeat' split) <;> omega
    · have ec : txt c = body c := by unfold txt; rw [if_neg hc]
      rw [ec] at cc hy hY lc
      refine (sig_np gx gy cx cy nx ny _ _ w ca cc (by omega) (by omega) rfl (beq_eq_false_iff_ne.2 (by have := body_head c; omega))).mono ?_
      rintro _ w' ⟨rfl, h⟩
      refine ⟨ret_int ?_, h⟩
      unfold sgn; rw [if_pos (by omega)]
  · have ea : txt a = body a := by unfold txt; rw [if_neg ha]
    rw [ea] at ca hx hX la
    by_cases hc : c < 0
    · have ec : txt c = 45 :: body (-c) := by unfold txt; rw [if_pos hc]
      rw [ec] at cc hy hY lc
      refine (sig_pn gx gy cx cy nx ny _ _ w ca cc (by omega) (by omega) (beq_eq_false_iff_ne.2 (by have := body_head a; omega)) rfl).mono ?_
      rintro _ w' ⟨rfl, h⟩
      refine ⟨ret_int ?_, h⟩
      unfold sgn; rw [if_neg (by omega), if_pos (by omega)]
    · have ec : txt c = body c := by unfold txt; rw [if_neg hc]
      rw [ec] at cc hy hY lc
      refine (sig_pp gx gy cx cy nx ny (body a) (body c) w hX hY (by omega) (by omega) hx hy (by omega) (by omega) (body_head a) (body_head c)).mono ?_
      rintro _ w' ⟨rfl, h⟩
      exact ⟨ret_int (body_cmp a c (by omega) (by omega)), h⟩

/-- What Append onto nil gives. -/
theorem app_nil (a : Int) (a0 : -9223372036854775808 ≤ a) (a1 : a ≤ 9223372036854775807) (w : World) (htab : Pow w) :
    Calls Tryd.prog 7 #[.int .i64 a, .slice none 0 0] w fun e w' => ∃ g cap, e = .returned (.slice (some ⟨g, 0, none⟩) (txt a).length cap) ∧ (txt a).length ≤ cap ∧ g < w'.heap.size ∧ Bytes w' g 0 (txt a) ∧ Below w.heap.size w w' := by
  refine (app_any w.heap.size 0 a a0 a1 _ [] w (World.ownsRow_nil _ _ _ _) (Nat.le_refl _) (by omega) (fun _ h => htab.below h)).mono ?_
  rintro e w' ⟨v, rfl, hown, hb⟩
  have hl := txt_len a a0 a1
  simp only [Nat.zero_add, List.nil_append] at hown
  have hown' := hown
  rcases hown.2 with ⟨_, h0⟩ | ⟨g, cap, cur, hv, _, hg, hc, _⟩
  · omega
  · subst hv
    exact ⟨g, cap, rfl, hc, (Array.getElem?_eq_some_iff.1 hg).1, bytes_of_own hown', hb⟩

set_option maxHeartbeats 400000 in
theorem ord_walk (a c : Int) (a0 : -9223372036854775808 ≤ a) (a1 : a ≤ 9223372036854775807) (c0 : -9223372036854775808 ≤ c) (c1 : c ≤ 9223372036854775807) (w : World) (htab : Pow w) :
    Calls Tryd.prog 4 #[.int .i64 a, .int .i64 c] w fun e w' => e = .returned (.bool true) ∧ Below w.heap.size w w' := by
  rcases (show a < c ∨ a = c ∨ c < a by omega) with h | h | h
  · have hs : Hid (sgn (a - c) = -1) := by unfold Hid sgn; rw [if_pos (by omega)]
    go_enter Tryd.func4, Tryd.ntmps4
    go_wp2_with fail
    refine (app_nil a a0 a1 w htab).mono ?_
    rintro _ w1 ⟨g1, cap1, rfl, hc1, hg1, hx1, hb1⟩
    go_wp2_with fail
    refine (app_nil c c0 c1 w1 (htab.below hb1)).mono ?_
    rintro _ w2 ⟨g2, cap2, rfl, hc2, hg2, hx2, hb2⟩
    go_wp2_with fail
    refine (sig_txt g1 g2 cap1 cap2 _ _ a c a0 a1 c0 c1 w2 rfl rfl hc1 hc2 (hx1.kept hg1 hb2) hx2).mono ?_
    rintro _ w3 ⟨rfl, n, rfl⟩
    rw [hs.out]
    go_wp2
    go_ret
    exact ⟨rfl, hb1.trans ((hb2.mono hb1.size).trans (below_draws _ _ _))⟩
  · subst h
    have hs : Hid (sgn (a - a) = 0) := by unfold Hid sgn; rw [if_neg (by omega), if_neg (by omega)]
    go_enter Tryd.func4, Tryd.ntmps4
    go_wp2_with fail
    refine (app_nil a a0 a1 w htab).mono ?_
    rintro _ w1 ⟨g1, cap1, rfl, hc1, hg1, hx1, hb1⟩
    go_wp2_with fail
    refine (app_nil a c0 c1 w1 (htab.below hb1)).mono ?_
    rintro _ w2 ⟨g2, cap2, rfl, hc2, hg2, hx2, hb2⟩
    go_wp2_with fail
    refine (sig_txt g1 g2 cap1 cap2 _ _ a a a0 a1 c0 c1 w2 rfl rfl hc1 hc2 (hx1.kept hg1 hb2) hx2).mono ?_
    rintro _ w3 ⟨rfl, n, rfl⟩
    rw [hs.out]
    go_wp2
    go_ret
    exact ⟨rfl, hb1.trans ((hb2.mono hb1.size).trans (below_draws _ _ _))⟩
  · have hs : Hid (sgn (a - c) = 1) := by unfold Hid sgn; rw [if_neg (by omega), if_pos (by omega)]
    go_enter Tryd.func4, Tryd.ntmps4
    go_wp2_with fail
    refine (app_nil a a0 a1 w htab).mono ?_
    rintro _ w1 ⟨g1, cap1, rfl, hc1, hg1, hx1, hb1⟩
    go_wp2_with fail
    refine (app_nil c c0 c1 w1 (htab.below hb1)).mono ?_
    rintro _ w2 ⟨g2, cap2, rfl, hc2, hg2, hx2, hb2⟩
    go_wp2_with fail
    refine (sig_txt g1 g2 cap1 cap2 _ _ a c a0 a1 c0 c1 w2 rfl rfl hc1 hc2 (hx1.kept hg1 hb2) hx2).mono ?_
    rintro _ w3 ⟨rfl, n, rfl⟩
    rw [hs.out]
    go_wp2
    go_ret
    exact ⟨rfl, hb1.trans ((hb2.mono hb1.size).trans (below_draws _ _ _))⟩
end Go.Proofs.Qxb6630879aDoor
