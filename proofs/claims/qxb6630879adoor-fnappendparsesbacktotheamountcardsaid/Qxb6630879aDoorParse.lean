/-
  THE WALK of FnAppendParsesBackToTheAmount.
-/
import Derived.Test.Qxb6630879aDoorClone
import Derived.BigRegion
namespace Go.Proofs.Qxb6630879aDoor
open Go.RowKit

set_option maxHeartbeats 400000 in
theorem bytes_any (a : Int) (x : Option Addr) (n c : Nat) (w : World) :
    Calls Tryd.prog 5 #[.int .i64 a, .slice x n c] w fun e w' => ∃ y : Bool, e = .returned (.bool y) ∧ w' = w := by
  go_enter Tryd.func5, Tryd.ntmps5
  go_wp2
  all_goals go_ret
  all_goals exact ⟨_, rfl, rfl⟩

/-- What the reading back knows of a text: D the digits of the whole units, S the six behind the point, from place s on. -/
structure Shape (T D S : List Int) (s : Nat) (q r : Int) : Prop where
  len : T.length = s + D.length + 7
  nd1 : 1 ≤ D.length
  nd13 : D.length ≤ 13
  dig : ∀ j, j < D.length → at_ T (s + j) = at_ D j ∧ 48 ≤ at_ D j ∧ at_ D j ≤ 57
  pt : at_ T (s + D.length) = 46
  frc : ∀ j, j < 6 → at_ T (s + D.length + 1 + j) = at_ S j ∧ 48 ≤ at_ S j ∧ at_ S j ≤ 57
  hd : 2 ≤ D.length → 49 ≤ at_ D 0
  vd : val D = q
  vs : val S = r
  slen : S.length = 6
  dd : Digs D
  ds : Digs S

theorem at_mem (l : List Int) (j : Nat) (h : j < l.length) : at_ l j ∈ l := by
  simp only [at_, List.getD]; rw [List.getElem?_eq_getElem h]; exact List.getElem_mem _
theorem at_append_left (a b : List Int) (j : Nat) (h : j < a.length) : at_ (a ++ b) j = at_ a j := by
  simp only [at_, List.getD]; rw [List.getElem?_append_left h]
theorem at_append_right (a b : List Int) (j : Nat) : at_ (a ++ b) (a.length + j) = at_ b j := by
  simp only [at_, List.getD]; rw [List.getElem?_append_right (by omega)]; simp
theorem at_cons (x : Int) (l : List Int) (j : Nat) : at_ (x :: l) (j + 1) = at_ l j := by simp [at_]

theorem shape_body (m : Int) (h0 : 0 ≤ m) (h1 : m ≤ 9223372036854775808) : Shape (body m) (dec (m / 1000000).toNat) (six (m % 1000000)) 0 (m / 1000000) (m % 1000000) := by
  obtain ⟨d1, d2, d3, d4, d5, _, _, _⟩ := dec_all (m / 1000000).toNat
  have hp : (10 : Nat) ^ (12 + 1) = 10000000000000 := by decide
  have hq : (m / 1000000).toNat < 10 ^ (12 + 1) := by omega
  refine ⟨by simp [body, six], d3, d5 12 hq, fun j hj => ?_, ?_, fun j hj => ?_, d4, by rw [d2]; omega, six_val _ (by omega) (by omega), by simp [six], d1, six_digs _⟩
  · rw [Nat.zero_add]; unfold body; rw [at_append_left _ _ _ hj]; exact ⟨rfl, d1 _ (at_mem _ _ hj)⟩
  · rw [Nat.zero_add]; unfold body
    have := at_append_right (dec (m / 1000000).toNat) (46 :: six (m % 1000000)) 0
    rw [Nat.add_zero] at this; rw [this]; rfl
  · rw [Nat.zero_add]; unfold body
    rw [Nat.add_assoc, at_append_right, Nat.add_comm 1 j, at_cons]
    exact ⟨rfl, six_digs _ _ (at_mem _ _ (by simpa [six] using hj))⟩
theorem shape_neg {T D S : List Int} {q r : Int} (h : Shape T D S 0 q r) : Shape (45 :: T) D S 1 q r := by
  refine ⟨by rw [List.length_cons, h.len]; omega, h.nd1, h.nd13, fun j hj => ?_, ?_, fun j hj => ?_, h.hd, h.vd, h.vs, h.slen, h.dd, h.ds⟩
  · have := h.dig j hj; rw [Nat.zero_add] at this; rw [Nat.add_comm 1 j, at_cons]; exact this
  · have := h.pt; rw [Nat.zero_add] at this; rw [Nat.add_comm 1, at_cons]; exact this
  · have := h.frc j hj; rw [Nat.zero_add] at this
    rw [show 1 + D.length + 1 + j = (D.length + 1 + j) + 1 from by omega, at_cons]; exact this

theorem val_step (D : List Int) (j : Nat) (h : j < D.length) : val (D.take (j + 1)) = val (D.take j) * 10 + (at_ D j - 48) := by
  rw [List.take_succ_eq_append_getElem h, val_snoc]; simp [at_, h]
theorem val_take_bound (D : List Int) (hd : Digs D) (j : Nat) (hj : j ≤ 13) : 0 ≤ val (D.take j) ∧ val (D.take j) ≤ 9999999999999 := by
  have h := val_bound (D.take j) (fun d hd' => hd d (List.mem_of_mem_take hd'))
  have h2 : 10 ^ (D.take j).length ≤ 10 ^ 13 := Nat.pow_le_pow_right (by omega) (by have := List.length_take_le j D; omega)
  have h3 : (10 : Nat) ^ 13 = 10000000000000 := by decide
  omega
theorem val_take12 (D : List Int) (hd : Digs D) (j : Nat) (hj : j ≤ 12) : 0 ≤ val (D.take j) ∧ val (D.take j) ≤ 999999999999 := by
  have h := val_bound (D.take j) (fun d hd' => hd d (List.mem_of_mem_take hd'))
  have h2 : 10 ^ (D.take j).length ≤ 10 ^ 12 := Nat.pow_le_pow_right (by omega) (by have := List.length_take_le j D; omega)
  have h3 : (10 : Nat) ^ 12 = 1000000000000 := by decide
  omega

/-- Append onto the clone, as the law reads it. -/
theorem out_any (a : Int) (a0 : -9223372036854775808 ≤ a) (a1 : a ≤ 9223372036854775807) (B n L : Nat) (X T : List Int) (hX : X.length = n) (hT : txt a = T) (hL : T.length = L) (hn : n ≤ 1048576) (v : Value) (w : World) (hown : w.ownsRow B 5 1 v n (X.map (Value.int .u8))) (hB : B ≤ w.heap.size) (htab : ∀ w1, Below B w w1 → Pow w1) :
    Calls Tryd.prog 7 #[.int .i64 a, v] w fun e w' => ∃ g cap, e = .returned (.slice (some ⟨g, 0, none⟩) (n + L) cap) ∧ n + L ≤ cap ∧ B ≤ g ∧ Bytes w' g 0 X ∧ Bytes w' g n T ∧ Below B w w' := by
  subst hT hL hX
  refine (app_any B X.length a a0 a1 v _ w hown hB (by omega) htab).mono ?_
  rintro e w' ⟨v', rfl, hown', hb⟩
  have hl := txt_len a a0 a1
  rw [← List.map_append] at hown'
  have hown2 := hown'
  rcases hown'.2 with ⟨_, h0⟩ | ⟨g, cap, cur, hv, hg, _, hc, _⟩
  · omega
  · subst hv
    have hby := bytes_of_own hown2
    refine ⟨g, cap, rfl, hc, hg, fun i hi => ?_, fun i hi => ?_, hb⟩
    · have := hby i (by simp; omega)
      rw [at_append_left _ _ _ hi] at this; exact this
    · have := hby (X.length + i) (by simp; omega)
      rw [at_append_right] at this
      simpa using this

set_option maxHeartbeats 1000000 in
set_option maxRecDepth 100000 in
theorem par_pos (a q r : Int) (a0 : 0 ≤ a) (a1 : a ≤ 9223372036854775807) (xo : Option Addr) (xc n nd : Nat) (X T D S : List Int) (w : World) (hn : n ≤ 1048576) (HX : Hid (X.length = n)) (h0 : xo = none → X = [] ∧ xc = 0) (hx : X = [] ∨ ∃ b off, xo = some ⟨b, off, none⟩ ∧ Bytes w b off X)
    (htab : Pow w) (hT : Hid (txt a = T)) (hS : Shape T D S 0 q r) (hD : Hid (D.length = nd)) (hq : Hid (q * 1000000 + r = a)) :
    Calls Tryd.prog 3 #[.int .i64 a, .slice xo n xc] w fun e w' => e = .returned (.bool true) ∧ Below w.heap.size w w' := by
  have t2 : decide ((1048576 : Int) < (n : Int)) = false := by simp; omega
  have nd1 : 1 ≤ nd := by rw [← hD.out]; exact hS.nd1
  have nd13 : nd ≤ 13 := by rw [← hD.out]; exact hS.nd13
  have HL : Hid (T.length = nd + 7) := by have := hS.len; rw [hD.out] at this; unfold Hid; omega
  go_enter Tryd.func3, Tryd.ntmps3
  go_wp2_with fail
  refine (bytes_any _ _ _ _ _).mono ?_
  rintro _ w1 ⟨y, rfl, hw1⟩
  subst hw1
  cases y
  · go_wp2
    go_ret
    exact ⟨rfl, Below.refl _ _⟩
  · go_wp2_with fail
    have hcl := clone_any xo xc X w1 (by rw [HX.out]; exact hn) h0 hx
    rw [HX.out] at hcl
    refine hcl.mono ?_
    clear hcl
    rintro _ w2 ⟨v1, rfl, hown, hb2⟩
    go_wp2_with fail
    refine (out_any a (by omega) a1 w1.heap.size n (nd + 7) X T HX.out hT.out HL.out hn v1 w2 hown hb2.size (fun _ h => htab.below (hb2.trans h))).mono ?_
    rintro _ w3 ⟨g, cap, rfl, hcap, hg, hbx, hbt, hb3⟩
    have hw3 : Below w1.heap.size w1 w3 := hb2.trans hb3
    go_wp2_with fail
    go_loopw [7] (fun i wr => ∃ k m : Nat, k ≤ n ∧ i = .int .i64 k ∧ wr = w3.drewN m) (fun i _ => n - (intOf i).toNat)
    case atStart => exact ⟨0, 0, Nat.zero_le _, rfl, rfl⟩
    case round =>
      obtain ⟨k, m, hk, rfl, rfl⟩ := hrel
      by_cases hlt : k < n
      · obtain ⟨b, off, rfl, hbb⟩ : ∃ b off, xo = some ⟨b, off, none⟩ ∧ Bytes w1 b off X := by
          rcases hx with h | h
          · have := HX.out; rw [h] at this; simp at this; omega
          · exact h
        have c1 := hbb k (by rw [HX.out]; exact hlt)
        have hbw : b < w1.heap.size := World.block_lt_of_cell? w1 _ c1
        have c2 := (hw3.cell (by exact hbw)).trans c1
        have c3 := hbx k (by rw [HX.out]; exact hlt)
        rw [Nat.zero_add] at c3
        clear c1
        generalize at_ X k = p at *
        have i1 : (k : Int) < (n : Int) := by omega
        have i2 : (k : Int) < (n : Int) + ((nd : Int) + 7) := by omega
        go_wp2_with fail
        go_region
        go_wp2
        go_roundw
        case rel => exact ⟨k + 1, m + 1, by omega, by go_num, rfl⟩
        case measure => simp [intOf]; omega
      · have hkn : k = n := by omega
        subst hkn
        have s1 : ¬ cap = k := by omega
        have c0 := hbt 0 (by rw [HL.out]; omega)
        rw [Nat.add_zero] at c0
        have hp0 := hS.dig 0 (by rw [hD.out]; omega)
        rw [Nat.add_zero, ← hp0.1] at hp0
        obtain ⟨_, p1, p2⟩ := hp0
        generalize at_ T 0 = p0 at *
        have e0 : (p0 == 45) = false := by rw [beq_eq_false_iff_ne]; omega
        have kc : k ≤ cap := by omega
        go_wp2_with fail
        clear c0 p1 p2 e0
        go_loop [9, 12] (fun i u => ∃ j : Nat, j ≤ nd ∧ i = .int .i64 j ∧ u = .int .u64 (val (D.take j))) (fun i _ => nd - (intOf i).toNat)
        case atStart => exact ⟨0, Nat.zero_le _, rfl, rfl⟩
        case round =>
          obtain ⟨j, hj, rfl, rfl⟩ := hrel
          by_cases hjn : j < nd
          · have c0 := hbt j (by rw [HL.out]; omega)
            have hd := hS.dig j (by rw [hD.out]; exact hjn)
            have hvs := val_step D j (by rw [hD.out]; exact hjn)
            rw [Nat.zero_add] at hd
            rw [hd.1] at c0
            obtain ⟨_, p1, p2⟩ := hd
            obtain ⟨b1, b2⟩ := val_take12 D hS.dd j (by omega)
            generalize at_ D j = p at *
            have HV : Hid (val (D.take (j + 1)) = val (D.take j) * 10 + (p - 48)) := hvs
            clear hvs
            generalize val (D.take j) = u at *
            go_wp2
            go_round
            case rel => exact ⟨j + 1, by omega, by go_num, by rw [HV.out]⟩
            case measure => simp [intOf]; omega
          · have hjn' : j = nd := by omega
            subst hjn'
            have c0 := hbt j (by rw [HL.out]; omega)
            have hpt := hS.pt
            rw [Nat.zero_add, hD.out] at hpt
            rw [hpt] at c0
            have c1 := hbt 0 (by rw [HL.out]; omega)
            have hd := hS.dig 0 (by rw [hD.out]; omega)
            rw [Nat.zero_add] at hd
            rw [hd.1, Nat.add_zero] at c1
            have hd0 := hS.hd
            rw [hD.out] at hd0
            have hvD : val (D.take j) = q := by rw [List.take_of_length_le (by rw [hD.out]; omega), hS.vd]
            obtain ⟨b1, b2⟩ := val_take_bound D hS.dd j nd13
            rw [hvD] at b1 b2 ⊢
            clear hd hpt hvD
            generalize at_ D 0 = p at *
            by_cases h2 : j < 2
            · have e2 : decide ((1 : Int) < (j : Int)) = false := by simp; omega
              have e3 : decide ((j : Int) + 7 ≤ (j : Int)) = false := by simp; omega
              go_wp2_with fail
              clear c0 c1
              go_loop [9, 14] (fun i u => ∃ t : Nat, t ≤ 6 ∧ i = .int .i64 ((j : Int) + 1 + (t : Int)) ∧ u = .int .u64 (val (S.take t))) (fun i _ => j + 7 - (intOf i).toNat)
              case atStart => exact ⟨0, Nat.zero_le _, by go_num, rfl⟩
              case round =>
                obtain ⟨t, ht, rfl, rfl⟩ := hrel
                by_cases htn : t < 6
                · have c0 := hbt (j + 1 + t) (by rw [HL.out]; omega)
                  have hd := hS.frc t htn
                  have hvs := val_step S t (by rw [hS.slen]; exact htn)
                  rw [Nat.zero_add, hD.out] at hd
                  rw [hd.1] at c0
                  obtain ⟨_, p1, p2⟩ := hd
                  obtain ⟨b3, b4⟩ := val_take12 S hS.ds t (by omega)
                  generalize at_ S t = z at *
                  have HV : Hid (val (S.take (t + 1)) = val (S.take t) * 10 + (z - 48)) := hvs
                  clear hvs
                  generalize val (S.take t) = u at *
                  have ix : ((j : Int) + 1 + (t : Int)).toNat = j + 1 + t := by omega
                  go_wp2
                  go_round
                  case rel => exact ⟨t + 1, by omega, by go_num, by rw [HV.out]⟩
                  case measure => simp [intOf]; omega
                · have htn' : t = 6 := by omega
                  subst htn'
                  have hvS : val (S.take 6) = r := by rw [List.take_of_length_le (by rw [hS.slen]; omega), hS.vs]
                  obtain ⟨b3, b4⟩ := val_take12 S hS.ds 6 (by omega)
                  rw [hvS] at b3 b4 ⊢
                  have hfin : (q * 1000000 + r == a) = true := by rw [hq.out]; simp
                  go_wp2
                  go_ret
                  exact ⟨rfl, hw3.trans (below_draws _ _ _)⟩
            · have pq := hd0 (by omega)
              have e1 : (p == 48) = false := by rw [beq_eq_false_iff_ne]; omega
              have e2 : (1 : Int) < (j : Int) := by omega
              have e3 : decide ((j : Int) + 7 ≤ (j : Int)) = false := by simp; omega
              go_wp2_with fail
              clear c0 c1
              go_loop [9, 14] (fun i u => ∃ t : Nat, t ≤ 6 ∧ i = .int .i64 ((j : Int) + 1 + (t : Int)) ∧ u = .int .u64 (val (S.take t))) (fun i _ => j + 7 - (intOf i).toNat)
              case atStart => exact ⟨0, Nat.zero_le _, by go_num, rfl⟩
              case round =>
                obtain ⟨t, ht, rfl, rfl⟩ := hrel
                by_cases htn : t < 6
                · have c0 := hbt (j + 1 + t) (by rw [HL.out]; omega)
                  have hd := hS.frc t htn
                  have hvs := val_step S t (by rw [hS.slen]; exact htn)
                  rw [Nat.zero_add, hD.out] at hd
                  rw [hd.1] at c0
                  obtain ⟨_, p1, p2⟩ := hd
                  obtain ⟨b3, b4⟩ := val_take12 S hS.ds t (by omega)
                  generalize at_ S t = z at *
                  have HV : Hid (val (S.take (t + 1)) = val (S.take t) * 10 + (z - 48)) := hvs
                  clear hvs
                  generalize val (S.take t) = u at *
                  have ix : ((j : Int) + 1 + (t : Int)).toNat = j + 1 + t := by omega
                  go_wp2
                  go_round
                  case rel => exact ⟨t + 1, by omega, by go_num, by rw [HV.out]⟩
                  case measure => simp [intOf]; omega
                · have htn' : t = 6 := by omega
                  subst htn'
                  have hvS : val (S.take 6) = r := by rw [List.take_of_length_le (by rw [hS.slen]; omega), hS.vs]
                  obtain ⟨b3, b4⟩ := val_take12 S hS.ds 6 (by omega)
                  rw [hvS] at b3 b4 ⊢
                  have hfin : (q * 1000000 + r == a) = true := by rw [hq.out]; simp
                  go_wp2
                  go_ret
                  exact ⟨rfl, hw3.trans (below_draws _ _ _)⟩
set_option maxHeartbeats 1000000 in
set_option maxRecDepth 100000 in
theorem par_neg (a m0 q r : Int) (a0 : a < 0) (a1 : -9223372036854775808 ≤ a) (_m1 : 1 ≤ m0) (_m2 : m0 ≤ 9223372036854775808) (hm : Hid (m0 = -a)) (xo : Option Addr) (xc n nd : Nat) (X T D S : List Int) (w : World) (hn : n ≤ 1048576) (HX : Hid (X.length = n)) (h0 : xo = none → X = [] ∧ xc = 0) (hx : X = [] ∨ ∃ b off, xo = some ⟨b, off, none⟩ ∧ Bytes w b off X)
    (htab : Pow w) (hT : Hid (txt a = T)) (hS : Shape T D S 1 q r) (hD : Hid (D.length = nd)) (hT0 : Hid (at_ T 0 = 45)) (hq : Hid (q * 1000000 + r = m0)) :
    Calls Tryd.prog 3 #[.int .i64 a, .slice xo n xc] w fun e w' => e = .returned (.bool true) ∧ Below w.heap.size w w' := by
  have t2 : decide ((1048576 : Int) < (n : Int)) = false := by simp; omega
  have nd1 : 1 ≤ nd := by rw [← hD.out]; exact hS.nd1
  have nd13 : nd ≤ 13 := by rw [← hD.out]; exact hS.nd13
  have HL : Hid (T.length = nd + 8) := by have := hS.len; rw [hD.out] at this; unfold Hid; omega
  have hneg := neg_eq a m0 a0 a1 hm.out
  go_enter Tryd.func3, Tryd.ntmps3
  go_wp2_with fail
  refine (bytes_any _ _ _ _ _).mono ?_
  rintro _ w1 ⟨y, rfl, hw1⟩
  subst hw1
  cases y
  · go_wp2
    go_ret
    exact ⟨rfl, Below.refl _ _⟩
  · go_wp2_with fail
    have hcl := clone_any xo xc X w1 (by rw [HX.out]; exact hn) h0 hx
    rw [HX.out] at hcl
    refine hcl.mono ?_
    clear hcl
    rintro _ w2 ⟨v1, rfl, hown, hb2⟩
    go_wp2_with fail
    refine (out_any a a1 (by omega) w1.heap.size n (nd + 8) X T HX.out hT.out HL.out hn v1 w2 hown hb2.size (fun _ h => htab.below (hb2.trans h))).mono ?_
    rintro _ w3 ⟨g, cap, rfl, hcap, hg, hbx, hbt, hb3⟩
    have hw3 : Below w1.heap.size w1 w3 := hb2.trans hb3
    go_wp2_with fail
    go_loopw [7] (fun i wr => ∃ k m : Nat, k ≤ n ∧ i = .int .i64 k ∧ wr = w3.drewN m) (fun i _ => n - (intOf i).toNat)
    case atStart => exact ⟨0, 0, Nat.zero_le _, rfl, rfl⟩
    case round =>
      obtain ⟨k, m, hk, rfl, rfl⟩ := hrel
      by_cases hlt : k < n
      · obtain ⟨b, off, rfl, hbb⟩ : ∃ b off, xo = some ⟨b, off, none⟩ ∧ Bytes w1 b off X := by
          rcases hx with h | h
          · have := HX.out; rw [h] at this; simp at this; omega
          · exact h
        have c1 := hbb k (by rw [HX.out]; exact hlt)
        have hbw : b < w1.heap.size := World.block_lt_of_cell? w1 _ c1
        have c2 := (hw3.cell (by exact hbw)).trans c1
        have c3 := hbx k (by rw [HX.out]; exact hlt)
        rw [Nat.zero_add] at c3
        clear c1
        generalize at_ X k = p at *
        have i1 : (k : Int) < (n : Int) := by omega
        have i2 : (k : Int) < (n : Int) + ((nd : Int) + 8) := by omega
        go_wp2_with fail
        go_region
        go_wp2
        go_roundw
        case rel => exact ⟨k + 1, m + 1, by omega, by go_num, rfl⟩
        case measure => simp [intOf]; omega
      · have hkn : k = n := by omega
        subst hkn
        have s1 : ¬ cap = k := by omega
        have c0 := hbt 0 (by rw [HL.out]; omega)
        rw [Nat.add_zero] at c0
        rw [hT0.out] at c0
        have kc : k ≤ cap := by omega
        go_wp2_with fail
        clear c0
        go_loop [9, 12] (fun i u => ∃ j : Nat, j ≤ nd ∧ i = .int .i64 ((j : Int) + 1) ∧ u = .int .u64 (val (D.take j))) (fun i _ => nd + 1 - (intOf i).toNat)
        case atStart => exact ⟨0, Nat.zero_le _, rfl, rfl⟩
        case round =>
          obtain ⟨j, hj, rfl, rfl⟩ := hrel
          by_cases hjn : j < nd
          · have c0 := hbt (j + 1) (by rw [HL.out]; omega)
            have hd := hS.dig j (by rw [hD.out]; exact hjn)
            have hvs := val_step D j (by rw [hD.out]; exact hjn)
            rw [Nat.add_comm 1 j] at hd
            rw [hd.1] at c0
            obtain ⟨_, p1, p2⟩ := hd
            obtain ⟨b1, b2⟩ := val_take12 D hS.dd j (by omega)
            generalize at_ D j = p at *
            have HV : Hid (val (D.take (j + 1)) = val (D.take j) * 10 + (p - 48)) := hvs
            clear hvs
            generalize val (D.take j) = u at *
            go_wp2
            go_round
            case rel => exact ⟨j + 1, by omega, by go_num, by rw [HV.out]⟩
            case measure => simp [intOf]; omega
          · have hjn' : j = nd := by omega
            subst hjn'
            have c0 := hbt (j + 1) (by rw [HL.out]; omega)
            have hpt := hS.pt
            rw [hD.out, Nat.add_comm 1 j] at hpt
            rw [hpt] at c0
            have c1 := hbt 1 (by rw [HL.out]; omega)
            have hd := hS.dig 0 (by rw [hD.out]; omega)
            rw [Nat.add_zero] at hd
            rw [hd.1] at c1
            have hd0 := hS.hd
            rw [hD.out] at hd0
            have hvD : val (D.take j) = q := by rw [List.take_of_length_le (by rw [hD.out]; omega), hS.vd]
            obtain ⟨b1, b2⟩ := val_take_bound D hS.dd j nd13
            rw [hvD] at b1 b2 ⊢
            clear hd hpt hvD
            generalize at_ D 0 = p at *
            by_cases h2 : j < 2
            · have e2 : decide ((1 : Int) < (j : Int)) = false := by simp; omega
              have e3 : decide ((j : Int) + 8 ≤ (j : Int) + 1) = false := decide_eq_false (by omega)
              go_wp2_with fail
              clear c0 c1
              go_loop [9, 14] (fun i u => ∃ t : Nat, t ≤ 6 ∧ i = .int .i64 ((j : Int) + 2 + (t : Int)) ∧ u = .int .u64 (val (S.take t))) (fun i _ => j + 8 - (intOf i).toNat)
              case atStart => exact ⟨0, Nat.zero_le _, by go_num, rfl⟩
              case round =>
                obtain ⟨t, ht, rfl, rfl⟩ := hrel
                by_cases htn : t < 6
                · have c0 := hbt (j + 2 + t) (by rw [HL.out]; omega)
                  have hd := hS.frc t htn
                  have hvs := val_step S t (by rw [hS.slen]; exact htn)
                  rw [hD.out, show 1 + j + 1 + t = j + 2 + t from by omega] at hd
                  rw [hd.1] at c0
                  obtain ⟨_, p1, p2⟩ := hd
                  obtain ⟨b3, b4⟩ := val_take12 S hS.ds t (by omega)
                  generalize at_ S t = z at *
                  have HV : Hid (val (S.take (t + 1)) = val (S.take t) * 10 + (z - 48)) := hvs
                  clear hvs
                  generalize val (S.take t) = u at *
                  have ix : ((j : Int) + 2 + (t : Int)).toNat = j + 2 + t := by omega
                  go_wp2
                  go_round
                  case rel => exact ⟨t + 1, by omega, by go_num, by rw [HV.out]⟩
                  case measure => simp [intOf]; omega
                · have htn' : t = 6 := by omega
                  subst htn'
                  have hvS : val (S.take 6) = r := by rw [List.take_of_length_le (by rw [hS.slen]; omega), hS.vs]
                  obtain ⟨b3, b4⟩ := val_take12 S hS.ds 6 (by omega)
                  rw [hvS] at b3 b4 ⊢
                  have hfin : (q * 1000000 + r == m0) = true := by rw [hq.out]; simp
                  go_wp2
                  go_ret
                  exact ⟨rfl, hw3.trans (below_draws _ _ _)⟩
            · have pq := hd0 (by omega)
              have e1 : (p == 48) = false := by rw [beq_eq_false_iff_ne]; omega
              have e2 : (1 : Int) < (j : Int) := by omega
              have e3 : decide ((j : Int) + 8 ≤ (j : Int) + 1) = false := decide_eq_false (by omega)
              go_wp2_with fail
              clear c0 c1
              go_loop [9, 14] (fun i u => ∃ t : Nat, t ≤ 6 ∧ i = .int .i64 ((j : Int) + 2 + (t : Int)) ∧ u = .int .u64 (val (S.take t))) (fun i _ => j + 8 - (intOf i).toNat)
              case atStart => exact ⟨0, Nat.zero_le _, by go_num, rfl⟩
              case round =>
                obtain ⟨t, ht, rfl, rfl⟩ := hrel
                by_cases htn : t < 6
                · have c0 := hbt (j + 2 + t) (by rw [HL.out]; omega)
                  have hd := hS.frc t htn
                  have hvs := val_step S t (by rw [hS.slen]; exact htn)
                  rw [hD.out, show 1 + j + 1 + t = j + 2 + t from by omega] at hd
                  rw [hd.1] at c0
                  obtain ⟨_, p1, p2⟩ := hd
                  obtain ⟨b3, b4⟩ := val_take12 S hS.ds t (by omega)
                  generalize at_ S t = z at *
                  have HV : Hid (val (S.take (t + 1)) = val (S.take t) * 10 + (z - 48)) := hvs
                  clear hvs
                  generalize val (S.take t) = u at *
                  have ix : ((j : Int) + 2 + (t : Int)).toNat = j + 2 + t := by omega
                  go_wp2
                  go_round
                  case rel => exact ⟨t + 1, by omega, by go_num, by rw [HV.out]⟩
                  case measure => simp [intOf]; omega
                · have htn' : t = 6 := by omega
                  subst htn'
                  have hvS : val (S.take 6) = r := by rw [List.take_of_length_le (by rw [hS.slen]; omega), hS.vs]
                  obtain ⟨b3, b4⟩ := val_take12 S hS.ds 6 (by omega)
                  rw [hvS] at b3 b4 ⊢
                  have hfin : (q * 1000000 + r == m0) = true := by rw [hq.out]; simp
                  go_wp2
                  go_ret
                  exact ⟨rfl, hw3.trans (below_draws _ _ _)⟩

set_option maxHeartbeats 400000 in
set_option maxRecDepth 100000 in
theorem par_short (a : Int) (xo : Option Addr) (n xc : Nat) (w : World) (h : 1048576 < n) :
    Calls Tryd.prog 3 #[.int .i64 a, .slice xo n xc] w fun e w' => e = .returned (.bool true) ∧ Below w.heap.size w w' := by
  go_enter Tryd.func3, Tryd.ntmps3
  go_wp2_with (go_at_call 5; refine (bytes_any _ _ _ _ _).mono ?_; rintro _ w1 ⟨y, rfl, hw1⟩; subst hw1)
  all_goals go_ret
  all_goals exact ⟨rfl, Below.refl _ _⟩

theorem par_any (a : Int) (a0 : -9223372036854775808 ≤ a) (a1 : a ≤ 9223372036854775807) (xo : Option Addr) (xc : Nat) (X : List Int) (w : World) (h0 : xo = none → X = [] ∧ xc = 0) (hx : X = [] ∨ ∃ b off, xo = some ⟨b, off, none⟩ ∧ Bytes w b off X) (htab : Pow w) :
    Calls Tryd.prog 3 #[.int .i64 a, .slice xo X.length xc] w fun e w' => e = .returned (.bool true) ∧ Below w.heap.size w w' := by
  by_cases hn : X.length ≤ 1048576
  · by_cases ha : a < 0
    · exact par_neg a (-a) _ _ ha a0 (by omega) (by omega) rfl xo xc _ _ X (txt a) _ _ w hn rfl h0 hx htab rfl (by
        have e : txt a = 45 :: body (-a) := by unfold txt; rw [if_pos ha]
        rw [e]; exact shape_neg (shape_body (-a) (by omega) (by omega))) rfl (by unfold Hid txt; rw [if_pos ha]; rfl) (show (-a) / 1000000 * 1000000 + (-a) % 1000000 = -a by omega)
    · exact par_pos a _ _ (by omega) a1 xo xc _ _ X (txt a) _ _ w hn rfl h0 hx htab rfl (by
        have e : txt a = body a := by unfold txt; rw [if_neg ha]
        rw [e]; exact shape_body a (by omega) (by omega)) rfl (show a / 1000000 * 1000000 + a % 1000000 = a by omega)
  · exact par_short a xo _ xc w (by omega)
end Go.Proofs.Qxb6630879aDoor
