/-
  The contracts of the small functions of G.711: magnitude, ulaw, alaw, zzDistance, zzUlawByCount, zzAlawByCount, zzBytes_...
-/
import Derived.Test.Qxb6627421aFmtRows
import Derived.Test.Qxb6627421aFmtMath
import Derived.WalkKit
import Derived.WalkSpells
import Derived.WalkLawsBesides
namespace Go.Proofs.Qxb6627421aFmt
open Go.RowKit

theorem ret_int {k : IntKind} {a b : Int} (h : a = b) : Ending.returned (.int k a) = .returned (.int k b) := by rw [h]
def um (x : Int) : Int := if 8191 < dist x / 4 + 33 then 8191 else dist x / 4 + 33
/-- The byte of a sample in mu-law. -/
def uenc (x : Int) : Int := if x < 0 then 127 - ucode (um x) else 255 - ucode (um x)
/-- The byte of a sample in A-law. -/
def aenc (x : Int) : Int := bits .xor .u8 (if x < 0 then acode (dist x / 8) else acode (dist x / 8) + 128) 85

set_option maxHeartbeats 400000 in
theorem mag14 (x : Int) (h0 : -32768 ≤ x) (h1 : x ≤ 32767) (w : World) : Calls Tryf.prog 14 #[.int .i16 x, .int .u64 14] w fun e w' => e = .returned (.int .i64 (dist x / 4)) ∧ w' = w := by
  by_cases h : x < 0
  · have hn := i64_not' x h0 h1
    go_enter Tryf.func14, Tryf.ntmps14
    go_wp2
    go_ret
    exact ⟨ret_int (by unfold dist; rw [if_pos (by omega)]), rfl⟩
  · go_enter Tryf.func14, Tryf.ntmps14
    go_wp2
    go_ret
    exact ⟨ret_int (by unfold dist; rw [if_neg (by omega)]), rfl⟩
set_option maxHeartbeats 400000 in
theorem mag13 (x : Int) (h0 : -32768 ≤ x) (h1 : x ≤ 32767) (w : World) : Calls Tryf.prog 14 #[.int .i16 x, .int .u64 13] w fun e w' => e = .returned (.int .i64 (dist x / 8)) ∧ w' = w := by
  by_cases h : x < 0
  · have hn := i64_not' x h0 h1
    go_enter Tryf.func14, Tryf.ntmps14
    go_wp2
    go_ret
    exact ⟨ret_int (by unfold dist; rw [if_pos (by omega)]), rfl⟩
  · go_enter Tryf.func14, Tryf.ntmps14
    go_wp2
    go_ret
    exact ⟨ret_int (by unfold dist; rw [if_neg (by omega)]), rfl⟩
set_option maxHeartbeats 400000 in
theorem dis_any (x : Int) (h0 : -32768 ≤ x) (h1 : x ≤ 32767) (w : World) : Calls Tryf.prog 13 #[.int .i16 x] w fun e w' => e = .returned (.int .i64 (dist x)) ∧ w' = w := by
  by_cases h : x < 0
  · go_enter Tryf.func13, Tryf.ntmps13
    go_wp2
    go_ret
    exact ⟨ret_int (by unfold dist; rw [if_pos (by omega)]), rfl⟩
  · go_enter Tryf.func13, Tryf.ntmps13
    go_wp2
    go_ret
    exact ⟨ret_int (by unfold dist; rw [if_neg (by omega)]), rfl⟩

theorem ucode_or (M s : Int) (M0 : 0 ≤ M) (M1 : M ≤ 8191) (hs : s = useg M) : bits .or .i64 (s * 16) (bits .and .i64 (M / 2 ^ (s + 1).toNat) 15) % 256 = ucode M := by
  have hb := useg_bd M
  have hc := ucode_bd M
  have d0 : 0 ≤ M / 2 ^ (s + 1).toNat := Int.ediv_nonneg M0 (Int.le_of_lt (Int.pow_pos (by decide)))
  have d1 : M / 2 ^ (s + 1).toNat ≤ M := Int.ediv_le_self _ M0
  rw [and15 _ d0 (by omega), or16 s _ (by omega) (by omega) (by omega) (by omega)]
  have e : ucode M = s * 16 + M / 2 ^ (s + 1).toNat % 16 := by rw [hs]; rfl
  rw [← e]; omega
theorem ufin_pos (M s : Int) (M0 : 0 ≤ M) (M1 : M ≤ 8191) (hs : s = useg M) : bits .xor .u8 IntKind.u8.max (bits .or .i64 (s * 16) (bits .and .i64 (M / 2 ^ (s + 1).toNat) 15) % 256) = 255 - ucode M := by
  have hc := ucode_bd M
  rw [ucode_or M s M0 M1 hs]
  have := xorMax ⟨(ucode M).toNat, by omega⟩
  simp only [Int.toNat_of_nonneg hc.1] at this
  exact this
theorem ufin_neg (M s : Int) (M0 : 0 ≤ M) (M1 : M ≤ 8191) (hs : s = useg M) : bits .xor .u8 IntKind.u8.max (bits .or .u8 (bits .or .i64 (s * 16) (bits .and .i64 (M / 2 ^ (s + 1).toNat) 15) % 256) 128) = 127 - ucode M := by
  have hc := ucode_bd M
  rw [ucode_or M s M0 M1 hs]
  have h1 := or128 ⟨(ucode M).toNat, by omega⟩
  simp only [Int.toNat_of_nonneg hc.1] at h1
  rw [h1]
  have h2 := xorMax ⟨(ucode M + 128).toNat, by omega⟩
  simp only [Int.toNat_of_nonneg (show 0 ≤ ucode M + 128 by omega)] at h2
  rw [h2]; omega

set_option maxHeartbeats 1000000 in
theorem ulaw_any (x : Int) (h0 : -32768 ≤ x) (h1 : x ≤ 32767) (w : World) : Calls Tryf.prog 10 #[.int .i16 x] w fun e w' => e = .returned (.int .u8 (uenc x)) ∧ w' = w := by
  obtain ⟨m, hm⟩ : ∃ m, dist x / 4 = m := ⟨_, rfl⟩
  have hd := dist_bd x h0 h1
  have m0 : 0 ≤ m := by omega
  have m1 : m ≤ 8191 := by omega
  have HM : Hid (dist x / 4 = m) := hm
  clear hm hd
  by_cases hc : 8191 < m + 33
  · go_enter Tryf.func10, Tryf.ntmps10
    go_wp2_with fail
    refine (mag14 _ h0 h1 _).mono ?_
    rintro _ w1 ⟨rfl, hw⟩
    subst hw
    rw [HM.out]
    go_wp2_with fail
    have HU : Hid (um x = 8191) := by unfold Hid um; rw [HM.out, if_pos (by omega)]
    generalize hM : (8191 : Int) = M at HU ⊢
    have M0 : 33 ≤ M := by omega
    have M1 : M ≤ 8191 := by omega
    clear hM hc m0 m1 HM
    have hs := useg_bd M
    obtain ⟨g, hg⟩ : ∃ g, g = useg M := ⟨_, rfl⟩
    rw [← hg] at hs
    have HG : Hid (g = useg M) := hg
    clear hg
    go_loop [4] (fun i => ∃ s : Int, 0 ≤ s ∧ s ≤ g ∧ i = .int .i64 s) (fun i => 8 - (intOf i).toNat)
    case atStart => exact ⟨0, by omega, by omega, rfl⟩
    case round =>
      obtain ⟨s, s0, s1, rfl⟩ := hrel
      have ht := useg_test M s M0 M1 s0 (by rw [← HG.out]; exact s1)
      rw [← HG.out] at ht
      by_cases hlt : s < g
      · rw [decide_eq_true hlt] at ht
        go_wp2
        go_round
        case rel => exact ⟨s + 1, by omega, by omega, rfl⟩
        case measure => simp [intOf]; omega
      · rw [decide_eq_false hlt] at ht
        have HE : Hid (s = useg M) := by unfold Hid; rw [← HG.out]; omega
        by_cases hx : x < 0
        · go_wp2
          go_ret
          exact ⟨ret_int (by rw [ufin_neg M s (by omega) M1 HE.out]; unfold uenc; rw [if_pos (by omega), HU.out]), rfl⟩
        · go_wp2
          go_ret
          exact ⟨ret_int (by rw [ufin_pos M s (by omega) M1 HE.out]; unfold uenc; rw [if_neg (by omega), HU.out]), rfl⟩
  · go_enter Tryf.func10, Tryf.ntmps10
    go_wp2_with fail
    refine (mag14 _ h0 h1 _).mono ?_
    rintro _ w1 ⟨rfl, hw⟩
    subst hw
    rw [HM.out]
    go_wp2_with fail
    obtain ⟨M, hM⟩ : ∃ M, M = m + 33 := ⟨_, rfl⟩
    rw [← hM]
    have M0 : 33 ≤ M := by omega
    have M1 : M ≤ 8191 := by omega
    have HU : Hid (um x = M) := by unfold Hid um; rw [HM.out, if_neg (by omega), hM]
    clear hM hc m0 m1 HM
    have hs := useg_bd M
    obtain ⟨g, hg⟩ : ∃ g, g = useg M := ⟨_, rfl⟩
    rw [← hg] at hs
    have HG : Hid (g = useg M) := hg
    clear hg
    go_loop [4] (fun i => ∃ s : Int, 0 ≤ s ∧ s ≤ g ∧ i = .int .i64 s) (fun i => 8 - (intOf i).toNat)
    case atStart => exact ⟨0, by omega, by omega, rfl⟩
    case round =>
      obtain ⟨s, s0, s1, rfl⟩ := hrel
      have ht := useg_test M s M0 M1 s0 (by rw [← HG.out]; exact s1)
      rw [← HG.out] at ht
      by_cases hlt : s < g
      · rw [decide_eq_true hlt] at ht
        go_wp2
        go_round
        case rel => exact ⟨s + 1, by omega, by omega, rfl⟩
        case measure => simp [intOf]; omega
      · rw [decide_eq_false hlt] at ht
        have HE : Hid (s = useg M) := by unfold Hid; rw [← HG.out]; omega
        by_cases hx : x < 0
        · go_wp2
          go_ret
          exact ⟨ret_int (by rw [ufin_neg M s (by omega) M1 HE.out]; unfold uenc; rw [if_pos (by omega), HU.out]), rfl⟩
        · go_wp2
          go_ret
          exact ⟨ret_int (by rw [ufin_pos M s (by omega) M1 HE.out]; unfold uenc; rw [if_neg (by omega), HU.out]), rfl⟩

theorem acode_or (M s : Int) (M0 : 0 ≤ M) (M1 : M ≤ 4095) (hs : s = aseg M) (t : Int) (ht : t = ash M) : bits .or .i64 (s * 16) (bits .and .i64 (M / 2 ^ t.toNat) 15) % 256 = acode M := by
  have hb := aseg_bd M
  have hc := acode_bd M
  have d0 : 0 ≤ M / 2 ^ t.toNat := Int.ediv_nonneg M0 (Int.le_of_lt (Int.pow_pos (by decide)))
  have d1 : M / 2 ^ t.toNat ≤ M := Int.ediv_le_self _ M0
  rw [and15 _ d0 (by omega), or16 s _ (by omega) (by omega) (by omega) (by omega)]
  have e : acode M = s * 16 + M / 2 ^ t.toNat % 16 := by rw [hs, ht]; rfl
  rw [← e]; omega
theorem acode_or1 (M s : Int) (M0 : 0 ≤ M) (M1 : M ≤ 4095) (hs : s = aseg M) (h : s < 1) : bits .or .i64 (s * 16) (bits .and .i64 (M / 2) 15) % 256 = acode M :=
  acode_or M s M0 M1 hs 1 (by unfold ash; rw [← hs, if_pos h])
theorem aor128 (M : Int) : bits .or .u8 (acode M) 128 = acode M + 128 := by
  have hc := acode_bd M
  have h1 := or128 ⟨(acode M).toNat, by omega⟩
  simp only [Int.toNat_of_nonneg hc.1] at h1
  exact h1

set_option maxHeartbeats 1000000 in
theorem alaw_any (x : Int) (h0 : -32768 ≤ x) (h1 : x ≤ 32767) (w : World) : Calls Tryf.prog 11 #[.int .i16 x] w fun e w' => e = .returned (.int .u8 (aenc x)) ∧ w' = w := by
  obtain ⟨M, hm⟩ : ∃ M, dist x / 8 = M := ⟨_, rfl⟩
  have hd := dist_bd x h0 h1
  have M0 : 0 ≤ M := by omega
  have M1 : M ≤ 4095 := by omega
  have HM : Hid (dist x / 8 = M) := hm
  clear hm hd
  have hs := aseg_bd M
  obtain ⟨g, hg⟩ : ∃ g, g = aseg M := ⟨_, rfl⟩
  rw [← hg] at hs
  have HG : Hid (g = aseg M) := hg
  clear hg
  go_enter Tryf.func11, Tryf.ntmps11
  go_wp2_with fail
  refine (mag13 _ h0 h1 _).mono ?_
  rintro _ w1 ⟨rfl, hw⟩
  subst hw
  rw [HM.out]
  go_wp2_with fail
  go_loop [4] (fun i => ∃ s : Int, 0 ≤ s ∧ s ≤ g ∧ i = .int .i64 s) (fun i => 8 - (intOf i).toNat)
  case atStart => exact ⟨0, by omega, by omega, rfl⟩
  case round =>
    obtain ⟨s, s0, s1, rfl⟩ := hrel
    have ht := aseg_test M s M0 M1 s0 (by rw [← HG.out]; exact s1)
    rw [← HG.out] at ht
    by_cases hlt : s < g
    · rw [decide_eq_true hlt] at ht
      go_wp2
      go_round
      case rel => exact ⟨s + 1, by omega, by omega, rfl⟩
      case measure => simp [intOf]; omega
    · rw [decide_eq_false hlt] at ht
      have HE : Hid (s = aseg M) := by unfold Hid; rw [← HG.out]; omega
      by_cases hs1 : s < 1
      · by_cases hx : x < 0
        · go_wp2
          go_ret
          exact ⟨ret_int (by rw [acode_or1 M s M0 M1 HE.out (by omega)]; unfold aenc; rw [if_pos (by omega), HM.out]), rfl⟩
        · go_wp2
          go_ret
          exact ⟨ret_int (by rw [acode_or1 M s M0 M1 HE.out (by omega), aor128]; unfold aenc; rw [if_neg (by omega), HM.out]), rfl⟩
      · by_cases hx : x < 0
        · go_wp2
          go_ret
          exact ⟨ret_int (by rw [acode_or M s M0 M1 HE.out s (by unfold ash; rw [← HE.out, if_neg (by omega)])]; unfold aenc; rw [if_pos (by omega), HM.out]), rfl⟩
        · go_wp2
          go_ret
          exact ⟨ret_int (by rw [acode_or M s M0 M1 HE.out s (by unfold ash; rw [← HE.out, if_neg (by omega)]), aor128]; unfold aenc; rw [if_neg (by omega), HM.out]), rfl⟩

theorem min_step (k c n : Int) (h : n = min (k - 1) c) (hk : k ≤ c) : n + 1 = min (k + 1 - 1) c := by omega
theorem min_stay (k c n : Int) (h : n = min (k - 1) c) (hk : ¬ k ≤ c) : n = min (k + 1 - 1) c := by omega

set_option maxHeartbeats 1000000 in
theorem ucount_any (x : Int) (h0 : -32768 ≤ x) (h1 : x ≤ 32767) (w : World) : Calls Tryf.prog 7 #[.int .i16 x] w fun e w' => e = .returned (.int .u8 (uenc x)) ∧ w' = w := by
  obtain ⟨m, hm⟩ : ∃ m, dist x = m := ⟨_, rfl⟩
  have hd := dist_bd x h0 h1
  have m0 : 0 ≤ m := by omega
  have m1 : m ≤ 32767 := by omega
  have HM : Hid (dist x = m) := hm
  clear hm hd
  obtain ⟨c, hc⟩ : ∃ c, c = ucode (um x) := ⟨_, rfl⟩
  have hcb := ucode_bd (um x)
  rw [← hc] at hcb
  have hlev : ∀ k, 1 ≤ k → k ≤ 127 → (wrap64 ((16 + k % 16) * 2 ^ (k / 16 + 1).toNat) ≤ m / 4 + 33 ↔ k ≤ c) := fun k k0 k1 => by
    rw [hc]; exact ulevel (m / 4 + 33) (um x) k (by omega) (by omega) (by unfold um; rw [HM.out]) k0 k1
  have HL : Hid (∀ k, 1 ≤ k → k ≤ 127 → (wrap64 ((16 + k % 16) * 2 ^ (k / 16 + 1).toNat) ≤ m / 4 + 33 ↔ k ≤ c)) := hlev
  have HC : Hid (c = ucode (um x)) := hc
  clear hlev hc
  obtain ⟨c0, c1⟩ := hcb
  go_enter Tryf.func7, Tryf.ntmps7
  go_wp2_with fail
  refine (dis_any _ h0 h1 _).mono ?_
  rintro _ w1 ⟨rfl, hw⟩
  subst hw
  rw [HM.out]
  go_wp2_with fail
  go_loop [4, 5] (fun n i => ∃ k : Int, 1 ≤ k ∧ k ≤ 128 ∧ i = .int .i64 k ∧ ∃ t : Int, 0 ≤ t ∧ t ≤ 127 ∧ n = .int .i64 t ∧ Hid (t = min (k - 1) c)) (fun _ i => 128 - (intOf i).toNat)
  case atStart => exact ⟨1, by omega, by omega, rfl, 0, by omega, by omega, rfl, by unfold Hid; omega⟩
  case round =>
    obtain ⟨k, hk1, hk2, rfl, t, ht0, ht1, rfl, ht⟩ := hrel
    by_cases hlt : k < 128
    · have hb := HL.out k hk1 (by omega)
      by_cases hkc : k ≤ c
      · have hy := hb.2 hkc
        clear hb
        have hx := min_step k c t ht.out hkc
        have HX : Hid (t + 1 = min (k + 1 - 1) c) := hx
        clear hx
        go_wp2
        go_round
        case rel => exact ⟨k + 1, by omega, by omega, rfl, t + 1, by omega, by have := HX.out; omega, rfl, HX.out⟩
        case measure => simp [intOf]; omega
      · have hy : ¬ wrap64 ((16 + k % 16) * 2 ^ (k / 16 + 1).toNat) ≤ m / 4 + 33 := fun h => hkc (hb.1 h)
        clear hb
        have HX : Hid (t = min (k + 1 - 1) c) := min_stay k c t ht.out hkc
        go_wp2
        go_round
        case rel => exact ⟨k + 1, by omega, by omega, rfl, t, by omega, by omega, rfl, HX.out⟩
        case measure => simp [intOf]; omega
    · have htc : t = c := by have := ht.out; omega
      subst htc
      by_cases hx : x < 0
      · go_wp2
        go_ret
        exact ⟨ret_int (by unfold uenc; rw [if_pos (by omega), ← HC.out]), rfl⟩
      · go_wp2
        go_ret
        exact ⟨ret_int (by unfold uenc; rw [if_neg (by omega), ← HC.out]), rfl⟩

set_option maxHeartbeats 1000000 in
theorem acount_any (x : Int) (h0 : -32768 ≤ x) (h1 : x ≤ 32767) (w : World) : Calls Tryf.prog 8 #[.int .i16 x] w fun e w' => e = .returned (.int .u8 (aenc x)) ∧ w' = w := by
  obtain ⟨m, hm⟩ : ∃ m, dist x = m := ⟨_, rfl⟩
  have hd := dist_bd x h0 h1
  have m0 : 0 ≤ m := by omega
  have m1 : m ≤ 32767 := by omega
  have HM : Hid (dist x = m) := hm
  clear hm hd
  obtain ⟨c, hc⟩ : ∃ c, c = acode (m / 8) := ⟨_, rfl⟩
  have hcb := acode_bd (m / 8)
  rw [← hc] at hcb
  have HL0 : Hid (∀ k, 1 ≤ k → k ≤ 15 → (2 * (k % 16) ≤ m / 8 ↔ k ≤ c)) := fun k k0 k1 => by
    rw [hc]; exact alevel0 (m / 8) k (by omega) (by omega) k0 k1
  have HL1 : Hid (∀ k, 16 ≤ k → k ≤ 127 → (wrap64 ((16 + k % 16) * 2 ^ (k / 16).toNat) ≤ m / 8 ↔ k ≤ c)) := fun k k0 k1 => by
    rw [hc]; exact alevel1 (m / 8) k (by omega) (by omega) k0 k1
  have HC : Hid (c = acode (m / 8)) := hc
  clear hc
  obtain ⟨c0, c1⟩ := hcb
  go_enter Tryf.func8, Tryf.ntmps8
  go_wp2_with fail
  refine (dis_any _ h0 h1 _).mono ?_
  rintro _ w1 ⟨rfl, hw⟩
  subst hw
  rw [HM.out]
  go_wp2_with fail
  go_loop [4, 5] (fun n i => ∃ k : Int, 1 ≤ k ∧ k ≤ 128 ∧ i = .int .i64 k ∧ ∃ t : Int, 0 ≤ t ∧ t ≤ 127 ∧ n = .int .i64 t ∧ Hid (t = min (k - 1) c)) (fun _ i => 128 - (intOf i).toNat)
  case atStart => exact ⟨1, by omega, by omega, rfl, 0, by omega, by omega, rfl, by unfold Hid; omega⟩
  case round =>
    obtain ⟨k, hk1, hk2, rfl, t, ht0, ht1, rfl, ht⟩ := hrel
    by_cases hlt : k < 128
    · by_cases hseg : k ≤ 15
      · have hb := HL0.out k hk1 hseg
        by_cases hkc : k ≤ c
        · have hy := hb.2 hkc
          clear hb
          have HX : Hid (t + 1 = min (k + 1 - 1) c) := min_step k c t ht.out hkc
          go_wp2
          go_round
          case rel => exact ⟨k + 1, by omega, by omega, rfl, t + 1, by omega, by have := HX.out; omega, rfl, HX.out⟩
          case measure => simp [intOf]; omega
        · have hy : ¬ 2 * (k % 16) ≤ m / 8 := fun h => hkc (hb.1 h)
          clear hb
          have HX : Hid (t = min (k + 1 - 1) c) := min_stay k c t ht.out hkc
          go_wp2
          go_round
          case rel => exact ⟨k + 1, by omega, by omega, rfl, t, by omega, by omega, rfl, HX.out⟩
          case measure => simp [intOf]; omega
      · have hb := HL1.out k (by omega) (by omega)
        have hs1 : 0 < k / 16 := by omega
        by_cases hkc : k ≤ c
        · have hy := hb.2 hkc
          clear hb
          have HX : Hid (t + 1 = min (k + 1 - 1) c) := min_step k c t ht.out hkc
          go_wp2
          go_round
          case rel => exact ⟨k + 1, by omega, by omega, rfl, t + 1, by omega, by have := HX.out; omega, rfl, HX.out⟩
          case measure => simp [intOf]; omega
        · have hy : ¬ wrap64 ((16 + k % 16) * 2 ^ (k / 16).toNat) ≤ m / 8 := fun h => hkc (hb.1 h)
          clear hb
          have HX : Hid (t = min (k + 1 - 1) c) := min_stay k c t ht.out hkc
          go_wp2
          go_round
          case rel => exact ⟨k + 1, by omega, by omega, rfl, t, by omega, by omega, rfl, HX.out⟩
          case measure => simp [intOf]; omega
    · have htc : t = c := by have := ht.out; omega
      subst htc
      by_cases hx : x < 0
      · go_wp2
        go_ret
        exact ⟨ret_int (by unfold aenc; rw [if_pos (by omega), HM.out, ← HC.out]), rfl⟩
      · go_wp2
        go_ret
        exact ⟨ret_int (by unfold aenc; rw [if_neg (by omega), HM.out, ← HC.out]), rfl⟩

set_option maxHeartbeats 400000 in
theorem bytes5_any (l : Int) (x : Option Addr) (n c : Nat) (w : World) :
    Calls Tryf.prog 5 #[.int .u8 l, .slice x n c] w fun e w' => ∃ y : Bool, e = .returned (.bool y) ∧ w' = w := by
  go_enter Tryf.func5, Tryf.ntmps5
  go_wp2
  all_goals go_ret
  all_goals exact ⟨_, rfl, rfl⟩
set_option maxHeartbeats 400000 in
theorem bytes9_any (l : Int) (x : Option Addr) (n c : Nat) (w : World) :
    Calls Tryf.prog 9 #[.int .u8 l, .slice x n c] w fun e w' => ∃ y : Bool, e = .returned (.bool y) ∧ w' = w := by
  go_enter Tryf.func9, Tryf.ntmps9
  go_wp2
  all_goals go_ret
  all_goals exact ⟨_, rfl, rfl⟩
end Go.Proofs.Qxb6627421aFmt
