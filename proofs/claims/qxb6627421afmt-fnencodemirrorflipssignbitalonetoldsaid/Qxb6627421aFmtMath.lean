/-
  The plain mathematics of G.711's two laws: segments, codes, counts of decision levels. No Go in sight.
-/
import Derived.WalkKit
import Derived.Laws.BitsAllLaws
namespace Go.Proofs.Qxb6627421aFmt
open Go.RowKit
set_option linter.unusedSimpArgs false

/-- The distance from the middle of the scale. -/
def dist (x : Int) : Int := if x < 0 then -1 - x else x
/-- The segment of a biased magnitude in mu-law, and its code. -/
def useg (M : Int) : Int := if M < 64 then 0 else if M < 128 then 1 else if M < 256 then 2 else if M < 512 then 3 else if M < 1024 then 4 else if M < 2048 then 5 else if M < 4096 then 6 else 7
def ucode (M : Int) : Int := useg M * 16 + M / 2 ^ (useg M + 1).toNat % 16
/-- The segment of a magnitude in A-law, and its code. -/
def aseg (M : Int) : Int := if M < 32 then 0 else if M < 64 then 1 else if M < 128 then 2 else if M < 256 then 3 else if M < 512 then 4 else if M < 1024 then 5 else if M < 2048 then 6 else 7
def ash (M : Int) : Int := if aseg M < 1 then 1 else aseg M
def acode (M : Int) : Int := aseg M * 16 + M / 2 ^ (ash M).toNat % 16

theorem dist_bd (x : Int) (h0 : -32768 ≤ x) (h1 : x ≤ 32767) : 0 ≤ dist x ∧ dist x ≤ 32767 := by unfold dist; split <;> omega
theorem dist_mirror (x : Int) : dist (-1 - x) = dist x := by unfold dist; split <;> split <;> omega
theorem useg_bd (M : Int) : 0 ≤ useg M ∧ useg M ≤ 7 := by unfold useg; (repeat' split) <;> omega
theorem aseg_bd (M : Int) : 0 ≤ aseg M ∧ aseg M ≤ 7 := by unfold aseg; (repeat' split) <;> omega
theorem ash_bd (M : Int) : 1 ≤ ash M ∧ ash M ≤ 7 := by have := aseg_bd M; unfold ash; split <;> omega

theorem p1 : (1 : Int).toNat = 1 := rfl
theorem eight {s : Int} (h0 : 0 ≤ s) (h1 : s ≤ 7) : s = 0 ∨ s = 1 ∨ s = 2 ∨ s = 3 ∨ s = 4 ∨ s = 5 ∨ s = 6 ∨ s = 7 := by omega

theorem ucode_bd (M : Int) : 0 ≤ ucode M ∧ ucode M ≤ 127 := by
  have := useg_bd M
  unfold ucode
  generalize M / 2 ^ (useg M + 1).toNat = d
  omega
theorem acode_bd (M : Int) : 0 ≤ acode M ∧ acode M ≤ 127 := by
  have := aseg_bd M
  unfold acode
  generalize M / 2 ^ (ash M).toNat = d
  omega

/-- The loop that finds the segment: it goes on just where the segment is not reached. -/
theorem useg_test (M s : Int) (h0 : 33 ≤ M) (h1 : M ≤ 8191) (s0 : 0 ≤ s) (s1 : s ≤ useg M) : (M / 2 ^ (s + 6).toNat != 0) = decide (s < useg M) := by
  have hb := useg_bd M
  rw [Bool.eq_iff_iff, bne_iff_ne, decide_eq_true_eq]
  rcases eight s0 (by omega) with rfl | rfl | rfl | rfl | rfl | rfl | rfl | rfl
  all_goals
    simp only [Int.reduceAdd, Int.reduceToNat, Int.reducePow]
    clear s1 hb
    unfold useg
    (repeat' split) <;> omega
theorem aseg_test (M s : Int) (h0 : 0 ≤ M) (h1 : M ≤ 4095) (s0 : 0 ≤ s) (s1 : s ≤ aseg M) : (M / 2 ^ (s + 5).toNat != 0) = decide (s < aseg M) := by
  have hb := aseg_bd M
  rw [Bool.eq_iff_iff, bne_iff_ne, decide_eq_true_eq]
  rcases eight s0 (by omega) with rfl | rfl | rfl | rfl | rfl | rfl | rfl | rfl
  all_goals
    simp only [Int.reduceAdd, Int.reduceToNat, Int.reducePow]
    clear s1 hb
    unfold aseg
    (repeat' split) <;> omega

/-- A decision level of mu-law is reached just where its number is at most the code. -/
theorem ulevel (L M k : Int) (h0 : 33 ≤ L) (h1 : L ≤ 8224) (hM : M = if 8191 < L then 8191 else L) (k0 : 1 ≤ k) (k1 : k ≤ 127) : wrap64 ((16 + k % 16) * 2 ^ (k / 16 + 1).toNat) ≤ L ↔ k ≤ ucode M := by
  have m0 : 33 ≤ M := by rw [hM]; split <;> omega
  have m1 : M ≤ 8191 := by rw [hM]; split <;> omega
  have m2 : M ≤ L := by rw [hM]; split <;> omega
  have m3 : M < 8191 → M = L := by intro h; rw [hM] at h ⊢; split <;> (split at h <;> omega)
  clear hM
  have e : ∃ s, s = k / 16 ∧ 0 ≤ s ∧ s ≤ 7 := ⟨_, rfl, by omega, by omega⟩
  obtain ⟨s, hs, s0, s1⟩ := e
  rw [← hs]
  unfold ucode useg wrap64
  rcases eight s0 s1 with rfl | rfl | rfl | rfl | rfl | rfl | rfl | rfl
  all_goals
    simp only [Int.reduceAdd, Int.reduceToNat, Int.reducePow]
    (repeat' split) <;> simp only [Int.reduceAdd, Int.reduceToNat, Int.reducePow] <;> omega

/-- The code of A-law, its segment's power written out. -/
def acode' (M : Int) : Int := if M < 32 then M / 2 % 16 else if M < 64 then 16 + M / 2 % 16 else if M < 128 then 32 + M / 4 % 16 else if M < 256 then 48 + M / 8 % 16 else if M < 512 then 64 + M / 16 % 16 else if M < 1024 then 80 + M / 32 % 16 else if M < 2048 then 96 + M / 64 % 16 else 112 + M / 128 % 16
theorem acode_eq (M : Int) : acode M = acode' M := by
  unfold acode ash aseg acode'
  by_cases a1 : M < 32
  · simp only [if_pos a1, if_pos (show (0 : Int) < 1 by decide), Int.reduceAdd, Int.reduceToNat, Int.reducePow]; omega
  · simp only [if_neg a1]
    by_cases a2 : M < 64
    · simp only [if_pos a2, if_neg (show ¬ (1 : Int) < 1 by decide), Int.reduceAdd, Int.reduceToNat, Int.reducePow]; omega
    · simp only [if_neg a2]
      by_cases a3 : M < 128
      · simp only [if_pos a3, if_neg (show ¬ (2 : Int) < 1 by decide), Int.reduceAdd, Int.reduceToNat, Int.reducePow]; omega
      · simp only [if_neg a3]
        by_cases a4 : M < 256
        · simp only [if_pos a4, if_neg (show ¬ (3 : Int) < 1 by decide), Int.reduceAdd, Int.reduceToNat, Int.reducePow]; omega
        · simp only [if_neg a4]
          by_cases a5 : M < 512
          · simp only [if_pos a5, if_neg (show ¬ (4 : Int) < 1 by decide), Int.reduceAdd, Int.reduceToNat, Int.reducePow]; omega
          · simp only [if_neg a5]
            by_cases a6 : M < 1024
            · simp only [if_pos a6, if_neg (show ¬ (5 : Int) < 1 by decide), Int.reduceAdd, Int.reduceToNat, Int.reducePow]; omega
            · simp only [if_neg a6]
              by_cases a7 : M < 2048
              · simp only [if_pos a7, if_neg (show ¬ (6 : Int) < 1 by decide), Int.reduceAdd, Int.reduceToNat, Int.reducePow]; omega
              · simp only [if_neg a7, if_neg (show ¬ (7 : Int) < 1 by decide), Int.reduceAdd, Int.reduceToNat, Int.reducePow]; omega
/-- A decision level of A-law's first segment. -/
theorem alevel0 (M k : Int) (h0 : 0 ≤ M) (h1 : M ≤ 4095) (k0 : 1 ≤ k) (k1 : k ≤ 15) : 2 * (k % 16) ≤ M ↔ k ≤ acode M := by
  rw [acode_eq]; unfold acode'
  (repeat' split) <;> omega
/-- A decision level of A-law's other segments. -/
theorem alevel1 (M k : Int) (h0 : 0 ≤ M) (h1 : M ≤ 4095) (k0 : 16 ≤ k) (k1 : k ≤ 127) : wrap64 ((16 + k % 16) * 2 ^ (k / 16).toNat) ≤ M ↔ k ≤ acode M := by
  have e : ∃ s, s = k / 16 ∧ 0 ≤ s ∧ s ≤ 7 := ⟨_, rfl, by omega, by omega⟩
  obtain ⟨s, hs, s0, s1⟩ := e
  rw [← hs, acode_eq]
  unfold acode' wrap64
  rcases eight s0 s1 with rfl | rfl | rfl | rfl | rfl | rfl | rfl | rfl
  all_goals
    simp only [Int.reduceAdd, Int.reduceToNat, Int.reducePow]
    (repeat' split) <;> omega

/-! ### Bits -/
theorem wraps_i64 (n : Int) (h0 : 0 ≤ n) (h1 : n < 2 ^ 63) : IntKind.i64.wrap n = n := by rw [IntKind.wrap_i64]; omega
theorem i64_not' (x : Int) (h0 : -32768 ≤ x) (h1 : x ≤ 32767) : bits .xor .i64 (-1) x = -1 - x := by
  show IntKind.i64.wrap ((BitVec.ofInt 64 (-1) ^^^ BitVec.ofInt 64 x).toNat : Int) = _
  have h2 : BitVec.ofInt 64 (-1) = BitVec.allOnes 64 := by decide
  rw [h2, BitVec.allOnes_xor, BitVec.toNat_not, BitVec.toNat_ofInt, IntKind.wrap_i64]
  omega
theorem and15 (x : Int) (h0 : 0 ≤ x) (h1 : x < 65536) : bits .and .i64 x 15 = x % 16 := bits_mask .i64 63 (by decide) wraps_i64 4 (by decide) x h0 (by omega)
theorem or16 (s r : Int) (s0 : 0 ≤ s) (s1 : s ≤ 7) (r0 : 0 ≤ r) (r1 : r < 16) : bits .or .i64 (s * 16) r = s * 16 + r :=
  bits_join .i64 63 (by decide) wraps_i64 4 (s * 16) r (by omega) (by omega) (by omega) r0 (by omega) (by omega)
theorem xorMax : ∀ c : Fin 256, bits .xor .u8 IntKind.u8.max (c.val : Int) = 255 - (c.val : Int) := by decide +kernel
theorem or128 : ∀ c : Fin 128, bits .or .u8 (c.val : Int) 128 = (c.val : Int) + 128 := by decide +kernel
theorem mirrorA : ∀ c : Fin 128, bits .xor .u8 (bits .xor .u8 ((c.val : Int) + 128) 85) (bits .xor .u8 (c.val : Int) 85) = 128 ∧ bits .xor .u8 (bits .xor .u8 (c.val : Int) 85) (bits .xor .u8 ((c.val : Int) + 128) 85) = 128 ∧ 128 ≤ bits .xor .u8 ((c.val : Int) + 128) 85 ∧ bits .xor .u8 (c.val : Int) 85 < 128 := by decide +kernel
theorem mirrorU : ∀ c : Fin 128, bits .xor .u8 (255 - (c.val : Int)) (127 - (c.val : Int)) = 128 ∧ bits .xor .u8 (127 - (c.val : Int)) (255 - (c.val : Int)) = 128 := by decide +kernel
end Go.Proofs.Qxb6627421aFmt
