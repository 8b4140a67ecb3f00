/-
  THE WALK of FnUpdateActionStringReadsBack: the parser reads the text back.
-/
import Derived.Test.Qxb6630901aFmtText
import Derived.BigRegion
import Derived.Deep.QuietTactic
import Derived.BigQuiet
namespace Go.Proofs.Qxb6630901aFmt
open Go.RowKit Go.Extern.Stop Go.Stop Go.Extern Go.Kit

def preA : ByteArray := ⟨#[117, 112, 100, 97, 116, 101, 32, 97, 99, 116, 105, 111, 110, 32, 48, 120]⟩
/-- The value of the first j digits, and the digit behind them. -/
def pv (u j : Nat) : Nat := u / 16 ^ (4 - j)
def dg (u j : Nat) : Nat := u / 16 ^ (3 - j) % 16
theorem pv_step (u j : Nat) (h : j < 4) : pv u (j + 1) = pv u j * 16 + dg u j := by
  unfold pv dg
  match j, h with
  | 0, _ => simp; omega
  | 1, _ => simp; omega
  | 2, _ => simp; omega
  | 3, _ => simp; omega
theorem pv_bound (u j : Nat) (hu : u < 65536) (h : j < 4) : pv u j < 4096 := by
  unfold pv
  match j, h with
  | 0, _ => simp; omega
  | 1, _ => simp; omega
  | 2, _ => simp; omega
  | 3, _ => simp; omega
theorem dg_lt (u j : Nat) : dg u j < 16 := Nat.mod_lt _ (by decide)

theorem or_join (v d : Nat) (hv : v < 4096) (hd : d < 16) (x y : Int) (hx : x = (v : Int) * 16) (hy : y = (d : Int)) : bits .or .u16 x y = ((v * 16 + d : Nat) : Int) := by
  subst hx hy
  rw [u16_or _ _ (by omega) (by omega) (by omega) (by omega)]
  rw [show ((v : Int) * 16).toNat = v * 16 from by omega, Int.toNat_natCast, nat_join 4 (v * 16) d (by omega) (by omega)]

/-- What the parser knows of the text: the sixteen signs ahead, then the four digits. -/
structure Reads (S : ByteArray) (u : Nat) : Prop where
  size : S.size = 20
  pre : ∀ k (h : k < S.size) (h2 : k < preA.size), (S[k].toNat : Int) = (preA[k].toNat : Int)
  dig : ∀ k (h : k < S.size), 16 ≤ k → (S[k].toNat : Int) = hxI (dg u (k - 16))
  no1 : (S.toList == [97, 100, 100]) = false
  no2 : (S.toList == [100, 101, 108, 101, 116, 101]) = false

set_option maxHeartbeats 400000 in
theorem parse_else (S : ByteArray) (u : Nat) (hu : u < 65536) (hu2 : 2 ≤ u) (h : Reads S u) (w : World) :
    Calls Tryf.prog 7 #[.string S] w fun e w' => e = .returned (.tuple #[.int .u16 u, .bool true]) ∧ ∃ n, w' = w.drewN n := by
  have n1 := h.no1
  have n2 := h.no2
  have hsz := h.size
  go_enter Tryf.func7, Tryf.ntmps7
  go_wp2
  go_loopw [4] (fun i wr => ∃ k m : Nat, k ≤ 16 ∧ i = .int .i64 k ∧ wr = w.drewN m) (fun i _ => 16 - (intOf i).toNat)
  case atStart => exact ⟨0, 0, Nat.zero_le _, rfl, rfl⟩
  case round =>
    obtain ⟨k, m, hk, rfl, rfl⟩ := hrel
    by_cases hlt : k < 16
    · have hl : k < S.size := by omega
      have hp : (S[k].toNat : Int) = ((({ data := #[117, 112, 100, 97, 116, 101, 32, 97, 99, 116, 105, 111, 110, 32, 48, 120] } : ByteArray)[k]'(by simp [ByteArray.size]; exact hlt)).toNat : Int) := h.pre k hl (by simp [preA, ByteArray.size]; exact hlt)
      have i1 : (k : Int) < 20 := by omega
      have i2 : (k : Int) < 16 := by omega
      go_wp2_with fail
      go_region
      go_wp2
      go_roundw
      case rel => exact ⟨k + 1, m + 1, by omega, by go_num, rfl⟩
      case measure => simp [intOf]; omega
    · go_wp2_with fail
      go_loop [5, 6] (fun v i => ∃ k : Nat, 16 ≤ k ∧ k ≤ 20 ∧ i = .int .i64 k ∧ v = .int .u16 (pv u (k - 16) : Nat)) (fun _ i => 20 - (intOf i).toNat)
      case atStart => exact ⟨16, by omega, by omega, rfl, by simp [pv]; omega⟩
      case round =>
        obtain ⟨j, hj1, hj2, rfl, rfl⟩ := hrel
        by_cases hjl : j < 20
        · have hl : j < S.size := by omega
          have hp := h.dig j hl hj1
          have hst := pv_step u (j - 16) (by omega)
          have hb := pv_bound u (j - 16) hu (by omega)
          have hd := dg_lt u (j - 16)
          have HV : Hid (pv u (j + 1 - 16) = pv u (j - 16) * 16 + dg u (j - 16)) := by rw [show j + 1 - 16 = j - 16 + 1 from by omega]; exact hst
          clear hst
          generalize pv u (j - 16) = v at *
          generalize dg u (j - 16) = d at *
          have i1 : (j : Int) < 20 := by omega
          by_cases h10 : d < 10
          · have hp2 : (S[j].toNat : Int) = 48 + (d : Int) := by rw [hp]; unfold hxI; rw [if_pos (by omega)]
            clear hp
            go_wp2
            go_round
            case rel => exact ⟨j + 1, by omega, by omega, by go_num, by rw [HV.out]; exact congrArg _ (or_join v d hb hd _ _ rfl (by omega))⟩
            case measure => simp [intOf]; omega
          · have hp2 : (S[j].toNat : Int) = 87 + (d : Int) := by rw [hp]; unfold hxI; rw [if_neg (by omega)]
            clear hp
            go_wp2
            go_round
            case rel => exact ⟨j + 1, by omega, by omega, by go_num, by rw [HV.out]; exact congrArg _ (or_join v d hb hd _ _ rfl (by omega))⟩
            case measure => simp [intOf]; omega
        · have hv : pv u (j - 16) = u := by rw [show j = 20 from by omega]; simp [pv]
          rw [hv]
          go_wp2
          go_ret2
          exact ⟨rfl, m, rfl⟩

set_option maxHeartbeats 400000 in
theorem parse_add (w : World) : Calls Tryf.prog 7 #[.string (str [97, 100, 100])] w fun e w' => e = .returned (.tuple #[.int .u16 0, .bool true]) ∧ ∃ n, w' = w.drewN n := by
  have n1 : ((str [97, 100, 100]).toList == [97, 100, 100]) = true := by rw [str_toList]; rfl
  go_enter Tryf.func7, Tryf.ntmps7
  go_wp2
  go_ret2
  exact ⟨rfl, 0, rfl⟩
set_option maxHeartbeats 400000 in
theorem parse_del (w : World) : Calls Tryf.prog 7 #[.string (str [100, 101, 108, 101, 116, 101])] w fun e w' => e = .returned (.tuple #[.int .u16 1, .bool true]) ∧ ∃ n, w' = w.drewN n := by
  have n1 : ((str [100, 101, 108, 101, 116, 101]).toList == [97, 100, 100]) = false := by rw [str_toList]; rfl
  have n2 : ((str [100, 101, 108, 101, 116, 101]).toList == [100, 101, 108, 101, 116, 101]) = true := by rw [str_toList]; rfl
  go_enter Tryf.func7, Tryf.ntmps7
  go_wp2
  go_ret2
  exact ⟨rfl, 0, rfl⟩

theorem str_at (l : List UInt8) (k : Nat) (h : k < (str l).size) : (str l)[k] = l[k]'(by simpa [str, ByteArray.size] using h) := rfl
theorem reads_text (u : Nat) (hu : u < 65536) : Reads (str (preB ++ hex4 u)) u := by
  refine ⟨rfl, fun k h h2 => ?_, fun k h hk => ?_, by rw [str_toList]; rfl, by rw [str_toList]; rfl⟩
  · rw [str_at]
    have hk : k < 16 := h2
    have e : (preB ++ hex4 u)[k]'(by simp [preB, hex4]; omega) = preB[k]'hk := List.getElem_append_left _
    rw [e]
    rfl
  · rw [str_at]
    have hk2 : k < 20 := h
    rw [hxI_eq _ (dg_lt u _)]
    rcases (show k = 16 ∨ k = 17 ∨ k = 18 ∨ k = 19 by omega) with rfl | rfl | rfl | rfl
    · have e : u / 4096 % 16 = u / 4096 := by omega
      simp [preB, hex4, dg, e]
    · simp [preB, hex4, dg]
    · simp [preB, hex4, dg]
    · simp [preB, hex4, dg]

/-- zzParseActionText at the text of an action. -/
theorem parse_any (a : Int) (h0 : 0 ≤ a) (h1 : a ≤ 65535) (w : World) : Calls Tryf.prog 7 #[.string (str (text a))] w fun e w' => e = .returned (.tuple #[.int .u16 a, .bool true]) ∧ ∃ n, w' = w.drewN n := by
  unfold text
  by_cases e0 : a = 0
  · subst e0; exact parse_add w
  · by_cases e1 : a = 1
    · subst e1; exact parse_del w
    · rw [if_neg e0, if_neg e1]
      have h := parse_else _ a.toNat (by omega) (by omega) (reads_text a.toNat (by omega)) w
      rw [show ((a.toNat : Nat) : Int) = a from by omega] at h
      exact h

set_option maxHeartbeats 400000 in
theorem back_walk (F : Interp) (a : Int) (a0 : 0 ≤ a) (a1 : a ≤ 65535) (w : World) (hF : F.told.answers w.tape) :
    Calls Tryf.prog 4 #[.int .u16 a] w fun e w' => e = .returned (.bool true) ∧ Below w.heap.size w w' := by
  go_enter Tryf.func4, Tryf.ntmps4
  go_wp2_with fail
  refine (string_any F a a0 a1 w hF).mono ?_
  rintro _ w1 ⟨rfl, hb1⟩
  go_wp2_with fail
  refine (parse_any a a0 a1 w1).mono ?_
  rintro _ w2 ⟨rfl, n, hw2⟩
  have hb2 : Below w.heap.size w w2 := by rw [hw2]; exact ⟨hb1.os, hb1.tape, hb1.output, hb1.size, hb1.block⟩
  clear hw2
  go_wp2
  go_ret
  exact ⟨rfl, hb2⟩
end Go.Proofs.Qxb6630901aFmt
