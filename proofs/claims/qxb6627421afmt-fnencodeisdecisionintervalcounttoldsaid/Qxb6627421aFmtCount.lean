/-
  THE WALK of FnEncodeIsDecisionIntervalCount.
-/
import Derived.Test.Qxb6627421aFmtEncode
namespace Go.Proofs.Qxb6627421aFmt
open Go.RowKit

set_option maxHeartbeats 1000000 in
theorem count_u (so : Option Addr) (sc n : Nat) (X : List Int) (w : World) (HX : Hid (X.length = n)) (hn : n ≤ 65536) (hr : InRange X) (hl : Lies w so X) :
    Calls Tryf.prog 3 #[.int .u8 0, .slice so n sc] w fun e w' => e = .returned (.bool true) ∧ Below w.heap.size w w' := by
  have t2 : decide ((65536 : Int) < (n : Int)) = false := by simp; omega
  have t3 : ((n : Int) != (n : Int)) = false := by simp
  go_enter Tryf.func3, Tryf.ntmps3
  go_wp2_with fail
  refine (bytes5_any _ _ _ _ _).mono ?_
  rintro _ w1 ⟨y, rfl, hw1⟩
  subst hw1
  cases y
  · go_wp2
    go_ret
    exact ⟨rfl, Below.refl _ _⟩
  · go_wp2_with fail
    refine (encode_any 0 (.inl rfl) so sc n X w1 HX.out hn hr hl).mono ?_
    rintro _ w2 ⟨rfl, hp, hb⟩
    go_wp2_with fail
    go_loopw [7] (fun i wr => ∃ k : Nat, k ≤ n ∧ i = .int .i64 k ∧ wr = w2) (fun i _ => n - (intOf i).toNat)
    case atStart => exact ⟨0, Nat.zero_le _, rfl, rfl⟩
    case round =>
      obtain ⟨k, hk, rfl, rfl⟩ := hrel
      by_cases hlt : k < n
      · obtain ⟨b, off, rfl, hbw, c1⟩ := hl.round hb (k := k) (by rw [HX.out]; exact hlt)
        obtain ⟨r0, r1⟩ := hr k (by rw [HX.out]; exact hlt)
        have c2 := hp.cell hlt
        generalize at_ X k = x at *
        have e : enc 0 x = uenc x := enc0 x
        simp only [e] at c2
        clear e
        go_wp2_with fail
        refine (ucount_any x r0 r1 _).mono ?_
        rintro _ w3 ⟨rfl, hw3⟩
        subst hw3
        go_wp2
        go_roundw
        case rel => exact ⟨k + 1, by omega, by go_num, trivial⟩
        case measure => simp [intOf]; omega
      · go_wp2
        go_ret
        exact ⟨rfl, hb⟩
set_option maxHeartbeats 1000000 in
theorem count_a (so : Option Addr) (sc n : Nat) (X : List Int) (w : World) (HX : Hid (X.length = n)) (hn : n ≤ 65536) (hr : InRange X) (hl : Lies w so X) :
    Calls Tryf.prog 3 #[.int .u8 8, .slice so n sc] w fun e w' => e = .returned (.bool true) ∧ Below w.heap.size w w' := by
  have t2 : decide ((65536 : Int) < (n : Int)) = false := by simp; omega
  have t3 : ((n : Int) != (n : Int)) = false := by simp
  go_enter Tryf.func3, Tryf.ntmps3
  go_wp2_with fail
  refine (bytes5_any _ _ _ _ _).mono ?_
  rintro _ w1 ⟨y, rfl, hw1⟩
  subst hw1
  cases y
  · go_wp2
    go_ret
    exact ⟨rfl, Below.refl _ _⟩
  · go_wp2_with fail
    refine (encode_any 8 (.inr rfl) so sc n X w1 HX.out hn hr hl).mono ?_
    rintro _ w2 ⟨rfl, hp, hb⟩
    go_wp2_with fail
    go_loopw [7] (fun i wr => ∃ k : Nat, k ≤ n ∧ i = .int .i64 k ∧ wr = w2) (fun i _ => n - (intOf i).toNat)
    case atStart => exact ⟨0, Nat.zero_le _, rfl, rfl⟩
    case round =>
      obtain ⟨k, hk, rfl, rfl⟩ := hrel
      by_cases hlt : k < n
      · obtain ⟨b, off, rfl, hbw, c1⟩ := hl.round hb (k := k) (by rw [HX.out]; exact hlt)
        obtain ⟨r0, r1⟩ := hr k (by rw [HX.out]; exact hlt)
        have c2 := hp.cell hlt
        generalize at_ X k = x at *
        have e : enc 8 x = aenc x := enc8 x
        simp only [e] at c2
        clear e
        go_wp2_with fail
        refine (acount_any x r0 r1 _).mono ?_
        rintro _ w3 ⟨rfl, hw3⟩
        subst hw3
        go_wp2
        go_roundw
        case rel => exact ⟨k + 1, by omega, by go_num, trivial⟩
        case measure => simp [intOf]; omega
      · go_wp2
        go_ret
        exact ⟨rfl, hb⟩

set_option maxHeartbeats 400000 in
theorem count_short (l : Int) (so : Option Addr) (n sc : Nat) (w : World) (h : 65536 < n) :
    Calls Tryf.prog 3 #[.int .u8 l, .slice so n sc] w fun e w' => e = .returned (.bool true) ∧ Below w.heap.size w w' := by
  go_enter Tryf.func3, Tryf.ntmps3
  go_wp2_with (go_at_call 5; refine (bytes5_any _ _ _ _ _).mono ?_; rintro _ w1 ⟨y, rfl, hw1⟩; subst hw1)
  all_goals go_ret
  all_goals exact ⟨rfl, Below.refl _ _⟩
set_option maxHeartbeats 400000 in
theorem count_other (l : Int) (so : Option Addr) (n sc : Nat) (w : World) (h : n ≤ 65536) (h0 : (l != 0) = true) (h8 : (l != 8) = true) :
    Calls Tryf.prog 3 #[.int .u8 l, .slice so n sc] w fun e w' => e = .returned (.bool true) ∧ Below w.heap.size w w' := by
  go_enter Tryf.func3, Tryf.ntmps3
  go_wp2_with (go_at_call 5; refine (bytes5_any _ _ _ _ _).mono ?_; rintro _ w1 ⟨y, rfl, hw1⟩; subst hw1)
  all_goals go_ret
  all_goals exact ⟨rfl, Below.refl _ _⟩
theorem count_any (l : Int) (so : Option Addr) (sc : Nat) (X : List Int) (w : World) (hr : InRange X) (hl : Lies w so X) :
    Calls Tryf.prog 3 #[.int .u8 l, .slice so X.length sc] w fun e w' => e = .returned (.bool true) ∧ Below w.heap.size w w' := by
  by_cases hn : X.length ≤ 65536
  · by_cases h0 : l = 0
    · subst h0; exact count_u so sc _ X w rfl hn hr hl
    · by_cases h8 : l = 8
      · subst h8; exact count_a so sc _ X w rfl hn hr hl
      · exact count_other l so _ sc w hn (bne_iff_ne.2 h0) (bne_iff_ne.2 h8)
  · exact count_short l so _ sc w (by omega)
end Go.Proofs.Qxb6627421aFmt
