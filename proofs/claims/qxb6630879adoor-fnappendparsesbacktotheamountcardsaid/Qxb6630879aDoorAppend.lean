/-
  Amount.Append: what the Go text lays behind its slice: the canonical text of the amount.
-/
import Derived.Test.Qxb6630879aDoorRows
import Derived.Test.Qxb6630879aDoorShelf
import Derived.WalkKit
import Derived.WalkSpells
import Derived.WalkLawsBesides
namespace Go.Proofs.Qxb6630879aDoor
open Go.RowKit

/-- The decimal numeral of a number, as numbers. -/
def dec (u : Nat) : List Int := (Lib.decDigits u).map fun b => (b.toNat : Int)
/-- Six digits of a number below a million. -/
def six (f : Int) : List Int := [48 + f / 10 / 10 / 10 / 10 / 10 % 10, 48 + f / 10 / 10 / 10 / 10 % 10, 48 + f / 10 / 10 / 10 % 10, 48 + f / 10 / 10 % 10, 48 + f / 10 % 10, 48 + f % 10]
/-- The text of a magnitude in millionths. -/
def body (m : Int) : List Int := dec (m / 1000000).toNat ++ 46 :: six (m % 1000000)
/-- The text of an amount. -/
def txt (a : Int) : List Int := if a < 0 then 45 :: body (-a) else body a

theorem byteCells_dec (u : Nat) : Lib.byteCells (Lib.decDigits u) = (dec u).map (Value.int .u8) := by simp [Lib.byteCells, dec]
theorem dec_length (u : Nat) : (dec u).length = (Lib.decDigits u).length := by simp [dec]
theorem dec_le (u : Nat) (h : u < 18446744073709551616) : (Lib.decDigits u).length ≤ 20 := by
  rw [Lib.decDigits_length]
  by_cases h0 : u < 10
  · rw [Lib.nDigits_small h0]; omega
  · have := Lib.numDigits_eq u (by omega) h; split at this <;> omega

set_option maxHeartbeats 400000 in
theorem uint_any (B n u : Nat) (hu : u < 18446744073709551616) (sv : Value) (xs : List Value) (w : World) (hown : w.ownsRow B 5 1 sv n xs) (hB : B ≤ w.heap.size) (hlim : n + 20 ≤ 140737488355328) (htab : Pow w) :
    Calls Tryd.prog 9 #[sv, .int .u64 u, .int .i64 10] w fun e w' => ∃ v', e = .returned v' ∧ w'.ownsRow B 5 1 v' (n + (Lib.decDigits u).length) (xs ++ Lib.byteCells (Lib.decDigits u)) ∧ Below B w w' := by
  go_enter Tryd.func9, Tryd.ntmps9
  go_wp2_with (go_at_call 11; refine (appendUint B n u hu sv xs _ hown hB hlim htab).mono ?_; rintro e w' ⟨v', rfl, h1, h2, _⟩)
  go_ret
  exact ⟨_, rfl, h1, h2⟩
theorem uint_int (B n : Nat) (q : Int) (h0 : 0 ≤ q) (h1 : q ≤ 18446744073709551615) (sv : Value) (xs : List Value) (w : World) (hown : w.ownsRow B 5 1 sv n xs) (hB : B ≤ w.heap.size) (hlim : n + 20 ≤ 140737488355328) (htab : Pow w) :
    Calls Tryd.prog 9 #[sv, .int .u64 q, .int .i64 10] w fun e w' => ∃ v', e = .returned v' ∧ w'.ownsRow B 5 1 v' (n + (Lib.decDigits q.toNat).length) (xs ++ Lib.byteCells (Lib.decDigits q.toNat)) ∧ Below B w w' ∧ (Lib.decDigits q.toNat).length ≤ 20 := by
  obtain ⟨u, rfl⟩ := Int.eq_ofNat_of_zero_le h0
  rw [Int.toNat_natCast]
  exact (uint_any B n u (by omega) sv xs w hown hB hlim htab).mono fun e w' ⟨v', he, h1, h2⟩ => ⟨v', he, h1, h2, dec_le u (by omega)⟩

/-- The array's own cells, behind the append of the point. -/
theorem frac_cells {B n2 : Nat} {w2 w3 : World} {v2 : Value} {xs2 : List Value} {f : Int} {o : Obj} (hown : w2.ownsRow B 5 1 v2 n2 xs2) (hg : ((w2.alloc (.cells ((six f).map (Value.int .u8)).toArray 30)).alloc o).grownBy w3 v2.ownBlock) :
    ∀ j u, ((six f).map (Value.int .u8))[j]? = some u → w3.cell? ((⟨w2.heap.size, 0, none⟩ : Addr).add j) = some u := by
  intro j u hj
  have h1 : w3.heap[w2.heap.size]? = some (.cells ((six f).map (Value.int .u8)).toArray 30 (0, 0)) := by
    rw [hg.block _ (by simp; omega) (fun e => by have := (hown.lt _ e.symm).2; omega)]
    rw [Below.heap_alloc _ _ _ (by simp)]
    exact heap_alloc_new w2 _
  rw [Addr.add_lit, cell_of_row w3 _ _ _ 30 (0, 0) h1]
  simpa using hj
theorem frac_below {B n2 : Nat} {w2 w3 w4 : World} {v2 v3 : Value} {n3 : Nat} {xs2 xs3 : List Value} {o1 o2 : Obj} (hB : B ≤ w2.heap.size) (hown : w2.ownsRow B 5 1 v2 n2 xs2) (hg : ((w2.alloc o1).alloc o2).grownBy w3 v2.ownBlock) (hown3 : w3.ownsRow B 5 1 v3 n3 xs3) (hg2 : w3.grownBy w4 v3.ownBlock) : Below B w2 w4 := by
  have h1 := (((Below.refl B w2).alloc hB o1).alloc (by simp; omega) o2).grown hg (by simp; omega) (fun k hk => (hown.lt k hk).1)
  exact h1.grown hg2 (by have := h1.size; omega) (fun k hk => (hown3.lt k hk).1)
theorem six_one (f : Int) : ∀ u ∈ (six f).map (Value.int .u8), u.oneCell' = true := ints_oneCell _ _

set_option maxHeartbeats 1000000 in
theorem app_pos (B n : Nat) (a : Int) (h0 : 0 ≤ a) (h1 : a ≤ 9223372036854775807) (sv : Value) (xs : List Value) (w : World) (hown : w.ownsRow B 5 1 sv n xs) (hB : B ≤ w.heap.size) (hlim : n + 40 ≤ 140737488355328) (htab : ∀ w1, Below B w w1 → Pow w1) :
    Calls Tryd.prog 7 #[.int .i64 a, sv] w fun e w' => ∃ v', e = .returned v' ∧ w'.ownsRow B 5 1 v' (n + (txt a).length) (xs ++ (txt a).map (Value.int .u8)) ∧ Below B w w' := by
  have t1 : decide (a < 0) = false := by simp; omega
  obtain ⟨i0, hi, hz0, hz1, hz2⟩ := info_parts lays288.i5
  go_enter Tryd.func7, Tryd.ntmps7
  go_wp2_with fail
  refine (uint_int B n _ (by omega) (by omega) sv xs _ hown hB (by omega) (htab _ (Below.refl _ _))).mono ?_
  rintro _ w2 ⟨v2, rfl, hown2, hb2, hd20⟩
  have hB2 : B ≤ w2.heap.size := by have := hb2.size; omega
  go_wp2_with fail
  obtain ⟨f, hf⟩ : ∃ f, f = a % 1000000 := ⟨_, rfl⟩
  rw [← hf]
  have f0 : 0 ≤ f := by omega
  have f1 : f ≤ 999999 := by omega
  have HF : Hid (f = a % 1000000) := hf
  clear hf
  refine wp_loop_rounds 7 ?_
  rw [rounds_succ]
  go_wp2_with fail
  rw [rounds_succ]
  go_wp2_with fail
  rw [rounds_succ]
  go_wp2_with fail
  rw [rounds_succ]
  go_wp2_with fail
  rw [rounds_succ]
  go_wp2_with fail
  rw [rounds_succ]
  go_wp2_with fail
  rw [rounds_succ]
  go_wp2_with (at_builtin; refine wpList_append_own _ rfl (.tmp 36) (.tmp 37) 23 rfl B 5 i0 (.int .u8 0) 1 1 Tryd.underlying23 hi hz0 hz1 hz2 rfl (by decide) _ _ _ rfl ((hown2.alloc _).alloc _) ⟨w2.heap.size + 1, 0, none⟩ 1 1 [.int .u8 46] rfl rfl ?q1 (by simp [Value.oneCell']) ?q2 ?q3 ?q4 ?_)
  case q1 => intro j u hj; rw [Addr.add_lit]; match j, hj with | 0, hj => simpa using hj
  case q2 => unfold maxLen; omega
  case q3 => omega
  case q4 => simp; omega
  intro v3 w3 hown3 hgrow3 _
  have hc3 := frac_cells (f := f) hown2 hgrow3
  go_wp2_with (at_builtin; refine wpList_append_own _ rfl (.tmp 39) (.tmp 40) 23 rfl B 5 i0 (.int .u8 0) 1 1 Tryd.underlying23 hi hz0 hz1 hz2 rfl (by decide) _ _ _ rfl hown3 ⟨w2.heap.size, 0, none⟩ 6 6 ((six f).map (Value.int .u8)) rfl rfl hc3 (six_one f) ?p2 ?p3 ?p4 ?_)
  case p2 => unfold maxLen; omega
  case p3 => omega
  case p4 => have := hgrow3.size; simp at this; omega
  intro v4 w4 hown4 hgrow4 _
  go_wp2
  go_ret
  refine ⟨v4, rfl, ?_, hb2.trans (frac_below hB2 hown2 hgrow3 hown3 hgrow4)⟩
  have e1 : txt a = dec (a / 1000000).toNat ++ 46 :: six f := by unfold txt body; rw [if_neg (by omega), ← HF.out]
  have e2 : n + (Lib.decDigits (a / 1000000).toNat).length + 1 + 6 = n + (txt a).length := by rw [e1, List.length_append, dec_length]; simp [six]; omega
  have e3 : xs ++ (Lib.byteCells (Lib.decDigits (a / 1000000).toNat) ++ .int .u8 46 :: (six f).map (Value.int .u8)) = xs ++ (txt a).map (Value.int .u8) := by rw [e1, byteCells_dec]; simp
  rw [← e2, ← e3]
  exact hown4

theorem neg_eq (a m : Int) (h0 : a < 0) (h1 : -9223372036854775808 ≤ a) (hm : m = -a) : IntKind.u64.wrap (-IntKind.u64.wrap a) = m := by
  simp only [IntKind.wrap_u64]; omega
set_option maxHeartbeats 1000000 in
theorem app_neg (B n : Nat) (a m : Int) (h0 : a < 0) (h1 : -9223372036854775808 ≤ a) (m0 : 1 ≤ m) (m1 : m ≤ 9223372036854775808) (hm : Hid (m = -a)) (sv : Value) (xs : List Value) (w : World) (hown : w.ownsRow B 5 1 sv n xs) (hB : B ≤ w.heap.size) (hlim : n + 40 ≤ 140737488355328) (htab : ∀ w1, Below B w w1 → Pow w1) :
    Calls Tryd.prog 7 #[.int .i64 a, sv] w fun e w' => ∃ v', e = .returned v' ∧ w'.ownsRow B 5 1 v' (n + (txt a).length) (xs ++ (txt a).map (Value.int .u8)) ∧ Below B w w' := by
  have hneg := neg_eq a m h0 h1 hm.out
  have t1 : decide (a < 0) = true := by simp; omega
  obtain ⟨i0, hi, hz0, hz1, hz2⟩ := info_parts lays288.i5
  go_enter Tryd.func7, Tryd.ntmps7
  go_wp2_with (at_builtin; refine wpList_append_own _ rfl (.tmp 13) (.tmp 14) 23 rfl B 5 i0 (.int .u8 0) 1 1 Tryd.underlying23 hi hz0 hz1 hz2 rfl (by decide) _ _ _ rfl (hown.alloc _) ⟨w.heap.size, 0, none⟩ 1 1 [.int .u8 45] rfl rfl (cell_one_new _ _ _) (by simp [Value.oneCell']) (by unfold maxLen; omega) (by omega) (by simp; omega) ?_)
  intro v1 w1 hown1 hgrow1 _
  have hb1 : Below B w w1 := ((Below.refl B w).alloc hB _).grown hgrow1 (by simp; omega) (fun k hk => (hown.lt k hk).1)
  have hB1 : B ≤ w1.heap.size := by have := hb1.size; omega
  go_wp2_with fail
  refine (uint_int B (n + 1) _ (by omega) (by omega) v1 _ _ hown1 hB1 (by omega) (htab _ hb1)).mono ?_
  rintro _ w2 ⟨v2, rfl, hown2, hb2, hd20⟩
  have hB2 : B ≤ w2.heap.size := by have := hb2.size; omega
  go_wp2_with fail
  obtain ⟨f, hf⟩ : ∃ f, f = m % 1000000 := ⟨_, rfl⟩
  rw [← hf]
  have f0 : 0 ≤ f := by omega
  have f1 : f ≤ 999999 := by omega
  have HF : Hid (f = m % 1000000) := hf
  clear hf
  refine wp_loop_rounds 7 ?_
  rw [rounds_succ]
  go_wp2_with fail
  rw [rounds_succ]
  go_wp2_with fail
  rw [rounds_succ]
  go_wp2_with fail
  rw [rounds_succ]
  go_wp2_with fail
  rw [rounds_succ]
  go_wp2_with fail
  rw [rounds_succ]
  go_wp2_with fail
  rw [rounds_succ]
  go_wp2_with (at_builtin; refine wpList_append_own _ rfl (.tmp 36) (.tmp 37) 23 rfl B 5 i0 (.int .u8 0) 1 1 Tryd.underlying23 hi hz0 hz1 hz2 rfl (by decide) _ _ _ rfl ((hown2.alloc _).alloc _) ⟨w2.heap.size + 1, 0, none⟩ 1 1 [.int .u8 46] rfl rfl ?q1 (by simp [Value.oneCell']) ?q2 ?q3 ?q4 ?_)
  case q1 => intro j u hj; rw [Addr.add_lit]; match j, hj with | 0, hj => simpa using hj
  case q2 => unfold maxLen; omega
  case q3 => omega
  case q4 => simp; omega
  intro v3 w3 hown3 hgrow3 _
  have hc3 := frac_cells (f := f) hown2 hgrow3
  go_wp2_with (at_builtin; refine wpList_append_own _ rfl (.tmp 39) (.tmp 40) 23 rfl B 5 i0 (.int .u8 0) 1 1 Tryd.underlying23 hi hz0 hz1 hz2 rfl (by decide) _ _ _ rfl hown3 ⟨w2.heap.size, 0, none⟩ 6 6 ((six f).map (Value.int .u8)) rfl rfl hc3 (six_one f) ?p2 ?p3 ?p4 ?_)
  case p2 => unfold maxLen; omega
  case p3 => omega
  case p4 => have := hgrow3.size; simp at this; omega
  intro v4 w4 hown4 hgrow4 _
  go_wp2
  go_ret
  refine ⟨v4, rfl, ?_, hb1.trans (hb2.trans (frac_below hB2 hown2 hgrow3 hown3 hgrow4))⟩
  have e1 : txt a = 45 :: (dec (m / 1000000).toNat ++ 46 :: six f) := by unfold txt body; rw [if_pos (by omega), ← hm.out, ← HF.out]
  have e2 : n + 1 + (Lib.decDigits (m / 1000000).toNat).length + 1 + 6 = n + (txt a).length := by rw [e1, List.length_cons, List.length_append, dec_length]; simp [six]; omega
  have e3 : xs ++ .int .u8 45 :: (Lib.byteCells (Lib.decDigits (m / 1000000).toNat) ++ .int .u8 46 :: (six f).map (Value.int .u8)) = xs ++ (txt a).map (Value.int .u8) := by rw [e1, byteCells_dec]; simp
  rw [← e2, ← e3]
  exact hown4

theorem app_any (B n : Nat) (a : Int) (h0 : -9223372036854775808 ≤ a) (h1 : a ≤ 9223372036854775807) (sv : Value) (xs : List Value) (w : World) (hown : w.ownsRow B 5 1 sv n xs) (hB : B ≤ w.heap.size) (hlim : n + 40 ≤ 140737488355328) (htab : ∀ w1, Below B w w1 → Pow w1) :
    Calls Tryd.prog 7 #[.int .i64 a, sv] w fun e w' => ∃ v', e = .returned v' ∧ w'.ownsRow B 5 1 v' (n + (txt a).length) (xs ++ (txt a).map (Value.int .u8)) ∧ Below B w w' := by
  by_cases h : a < 0
  · exact app_neg B n a (-a) h h0 (by omega) (by omega) rfl sv xs w hown hB hlim htab
  · exact app_pos B n a (by omega) h1 sv xs w hown hB hlim htab
end Go.Proofs.Qxb6630879aDoor
