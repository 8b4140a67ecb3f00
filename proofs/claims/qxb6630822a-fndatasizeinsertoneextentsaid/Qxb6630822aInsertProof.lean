/-
  'Rows.FnDataSizeInsertOneExtentSaid' PROVED. The frame is the guide's (proof-skeleton.mjs, third state), turned to this function's number and types.
-/
import Derived.Test.Qxb6630822aInsert
import Derived.Test.Qxb6630822aOpen
import Derived.WalkKit
import Derived.ProofKit
import Derived.OpenShut
import Derived.ChangeOld
import Derived.Below
namespace Go.Proofs.Qxb6630822a.ins
open Go.ChangeShapes Go.WideShapes Go.ChangeAt Go.RowKit
open Go.Proofs.Qxb6630822a

theorem own : ownKnob Try.prog.godebug = none := by kernel_rfl
theorem laidOut : laidOutB Try.prog = true := by kernel_rfl

theorem at_append_left (a b : List (Int × Int × Bool)) (i : Nat) (h : i < a.length) : M.at_ (a ++ b) i = M.at_ a i := by
  simp [M.at_, List.getElem?_append_left h]
theorem ins_of (E : List (Int × Int × Bool)) (k : Nat) (hk : k ≤ E.length) (e : Int × Int × Bool) : Ins E (E.take k ++ e :: E.drop k) k e := by
  have hl : (E.take k).length = k := by simp; omega
  refine ⟨by simp; omega, fun i hi => ?_, ?_, fun i hi hi2 => ?_, M.raw_insert E k e⟩
  · rw [at_append_left _ _ _ (by omega)]
    simp [M.at_, hi]
  · simp [M.at_, hl]
  · simp only [M.at_, List.getD]
    rw [List.getElem?_append_right (by omega), hl, show i + 1 - k = (i - k) + 1 from by omega, List.getElem?_cons_succ, List.getElem?_drop, show k + (i - k) = i from by omega]

set_option maxHeartbeats 1000000 in
theorem short (v k : Int) (r x : Option Addr) (nr cr nx cx : Nat) (a b : Int) (c : Bool) (w : World) (h : 16384 < nr ∨ 16384 < nx ∨ k < 0 ∨ (nx : Int) < k) :
    Calls Try.prog 3 #[.int .u64 v, .slice r nr cr, .slice x nx cx, .int .i64 k, .agg #[.int .i64 a, .int .i64 b, .bool c]] w fun e w' => e = .returned (.bool true) ∧ Below w.heap.size w w' := by
  have fin : ∀ w1 : World, Below (w.alloc (.cells #[.int .i64 a, .int .i64 b, .bool c] 26)).heap.size (w.alloc (.cells #[.int .i64 a, .int .i64 b, .bool c] 26)) w1 → Below w.heap.size w w1 :=
    fun w1 hb1 => ((Below.refl _ _).alloc (Nat.le_refl _) _).trans (hb1.mono (by simp))
  by_cases h1 : 16384 < nr
  · go_enter Try.func3, Try.ntmps3
    go_wp2_with (go_at_call 5; refine (bytes5_any _ _ _ _ _ _ _ _ _ _ _ _).mono ?_; rintro _ w1 ⟨y, rfl, hb1⟩)
    all_goals go_ret
    all_goals exact ⟨rfl, fin _ ‹_›⟩
  · by_cases h2 : 16384 < nx
    · go_enter Try.func3, Try.ntmps3
      go_wp2_with (go_at_call 5; refine (bytes5_any _ _ _ _ _ _ _ _ _ _ _ _).mono ?_; rintro _ w1 ⟨y, rfl, hb1⟩)
      all_goals go_ret
      all_goals exact ⟨rfl, fin _ ‹_›⟩
    · by_cases h3 : k < 0
      · go_enter Try.func3, Try.ntmps3
        go_wp2_with (go_at_call 5; refine (bytes5_any _ _ _ _ _ _ _ _ _ _ _ _).mono ?_; rintro _ w1 ⟨y, rfl, hb1⟩)
        all_goals go_ret
        all_goals exact ⟨rfl, fin _ ‹_›⟩
      · have h4 : (nx : Int) < k := by omega
        go_enter Try.func3, Try.ntmps3
        go_wp2_with (go_at_call 5; refine (bytes5_any _ _ _ _ _ _ _ _ _ _ _ _).mono ?_; rintro _ w1 ⟨y, rfl, hb1⟩)
        all_goals go_ret
        all_goals exact ⟨rfl, fin _ ‹_›⟩

theorem walk (v k : Int) (r x : Option Addr) (cr cx : Nat) (R : List (Int × Int)) (E : List (Int × Int × Bool)) (a b : Int) (c : Bool) (w : World) (hr : RLies w r R) (hx : Lies w x E) (r0 : r = none → R = [] ∧ cr = 0) (x0 : x = none → E = [] ∧ cx = 0) :
    Calls Try.prog 3 #[.int .u64 v, .slice r R.length cr, .slice x E.length cx, .int .i64 k, .agg #[.int .i64 a, .int .i64 b, .bool c]] w fun e w' => e = .returned (.bool true) ∧ Below w.heap.size w w' := by
  by_cases h : 16384 < R.length ∨ 16384 < E.length ∨ k < 0 ∨ (E.length : Int) < k
  · exact short v k r x _ cr _ cx a b c w h
  · obtain ⟨n, rfl⟩ := Int.eq_ofNat_of_zero_le (show 0 ≤ k by omega)
    exact ins_main v r x cr cx R E n a b c w _ (ins_of E n (by omega) (a, b, c)) (by omega) (by omega) (by omega) hr hx r0 x0

set_option maxRecDepth 100000 in
theorem lifted (os : Os) (started : os.Started) (H : Type) (enc : TypeId × Value → H) :
    ReturnsInHanded {} Try.checked os 3 .any (Rows.fnDataSizeInsertOneExtentSpec.pre6 enc Try.prog Try.f3 Rows.fnDataSizeInsertOneExtentRow.domain false) (Rows.fnDataSizeInsertOneExtentSpec.post enc Try.prog Try.f3 false true false false) := by
  refine returnsInHanded_of_change (C := Try.checked) own started (by kernel_rfl) Try.func3
    (ChangeSpec.witness6 (enc := enc) (C := Try.checked) false ⟨#[], #[.int .u64 0, .slice none 0 0, .slice none 0 0, .int .i64 0, .agg #[.int .i64 0, .int .i64 0, .bool false]], []⟩ 8 (by kernel_rfl) (by kernel_rfl) (by kernel_rfl) (by kernel_rfl)) ?_
  intro W base args ds gs before hval0 hW hcnd _
  have hval : ∀ (j : Nat) t v, Try.f3.params[j]? = some t → args[j]? = some v → Value.okWide Try.prog W .any base t v := hval0
  have hW' := hW
  obtain ⟨p, q, hA0, hV, rfl, hfz, hnd⟩ := hW
  have hA : DataW.TrodAll enc Try.prog W 0 (fun _ => true) true Try.f3.params.toList args.toList ds p := hA0
  rw [Try.params3] at hA hval
  obtain ⟨v0, vs0, d0, ds0, p0, q0, hargs, rfl, rfl, h0, r0⟩ := trodAll_cons hA
  obtain ⟨v1, vs1, d1, ds1, p1, q1, rfl, rfl, rfl, h1, r1⟩ := trodAll_cons r0
  obtain ⟨v2, vs2, d2, ds2, p2, q2, rfl, rfl, rfl, h2, r2⟩ := trodAll_cons r1
  obtain ⟨v3, vs3, d3, ds3, p3, q3, rfl, rfl, rfl, h3, r3⟩ := trodAll_cons r2
  obtain ⟨v4, vs4, d4, ds4, p4, q4, rfl, rfl, rfl, h4, r4⟩ := trodAll_cons r3
  obtain ⟨rfl, rfl, rfl⟩ := trodAll_nil r4
  obtain rfl : args = #[v0, v1, v2, v3, v4] := by cases args; simp_all
  obtain ⟨rfl, rfl⟩ := trodVars_none hV
  obtain ⟨a0, rfl, rfl, rfl, w0⟩ := open_int Try.underlying22 (hval 0 22 v0 rfl rfl) h0
  obtain ⟨a1, len1, cap1, rfl⟩ := okWide_slice Try.underlying23 (hval 1 23 v1 rfl rfl)
  have lt1 : ∀ x ∈ p1, x.block < W.heap.size := by obtain ⟨m, hm⟩ := h1; exact DataW.trod_lt m _ _ _ hm
  obtain ⟨R, rfl, hR, hR0⟩ := open_runs h1
  obtain ⟨a2, len2, cap2, rfl⟩ := okWide_slice Try.underlying24 (hval 2 24 v2 rfl rfl)
  have lt2 : ∀ x ∈ p2, x.block < W.heap.size := by obtain ⟨m, hm⟩ := h2; exact DataW.trod_lt m _ _ _ hm
  obtain ⟨E, rfl, hE, hE0⟩ := open_exts h2
  obtain ⟨a3, rfl, rfl, rfl, w3⟩ := open_int Try.underlying3 (hval 3 3 v3 rfl rfl) h3
  have lt4 : ∀ x ∈ p4, x.block < W.heap.size := by obtain ⟨m, hm⟩ := h4; exact DataW.trod_lt m _ _ _ hm
  obtain ⟨x, y, z, rfl⟩ := open_extv (hval 4 26 v4 rfl rfl) h4
  clear hA0 hval0
  refine (walk a0 a3 a1 a2 cap1 cap2 R E x y z W hR hE hR0 hE0).mono fun e W' ⟨he, bel⟩ => ?_
  subst he
  exact ⟨_, rfl, _, _, _, [], _, [], hW', trodAll_mk1 (shut_bool Try.underlying4 _), (trodAll_cons_mk (shut_int Try.underlying22 w0) (trodAll_cons_mk (Below.trod laidOut (by kernel_rfl) (of_decide_eq_true (by kernel_rfl)) h1 bel lt1) (trodAll_cons_mk (Below.trod laidOut (by kernel_rfl) (of_decide_eq_true (by kernel_rfl)) h2 bel lt2) (trodAll_cons_mk (shut_int Try.underlying3 w3) (trodAll_cons_mk (Below.trod laidOut (by kernel_rfl) (of_decide_eq_true (by kernel_rfl)) h4 bel lt4) trodAll_mk0))))), rfl, bel.frame _, fun h => by cases h⟩

theorem over : Rows.fnDataSizeInsertOneExtentRow.holds Try.pinned (OpenSpec.ofChange Rows.fnDataSizeInsertOneExtentSpec) :=
  OpenClaim.holds_of_wide 3 Try.f3 rfl rfl rfl rfl rfl rfl rfl ⟨rfl, rfl, rfl, rfl, rfl⟩ rfl rfl rfl rfl rfl (by kernel_rfl) Try.func3 (by kernel_rfl)
    (of_decide_eq_true (by kernel_rfl)) (by unfold Func.isWrapper; first | (rw [if_pos (by decide +kernel)]; kernel_rfl) | (rw [if_neg (by decide +kernel)]; exact ⟨rfl, rfl⟩))
    (fun os started H enc _ => lifted os started H enc)

end Go.Proofs.Qxb6630822a.ins
namespace Go.Proofs.Qxb6630822a
/-- THE STATEMENT -/
theorem insertOneExtent_holds : Rows.FnDataSizeInsertOneExtentSaid := ins.over
end Go.Proofs.Qxb6630822a
