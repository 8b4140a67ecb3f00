/-
  'Rows.FnDataSizeDataAndZerosCoverEveryBlockSaid' PROVED. The frame is the guide's (proof-skeleton.mjs, third state), turned to this function's number and types.
-/
import Derived.Test.Qxb6630822aCover
import Derived.Test.Qxb6630822aOpen
import Derived.WalkKit
import Derived.ProofKit
import Derived.OpenShut
import Derived.ChangeOld
import Derived.Below
namespace Go.Proofs.Qxb6630822a.cov
open Go.ChangeShapes Go.WideShapes Go.ChangeAt Go.RowKit
open Go.Proofs.Qxb6630822a

theorem own : ownKnob Try.prog.godebug = none := by kernel_rfl
theorem laidOut : laidOutB Try.prog = true := by kernel_rfl

set_option maxHeartbeats 1000000 in
theorem short (v : Int) (r x : Option Addr) (nr cr nx cx : Nat) (w : World) (h : 16384 < nr ∨ 16384 < nx) :
    Calls Try.prog 4 #[.int .u64 v, .slice r nr cr, .slice x nx cx] w fun e w' => e = .returned (.bool true) ∧ Below w.heap.size w w' := by
  by_cases h1 : 16384 < nr
  · go_enter Try.func4, Try.ntmps4
    go_wp2_with (go_at_call 10; refine (bytes10_any _ _ _ _ _ _ _ _).mono ?_; rintro _ w1 ⟨y, rfl, hb1⟩)
    all_goals go_ret
    all_goals exact ⟨rfl, ‹_›⟩
  · have h2 : 16384 < nx := by omega
    go_enter Try.func4, Try.ntmps4
    go_wp2_with (go_at_call 10; refine (bytes10_any _ _ _ _ _ _ _ _).mono ?_; rintro _ w1 ⟨y, rfl, hb1⟩)
    all_goals go_ret
    all_goals exact ⟨rfl, ‹_›⟩

theorem walk (v : Int) (r x : Option Addr) (cr cx : Nat) (R : List (Int × Int)) (E : List (Int × Int × Bool)) (w : World) (hr : RLies w r R) (hx : Lies w x E) (r0 : r = none → R = [] ∧ cr = 0) (x0 : x = none → E = [] ∧ cx = 0) :
    Calls Try.prog 4 #[.int .u64 v, .slice r R.length cr, .slice x E.length cx] w fun e w' => e = .returned (.bool true) ∧ Below w.heap.size w w' := by
  by_cases h : 16384 < R.length ∨ 16384 < E.length
  · exact short v r x _ cr _ cx w h
  · cases x with
    | none =>
      obtain ⟨rfl, rfl⟩ := x0 rfl
      exact cov_nil v r cr R w (by omega) hr r0
    | some x => exact cov_some v r x cr cx R E w (by omega) (by omega) hr hx r0

set_option maxRecDepth 100000 in
theorem lifted (os : Os) (started : os.Started) (H : Type) (enc : TypeId × Value → H) :
    ReturnsInHanded {} Try.checked os 4 .any (Rows.fnDataSizeDataAndZerosCoverEveryBlockSpec.pre6 enc Try.prog Try.f4 Rows.fnDataSizeDataAndZerosCoverEveryBlockRow.domain false) (Rows.fnDataSizeDataAndZerosCoverEveryBlockSpec.post enc Try.prog Try.f4 false true false false) := by
  refine returnsInHanded_of_change (C := Try.checked) own started (by kernel_rfl) Try.func4
    (ChangeSpec.witness6 (enc := enc) (C := Try.checked) false ⟨#[], #[.int .u64 0, .slice none 0 0, .slice none 0 0], []⟩ 8 (by kernel_rfl) (by kernel_rfl) (by kernel_rfl) (by kernel_rfl)) ?_
  intro W base args ds gs before hval0 hW hcnd _
  have hval : ∀ (j : Nat) t v, Try.f4.params[j]? = some t → args[j]? = some v → Value.okWide Try.prog W .any base t v := hval0
  have hW' := hW
  obtain ⟨p, q, hA0, hV, rfl, hfz, hnd⟩ := hW
  have hA : DataW.TrodAll enc Try.prog W 0 (fun _ => true) true Try.f4.params.toList args.toList ds p := hA0
  rw [Try.params4] at hA hval
  obtain ⟨v0, vs0, d0, ds0, p0, q0, hargs, rfl, rfl, h0, r0⟩ := trodAll_cons hA
  obtain ⟨v1, vs1, d1, ds1, p1, q1, rfl, rfl, rfl, h1, r1⟩ := trodAll_cons r0
  obtain ⟨v2, vs2, d2, ds2, p2, q2, rfl, rfl, rfl, h2, r2⟩ := trodAll_cons r1
  obtain ⟨rfl, rfl, rfl⟩ := trodAll_nil r2
  obtain rfl : args = #[v0, v1, v2] := by cases args; simp_all
  obtain ⟨rfl, rfl⟩ := trodVars_none hV
  obtain ⟨a0, rfl, rfl, rfl, w0⟩ := open_int Try.underlying22 (hval 0 22 v0 rfl rfl) h0
  obtain ⟨a1, len1, cap1, rfl⟩ := okWide_slice Try.underlying23 (hval 1 23 v1 rfl rfl)
  have lt1 : ∀ x ∈ p1, x.block < W.heap.size := by obtain ⟨m, hm⟩ := h1; exact DataW.trod_lt m _ _ _ hm
  obtain ⟨R, rfl, hR, hR0⟩ := open_runs h1
  obtain ⟨a2, len2, cap2, rfl⟩ := okWide_slice Try.underlying24 (hval 2 24 v2 rfl rfl)
  have lt2 : ∀ x ∈ p2, x.block < W.heap.size := by obtain ⟨m, hm⟩ := h2; exact DataW.trod_lt m _ _ _ hm
  obtain ⟨E, rfl, hE, hE0⟩ := open_exts h2
  clear hA0 hval0
  refine (walk a0 a1 a2 cap1 cap2 R E W hR hE hR0 hE0).mono fun e W' ⟨he, bel⟩ => ?_
  subst he
  exact ⟨_, rfl, _, _, _, [], _, [], hW', trodAll_mk1 (shut_bool Try.underlying4 _), (trodAll_cons_mk (shut_int Try.underlying22 w0) (trodAll_cons_mk (Below.trod laidOut (by kernel_rfl) (of_decide_eq_true (by kernel_rfl)) h1 bel lt1) (trodAll_cons_mk (Below.trod laidOut (by kernel_rfl) (of_decide_eq_true (by kernel_rfl)) h2 bel lt2) trodAll_mk0))), rfl, bel.frame _, fun h => by cases h⟩

theorem over : Rows.fnDataSizeDataAndZerosCoverEveryBlockRow.holds Try.pinned (OpenSpec.ofChange Rows.fnDataSizeDataAndZerosCoverEveryBlockSpec) :=
  OpenClaim.holds_of_wide 4 Try.f4 rfl rfl rfl rfl rfl rfl rfl ⟨rfl, rfl, rfl, rfl, rfl⟩ rfl rfl rfl rfl rfl (by kernel_rfl) Try.func4 (by kernel_rfl)
    (of_decide_eq_true (by kernel_rfl)) (by unfold Func.isWrapper; first | (rw [if_pos (by decide +kernel)]; kernel_rfl) | (rw [if_neg (by decide +kernel)]; exact ⟨rfl, rfl⟩))
    (fun os started H enc _ => lifted os started H enc)
end Go.Proofs.Qxb6630822a.cov
namespace Go.Proofs.Qxb6630822a
/-- THE STATEMENT -/
theorem coverEveryBlock_holds : Rows.FnDataSizeDataAndZerosCoverEveryBlockSaid := cov.over
end Go.Proofs.Qxb6630822a
