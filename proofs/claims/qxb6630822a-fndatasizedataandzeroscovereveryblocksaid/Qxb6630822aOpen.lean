/-
  What the reader of the arguments says, opened into what the walks ask: slices of runs, slices of extents, one extent by value.
-/
import Derived.Test.Qxb6630822aCalls
import Derived.WalkKit
import Derived.ProofKit
import Derived.OpenShut
import Derived.ChangeOld
import Derived.Below
import Derived.Deep.Slices
import Derived.Deep.Strs
namespace Go.Proofs.Qxb6630822a
open Go.ChangeShapes Go.WideShapes Go.ChangeAt Go.RowKit Go.Deep

theorem Try.cells26 : Try.prog.cellsOf 26 = 3 := by kernel_rfl
theorem Try.cells41 : Try.prog.cellsOf 41 = 2 := by kernel_rfl
theorem Try.cells2 : Try.prog.cellsOf 2 = 1 := by kernel_rfl
theorem Try.cells4 : Try.prog.cellsOf 4 = 1 := by kernel_rfl
theorem Try.cells22 : Try.prog.cellsOf 22 = 1 := by kernel_rfl

section
variable {H : Type} {enc : TypeId × Value → H} {w : World} {base : Nat} {spare : Nat → Bool} {held : Bool}

theorem open_ext {n : Nat} {cs : List Value} {x : DataW H × List MemPlace} (h : DataW.trod enc Try.prog w base spare held n 26 cs = some x) : ∃ e : Int × Int × Bool, cs = [.int .i64 e.1, .int .i64 e.2.1, .bool e.2.2] := by
  obtain ⟨y0, y1, y2, m, _, hl, h0, h1, h2⟩ := trod_struct3 Try.underlying26 h
  rw [Try.cells26] at hl
  match cs, hl with
  | [c0, c1, c2], _ =>
    simp only [Try.cells2, Try.cells4] at h0 h1 h2
    obtain ⟨a, ha, _⟩ := DataW.trod_int Try.underlying2 h0
    obtain ⟨b, hb, _⟩ := DataW.trod_int Try.underlying2 h1
    obtain ⟨c, hc, _⟩ := DataW.trod_bool Try.underlying4 h2
    simp at ha hb hc
    subst ha hb hc
    exact ⟨(a, b, c), rfl⟩
theorem open_run {n : Nat} {cs : List Value} {x : DataW H × List MemPlace} (h : DataW.trod enc Try.prog w base spare held n 41 cs = some x) : ∃ e : Int × Int, cs = [.int .u64 e.1, .int .u64 e.2] := by
  obtain ⟨y0, y1, m, _, hl, h0, h1⟩ := trod_struct2 Try.underlying41 h
  rw [Try.cells41] at hl
  match cs, hl with
  | [c0, c1], _ =>
    simp only [Try.cells22] at h0 h1
    obtain ⟨a, ha, _⟩ := DataW.trod_int Try.underlying22 h0
    obtain ⟨b, hb, _⟩ := DataW.trod_int Try.underlying22 h1
    simp at ha hb
    subst ha hb
    exact ⟨(a, b), rfl⟩

theorem open_exts {ao : Option Addr} {len cap : Nat} {d : DataW H} {ps : List MemPlace} (h : DataW.Trod enc Try.prog w base spare held 24 (.slice ao len cap) d ps) :
    ∃ E : List (Int × Int × Bool), E.length = len ∧ Lies w ao E ∧ (ao = none → E = [] ∧ cap = 0) := by
  obtain ⟨fuel, hf⟩ := h
  rcases open_slice Try.underlying24 hf with ⟨hcs, _⟩ | ⟨a, l, c, m, n, D, Pl, hcs, _, hl, _, hm, _, hc⟩
  · simp [Value.cells] at hcs
    obtain ⟨rfl, rfl, rfl⟩ := hcs
    exact ⟨[], rfl, .inl rfl, fun _ => ⟨rfl, rfl⟩⟩
  · simp [Value.cells] at hcs
    obtain ⟨rfl, rfl, rfl⟩ := hcs
    have hlm : len ≤ m := by rw [hm]; split <;> omega
    rw [Try.cells26] at hc
    obtain ⟨f, hf⟩ := choose_lt (α := Int × Int × Bool) (n := len) (p := fun i e => w.cells? base (a.add (i * 3)) 3 = some [.int .i64 e.1, .int .i64 e.2.1, .bool e.2.2]) (fun i hi => by
      obtain ⟨cs', h1, h2⟩ := hc i (by omega)
      obtain ⟨e, rfl⟩ := open_ext h2
      exact ⟨e, h1⟩)
    refine ⟨(List.range len).map f, by simp, ?_, fun h => by cases h⟩
    by_cases h0 : len = 0
    · subst h0; exact .inl rfl
    · obtain ⟨b, off, spot⟩ := a
      have hspot : spot = none := by
        have h1 := (World.cells?_some (hf 0 (by omega))).2.2 0 (by omega)
        have h2 := World.cell?_spot h1
        simpa [Addr.add] using h2
      subst hspot
      refine .inr ⟨b, off, rfl, fun i hi => ?_⟩
      simp at hi
      have h1 := (World.cells?_some (hf i hi)).2.2
      have hat : M.at_ ((List.range len).map f) i = f i := by simp [M.at_, hi]
      rw [hat]
      have e0 := h1 0 (by omega)
      have e1 := h1 1 (by omega)
      have e2 := h1 2 (by omega)
      simp only [add_plain, Nat.add_zero] at e0 e1 e2
      exact ⟨e0, e1, e2⟩

theorem open_runs {ao : Option Addr} {len cap : Nat} {d : DataW H} {ps : List MemPlace} (h : DataW.Trod enc Try.prog w base spare held 23 (.slice ao len cap) d ps) :
    ∃ R : List (Int × Int), R.length = len ∧ RLies w ao R ∧ (ao = none → R = [] ∧ cap = 0) := by
  obtain ⟨fuel, hf⟩ := h
  rcases open_slice Try.underlying23 hf with ⟨hcs, _⟩ | ⟨a, l, c, m, n, D, Pl, hcs, _, hl, _, hm, _, hc⟩
  · simp [Value.cells] at hcs
    obtain ⟨rfl, rfl, rfl⟩ := hcs
    exact ⟨[], rfl, .inl rfl, fun _ => ⟨rfl, rfl⟩⟩
  · simp [Value.cells] at hcs
    obtain ⟨rfl, rfl, rfl⟩ := hcs
    have hlm : len ≤ m := by rw [hm]; split <;> omega
    rw [Try.cells41] at hc
    obtain ⟨f, hf⟩ := choose_lt (α := Int × Int) (n := len) (p := fun i e => w.cells? base (a.add (i * 2)) 2 = some [.int .u64 e.1, .int .u64 e.2]) (fun i hi => by
      obtain ⟨cs', h1, h2⟩ := hc i (by omega)
      obtain ⟨e, rfl⟩ := open_run h2
      exact ⟨e, h1⟩)
    refine ⟨(List.range len).map f, by simp, ?_, fun h => by cases h⟩
    by_cases h0 : len = 0
    · subst h0; exact .inl rfl
    · obtain ⟨b, off, spot⟩ := a
      have hspot : spot = none := by
        have h1 := (World.cells?_some (hf 0 (by omega))).2.2 0 (by omega)
        have h2 := World.cell?_spot h1
        simpa [Addr.add] using h2
      subst hspot
      refine .inr ⟨b, off, rfl, fun i hi => ?_⟩
      simp at hi
      have h1 := (World.cells?_some (hf i hi)).2.2
      have hat : ((List.range len).map f).getD i (0, 0) = f i := by simp [hi]
      rw [hat]
      have e0 := h1 0 (by omega)
      have e1 := h1 1 (by omega)
      simp only [add_plain, Nat.add_zero] at e0 e1
      exact ⟨e0, e1⟩

/-- One extent by value. -/
theorem open_extv {r : Reach} {b0 : Nat} {v : Value} {d : DataW H} {ps : List MemPlace} (hv : Value.okWide Try.prog w r b0 26 v) (h : DataW.Trod enc Try.prog w base spare held 26 v d ps) :
    ∃ (a b : Int) (c : Bool), v = .agg #[.int .i64 a, .int .i64 b, .bool c] := by
  obtain ⟨cs, rfl, hsz⟩ := okWide_struct Try.underlying26 hv
  obtain ⟨fuel, hf⟩ := h
  obtain ⟨e, he⟩ := open_ext hf
  refine ⟨e.1, e.2.1, e.2.2, ?_⟩
  simp [Value.cells] at he
  have he2 : cs = #[.int .i64 e.1, .int .i64 e.2.1, .bool e.2.2] := Array.toList_inj.1 (by simpa using he)
  rw [he2]
end
end Go.Proofs.Qxb6630822a
