/-
  Law.Encode, walked at both laws.
-/
import Derived.Test.Qxb6627421aFmtCalls
import Derived.Deep.OwnRows
namespace Go.Proofs.Qxb6627421aFmt
open Go.RowKit

def at_ (l : List Int) (i : Nat) : Int := l.getD i 0
/-- The samples X lie at the head of a slice's array. -/
def Lies (w : World) (ao : Option Addr) (X : List Int) : Prop :=
  X = [] ∨ ∃ b off, ao = some ⟨b, off, none⟩ ∧ ∀ i, i < X.length → w.cell? ⟨b, off + i, none⟩ = some (.int .i16 (at_ X i))
def InRange (X : List Int) : Prop := ∀ i, i < X.length → -32768 ≤ at_ X i ∧ at_ X i ≤ 32767
/-- The first k cells of a new row of numbers. -/
def Part (w : World) (g : Nat) (ty : TypeId) (q : IntKind) (n k : Nat) (f : Nat → Int) : Prop := ∃ cur, w.heap[g]? = some (.cells cur ty (0, 0)) ∧ cur.size = n ∧ ∀ i, i < k → cur[i]? = some (.int q (f i))

theorem Lies.kept {w w1 : World} {ao : Option Addr} {X : List Int} {B : Nat} (h : Lies w ao X) (hB : w.heap.size ≤ B) (hb : Below B w w1) : Lies w1 ao X := by
  rcases h with h | ⟨b, off, rfl, hc⟩
  · exact .inl h
  · refine .inr ⟨b, off, rfl, fun i hi => ?_⟩
    have hlt : b < B := Nat.lt_of_lt_of_le (World.block_lt_of_cell? w _ (hc i hi)) hB
    exact (hb.cell (by exact hlt)).trans (hc i hi)
theorem Lies.round {w : World} {ao : Option Addr} {X : List Int} (h : Lies w ao X) {wr : World} (hb : Below w.heap.size w wr) {k : Nat} (hk : k < X.length) :
    ∃ b off, ao = some ⟨b, off, none⟩ ∧ b < w.heap.size ∧ wr.cell? ⟨b, off + k, none⟩ = some (.int .i16 (at_ X k)) := by
  rcases h with rfl | ⟨b, off, rfl, hc⟩
  · simp at hk
  · have hlt : b < w.heap.size := World.block_lt_of_cell? w _ (hc k hk)
    exact ⟨b, off, rfl, hlt, (hb.cell (by exact hlt)).trans (hc k hk)⟩
theorem Part.step {w : World} {g n k : Nat} {ty : TypeId} {q : IntKind} {f : Nat → Int} (h : Part w g ty q n k f) (hk : k < n) :
    (∃ o, w.cell? ⟨g, k, none⟩ = some o) ∧ w.frozen? ⟨g, k, none⟩ = false ∧ Part (w.setCell ⟨g, k, none⟩ (.int q (f k))) g ty q n (k + 1) f := by
  obtain ⟨cur, hcur, hcs, hp⟩ := h
  refine ⟨⟨cur[k], by rw [cell_of_row w _ k cur ty (0, 0) hcur]; simp⟩, frozen_of_row w g k cur ty hcur, _, heap_setCell_same w _ k cur ty _ hcur, by simpa using hcs, fun i hi => ?_⟩
  by_cases hik : i = k
  · subst hik; simp [hcs, hk]
  · rw [Array.getElem?_setIfInBounds_ne (by omega)]; exact hp i (by omega)
theorem Part.kept {w w1 : World} {g n k B : Nat} {ty : TypeId} {q : IntKind} {f : Nat → Int} (h : Part w g ty q n k f) (hg : g < B) (hb : Below B w w1) : Part w1 g ty q n k f := by
  obtain ⟨cur, hcur, r⟩ := h
  exact ⟨cur, (hb.block g hg).trans hcur, r⟩
theorem Part.cell {w : World} {g n k : Nat} {ty : TypeId} {q : IntKind} {f : Nat → Int} (h : Part w g ty q n k f) {i : Nat} (hi : i < k) : w.cell? ⟨g, i, none⟩ = some (.int q (f i)) := by
  obtain ⟨cur, hcur, _, hp⟩ := h
  rw [cell_of_row w _ i cur ty (0, 0) hcur]; exact hp i hi
theorem Part.lt {w : World} {g n k : Nat} {ty : TypeId} {q : IntKind} {f : Nat → Int} (h : Part w g ty q n k f) : g < w.heap.size := by
  obtain ⟨cur, hcur, _⟩ := h
  exact (Array.getElem?_eq_some_iff.1 hcur).1

theorem Tryf.info5 : (Tryf.prog.info? 5).map (fun i => (i.zero, i.size, i.bytes)) = some (some (.int .u8 0), 1, 1) := by kernel_rfl
theorem make25 (n : Nat) (hn : n ≤ 2000000) (w : World) : (Instr.makeSlice 25 (.int .i64 (n : Int)) (.int .i64 (n : Int))).run Tryf.prog w = .ok (.slice (some ⟨w.heap.size, 0, none⟩) n n) (w.alloc (.cells (madeCells #[.int .u8 0] n) 5)) :=
  run_make_row' (P := Tryf.prog) 25 5 (.int .u8 0) 1 Tryf.underlying25 Tryf.info5 rfl .i64 .i64 n (by omega) (by omega) w

set_option maxHeartbeats 1000000 in
theorem encode_u (so : Option Addr) (sc n : Nat) (X : List Int) (w : World) (HX : Hid (X.length = n)) (hn : n ≤ 65536) (hr : InRange X) (hl : Lies w so X) :
    Calls Tryf.prog 6 #[.int .u8 0, .slice so n sc] w fun e w' => e = .returned (.slice (some ⟨w.heap.size, 0, none⟩) n n) ∧ Part w' w.heap.size 5 .u8 n n (fun i => uenc (at_ X i)) ∧ Below w.heap.size w w' := by
  have hmk := make25 n (by omega)
  go_enter Tryf.func6, Tryf.ntmps6
  go_wp2_with fail
  go_loopw [23] (fun i wr => ∃ k : Nat, k ≤ n ∧ i = .int .i64 k ∧ Part wr w.heap.size 5 .u8 n k (fun i => uenc (at_ X i)) ∧ Below w.heap.size w wr) (fun i _ => n - (intOf i).toNat)
  case atStart => exact ⟨0, Nat.zero_le _, rfl, ⟨_, heap_alloc_new w _, size_madeCells _ _, fun i hi => by omega⟩, (Below.refl _ _).alloc (Nat.le_refl _) _⟩
  case round =>
    obtain ⟨k, hk, rfl, hp, hb⟩ := hrel
    by_cases hlt : k < n
    · obtain ⟨b, off, rfl, hbw, c1⟩ := hl.round hb (k := k) (by rw [HX.out]; exact hlt)
      obtain ⟨r0, r1⟩ := hr k (by rw [HX.out]; exact hlt)
      obtain ⟨⟨o, d1⟩, f1, hst⟩ := hp.step hlt
      have HS : Hid (Part (wr.setCell ⟨w.heap.size, k, none⟩ (.int .u8 (uenc (at_ X k)))) w.heap.size 5 .u8 n (k + 1) (fun i => uenc (at_ X i))) := hst
      clear hst hp
      generalize at_ X k = x at *
      go_wp2_with fail
      refine (ulaw_any x r0 r1 _).mono ?_
      rintro _ w1 ⟨rfl, hw⟩
      subst hw
      go_wp2
      go_roundw
      case rel => exact ⟨k + 1, by omega, by go_num, HS.out, hb.setCell (Nat.le_refl _) _⟩
      case measure => simp [intOf]; omega
    · have hkn : k = n := by omega
      subst hkn
      go_wp2
      go_ret
      exact ⟨rfl, hp, hb⟩
set_option maxHeartbeats 1000000 in
theorem encode_a (so : Option Addr) (sc n : Nat) (X : List Int) (w : World) (HX : Hid (X.length = n)) (hn : n ≤ 65536) (hr : InRange X) (hl : Lies w so X) :
    Calls Tryf.prog 6 #[.int .u8 8, .slice so n sc] w fun e w' => e = .returned (.slice (some ⟨w.heap.size, 0, none⟩) n n) ∧ Part w' w.heap.size 5 .u8 n n (fun i => aenc (at_ X i)) ∧ Below w.heap.size w w' := by
  have hmk := make25 n (by omega)
  go_enter Tryf.func6, Tryf.ntmps6
  go_wp2_with fail
  go_loopw [23] (fun i wr => ∃ k : Nat, k ≤ n ∧ i = .int .i64 k ∧ Part wr w.heap.size 5 .u8 n k (fun i => aenc (at_ X i)) ∧ Below w.heap.size w wr) (fun i _ => n - (intOf i).toNat)
  case atStart => exact ⟨0, Nat.zero_le _, rfl, ⟨_, heap_alloc_new w _, size_madeCells _ _, fun i hi => by omega⟩, (Below.refl _ _).alloc (Nat.le_refl _) _⟩
  case round =>
    obtain ⟨k, hk, rfl, hp, hb⟩ := hrel
    by_cases hlt : k < n
    · obtain ⟨b, off, rfl, hbw, c1⟩ := hl.round hb (k := k) (by rw [HX.out]; exact hlt)
      obtain ⟨r0, r1⟩ := hr k (by rw [HX.out]; exact hlt)
      obtain ⟨⟨o, d1⟩, f1, hst⟩ := hp.step hlt
      have HS : Hid (Part (wr.setCell ⟨w.heap.size, k, none⟩ (.int .u8 (aenc (at_ X k)))) w.heap.size 5 .u8 n (k + 1) (fun i => aenc (at_ X i))) := hst
      clear hst hp
      generalize at_ X k = x at *
      go_wp2_with fail
      refine (alaw_any x r0 r1 _).mono ?_
      rintro _ w1 ⟨rfl, hw⟩
      subst hw
      go_wp2
      go_roundw
      case rel => exact ⟨k + 1, by omega, by go_num, HS.out, hb.setCell (Nat.le_refl _) _⟩
      case measure => simp [intOf]; omega
    · have hkn : k = n := by omega
      subst hkn
      go_wp2
      go_ret
      exact ⟨rfl, hp, hb⟩
/-- A law's value, and the byte that it gives a sample. -/
def enc (l x : Int) : Int := if l = 0 then uenc x else aenc x
theorem enc0 (x : Int) : enc 0 x = uenc x := by unfold enc; rw [if_pos rfl]
theorem enc8 (x : Int) : enc 8 x = aenc x := by unfold enc; rw [if_neg (show ¬ (8 : Int) = 0 by decide)]
/-- Law.Encode at either law. -/
theorem encode_any (l : Int) (hl2 : l = 0 ∨ l = 8) (so : Option Addr) (sc n : Nat) (X : List Int) (w : World) (HX : X.length = n) (hn : n ≤ 65536) (hr : InRange X) (hl : Lies w so X) :
    Calls Tryf.prog 6 #[.int .u8 l, .slice so n sc] w fun e w' => e = .returned (.slice (some ⟨w.heap.size, 0, none⟩) n n) ∧ Part w' w.heap.size 5 .u8 n n (fun i => enc l (at_ X i)) ∧ Below w.heap.size w w' := by
  rcases hl2 with rfl | rfl
  · exact encode_u so sc n X w HX hn hr hl
  · exact encode_a so sc n X w HX hn hr hl
/-- A sample and its mirror: the bytes differ in bit 7 alone, which tells the sign. -/
theorem enc_mirror (l x : Int) (hl2 : l = 0 ∨ l = 8) : bits .xor .u8 (enc l x) (enc l (-1 - x)) = 128 ∧ (0 ≤ x → 128 ≤ enc l x) ∧ (x < 0 → enc l x < 128) := by
  rcases hl2 with rfl | rfl
  · have hc := ucode_bd (um x)
    have hm := mirrorU ⟨(ucode (um x)).toNat, by omega⟩
    simp only [Int.toNat_of_nonneg hc.1] at hm
    have e : um (-1 - x) = um x := by unfold um; rw [dist_mirror]
    rw [enc0, enc0]
    unfold uenc
    rw [e]
    by_cases hx : x < 0
    · rw [if_pos hx, if_neg (by omega)]
      exact ⟨hm.2, by omega, by omega⟩
    · rw [if_neg hx, if_pos (by omega)]
      exact ⟨hm.1, by omega, by omega⟩
  · have hc := acode_bd (dist x / 8)
    have hm := mirrorA ⟨(acode (dist x / 8)).toNat, by omega⟩
    simp only [Int.toNat_of_nonneg hc.1] at hm
    rw [enc8, enc8]
    unfold aenc
    rw [dist_mirror]
    by_cases hx : x < 0
    · rw [if_pos hx, if_neg (by omega)]
      exact ⟨hm.2.1, by omega, fun _ => hm.2.2.2⟩
    · rw [if_neg hx, if_pos (by omega)]
      exact ⟨hm.1, fun _ => hm.2.2.1, by omega⟩
end Go.Proofs.Qxb6627421aFmt
