/-
  fmt's text of an update action, told; the method String, walked.
-/
import Derived.Test.Qxb6630901aFmtRows
import Derived.Stop.CallBack
import Derived.Stop.IfaceNil
import Derived.Stop.FmtTextWidths
import Derived.Stop.FmtTextKit
import Derived.Stop.JoinedTold
import Derived.Stop.Texts
import Derived.WalkKit
import Derived.Lib.Strings
import Derived.WalkSpells
import Derived.WalkLawsBesides
import GoSem.ClaimData
namespace Go.Proofs.Qxb6630901aFmt
open Go.RowKit Go.Extern.Stop Go.Stop Go.Extern Go.Kit

theorem call8 (args : Array Value) (w : World) : (callFunc 8 args).run Tryf.prog w = ((FmtStop.sprintf #[9, 50] #[9] args).run Tryf.prog w).andThen fun v w' => .ok (.value v) w' :=
  run_callFunc_extern Tryf.func8 (by kernel_rfl) (by kernel_rfl) (by kernel_rfl) (by kernel_rfl) args w
theorem guard (name : String) (w : World) : (FmtStop.guard name).run Tryf.prog w = .ok () w := by kernel_rfl
/-- The format, and its part ahead of the verb. -/
def fmtB : List UInt8 := [117, 112, 100, 97, 116, 101, 32, 97, 99, 116, 105, 111, 110, 32, 48, 120, 37, 48, 52, 120]
def preB : List UInt8 := [117, 112, 100, 97, 116, 101, 32, 97, 99, 116, 105, 111, 110, 32, 48, 120]
def shape22 : List UInt8 := [7, 6, 0, 0, 0, 0, 0, 0, 0, 117, 105, 110, 116, 49, 54]
theorem fmtp : FmtStop.printed? ⟨#[117, 112, 100, 97, 116, 101, 32, 97, 99, 116, 105, 111, 110, 32, 48, 120, 37, 48, 52, 120]⟩ 1 = some [(0, 120, false)] := by kernel_rfl
theorem fmtr (w : World) : (FmtDoors.printed ⟨#[117, 112, 100, 97, 116, 101, 32, 97, 99, 116, 105, 111, 110, 32, 48, 120, 37, 48, 52, 120]⟩ 1).run Tryf.prog w = .ok [(0, 120, false)] w := by kernel_rfl
theorem op22 (name : String) (x : Int) (w : World) : (FmtStop.operand name false 120 false (.iface 22 (.int .u16 x))).run Tryf.prog w = .ok (shape22, digits 8 (x % 2 ^ 64).toNat) w := by kernel_rfl
theorem t_parse : (FmtText.parse fmtB).map FmtText.glue = some [.lit preB, .verb { widPresent := true, wid := 4, zero := true } 120] := by rfl

/-- What fmt is asked. -/
def reading (a : Int) : List (List UInt8) := [fmtB, shape22, digits 8 (a % 18446744073709551616).toNat]
/-- One hexadecimal digit. -/
def hx (d : Nat) : UInt8 := FmtText.digit false d
/-- Four of them. -/
def hex4 (u : Nat) : List UInt8 := [hx (u / 4096), hx (u / 256 % 16), hx (u / 16 % 16), hx (u % 16)]

theorem hx_small (d : Nat) (h : d < 16) : (hx d).toNat < 128 := by
  unfold hx FmtText.digit
  split
  · simp; omega
  · simp; omega
theorem pad_same (b : List UInt8) (h : b.length = 4) (ha : ∀ c ∈ b, c.toNat < 128) : FmtText.pad { widPresent := true, wid := 4, zero := false } b = b := by
  simp [FmtText.pad, FmtText.runeCount_ascii b ha, FmtText.padding, h]
theorem hex4_ascii (u : Nat) (h : u < 65536) : ∀ c ∈ hex4 u, c.toNat < 128 := by
  intro c hc
  simp [hex4] at hc
  rcases hc with rfl | rfl | rfl | rfl <;> exact hx_small _ (by omega)
theorem dig0 : FmtText.digit false 0 = 48 := by decide
theorem padded (u : Nat) (h : u < 65536) : List.replicate (4 - (FmtText.numeral 16 false u).length) 48 ++ FmtText.numeral 16 false u = hex4 u := by
  unfold FmtText.numeral
  by_cases h1 : u < 16
  · simp only [FmtText.digitsFrom, if_pos h1]
    have e1 : u / 4096 = 0 := by omega
    have e2 : u / 256 % 16 = 0 := by omega
    have e3 : u / 16 % 16 = 0 := by omega
    have e4 : u % 16 = u := by omega
    simp [hex4, e1, e2, e3, e4, dig0, hx, List.replicate]
  · by_cases h2 : u / 16 < 16
    · simp only [FmtText.digitsFrom, if_neg h1, if_pos h2]
      have e1 : u / 4096 = 0 := by omega
      have e2 : u / 256 % 16 = 0 := by omega
      have e3 : u / 16 % 16 = u / 16 := by omega
      simp [hex4, e1, e2, e3, dig0, hx, List.replicate]
    · by_cases h3 : u / 16 / 16 < 16
      · simp only [FmtText.digitsFrom, if_neg h1, if_neg h2, if_pos h3]
        have e1 : u / 4096 = 0 := by omega
        have e2 : u / 256 % 16 = u / 16 / 16 := by omega
        simp [hex4, e1, e2, dig0, hx]
      · have h4 : u / 16 / 16 / 16 < 16 := by omega
        simp only [FmtText.digitsFrom, if_neg h1, if_neg h2, if_neg h3, if_pos h4]
        have e1 : u / 4096 = u / 16 / 16 / 16 := by omega
        have e2 : u / 256 % 16 = u / 16 / 16 % 16 := by omega
        simp [hex4, e1, e2, hx]
theorem fmt04x (u : Nat) (h : u < 65536) : FmtText.fmtInteger { widPresent := true, wid := 4, zero := true } u 16 false 120 false = hex4 u := by
  have hp := pad_same (hex4 u) rfl (hex4_ascii u h)
  rw [← hp, ← padded u h]
  simp [FmtText.fmtInteger]
theorem t_text (a : Int) (h0 : 0 ≤ a) (h1 : a ≤ 65535) : FmtText.text "fmt.Sprintf" (reading a) = some (preB ++ hex4 a.toNat) := by
  have hw : (Lit.int .u16 a).wf = true := by simp [Lit.wf, IntKind.min, IntKind.max, IntKind.signed, IntKind.bits]; omega
  have e : (a % 18446744073709551616).toNat = a.toNat := by omega
  rw [reading, FmtText.text_sprintf_glued t_parse (FmtText.operands_cons (FmtText.operand_int_at (sh := shape22) (k := .u16) rfl rfl a hw) FmtText.operands_nil), e]
  simp [FmtText.render, FmtText.printArg, FmtText.scalarArg, FmtText.fits]
  exact fmt04x a.toNat (by omega)

/-- The text of an action, as bytes. -/
def text (a : Int) : List UInt8 := if a = 0 then [97, 100, 100] else if a = 1 then [100, 101, 108, 101, 116, 101] else preB ++ hex4 a.toNat
/-- A list of bytes as a string. -/
def str (l : List UInt8) : ByteArray := ⟨l.toArray⟩
theorem str_of {s : ByteArray} {l : List UInt8} (h : s.data.toList = l) : s = str l := by
  subst h; rfl

theorem str_append (a b : List UInt8) : str a ++ str b = str (a ++ b) := by
  apply ByteArray.ext; simp [str, ByteArray.data_append]

set_option maxHeartbeats 400000 in
theorem string_else (F : Interp) (a : Int) (h0 : 2 ≤ a) (h1 : a ≤ 65535) (w : World) (hF : F.told.answers w.tape) :
    Calls Tryf.prog 5 #[.int .u16 a] w fun e w' => e = .returned (.string (str (preB ++ hex4 a.toNat))) ∧ Below w.heap.size w w' := by
  have hF' := answers_open hF
  have k8 := call8
  have kg := guard
  have kf := fmtr
  have kp := fmtp
  have ko := op22
  have e0 : (a == 0) = false := beq_eq_false_iff_ne.2 (by omega)
  have e1 : (a == 1) = false := beq_eq_false_iff_ne.2 (by omega)
  go_enter Tryf.func5, Tryf.ntmps5
  go_wp2
  go_ret
  refine ⟨?_, ((Below.refl _ _).alloc (Nat.le_refl _) _).drew⟩
  have ht := told_string F (t_text a (by omega) h1) (by simp [preB, hex4])
  have hs : FmtStop.textOf (F.told "fmt.Sprintf" (reading a) 0) = str (preB ++ hex4 a.toNat) := str_of (by rw [textOf_list, ht])
  show Ending.returned (.string (FmtStop.textOf (F.told "fmt.Sprintf" (reading a) 0))) = _
  rw [hs]

set_option maxHeartbeats 400000 in
theorem string_add (w : World) : Calls Tryf.prog 5 #[.int .u16 0] w fun e w' => e = .returned (.string (str [97, 100, 100])) ∧ Below w.heap.size w w' := by
  go_enter Tryf.func5, Tryf.ntmps5
  go_wp2
  go_ret
  exact ⟨rfl, Below.refl _ _⟩
set_option maxHeartbeats 400000 in
theorem string_del (w : World) : Calls Tryf.prog 5 #[.int .u16 1] w fun e w' => e = .returned (.string (str [100, 101, 108, 101, 116, 101])) ∧ Below w.heap.size w w' := by
  go_enter Tryf.func5, Tryf.ntmps5
  go_wp2
  go_ret
  exact ⟨rfl, Below.refl _ _⟩
/-- UpdateAction.String, fmt's text told. -/
theorem string_any (F : Interp) (a : Int) (h0 : 0 ≤ a) (h1 : a ≤ 65535) (w : World) (hF : F.told.answers w.tape) :
    Calls Tryf.prog 5 #[.int .u16 a] w fun e w' => e = .returned (.string (str (text a))) ∧ Below w.heap.size w w' := by
  unfold text
  by_cases e0 : a = 0
  · subst e0; exact string_add w
  · by_cases e1 : a = 1
    · subst e1; exact string_del w
    · rw [if_neg e0, if_neg e1]
      exact string_else F a (by omega) h1 w hF

/-- A hexadecimal digit as a number. -/
def hxI (d : Int) : Int := if d < 10 then 48 + d else 87 + d
set_option maxHeartbeats 400000 in
theorem digit_any (d : Int) (h0 : 0 ≤ d) (h1 : d < 16) (w : World) : Calls Tryf.prog 9 #[.int .u16 d] w fun e w' => e = .returned (.int .u8 (hxI d)) ∧ w' = w := by
  by_cases h : d < 10
  · go_enter Tryf.func9, Tryf.ntmps9
    go_wp2
    go_ret
    exact ⟨by unfold hxI; rw [if_pos h]; rfl, rfl⟩
  · go_enter Tryf.func9, Tryf.ntmps9
    go_wp2
    go_ret
    exact ⟨by unfold hxI; rw [if_neg (by omega), show 87 + d = 97 + (d - 10) from by omega]; rfl, rfl⟩

theorem and15 (x : Int) (h0 : 0 ≤ x) (h1 : x < 65536) : ∃ d, bits .and .u16 x 15 = d ∧ 0 ≤ d ∧ d < 16 ∧ Hid (d = x % 16) := by
  have e : bits .and .u16 x 15 = x % 16 := by
    rw [u16_and x 15 h0 h1 (by omega) (by omega)]
    have := Nat.and_two_pow_sub_one_eq_mod x.toNat 4
    simp at this ⊢
    rw [this]; omega
  exact ⟨_, e, by omega, by omega, rfl⟩
theorem hxI_eq (d : Nat) (h : d < 16) : hxI (d : Int) = ((hx d).toNat : Int) := by
  unfold hxI hx FmtText.digit
  by_cases e : d < 10
  · rw [if_pos (by omega), if_pos e]; simp; omega
  · rw [if_neg (by omega), if_neg e]; simp; omega
theorem conv_hex (a d0 d1 d2 d3 : Int) (h0 : 0 ≤ a) (h1 : a ≤ 65535) (x0 : d0 = a / 4096 % 16) (x1 : d1 = a / 256 % 16) (x2 : d2 = a / 16 % 16) (x3 : d3 = a % 16) (w : World) :
    (convert 34 9 (.slice (some ⟨w.heap.size, 0, none⟩) 4 4)).run Tryf.prog (w.alloc (.cells #[.int .u8 (hxI d0), .int .u8 (hxI d1), .int .u8 (hxI d2), .int .u8 (hxI d3)] 31)) = .ok (.string (str (hex4 a.toNat))) (w.alloc (.cells #[.int .u8 (hxI d0), .int .u8 (hxI d1), .int .u8 (hxI d2), .int .u8 (hxI d3)] 31)) := by
  have e0 : hxI d0 = ((hx (a.toNat / 4096)).toNat : Int) := by rw [← hxI_eq _ (by omega)]; congr 1; omega
  have e1 : hxI d1 = ((hx (a.toNat / 256 % 16)).toNat : Int) := by rw [← hxI_eq _ (by omega)]; congr 1; omega
  have e2 : hxI d2 = ((hx (a.toNat / 16 % 16)).toNat : Int) := by rw [← hxI_eq _ (by omega)]; congr 1; omega
  have e3 : hxI d3 = ((hx (a.toNat % 16)).toNat : Int) := by rw [← hxI_eq _ (by omega)]; congr 1; omega
  rw [e0, e1, e2, e3]
  refine run_convert_bytes_back (P := Tryf.prog) _ 34 9 5 ⟨w.heap.size, 0, none⟩ 4 (hex4 a.toNat) Tryf.underlying34 Tryf.underlying5 Tryf.underlying9 ?_
  intro j hj
  rw [Addr.add_lit]
  match j, hj with
  | 0, _ => simp [hex4]
  | 1, _ => simp [hex4]
  | 2, _ => simp [hex4]
  | 3, _ => simp [hex4]
set_option maxHeartbeats 400000 in
theorem expected_else (a : Int) (h0 : 2 ≤ a) (h1 : a ≤ 65535) (w : World) :
    Calls Tryf.prog 6 #[.int .u16 a] w fun e w' => e = .returned (.string (str (preB ++ hex4 a.toNat))) ∧ Below w.heap.size w w' := by
  have e0 : (a == 0) = false := beq_eq_false_iff_ne.2 (by omega)
  have e1 : (a == 1) = false := beq_eq_false_iff_ne.2 (by omega)
  obtain ⟨d0, r0, z0, y0, x0⟩ := and15 (a / 4096) (by omega) (by omega)
  obtain ⟨d1, r1, z1, y1, x1⟩ := and15 (a / 256) (by omega) (by omega)
  obtain ⟨d2, r2, z2, y2, x2⟩ := and15 (a / 16) (by omega) (by omega)
  obtain ⟨d3, r3, z3, y3, x3⟩ := and15 a (by omega) (by omega)
  have hcv := conv_hex a d0 d1 d2 d3 (by omega) (by omega) x0.out x1.out x2.out x3.out w
  have hsz : (str (hex4 a.toNat)).size = 4 := rfl
  go_enter Tryf.func6, Tryf.ntmps6
  go_wp2_with (go_at_call 9; refine (digit_any _ (by omega) (by omega) _).mono ?_; rintro e w' ⟨rfl, rfl⟩)
  go_ret
  refine ⟨?_, (Below.refl _ _).alloc (Nat.le_refl _) _⟩
  rw [← str_append]
  rfl

set_option maxHeartbeats 400000 in
theorem expected_add (w : World) : Calls Tryf.prog 6 #[.int .u16 0] w fun e w' => e = .returned (.string (str [97, 100, 100])) ∧ Below w.heap.size w w' := by
  go_enter Tryf.func6, Tryf.ntmps6
  go_wp2
  go_ret
  exact ⟨rfl, Below.refl _ _⟩
set_option maxHeartbeats 400000 in
theorem expected_del (w : World) : Calls Tryf.prog 6 #[.int .u16 1] w fun e w' => e = .returned (.string (str [100, 101, 108, 101, 116, 101])) ∧ Below w.heap.size w w' := by
  go_enter Tryf.func6, Tryf.ntmps6
  go_wp2
  go_ret
  exact ⟨rfl, Below.refl _ _⟩
/-- zzExpectedActionText. -/
theorem expected_any (a : Int) (h0 : 0 ≤ a) (h1 : a ≤ 65535) (w : World) :
    Calls Tryf.prog 6 #[.int .u16 a] w fun e w' => e = .returned (.string (str (text a))) ∧ Below w.heap.size w w' := by
  unfold text
  by_cases e0 : a = 0
  · subst e0; exact expected_add w
  · by_cases e1 : a = 1
    · subst e1; exact expected_del w
    · rw [if_neg e0, if_neg e1]
      exact expected_else a (by omega) h1 w

theorem hx_inj (d e : Nat) (hd : d < 16) (he : e < 16) (h : hx d = hx e) : d = e := by
  have := congrArg UInt8.toNat h
  have h1 := hxI_eq d hd
  have h2 := hxI_eq e he
  unfold hxI at h1 h2
  split at h1 <;> split at h2 <;> omega
theorem text_inj (a b : Int) (a0 : 0 ≤ a) (a1 : a ≤ 65535) (b0 : 0 ≤ b) (b1 : b ≤ 65535) (h : text a = text b) : a = b := by
  unfold text at h
  by_cases ea0 : a = 0 <;> by_cases ea1 : a = 1 <;> by_cases eb0 : b = 0 <;> by_cases eb1 : b = 1 <;> simp [ea0, ea1, eb0, eb1, preB, hex4] at h ⊢
  all_goals first | omega | skip
  obtain ⟨h1, h2, h3, h4⟩ := h
  have g1 := hx_inj _ _ (by omega) (by omega) h1
  have g2 := hx_inj _ _ (by omega) (by omega) h2
  have g3 := hx_inj _ _ (by omega) (by omega) h3
  have g4 := hx_inj _ _ (by omega) (by omega) h4
  omega

theorem str_toList (l : List UInt8) : (str l).toList = l := by rw [Lib.toList_data]; simp [str]
theorem same_iff (a b : Int) (a0 : 0 ≤ a) (a1 : a ≤ 65535) (b0 : 0 ≤ b) (b1 : b ≤ 65535) : (((str (text a)).toList == (str (text b)).toList) == (a == b)) = true := by
  rw [str_toList, str_toList]
  by_cases h : a = b
  · subst h; simp
  · have h2 : ¬ text a = text b := fun e => h (text_inj a b a0 a1 b0 b1 e)
    have e1 : (text a == text b) = false := by simpa using h2
    have e2 : (a == b) = false := by simpa using h
    rw [e1, e2]; rfl

set_option maxHeartbeats 400000 in
theorem apart_walk (F : Interp) (a b : Int) (a0 : 0 ≤ a) (a1 : a ≤ 65535) (b0 : 0 ≤ b) (b1 : b ≤ 65535) (w : World) (hF : F.told.answers w.tape) :
    Calls Tryf.prog 3 #[.int .u16 a, .int .u16 b] w fun e w' => e = .returned (.bool true) ∧ Below w.heap.size w w' := by
  go_enter Tryf.func3, Tryf.ntmps3
  go_wp2_with fail
  refine (string_any F a a0 a1 w hF).mono ?_
  rintro _ w1 ⟨rfl, hb1⟩
  go_wp2_with fail
  refine (string_any F b b0 b1 w1 (by rw [hb1.tape]; exact hF)).mono ?_
  rintro _ w2 ⟨rfl, hb2⟩
  go_wp2_with fail
  refine (expected_any a a0 a1 w2).mono ?_
  rintro _ w3 ⟨rfl, hb3⟩
  have hbel : Below w.heap.size w w3 := hb1.trans ((hb2.mono hb1.size).trans (hb3.mono (Nat.le_trans hb1.size hb2.size)))
  go_wp2
  go_ret
  refine ⟨?_, hbel⟩
  have e : (((str (text a)).toList == (str (text b)).toList) == (a == b)) = true := same_iff a b a0 a1 b0 b1
  show Ending.returned (.bool (((str (text a)).toList == (str (text b)).toList) == (a == b))) = _
  rw [e]
end Go.Proofs.Qxb6630901aFmt
