/- 'readString' at an escape by a code point. -/
import Derived.Test.YtbojlohjmbhifaaGreatDoorRs0
import Derived.Test.YtbojlohjmbhifaaGreatDoorEo
import Derived.Test.YtbojlohjmbhifaaGreatDoorTx
import Derived.Test.YtbojlohjmbhifaaGreatDoorNu
namespace Go.Proofs.YtbojlohjmbhifaaGreatDoor
open Go.RowKit Go.Proofs.YtbojlohjmbhifaaGreatDoorW.PrintWords Go.Proofs.YtbojlohjmbhifaaGreatDoorW.PrintMore

set_option maxHeartbeats 1000000 in
set_option maxRecDepth 100000 in
theorem char2hex_any (c : Int) (h0 : 0 ≤ c) (h1 : c ≤ 255) (w : World) : Calls Tryz.prog 63 #[.int .i32 c] w fun r w' => r = .returned (.int .i64 (hexv c)) ∧ w = w' := by
  by_cases a1 : 48 ≤ c ∧ c ≤ 57
  · have hv : Hid (hexv c = c - 48) := Lib.hid (by unfold hexv; rw [if_pos a1])
    have e1 : decide (48 ≤ c) = true := decide_eq_true a1.1
    have e2 : decide (c ≤ 57) = true := decide_eq_true a1.2
    obtain ⟨a2, a3⟩ := a1
    go_enter Tryz.func63, Tryz.ntmps63
    go_wp2_with fail
    go_ret
    exact ⟨by rw [hv.out]; rfl, rfl⟩
  by_cases b1 : 97 ≤ c ∧ c ≤ 102
  · have hv : Hid (hexv c = c - 87) := Lib.hid (by unfold hexv; rw [if_neg a1, if_pos b1])
    have e1 : decide (48 ≤ c) = true := decide_eq_true (by omega)
    have e2 : decide (c ≤ 57) = false := decide_eq_false (by omega)
    have e5 : decide (65 ≤ c) = true := decide_eq_true (by omega)
    have e6 : decide (c ≤ 70) = false := decide_eq_false (by omega)
    have e3 : decide (97 ≤ c) = true := decide_eq_true b1.1
    have e4 : decide (c ≤ 102) = true := decide_eq_true b1.2
    obtain ⟨a2, a3⟩ := b1
    clear a1
    go_enter Tryz.func63, Tryz.ntmps63
    go_wp2_with fail
    go_ret
    exact ⟨by rw [hv.out]; rfl, rfl⟩
  by_cases c1 : 65 ≤ c ∧ c ≤ 70
  · have hv : Hid (hexv c = c - 55) := Lib.hid (by unfold hexv; rw [if_neg a1, if_neg b1, if_pos c1])
    have e1 : decide (48 ≤ c) = true := decide_eq_true (by omega)
    have e2 : decide (c ≤ 57) = false := decide_eq_false (by omega)
    have e5 : decide (65 ≤ c) = true := decide_eq_true c1.1
    have e6 : decide (c ≤ 70) = true := decide_eq_true c1.2
    obtain ⟨a2, a3⟩ := c1
    clear a1 b1
    go_enter Tryz.func63, Tryz.ntmps63
    go_wp2_with fail
    go_ret
    exact ⟨by rw [hv.out]; rfl, rfl⟩
  · have hv : Hid (hexv c = -1) := Lib.hid (by unfold hexv; rw [if_neg a1, if_neg b1, if_neg c1])
    have d1 : (decide (48 ≤ c) = false) ∨ (decide (48 ≤ c) = true ∧ decide (c ≤ 57) = false) := by simp only [decide_eq_false_iff_not, decide_eq_true_eq]; omega
    have d2 : (decide (97 ≤ c) = false) ∨ (decide (97 ≤ c) = true ∧ decide (c ≤ 102) = false) := by simp only [decide_eq_false_iff_not, decide_eq_true_eq]; omega
    have d3 : (decide (65 ≤ c) = false) ∨ (decide (65 ≤ c) = true ∧ decide (c ≤ 70) = false) := by simp only [decide_eq_false_iff_not, decide_eq_true_eq]; omega
    clear a1 b1 c1
    rcases d1 with d1 | ⟨d1, d1'⟩ <;> rcases d2 with d2 | ⟨d2, d2'⟩ <;> rcases d3 with d3 | ⟨d3, d3'⟩
    all_goals
      go_enter Tryz.func63, Tryz.ntmps63
      go_wp2_with fail
      go_ret
      exact ⟨by rw [hv.out]; rfl, rfl⟩

set_option maxHeartbeats 1000000 in
set_option maxRecDepth 100000 in
theorem uni_any (a b c d x : Int) (ha : 0 ≤ a ∧ a ≤ 255) (hb : 0 ≤ b ∧ b ≤ 255) (hc : 0 ≤ c ∧ c ≤ 255) (hd : 0 ≤ d ∧ d ≤ 255) (hx : code4 (hexv a) (hexv b) (hexv c) (hexv d) = x) (h0 : -1048576 ≤ x) (h1 : x ≤ 1048576) (w : World) :
    Calls Tryz.prog 41 #[.int .i32 a, .int .i32 b, .int .i32 c, .int .i32 d] w fun r w' => r = .returned (.int .i32 x) ∧ w = w' := by
  have C1 := Lib.hid (fun y (hy : 0 ≤ y ∧ y ≤ 255) W => char2hex_any y hy.1 hy.2 W)
  obtain ⟨A0, A1⟩ := hexv_range a
  obtain ⟨B0, B1⟩ := hexv_range b
  obtain ⟨D0, D1⟩ := hexv_range c
  have HX := Lib.hid hx
  have HD := Lib.hid (hexv_range d)
  have HA := Lib.hid ha
  have HB := Lib.hid hb
  have HC := Lib.hid hc
  have HE := Lib.hid hd
  clear hx ha hb hc hd
  go_enter Tryz.func41, Tryz.ntmps41
  go_wp2_with fail
  refine (C1.out _ HA.out _).mono ?_
  rintro r w1 ⟨rfl, rfl⟩
  go_wp2_with fail
  refine (C1.out _ HB.out _).mono ?_
  rintro r w1 ⟨rfl, rfl⟩
  go_wp2_with fail
  refine (C1.out _ HC.out _).mono ?_
  rintro r w1 ⟨rfl, rfl⟩
  go_wp2_with fail
  refine (C1.out _ HE.out _).mono ?_
  rintro r w1 ⟨rfl, rfl⟩
  go_wp2_with fail
  go_ret
  refine ⟨?_, rfl⟩
  show Ending.returned (Value.int IntKind.i32 (wrap32 (code4 (hexv a) (hexv b) (hexv c) (hexv d)))) = _
  rw [HX.out, show wrap32 x = x by unfold wrap32; omega]

theorem Src.drewN {w : World} {sb b cap : Nat} {s : ByteArray} (h : Src w sb b cap s) (n : Nat) : Src (w.drewN n) sb b cap s := ⟨h.head, h.cells, h.cap, h.lts, h.ltb, h.size, h.ascii⟩

theorem Src.code {w : World} {sb b cap : Nat} {s : ByteArray} (h : Src w sb b cap s) (j : Nat) (hj : j < s.size) : w.cell? ⟨b, j, none⟩ = some (.int .u8 (cd s j)) := by
  rw [cd_in hj]
  exact h.cells j hj

theorem cd_range {s : ByteArray} {j : Nat} (h : j < s.size) : 0 ≤ cd s j ∧ cd s j ≤ 255 := by
  rw [cd_in h]
  have := (s[j]'h).toNat_lt
  omega

set_option maxHeartbeats 2000000 in
set_option maxRecDepth 100000 in
theorem readString_esc {w : World} {sb b cap : Nat} {s : ByteArray} (h : Src w sb b cap s) (hz : s.size = 8) (h1 : cd s 1 = 92) (h2 : cd s 2 = 117) (h7 : cd s 7 = 34) (x : Int)
    (hx : code4 (hexv (cd s 3)) (hexv (cd s 4)) (hexv (cd s 5)) (hexv (cd s 6)) = x) (hx0 : 0 ≤ x) (hx1 : x ≤ 65535) :
    Calls Tryz.prog 32 #[.pointer (some ⟨sb, 0, none⟩), .int .i64 0] w fun r w' =>
      r = .returned (.tuple #[.agg #[.int .i64 18, .int .i64 0, .int .i64 8, .string ⟨(Lib.encodeRune x).toArray⟩], .nilIface]) ∧ Below w.heap.size w w' := by
  have hlt := h.lts
  have hltb := h.ltb
  have hhd := h.head
  have hcap := h.cap
  rw [hz] at hhd hcap
  have H2 : Hid (∀ o o', Src ((w.alloc o).alloc o') sb b cap s) := Lib.hid (fun o o' => h.grow (((Below.refl _ _).alloc (Nat.le_refl _) o).alloc (by simp) o'))
  have HFR := Lib.hid (fun o => Lib.fresh_isBuffer 79 5 (w.alloc o))
  have R1 : Hid (∀ W, Src W sb b cap s → Calls Tryz.prog 27 #[.slice (some ⟨b, 0, none⟩) 8 cap, .int .i64 1] W fun e w' => e = .returned (.tuple #[.int .i32 92, .int .i64 1]) ∧ W = w') := Lib.hid (fun W hW => by
    have c := runeAt_any hW 1 (by omega)
    rw [h1, wd_in (by omega), hz] at c
    exact c)
  have R2 : Hid (∀ W, Src W sb b cap s → Calls Tryz.prog 27 #[.slice (some ⟨b, 0, none⟩) 8 cap, .int .i64 2] W fun e w' => e = .returned (.tuple #[.int .i32 117, .int .i64 1]) ∧ W = w') := Lib.hid (fun W hW => by
    have c := runeAt_any hW 2 (by omega)
    rw [h2, wd_in (by omega), hz] at c
    exact c)
  have R7 : Hid (∀ W, Src W sb b cap s → Calls Tryz.prog 27 #[.slice (some ⟨b, 0, none⟩) 8 cap, .int .i64 7] W fun e w' => e = .returned (.tuple #[.int .i32 34, .int .i64 1]) ∧ W = w') := Lib.hid (fun W hW => by
    have c := runeAt_any hW 7 (by omega)
    rw [h7, wd_in (by omega), hz] at c
    exact c)
  have K3 := Lib.hid (fun W (hW : Src W sb b cap s) => hW.code 3 (by omega))
  have K4 := Lib.hid (fun W (hW : Src W sb b cap s) => hW.code 4 (by omega))
  have K5 := Lib.hid (fun W (hW : Src W sb b cap s) => hW.code 5 (by omega))
  have K6 := Lib.hid (fun W (hW : Src W sb b cap s) => hW.code 6 (by omega))
  have B3 : 0 ≤ cd s 3 ∧ cd s 3 ≤ 255 := cd_range (j := 3) (by omega)
  have B4 : 0 ≤ cd s 4 ∧ cd s 4 ≤ 255 := cd_range (j := 4) (by omega)
  have B5 : 0 ≤ cd s 5 ∧ cd s 5 ≤ 255 := cd_range (j := 5) (by omega)
  have B6 : 0 ≤ cd s 6 ∧ cd s 6 ≤ 255 := cd_range (j := 6) (by omega)
  have CU := Lib.hid (fun W => uni_any (cd s 3) (cd s 4) (cd s 5) (cd s 6) x B3 B4 B5 B6 hx (by omega) (by omega) W)
  clear h h1 h2 h7 hx
  change Hid (∀ W, Src W sb b cap s → W.cell? ⟨b, 3, none⟩ = some (.int .u8 (cd s 3))) at K3
  change Hid (∀ W, Src W sb b cap s → W.cell? ⟨b, 4, none⟩ = some (.int .u8 (cd s 4))) at K4
  change Hid (∀ W, Src W sb b cap s → W.cell? ⟨b, 5, none⟩ = some (.int .u8 (cd s 5))) at K5
  change Hid (∀ W, Src W sb b cap s → W.cell? ⟨b, 6, none⟩ = some (.int .u8 (cd s 6))) at K6
  generalize cd s 3 = v3 at *
  generalize cd s 4 = v4 at *
  generalize cd s 5 = v5 at *
  generalize cd s 6 = v6 at *
  obtain ⟨b31, b32⟩ := B3
  obtain ⟨b41, b42⟩ := B4
  obtain ⟨b51, b52⟩ := B5
  obtain ⟨b61, b62⟩ := B6
  have HZ := Lib.hid hz
  clear hz
  go_enter Tryz.func32, Tryz.ntmps32
  go_wp2_with fail
  go_loopw [7, 8, 9] (fun a c d wr => (a = .int .i64 1 ∧ c = .int .i64 1 ∧ d = .int .i64 1 ∧ wr = (w.alloc (.cells #[.int .i64 0, .int .i64 0, .int .i64 0, .string ByteArray.empty] 50)).alloc (.cells #[.slice none 0 0, .int .i64 0, .int .i8 0] 79)) ∨
    (a = .int .i64 7 ∧ c = .int .i64 7 ∧ d = .int .i64 7 ∧ Hid (Lib.IsBuffer 79 5 (w.heap.size + 1) (w.heap.size + 1) (Lib.runeCells x) wr) ∧ Hid (Below (w.heap.size + 1) ((w.alloc (.cells #[.int .i64 0, .int .i64 0, .int .i64 0, .string ByteArray.empty] 50)).alloc (.cells #[.slice none 0 0, .int .i64 0, .int .i8 0] 79)) wr))) (fun a _ _ _ => 8 - (intOf a).toNat)
  case atStart => exact .inl ⟨rfl, rfl, rfl, rfl⟩
  case round =>
    rcases hrel with ⟨rfl, rfl, rfl, rfl⟩ | ⟨rfl, rfl, rfl, hI, hB⟩
    · go_wp2_with (go_at_call 27; refine (R1.out _ (H2.out _ _)).mono ?_; rintro r w' ⟨rfl, rfl⟩)
      refine (Tryz.Buffer_Write_any (w.heap.size + 1) (w.heap.size + 1) [] [] ⟨b, 1, none⟩ 0 _ _ (by simpa using HFR.out _) (by simp) (by simp) rfl (by show b ≠ _; omega) (by simp) (by simp) (by simp)).mono ?_
      rintro r w1 ⟨rfl, hI, hB, _⟩
      have hS := Lib.hid ((H2.out _ _).below hB (by omega) (by omega))
      have hI' := Lib.hid hI
      have hB' := Lib.hid hB
      have hz1 : w.heap.size + 1 < w1.heap.size := by have := hB.size; simp at this; omega
      clear hI hB
      have k3 := K3.out _ hS.out
      have k4 := K4.out _ hS.out
      have k5 := K5.out _ hS.out
      have k6 := K6.out _ hS.out
      go_wp2_with (go_at_call 27; refine (R2.out _ hS.out).mono ?_; rintro r w' ⟨rfl, rfl⟩)
      go_quiet (first | (go_at_call 41; refine (CU.out _).mono ?_; rintro r w2 ⟨rfl, rfl⟩; exact ⟨rfl, _, rfl⟩))
      clear k3 k4 k5 k6
      go_wp2_with fail
      refine (Tryz.Buffer_WriteRune_k (w.heap.size + 1) (w.heap.size + 1) [] x (by omega) (by omega) _ (Lib.IsBuffer.drewN (by simpa using hI'.out) _) (by simp; omega) (by simp) (by simp)).mono ?_
      rintro r w2 ⟨rfl, hI2, hB2, _⟩
      have hI3 := Lib.hid hI2
      have hB3 := Lib.hid ((below_drewN hB'.out _).trans hB2)
      clear hI2 hB2
      go_wp2_with fail
      go_round
      case rel => exact .inr ⟨by go_num, by go_num, by go_num, by simpa using hI3, hB3⟩
      case measure => simp [intOf]
    · have hS := Lib.hid ((H2.out _ _).below hB.out (by omega) (by omega))
      have hz1 : w.heap.size + 1 < wr.heap.size := by have := hB.out.size; simp at this; omega
      go_wp2_with (go_at_call 27; refine (R7.out _ hS.out).mono ?_; rintro r w' ⟨rfl, rfl⟩)
      refine (Tryz.Buffer_Write_any (w.heap.size + 1) (w.heap.size + 1) (Lib.runeCells x) [] ⟨b, 7, none⟩ 0 _ _ hI.out (by omega) (by intro v hv; rw [← Lib.byteCells_encodeRune] at hv; exact Lib.byteCells_one _ v hv) rfl (by show b ≠ _; omega) (by simp) (by simp) (by have := Lib.runeCells_le x; simp; omega)).mono ?_
      rintro r w1 ⟨rfl, hI2, hB2, _⟩
      rw [List.append_nil, ← Lib.byteCells_encodeRune] at hI2
      obtain ⟨⟨c0, c1, c2, c3⟩, ⟨z0, z1, z2, z3⟩, hz, hB1⟩ := kept4b (hB.out.trans hB2)
      clear hB2
      go_wp2_with (first | (go_at_call 39; refine (Tryz.Buffer_String (w.heap.size + 1) (w.heap.size + 1) _ w1 hI2).mono ?_; rintro r w2 ⟨rfl, nq, rfl⟩) | (go_at_call 26; refine (makeToken_any _ _ _ _ _).mono ?_; rintro r w3 ⟨rfl, hb⟩; obtain ⟨⟨c0, c1, c2, c3⟩, ⟨z0, z1, z2, z3⟩, hz, hB⟩ := kept4c hb c0 c1 c2 c3 z0 z1 z2 z3 hz (below_drewN hB1 _) (Nat.le_refl _); clear hb))
      obtain ⟨q0, q1, q2, q3⟩ := set4 c0 c1 c2 c3 (.int .i64 18) (.int .i64 0) (.int .i64 8) (.string ⟨(Lib.encodeRune x).toArray⟩)
      refine bodyPost_ret (v := .tuple #[.agg #[.int .i64 18, .int .i64 0, .int .i64 8, .string ⟨(Lib.encodeRune x).toArray⟩], .nilIface]) (by simp [results, Tryz.results32, go_sem, q0, q1, q2, q3]) rfl ⟨rfl, below_set4 hB (Nat.le_refl _) _ _ _ _⟩

set_option maxHeartbeats 2000000 in
set_option maxRecDepth 100000 in
theorem readString_escbad {w : World} {sb b cap : Nat} {s : ByteArray} (h : Src w sb b cap s) (hz : s.size = 8) (h1 : cd s 1 = 92) (h2 : cd s 2 = 117) (x : Int)
    (hx : code4 (hexv (cd s 3)) (hexv (cd s 4)) (hexv (cd s 5)) (hexv (cd s 6)) = x) (hx0 : x < 0) (hx1 : -1048576 ≤ x) :
    Calls Tryz.prog 32 #[.pointer (some ⟨sb, 0, none⟩), .int .i64 0] w fun r w' =>
      ∃ g : Nat, r = .returned (.tuple #[.agg #[.int .i64 0, .int .i64 0, .int .i64 0, .string ⟨#[]⟩], .iface 63 (.pointer (some ⟨g, 0, none⟩))]) ∧ Below w.heap.size w w' := by
  have hlt := h.lts
  have hltb := h.ltb
  have hhd := h.head
  have hcap := h.cap
  rw [hz] at hhd hcap
  have H2 : Hid (∀ o o', Src ((w.alloc o).alloc o') sb b cap s) := Lib.hid (fun o o' => h.grow (((Below.refl _ _).alloc (Nat.le_refl _) o).alloc (by simp) o'))
  have HFR := Lib.hid (fun o => Lib.fresh_isBuffer 79 5 (w.alloc o))
  have R1 : Hid (∀ W, Src W sb b cap s → Calls Tryz.prog 27 #[.slice (some ⟨b, 0, none⟩) 8 cap, .int .i64 1] W fun e w' => e = .returned (.tuple #[.int .i32 92, .int .i64 1]) ∧ W = w') := Lib.hid (fun W hW => by
    have c := runeAt_any hW 1 (by omega)
    rw [h1, wd_in (by omega), hz] at c
    exact c)
  have R2 : Hid (∀ W, Src W sb b cap s → Calls Tryz.prog 27 #[.slice (some ⟨b, 0, none⟩) 8 cap, .int .i64 2] W fun e w' => e = .returned (.tuple #[.int .i32 117, .int .i64 1]) ∧ W = w') := Lib.hid (fun W hW => by
    have c := runeAt_any hW 2 (by omega)
    rw [h2, wd_in (by omega), hz] at c
    exact c)
  have K3 := Lib.hid (fun W (hW : Src W sb b cap s) => hW.code 3 (by omega))
  have K4 := Lib.hid (fun W (hW : Src W sb b cap s) => hW.code 4 (by omega))
  have K5 := Lib.hid (fun W (hW : Src W sb b cap s) => hW.code 5 (by omega))
  have K6 := Lib.hid (fun W (hW : Src W sb b cap s) => hW.code 6 (by omega))
  have B3 : 0 ≤ cd s 3 ∧ cd s 3 ≤ 255 := cd_range (j := 3) (by omega)
  have B4 : 0 ≤ cd s 4 ∧ cd s 4 ≤ 255 := cd_range (j := 4) (by omega)
  have B5 : 0 ≤ cd s 5 ∧ cd s 5 ≤ 255 := cd_range (j := 5) (by omega)
  have B6 : 0 ≤ cd s 6 ∧ cd s 6 ≤ 255 := cd_range (j := 6) (by omega)
  have CU := Lib.hid (fun W => uni_any (cd s 3) (cd s 4) (cd s 5) (cd s 6) x B3 B4 B5 B6 hx (by omega) (by omega) W)
  clear h h1 h2 hx
  change Hid (∀ W, Src W sb b cap s → W.cell? ⟨b, 3, none⟩ = some (.int .u8 (cd s 3))) at K3
  change Hid (∀ W, Src W sb b cap s → W.cell? ⟨b, 4, none⟩ = some (.int .u8 (cd s 4))) at K4
  change Hid (∀ W, Src W sb b cap s → W.cell? ⟨b, 5, none⟩ = some (.int .u8 (cd s 5))) at K5
  change Hid (∀ W, Src W sb b cap s → W.cell? ⟨b, 6, none⟩ = some (.int .u8 (cd s 6))) at K6
  generalize cd s 3 = v3 at *
  generalize cd s 4 = v4 at *
  generalize cd s 5 = v5 at *
  generalize cd s 6 = v6 at *
  obtain ⟨b31, b32⟩ := B3
  obtain ⟨b41, b42⟩ := B4
  obtain ⟨b51, b52⟩ := B5
  obtain ⟨b61, b62⟩ := B6
  have HZ := Lib.hid hz
  clear hz
  go_enter Tryz.func32, Tryz.ntmps32
  go_wp2_with fail
  go_loopw [7, 8, 9] (fun a c d wr => a = .int .i64 1 ∧ c = .int .i64 1 ∧ d = .int .i64 1 ∧ wr = (w.alloc (.cells #[.int .i64 0, .int .i64 0, .int .i64 0, .string ByteArray.empty] 50)).alloc (.cells #[.slice none 0 0, .int .i64 0, .int .i8 0] 79)) (fun a _ _ _ => 8 - (intOf a).toNat)
  case atStart => exact ⟨rfl, rfl, rfl, rfl⟩
  case round =>
      obtain ⟨rfl, rfl, rfl, rfl⟩ := hrel
      go_wp2_with (go_at_call 27; refine (R1.out _ (H2.out _ _)).mono ?_; rintro r w' ⟨rfl, rfl⟩)
      refine (Tryz.Buffer_Write_any (w.heap.size + 1) (w.heap.size + 1) [] [] ⟨b, 1, none⟩ 0 _ _ (by simpa using HFR.out _) (by simp) (by simp) rfl (by show b ≠ _; omega) (by simp) (by simp) (by simp)).mono ?_
      rintro r w1 ⟨rfl, hI, hB, _⟩
      have hS := Lib.hid ((H2.out _ _).below hB (by omega) (by omega))
      have hI' := Lib.hid hI
      have hB' := Lib.hid hB
      have hz1 : w.heap.size + 1 < w1.heap.size := by have := hB.size; simp at this; omega
      clear hI hB
      have k3 := K3.out _ hS.out
      have k4 := K4.out _ hS.out
      have k5 := K5.out _ hS.out
      have k6 := K6.out _ hS.out
      go_wp2_with (go_at_call 27; refine (R2.out _ hS.out).mono ?_; rintro r w' ⟨rfl, rfl⟩)
      go_quiet (first | (go_at_call 41; refine (CU.out _).mono ?_; rintro r w2 ⟨rfl, rfl⟩; exact ⟨rfl, _, rfl⟩))
      clear k3 k4 k5 k6
      go_wp2_with fail
      go_wp2_with fail
      refine (syntax_any (hS.out.drewN _) _ (by omega) (by omega) _).mono ?_
      rintro r w2 ⟨g, rfl, hb⟩
      obtain ⟨⟨c0, c1, c2, c3⟩, ⟨z0, z1, z2, z3⟩, hz, hB⟩ := kept4b ((below_drewN hB'.out _).trans (hb.mono (by simp; omega)))
      clear hb
      go_wp2_with fail
      obtain ⟨q0, q1, q2, q3⟩ := set4 c0 c1 c2 c3 (.int .i64 0) (.int .i64 0) (.int .i64 0) (.string ⟨#[]⟩)
      refine bodyPost_ret (v := .tuple #[.agg #[.int .i64 0, .int .i64 0, .int .i64 0, .string ⟨#[]⟩], .iface 63 (.pointer (some ⟨g, 0, none⟩))]) (by simp [results, Tryz.results32, go_sem, q0, q1, q2, q3]) rfl ⟨g, rfl, below_set4 hB (Nat.le_refl _) _ _ _ _⟩
end Go.Proofs.YtbojlohjmbhifaaGreatDoor

/-! A string that is one escape by a code point: what both lexers say of it. -/
namespace Go.Proofs.YtbojlohjmbhifaaGreatDoor
open Go.RowKit Go.Proofs.YtbojlohjmbhifaaGreatDoorW.PrintWords Go.Proofs.YtbojlohjmbhifaaGreatDoorW.PrintMore

theorem cell_ltE {w : World} {a : Addr} {v : Value} (h : w.cell? a = some v) : a.block < w.heap.size := by
  rcases Nat.lt_or_ge a.block w.heap.size with h' | h'
  · exact h'
  · simp [World.cell?, Array.getElem?_eq_none h'] at h

theorem bt_cdE {s : ByteArray} {j : Nat} (h : j < s.size) : bt s (j : Int) = cd s (j : Int) := by
  rw [bt_list (by rw [size_list]; exact h), cd_list]
  unfold lc
  rw [List.getElem?_eq_getElem (by rw [size_list]; exact h)]

/-- A string that is one escape. -/
structure EscText (s : ByteArray) (a b c d : UInt8) : Prop where
  eq : s.data.toList = [34, 92, 117, a, b, c, d, 34]

section
variable {s : ByteArray} {a b c d : UInt8}
theorem EscText.size (h : EscText s a b c d) : s.size = 8 := by
  rw [← size_list, h.eq]
  rfl
theorem EscText.cd0 (h : EscText s a b c d) : cd s 0 = 34 := by
  have e := cd_list s 0
  rw [h.eq] at e
  exact e
theorem EscText.cd1 (h : EscText s a b c d) : cd s 1 = 92 := by
  have e := cd_list s 1
  rw [h.eq] at e
  exact e
theorem EscText.cd2 (h : EscText s a b c d) : cd s 2 = 117 := by
  have e := cd_list s 2
  rw [h.eq] at e
  exact e
theorem EscText.cd3 (h : EscText s a b c d) : cd s 3 = a.toNat := by
  have e := cd_list s 3
  rw [h.eq] at e
  exact e
theorem EscText.cd4 (h : EscText s a b c d) : cd s 4 = b.toNat := by
  have e := cd_list s 4
  rw [h.eq] at e
  exact e
theorem EscText.cd5 (h : EscText s a b c d) : cd s 5 = c.toNat := by
  have e := cd_list s 5
  rw [h.eq] at e
  exact e
theorem EscText.cd6 (h : EscText s a b c d) : cd s 6 = d.toNat := by
  have e := cd_list s 6
  rw [h.eq] at e
  exact e
theorem EscText.cd7 (h : EscText s a b c d) : cd s 7 = 34 := by
  have e := cd_list s 7
  rw [h.eq] at e
  exact e
theorem nx_cd {s : ByteArray} {j : Nat} (h : j < s.size) : nx s (j : Int) = cd s (j : Int) := by
  unfold nx
  rw [if_pos (by omega), bt_cdE h]
theorem EscText.ahead (h : EscText s a b c d) : Ahead s 0 0 := ⟨Nat.le_refl _, by rw [h.size]; omega, fun j h1 h2 => absurd h2 (by omega)⟩

/-- The values of the digits, by places. -/
def four (a b c d : Int) (k : Nat) : Int := match k with
  | 0 => a
  | 1 => b
  | 2 => c
  | _ => d

theorem EscText.nx3 (h : EscText s a b c d) (k : Nat) (hk : k < 4) : nx s (3 + k) = four a.toNat b.toNat c.toNat d.toNat k := by
  have hz := h.size
  have e := nx_cd (s := s) (j := 3 + k) (by omega)
  rw [show ((3 + k : Nat) : Int) = 3 + (k : Int) by omega] at e
  rw [e]
  match k, hk with
  | 0, _ => exact h.cd3
  | 1, _ => exact h.cd4
  | 2, _ => exact h.cd5
  | 3, _ => exact h.cd6
  | n + 4, hk => omega

/-- The lexer reads it. -/
theorem EscText.run (h : EscText s a b c d) (x : Int) (hx : code4 (hexv a.toNat) (hexv b.toNat) (hexv c.toNat) (hexv d.toNat) = x) (hx0 : 0 ≤ x) (hx1 : x ≤ 65535) : Run s 0 [⟨18, 0, 8, ⟨(Lib.encodeRune x).toArray⟩⟩] true := by
  have hz := h.size
  have hst : Str s 0 (.tuple #[.agg #[.int .i64 18, .int .i64 ((0 : Nat) : Int), .int .i64 ((8 : Nat) : Int), .string ⟨(Lib.encodeRune x).toArray⟩], .nilIface]) := fun w sb b' cap hs =>
    readString_esc hs hz h.cd1 h.cd2 h.cd7 x (by rw [h.cd3, h.cd4, h.cd5, h.cd6]; exact hx) hx0 hx1
  refine .step (tok_string s 0 0 8 _ h.ahead h.cd0 ?_ hst) (by decide) (by decide) (by omega) (.done (tok_end s 8 (by omega) (fun j h1 h2 => absurd h2 (by omega))))
  rw [show ((0 + 1 : Nat) : Int) = 1 from rfl, h.cd1]
  decide

/-- The lexer refuses it. -/
theorem EscText.bad (h : EscText s a b c d) (hx : hexv a.toNat = -1 ∨ hexv b.toNat = -1 ∨ hexv c.toNat = -1 ∨ hexv d.toNat = -1) : Bad s 0 := by
  have hz := h.size
  refine bad_string s 0 0 h.ahead h.cd0 ?_ (fun w sb b' cap hs => ?_)
  · rw [show ((0 + 1 : Nat) : Int) = 1 from rfl, h.cd1]
    decide
  · obtain ⟨c1, c2⟩ := code4_bad (hexv (cd s 3)) (hexv (cd s 4)) (hexv (cd s 5)) (hexv (cd s 6)) (hexv_range _) (hexv_range _) (hexv_range _) (hexv_range _) (by rw [h.cd3, h.cd4, h.cd5, h.cd6]; exact hx)
    exact readString_escbad hs hz h.cd1 h.cd2 _ rfl c1 c2

theorem EscText.token0 (h : EscText s a b c d) {W : World} {x : Nat} (hx : Lxr W x s 0 (.slice none 0 0) false false) (R : World → Prop)
    (HT : ∀ m, Calls Tryz.prog 51 #[.pointer (some ⟨x, 0, none⟩)] (W.drewN m) fun r w' => r = .returned (.tuple #[]) ∧ R w') :
    Calls Tryz.prog 33 #[.pointer (some ⟨x, 0, none⟩)] W fun r w' => r = .returned (.tuple #[]) ∧ R w' := by
  have hz := h.size
  refine token_quote (p := 0) hx (by omega) (by omega) ?_ ?_ R HT
  · rw [bt_cdE (by omega)]
    exact h.cd0
  · rw [bt_cdE (by omega), show ((0 + 1 : Nat) : Int) = 1 from rfl, h.cd1]
    decide

/-- Of it the reference is sure. -/
theorem EscText.sure (h : EscText s a b c d) (hd : ∀ k : Nat, k < 4 → 0 ≤ hexv (four a.toNat b.toNat c.toNat d.toNat k)) (x : Int) (hx : dsum (fun k => hexv (four a.toNat b.toNat c.toNat d.toNat k)) 4 = x)
    (hn : 0 < x) (hm : x ≤ 65535) (hsur : x < 55296 ∨ 57344 ≤ x) (w : World) :
    Calls Tryz.prog 11 #[.string s] w fun r w' => r = .returned (.bool true) ∧ Below w.heap.size w w' := by
  have hz := h.size
  refine sure_good s (by omega) (by omega) w (fun W y hy => ?_)
  refine h.token0 hy (fun w' => (∃ out, Lxr w' y s s.size out false false) ∧ Below y W w') (fun m => ?_)
  have hyl : y < W.heap.size := cell_ltE hy.c0
  refine (text_esc (hy.drewN m) hyl hz ?_ ?_ ?_ (fun k => hexv (four a.toNat b.toNat c.toNat d.toNat k)) (fun k hk => ?_) (by omega) (by omega) (by omega)).mono (fun r w' hh => ⟨hh.1, ?_, ?_⟩)
  · have e := bt_cdE (s := s) (j := 1) (by omega)
    exact e.trans h.cd1
  · have e := nx_cd (s := s) (j := 2) (by omega)
    exact e.trans h.cd2
  · have e := bt_cdE (s := s) (j := 7) (by omega)
    exact e.trans h.cd7
  · rw [h.nx3 k hk]
    exact ⟨rfl, hd k hk, (hexv_range _).2⟩
  · rw [hz]
    exact hh.2.1
  · exact (Below.mono (Drawn0.below (w := W) ⟨⟨m, rfl⟩⟩) (by omega)).trans hh.2.2

theorem EscText.sure_bad (h : EscText s a b c d) (m : Nat) (hm : m < 4) (hd : ∀ k : Nat, k < m → 0 ≤ hexv (four a.toNat b.toNat c.toNat d.toNat k)) (hb : hexv (four a.toNat b.toNat c.toNat d.toNat m) = -1) (hb2 : four a.toNat b.toNat c.toNat d.toNat m ≠ 123) (w : World) :
    Calls Tryz.prog 11 #[.string s] w fun r w' => r = .returned (.bool true) ∧ Below w.heap.size w w' := by
  have hz := h.size
  refine YtbojlohjmbhifaaGreatDoor.sure_bad s (by omega) (by omega) w (fun W y hy => ?_)
  refine (h.token0 hy (fun w' => (∃ p out, Lxr w' y s p out true false) ∧ Below y W w') (fun n => ?_)).mono (fun r w' hh => hh)
  have hyl : y < W.heap.size := cell_ltE hy.c0
  refine (text_esc_bad (hy.drewN n) hz ?_ ?_ (fun k => hexv (four a.toNat b.toNat c.toNat d.toNat k)) m hm (fun k hk => ?_) ?_ ?_).mono (fun r w' hh => ⟨hh.1, hh.2.1, ?_⟩)
  · have e := bt_cdE (s := s) (j := 1) (by omega)
    exact e.trans h.cd1
  · have e := nx_cd (s := s) (j := 2) (by omega)
    exact e.trans h.cd2
  · rw [h.nx3 k (by omega)]
    exact ⟨rfl, hd k hk, (hexv_range _).2⟩
  · rw [h.nx3 m hm]
    exact hb
  · rw [h.nx3 m hm]
    exact hb2
  · exact (Below.mono (Drawn0.below (w := W) ⟨⟨n, rfl⟩⟩) (by omega)).trans hh.2.2
end
end Go.Proofs.YtbojlohjmbhifaaGreatDoor

/-! FnEscapeCode's walk. -/
namespace Go.Proofs.YtbojlohjmbhifaaGreatDoor
open Go.RowKit Go.Proofs.YtbojlohjmbhifaaGreatDoorW.PrintWords Go.Proofs.YtbojlohjmbhifaaGreatDoorW.PrintMore

/-- The digit of a value. -/
def dg (up : Bool) (n : Nat) : UInt8 := if n < 10 then UInt8.ofNat (48 + n) else if up then UInt8.ofNat (55 + n) else UInt8.ofNat (87 + n)
/-- The table of the digits. -/
def tab (up : Bool) : ByteArray := match up with
  | true => ⟨#[48, 49, 50, 51, 52, 53, 54, 55, 56, 57, 65, 66, 67, 68, 69, 70]⟩
  | false => ⟨#[48, 49, 50, 51, 52, 53, 54, 55, 56, 57, 97, 98, 99, 100, 101, 102]⟩

theorem dg_hexv : ∀ (up : Bool) (n : Fin 16), hexv ((dg up n.val).toNat : Int) = (n.val : Int) := by decide
theorem dg_ascii : ∀ (up : Bool) (n : Fin 16), (dg up n.val).toNat < 128 := by decide
theorem dg_not : ∀ (up : Bool) (n : Fin 16), (dg up n.val).toNat ≠ 123 := by decide
theorem tab_list : ∀ (up : Bool) (n : Fin 16), (tab up).data.toList[n.val]? = some (dg up n.val) := by decide
theorem tab_size (up : Bool) : (tab up).size = 16 := by cases up <;> rfl
theorem tab_cut (up : Bool) (n : Nat) (h : n < 16) : (tab up).extract n (n + 1) = ⟨#[dg up n]⟩ := by
  have hl := extract_list (tab up) n (n + 1) (by rw [tab_size]; omega)
  refine ba_ext ?_
  refine List.ext_getElem (by rw [hl]; simp) (fun j h1 h2 => ?_)
  obtain rfl : j = 0 := by rw [hl] at h1; omega
  rw [extract_get (tab up) n (n + 1) 0 (by rw [tab_size]; omega) h1]
  have e := tab_list up ⟨n, h⟩
  have e2 := (List.getElem?_eq_some_iff.1 e).2
  exact e2

theorem wraps_u16 (n : Int) (h0 : 0 ≤ n) (h1 : n < 2 ^ 16) : IntKind.u16.wrap n = n := by
  simp [IntKind.wrap, IntKind.bits, IntKind.signed]
  omega

theorem nib (x : Int) (h0 : 0 ≤ x) (h1 : x ≤ 65535) : ∃ n : Nat, n < 16 ∧ x % 16 = n ∧ bits .and .u16 x 15 = n ∧ IntKind.u16.wrap ((n : Int) + 1) = (n : Int) + 1 := by
  have h := bits_mask .u16 16 (by decide) wraps_u16 4 (by decide) x h0 (by omega)
  refine ⟨(x % 16).toNat, by omega, by omega, ?_, wraps_u16 _ (by omega) (by omega)⟩
  have e : (2 : Int) ^ 4 - 1 = 15 := by decide
  rw [e] at h
  rw [h]
  omega

/-- A bent text: the reference is sure of it, and the lexer refuses it. -/
theorem EscText.bent {s : ByteArray} {a b c d : UInt8} (h : EscText s a b c d) (m : Nat) (hm : m < 4) (hd : ∀ k : Nat, k < m → 0 ≤ hexv (four a.toNat b.toNat c.toNat d.toNat k)) (hb : four a.toNat b.toNat c.toNat d.toNat m = 103) (ha : a.toNat < 128 ∧ b.toNat < 128 ∧ c.toNat < 128 ∧ d.toNat < 128) :
    (∀ w : World, Calls Tryz.prog 11 #[.string s] w fun r w' => r = .returned (.bool true) ∧ Below w.heap.size w w') ∧
    (∀ w : World, Calls Tryz.prog 10 #[.string s] w fun r w' => r = .returned (.bool true) ∧ Below w.heap.size w w') := by
  have h103 : hexv 103 = -1 := by decide
  refine ⟨fun w => h.sure_bad m hm hd (by rw [hb, h103]) (by rw [hb]; decide) w, fun w => refused_any s (by rw [h.size]; omega) (ascii_list (by
    rw [h.eq]
    intro x hx
    simp only [List.mem_cons, List.mem_nil_iff, or_false] at hx
    rcases hx with rfl | rfl | rfl | rfl | rfl | rfl | rfl | rfl
    · decide
    · decide
    · decide
    · exact ha.1
    · exact ha.2.1
    · exact ha.2.2.1
    · exact ha.2.2.2
    · decide)) [] (.bad (h.bad ?_)) w⟩
  match m, hm with
  | 0, _ => exact .inl (by rw [show (a.toNat : Int) = 103 from hb, h103])
  | 1, _ => exact .inr (.inl (by rw [show (b.toNat : Int) = 103 from hb, h103]))
  | 2, _ => exact .inr (.inr (.inl (by rw [show (c.toNat : Int) = 103 from hb, h103])))
  | 3, _ => exact .inr (.inr (.inr (by rw [show (d.toNat : Int) = 103 from hb, h103])))
  | n + 4, hm => omega

set_option maxHeartbeats 1000000 in
set_option maxRecDepth 100000 in
theorem code_out (c : Int) (up : Bool) (bd : Int) (h : (55296 ≤ c ∧ c ≤ 57343) ∨ c = 0) (w : World) :
    Calls Tryz.prog 4 #[.int .u16 c, .bool up, .int .u8 bd] w fun r w' => r = .returned (.bool true) ∧ w = w' := by
  rcases h with ⟨h1, h2⟩ | h
  · have e1 : decide (55296 ≤ c) = true := decide_eq_true h1
    have e2 : decide (c ≤ 57343) = true := decide_eq_true h2
    cases up
    all_goals
      go_enter Tryz.func4, Tryz.ntmps4
      go_wp2_with fail
      go_ret
      exact ⟨rfl, rfl⟩
  · have e1 : decide (55296 ≤ c) = false := decide_eq_false (by omega)
    have e2 : (c == 0) = true := beq_iff_eq.2 h
    clear h
    cases up
    all_goals
      go_enter Tryz.func4, Tryz.ntmps4
      go_wp2_with fail
      go_ret
      exact ⟨rfl, rfl⟩

set_option maxHeartbeats 2000000 in
set_option maxRecDepth 100000 in
theorem code_walk (c : Int) (c0 : 0 ≤ c) (c1 : c ≤ 65535) (up : Bool) (bd : Int) (b0 : 0 ≤ bd) (b1 : bd ≤ 255) (h : (c < 55296 ∨ 57343 < c) ∧ c ≠ 0) (w : World) :
    Calls Tryz.prog 4 #[.int .u16 c, .bool up, .int .u8 bd] w fun r w' => r = .returned (.bool true) ∧ Below w.heap.size w w' := by
  obtain ⟨h1, h2⟩ := h
  have e3 : (c == 0) = false := beq_eq_false_iff_ne.2 h2
  have d1 : (decide (55296 ≤ c) = false) ∨ (decide (55296 ≤ c) = true ∧ decide (c ≤ 57343) = false) := by simp only [decide_eq_false_iff_not, decide_eq_true_eq]; omega
  have HT : Hid (tab true = ⟨#[48, 49, 50, 51, 52, 53, 54, 55, 56, 57, 65, 66, 67, 68, 69, 70]⟩ ∧ tab false = ⟨#[48, 49, 50, 51, 52, 53, 54, 55, 56, 57, 97, 98, 99, 100, 101, 102]⟩) := Lib.hid ⟨rfl, rfl⟩
  obtain ⟨n3, l3, m3, q3⟩ := nib (c / 4096) (by omega) (by omega)
  obtain ⟨n2, l2, m2, q2⟩ := nib (c / 256) (by omega) (by omega)
  obtain ⟨n1, l1, m1, q1⟩ := nib (c / 16) (by omega) (by omega)
  obtain ⟨n0, l0, m0, q0⟩ := nib c c0 c1
  obtain ⟨S1, hS1⟩ : ∃ S : ByteArray, S = ⟨#[]⟩ ++ (tab up).extract n3 (n3 + 1) := ⟨_, rfl⟩
  obtain ⟨S2, hS2⟩ : ∃ S : ByteArray, S = S1 ++ (tab up).extract n2 (n2 + 1) := ⟨_, rfl⟩
  obtain ⟨S3, hS3⟩ : ∃ S : ByteArray, S = S2 ++ (tab up).extract n1 (n1 + 1) := ⟨_, rfl⟩
  obtain ⟨S4, hS4⟩ : ∃ S : ByteArray, S = S3 ++ (tab up).extract n0 (n0 + 1) := ⟨_, rfl⟩
  have z1 : S1.size = 1 := by rw [hS1, tab_cut up n3 l3]; rfl
  have z2 : S2.size = 2 := by rw [hS2, tab_cut up n2 l2, ByteArray.size_append, z1]; rfl
  have z3 : S3.size = 3 := by rw [hS3, tab_cut up n1 l1, ByteArray.size_append, z2]; rfl
  have z4 : S4.size = 4 := by rw [hS4, tab_cut up n0 l0, ByteArray.size_append, z3]; rfl
  have HL : Hid (S4.data.toList = [dg up n3, dg up n2, dg up n1, dg up n0]) := Lib.hid (by
    rw [hS4, hS3, hS2, hS1, tab_cut up n3 l3, tab_cut up n2 l2, tab_cut up n1 l1, tab_cut up n0 l0]
    simp)
  have hc4 : c = n3 * 4096 + n2 * 256 + n1 * 16 + n0 := by omega
  have k3 := dg_hexv up ⟨n3, l3⟩
  have k2 := dg_hexv up ⟨n2, l2⟩
  have k1 := dg_hexv up ⟨n1, l1⟩
  have k0 := dg_hexv up ⟨n0, l0⟩
  simp only at k3 k2 k1 k0
  have HA : ∀ m : Nat, m < 4 → 0 ≤ hexv (four (dg up n3).toNat (dg up n2).toNat (dg up n1).toNat (dg up n0).toNat m) := by
    intro m hm
    match m, hm with
    | 0, _ => show 0 ≤ hexv ((dg up n3).toNat : Int); omega
    | 1, _ => show 0 ≤ hexv ((dg up n2).toNat : Int); omega
    | 2, _ => show 0 ≤ hexv ((dg up n1).toNat : Int); omega
    | 3, _ => show 0 ≤ hexv ((dg up n0).toNat : Int); omega
    | n + 4, hm => omega
  have HG : EscText (⟨#[34, 92, 117]⟩ ++ S4 ++ ⟨#[34]⟩) (dg up n3) (dg up n2) (dg up n1) (dg up n0) := ⟨by simp [HL.out]⟩
  have SG := Lib.hid (fun W => HG.sure HA c (by
    show 16 * (16 * (16 * (16 * 0 + hexv ((dg up n3).toNat : Int)) + hexv ((dg up n2).toNat : Int)) + hexv ((dg up n1).toNat : Int)) + hexv ((dg up n0).toNat : Int) = c
    omega) (by omega) c1 (by omega) W)
  have hw : (⟨(Lib.encodeRune c).toArray⟩ : ByteArray) = runesBytes [c] := ba_ext (by rw [runes_list c c0 (by omega) c1])
  have hrun := HG.run c (by
    rw [code4_good _ _ _ _ (by omega) (by omega) (by omega) (by omega)]
    omega) c0 c1
  rw [hw] at hrun
  have hasc : ∀ x : UInt8, x ∈ [34, 92, 117, dg up n3, dg up n2, dg up n1, dg up n0, 34] → x.toNat < 128 := by
    intro x hx
    simp only [List.mem_cons, List.mem_nil_iff, or_false] at hx
    rcases hx with rfl | rfl | rfl | rfl | rfl | rfl | rfl | rfl
    · decide
    · decide
    · decide
    · exact dg_ascii up ⟨n3, l3⟩
    · exact dg_ascii up ⟨n2, l2⟩
    · exact dg_ascii up ⟨n1, l1⟩
    · exact dg_ascii up ⟨n0, l0⟩
    · decide
  have OG := Lib.hid (fun W => only_any _ (by rw [HG.size]; omega) (ascii_list (by rw [HG.eq]; exact hasc)) 18 0 8 (runesBytes [c]) hrun W)
  have a3 := dg_ascii up ⟨n3, l3⟩
  have a2 := dg_ascii up ⟨n2, l2⟩
  have a1 := dg_ascii up ⟨n1, l1⟩
  have a0 := dg_ascii up ⟨n0, l0⟩
  have BT : Hid (∀ m : Nat, m < 4 → (∀ W : World, Calls Tryz.prog 11 #[.string (⟨#[34, 92, 117]⟩ ++ S4.extract 0 m ++ ⟨#[103]⟩ ++ S4.extract (m + 1) 4 ++ ⟨#[34]⟩)] W fun r w' => r = .returned (.bool true) ∧ Below W.heap.size W w') ∧
      (∀ W : World, Calls Tryz.prog 10 #[.string (⟨#[34, 92, 117]⟩ ++ S4.extract 0 m ++ ⟨#[103]⟩ ++ S4.extract (m + 1) 4 ++ ⟨#[34]⟩)] W fun r w' => r = .returned (.bool true) ∧ Below W.heap.size W w')) := Lib.hid (fun m hm => by
    match m, hm with
    | 0, _ =>
      have hx : EscText (⟨#[34, 92, 117]⟩ ++ S4.extract 0 0 ++ ⟨#[103]⟩ ++ S4.extract (0 + 1) 4 ++ ⟨#[34]⟩) 103 (dg up n2) (dg up n1) (dg up n0) := ⟨by simp [HL.out]⟩
      exact hx.bent 0 (by omega) (fun k hk => absurd hk (by omega)) rfl ⟨by decide, a2, a1, a0⟩
    | 1, _ =>
      have hx : EscText (⟨#[34, 92, 117]⟩ ++ S4.extract 0 1 ++ ⟨#[103]⟩ ++ S4.extract (1 + 1) 4 ++ ⟨#[34]⟩) (dg up n3) 103 (dg up n1) (dg up n0) := ⟨by simp [HL.out]⟩
      exact hx.bent 1 (by omega) (fun k hk => by
        obtain rfl : k = 0 := by omega
        exact HA 0 (by omega)) rfl ⟨a3, by decide, a1, a0⟩
    | 2, _ =>
      have hx : EscText (⟨#[34, 92, 117]⟩ ++ S4.extract 0 2 ++ ⟨#[103]⟩ ++ S4.extract (2 + 1) 4 ++ ⟨#[34]⟩) (dg up n3) (dg up n2) 103 (dg up n0) := ⟨by simp [HL.out]⟩
      exact hx.bent 2 (by omega) (fun k hk => by
        match k, hk with
        | 0, _ => exact HA 0 (by omega)
        | 1, _ => exact HA 1 (by omega)
        | n + 2, hk => omega) rfl ⟨a3, a2, by decide, a0⟩
    | 3, _ =>
      have hx : EscText (⟨#[34, 92, 117]⟩ ++ S4.extract 0 3 ++ ⟨#[103]⟩ ++ S4.extract (3 + 1) 4 ++ ⟨#[34]⟩) (dg up n3) (dg up n2) (dg up n1) 103 := ⟨by simp [HL.out]⟩
      exact hx.bent 3 (by omega) (fun k hk => by
        match k, hk with
        | 0, _ => exact HA 0 (by omega)
        | 1, _ => exact HA 1 (by omega)
        | 2, _ => exact HA 2 (by omega)
        | n + 3, hk => omega) rfl ⟨a3, a2, a1, by decide⟩
    | n + 4, hm => omega)
  obtain ⟨m, hm, hbm⟩ : ∃ m : Nat, m < 4 ∧ bd % 4 = m := ⟨(bd % 4).toNat, by omega, by omega⟩
  have BM := Lib.hid hbm
  have BT1 := Lib.hid (BT.out m hm)
  clear hrun hw k3 k2 k1 k0 HA HG hasc hc4 a3 a2 a1 a0 BT hbm
  have Q3 := Lib.hid q3
  have Q2 := Lib.hid q2
  have Q1 := Lib.hid q1
  have Q0 := Lib.hid q0
  have M := Lib.hid (And.intro m3 (And.intro m2 (And.intro m1 m0)))
  have E1 := Lib.hid hS1
  have E2 := Lib.hid hS2
  have E3 := Lib.hid hS3
  have E4 := Lib.hid hS4
  have Z := Lib.hid (And.intro z1 (And.intro z2 (And.intro z3 z4)))
  have X3 := Lib.hid (tab_cut up n3 l3)
  have X2 := Lib.hid (tab_cut up n2 l2)
  have X1 := Lib.hid (tab_cut up n1 l1)
  have X0 := Lib.hid (tab_cut up n0 l0)
  have ZT := Lib.hid (tab_size up)
  clear q3 q2 q1 q0 m3 m2 m1 m0 hS1 hS2 hS3 hS4 z1 z2 z3 z4
  go_enter Tryz.func4, Tryz.ntmps4
  go_upto_if 13 with (fail)
  go_cut [7] (fun x wx => x = .string (tab up) ∧ w = wx)
  case first =>
    cases up
    all_goals
      go_wp2_with fail
      go_meet
      case rel => exact ⟨rfl, rfl⟩
  case rest =>
    obtain ⟨rfl, rfl⟩ := hcut
    rcases d1 with d1 | ⟨d1, d1'⟩
    all_goals
      go_wp2_with fail
      go_loopw [8, 9] (fun a b wr => ((a = .string ⟨#[]⟩ ∧ b = .int .i64 12) ∨ (a = .string S1 ∧ b = .int .i64 8) ∨ (a = .string S2 ∧ b = .int .i64 4) ∨ (a = .string S3 ∧ b = .int .i64 0) ∨ (a = .string S4 ∧ b = .int .i64 (-4))) ∧ Hid (Below w.heap.size w wr)) (fun _ b _ => (intOf b + 4).toNat)
      case atStart => exact ⟨.inl ⟨rfl, rfl⟩, Lib.hid (Below.refl _ _)⟩
      case round =>
        obtain ⟨hrel, hb⟩ := hrel
        rcases hrel with ⟨rfl, rfl⟩ | ⟨rfl, rfl⟩ | ⟨rfl, rfl⟩ | ⟨rfl, rfl⟩ | ⟨rfl, rfl⟩
        · obtain ⟨p1, p2⟩ := Q3.out
          obtain ⟨z1, z2, z3, z4⟩ := Z.out
          have ez := ZT.out
          have sz : ((tab up).extract n3 (n3 + 1)).size = 1 := by rw [X3.out]; rfl
          go_wp2_with fail
          go_quiet (fail)
          clear p1 p2 ez sz z1 z2 z3 z4
          go_wp2_with fail
          go_round
          case rel => exact ⟨.inr (.inl ⟨by rw [E1.out], by go_num⟩), Lib.hid (below_drewN hb.out _)⟩
          case measure => simp [intOf]
        · obtain ⟨p1, p2⟩ := Q2.out
          obtain ⟨z1, z2, z3, z4⟩ := Z.out
          have ez := ZT.out
          have sz : ((tab up).extract n2 (n2 + 1)).size = 1 := by rw [X2.out]; rfl
          go_wp2_with fail
          go_quiet (fail)
          clear p1 p2 ez sz z1 z2 z3 z4
          go_wp2_with fail
          go_round
          case rel => exact ⟨.inr (.inr (.inl ⟨by rw [E2.out], by go_num⟩)), Lib.hid (below_drewN hb.out _)⟩
          case measure => simp [intOf]
        · obtain ⟨p1, p2⟩ := Q1.out
          obtain ⟨z1, z2, z3, z4⟩ := Z.out
          have ez := ZT.out
          have sz : ((tab up).extract n1 (n1 + 1)).size = 1 := by rw [X1.out]; rfl
          go_wp2_with fail
          go_quiet (fail)
          clear p1 p2 ez sz z1 z2 z3 z4
          go_wp2_with fail
          go_round
          case rel => exact ⟨.inr (.inr (.inr (.inl ⟨by rw [E3.out], by go_num⟩))), Lib.hid (below_drewN hb.out _)⟩
          case measure => simp [intOf]
        · obtain ⟨p1, p2⟩ := Q0.out
          obtain ⟨z1, z2, z3, z4⟩ := Z.out
          have ez := ZT.out
          have sz : ((tab up).extract n0 (n0 + 1)).size = 1 := by rw [X0.out]; rfl
          go_wp2_with fail
          go_quiet (fail)
          clear p1 p2 ez sz z1 z2 z3 z4
          go_wp2_with fail
          go_round
          case rel => exact ⟨.inr (.inr (.inr (.inr (⟨by rw [E4.out], by go_num⟩)))), Lib.hid (below_drewN hb.out _)⟩
          case measure => simp [intOf]
        · clear Q3 Q2 Q1 Q0 E1 E2 E3 E4 X3 X2 X1 X0 M ZT
          obtain ⟨z1, z2, z3, z4⟩ := Z.out
          clear z1 z2 z3
          go_wp2_with fail
          refine (SG.out _).mono ?_
          rintro r w1 ⟨rfl, hb1⟩
          have hcv := rune_string w1 c _ rfl 21
          go_wp2_with fail
          refine (OG.out _).mono ?_
          rintro r w2 ⟨rfl, hb2⟩
          clear hcv
          have hbm := BM.out
          have hm1 : (m : Int) ≤ 4 := by omega
          have hm2 : (m : Int) + 1 ≤ 4 := by omega
          go_wp2_with fail
          go_quiet (fail)
          go_wp2_with fail
          clear hbm z4
          refine (BT1.out.1 _).mono ?_
          rintro r w3 ⟨rfl, hb3⟩
          go_wp2_with fail
          refine (BT1.out.2 _).mono ?_
          rintro r w4 ⟨rfl, hb4⟩
          go_wp2_with fail
          go_ret
          have h2 := hb.out.trans (hb1.mono hb.out.size)
          have h3 := h2.alloc h2.size (.cells #[.int .i32 c] 21)
          have h5 := below_drewN (h3.trans (hb2.mono h3.size)) nq
          have h6 := h5.trans (hb3.mono h5.size)
          exact ⟨rfl, h6.trans (hb4.mono h6.size)⟩

theorem code_all (c : Int) (up : Bool) (bd : Int) (c0 : 0 ≤ c) (c1 : c ≤ 65535) (b0 : 0 ≤ bd) (b1 : bd ≤ 255) (w : World) :
    Calls Tryz.prog 4 #[.int .u16 c, .bool up, .int .u8 bd] w fun r w' => r = .returned (.bool true) ∧ Below w.heap.size w w' := by
  by_cases h : (55296 ≤ c ∧ c ≤ 57343) ∨ c = 0
  · refine (code_out c up bd h w).mono ?_
    rintro r w' ⟨rfl, rfl⟩
    exact ⟨rfl, Below.refl _ _⟩
  · exact code_walk c c0 c1 up bd b0 b1 ⟨by omega, by omega⟩ w
end Go.Proofs.YtbojlohjmbhifaaGreatDoor
