/- The reference's lexer: what its small parts return. -/
import Derived.Test.YtbojlohjmbhifaaGreatDoorNu
import Derived.Deep.QuietTactic
import Derived.BigQuiet
namespace Go.Proofs.YtbojlohjmbhifaaGreatDoor
open Go.RowKit Go.Proofs.YtbojlohjmbhifaaGreatDoorW.PrintWords Go.Proofs.YtbojlohjmbhifaaGreatDoorW.PrintMore

/-- The reference's lexer lies at block x. -/
structure Lxr (w : World) (x : Nat) (s : ByteArray) (p : Int) (out : Value) (bad un : Bool) : Prop where
  c0 : w.cell? ⟨x, 0, none⟩ = some (.string s)
  c1 : w.cell? ⟨x, 1, none⟩ = some (.int .i64 p)
  c2 : w.cell? ⟨x, 2, none⟩ = some out
  c3 : w.cell? ⟨x, 3, none⟩ = some (.bool bad)
  c4 : w.cell? ⟨x, 4, none⟩ = some (.bool un)
  z1 : w.frozen? ⟨x, 1, none⟩ = false
  z2 : w.frozen? ⟨x, 2, none⟩ = false
  z3 : w.frozen? ⟨x, 3, none⟩ = false
  z4 : w.frozen? ⟨x, 4, none⟩ = false

theorem Lxr.drewN {w : World} {x : Nat} {s : ByteArray} {p : Int} {out : Value} {bad un : Bool} (h : Lxr w x s p out bad un) (n : Nat) : Lxr (w.drewN n) x s p out bad un := ⟨h.c0, h.c1, h.c2, h.c3, h.c4, h.z1, h.z2, h.z3, h.z4⟩

theorem Lxr.set1 {w : World} {x : Nat} {s : ByteArray} {p : Int} {out : Value} {bad un : Bool} (h : Lxr w x s p out bad un) (q : Int) : Lxr (w.setCell ⟨x, 1, none⟩ (.int .i64 q)) x s q out bad un := by
  refine ⟨?_, World.cell?_setCell_same _ _ _ h.c1, ?_, ?_, ?_, ?_, ?_, ?_, ?_⟩
  · rw [World.cell?_setCell_other _ _ _ _ (by simp)]; exact h.c0
  · rw [World.cell?_setCell_other _ _ _ _ (by simp)]; exact h.c2
  · rw [World.cell?_setCell_other _ _ _ _ (by simp)]; exact h.c3
  · rw [World.cell?_setCell_other _ _ _ _ (by simp)]; exact h.c4
  · rw [World.frozen?_setCell]; exact h.z1
  · rw [World.frozen?_setCell]; exact h.z2
  · rw [World.frozen?_setCell]; exact h.z3
  · rw [World.frozen?_setCell]; exact h.z4
theorem Lxr.set2 {w : World} {x : Nat} {s : ByteArray} {p : Int} {out : Value} {bad un : Bool} (h : Lxr w x s p out bad un) (q : Value) : Lxr (w.setCell ⟨x, 2, none⟩ q) x s p q bad un := by
  refine ⟨?_, ?_, World.cell?_setCell_same _ _ _ h.c2, ?_, ?_, ?_, ?_, ?_, ?_⟩
  · rw [World.cell?_setCell_other _ _ _ _ (by simp)]; exact h.c0
  · rw [World.cell?_setCell_other _ _ _ _ (by simp)]; exact h.c1
  · rw [World.cell?_setCell_other _ _ _ _ (by simp)]; exact h.c3
  · rw [World.cell?_setCell_other _ _ _ _ (by simp)]; exact h.c4
  · rw [World.frozen?_setCell]; exact h.z1
  · rw [World.frozen?_setCell]; exact h.z2
  · rw [World.frozen?_setCell]; exact h.z3
  · rw [World.frozen?_setCell]; exact h.z4
theorem Lxr.set3 {w : World} {x : Nat} {s : ByteArray} {p : Int} {out : Value} {bad un : Bool} (h : Lxr w x s p out bad un) (q : Bool) : Lxr (w.setCell ⟨x, 3, none⟩ (.bool q)) x s p out q un := by
  refine ⟨?_, ?_, ?_, World.cell?_setCell_same _ _ _ h.c3, ?_, ?_, ?_, ?_, ?_⟩
  · rw [World.cell?_setCell_other _ _ _ _ (by simp)]; exact h.c0
  · rw [World.cell?_setCell_other _ _ _ _ (by simp)]; exact h.c1
  · rw [World.cell?_setCell_other _ _ _ _ (by simp)]; exact h.c2
  · rw [World.cell?_setCell_other _ _ _ _ (by simp)]; exact h.c4
  · rw [World.frozen?_setCell]; exact h.z1
  · rw [World.frozen?_setCell]; exact h.z2
  · rw [World.frozen?_setCell]; exact h.z3
  · rw [World.frozen?_setCell]; exact h.z4
theorem Lxr.set4 {w : World} {x : Nat} {s : ByteArray} {p : Int} {out : Value} {bad un : Bool} (h : Lxr w x s p out bad un) (q : Bool) : Lxr (w.setCell ⟨x, 4, none⟩ (.bool q)) x s p out bad q := by
  refine ⟨?_, ?_, ?_, ?_, World.cell?_setCell_same _ _ _ h.c4, ?_, ?_, ?_, ?_⟩
  · rw [World.cell?_setCell_other _ _ _ _ (by simp)]; exact h.c0
  · rw [World.cell?_setCell_other _ _ _ _ (by simp)]; exact h.c1
  · rw [World.cell?_setCell_other _ _ _ _ (by simp)]; exact h.c2
  · rw [World.cell?_setCell_other _ _ _ _ (by simp)]; exact h.c3
  · rw [World.frozen?_setCell]; exact h.z1
  · rw [World.frozen?_setCell]; exact h.z2
  · rw [World.frozen?_setCell]; exact h.z3
  · rw [World.frozen?_setCell]; exact h.z4
theorem Lxr.grow {w w' : World} {x B : Nat} {s : ByteArray} {p : Int} {out : Value} {bad un : Bool} (h : Lxr w x s p out bad un) (hb : Below B w w') (hx : x < B) : Lxr w' x s p out bad un :=
  ⟨(hb.cell hx).trans h.c0, (hb.cell hx).trans h.c1, (hb.cell hx).trans h.c2, (hb.cell hx).trans h.c3, (hb.cell hx).trans h.c4, (hb.frozen hx).trans h.z1, (hb.frozen hx).trans h.z2, (hb.frozen hx).trans h.z3, (hb.frozen hx).trans h.z4⟩

set_option maxHeartbeats 1000000 in
set_option maxRecDepth 100000 in
theorem fail_any {w : World} {x : Nat} {s : ByteArray} {p : Int} {out : Value} {bad un : Bool} (h : Lxr w x s p out bad un) :
    Calls Tryz.prog 52 #[.pointer (some ⟨x, 0, none⟩)] w fun r w' => r = .returned (.tuple #[]) ∧ w.setCell ⟨x, 3, none⟩ (.bool true) = w' := by
  have h3 := h.c3
  have hz3 := h.z3
  clear h
  go_enter Tryz.func52, Tryz.ntmps52
  go_wp2_with fail
  go_end0
  exact ⟨rfl, rfl⟩

/-- The byte at a place; 0 behind the end. -/
def nx (s : ByteArray) (p : Int) : Int := if p < s.size then bt s p else 0

set_option maxHeartbeats 1000000 in
set_option maxRecDepth 100000 in
theorem next_any {w : World} {x : Nat} {s : ByteArray} {p : Int} {out : Value} {bad un : Bool} (h : Lxr w x s p out bad un) (q : Int) (hq : 0 ≤ q) :
    Calls Tryz.prog 47 #[.pointer (some ⟨x, 0, none⟩), .int .i64 q] w fun r w' => r = .returned (.int .u8 (nx s q)) ∧ w = w' := by
  have h0 := h.c0
  clear h
  by_cases hlt : q < s.size
  · have hx : nx s q = bt s q := by unfold nx; rw [if_pos hlt]
    have hx4 := bt_at s q
    have hq' := eq_true hq
    have hlt' := eq_true hlt
    rw [hx]
    clear hx
    go_enter Tryz.func47, Tryz.ntmps47
    go_wp2_with fail
    go_ret
    exact ⟨rfl, rfl⟩
  · have hx : nx s q = 0 := by unfold nx; rw [if_neg hlt]
    rw [hx]
    clear hx
    go_enter Tryz.func47, Tryz.ntmps47
    go_wp2_with fail
    go_ret
    exact ⟨rfl, rfl⟩

set_option maxHeartbeats 1000000 in
set_option maxRecDepth 100000 in
theorem point_ascii (s : ByteArray) (q : Int) (hq : 0 ≤ q) (hlt : q < s.size) (ha : bt s q < 128) (w : World) :
    Calls Tryz.prog 64 #[.string s, .int .i64 q] w fun r w' => r = .returned (.tuple #[.int .i64 (bt s q), .int .i64 1]) ∧ w = w' := by
  have hx4 := bt_at s q
  have hq' := eq_true hq
  have hlt' := eq_true hlt
  have hr := bt_range s q
  go_enter Tryz.func64, Tryz.ntmps64
  go_wp2_with fail
  go_ret2
  exact ⟨rfl, rfl⟩

set_option maxHeartbeats 1000000 in
set_option maxRecDepth 100000 in
theorem source_plain (c : Int) (h1 : 32 ≤ c) (h2 : c < 128) (w : World) :
    Calls Tryz.prog 65 #[.int .i64 c] w fun r w' => r = .returned (.tuple #[.bool true, .bool true]) ∧ w = w' := by
  have e1 : (c == 9) = false := beq_eq_false_iff_ne.2 (by omega)
  have e2 : (c == 10) = false := beq_eq_false_iff_ne.2 (by omega)
  have e3 : (c == 13) = false := beq_eq_false_iff_ne.2 (by omega)
  have e4 : decide (32 ≤ c) = true := decide_eq_true h1
  have e5 : decide (c ≤ 65535) = true := decide_eq_true (by omega)
  go_enter Tryz.func65, Tryz.ntmps65
  go_wp2_with fail
  go_ret2
  exact ⟨by simp, rfl⟩

set_option maxHeartbeats 1000000 in
set_option maxRecDepth 100000 in
theorem source_control (c : Int) (h1 : c < 32) (h2 : 0 ≤ c) (h3 : c ≠ 9) (h4 : c ≠ 10) (h5 : c ≠ 13) (w : World) :
    Calls Tryz.prog 65 #[.int .i64 c] w fun r w' => r = .returned (.tuple #[.bool false, .bool true]) ∧ w = w' := by
  have e1 : (c == 9) = false := beq_eq_false_iff_ne.2 h3
  have e2 : (c == 10) = false := beq_eq_false_iff_ne.2 h4
  have e3 : (c == 13) = false := beq_eq_false_iff_ne.2 h5
  have e4 : decide (32 ≤ c) = false := decide_eq_false (by omega)
  have e5 : decide (c ≤ 65535) = true := decide_eq_true (by omega)
  go_enter Tryz.func65, Tryz.ntmps65
  go_wp2_with fail
  go_ret2
  exact ⟨by simp, rfl⟩

set_option maxHeartbeats 1000000 in
set_option maxRecDepth 100000 in
theorem starts_not (s t : ByteArray) (q : Nat) (hq : q ≤ s.size) (hs : s.size ≤ 4294967295) (ht : t.size ≤ 16) (h : q + t.size ≤ s.size → s.extract q (q + t.size) ≠ t) (w : World) :
    Calls Tryz.prog 42 #[.string s, .int .i64 q, .string t] w fun r w' => r = .returned (.bool false) ∧ w = w' := by
  by_cases hle : q + t.size ≤ s.size
  · have he : ((s.extract q (q + t.size)).toList == t.toList) = false := by
      rw [beq_eq_false_iff_ne, ByteArray.toList_eq, ByteArray.toList_eq]
      exact fun e => h hle (ba_ext e)
    have h1 : (q : Int) + (t.size : Int) ≤ s.size := by omega
    have H := Lib.hid h
    clear h
    go_enter Tryz.func42, Tryz.ntmps42
    go_wp2_with fail
    go_ret
    exact ⟨rfl, rfl⟩
  · have h1 : ¬ (q : Int) + (t.size : Int) ≤ s.size := by omega
    clear h
    go_enter Tryz.func42, Tryz.ntmps42
    go_wp2_with fail
    go_ret
    exact ⟨rfl, rfl⟩

/-- What a step of the reference's lexer leaves that refuses: the text, bad; below it nothing has turned. -/
def Failed (x : Nat) (s : ByteArray) (un : Bool) (w : World) (r : Ending) (w' : World) : Prop :=
  r = .returned (.tuple #[]) ∧ (∃ p out, Lxr w' x s p out true un) ∧ Below x w w'

set_option maxHeartbeats 1000000 in
set_option maxRecDepth 100000 in
/-- A string with a control character in it (not a tab): 'text' refuses it. -/
theorem text_control {w : World} {x : Nat} {s : ByteArray} {p : Nat} {out : Value} (h : Lxr w x s p out false false) (n : Nat) (hpn : p < n) (hn : n < s.size) (hs : s.size ≤ 4294967295)
    (hpl : ∀ j : Nat, p < j → j < n → 32 ≤ bt s j ∧ bt s j < 128 ∧ bt s j ≠ 34 ∧ bt s j ≠ 92) (hc : 0 ≤ bt s n ∧ bt s n < 32 ∧ bt s n ≠ 9) :
    Calls Tryz.prog 51 #[.pointer (some ⟨x, 0, none⟩)] w (Failed x s false w) := by
  have h0 := h.c0
  have h1 := h.c1
  have HL := Lib.hid h
  have HP := Lib.hid hpl
  obtain ⟨c1, c2, c3⟩ := hc
  clear h hpl
  go_enter Tryz.func51, Tryz.ntmps51
  go_wp2_with fail
  clear h0 h1
  go_loopw [2, 3] (fun a b wr => ∃ (j : Nat) (t : ByteArray), p < j ∧ j ≤ n ∧ t.size ≤ j ∧ a = .string t ∧ b = .int .i64 j ∧ Hid (Lxr wr x s p out false false) ∧ Hid (Below x w wr)) (fun _ b _ => n - (intOf b).toNat)
  case atStart => exact ⟨p + 1, ⟨#[]⟩, by omega, by omega, by show 0 ≤ _; omega, rfl, by go_num, HL, Lib.hid (Below.refl _ _)⟩
  case round =>
    obtain ⟨j, t, hj1, hj2, ht, rfl, rfl, hl, hb⟩ := hrel
    have g0 := hl.out.c0
    have g3 := hl.out.c3
    have g4 := hl.out.c4
    have gz3 := hl.out.z3
    have gz4 := hl.out.z4
    have hjn : j < s.size := by omega
    have hjs : (j : Int) < s.size := by omega
    have hj0 : (0 : Int) ≤ j := by omega
    have hx4 : ∀ h : j < s.size, ((s[j]'h).toNat : Int) = bt s j := bt_at s j
    by_cases hlt : j < n
    · obtain ⟨q1, q2, q3, q4⟩ := HP.out j hj1 hlt
      have e1 : (bt s j == 34) = false := beq_eq_false_iff_ne.2 q3
      have e2 : (bt s j == 10) = false := beq_eq_false_iff_ne.2 (by omega)
      have e3 : (bt s j == 13) = false := beq_eq_false_iff_ne.2 (by omega)
      have e4 : (bt s j == 92) = false := beq_eq_false_iff_ne.2 q4
      have hsz : (s.extract j (j + 1)).size = 1 := by simp; omega
      go_wp2_with (first | (go_at_call 64; refine (point_ascii s j hj0 hjs q2 _).mono ?_; rintro r w1 ⟨rfl, rfl⟩) | (go_at_call 65; refine (source_plain _ q1 q2 _).mono ?_; rintro r w1 ⟨rfl, rfl⟩))
      go_round
      case rel => exact ⟨j + 1, _, by omega, by omega, by rw [ByteArray.size_append]; omega, rfl, by go_num, Lib.hid (hl.out.set4 false), Lib.hid (hb.out.setCell (Nat.le_refl _) _)⟩
      case measure => simp [intOf]; omega
    · obtain rfl : j = n := by omega
      have e1 : (bt s j == 34) = false := beq_eq_false_iff_ne.2 (by omega)
      have e4 : (bt s j == 92) = false := beq_eq_false_iff_ne.2 (by omega)
      by_cases k10 : bt s j = 10
      · have e2 : (bt s j == 10) = true := beq_iff_eq.2 k10
        go_wp2_with (first | (go_at_call 52; refine (fail_any hl.out).mono ?_; rintro r w1 ⟨rfl, rfl⟩))
        go_end0
        exact ⟨rfl, ⟨_, _, hl.out.set3 true⟩, hb.out.setCell (Nat.le_refl _) _⟩
      have e2 : (bt s j == 10) = false := beq_eq_false_iff_ne.2 k10
      by_cases k13 : bt s j = 13
      · have e3 : (bt s j == 13) = true := beq_iff_eq.2 k13
        go_wp2_with (first | (go_at_call 52; refine (fail_any hl.out).mono ?_; rintro r w1 ⟨rfl, rfl⟩))
        go_end0
        exact ⟨rfl, ⟨_, _, hl.out.set3 true⟩, hb.out.setCell (Nat.le_refl _) _⟩
      have e3 : (bt s j == 13) = false := beq_eq_false_iff_ne.2 k13
      go_wp2_with (first | (go_at_call 64; refine (point_ascii s j hj0 hjs (by omega) _).mono ?_; rintro r w1 ⟨rfl, rfl⟩) | (go_at_call 65; refine (source_control _ c2 c1 c3 k10 k13 _).mono ?_; rintro r w1 ⟨rfl, rfl⟩) | (go_at_call 52; refine (fail_any (hl.out.set4 false)).mono ?_; rintro r w1 ⟨rfl, rfl⟩))
      go_end0
      exact ⟨rfl, ⟨_, _, (hl.out.set4 false).set3 true⟩, (hb.out.setCell (Nat.le_refl _) _).setCell (Nat.le_refl _) _⟩
end Go.Proofs.YtbojlohjmbhifaaGreatDoor
