/- Where the next token begins: what is passed over is blanks, tabs, line ends and commas. -/
import Derived.Test.YtbjfahhfcdnkaaaGreatDoorLx0
namespace Go.Proofs.YtbjfahhfcdnkaaaGreatDoor
open Go.RowKit Go.Proofs.YtbjfahhfcdnkaaaGreatDoorW.PrintWords Go.Proofs.YtbjfahhfcdnkaaaGreatDoorW.PrintMore

/-- What is passed over. -/
def blank (c : Int) : Prop := c = 9 ∨ c = 32 ∨ c = 10 ∨ c = 13 ∨ c = 44
/-- What a token begins with: not passed over, no comment. -/
def starts (c : Int) : Prop := c ≠ 65279 ∧ c ≠ 9 ∧ c ≠ 32 ∧ c ≠ 10 ∧ c ≠ 13 ∧ c ≠ 44 ∧ c ≠ 35

set_option maxHeartbeats 1000000 in
set_option maxRecDepth 100000 in
theorem pos_any {w : World} {sb b cap : Nat} {s : ByteArray} (h : Src w sb b cap s) (p q : Nat) (hpq : p ≤ q) (hq : q ≤ s.size) (hb : ∀ j : Nat, p ≤ j → j < q → blank (cd s j)) (he : q < s.size → starts (cd s q)) :
    Calls Tryz.prog 154 #[.slice (some ⟨b, 0, none⟩) s.size cap, .int .i64 (p : Int)] w fun e w' => e = .returned (.tuple #[.int .i64 (q : Int), .int .i64 (q : Int)]) ∧ w = w' := by
  have hs := h.size
  have H := Lib.hid h
  have HB := Lib.hid hb
  have HE := Lib.hid he
  clear h hb he
  go_enter Tryz.func154, Tryz.ntmps154
  go_wp2_with fail
  go_loop [4, 5] (fun x y => ∃ j : Nat, p ≤ j ∧ j ≤ q ∧ x = .int .i64 j ∧ y = .int .i64 j) (fun x _ => q - (intOf x).toNat)
  case atStart => exact ⟨p, Nat.le_refl _, hpq, rfl, rfl⟩
  case round =>
    obtain ⟨j, hj1, hj2, rfl, rfl⟩ := hrel
    by_cases hlt : j < q
    · have hjs : (j : Int) < (s.size : Int) := by omega
      have hw := wd_in hjs
      have HW := Lib.hid hw
      have b0 : (cd s j == 65279) = false := by
        rcases HB.out j hj1 hlt with e | e | e | e | e <;> rw [e] <;> rfl
      clear hw
      rcases HB.out j hj1 hlt with e | e | e | e | e
      · have b1 : (cd s j == 9) = true := by rw [e]; rfl
        clear e
        go_wp2_with (go_at_call 156; refine (runeAt_any H.out _ (by omega)).mono ?_; rintro e w' ⟨rfl, rfl⟩; rw [HW.out])
        go_round
        case rel => exact ⟨j + 1, by omega, by omega, by go_num, by go_num⟩
        case measure => simp [intOf]; omega
      · have b1 : (cd s j == 9) = false := by rw [e]; rfl
        have b2 : (cd s j == 32) = true := by rw [e]; rfl
        clear e
        go_wp2_with (go_at_call 156; refine (runeAt_any H.out _ (by omega)).mono ?_; rintro e w' ⟨rfl, rfl⟩; rw [HW.out])
        go_round
        case rel => exact ⟨j + 1, by omega, by omega, by go_num, by go_num⟩
        case measure => simp [intOf]; omega
      · have b1 : (cd s j == 9) = false := by rw [e]; rfl
        have b2 : (cd s j == 32) = false := by rw [e]; rfl
        have b3 : (cd s j == 10) = true := by rw [e]; rfl
        clear e
        go_wp2_with (go_at_call 156; refine (runeAt_any H.out _ (by omega)).mono ?_; rintro e w' ⟨rfl, rfl⟩; rw [HW.out])
        go_round
        case rel => exact ⟨j + 1, by omega, by omega, by go_num, by go_num⟩
        case measure => simp [intOf]; omega
      · have b1 : (cd s j == 9) = false := by rw [e]; rfl
        have b2 : (cd s j == 32) = false := by rw [e]; rfl
        have b3 : (cd s j == 10) = false := by rw [e]; rfl
        have b4 : (cd s j == 13) = true := by rw [e]; rfl
        clear e
        go_wp2_with (go_at_call 156; refine (runeAt_any H.out _ (by omega)).mono ?_; rintro e w' ⟨rfl, rfl⟩; rw [HW.out])
        go_round
        case rel => exact ⟨j + 1, by omega, by omega, by go_num, by go_num⟩
        case measure => simp [intOf]; omega
      · have b1 : (cd s j == 9) = false := by rw [e]; rfl
        have b2 : (cd s j == 32) = false := by rw [e]; rfl
        have b3 : (cd s j == 10) = false := by rw [e]; rfl
        have b4 : (cd s j == 13) = false := by rw [e]; rfl
        have b5 : (cd s j == 44) = true := by rw [e]; rfl
        clear e
        go_wp2_with (go_at_call 156; refine (runeAt_any H.out _ (by omega)).mono ?_; rintro e w' ⟨rfl, rfl⟩; rw [HW.out])
        go_round
        case rel => exact ⟨j + 1, by omega, by omega, by go_num, by go_num⟩
        case measure => simp [intOf]; omega
    · by_cases hin : j < s.size
      · obtain ⟨e0, e1, e2, e3, e4, e5, e6⟩ := HE.out (by omega)
        obtain rfl : q = j := by omega
        have b0 : (cd s q == 65279) = false := beq_eq_false_iff_ne.2 e0
        have b1 : (cd s q == 9) = false := beq_eq_false_iff_ne.2 e1
        have b2 : (cd s q == 32) = false := beq_eq_false_iff_ne.2 e2
        have b3 : (cd s q == 10) = false := beq_eq_false_iff_ne.2 e3
        have b4 : (cd s q == 13) = false := beq_eq_false_iff_ne.2 e4
        have b5 : (cd s q == 44) = false := beq_eq_false_iff_ne.2 e5
        have b6 : (cd s q == 35) = false := beq_eq_false_iff_ne.2 e6
        clear e0 e1 e2 e3 e4 e5 e6
        go_wp2_with (go_at_call 156; refine (runeAt_any H.out _ (by omega)).mono ?_; rintro e w' ⟨rfl, rfl⟩)
        go_ret2
        exact ⟨rfl, rfl⟩
      · obtain rfl : q = j := by omega
        go_wp2_with fail
        go_ret2
        exact ⟨rfl, rfl⟩
end Go.Proofs.YtbjfahhfcdnkaaaGreatDoor
