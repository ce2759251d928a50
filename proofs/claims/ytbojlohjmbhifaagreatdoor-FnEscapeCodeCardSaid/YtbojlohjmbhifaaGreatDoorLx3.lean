/- What 'readDigits' and 'readNumber' return of a number. -/
import Derived.Test.YtbojlohjmbhifaaGreatDoorLx2
import Derived.Deep.DeepCutAuto
import Derived.Deep.CutBlock
namespace Go.Proofs.YtbojlohjmbhifaaGreatDoor
open Go.RowKit Go.Proofs.YtbojlohjmbhifaaGreatDoorW.PrintWords Go.Proofs.YtbojlohjmbhifaaGreatDoorW.PrintMore

theorem wd_1 {s : ByteArray} {j e : Nat} (h : j < e) (he : e ≤ s.size) : wd s j = 1 := wd_in (by omega)

def digit (c : Int) : Prop := 48 ≤ c ∧ c ≤ 57
def noDigit (c : Int) : Prop := c < 48 ∨ 57 < c

set_option maxHeartbeats 1000000 in
set_option maxRecDepth 100000 in
theorem readDigits_any {w : World} {sb b cap : Nat} {s : ByteArray} (h : Src w sb b cap s) (x : Int) (p e : Nat) (hx : x = p) (hpe : p < e) (he : e ≤ s.size) (hn : ∀ j : Nat, p ≤ j → j < e → digit (cd s j)) (hend : noDigit (cd s e)) :
    Calls Tryz.prog 36 #[.pointer (some ⟨sb, 0, none⟩), .int .i64 x, .int .i32 (cd s x), .int .i64 (wd s x)] w fun r w' => r = .returned (.tuple #[.int .i64 e, .nilIface]) ∧ w = w' := by
  subst hx
  have hs := h.size
  have hlt := h.lts
  have hhd := h.head
  have H := Lib.hid h
  have HN := Lib.hid hn
  have HE := Lib.hid hend
  have f0 := hn p (Nat.le_refl _) hpe
  obtain ⟨f1, f2⟩ := f0
  clear h hn hend
  go_enter Tryz.func36, Tryz.ntmps36
  go_wp2_with fail
  go_loop [3, 11, 12] (fun x y z => ∃ j : Nat, p ≤ j ∧ j ≤ e ∧ x = .int .i64 (wd s j) ∧ y = .int .i64 j ∧ z = .int .i32 (cd s j)) (fun _ y _ => e - (intOf y).toNat)
  case atStart => exact ⟨p, by omega, by omega, rfl, rfl, rfl⟩
  case round =>
    obtain ⟨j, hj1, hj2, rfl, rfl, rfl⟩ := hrel
    clear f1 f2
    by_cases hlt2 : j < e
    · obtain ⟨g1, g2⟩ := HN.out j hj1 hlt2
      have hw := Lib.hid (wd_1 hlt2 he)
      rw [hw.out]
      go_wp2_with (go_at_call 27; refine (runeAt_any H.out _ (by omega)).mono ?_; rintro r w' ⟨rfl, rfl⟩)
      go_round
      case rel => exact ⟨j + 1, by omega, by omega, by go_num, by go_num, by go_num⟩
      case measure => simp [intOf]; omega
    · obtain rfl : e = j := by omega
      rcases HE.out with g1 | g1
      all_goals
        go_wp2_with fail
        go_ret2
        exact ⟨rfl, rfl⟩

/-- Digits from a place on up to another one. -/
def digitsTo (s : ByteArray) (p e : Nat) : Prop := p < e ∧ (∀ j : Nat, p ≤ j → j < e → digit (cd s j)) ∧ noDigit (cd s e)

/-- A number stands from p to e: its whole part from a to m, its part behind the point up to f, its exponent up to e. -/
structure Num (s : ByteArray) (p a m f e : Nat) (t1 t2 : Bool) : Prop where
  minus : ((cd s p == 45) = true ∧ a = p + 1) ∨ ((cd s p == 45) = false ∧ a = p)
  whole : ((cd s a == 48) = true ∧ m = a + 1 ∧ noDigit (cd s m)) ∨ ((cd s a == 48) = false ∧ digitsTo s a m)
  frac : ((cd s m == 46) = false ∧ f = m ∧ t1 = false) ∨ ((cd s m == 46) = true ∧ digitsTo s (m + 1) f ∧ t1 = true)
  power : ((cd s f == 69) = false ∧ (cd s f == 101) = false ∧ e = f ∧ t2 = false) ∨ ((((cd s f == 69) = true ∨ (cd s f == 69) = false ∧ (cd s f == 101) = true)) ∧ t2 = true ∧
    (((cd s (f + 1 : Nat) == 43) = true ∧ digitsTo s (f + 2) e) ∨ ((cd s (f + 1 : Nat) == 43) = false ∧ (cd s (f + 1 : Nat) == 45) = true ∧ digitsTo s (f + 2) e) ∨ ((cd s (f + 1 : Nat) == 43) = false ∧ (cd s (f + 1 : Nat) == 45) = false ∧ digitsTo s (f + 1) e)))
  size : e ≤ s.size
  ahead : p < m ∧ m ≤ f ∧ f ≤ e

set_option maxHeartbeats 2000000 in
set_option maxRecDepth 100000 in
theorem readNumber_any {w : World} {sb b cap : Nat} {s : ByteArray} (h : Src w sb b cap s) (p a m f e : Nat) (t1 t2 : Bool) (hn : Num s p a m f e t1 t2) :
    Calls Tryz.prog 30 #[.pointer (some ⟨sb, 0, none⟩), .int .i64 (p : Int), .int .i32 (cd s p), .int .i64 (wd s p)] w fun r w' =>
      r = .returned (.tuple #[.agg #[.int .i64 (if t1 || t2 then 17 else 16), .int .i64 p, .int .i64 e, .string (s.extract p e)], .nilIface]) ∧ Below w.heap.size w w' := by
  obtain ⟨hn1, hn2, hn3, hn4, hn5, hn6, hn7, hn8⟩ := hn
  have hs := h.size
  have hlt := h.lts
  have hhd := h.head
  have hcap := h.cap
  have hw0 : Hid (wd s p = 1) := Lib.hid (wd_1 (show p < e by omega) hn5)
  have H := Lib.hid h
  have H1 : Hid (∀ o, Src (w.alloc o) sb b cap s) := Lib.hid (fun o => H.out.grow ((Below.refl _ _).alloc (Nat.le_refl _) o))
  have N1 := Lib.hid hn1
  have N2 := Lib.hid hn2
  have N3 := Lib.hid hn3
  have N4 := Lib.hid hn4
  clear h hn1 hn2 hn3 hn4
  rw [hw0.out]
  go_enter Tryz.func30, Tryz.ntmps30
  go_upto_if 29 with (fail)
  go_cut [3, 10, 12] (fun x y z wx => x = .int .i64 (wd s a) ∧ y = .int .i32 (cd s a) ∧ z = .int .i64 (a : Int) ∧ wx = w.alloc (.cells #[.int .i64 0, .int .i64 0, .int .i64 0, .string ByteArray.empty] 50))
  case first =>
    rcases N1.out with ⟨b1, e1⟩ | ⟨b1, e1⟩
    · subst e1
      go_wp2_with (go_at_call 27; refine (runeAt_any (H1.out _) _ (by omega)).mono ?_; rintro r w' ⟨rfl, rfl⟩)
      go_meet
      case rel => exact ⟨by go_num, by go_num, by go_num, rfl⟩
    · subst e1
      go_wp2_with fail
      go_meet
      case rel => exact ⟨by rw [hw0.out], rfl, rfl, rfl⟩
  case rest =>
    obtain ⟨rfl, rfl, rfl, rfl⟩ := hcut
    have ham : a < m := by
      rcases N2.out with ⟨_, e1, _⟩ | ⟨_, e1, _⟩ <;> omega
    have hwa : Hid (wd s a = 1) := Lib.hid (wd_1 ham (by omega))
    go_upto_if 40 with (fail)
    go_cut [3, 10, 12] (fun x y z wx => x = .int .i64 (wd s m) ∧ y = .int .i32 (cd s m) ∧ z = .int .i64 (m : Int) ∧ wx = w.alloc (.cells #[.int .i64 0, .int .i64 0, .int .i64 0, .string ByteArray.empty] 50))
    case first =>
      rcases N2.out with ⟨b1, e1, e2⟩ | ⟨b1, e1, e2, e3⟩
      · subst e1
        rw [hwa.out]
        rw [show ((a + 1 : Nat) : Int) = (a : Int) + 1 by omega] at e2
        have E2 := Lib.hid e2
        clear e2
        rcases E2.out with e2 | e2
        all_goals
          go_wp2_with (go_at_call 27; refine (runeAt_any (H1.out _) _ (by omega)).mono ?_; rintro r w' ⟨rfl, rfl⟩)
          go_meet
          case rel => exact ⟨by go_num, by go_num, by go_num, rfl⟩
      · have E2 := Lib.hid e2
        clear e2
        have E3 := Lib.hid e3
        clear e3
        go_wp2_with (first | (go_at_call 27; refine (runeAt_any (H1.out _) _ (by omega)).mono ?_; rintro r w' ⟨rfl, rfl⟩) | (go_at_call 36; refine (readDigits_any (H1.out _) _ a m rfl e1 (by omega) E2.out E3.out).mono ?_; rintro r w' ⟨rfl, rfl⟩))
        go_meet
        case rel => exact ⟨by go_num, by go_num, by go_num, rfl⟩
    case rest =>
      obtain ⟨rfl, rfl, rfl, rfl⟩ := hcut
      clear hwa
      go_upto_if 82 with (fail)
      go_cut [3, 10, 12, 13] (fun x y z t wx => x = .int .i64 (wd s f) ∧ y = .int .i32 (cd s f) ∧ z = .int .i64 (f : Int) ∧ t = .bool t1 ∧ wx = w.alloc (.cells #[.int .i64 0, .int .i64 0, .int .i64 0, .string ByteArray.empty] 50))
      case first =>
        rcases N3.out with ⟨b1, e1, e2⟩ | ⟨b1, ⟨e1, e2, e3⟩, e4⟩
        · subst e1 e2
          go_wp2_with fail
          go_meet
          case rel => exact ⟨rfl, rfl, rfl, rfl, rfl⟩
        · subst e4
          have hwm : Hid (wd s m = 1) := Lib.hid (wd_1 (show m < f by omega) (by omega))
          rw [hwm.out]
          have E2 := Lib.hid e2
          clear e2
          have E3 := Lib.hid e3
          clear e3
          go_wp2_with (first | (go_at_call 36; refine (readDigits_any (H1.out _) _ (m + 1) f (by omega) e1 (by omega) E2.out E3.out).mono ?_; rintro r w' ⟨rfl, rfl⟩) | (go_at_call 27; refine (runeAt_any (H1.out _) _ (by omega)).mono ?_; rintro r w' ⟨rfl, rfl⟩))
          go_meet
          case rel => exact ⟨by go_num, by go_num, by go_num, rfl, rfl⟩
      case rest =>
        obtain ⟨rfl, rfl, rfl, rfl, rfl⟩ := hcut
        go_upto_region 28 with (fail)
        go_cut [116] (fun x wx => x = .bool t2 ∧ wx = w.alloc (.cells #[.int .i64 0, .int .i64 0, .int .i64 0, .string ByteArray.empty] 50))
        case first =>
          rcases N4.out with ⟨b1, b2, e1, e2⟩ | ⟨b1 | ⟨b1, b2⟩, e2, b3⟩
          · subst e1 e2
            go_wp2_with fail
            go_meet
            case rel => exact ⟨rfl, rfl⟩
          · subst e2
            clear b3
            go_wp2_with fail
            go_meet
            case rel => exact ⟨rfl, rfl⟩
          · subst e2
            clear b3
            go_wp2_with fail
            go_meet
            case rel => exact ⟨rfl, rfl⟩
        case rest =>
          obtain ⟨rfl, rfl⟩ := hcut
          go_upto_if 116 with (fail)
          go_cut [12, 13] (fun z t wx => z = .int .i64 (e : Int) ∧ t = .bool (t1 || t2) ∧ wx = w.alloc (.cells #[.int .i64 0, .int .i64 0, .int .i64 0, .string ByteArray.empty] 50))
          case first =>
            rcases N4.out with ⟨b1, b2, e1, e2⟩ | ⟨b1, e2, b3⟩
            · subst e1 e2
              go_wp2_with fail
              go_meet
              case rel => exact ⟨rfl, by simp, rfl⟩
            · have hwf : Hid (wd s f = 1) := Lib.hid (wd_1 (show f < e by rcases b3 with ⟨_, b3, _⟩ | ⟨_, _, b3, _⟩ | ⟨_, _, b3, _⟩ <;> omega) hn5)
              have hwf1 : Hid (wd s ((f : Int) + 1) = 1) := Lib.hid (wd_in (show (f : Int) + 1 < (s.size : Int) by rcases b3 with ⟨_, b3, _⟩ | ⟨_, _, b3, _⟩ | ⟨_, _, b3, _⟩ <;> omega))
              subst e2
              clear b1
              rw [hwf.out]
              rw [show ((f + 1 : Nat) : Int) = (f : Int) + 1 by omega] at b3
              rcases b3 with ⟨b3, e1, e2, e3⟩ | ⟨b3, b4, e1, e2, e3⟩ | ⟨b3, b4, e1, e2, e3⟩
              · have E2 := Lib.hid e2
                clear e2
                have E3 := Lib.hid e3
                clear e3
                go_wp2_with (first | (go_at_call 36; refine (readDigits_any (H1.out _) _ (f + 2) e (by omega) e1 (by omega) E2.out E3.out).mono ?_; rintro r w' ⟨rfl, rfl⟩) | (go_at_call 27; refine (runeAt_any (H1.out _) _ (by omega)).mono ?_; rintro r w' ⟨rfl, rfl⟩; rw [hwf1.out]) | (go_at_call 27; refine (runeAt_any (H1.out _) _ (by omega)).mono ?_; rintro r w' ⟨rfl, rfl⟩))
                go_meet
                case rel => exact ⟨by go_num, by simp, rfl⟩
              · have E2 := Lib.hid e2
                clear e2
                have E3 := Lib.hid e3
                clear e3
                go_wp2_with (first | (go_at_call 36; refine (readDigits_any (H1.out _) _ (f + 2) e (by omega) e1 (by omega) E2.out E3.out).mono ?_; rintro r w' ⟨rfl, rfl⟩) | (go_at_call 27; refine (runeAt_any (H1.out _) _ (by omega)).mono ?_; rintro r w' ⟨rfl, rfl⟩; rw [hwf1.out]) | (go_at_call 27; refine (runeAt_any (H1.out _) _ (by omega)).mono ?_; rintro r w' ⟨rfl, rfl⟩))
                go_meet
                case rel => exact ⟨by go_num, by simp, rfl⟩
              · have E2 := Lib.hid e2
                clear e2
                have E3 := Lib.hid e3
                clear e3
                go_wp2_with (first | (go_at_call 36; refine (readDigits_any (H1.out _) _ (f + 1) e (by omega) e1 (by omega) E2.out E3.out).mono ?_; rintro r w' ⟨rfl, rfl⟩) | (go_at_call 27; refine (runeAt_any (H1.out _) _ (by omega)).mono ?_; rintro r w' ⟨rfl, rfl⟩))
                go_meet
                case rel => exact ⟨by go_num, by simp, rfl⟩
          case rest =>
            obtain ⟨rfl, rfl, rfl⟩ := hcut
            have hcv := fun (o : Obj) (c : Nat) => piece (H1.out o) p e c (by omega) hn5
            have hcp : p < cap := by omega
            clear hw0
            clear N1 N2 N3 N4
            cases t1 <;> cases t2
            · go_wp2_with fail
              refine (makeToken_any _ _ _ _ _).mono ?_
              rintro r w' ⟨rfl, hb⟩
              obtain ⟨⟨c0, c1, c2, c3⟩, ⟨z0, z1, z2, z3⟩, hz, hB⟩ := kept4 hb
              clear hb
              go_wp2_with fail
              obtain ⟨q0, q1, q2, q3⟩ := set4 c0 c1 c2 c3 (.int .i64 16) (.int .i64 p) (.int .i64 e) (.string (s.extract p e))
              refine bodyPost_ret (v := .tuple #[.agg #[.int .i64 16, .int .i64 p, .int .i64 e, .string (s.extract p e)], .nilIface]) (by simp [results, Tryz.results30, go_sem, q0, q1, q2, q3]) rfl ⟨rfl, below_set4 hB (Nat.le_refl _) _ _ _ _⟩
            · go_wp2_with fail
              refine (makeToken_any _ _ _ _ _).mono ?_
              rintro r w' ⟨rfl, hb⟩
              obtain ⟨⟨c0, c1, c2, c3⟩, ⟨z0, z1, z2, z3⟩, hz, hB⟩ := kept4 hb
              clear hb
              go_wp2_with fail
              obtain ⟨q0, q1, q2, q3⟩ := set4 c0 c1 c2 c3 (.int .i64 17) (.int .i64 p) (.int .i64 e) (.string (s.extract p e))
              refine bodyPost_ret (v := .tuple #[.agg #[.int .i64 17, .int .i64 p, .int .i64 e, .string (s.extract p e)], .nilIface]) (by simp [results, Tryz.results30, go_sem, q0, q1, q2, q3]) rfl ⟨rfl, below_set4 hB (Nat.le_refl _) _ _ _ _⟩
            · go_wp2_with fail
              refine (makeToken_any _ _ _ _ _).mono ?_
              rintro r w' ⟨rfl, hb⟩
              obtain ⟨⟨c0, c1, c2, c3⟩, ⟨z0, z1, z2, z3⟩, hz, hB⟩ := kept4 hb
              clear hb
              go_wp2_with fail
              obtain ⟨q0, q1, q2, q3⟩ := set4 c0 c1 c2 c3 (.int .i64 17) (.int .i64 p) (.int .i64 e) (.string (s.extract p e))
              refine bodyPost_ret (v := .tuple #[.agg #[.int .i64 17, .int .i64 p, .int .i64 e, .string (s.extract p e)], .nilIface]) (by simp [results, Tryz.results30, go_sem, q0, q1, q2, q3]) rfl ⟨rfl, below_set4 hB (Nat.le_refl _) _ _ _ _⟩
            · go_wp2_with fail
              refine (makeToken_any _ _ _ _ _).mono ?_
              rintro r w' ⟨rfl, hb⟩
              obtain ⟨⟨c0, c1, c2, c3⟩, ⟨z0, z1, z2, z3⟩, hz, hB⟩ := kept4 hb
              clear hb
              go_wp2_with fail
              obtain ⟨q0, q1, q2, q3⟩ := set4 c0 c1 c2 c3 (.int .i64 17) (.int .i64 p) (.int .i64 e) (.string (s.extract p e))
              refine bodyPost_ret (v := .tuple #[.agg #[.int .i64 17, .int .i64 p, .int .i64 e, .string (s.extract p e)], .nilIface]) (by simp [results, Tryz.results30, go_sem, q0, q1, q2, q3]) rfl ⟨rfl, below_set4 hB (Nat.le_refl _) _ _ _ _⟩
end Go.Proofs.YtbojlohjmbhifaaGreatDoor
