/- The law FnWhereBack, walked: where the place is looked at. -/
import Derived.Test.YtbojlohjmbhifaaBack
namespace Go.Proofs.Ytbojlohjmbhifaa
open Go.RowKit Go.Proofs.YtbojlohjmbhifaaW.PrintWords Go.Proofs.YtbojlohjmbhifaaW.PrintMore
open PFnWhereBack (laws_ascii9.f laws_ascii9.l0 laws_ascii9.calls)

theorem cnt_bd (l : List Int) : ∀ (e i : Nat) (n f : Int), n ≤ (cnt l e i n f).1 ∧ (cnt l e i n f).1 ≤ n + e ∧ (0 ≤ f → 0 ≤ (cnt l e i n f).2) ∧ (f ≤ i → (cnt l e i n f).2 ≤ i + e)
  | 0, i, n, f => by simp [cnt]
  | e + 1, i, n, f => by
    unfold cnt
    split
    · have := cnt_bd l e (i + 1) (n + 1) (i + 1); omega
    · have := cnt_bd l e (i + 1) n f; omega

theorem cnt_step (l : List Int) (p i : Nat) (h : i < p) (n f : Int) : cnt l (p - i) i n f = if endAt l i = true then cnt l (p - (i + 1)) (i + 1) (n + 1) (i + 1) else cnt l (p - (i + 1)) (i + 1) n f := by
  rw [show p - i = (p - (i + 1)) + 1 by omega]
  rfl

theorem at_byte (s : ByteArray) (i : Nat) (hi : i < s.size) : rd (bytesOf s) i = ((s[i]'hi).toNat : Int) := by
  rw [rd_bytesOf, ← bt_at s i (by simpa using hi)]
  rfl

theorem end_yes (s : ByteArray) (i : Nat) (hi : i < s.size) (h : (((s[i]'hi).toNat : Int) == 10) = true) : endAt (bytesOf s) i = true := by
  unfold endAt
  rw [at_byte s i hi]
  simp only [beq_iff_eq] at h
  simp [h]
theorem end_no (s : ByteArray) (i : Nat) (hi : i < s.size) (h : (((s[i]'hi).toNat : Int) == 10) = false) (h2 : (((s[i]'hi).toNat : Int) == 13) = false) : endAt (bytesOf s) i = false := by
  unfold endAt
  rw [at_byte s i hi]
  simp only [beq_eq_false_iff_ne] at h h2
  simp [h, h2]
theorem end_last (s : ByteArray) (i : Nat) (hi : i < s.size) (h2 : (((s[i]'hi).toNat : Int) == 13) = true) (h3 : i + 1 = s.size) : endAt (bytesOf s) i = true := by
  unfold endAt
  rw [at_byte s i hi, bytesOf_length]
  simp only [beq_iff_eq] at h2
  simp [h2, h3]
theorem end_cr (s : ByteArray) (i : Nat) (hi : i < s.size) (h2 : (((s[i]'hi).toNat : Int) == 13) = true) (h3 : i + 1 < s.size) (h4 : (((s[i + 1]'h3).toNat : Int) != 10) = true) : endAt (bytesOf s) i = true := by
  have e := at_byte s (i + 1) h3
  rw [Int.natCast_add] at e
  unfold endAt
  rw [at_byte s i hi, bytesOf_length]
  simp only [beq_iff_eq] at h2
  simp only [bne_iff_ne] at h4
  rw [show ((1 : Nat) : Int) = 1 from rfl] at e
  simp [h2, e, h4]
theorem end_crlf (s : ByteArray) (i : Nat) (hi : i < s.size) (h : (((s[i]'hi).toNat : Int) == 10) = false) (h3 : i + 1 < s.size) (h4 : (((s[i + 1]'h3).toNat : Int) != 10) = false) : endAt (bytesOf s) i = false := by
  have e := at_byte s (i + 1) h3
  rw [Int.natCast_add] at e
  unfold endAt
  rw [at_byte s i hi, bytesOf_length]
  simp only [beq_eq_false_iff_ne] at h
  simp only [bne_eq_false_iff_eq] at h4
  rw [show ((1 : Nat) : Int) = 1 from rfl] at e
  simp [h, e, h4]
  omega

set_option maxHeartbeats 1000000 in
set_option maxRecDepth 100000 in
theorem mainNought (s : ByteArray) (p : Nat) (w : World) (h : (s.size : Int) ≤ 500) (h2 : p ≤ s.size) (k : Nat) (ha : laws_ascii9.f k s = some true) (N F : Int)
    (hsp : spot s p = (N, (p : Int) - F + 1)) (hcn : cnt (bytesOf s) p 0 1 0 = (N, F)) (c1 : 1 ≤ N) (c2 : N ≤ 1 + p) (c3 : 0 ≤ F) (c4 : F ≤ p) (hcase : p < 1) :
    Calls Try.prog 3 #[.string s, .int .i64 (p : Int)] w fun e w' => e = .returned (.bool true) ∧ Below w.heap.size w w' := by
  have HA := Lib.hid ha
  have HS := Lib.hid hsp
  have HC := Lib.hid hcn
  have d1 : decide (2147483647 < (s.size : Int)) = false := decide_eq_false (by omega)
  have d2 : decide (500 < (s.size : Int)) = false := decide_eq_false (by omega)
  have d3 : decide ((p : Int) < 0) = false := decide_eq_false (by omega)
  have d4 : decide ((s.size : Int) < (p : Int)) = false := decide_eq_false (by omega)
  clear ha hsp hcn
  go_enter Try.func3, Try.ntmps3
  go_wp2_with (go_at_call 4; refine (laws_ascii9.calls k s true _ HA.out).mono ?_; rintro e w' ⟨rfl, hd⟩)
  refine (where_any s p _ (by omega) (by omega) (by omega)).mono ?_
  rintro e w1 ⟨rfl, hB⟩
  rw [HS.out]
  have hB1 : Below w.heap.size w w1 := hd.below.trans (hB.mono hd.below.size)
  clear hB
  go_wp2_with fail
  go_loop [7, 8, 61] (fun x y z => ∃ (i : Nat) (n f : Int), i ≤ p ∧ z = .int .i64 i ∧ x = .int .i64 n ∧ y = .int .i64 f ∧ Hid (cnt (bytesOf s) (p - i) i n f = (N, F)) ∧ 1 ≤ n ∧ n ≤ 1 + i ∧ 0 ≤ f ∧ f ≤ i)
    (fun _ _ z => p - (intOf z).toNat)
  case atStart => exact ⟨0, 1, 0, Nat.zero_le _, rfl, rfl, rfl, HC, by omega, by omega, by omega, by omega⟩
  case round =>
    obtain ⟨i, n, f, hi, rfl, rfl, rfl, HCi, n1, n2, f1, f2⟩ := hrel
    have e0 : (n, f) = (N, F) := by have e := HCi.out; rw [show p - i = 0 by omega] at e; exact e
    obtain ⟨rfl, rfl⟩ := Prod.mk.inj e0
    clear HCi e0
    have g1 : (n == n) = true := beq_self_eq_true n
    go_wp2_with fail
    go_ret
    exact ⟨by simp, hB1⟩

set_option maxHeartbeats 1000000 in
set_option maxRecDepth 100000 in
theorem mainEnd (s : ByteArray) (p : Nat) (w : World) (h : (s.size : Int) ≤ 500) (h2 : p ≤ s.size) (k : Nat) (ha : laws_ascii9.f k s = some true) (N F : Int)
    (hsp : spot s p = (N, (p : Int) - F + 1)) (hcn : cnt (bytesOf s) p 0 1 0 = (N, F)) (c1 : 1 ≤ N) (c2 : N ≤ 1 + p) (c3 : 0 ≤ F) (c4 : F ≤ p) (_hc : 0 < p) (hc2 : s.size ≤ p) :
    Calls Try.prog 3 #[.string s, .int .i64 (p : Int)] w fun e w' => e = .returned (.bool true) ∧ Below w.heap.size w w' := by
  have HA := Lib.hid ha
  have HS := Lib.hid hsp
  have HC := Lib.hid hcn
  have d1 : decide (2147483647 < (s.size : Int)) = false := decide_eq_false (by omega)
  have d2 : decide (500 < (s.size : Int)) = false := decide_eq_false (by omega)
  have d3 : decide ((p : Int) < 0) = false := decide_eq_false (by omega)
  have d4 : decide ((s.size : Int) < (p : Int)) = false := decide_eq_false (by omega)
  clear ha hsp hcn
  go_enter Try.func3, Try.ntmps3
  go_wp2_with (go_at_call 4; refine (laws_ascii9.calls k s true _ HA.out).mono ?_; rintro e w' ⟨rfl, hd⟩)
  refine (where_any s p _ (by omega) (by omega) (by omega)).mono ?_
  rintro e w1 ⟨rfl, hB⟩
  rw [HS.out]
  have hB1 : Below w.heap.size w w1 := hd.below.trans (hB.mono hd.below.size)
  clear hB
  go_wp2_with fail
  go_loop [7, 8, 61] (fun x y z => ∃ (i : Nat) (n f : Int), i ≤ p ∧ z = .int .i64 i ∧ x = .int .i64 n ∧ y = .int .i64 f ∧ Hid (cnt (bytesOf s) (p - i) i n f = (N, F)) ∧ 1 ≤ n ∧ n ≤ 1 + i ∧ 0 ≤ f ∧ f ≤ i)
    (fun _ _ z => p - (intOf z).toNat)
  case atStart => exact ⟨0, 1, 0, Nat.zero_le _, rfl, rfl, rfl, HC, by omega, by omega, by omega, by omega⟩
  case round =>
    obtain ⟨i, n, f, hi, rfl, rfl, rfl, HCi, n1, n2, f1, f2⟩ := hrel
    by_cases hlt : i < p
    · have hs1 : i < s.size := by omega
      cases b1 : ((s[i]'hs1).toNat : Int) == 10
      · cases b2 : ((s[i]'hs1).toNat : Int) == 13
        · have he := Lib.hid (end_no s i hs1 b1 b2)
          go_wp2_with fail
          go_round
          case rel => exact ⟨i + 1, n, f, by omega, by go_num, rfl, rfl, (by have e := HCi.out; rw [cnt_step _ _ _ hlt, he.out, if_neg (by simp)] at e; exact Lib.hid e), by omega, by omega, by omega, by omega⟩
          case measure => simp [intOf]; omega
        · by_cases hl : i + 1 < s.size
          · have b3 : (((i : Int) + 1) == (s.size : Int)) = false := beq_eq_false_iff_ne.2 (by omega)
            cases b4 : ((s[i + 1]'hl).toNat : Int) != 10
            · have he := Lib.hid (end_crlf s i hs1 b1 hl b4)
              go_wp2_with fail
              go_round
              case rel => exact ⟨i + 1, n, f, by omega, by go_num, rfl, rfl, (by have e := HCi.out; rw [cnt_step _ _ _ hlt, he.out, if_neg (by simp)] at e; exact Lib.hid e), by omega, by omega, by omega, by omega⟩
              case measure => simp [intOf]; omega
            · have he := Lib.hid (end_cr s i hs1 b2 hl b4)
              go_wp2_with fail
              go_round
              case rel => exact ⟨i + 1, n + 1, (i : Int) + 1, by omega, by go_num, rfl, rfl, (by have e := HCi.out; rw [cnt_step _ _ _ hlt, he.out, if_pos rfl] at e; exact Lib.hid e), by omega, by omega, by omega, by omega⟩
              case measure => simp [intOf]; omega
          · have b3 : (((i : Int) + 1) == (s.size : Int)) = true := beq_iff_eq.2 (by omega)
            have he := Lib.hid (end_last s i hs1 b2 (by omega))
            go_wp2_with fail
            go_round
            case rel => exact ⟨i + 1, n + 1, (i : Int) + 1, by omega, by go_num, rfl, rfl, (by have e := HCi.out; rw [cnt_step _ _ _ hlt, he.out, if_pos rfl] at e; exact Lib.hid e), by omega, by omega, by omega, by omega⟩
            case measure => simp [intOf]; omega
      · have he := Lib.hid (end_yes s i hs1 b1)
        go_wp2_with fail
        go_round
        case rel => exact ⟨i + 1, n + 1, (i : Int) + 1, by omega, by go_num, rfl, rfl, (by have e := HCi.out; rw [cnt_step _ _ _ hlt, he.out, if_pos rfl] at e; exact Lib.hid e), by omega, by omega, by omega, by omega⟩
        case measure => simp [intOf]; omega
    · have e0 : (n, f) = (N, F) := by have e := HCi.out; rw [show p - i = 0 by omega] at e; exact e
      obtain ⟨rfl, rfl⟩ := Prod.mk.inj e0
      clear HCi e0
      have g1 : (n == n) = true := beq_self_eq_true n
      go_wp2_with fail
      go_ret
      exact ⟨by simp, hB1⟩

set_option maxHeartbeats 1000000 in
set_option maxRecDepth 100000 in
theorem mainOther (s : ByteArray) (p : Nat) (w : World) (h : (s.size : Int) ≤ 500) (h2 : p ≤ s.size) (k : Nat) (ha : laws_ascii9.f k s = some true) (N F : Int)
    (hsp : spot s p = (N, (p : Int) - F + 1)) (hcn : cnt (bytesOf s) p 0 1 0 = (N, F)) (c1 : 1 ≤ N) (c2 : N ≤ 1 + p) (c3 : 0 ≤ F) (c4 : F ≤ p) (_hc : 0 < p) (hc2 : p < s.size) (hc3 : (((s[p - 1]'(by omega)).toNat : Int) == 13) = false) :
    Calls Try.prog 3 #[.string s, .int .i64 (p : Int)] w fun e w' => e = .returned (.bool true) ∧ Below w.heap.size w w' := by
  have HA := Lib.hid ha
  have HS := Lib.hid hsp
  have HC := Lib.hid hcn
  have d1 : decide (2147483647 < (s.size : Int)) = false := decide_eq_false (by omega)
  have d2 : decide (500 < (s.size : Int)) = false := decide_eq_false (by omega)
  have d3 : decide ((p : Int) < 0) = false := decide_eq_false (by omega)
  have d4 : decide ((s.size : Int) < (p : Int)) = false := decide_eq_false (by omega)
  clear ha hsp hcn
  go_enter Try.func3, Try.ntmps3
  go_wp2_with (go_at_call 4; refine (laws_ascii9.calls k s true _ HA.out).mono ?_; rintro e w' ⟨rfl, hd⟩)
  refine (where_any s p _ (by omega) (by omega) (by omega)).mono ?_
  rintro e w1 ⟨rfl, hB⟩
  rw [HS.out]
  have hB1 : Below w.heap.size w w1 := hd.below.trans (hB.mono hd.below.size)
  clear hB
  go_wp2_with fail
  go_loop [7, 8, 61] (fun x y z => ∃ (i : Nat) (n f : Int), i ≤ p ∧ z = .int .i64 i ∧ x = .int .i64 n ∧ y = .int .i64 f ∧ Hid (cnt (bytesOf s) (p - i) i n f = (N, F)) ∧ 1 ≤ n ∧ n ≤ 1 + i ∧ 0 ≤ f ∧ f ≤ i)
    (fun _ _ z => p - (intOf z).toNat)
  case atStart => exact ⟨0, 1, 0, Nat.zero_le _, rfl, rfl, rfl, HC, by omega, by omega, by omega, by omega⟩
  case round =>
    obtain ⟨i, n, f, hi, rfl, rfl, rfl, HCi, n1, n2, f1, f2⟩ := hrel
    by_cases hlt : i < p
    · have hs1 : i < s.size := by omega
      cases b1 : ((s[i]'hs1).toNat : Int) == 10
      · cases b2 : ((s[i]'hs1).toNat : Int) == 13
        · have he := Lib.hid (end_no s i hs1 b1 b2)
          go_wp2_with fail
          go_round
          case rel => exact ⟨i + 1, n, f, by omega, by go_num, rfl, rfl, (by have e := HCi.out; rw [cnt_step _ _ _ hlt, he.out, if_neg (by simp)] at e; exact Lib.hid e), by omega, by omega, by omega, by omega⟩
          case measure => simp [intOf]; omega
        · by_cases hl : i + 1 < s.size
          · have b3 : (((i : Int) + 1) == (s.size : Int)) = false := beq_eq_false_iff_ne.2 (by omega)
            cases b4 : ((s[i + 1]'hl).toNat : Int) != 10
            · have he := Lib.hid (end_crlf s i hs1 b1 hl b4)
              go_wp2_with fail
              go_round
              case rel => exact ⟨i + 1, n, f, by omega, by go_num, rfl, rfl, (by have e := HCi.out; rw [cnt_step _ _ _ hlt, he.out, if_neg (by simp)] at e; exact Lib.hid e), by omega, by omega, by omega, by omega⟩
              case measure => simp [intOf]; omega
            · have he := Lib.hid (end_cr s i hs1 b2 hl b4)
              go_wp2_with fail
              go_round
              case rel => exact ⟨i + 1, n + 1, (i : Int) + 1, by omega, by go_num, rfl, rfl, (by have e := HCi.out; rw [cnt_step _ _ _ hlt, he.out, if_pos rfl] at e; exact Lib.hid e), by omega, by omega, by omega, by omega⟩
              case measure => simp [intOf]; omega
          · have b3 : (((i : Int) + 1) == (s.size : Int)) = true := beq_iff_eq.2 (by omega)
            have he := Lib.hid (end_last s i hs1 b2 (by omega))
            go_wp2_with fail
            go_round
            case rel => exact ⟨i + 1, n + 1, (i : Int) + 1, by omega, by go_num, rfl, rfl, (by have e := HCi.out; rw [cnt_step _ _ _ hlt, he.out, if_pos rfl] at e; exact Lib.hid e), by omega, by omega, by omega, by omega⟩
            case measure => simp [intOf]; omega
      · have he := Lib.hid (end_yes s i hs1 b1)
        go_wp2_with fail
        go_round
        case rel => exact ⟨i + 1, n + 1, (i : Int) + 1, by omega, by go_num, rfl, rfl, (by have e := HCi.out; rw [cnt_step _ _ _ hlt, he.out, if_pos rfl] at e; exact Lib.hid e), by omega, by omega, by omega, by omega⟩
        case measure => simp [intOf]; omega
    · have e0 : (n, f) = (N, F) := by have e := HCi.out; rw [show p - i = 0 by omega] at e; exact e
      obtain ⟨rfl, rfl⟩ := Prod.mk.inj e0
      clear HCi e0
      have g1 : (n == n) = true := beq_self_eq_true n
      go_wp2_with fail
      go_ret
      exact ⟨by simp, hB1⟩

set_option maxHeartbeats 1000000 in
set_option maxRecDepth 100000 in
theorem mainLone (s : ByteArray) (p : Nat) (w : World) (h : (s.size : Int) ≤ 500) (h2 : p ≤ s.size) (k : Nat) (ha : laws_ascii9.f k s = some true) (N F : Int)
    (hsp : spot s p = (N, (p : Int) - F + 1)) (hcn : cnt (bytesOf s) p 0 1 0 = (N, F)) (c1 : 1 ≤ N) (c2 : N ≤ 1 + p) (c3 : 0 ≤ F) (c4 : F ≤ p) (_hc : 0 < p) (hc2 : p < s.size) (hc3 : (((s[p - 1]'(by omega)).toNat : Int) == 13) = true) (hc4 : (((s[p]'hc2).toNat : Int) == 10) = false) :
    Calls Try.prog 3 #[.string s, .int .i64 (p : Int)] w fun e w' => e = .returned (.bool true) ∧ Below w.heap.size w w' := by
  have HA := Lib.hid ha
  have HS := Lib.hid hsp
  have HC := Lib.hid hcn
  have d1 : decide (2147483647 < (s.size : Int)) = false := decide_eq_false (by omega)
  have d2 : decide (500 < (s.size : Int)) = false := decide_eq_false (by omega)
  have d3 : decide ((p : Int) < 0) = false := decide_eq_false (by omega)
  have d4 : decide ((s.size : Int) < (p : Int)) = false := decide_eq_false (by omega)
  clear ha hsp hcn
  go_enter Try.func3, Try.ntmps3
  go_wp2_with (go_at_call 4; refine (laws_ascii9.calls k s true _ HA.out).mono ?_; rintro e w' ⟨rfl, hd⟩)
  refine (where_any s p _ (by omega) (by omega) (by omega)).mono ?_
  rintro e w1 ⟨rfl, hB⟩
  rw [HS.out]
  have hB1 : Below w.heap.size w w1 := hd.below.trans (hB.mono hd.below.size)
  clear hB
  go_wp2_with fail
  go_loop [7, 8, 61] (fun x y z => ∃ (i : Nat) (n f : Int), i ≤ p ∧ z = .int .i64 i ∧ x = .int .i64 n ∧ y = .int .i64 f ∧ Hid (cnt (bytesOf s) (p - i) i n f = (N, F)) ∧ 1 ≤ n ∧ n ≤ 1 + i ∧ 0 ≤ f ∧ f ≤ i)
    (fun _ _ z => p - (intOf z).toNat)
  case atStart => exact ⟨0, 1, 0, Nat.zero_le _, rfl, rfl, rfl, HC, by omega, by omega, by omega, by omega⟩
  case round =>
    obtain ⟨i, n, f, hi, rfl, rfl, rfl, HCi, n1, n2, f1, f2⟩ := hrel
    by_cases hlt : i < p
    · have hs1 : i < s.size := by omega
      cases b1 : ((s[i]'hs1).toNat : Int) == 10
      · cases b2 : ((s[i]'hs1).toNat : Int) == 13
        · have he := Lib.hid (end_no s i hs1 b1 b2)
          go_wp2_with fail
          go_round
          case rel => exact ⟨i + 1, n, f, by omega, by go_num, rfl, rfl, (by have e := HCi.out; rw [cnt_step _ _ _ hlt, he.out, if_neg (by simp)] at e; exact Lib.hid e), by omega, by omega, by omega, by omega⟩
          case measure => simp [intOf]; omega
        · by_cases hl : i + 1 < s.size
          · have b3 : (((i : Int) + 1) == (s.size : Int)) = false := beq_eq_false_iff_ne.2 (by omega)
            cases b4 : ((s[i + 1]'hl).toNat : Int) != 10
            · have he := Lib.hid (end_crlf s i hs1 b1 hl b4)
              go_wp2_with fail
              go_round
              case rel => exact ⟨i + 1, n, f, by omega, by go_num, rfl, rfl, (by have e := HCi.out; rw [cnt_step _ _ _ hlt, he.out, if_neg (by simp)] at e; exact Lib.hid e), by omega, by omega, by omega, by omega⟩
              case measure => simp [intOf]; omega
            · have he := Lib.hid (end_cr s i hs1 b2 hl b4)
              go_wp2_with fail
              go_round
              case rel => exact ⟨i + 1, n + 1, (i : Int) + 1, by omega, by go_num, rfl, rfl, (by have e := HCi.out; rw [cnt_step _ _ _ hlt, he.out, if_pos rfl] at e; exact Lib.hid e), by omega, by omega, by omega, by omega⟩
              case measure => simp [intOf]; omega
          · have b3 : (((i : Int) + 1) == (s.size : Int)) = true := beq_iff_eq.2 (by omega)
            have he := Lib.hid (end_last s i hs1 b2 (by omega))
            go_wp2_with fail
            go_round
            case rel => exact ⟨i + 1, n + 1, (i : Int) + 1, by omega, by go_num, rfl, rfl, (by have e := HCi.out; rw [cnt_step _ _ _ hlt, he.out, if_pos rfl] at e; exact Lib.hid e), by omega, by omega, by omega, by omega⟩
            case measure => simp [intOf]; omega
      · have he := Lib.hid (end_yes s i hs1 b1)
        go_wp2_with fail
        go_round
        case rel => exact ⟨i + 1, n + 1, (i : Int) + 1, by omega, by go_num, rfl, rfl, (by have e := HCi.out; rw [cnt_step _ _ _ hlt, he.out, if_pos rfl] at e; exact Lib.hid e), by omega, by omega, by omega, by omega⟩
        case measure => simp [intOf]; omega
    · have e0 : (n, f) = (N, F) := by have e := HCi.out; rw [show p - i = 0 by omega] at e; exact e
      obtain ⟨rfl, rfl⟩ := Prod.mk.inj e0
      clear HCi e0
      have g1 : (n == n) = true := beq_self_eq_true n
      go_wp2_with fail
      go_ret
      exact ⟨by simp, hB1⟩

end Go.Proofs.Ytbojlohjmbhifaa
