/- How a code point is written, and what the values of four digits make together. -/
import Derived.Laws.Cover4
import Derived.Laws.BitsLemmas
import Derived.Lib.RuneBytes
import Derived.Test.YtbojlohjmbhifaaGreatDoorSq
import Derived.Deep.RegionHeld3
import Derived.Deep.AppendLies
namespace Go.Proofs.YtbojlohjmbhifaaGreatDoor

/-- The value of a hexadecimal digit; below 0: it is none. -/
def hexv (c : Int) : Int := if 48 ≤ c ∧ c ≤ 57 then c - 48 else if 97 ≤ c ∧ c ≤ 102 then c - 87 else if 65 ≤ c ∧ c ≤ 70 then c - 55 else -1

theorem hexv_range (c : Int) : -1 ≤ hexv c ∧ hexv c ≤ 15 := by
  unfold hexv
  split
  · omega
  split
  · omega
  split <;> omega

theorem enc_small (r : Nat) (h : r < 55296 ∨ 57344 ≤ r) (h2 : r < 65536) : (Utf8.encode (r : Int)).data.toList = Lib.encodeRune r := by
  have v : Utf8.valid (r : Int) = true := by simp [Utf8.valid]; omega
  unfold Lib.encodeRune
  by_cases c1 : r < 128
  · rw [Lib.encodeRuneZ_one (by omega) (by omega)]
    simp [Utf8.encode, v, c1]
  by_cases c2 : r < 2048
  · have e1 : (192 + (r : Int) / 64).toNat = 192 + r / 64 := by omega
    have e2 : (128 + (r : Int) % 64).toNat = 128 + r % 64 := by omega
    rw [Lib.encodeRuneZ_two (by omega) (by omega)]
    simp [Utf8.encode, v, c1, c2, e1, e2]
  · have e1 : (224 + (r : Int) / 4096).toNat = 224 + r / 4096 := by omega
    have e2 : (128 + (r : Int) / 64 % 64).toNat = 128 + r / 64 % 64 := by omega
    have e3 : (128 + (r : Int) % 64).toNat = 128 + r % 64 := by omega
    rw [Lib.encodeRuneZ_three (by omega)]
    simp [Utf8.encode, v, c1, c2, h2, e1, e2, e3]

theorem runes_list (c : Int) (h0 : 0 ≤ c) (h : c < 55296 ∨ 57344 ≤ c) (h2 : c ≤ 65535) : (runesBytes [c]).data.toList = Lib.encodeRune c := by
  obtain ⟨r, rfl⟩ := Int.eq_ofNat_of_zero_le h0
  have h3 : r < 55296 ∨ 57344 ≤ r := by omega
  have h4 : r < 65536 := by omega
  have e : runesBytes [(r : Int)] = Utf8.encode (r : Int) := by
    show ByteArray.empty ++ Utf8.encode (r : Int) = _
    exact ByteArray.empty_append
  rw [e]
  exact enc_small r h3 h4

theorem runes_small (c : Int) : (runesBytes [c]).size ≤ 4 := by
  have := runesBytes_size_le [c]
  simpa using this

theorem i64_small (n : Int) (h0 : 0 ≤ n) (h1 : n < 2 ^ 40) : IntKind.i64.wrap n = n := by
  rw [IntKind.wrap_i64]
  omega

/-- 'x | y' where the bits lie apart. -/
theorem or_apart (i : Nat) (x y : Int) (hx0 : 0 ≤ x) (hx : x % 2 ^ i = 0) (hx1 : x < 2 ^ 40) (hy0 : 0 ≤ y) (hy : y < 2 ^ i) (hy1 : y < 2 ^ 40) : bits .or .i64 x y = x + y :=
  bits_join .i64 40 (by decide) i64_small i x y hx0 hx hx1 hy0 hy hy1

theorem or_below_l (x y : Int) (h0 : x < 0) (h1 : -1048576 ≤ x) : bits .or .i64 x y < 0 ∧ -1048576 ≤ bits .or .i64 x y := by
  have hX : (BitVec.ofInt 64 x).toNat = 18446744073709551616 - (-x).toNat := by
    rw [BitVec.toNat_ofInt]
    omega
  have e : (BitVec.ofInt 64 x ||| BitVec.ofInt 64 y) = ~~~(~~~(BitVec.ofInt 64 x) &&& ~~~(BitVec.ofInt 64 y)) := by
    rw [BitVec.not_and, BitVec.not_not, BitVec.not_not]
  have hn : (~~~(BitVec.ofInt 64 x)).toNat = (-x).toNat - 1 := by
    rw [BitVec.toNat_not, hX]
    omega
  have hle : (~~~(BitVec.ofInt 64 x) &&& ~~~(BitVec.ofInt 64 y)).toNat ≤ (-x).toNat - 1 := by
    rw [BitVec.toNat_and, hn]
    exact Nat.and_le_left
  have ht : (BitVec.ofInt 64 x ||| BitVec.ofInt 64 y).toNat = 18446744073709551615 - (~~~(BitVec.ofInt 64 x) &&& ~~~(BitVec.ofInt 64 y)).toNat := by
    rw [e, BitVec.toNat_not]
  show IntKind.i64.wrap ((BitVec.ofInt 64 x ||| BitVec.ofInt 64 y).toNat : Int) < 0 ∧ -1048576 ≤ IntKind.i64.wrap ((BitVec.ofInt 64 x ||| BitVec.ofInt 64 y).toNat : Int)
  rw [ht, IntKind.wrap_i64]
  omega

theorem or_comm (x y : Int) : bits .or .i64 x y = bits .or .i64 y x := by
  show IntKind.i64.wrap ((BitVec.ofInt 64 x ||| BitVec.ofInt 64 y).toNat : Int) = IntKind.i64.wrap ((BitVec.ofInt 64 y ||| BitVec.ofInt 64 x).toNat : Int)
  rw [BitVec.or_comm]

theorem or_below_r (x y : Int) (h0 : y < 0) (h1 : -1048576 ≤ y) : bits .or .i64 x y < 0 ∧ -1048576 ≤ bits .or .i64 x y := by
  rw [or_comm]
  exact or_below_l y x h0 h1

/-- What 'uniCharCode' reckons: of four digits a number, of less something below 0. -/
def code4 (a b c d : Int) : Int := bits .or .i64 (bits .or .i64 (bits .or .i64 (a * 4096) (b * 256)) (c * 16)) d

theorem code4_good (a b c d : Int) (ha : 0 ≤ a ∧ a ≤ 15) (hb : 0 ≤ b ∧ b ≤ 15) (hc : 0 ≤ c ∧ c ≤ 15) (hd : 0 ≤ d ∧ d ≤ 15) : code4 a b c d = a * 4096 + b * 256 + c * 16 + d := by
  unfold code4
  rw [or_apart 12 (a * 4096) (b * 256) (by omega) (by omega) (by omega) (by omega) (by omega) (by omega)]
  rw [or_apart 8 (a * 4096 + b * 256) (c * 16) (by omega) (by omega) (by omega) (by omega) (by omega) (by omega)]
  rw [or_apart 4 (a * 4096 + b * 256 + c * 16) d (by omega) (by omega) (by omega) (by omega) (by omega) (by omega)]

theorem code4_bad (a b c d : Int) (ha : -1 ≤ a ∧ a ≤ 15) (hb : -1 ≤ b ∧ b ≤ 15) (hc : -1 ≤ c ∧ c ≤ 15) (hd : -1 ≤ d ∧ d ≤ 15) (h : a = -1 ∨ b = -1 ∨ c = -1 ∨ d = -1) : code4 a b c d < 0 ∧ -1048576 ≤ code4 a b c d := by
  unfold code4
  by_cases h4 : d < 0
  · exact or_below_r _ _ h4 (by omega)
  by_cases h3 : c < 0
  · have h := or_below_r (bits .or .i64 (a * 4096) (b * 256)) (c * 16) (by omega) (by omega)
    exact or_below_l _ _ h.1 h.2
  by_cases h2 : b < 0
  · have h := or_below_r (a * 4096) (b * 256) (by omega) (by omega)
    have h' := or_below_l _ (c * 16) h.1 h.2
    exact or_below_l _ _ h'.1 h'.2
  · have h := or_below_l (a * 4096) (b * 256) (by omega) (by omega)
    have h' := or_below_l _ (c * 16) h.1 h.2
    exact or_below_l _ _ h'.1 h'.2
end Go.Proofs.YtbojlohjmbhifaaGreatDoor

/-! The reference's lexer at an escape by a code point. -/
namespace Go.Proofs.YtbojlohjmbhifaaGreatDoor
open Go.RowKit Go.Proofs.YtbojlohjmbhifaaGreatDoorW.PrintWords Go.Proofs.YtbojlohjmbhifaaGreatDoorW.PrintMore


set_option maxHeartbeats 1000000 in
set_option maxRecDepth 100000 in
theorem hex_any (c : Int) (h0 : 0 ≤ c) (h1 : c ≤ 255) (w : World) : Calls Tryz.prog 83 #[.int .u8 c] w fun r w' => r = .returned (.int .i64 (hexv c)) ∧ w = w' := by
  by_cases a1 : 48 ≤ c ∧ c ≤ 57
  · have hv : Hid (hexv c = c - 48) := Lib.hid (by unfold hexv; rw [if_pos a1])
    have e1 : decide (48 ≤ c) = true := decide_eq_true a1.1
    have e2 : decide (c ≤ 57) = true := decide_eq_true a1.2
    obtain ⟨a2, a3⟩ := a1
    go_enter Tryz.func83, Tryz.ntmps83
    go_wp2_with fail
    go_ret
    exact ⟨by rw [hv.out]; rfl, rfl⟩
  by_cases b1 : 97 ≤ c ∧ c ≤ 102
  · have hv : Hid (hexv c = c - 87) := Lib.hid (by unfold hexv; rw [if_neg a1, if_pos b1])
    have e1 : decide (48 ≤ c) = true := decide_eq_true (by omega)
    have e2 : decide (c ≤ 57) = false := decide_eq_false (by omega)
    have e3 : decide (97 ≤ c) = true := decide_eq_true b1.1
    have e4 : decide (c ≤ 102) = true := decide_eq_true b1.2
    obtain ⟨a2, a3⟩ := b1
    clear a1
    go_enter Tryz.func83, Tryz.ntmps83
    go_wp2_with fail
    go_ret
    exact ⟨by rw [hv.out]; simp; omega, rfl⟩
  by_cases c1 : 65 ≤ c ∧ c ≤ 70
  · have hv : Hid (hexv c = c - 55) := Lib.hid (by unfold hexv; rw [if_neg a1, if_neg b1, if_pos c1])
    have e1 : decide (48 ≤ c) = true := decide_eq_true (by omega)
    have e2 : decide (c ≤ 57) = false := decide_eq_false (by omega)
    have e3 : decide (97 ≤ c) = false := decide_eq_false (by omega)
    have e5 : decide (65 ≤ c) = true := decide_eq_true c1.1
    have e6 : decide (c ≤ 70) = true := decide_eq_true c1.2
    obtain ⟨a2, a3⟩ := c1
    clear a1 b1
    go_enter Tryz.func83, Tryz.ntmps83
    go_wp2_with fail
    go_ret
    exact ⟨by rw [hv.out]; simp; omega, rfl⟩
  · have hv : Hid (hexv c = -1) := Lib.hid (by unfold hexv; rw [if_neg a1, if_neg b1, if_neg c1])
    have d1 : (decide (48 ≤ c) = false) ∨ (decide (48 ≤ c) = true ∧ decide (c ≤ 57) = false) := by simp only [decide_eq_false_iff_not, decide_eq_true_eq]; omega
    have d2 : (decide (97 ≤ c) = false) ∨ (decide (97 ≤ c) = true ∧ decide (c ≤ 102) = false) := by simp only [decide_eq_false_iff_not, decide_eq_true_eq]; omega
    have d3 : (decide (65 ≤ c) = false) ∨ (decide (65 ≤ c) = true ∧ decide (c ≤ 70) = false) := by simp only [decide_eq_false_iff_not, decide_eq_true_eq]; omega
    clear a1 b1 c1
    rcases d1 with d1 | ⟨d1, d1'⟩ <;> rcases d2 with d2 | ⟨d2, d2'⟩ <;> rcases d3 with d3 | ⟨d3, d3'⟩
    all_goals
      go_enter Tryz.func83, Tryz.ntmps83
      go_wp2_with fail
      go_ret
      exact ⟨by rw [hv.out]; rfl, rfl⟩

theorem rune_string (W : World) (x : Int) (n : Nat) (hn : n = W.heap.size) (ty : TypeId) :
    (convert 29 9 (.slice (some ⟨n, 0, none⟩) 1 1)).run Tryz.prog (W.alloc (.cells #[.int .i32 x] ty)) = .ok (.string (runesBytes [x])) (W.alloc (.cells #[.int .i32 x] ty)) := by
  have hk := run_convert_runes (P := Tryz.prog) (W.alloc (.cells #[.int .i32 x] ty)) 29 9 21 ⟨n, 0, none⟩ 1 1 [x] (by simp) Tryz.underlying29 Tryz.underlying21 Tryz.underlying9 (fun j hj => by
    have : j = 0 := by simp at hj; omega
    subst this
    rw [add_plain, World.cell?_alloc_at _ _ _ _ hn]
    rfl)
  simpa using hk

set_option maxHeartbeats 1000000 in
set_option maxRecDepth 100000 in
theorem encoded_any (c : Int) (h0 : 0 ≤ c) (h1 : c ≤ 65535) (w : World) : Calls Tryz.prog 84 #[.int .i64 c] w fun r w' => r = .returned (.string (runesBytes [c])) ∧ Below w.heap.size w w' := by
  have hcv := rune_string w c _ rfl 21
  go_enter Tryz.func84, Tryz.ntmps84
  go_wp2_with fail
  go_ret
  exact ⟨rfl, (Below.refl _ _).alloc (Nat.le_refl _) _⟩

theorem nx_range (s : ByteArray) (q : Int) : 0 ≤ nx s q ∧ nx s q ≤ 255 := by
  unfold nx
  split
  · exact bt_range s q
  · exact ⟨by omega, by omega⟩

/-- The digits so far. -/
def dsum (d : Nat → Int) : Nat → Int
  | 0 => 0
  | k + 1 => 16 * dsum d k + d k

theorem dsum_range (d : Nat → Int) (hd : ∀ k : Nat, k < 4 → 0 ≤ d k ∧ d k ≤ 15) (k : Nat) (hk : k ≤ 4) : 0 ≤ dsum d k ∧ dsum d k ≤ 65535 := by
  have h0 := hd 0 (by omega)
  have h1 := hd 1 (by omega)
  have h2 := hd 2 (by omega)
  have h3 := hd 3 (by omega)
  match k, hk with
  | 0, _ => simp only [dsum]; omega
  | 1, _ => simp only [dsum]; omega
  | 2, _ => simp only [dsum]; omega
  | 3, _ => simp only [dsum]; omega
  | 4, _ => simp only [dsum]; omega
  | n + 5, h => omega

theorem esc_table (i : Nat) (h : i < 8) : ((⟨#[34, 92, 47, 98, 102, 110, 114, 116]⟩ : ByteArray)[i]'(by show i < 8; exact h)).toNat ≠ 117 :=
  match i, h with
  | 0, _ => show (34 : UInt8).toNat ≠ 117 by decide
  | 1, _ => show (92 : UInt8).toNat ≠ 117 by decide
  | 2, _ => show (47 : UInt8).toNat ≠ 117 by decide
  | 3, _ => show (98 : UInt8).toNat ≠ 117 by decide
  | 4, _ => show (102 : UInt8).toNat ≠ 117 by decide
  | 5, _ => show (110 : UInt8).toNat ≠ 117 by decide
  | 6, _ => show (114 : UInt8).toNat ≠ 117 by decide
  | 7, _ => show (116 : UInt8).toNat ≠ 117 by decide
  | n + 8, h => absurd h (by omega)

set_option maxHeartbeats 2000000 in
set_option maxRecDepth 100000 in
theorem esc_ok {w : World} {x : Nat} {s : ByteArray} {q : Int} {out : Value} (h : Lxr w x s q out false false) (p : Nat) (hp : p ≤ 4294967295) (hx : x < w.heap.size) (hu : nx s ((p : Int) + 1) = 117) (d : Nat → Int)
    (hd : ∀ k : Nat, k < 4 → hexv (nx s ((p : Int) + 2 + k)) = d k ∧ 0 ≤ d k ∧ d k ≤ 15) (hn : 0 < dsum d 4) (hm : dsum d 4 ≤ 65535) (hsur : dsum d 4 < 55296 ∨ 57344 ≤ dsum d 4) :
    Calls Tryz.prog 69 #[.pointer (some ⟨x, 0, none⟩), .int .i64 (p : Int)] w fun r w' => r = .returned (.tuple #[.string (runesBytes [dsum d 4]), .int .i64 6]) ∧ Lxr w' x s q out false false ∧ Below x w w' := by
  have HL := Lib.hid h
  have HU := Lib.hid hu
  have HDD := Lib.hid hd
  have HRG := Lib.hid (fun k hk => dsum_range d (fun j hj => (hd j hj).2) k hk)
  have C47 := Lib.hid (fun (y : Int) (hy : 0 ≤ y) => next_any h y hy)
  have C47u := Lib.hid (show Calls Tryz.prog 47 #[.pointer (some ⟨x, 0, none⟩), .int .i64 ((p : Int) + 1)] w fun r w' => r = .returned (.int .u8 117) ∧ w = w' by have := next_any h ((p : Int) + 1) (by omega); rwa [hu] at this)
  clear h hd hu
  go_enter Tryz.func69, Tryz.ntmps69
  go_wp2_with (first | (go_at_call 47; refine C47u.out.mono ?_; rintro r w1 ⟨rfl, rfl⟩))
  go_loop [9] (fun a => ∃ i : Nat, i ≤ 8 ∧ a = .int .i64 i) (fun a => 8 - (intOf a).toNat)
  case atStart => exact ⟨0, by omega, rfl⟩
  case round =>
    obtain ⟨i, hi, rfl⟩ := hrel
    by_cases hlt : i < 8
    · have hlt2 : (i : Int) < 8 := by omega
      have hi0 : (0 : Int) ≤ i := by omega
      have ht := esc_table i hlt
      go_wp2_with fail
      go_round
      case rel => exact ⟨i + 1, by omega, by go_num⟩
      case measure => simp [intOf]; omega
    · obtain rfl : i = 8 := by omega
      go_wp2_with fail
      go_loop [10, 11] (fun a b => ∃ k : Nat, k ≤ 4 ∧ a = .int .i64 (dsum d k) ∧ b = .int .i64 ((p : Int) + 2 + k)) (fun _ b => p + 6 - (intOf b).toNat)
      case atStart => exact ⟨0, by omega, rfl, by go_num⟩
      case round =>
        obtain ⟨k, hk, rfl, rfl⟩ := hrel
        obtain ⟨hr0, hr1⟩ := HRG.out k hk
        by_cases hlt : k < 4
        · obtain ⟨q1, q2, q3⟩ := HDD.out k hlt
          obtain ⟨n1, n2⟩ := nx_range s ((p : Int) + 2 + k)
          have C1 := Lib.hid (C47.out ((p : Int) + 2 + k) (by omega))
          have C2 := Lib.hid (fun W => hex_any (nx s ((p : Int) + 2 + k)) n1 n2 W)
          rw [q1] at C2
          generalize nx s ((p : Int) + 2 + k) = v at *
          generalize hdk : d k = e at *
          go_wp2_with (first | (go_at_call 47; refine C1.out.mono ?_; rintro r w1 ⟨rfl, rfl⟩) | (go_at_call 83; refine (C2.out _).mono ?_; rintro r w1 ⟨rfl, rfl⟩))
          go_round
          case rel => exact ⟨k + 1, by omega, by rw [dsum, hdk], by go_num⟩
          case measure => simp [intOf]; omega
        · obtain rfl : k = 4 := by omega
          have g4 := HL.out.c4
          have gz4 := HL.out.z4
          have CE := Lib.hid (fun W => encoded_any (dsum d 4) hr0 hr1 W)
          have hn0 : (dsum d 4 == 0) = false := beq_eq_false_iff_ne.2 (by omega)
          have hbx : Below x w (w.setCell ⟨x, 4, none⟩ (.bool false)) := (Below.refl x w).setCell (show x ≤ x from Nat.le_refl _) _
          have hl4 := HL.out.set4 false
          rcases hsur with hsur | hsur
          all_goals
            go_wp2_with (first | (go_at_call 84; refine (CE.out _).mono ?_; rintro r w1 ⟨rfl, hb⟩))
            go_ret2
            exact ⟨rfl, hl4.grow hb (by simp [World.setCell]; omega), hbx.trans (hb.mono (by simp [World.setCell]; omega))⟩

set_option maxHeartbeats 2000000 in
set_option maxRecDepth 100000 in
/-- An escape with a sign that is no digit (and no brace): it is none. -/
theorem esc_bad {w : World} {x : Nat} {s : ByteArray} {q : Int} {out : Value} (h : Lxr w x s q out false false) (p : Nat) (hp : p ≤ 4294967295) (hu : nx s ((p : Int) + 1) = 117) (d : Nat → Int) (m : Nat) (hm : m < 4)
    (hd : ∀ k : Nat, k < m → hexv (nx s ((p : Int) + 2 + k)) = d k ∧ 0 ≤ d k ∧ d k ≤ 15) (hb : hexv (nx s ((p : Int) + 2 + m)) = -1) (hb2 : nx s ((p : Int) + 2 + m) ≠ 123) :
    Calls Tryz.prog 69 #[.pointer (some ⟨x, 0, none⟩), .int .i64 (p : Int)] w fun r w' => r = .returned (.tuple #[.string ⟨#[]⟩, .int .i64 0]) ∧ Lxr w' x s q out false false ∧ Below x w w' := by
  have HL := Lib.hid h
  have HDD := Lib.hid hd
  have HBB := Lib.hid (And.intro hb hb2)
  have HRG := Lib.hid (fun k (hk : k ≤ m) => (dsum_range (fun j => if j < m then d j else 0) (fun j hj => by
    by_cases hjm : j < m
    · simp only [hjm, if_true]; exact (hd j hjm).2
    · simp only [hjm, if_false]; omega) k (by omega)))
  have C47 := Lib.hid (fun (y : Int) (hy : 0 ≤ y) => next_any h y hy)
  have C47u := Lib.hid (show Calls Tryz.prog 47 #[.pointer (some ⟨x, 0, none⟩), .int .i64 ((p : Int) + 1)] w fun r w' => r = .returned (.int .u8 117) ∧ w = w' by have := next_any h ((p : Int) + 1) (by omega); rwa [hu] at this)
  clear h hd hu hb hb2
  go_enter Tryz.func69, Tryz.ntmps69
  go_wp2_with (first | (go_at_call 47; refine C47u.out.mono ?_; rintro r w1 ⟨rfl, rfl⟩))
  go_loop [9] (fun a => ∃ i : Nat, i ≤ 8 ∧ a = .int .i64 i) (fun a => 8 - (intOf a).toNat)
  case atStart => exact ⟨0, by omega, rfl⟩
  case round =>
    obtain ⟨i, hi, rfl⟩ := hrel
    by_cases hlt : i < 8
    · have hlt2 : (i : Int) < 8 := by omega
      have hi0 : (0 : Int) ≤ i := by omega
      have ht := esc_table i hlt
      go_wp2_with fail
      go_round
      case rel => exact ⟨i + 1, by omega, by go_num⟩
      case measure => simp [intOf]; omega
    · obtain rfl : i = 8 := by omega
      go_wp2_with fail
      go_loop [10, 11] (fun a b => ∃ k : Nat, k ≤ m ∧ a = .int .i64 (dsum (fun j => if j < m then d j else 0) k) ∧ b = .int .i64 ((p : Int) + 2 + k)) (fun _ b => p + 6 - (intOf b).toNat)
      case atStart => exact ⟨0, by omega, rfl, by go_num⟩
      case round =>
        obtain ⟨k, hk, rfl, rfl⟩ := hrel
        obtain ⟨hr0, hr1⟩ := HRG.out k hk
        have hk4 : k < 4 := by omega
        obtain ⟨n1, n2⟩ := nx_range s ((p : Int) + 2 + k)
        have C1 := Lib.hid (C47.out ((p : Int) + 2 + k) (by omega))
        have C2 := Lib.hid (fun W => hex_any (nx s ((p : Int) + 2 + k)) n1 n2 W)
        by_cases hlt : k < m
        · obtain ⟨q1, q2, q3⟩ := HDD.out k hlt
          rw [q1] at C2
          have hnx : Hid (dsum (fun j => if j < m then d j else 0) (k + 1) = 16 * dsum (fun j => if j < m then d j else 0) k + d k) := Lib.hid (by rw [dsum]; simp [hlt])
          generalize nx s ((p : Int) + 2 + k) = v at *
          generalize dsum (fun j => if j < m then d j else 0) k = D at *
          go_wp2_with (first | (go_at_call 47; refine C1.out.mono ?_; rintro r w1 ⟨rfl, rfl⟩) | (go_at_call 83; refine (C2.out _).mono ?_; rintro r w1 ⟨rfl, rfl⟩))
          go_round
          case rel => exact ⟨k + 1, by omega, by rw [hnx.out], by go_num⟩
          case measure => simp [intOf]; omega
        · obtain rfl : k = m := by omega
          obtain ⟨q1, q2⟩ := HBB.out
          have g4 := HL.out.c4
          have gz4 := HL.out.z4
          have hbx : Below x w (w.setCell ⟨x, 4, none⟩ (.bool false)) := (Below.refl x w).setCell (show x ≤ x from Nat.le_refl _) _
          have hl4 := HL.out.set4 false
          rw [q1] at C2
          have e1 : (nx s ((p : Int) + 2 + k) == 123) = false := beq_eq_false_iff_ne.2 q2
          generalize nx s ((p : Int) + 2 + k) = v at *
          generalize dsum (fun j => if j < k then d j else 0) k = D at *
          clear q1 HDD HRG
          go_wp2_with (first | (go_at_call 47; refine C1.out.mono ?_; rintro r w1 ⟨rfl, rfl⟩) | (go_at_call 83; refine (C2.out _).mono ?_; rintro r w1 ⟨rfl, rfl⟩))
          go_ret2
          exact ⟨rfl, hl4, hbx⟩
end Go.Proofs.YtbojlohjmbhifaaGreatDoor

/-! The reference's lexer: a token is added. -/
namespace Go.Proofs.YtbojlohjmbhifaaGreatDoor
open Go.RowKit Go.Proofs.YtbojlohjmbhifaaGreatDoorW.PrintWords Go.Proofs.YtbojlohjmbhifaaGreatDoorW.PrintMore

set_option maxHeartbeats 2000000 in
set_option maxRecDepth 100000 in
theorem add_first {w : World} {x : Nat} {s : ByteArray} {p : Int} {bad un : Bool} (h : Lxr w x s p (.slice none 0 0) bad un) (hx : x < w.heap.size) (k t : Int) (v : ByteArray) :
    Calls Tryz.prog 44 #[.pointer (some ⟨x, 0, none⟩), .int .i64 k, .int .i64 t, .string v] w fun r w' => r = .returned (.tuple #[]) ∧ (∃ out, Lxr w' x s t out bad un) ∧ Below x w w' := by
  have h1 := h.c1
  have h2 := h.c2
  have hz1 := h.z1
  have hz2 := h.z2
  have HL := Lib.hid h
  have hzA : ∀ o, (w.alloc o).frozen? ⟨x, 2, none⟩ = false := fun o => (World.frozen?_of_block (Below.heap_alloc _ _ _ hx)).trans hz2
  have hzB : ∀ o, (w.alloc o).drew.frozen? ⟨x, 2, none⟩ = false := hzA
  clear h
  obtain ⟨i0, hi0, hy0, hy1, hy2⟩ := info_parts info35
  go_enter Tryz.func44, Tryz.ntmps44
  go_wp2_with fail
  go_region_law (refine step_append_lies _ (by rfl) (.tmp 12) (.tmp 21) 22 (by rfl) w.heap.size 35 i0 _ 4 40 Tryz.underlying22 hi0 hy0 hy1 hy2 rfl (by omega) (.slice none 0 0) 0 [] (by rfl) (World.ownsRow_nil _ _ _ _) (⟨w.heap.size, 0, none⟩) 1 1 [.int .i64 k, .string v, .int .i64 p, .int .i64 t] (by rfl) (by rfl) (World.news_of_block (cs := #[.int .i64 k, .string v, .int .i64 p, .int .i64 t]) (t := 35) (fr := (0, 0)) (heap_alloc_new w _)) (by simp [Value.oneCell']) (by omega) (by unfold maxLen; omega) (by omega) (by simp) (w.heap.size + 1) (by simp) ?_; intro gg cap w1 hown1 hgrow hat hlt; have hzz : w1.frozen? ⟨x, 2, none⟩ = false := (by rw [hgrow.frozen_far _ (by simp; omega) (by simp [Value.ownBlock])]; exact hzB _); have hcc : w1.cell? ⟨x, 2, none⟩ = some (.slice none 0 0) := (by rw [hgrow.cell_far _ (by simp; omega) (by simp [Value.ownBlock])]; exact (World.cell?_alloc_past _ _ _ hx).trans h2))
  all_goals
    have hb1 : Below w.heap.size w w1 := (((Below.refl w.heap.size w).alloc (Nat.le_refl _) _).drew).grown hgrow (by simp) (fun k hk => by cases hk)
    have hl1 := (HL.out.grow hb1 hx).set2 (.slice (some ⟨gg, 0, none⟩) 1 cap)
    have q1 := hl1.c1
    have qz := hl1.z1
    go_wp2_with fail
    go_end0
    exact ⟨rfl, ⟨_, hl1.set1 t⟩, ((hb1.mono (Nat.le_of_lt hx)).setCell (show x ≤ x from Nat.le_refl _) _).setCell (show x ≤ x from Nat.le_refl _) _⟩
end Go.Proofs.YtbojlohjmbhifaaGreatDoor

/-! The reference's lexer: a string that is one escape. -/
namespace Go.Proofs.YtbojlohjmbhifaaGreatDoor
open Go.RowKit Go.Proofs.YtbojlohjmbhifaaGreatDoorW.PrintWords Go.Proofs.YtbojlohjmbhifaaGreatDoorW.PrintMore

set_option maxHeartbeats 2000000 in
set_option maxRecDepth 100000 in
theorem text_esc {w : World} {x : Nat} {s : ByteArray} (h : Lxr w x s 0 (.slice none 0 0) false false) (hx : x < w.heap.size) (hz : s.size = 8) (h1 : bt s 1 = 92) (h2 : nx s 2 = 117) (h7 : bt s 7 = 34) (d : Nat → Int)
    (hd : ∀ k : Nat, k < 4 → hexv (nx s (3 + k)) = d k ∧ 0 ≤ d k ∧ d k ≤ 15) (hn : 0 < dsum d 4) (hm : dsum d 4 ≤ 65535) (hsur : dsum d 4 < 55296 ∨ 57344 ≤ dsum d 4) :
    Calls Tryz.prog 51 #[.pointer (some ⟨x, 0, none⟩)] w fun r w' => r = .returned (.tuple #[]) ∧ (∃ out, Lxr w' x s 8 out false false) ∧ Below x w w' := by
  have g0 := h.c0
  have g1 := h.c1
  have HL := Lib.hid h
  have CE := Lib.hid (esc_ok h 1 (by omega) hx (by rw [show ((1 : Nat) : Int) + 1 = 2 by omega]; exact h2) d (fun k hk => by rw [show ((1 : Nat) : Int) + 2 + k = 3 + k by omega]; exact hd k hk) hn hm hsur)
  have hzz : (s.size : Int) = 8 := by omega
  have hx1 : ∀ h : 1 < s.size, ((s[1]'h).toNat : Int) = 92 := fun h => (bt_at s 1 h).trans h1
  have hx7 : ∀ h : 7 < s.size, ((s[7]'h).toNat : Int) = 34 := fun h => (bt_at s 7 h).trans h7
  have hV := runes_small (dsum d 4)
  clear h hd hn hm hsur h1 h2 h7
  generalize runesBytes [dsum d 4] = V at *
  go_enter Tryz.func51, Tryz.ntmps51
  go_wp2_with fail
  clear g0 g1
  go_loopw [2, 3] (fun a b wr => ((a = .string ⟨#[]⟩ ∧ b = .int .i64 1 ∧ wr = w) ∨ (a = .string (⟨#[]⟩ ++ V) ∧ b = .int .i64 7 ∧ Hid (Lxr wr x s 0 (.slice none 0 0) false false) ∧ Hid (Below x w wr)))) (fun _ b _ => 8 - (intOf b).toNat)
  case atStart => exact .inl ⟨rfl, rfl, rfl⟩
  case round =>
    rcases hrel with ⟨rfl, rfl, rfl⟩ | ⟨rfl, rfl, hl, hb⟩
    · have g0 := HL.out.c0
      go_wp2_with (first | (go_at_call 69; refine CE.out.mono ?_; rintro r w1 ⟨rfl, hl1, hb1⟩))
      go_round
      case rel => exact .inr ⟨rfl, by go_num, Lib.hid hl1, Lib.hid hb1⟩
      case measure => simp [intOf]
    · have g0 := hl.out.c0
      have hxr : x < wr.heap.size := Nat.lt_of_lt_of_le hx hb.out.size
      go_wp2_with (first | (go_at_call 44; refine (add_first hl.out hxr _ _ _).mono ?_; rintro r w1 ⟨rfl, ⟨out, hl1⟩, hb1⟩))
      refine bodyPost_ret (v := .tuple #[]) (results_none rfl _ _ _) rfl ⟨rfl, ⟨out, hl1⟩, hb.out.trans hb1⟩

set_option maxHeartbeats 2000000 in
set_option maxRecDepth 100000 in
theorem text_esc_bad {w : World} {x : Nat} {s : ByteArray} (h : Lxr w x s 0 (.slice none 0 0) false false) (hz : s.size = 8) (h1 : bt s 1 = 92) (h2 : nx s 2 = 117) (d : Nat → Int) (m : Nat) (hm : m < 4)
    (hd : ∀ k : Nat, k < m → hexv (nx s (3 + k)) = d k ∧ 0 ≤ d k ∧ d k ≤ 15) (hb : hexv (nx s (3 + m)) = -1) (hb2 : nx s (3 + m) ≠ 123) :
    Calls Tryz.prog 51 #[.pointer (some ⟨x, 0, none⟩)] w (Failed x s false w) := by
  have g0 := h.c0
  have g1 := h.c1
  have HL := Lib.hid h
  have CE := Lib.hid (esc_bad h 1 (by omega) (by rw [show ((1 : Nat) : Int) + 1 = 2 by omega]; exact h2) d m hm (fun k hk => by rw [show ((1 : Nat) : Int) + 2 + k = 3 + k by omega]; exact hd k hk)
    (by rw [show ((1 : Nat) : Int) + 2 + m = 3 + m by omega]; exact hb) (by rw [show ((1 : Nat) : Int) + 2 + m = 3 + m by omega]; exact hb2))
  have hzz : (s.size : Int) = 8 := by omega
  have hx1 : ∀ h : 1 < s.size, ((s[1]'h).toNat : Int) = 92 := fun h => (bt_at s 1 h).trans h1
  clear h hd hb hb2 h1 h2
  go_enter Tryz.func51, Tryz.ntmps51
  go_wp2_with fail
  go_loopw [2, 3] (fun a b wr => a = .string ⟨#[]⟩ ∧ b = .int .i64 1 ∧ wr = w) (fun _ b _ => 8 - (intOf b).toNat)
  case atStart => exact ⟨rfl, rfl, rfl⟩
  case round =>
    obtain ⟨rfl, rfl, rfl⟩ := hrel
    go_wp2_with (first | (go_at_call 69; refine CE.out.mono ?_; rintro r w1 ⟨rfl, hl1, hb1⟩) | (go_at_call 52; refine (fail_any hl1).mono ?_; rintro r w2 ⟨rfl, rfl⟩))
    refine bodyPost_ret (v := .tuple #[]) (results_none rfl _ _ _) rfl ⟨rfl, ⟨_, _, hl1.set3 true⟩, hb1.setCell (show x ≤ x from Nat.le_refl _) _⟩

set_option maxHeartbeats 2000000 in
set_option maxRecDepth 100000 in
theorem lexed_good (s : ByteArray) (h0 : 0 < s.size) (hs : s.size ≤ 4294967295) (w : World)
    (HT : ∀ W x, Lxr W x s 0 (.slice none 0 0) false false → Calls Tryz.prog 33 #[.pointer (some ⟨x, 0, none⟩)] W fun r w' => r = .returned (.tuple #[]) ∧ (∃ out, Lxr w' x s s.size out false false) ∧ Below x W w') :
    Calls Tryz.prog 24 #[.string s] w fun r w' => (∃ out, r = .returned (.tuple #[out, .bool true, .bool true])) ∧ Below w.heap.size w w' := by
  have H := Lib.hid HT
  have HN := Lib.hid (lxr_new w s)
  have HB := Lib.hid ((Below.refl w.heap.size w).alloc (Nat.le_refl _) (.cells #[.string s, .int .i64 0, .slice none 0 0, .bool false, .bool false] 69))
  clear HT
  have hss : (0 : Int) < s.size := by omega
  go_enter Tryz.func24, Tryz.ntmps24
  go_wp2_with fail
  go_loopg [9] 1 (fun gk _ wr => ((gk = 1 ∧ Hid (Lxr wr w.heap.size s 0 (.slice none 0 0) false false)) ∨ (gk = 0 ∧ ∃ out, Hid (Lxr wr w.heap.size s s.size out false false))) ∧ Hid (Below w.heap.size w wr))
  case atStart => exact ⟨.inl ⟨rfl, HN⟩, HB⟩
  case round =>
    obtain ⟨hl, hb⟩ := hrel
    rcases hl with ⟨rfl, hl⟩ | ⟨rfl, out, hl⟩
    · have g0 := hl.out.c0
      have g1 := hl.out.c1
      have g3 := hl.out.c3
      go_wp2_with (first | (go_at_call 33; refine (H.out _ _ hl.out).mono ?_; rintro r w1 ⟨rfl, ⟨out, hl2⟩, hb2⟩))
      go_roundg 0
      case measure => omega
      case rel => exact ⟨.inr ⟨rfl, out, Lib.hid hl2⟩, Lib.hid (hb.out.trans hb2)⟩
    · have g0 := hl.out.c0
      have g1 := hl.out.c1
      have g2 := hl.out.c2
      have g3 := hl.out.c3
      have g4 := hl.out.c4
      go_wp2_with fail
      go_quiet (fail)
      go_wp2_with fail
      refine bodyPost_ret (v := .tuple #[out, .bool true, .bool true]) (by simp [results, Tryz.results24, go_sem]) rfl ⟨⟨out, rfl⟩, ?_⟩
      exact hb.out.trans (Drawn0.below ⟨⟨_, rfl⟩⟩ |>.mono hb.out.size)

set_option maxHeartbeats 2000000 in
set_option maxRecDepth 100000 in
/-- A text of one token that is read: the reference is sure of it. -/
theorem sure_good (s : ByteArray) (h0 : 0 < s.size) (hs : s.size ≤ 4294967295) (w : World)
    (HT : ∀ W x, Lxr W x s 0 (.slice none 0 0) false false → Calls Tryz.prog 33 #[.pointer (some ⟨x, 0, none⟩)] W fun r w' => r = .returned (.tuple #[]) ∧ (∃ out, Lxr w' x s s.size out false false) ∧ Below x W w') :
    Calls Tryz.prog 11 #[.string s] w fun r w' => r = .returned (.bool true) ∧ Below w.heap.size w w' := by
  have H := Lib.hid (fun W => lexed_good s h0 hs W HT)
  clear HT
  have H2 : ∀ W, Calls Tryz.prog 21 #[.string s] W fun r w' => (∃ out, r = .returned (.tuple #[out, .bool true, .bool true])) ∧ Below W.heap.size W w' := by
    intro W
    go_enter Tryz.func21, Tryz.ntmps21
    go_wp2_with (first | (go_at_call 24; refine (H.out _).mono ?_; rintro r w1 ⟨⟨out, rfl⟩, hb⟩))
    refine bodyPost_ret (v := .tuple #[out, .bool true, .bool true]) (by simp [results, Tryz.results21, go_sem]) rfl ⟨⟨out, rfl⟩, hb⟩
  have H3 := Lib.hid H2
  clear H2
  go_enter Tryz.func11, Tryz.ntmps11
  go_wp2_with (first | (go_at_call 21; refine (H3.out _).mono ?_; rintro r w1 ⟨⟨out, rfl⟩, hb⟩))
  go_ret
  exact ⟨rfl, hb⟩
end Go.Proofs.YtbojlohjmbhifaaGreatDoor
