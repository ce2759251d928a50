-- PRINTED BY print.sh 35421559b90ae4d0a3588c463048766b98c2df88dd9212a6774a882060cdf62d: not written by this session
import Derived.Test.YtbojlohjmbhifaaGreatDoorPFnNumberPartsx0
namespace Go.Proofs.YtbojlohjmbhifaaGreatDoor.PFnNumberParts
open Go.RowKit Go.Proofs.YtbojlohjmbhifaaGreatDoorW.PrintWords Go.Proofs.YtbojlohjmbhifaaGreatDoorW.PrintLast Go.Proofs.YtbojlohjmbhifaaGreatDoorW.PrintMore
attribute [local go_sem] max2_int min2_int max_two min_two max_three min_three max_four min_four   -- for this text's walks alone
set_option linter.unusedVariables false
set_option linter.unusedSimpArgs false

-- NOT PRINTED: function 18 (lexer_Lex)

-- NOT PRINTED: function 19 (source_NewSource)

/-! ### impl_token: function 20 -/
def impl_token.f (a0_0 : Int) (a0_1 : Int) (a0_2 : Int) (a0_3 : ByteArray) : Option (Int × ByteArray × Int × Int) := some (a0_0, a0_3, a0_1, a0_2)
set_option maxHeartbeats 8000000 in
set_option maxRecDepth 100000 in
theorem impl_token.calls (a0_0 : Int) (a0_1 : Int) (a0_2 : Int) (a0_3 : ByteArray) (r1 : Int) (r2 : ByteArray) (r3 : Int) (r4 : Int) (w : World) (h : impl_token.f a0_0 a0_1 a0_2 a0_3 = some (r1, r2, r3, r4)) :
    Calls Tryz.prog 20 #[.agg #[.int .i64 a0_0, .int .i64 a0_1, .int .i64 a0_2, .string a0_3]] w fun e w' => e = .returned (.agg #[.int .i64 r1, .string r2, .int .i64 r3, .int .i64 r4]) ∧ Below w.heap.size w w' := by
  have hu50 := Tryz.underlying50
  have hu35 := Tryz.underlying35
  have HB := Aside0.mk (Below.refl w.heap.size w)
  have H : (some (a0_0, a0_3, a0_1, a0_2)) = some (r1, r2, r3, r4) := h
  clear h
  simp only [Option.some.injEq, Prod.mk.injEq] at H
  obtain ⟨rfl, rfl, rfl, rfl⟩ := H
  go_enter Tryz.func20, Tryz.ntmps20
  go_wp2_with (first | ((with_reducible refine gate_dst (N := 1) rfl ?_); refine box_event ?hg (N := 1) ?hd (cs := #[.int .i64 a0_0, .int .i64 a0_1, .int .i64 a0_2, .string a0_3]) (t := 50) ?hr ?_; (case hd => rfl); (case hg => rfl); (case hr => first | (go_simp; done) | (go_simp; rfl)); intro gb101 hg w2 hbox hb; have n0_ := Aside0.mk (below_step (by repeat (first | (with_reducible first | exact HB.out | apply below_alloc | apply pw_below_drewN | apply below_drew1) | exact HB.out)) hb); have n1_ := Aside0.mk (hbox); have n2_ := Aside0.mk ((by rw [hg]; exact (below_size (by repeat (first | (with_reducible first | exact HB.out | apply below_alloc | apply pw_below_drewN | apply below_drew1) | exact HB.out))) : w.heap.size ≤ gb101)); have n3_ := Aside0.mk ((by rw [hg]; exact (below_size (by repeat (first | (with_reducible first | exact HB.out | apply below_alloc | apply pw_below_drewN | apply below_drew1) | exact HB.out))) : w.heap.size ≤ gb101)); clear HB; have HB := n0_; have BK101 := n1_; have GW101 := n2_; have GE101 := n3_; clear n0_ n1_ n2_ n3_; clear hb hbox hg) | ((with_reducible refine gate_dst (N := 2) rfl ?_); refine box_event ?hg (N := 2) ?hd (cs := #[.int .i64 0, .string (⟨#[]⟩ : ByteArray), .int .i64 0, .int .i64 0]) (t := 35) ?hr ?_; (case hd => rfl); (case hg => rfl); (case hr => first | (go_simp; done) | (go_simp; rfl)); intro gb102 hg w3 hbox hb; have n0_ := Aside0.mk (blk_below (g := gb101) (o := .cells #[.int .i64 a0_0, .int .i64 a0_1, .int .i64 a0_2, .string a0_3] 50 (0, 0)) (by (with_reducible repeat (first | refine blk_drewN ?_ _ | refine blk_drew ?_ | refine blk_alloc ?_ _)); exact BK101.out) hb); have n1_ := Aside0.mk (below_step (by repeat (first | (with_reducible first | exact HB.out | apply below_alloc | apply pw_below_drewN | apply below_drew1 | refine below_set ?_ GE101.out) | exact HB.out)) hb); have n2_ := Aside0.mk (hbox); have n3_ := Aside0.mk ((by rw [hg]; exact (below_size (by repeat (first | (with_reducible first | exact HB.out | apply below_alloc | apply pw_below_drewN | apply below_drew1 | refine below_set ?_ GE101.out) | exact HB.out))) : w.heap.size ≤ gb102)); have n4_ := Aside0.mk ((by rw [hg]; exact (below_size (by repeat (first | (with_reducible first | exact HB.out | apply below_alloc | apply pw_below_drewN | apply below_drew1 | refine below_set ?_ GE101.out) | exact HB.out))) : w.heap.size ≤ gb102)); have n5_ := Aside0.mk ((by rw [hg]; exact Nat.ne_of_lt (blk_lt (g := gb101) (o := .cells #[.int .i64 a0_0, .int .i64 a0_1, .int .i64 a0_2, .string a0_3] 50 (0, 0)) (by (with_reducible repeat (first | refine blk_drewN ?_ _ | refine blk_drew ?_ | refine blk_alloc ?_ _)); exact BK101.out)) : gb101 ≠ gb102)); have n6_ := Aside0.mk ((by rw [hg]; exact Nat.ne_of_gt (blk_lt (g := gb101) (o := .cells #[.int .i64 a0_0, .int .i64 a0_1, .int .i64 a0_2, .string a0_3] 50 (0, 0)) (by (with_reducible repeat (first | refine blk_drewN ?_ _ | refine blk_drew ?_ | refine blk_alloc ?_ _)); exact BK101.out)) : gb102 ≠ gb101)); clear BK101; clear HB; have BK101 := n0_; have HB := n1_; have BK102 := n2_; have GW102 := n3_; have GE102 := n4_; have NB101_102 := n5_; have NB102_101 := n6_; clear n0_ n1_ n2_ n3_ n4_ n5_ n6_; clear hb hbox hg; have hnb4 := NB101_102.out; have hnc4 := NB102_101.out; have hcz5_0 : w3.cell? ⟨gb101, 0, none⟩ = some (.int .i64 a0_0) := (blk_cell BK101.out 0).trans rfl; have hcz5_1 : w3.cell? ⟨gb101, 1, none⟩ = some (.int .i64 a0_1) := (blk_cell BK101.out 1).trans rfl; have hcz5_2 : w3.cell? ⟨gb101, 2, none⟩ = some (.int .i64 a0_2) := (blk_cell BK101.out 2).trans rfl; have hcz5_3 : w3.cell? ⟨gb101, 3, none⟩ = some (.string a0_3) := (blk_cell BK101.out 3).trans rfl; have hfz5_0 := blk_frozen BK101.out 0; have hfz5_1 := blk_frozen BK101.out 1; have hfz5_2 := blk_frozen BK101.out 2; have hfz5_3 := blk_frozen BK101.out 3; have hcz6_0 : w3.cell? ⟨gb102, 0, none⟩ = some (.int .i64 0) := (blk_cell BK102.out 0).trans rfl; have hcz6_1 : w3.cell? ⟨gb102, 1, none⟩ = some (.string (⟨#[]⟩ : ByteArray)) := (blk_cell BK102.out 1).trans rfl; have hcz6_2 : w3.cell? ⟨gb102, 2, none⟩ = some (.int .i64 0) := (blk_cell BK102.out 2).trans rfl; have hcz6_3 : w3.cell? ⟨gb102, 3, none⟩ = some (.int .i64 0) := (blk_cell BK102.out 3).trans rfl; have hfz6_0 := blk_frozen BK102.out 0; have hfz6_1 := blk_frozen BK102.out 1; have hfz6_2 := blk_frozen BK102.out 2; have hfz6_3 := blk_frozen BK102.out 3))
  refine bodyPost_ret (results_cell_row rfl _ _ gb102 35 #[.int .i64 a0_0, .string a0_3, .int .i64 a0_1, .int .i64 a0_2] (0, 0) _ rfl (by (with_reducible repeat (first | refine blk_drewN ?_ _ | refine blk_drew ?_ | refine blk_alloc ?_ _)); refine blk_put (cs := #[.int .i64 a0_0, .string a0_3, .int .i64 a0_1, .int .i64 0]) ?_ 3 _ rfl; (with_reducible repeat (first | refine blk_drewN ?_ _ | refine blk_drew ?_ | refine blk_alloc ?_ _)); refine blk_put (cs := #[.int .i64 a0_0, .string a0_3, .int .i64 0, .int .i64 0]) ?_ 2 _ rfl; (with_reducible repeat (first | refine blk_drewN ?_ _ | refine blk_drew ?_ | refine blk_alloc ?_ _)); refine blk_put (cs := #[.int .i64 a0_0, .string (⟨#[]⟩ : ByteArray), .int .i64 0, .int .i64 0]) ?_ 1 _ rfl; (with_reducible repeat (first | refine blk_drewN ?_ _ | refine blk_drew ?_ | refine blk_alloc ?_ _)); refine blk_put (cs := #[.int .i64 0, .string (⟨#[]⟩ : ByteArray), .int .i64 0, .int .i64 0]) ?_ 0 _ rfl; (with_reducible repeat (first | refine blk_drewN ?_ _ | refine blk_drew ?_ | refine blk_alloc ?_ _)); exact BK102.out) Tryz.underlying35 rfl (by kernel_rfl)) rfl ?_
  exact ⟨by first | rfl | (simp [errW_none, errW_some] <;> rfl) | (simp [*, errW_none, errW_some] <;> rfl), by repeat (first | (with_reducible first | exact HB.out | apply below_alloc | apply pw_below_drewN | apply below_drew1 | refine below_set ?_ GE101.out | refine below_set ?_ GE102.out) | exact HB.out)⟩

-- NOT PRINTED: function 9 (impl_Tokens)

-- NOT PRINTED: function 12 (laws_only9)

/-! ### laws_digits9: function 16 -/
def laws_digits9.l0 : Nat → ByteArray → Int → Option (Bool)
  | 0, _, _ => none
  | k + 1, x0, x3 => if x3 < (x0.size : Int) then (if 0 ≤ x3 then (if (bt x0 x3) < 48 then (some false) else (if (bt x0 x3) > 57 then (some false) else (laws_digits9.l0 k x0 (wrap64 (x3 + 1))))) else (none)) else (if x0.toList = ([] : List UInt8) then (some false) else (some (decide ((x0.size : Int) ≤ 20))))
def laws_digits9.f (k : Nat) (a0 : ByteArray) : Option (Bool) := laws_digits9.l0 k a0 0
theorem laws_digits9.mono_l : ∀ k, (∀ y0 y1, LeO (laws_digits9.l0 k y0 y1) (laws_digits9.l0 (k + 1) y0 y1))
  | 0 => fun _ _ r h => by simp [laws_digits9.l0] at h
  | k + 1 => by
    have ih0 := laws_digits9.mono_l k
    · intro y0 y1
      unfold laws_digits9.l0
      repeat' first
      | (with_reducible exact ih0 _ _)
      | (with_reducible exact LeO.refl _)
      | (with_reducible exact LeO.none _)
      | (with_reducible refine LeO.ite ?_ ?_)
      | (with_reducible refine LeO.bind ?_ (fun _ => ?_))
      | exact ih0 _ _
      | exact LeO.none _
      | refine LeO.ite ?_ ?_
      | refine LeO.bind ?_ (fun _ => ?_)
theorem laws_digits9.mono : ∀ a0 k, LeO (laws_digits9.f k a0) (laws_digits9.f (k + 1) a0) := by
  intro a0 k
  have ih0 := laws_digits9.mono_l k
  unfold laws_digits9.f
  repeat' first
      | (with_reducible exact ih0 _ _)
      | (with_reducible exact LeO.refl _)
      | (with_reducible exact LeO.none _)
      | (with_reducible refine LeO.ite ?_ ?_)
      | (with_reducible refine LeO.bind ?_ (fun _ => ?_))
      | exact ih0 _ _
      | exact LeO.none _
      | refine LeO.ite ?_ ?_
      | refine LeO.bind ?_ (fun _ => ?_)
set_option maxHeartbeats 8000000 in
set_option maxRecDepth 100000 in
theorem laws_digits9.calls (k : Nat) (a0 : ByteArray) (r : Bool) (w : World) (h : laws_digits9.f k a0 = some r) :
    Calls Tryz.prog 16 #[.string a0] w fun e w' => e = .returned (.bool r) ∧ Drawn0 w w' := by
  have H : (laws_digits9.l0 k a0 0) = some r := h
  clear h
  have H' := Aside0.mk H
  clear H
  go_enter Tryz.func16, Tryz.ntmps16
  go_wp2
  go_loopg [3] k (fun kq v3 w' => ∃ (x3_1 : Int), v3 = .int .i64 x3_1 ∧ Aside0 (laws_digits9.l0 kq a0 x3_1 = some r) ∧ Aside0 (kq ≤ k) ∧ Drawn0 w w')
  case atStart => exact ⟨(0), (by first | rfl | (simp; done) | (simp [*]; done)), H', ⟨Nat.le_refl _⟩, by repeat (first | exact Drawn0.refl _ | apply Drawn0.step)⟩
  case round =>
    clear H'
    try clear c1
    obtain ⟨x3_1, rfl, HA, HK1, ⟨m1, rfl⟩⟩ := hrel
    cases gk with
    | zero => exact absurd HA.out (by simp [laws_digits9.l0])
    | succ k1 =>
      have H := HA.out
      clear HA
      simp only [laws_digits9.l0] at H
      by_cases c2 : x3_1 < (a0.size : Int)
      · rw [if_pos c2] at H
        have c2b0 : decide (x3_1 < (a0.size : Int)) = true := decide_eq_true c2
        clear c2
        by_cases c3 : 0 ≤ x3_1
        · rw [if_pos c3] at H
          have c3b0 : decide (0 ≤ x3_1) = true := decide_eq_true c3
          clear c3
          by_cases c5 : (bt a0 x3_1) < 48
          · rw [if_pos c5] at H
            have c5b0 : decide ((bt a0 x3_1) < 48) = true := decide_eq_true c5
            clear c5
            obtain rfl := Option.some.inj H
            have p4 : 0 ≤ (x3_1 : Int) := of_decide_eq_true (by first | (with_reducible assumption) | assumption)
            have q4 : x3_1 < (a0.size : Int) := of_decide_eq_true (by first | (with_reducible assumption) | assumption)
            have hx4 := bt_at a0 x3_1
            replace p4 := eq_true p4
            replace q4 := eq_true q4
            go_wp2
            go_ret
            exact ⟨by first | rfl | (simp; done) | (simp [*]; done), by repeat (first | exact Drawn0.refl _ | apply Drawn0.step)⟩
          · rw [if_neg c5] at H
            have c5b0 : decide ((bt a0 x3_1) < 48) = false := decide_eq_false c5
            clear c5
            by_cases c7 : (bt a0 x3_1) > 57
            · rw [if_pos c7] at H
              have c7b0 : decide (57 < (bt a0 x3_1)) = true := decide_eq_true c7
              clear c7
              obtain rfl := Option.some.inj H
              have p4 : 0 ≤ (x3_1 : Int) := of_decide_eq_true (by first | (with_reducible assumption) | assumption)
              have q4 : x3_1 < (a0.size : Int) := of_decide_eq_true (by first | (with_reducible assumption) | assumption)
              have hx4 := bt_at a0 x3_1
              replace p4 := eq_true p4
              replace q4 := eq_true q4
              have p6 : 0 ≤ (x3_1 : Int) := of_decide_eq_true (by first | (with_reducible assumption) | assumption)
              have q6 : x3_1 < (a0.size : Int) := of_decide_eq_true (by first | (with_reducible assumption) | assumption)
              have hx6 := bt_at a0 x3_1
              replace p6 := eq_true p6
              replace q6 := eq_true q6
              go_wp2
              go_ret
              exact ⟨by first | rfl | (simp; done) | (simp [*]; done), by repeat (first | exact Drawn0.refl _ | apply Drawn0.step)⟩
            · rw [if_neg c7] at H
              have c7b0 : decide (57 < (bt a0 x3_1)) = false := decide_eq_false c7
              clear c7
              have H' := Aside0.mk H
              clear H
              have p4 : 0 ≤ (x3_1 : Int) := of_decide_eq_true (by first | (with_reducible assumption) | assumption)
              have q4 : x3_1 < (a0.size : Int) := of_decide_eq_true (by first | (with_reducible assumption) | assumption)
              have hx4 := bt_at a0 x3_1
              replace p4 := eq_true p4
              replace q4 := eq_true q4
              have p6 : 0 ≤ (x3_1 : Int) := of_decide_eq_true (by first | (with_reducible assumption) | assumption)
              have q6 : x3_1 < (a0.size : Int) := of_decide_eq_true (by first | (with_reducible assumption) | assumption)
              have hx6 := bt_at a0 x3_1
              replace p6 := eq_true p6
              replace q6 := eq_true q6
              go_wp2
              go_roundg k1
              case measure => have := HK1.out; omega
              case rel => exact ⟨(wrap64 (x3_1 + 1)), (by first | rfl | (simp; done) | (simp [*]; done)), H', ⟨by have := HK1.out; omega⟩, by repeat (first | exact Drawn0.refl _ | apply Drawn0.step)⟩
        · rw [if_neg c3] at H
          exact absurd H (by simp)
      · rw [if_neg c2] at H
        have c2b0 : decide (x3_1 < (a0.size : Int)) = false := decide_eq_false c2
        clear c2
        by_cases c8 : a0.toList = ([] : List UInt8)
        · rw [if_pos c8] at H
          have c8b0 : (a0.toList == ([] : List UInt8)) = true := beq_iff_eq.mpr c8
          have c8b1 : (a0.toList != ([] : List UInt8)) = false := bne_eq_false_iff_eq.mpr c8
          clear c8
          obtain rfl := Option.some.inj H
          go_wp2
          go_ret
          exact ⟨by first | rfl | (simp; done) | (simp [*]; done), by repeat (first | exact Drawn0.refl _ | apply Drawn0.step)⟩
        · rw [if_neg c8] at H
          have c8b0 : (a0.toList == ([] : List UInt8)) = false := beq_eq_false_iff_ne.mpr c8
          have c8b1 : (a0.toList != ([] : List UInt8)) = true := bne_iff_ne.mpr c8
          obtain rfl := Option.some.inj H
          go_wp2
          go_ret
          exact ⟨by first | rfl | (simp; done) | (simp [*]; done), by repeat (first | exact Drawn0.refl _ | apply Drawn0.step)⟩

/-! ### laws_number9: function 15 -/
mutual
def laws_number9.j0 : Nat → Bool → ByteArray → ByteArray → ByteArray → Int → Bool → Option (ByteArray × Bool × Bool)
  | 0, _, _, _, _, _, _ => none
  | k + 1, x0, x1, x2, x3, x4, x44 => if x44 = true then (some ((⟨#[]⟩ : ByteArray), false, false)) else (if x0 = true then (if 1 + x1.size ≤ 9223372036854775807 then (laws_number9.j1 k x2 x3 x4 ((⟨#[45]⟩ : ByteArray) ++ x1)) else (none)) else (laws_number9.j1 k x2 x3 x4 x1))
def laws_number9.j1 : Nat → ByteArray → ByteArray → Int → ByteArray → Option (ByteArray × Bool × Bool)
  | 0, _, _, _, _ => none
  | k + 1, x2, x3, x4, x13 => if x2.toList = ([] : List UInt8) then (if x3.toList = ([] : List UInt8) then (some (x13, (x3.toList != ([] : List UInt8)), true)) else ((some (([(⟨#[101]⟩ : ByteArray), (⟨#[69]⟩ : ByteArray), (⟨#[101, 43]⟩ : ByteArray), (⟨#[69, 45]⟩ : ByteArray)] : List ByteArray) : List ByteArray)).bind fun y110 => (if 0 ≤ (Int.tmod x4 4) then (if (Int.tmod x4 4) < (y110.length : Int) then (if (rdOf ByteArray.empty y110 (Int.tmod x4 4)).size + x3.size ≤ 9223372036854775807 then (if x13.size + ((rdOf ByteArray.empty y110 (Int.tmod x4 4)) ++ x3).size ≤ 9223372036854775807 then (some (x13 ++ ((rdOf ByteArray.empty y110 (Int.tmod x4 4)) ++ x3), (x3.toList != ([] : List UInt8)), true)) else (none)) else (none)) else (none)) else (none)))) else (if 1 + x2.size ≤ 9223372036854775807 then (if x13.size + ((⟨#[46]⟩ : ByteArray) ++ x2).size ≤ 9223372036854775807 then (if x3.toList = ([] : List UInt8) then (some (x13 ++ ((⟨#[46]⟩ : ByteArray) ++ x2), true, true)) else ((some (([(⟨#[101]⟩ : ByteArray), (⟨#[69]⟩ : ByteArray), (⟨#[101, 43]⟩ : ByteArray), (⟨#[69, 45]⟩ : ByteArray)] : List ByteArray) : List ByteArray)).bind fun y114 => (if 0 ≤ (Int.tmod x4 4) then (if (Int.tmod x4 4) < (y114.length : Int) then (if (rdOf ByteArray.empty y114 (Int.tmod x4 4)).size + x3.size ≤ 9223372036854775807 then (if (x13 ++ ((⟨#[46]⟩ : ByteArray) ++ x2)).size + ((rdOf ByteArray.empty y114 (Int.tmod x4 4)) ++ x3).size ≤ 9223372036854775807 then (some ((x13 ++ ((⟨#[46]⟩ : ByteArray) ++ x2)) ++ ((rdOf ByteArray.empty y114 (Int.tmod x4 4)) ++ x3), true, true)) else (none)) else (none)) else (none)) else (none)))) else (none)) else (none))
end
def laws_number9.f (k : Nat) (a0 : Bool) (a1 : ByteArray) (a2 : ByteArray) (a3 : ByteArray) (a4 : Int) : Option (ByteArray × Bool × Bool) := (laws_digits9.f k a1).bind fun t103 => (if t103 = true then (if (a1.size : Int) > 1 then (if 0 < (a1.size : Int) then (if (bt a1 0) = 48 then (laws_number9.j0 k a0 a1 a2 a3 a4 true) else (if a2.toList = ([] : List UInt8) then (if a3.toList = ([] : List UInt8) then (laws_number9.j0 k a0 a1 a2 a3 a4 false) else ((laws_digits9.f k a3).bind fun t104 => (laws_number9.j0 k a0 a1 a2 a3 a4 (!t104)))) else ((laws_digits9.f k a2).bind fun t105 => (if t105 = true then (if a3.toList = ([] : List UInt8) then (laws_number9.j0 k a0 a1 a2 a3 a4 false) else ((laws_digits9.f k a3).bind fun t106 => (laws_number9.j0 k a0 a1 a2 a3 a4 (!t106)))) else (laws_number9.j0 k a0 a1 a2 a3 a4 true))))) else (none)) else (if a2.toList = ([] : List UInt8) then (if a3.toList = ([] : List UInt8) then (laws_number9.j0 k a0 a1 a2 a3 a4 false) else ((laws_digits9.f k a3).bind fun t107 => (laws_number9.j0 k a0 a1 a2 a3 a4 (!t107)))) else ((laws_digits9.f k a2).bind fun t108 => (if t108 = true then (if a3.toList = ([] : List UInt8) then (laws_number9.j0 k a0 a1 a2 a3 a4 false) else ((laws_digits9.f k a3).bind fun t109 => (laws_number9.j0 k a0 a1 a2 a3 a4 (!t109)))) else (laws_number9.j0 k a0 a1 a2 a3 a4 true))))) else (laws_number9.j0 k a0 a1 a2 a3 a4 true))
theorem laws_number9.mono_l : ∀ k, (∀ y0 y1 y2 y3 y4 y5, LeO (laws_number9.j0 k y0 y1 y2 y3 y4 y5) (laws_number9.j0 (k + 1) y0 y1 y2 y3 y4 y5)) ∧ (∀ y0 y1 y2 y3, LeO (laws_number9.j1 k y0 y1 y2 y3) (laws_number9.j1 (k + 1) y0 y1 y2 y3))
  | 0 => ⟨fun _ _ _ _ _ _ r h => by simp [laws_number9.j0] at h, fun _ _ _ _ r h => by simp [laws_number9.j1] at h⟩
  | k + 1 => by
    obtain ⟨ih0, ih1⟩ := laws_number9.mono_l k
    refine ⟨?_, ?_⟩
    · intro y0 y1 y2 y3 y4 y5
      unfold laws_number9.j0
      repeat' first
      | (with_reducible exact ih0 _ _ _ _ _ _)
      | (with_reducible exact ih1 _ _ _ _)
      | (with_reducible exact laws_digits9.mono _ _)
      | (with_reducible exact LeO.refl _)
      | (with_reducible exact LeO.none _)
      | (with_reducible refine LeO.ite ?_ ?_)
      | (with_reducible refine LeO.bind ?_ (fun _ => ?_))
      | exact ih0 _ _ _ _ _ _
      | exact ih1 _ _ _ _
      | exact laws_digits9.mono _ _
      | exact LeO.none _
      | refine LeO.ite ?_ ?_
      | refine LeO.bind ?_ (fun _ => ?_)
    · intro y0 y1 y2 y3
      unfold laws_number9.j1
      repeat' first
      | (with_reducible exact ih0 _ _ _ _ _ _)
      | (with_reducible exact ih1 _ _ _ _)
      | (with_reducible exact laws_digits9.mono _ _)
      | (with_reducible exact LeO.refl _)
      | (with_reducible exact LeO.none _)
      | (with_reducible refine LeO.ite ?_ ?_)
      | (with_reducible refine LeO.bind ?_ (fun _ => ?_))
      | exact ih0 _ _ _ _ _ _
      | exact ih1 _ _ _ _
      | exact laws_digits9.mono _ _
      | exact LeO.none _
      | refine LeO.ite ?_ ?_
      | refine LeO.bind ?_ (fun _ => ?_)
theorem laws_number9.mono : ∀ a0 a1 a2 a3 a4 k, LeO (laws_number9.f k a0 a1 a2 a3 a4) (laws_number9.f (k + 1) a0 a1 a2 a3 a4) := by
  intro a0 a1 a2 a3 a4 k
  obtain ⟨ih0, ih1⟩ := laws_number9.mono_l k
  unfold laws_number9.f
  repeat' first
      | (with_reducible exact ih0 _ _ _ _ _ _)
      | (with_reducible exact ih1 _ _ _ _)
      | (with_reducible exact laws_digits9.mono _ _)
      | (with_reducible exact LeO.refl _)
      | (with_reducible exact LeO.none _)
      | (with_reducible refine LeO.ite ?_ ?_)
      | (with_reducible refine LeO.bind ?_ (fun _ => ?_))
      | exact ih0 _ _ _ _ _ _
      | exact ih1 _ _ _ _
      | exact laws_digits9.mono _ _
      | exact LeO.none _
      | refine LeO.ite ?_ ?_
      | refine LeO.bind ?_ (fun _ => ?_)
set_option maxHeartbeats 8000000 in
set_option maxRecDepth 100000 in
theorem laws_number9.calls (k : Nat) (a0 : Bool) (a1 : ByteArray) (a2 : ByteArray) (a3 : ByteArray) (a4 : Int) (r1 : ByteArray) (r2 : Bool) (r3 : Bool) (w : World) (h : laws_number9.f k a0 a1 a2 a3 a4 = some (r1, r2, r3)) :
    Calls Tryz.prog 15 #[.bool a0, .string a1, .string a2, .string a3, .int .u8 a4] w fun e w' => e = .returned (.tuple #[.string r1, .bool r2, .bool r3]) ∧ Below w.heap.size w w' := by
  have HB := Aside0.mk (Below.refl w.heap.size w)
  have H : ((laws_digits9.f k a1).bind fun t103 => (if t103 = true then (if (a1.size : Int) > 1 then (if 0 < (a1.size : Int) then (if (bt a1 0) = 48 then (laws_number9.j0 k a0 a1 a2 a3 a4 true) else (if a2.toList = ([] : List UInt8) then (if a3.toList = ([] : List UInt8) then (laws_number9.j0 k a0 a1 a2 a3 a4 false) else ((laws_digits9.f k a3).bind fun t104 => (laws_number9.j0 k a0 a1 a2 a3 a4 (!t104)))) else ((laws_digits9.f k a2).bind fun t105 => (if t105 = true then (if a3.toList = ([] : List UInt8) then (laws_number9.j0 k a0 a1 a2 a3 a4 false) else ((laws_digits9.f k a3).bind fun t106 => (laws_number9.j0 k a0 a1 a2 a3 a4 (!t106)))) else (laws_number9.j0 k a0 a1 a2 a3 a4 true))))) else (none)) else (if a2.toList = ([] : List UInt8) then (if a3.toList = ([] : List UInt8) then (laws_number9.j0 k a0 a1 a2 a3 a4 false) else ((laws_digits9.f k a3).bind fun t107 => (laws_number9.j0 k a0 a1 a2 a3 a4 (!t107)))) else ((laws_digits9.f k a2).bind fun t108 => (if t108 = true then (if a3.toList = ([] : List UInt8) then (laws_number9.j0 k a0 a1 a2 a3 a4 false) else ((laws_digits9.f k a3).bind fun t109 => (laws_number9.j0 k a0 a1 a2 a3 a4 (!t109)))) else (laws_number9.j0 k a0 a1 a2 a3 a4 true))))) else (laws_number9.j0 k a0 a1 a2 a3 a4 true))) = some (r1, r2, r3) := h
  clear h
  have HC6 := Aside0.mk H
  clear H
  go_enter Tryz.func15, Tryz.ntmps15
  go_upto_region 1 with (fail)
  go_cut [44] (fun v44 wc => ∃ (kq : Nat) (x44_5 : Bool), v44 = .bool x44_5 ∧ Aside0 (laws_number9.j0 kq a0 a1 a2 a3 a4 x44_5 = some (r1, r2, r3)) ∧ Aside0 (kq ≤ k) ∧ Aside0 (Below w.heap.size w wc))
  case first =>
    have H := HC6.out
    clear HC6
    replace H := Option.bind_eq_some_iff.mp H
    obtain ⟨t103, A70, H⟩ := H
    replace H : (if t103 = true then (if (a1.size : Int) > 1 then (if 0 < (a1.size : Int) then (if (bt a1 0) = 48 then (laws_number9.j0 k a0 a1 a2 a3 a4 true) else (if a2.toList = ([] : List UInt8) then (if a3.toList = ([] : List UInt8) then (laws_number9.j0 k a0 a1 a2 a3 a4 false) else ((laws_digits9.f k a3).bind fun t104 => (laws_number9.j0 k a0 a1 a2 a3 a4 (!t104)))) else ((laws_digits9.f k a2).bind fun t105 => (if t105 = true then (if a3.toList = ([] : List UInt8) then (laws_number9.j0 k a0 a1 a2 a3 a4 false) else ((laws_digits9.f k a3).bind fun t106 => (laws_number9.j0 k a0 a1 a2 a3 a4 (!t106)))) else (laws_number9.j0 k a0 a1 a2 a3 a4 true))))) else (none)) else (if a2.toList = ([] : List UInt8) then (if a3.toList = ([] : List UInt8) then (laws_number9.j0 k a0 a1 a2 a3 a4 false) else ((laws_digits9.f k a3).bind fun t107 => (laws_number9.j0 k a0 a1 a2 a3 a4 (!t107)))) else ((laws_digits9.f k a2).bind fun t108 => (if t108 = true then (if a3.toList = ([] : List UInt8) then (laws_number9.j0 k a0 a1 a2 a3 a4 false) else ((laws_digits9.f k a3).bind fun t109 => (laws_number9.j0 k a0 a1 a2 a3 a4 (!t109)))) else (laws_number9.j0 k a0 a1 a2 a3 a4 true))))) else (laws_number9.j0 k a0 a1 a2 a3 a4 true)) = some (r1, r2, r3) := H
    have A7 := Aside0.mk A70
    clear A70
    by_cases c8 : t103 = true
    · subst c8
      have H1 : (if (a1.size : Int) > 1 then (if 0 < (a1.size : Int) then (if (bt a1 0) = 48 then (laws_number9.j0 k a0 a1 a2 a3 a4 true) else (if a2.toList = ([] : List UInt8) then (if a3.toList = ([] : List UInt8) then (laws_number9.j0 k a0 a1 a2 a3 a4 false) else ((laws_digits9.f k a3).bind fun t104 => (laws_number9.j0 k a0 a1 a2 a3 a4 (!t104)))) else ((laws_digits9.f k a2).bind fun t105 => (if t105 = true then (if a3.toList = ([] : List UInt8) then (laws_number9.j0 k a0 a1 a2 a3 a4 false) else ((laws_digits9.f k a3).bind fun t106 => (laws_number9.j0 k a0 a1 a2 a3 a4 (!t106)))) else (laws_number9.j0 k a0 a1 a2 a3 a4 true))))) else (none)) else (if a2.toList = ([] : List UInt8) then (if a3.toList = ([] : List UInt8) then (laws_number9.j0 k a0 a1 a2 a3 a4 false) else ((laws_digits9.f k a3).bind fun t107 => (laws_number9.j0 k a0 a1 a2 a3 a4 (!t107)))) else ((laws_digits9.f k a2).bind fun t108 => (if t108 = true then (if a3.toList = ([] : List UInt8) then (laws_number9.j0 k a0 a1 a2 a3 a4 false) else ((laws_digits9.f k a3).bind fun t109 => (laws_number9.j0 k a0 a1 a2 a3 a4 (!t109)))) else (laws_number9.j0 k a0 a1 a2 a3 a4 true))))) = some (r1, r2, r3) := by rw [if_pos rfl] at H; exact H
      clear H
      have H := H1
      clear H1
      by_cases c9 : (a1.size : Int) > 1
      · rw [if_pos c9] at H
        have c9b0 : decide (1 < (a1.size : Int)) = true := decide_eq_true c9
        have c9b1 : decide (1 < a1.size) = true := decide_eq_true (by omega)
        clear c9
        (first | rw [c9b0] | (simp only [i64_w, i32_w]; rw [c9b0]) | skip)
        by_cases c10 : 0 < (a1.size : Int)
        · rw [if_pos c10] at H
          have c10b0 : decide (0 < (a1.size : Int)) = true := decide_eq_true c10
          have c10b1 : decide (0 < a1.size) = true := decide_eq_true (by omega)
          clear c10
          by_cases c12 : (bt a1 0) = 48
          · rw [if_pos c12] at H
            have c12b0 : ((bt a1 0) == 48) = true := beq_iff_eq.mpr c12
            have c12b1 : ((bt a1 0) != 48) = false := bne_eq_false_iff_eq.mpr c12
            clear c12
            have H' := Aside0.mk H
            clear H
            go_wp2_with (first | ((with_reducible refine gate_callee (f := 16) rfl ?_); refine goesL_ (some 15) rfl rfl Tryz.func16 (by kernel_rfl) rfl #[.string a1] rfl (by (try simp only [List.map_toArray, List.map_cons, List.map_nil]); first | done | rfl | (simp only [List.length_drop, List.length_take]; rfl)) ?_; (with_reducible refine (laws_digits9.calls k a1 true _ A7.out).mono ?_); rintro e w' ⟨rfl, ⟨nd, rfl⟩⟩; refine ⟨_, rfl, ?_⟩; have p11 : 0 ≤ (0 : Int) := (by omega); have q11 : 0 < a1.size := (by have : (0 : Int) < (a1.size : Int) := of_decide_eq_true (by first | (with_reducible assumption) | assumption); omega); have hx11 : ∀ h : 0 < a1.size, ((a1[0]'h).toNat : Int) = bt a1 0 := bt_at a1 0; clear p11; have qi11 : (0 < (a1.size : Int)) = True := eq_true (of_decide_eq_true (by first | (with_reducible assumption) | assumption)); replace q11 := eq_true q11))
            go_meet
            case rel => exact ⟨_, (true), (by first | rfl | (simp; done) | (simp [*]; done)), H', ⟨by first | omega | exact Nat.le_refl _⟩, ⟨by repeat (first | (with_reducible first | exact HB.out | apply below_alloc | apply pw_below_drewN | apply below_drew1) | exact HB.out)⟩⟩
          · rw [if_neg c12] at H
            have c12b0 : ((bt a1 0) == 48) = false := beq_eq_false_iff_ne.mpr c12
            have c12b1 : ((bt a1 0) != 48) = true := bne_iff_ne.mpr c12
            by_cases c13 : a2.toList = ([] : List UInt8)
            · rw [if_pos c13] at H
              have c13b0 : (a2.toList == ([] : List UInt8)) = true := beq_iff_eq.mpr c13
              have c13b1 : (a2.toList != ([] : List UInt8)) = false := bne_eq_false_iff_eq.mpr c13
              clear c13
              by_cases c14 : a3.toList = ([] : List UInt8)
              · rw [if_pos c14] at H
                have c14b0 : (a3.toList == ([] : List UInt8)) = true := beq_iff_eq.mpr c14
                have c14b1 : (a3.toList != ([] : List UInt8)) = false := bne_eq_false_iff_eq.mpr c14
                clear c14
                have H' := Aside0.mk H
                clear H
                go_wp2_with (first | ((with_reducible refine gate_callee (f := 16) rfl ?_); refine goesL_ (some 15) rfl rfl Tryz.func16 (by kernel_rfl) rfl #[.string a1] rfl (by (try simp only [List.map_toArray, List.map_cons, List.map_nil]); first | done | rfl | (simp only [List.length_drop, List.length_take]; rfl)) ?_; (with_reducible refine (laws_digits9.calls k a1 true _ A7.out).mono ?_); rintro e w' ⟨rfl, ⟨nd, rfl⟩⟩; refine ⟨_, rfl, ?_⟩; have p11 : 0 ≤ (0 : Int) := (by omega); have q11 : 0 < a1.size := (by have : (0 : Int) < (a1.size : Int) := of_decide_eq_true (by first | (with_reducible assumption) | assumption); omega); have hx11 : ∀ h : 0 < a1.size, ((a1[0]'h).toNat : Int) = bt a1 0 := bt_at a1 0; clear p11; have qi11 : (0 < (a1.size : Int)) = True := eq_true (of_decide_eq_true (by first | (with_reducible assumption) | assumption)); replace q11 := eq_true q11))
                go_meet
                case rel => exact ⟨_, (false), (by first | rfl | (simp; done) | (simp [*]; done)), H', ⟨by first | omega | exact Nat.le_refl _⟩, ⟨by repeat (first | (with_reducible first | exact HB.out | apply below_alloc | apply pw_below_drewN | apply below_drew1) | exact HB.out)⟩⟩
              · rw [if_neg c14] at H
                have c14b0 : (a3.toList == ([] : List UInt8)) = false := beq_eq_false_iff_ne.mpr c14
                have c14b1 : (a3.toList != ([] : List UInt8)) = true := bne_iff_ne.mpr c14
                replace H := Option.bind_eq_some_iff.mp H
                obtain ⟨t104, A150, H⟩ := H
                replace H : (laws_number9.j0 k a0 a1 a2 a3 a4 (!t104)) = some (r1, r2, r3) := H
                have A15 := Aside0.mk A150
                clear A150
                have H' := Aside0.mk H
                clear H
                go_wp2_with (first | ((with_reducible refine gate_callee (f := 16) rfl ?_); refine goesL_ (some 15) rfl rfl Tryz.func16 (by kernel_rfl) rfl #[.string a1] rfl (by (try simp only [List.map_toArray, List.map_cons, List.map_nil]); first | done | rfl | (simp only [List.length_drop, List.length_take]; rfl)) ?_; (with_reducible refine (laws_digits9.calls k a1 true _ A7.out).mono ?_); rintro e w' ⟨rfl, ⟨nd, rfl⟩⟩; refine ⟨_, rfl, ?_⟩; have p11 : 0 ≤ (0 : Int) := (by omega); have q11 : 0 < a1.size := (by have : (0 : Int) < (a1.size : Int) := of_decide_eq_true (by first | (with_reducible assumption) | assumption); omega); have hx11 : ∀ h : 0 < a1.size, ((a1[0]'h).toNat : Int) = bt a1 0 := bt_at a1 0; clear p11; have qi11 : (0 < (a1.size : Int)) = True := eq_true (of_decide_eq_true (by first | (with_reducible assumption) | assumption)); replace q11 := eq_true q11) | (go_at_call 16; (with_reducible refine (laws_digits9.calls k a3 t104 _ A15.out).mono ?_); rintro e w' ⟨rfl, ⟨nd, rfl⟩⟩))
                go_meet
                case rel => exact ⟨_, (!t104), (by first | rfl | (simp; done) | (simp [*]; done)), H', ⟨by first | omega | exact Nat.le_refl _⟩, ⟨by repeat (first | (with_reducible first | exact HB.out | apply below_alloc | apply pw_below_drewN | apply below_drew1) | exact HB.out)⟩⟩
            · rw [if_neg c13] at H
              have c13b0 : (a2.toList == ([] : List UInt8)) = false := beq_eq_false_iff_ne.mpr c13
              have c13b1 : (a2.toList != ([] : List UInt8)) = true := bne_iff_ne.mpr c13
              replace H := Option.bind_eq_some_iff.mp H
              obtain ⟨t105, A160, H⟩ := H
              replace H : (if t105 = true then (if a3.toList = ([] : List UInt8) then (laws_number9.j0 k a0 a1 a2 a3 a4 false) else ((laws_digits9.f k a3).bind fun t106 => (laws_number9.j0 k a0 a1 a2 a3 a4 (!t106)))) else (laws_number9.j0 k a0 a1 a2 a3 a4 true)) = some (r1, r2, r3) := H
              have A16 := Aside0.mk A160
              clear A160
              by_cases c17 : t105 = true
              · subst c17
                have H1 : (if a3.toList = ([] : List UInt8) then (laws_number9.j0 k a0 a1 a2 a3 a4 false) else ((laws_digits9.f k a3).bind fun t106 => (laws_number9.j0 k a0 a1 a2 a3 a4 (!t106)))) = some (r1, r2, r3) := by rw [if_pos rfl] at H; exact H
                clear H
                have H := H1
                clear H1
                by_cases c18 : a3.toList = ([] : List UInt8)
                · rw [if_pos c18] at H
                  have c18b0 : (a3.toList == ([] : List UInt8)) = true := beq_iff_eq.mpr c18
                  have c18b1 : (a3.toList != ([] : List UInt8)) = false := bne_eq_false_iff_eq.mpr c18
                  clear c18
                  have H' := Aside0.mk H
                  clear H
                  go_wp2_with (first | ((with_reducible refine gate_callee (f := 16) rfl ?_); refine goesL_ (some 15) rfl rfl Tryz.func16 (by kernel_rfl) rfl #[.string a1] rfl (by (try simp only [List.map_toArray, List.map_cons, List.map_nil]); first | done | rfl | (simp only [List.length_drop, List.length_take]; rfl)) ?_; (with_reducible refine (laws_digits9.calls k a1 true _ A7.out).mono ?_); rintro e w' ⟨rfl, ⟨nd, rfl⟩⟩; refine ⟨_, rfl, ?_⟩; have p11 : 0 ≤ (0 : Int) := (by omega); have q11 : 0 < a1.size := (by have : (0 : Int) < (a1.size : Int) := of_decide_eq_true (by first | (with_reducible assumption) | assumption); omega); have hx11 : ∀ h : 0 < a1.size, ((a1[0]'h).toNat : Int) = bt a1 0 := bt_at a1 0; clear p11; have qi11 : (0 < (a1.size : Int)) = True := eq_true (of_decide_eq_true (by first | (with_reducible assumption) | assumption)); replace q11 := eq_true q11) | (go_at_call 16; (with_reducible refine (laws_digits9.calls k a2 true _ A16.out).mono ?_); rintro e w' ⟨rfl, ⟨nd, rfl⟩⟩))
                  go_meet
                  case rel => exact ⟨_, (false), (by first | rfl | (simp; done) | (simp [*]; done)), H', ⟨by first | omega | exact Nat.le_refl _⟩, ⟨by repeat (first | (with_reducible first | exact HB.out | apply below_alloc | apply pw_below_drewN | apply below_drew1) | exact HB.out)⟩⟩
                · rw [if_neg c18] at H
                  have c18b0 : (a3.toList == ([] : List UInt8)) = false := beq_eq_false_iff_ne.mpr c18
                  have c18b1 : (a3.toList != ([] : List UInt8)) = true := bne_iff_ne.mpr c18
                  replace H := Option.bind_eq_some_iff.mp H
                  obtain ⟨t106, A190, H⟩ := H
                  replace H : (laws_number9.j0 k a0 a1 a2 a3 a4 (!t106)) = some (r1, r2, r3) := H
                  have A19 := Aside0.mk A190
                  clear A190
                  have H' := Aside0.mk H
                  clear H
                  go_wp2_with (first | ((with_reducible refine gate_callee (f := 16) rfl ?_); refine goesL_ (some 15) rfl rfl Tryz.func16 (by kernel_rfl) rfl #[.string a1] rfl (by (try simp only [List.map_toArray, List.map_cons, List.map_nil]); first | done | rfl | (simp only [List.length_drop, List.length_take]; rfl)) ?_; (with_reducible refine (laws_digits9.calls k a1 true _ A7.out).mono ?_); rintro e w' ⟨rfl, ⟨nd, rfl⟩⟩; refine ⟨_, rfl, ?_⟩; have p11 : 0 ≤ (0 : Int) := (by omega); have q11 : 0 < a1.size := (by have : (0 : Int) < (a1.size : Int) := of_decide_eq_true (by first | (with_reducible assumption) | assumption); omega); have hx11 : ∀ h : 0 < a1.size, ((a1[0]'h).toNat : Int) = bt a1 0 := bt_at a1 0; clear p11; have qi11 : (0 < (a1.size : Int)) = True := eq_true (of_decide_eq_true (by first | (with_reducible assumption) | assumption)); replace q11 := eq_true q11) | (go_at_call 16; (with_reducible refine (laws_digits9.calls k a2 true _ A16.out).mono ?_); rintro e w' ⟨rfl, ⟨nd, rfl⟩⟩) | (go_at_call 16; (with_reducible refine (laws_digits9.calls k a3 t106 _ A19.out).mono ?_); rintro e w' ⟨rfl, ⟨nd, rfl⟩⟩))
                  go_meet
                  case rel => exact ⟨_, (!t106), (by first | rfl | (simp; done) | (simp [*]; done)), H', ⟨by first | omega | exact Nat.le_refl _⟩, ⟨by repeat (first | (with_reducible first | exact HB.out | apply below_alloc | apply pw_below_drewN | apply below_drew1) | exact HB.out)⟩⟩
              · replace c17 := Bool.eq_false_iff.mpr c17
                subst c17
                have H1 : (laws_number9.j0 k a0 a1 a2 a3 a4 true) = some (r1, r2, r3) := by rw [if_neg (show ¬ (false = true) by decide)] at H; exact H
                clear H
                have H := H1
                clear H1
                have H' := Aside0.mk H
                clear H
                go_wp2_with (first | ((with_reducible refine gate_callee (f := 16) rfl ?_); refine goesL_ (some 15) rfl rfl Tryz.func16 (by kernel_rfl) rfl #[.string a1] rfl (by (try simp only [List.map_toArray, List.map_cons, List.map_nil]); first | done | rfl | (simp only [List.length_drop, List.length_take]; rfl)) ?_; (with_reducible refine (laws_digits9.calls k a1 true _ A7.out).mono ?_); rintro e w' ⟨rfl, ⟨nd, rfl⟩⟩; refine ⟨_, rfl, ?_⟩; have p11 : 0 ≤ (0 : Int) := (by omega); have q11 : 0 < a1.size := (by have : (0 : Int) < (a1.size : Int) := of_decide_eq_true (by first | (with_reducible assumption) | assumption); omega); have hx11 : ∀ h : 0 < a1.size, ((a1[0]'h).toNat : Int) = bt a1 0 := bt_at a1 0; clear p11; have qi11 : (0 < (a1.size : Int)) = True := eq_true (of_decide_eq_true (by first | (with_reducible assumption) | assumption)); replace q11 := eq_true q11) | (go_at_call 16; (with_reducible refine (laws_digits9.calls k a2 false _ A16.out).mono ?_); rintro e w' ⟨rfl, ⟨nd, rfl⟩⟩))
                go_meet
                case rel => exact ⟨_, (true), (by first | rfl | (simp; done) | (simp [*]; done)), H', ⟨by first | omega | exact Nat.le_refl _⟩, ⟨by repeat (first | (with_reducible first | exact HB.out | apply below_alloc | apply pw_below_drewN | apply below_drew1) | exact HB.out)⟩⟩
        · rw [if_neg c10] at H
          exact absurd H (by simp)
      · rw [if_neg c9] at H
        have c9b0 : decide (1 < (a1.size : Int)) = false := decide_eq_false c9
        have c9b1 : decide (1 < a1.size) = false := decide_eq_false (by omega)
        clear c9
        (first | rw [c9b0] | (simp only [i64_w, i32_w]; rw [c9b0]) | skip)
        by_cases c20 : a2.toList = ([] : List UInt8)
        · rw [if_pos c20] at H
          have c20b0 : (a2.toList == ([] : List UInt8)) = true := beq_iff_eq.mpr c20
          have c20b1 : (a2.toList != ([] : List UInt8)) = false := bne_eq_false_iff_eq.mpr c20
          clear c20
          by_cases c21 : a3.toList = ([] : List UInt8)
          · rw [if_pos c21] at H
            have c21b0 : (a3.toList == ([] : List UInt8)) = true := beq_iff_eq.mpr c21
            have c21b1 : (a3.toList != ([] : List UInt8)) = false := bne_eq_false_iff_eq.mpr c21
            clear c21
            have H' := Aside0.mk H
            clear H
            go_wp2_with (first | ((with_reducible refine gate_callee (f := 16) rfl ?_); refine goesL_ (some 15) rfl rfl Tryz.func16 (by kernel_rfl) rfl #[.string a1] rfl (by (try simp only [List.map_toArray, List.map_cons, List.map_nil]); first | done | rfl | (simp only [List.length_drop, List.length_take]; rfl)) ?_; (with_reducible refine (laws_digits9.calls k a1 true _ A7.out).mono ?_); rintro e w' ⟨rfl, ⟨nd, rfl⟩⟩; refine ⟨_, rfl, ?_⟩))
            go_meet
            case rel => exact ⟨_, (false), (by first | rfl | (simp; done) | (simp [*]; done)), H', ⟨by first | omega | exact Nat.le_refl _⟩, ⟨by repeat (first | (with_reducible first | exact HB.out | apply below_alloc | apply pw_below_drewN | apply below_drew1) | exact HB.out)⟩⟩
          · rw [if_neg c21] at H
            have c21b0 : (a3.toList == ([] : List UInt8)) = false := beq_eq_false_iff_ne.mpr c21
            have c21b1 : (a3.toList != ([] : List UInt8)) = true := bne_iff_ne.mpr c21
            replace H := Option.bind_eq_some_iff.mp H
            obtain ⟨t107, A220, H⟩ := H
            replace H : (laws_number9.j0 k a0 a1 a2 a3 a4 (!t107)) = some (r1, r2, r3) := H
            have A22 := Aside0.mk A220
            clear A220
            have H' := Aside0.mk H
            clear H
            go_wp2_with (first | ((with_reducible refine gate_callee (f := 16) rfl ?_); refine goesL_ (some 15) rfl rfl Tryz.func16 (by kernel_rfl) rfl #[.string a1] rfl (by (try simp only [List.map_toArray, List.map_cons, List.map_nil]); first | done | rfl | (simp only [List.length_drop, List.length_take]; rfl)) ?_; (with_reducible refine (laws_digits9.calls k a1 true _ A7.out).mono ?_); rintro e w' ⟨rfl, ⟨nd, rfl⟩⟩; refine ⟨_, rfl, ?_⟩) | (go_at_call 16; (with_reducible refine (laws_digits9.calls k a3 t107 _ A22.out).mono ?_); rintro e w' ⟨rfl, ⟨nd, rfl⟩⟩))
            go_meet
            case rel => exact ⟨_, (!t107), (by first | rfl | (simp; done) | (simp [*]; done)), H', ⟨by first | omega | exact Nat.le_refl _⟩, ⟨by repeat (first | (with_reducible first | exact HB.out | apply below_alloc | apply pw_below_drewN | apply below_drew1) | exact HB.out)⟩⟩
        · rw [if_neg c20] at H
          have c20b0 : (a2.toList == ([] : List UInt8)) = false := beq_eq_false_iff_ne.mpr c20
          have c20b1 : (a2.toList != ([] : List UInt8)) = true := bne_iff_ne.mpr c20
          replace H := Option.bind_eq_some_iff.mp H
          obtain ⟨t108, A230, H⟩ := H
          replace H : (if t108 = true then (if a3.toList = ([] : List UInt8) then (laws_number9.j0 k a0 a1 a2 a3 a4 false) else ((laws_digits9.f k a3).bind fun t109 => (laws_number9.j0 k a0 a1 a2 a3 a4 (!t109)))) else (laws_number9.j0 k a0 a1 a2 a3 a4 true)) = some (r1, r2, r3) := H
          have A23 := Aside0.mk A230
          clear A230
          by_cases c24 : t108 = true
          · subst c24
            have H1 : (if a3.toList = ([] : List UInt8) then (laws_number9.j0 k a0 a1 a2 a3 a4 false) else ((laws_digits9.f k a3).bind fun t109 => (laws_number9.j0 k a0 a1 a2 a3 a4 (!t109)))) = some (r1, r2, r3) := by rw [if_pos rfl] at H; exact H
            clear H
            have H := H1
            clear H1
            by_cases c25 : a3.toList = ([] : List UInt8)
            · rw [if_pos c25] at H
              have c25b0 : (a3.toList == ([] : List UInt8)) = true := beq_iff_eq.mpr c25
              have c25b1 : (a3.toList != ([] : List UInt8)) = false := bne_eq_false_iff_eq.mpr c25
              clear c25
              have H' := Aside0.mk H
              clear H
              go_wp2_with (first | ((with_reducible refine gate_callee (f := 16) rfl ?_); refine goesL_ (some 15) rfl rfl Tryz.func16 (by kernel_rfl) rfl #[.string a1] rfl (by (try simp only [List.map_toArray, List.map_cons, List.map_nil]); first | done | rfl | (simp only [List.length_drop, List.length_take]; rfl)) ?_; (with_reducible refine (laws_digits9.calls k a1 true _ A7.out).mono ?_); rintro e w' ⟨rfl, ⟨nd, rfl⟩⟩; refine ⟨_, rfl, ?_⟩) | (go_at_call 16; (with_reducible refine (laws_digits9.calls k a2 true _ A23.out).mono ?_); rintro e w' ⟨rfl, ⟨nd, rfl⟩⟩))
              go_meet
              case rel => exact ⟨_, (false), (by first | rfl | (simp; done) | (simp [*]; done)), H', ⟨by first | omega | exact Nat.le_refl _⟩, ⟨by repeat (first | (with_reducible first | exact HB.out | apply below_alloc | apply pw_below_drewN | apply below_drew1) | exact HB.out)⟩⟩
            · rw [if_neg c25] at H
              have c25b0 : (a3.toList == ([] : List UInt8)) = false := beq_eq_false_iff_ne.mpr c25
              have c25b1 : (a3.toList != ([] : List UInt8)) = true := bne_iff_ne.mpr c25
              replace H := Option.bind_eq_some_iff.mp H
              obtain ⟨t109, A260, H⟩ := H
              replace H : (laws_number9.j0 k a0 a1 a2 a3 a4 (!t109)) = some (r1, r2, r3) := H
              have A26 := Aside0.mk A260
              clear A260
              have H' := Aside0.mk H
              clear H
              go_wp2_with (first | ((with_reducible refine gate_callee (f := 16) rfl ?_); refine goesL_ (some 15) rfl rfl Tryz.func16 (by kernel_rfl) rfl #[.string a1] rfl (by (try simp only [List.map_toArray, List.map_cons, List.map_nil]); first | done | rfl | (simp only [List.length_drop, List.length_take]; rfl)) ?_; (with_reducible refine (laws_digits9.calls k a1 true _ A7.out).mono ?_); rintro e w' ⟨rfl, ⟨nd, rfl⟩⟩; refine ⟨_, rfl, ?_⟩) | (go_at_call 16; (with_reducible refine (laws_digits9.calls k a2 true _ A23.out).mono ?_); rintro e w' ⟨rfl, ⟨nd, rfl⟩⟩) | (go_at_call 16; (with_reducible refine (laws_digits9.calls k a3 t109 _ A26.out).mono ?_); rintro e w' ⟨rfl, ⟨nd, rfl⟩⟩))
              go_meet
              case rel => exact ⟨_, (!t109), (by first | rfl | (simp; done) | (simp [*]; done)), H', ⟨by first | omega | exact Nat.le_refl _⟩, ⟨by repeat (first | (with_reducible first | exact HB.out | apply below_alloc | apply pw_below_drewN | apply below_drew1) | exact HB.out)⟩⟩
          · replace c24 := Bool.eq_false_iff.mpr c24
            subst c24
            have H1 : (laws_number9.j0 k a0 a1 a2 a3 a4 true) = some (r1, r2, r3) := by rw [if_neg (show ¬ (false = true) by decide)] at H; exact H
            clear H
            have H := H1
            clear H1
            have H' := Aside0.mk H
            clear H
            go_wp2_with (first | ((with_reducible refine gate_callee (f := 16) rfl ?_); refine goesL_ (some 15) rfl rfl Tryz.func16 (by kernel_rfl) rfl #[.string a1] rfl (by (try simp only [List.map_toArray, List.map_cons, List.map_nil]); first | done | rfl | (simp only [List.length_drop, List.length_take]; rfl)) ?_; (with_reducible refine (laws_digits9.calls k a1 true _ A7.out).mono ?_); rintro e w' ⟨rfl, ⟨nd, rfl⟩⟩; refine ⟨_, rfl, ?_⟩) | (go_at_call 16; (with_reducible refine (laws_digits9.calls k a2 false _ A23.out).mono ?_); rintro e w' ⟨rfl, ⟨nd, rfl⟩⟩))
            go_meet
            case rel => exact ⟨_, (true), (by first | rfl | (simp; done) | (simp [*]; done)), H', ⟨by first | omega | exact Nat.le_refl _⟩, ⟨by repeat (first | (with_reducible first | exact HB.out | apply below_alloc | apply pw_below_drewN | apply below_drew1) | exact HB.out)⟩⟩
    · replace c8 := Bool.eq_false_iff.mpr c8
      subst c8
      have H1 : (laws_number9.j0 k a0 a1 a2 a3 a4 true) = some (r1, r2, r3) := by rw [if_neg (show ¬ (false = true) by decide)] at H; exact H
      clear H
      have H := H1
      clear H1
      have H' := Aside0.mk H
      clear H
      go_wp2_with (first | ((with_reducible refine gate_callee (f := 16) rfl ?_); refine goesL_ (some 15) rfl rfl Tryz.func16 (by kernel_rfl) rfl #[.string a1] rfl (by (try simp only [List.map_toArray, List.map_cons, List.map_nil]); first | done | rfl | (simp only [List.length_drop, List.length_take]; rfl)) ?_; (with_reducible refine (laws_digits9.calls k a1 false _ A7.out).mono ?_); rintro e w' ⟨rfl, ⟨nd, rfl⟩⟩; refine ⟨_, rfl, ?_⟩))
      go_meet
      case rel => exact ⟨_, (true), (by first | rfl | (simp; done) | (simp [*]; done)), H', ⟨by first | omega | exact Nat.le_refl _⟩, ⟨by repeat (first | (with_reducible first | exact HB.out | apply below_alloc | apply pw_below_drewN | apply below_drew1) | exact HB.out)⟩⟩
  case rest =>
    clear HC6
    try clear c1
    try clear p1
    try clear q1
    try clear hx1
    try clear qi1
    try clear c2
    try clear p2
    try clear c8
    try clear c9
    try clear c9b0
    try clear c9b1
    try clear c10
    try clear c10b0
    try clear c10b1
    try clear p11
    try clear q11
    try clear hx11
    try clear qi11
    try clear c12
    try clear c12b0
    try clear c12b1
    try clear c13
    try clear c13b0
    try clear c13b1
    try clear c14
    try clear c14b0
    try clear c14b1
    try clear c15
    try clear c16
    try clear c17
    try clear c18
    try clear c18b0
    try clear c18b1
    try clear c20
    try clear c20b0
    try clear c20b1
    try clear c21
    try clear c21b0
    try clear c21b1
    try clear c24
    try clear c25
    try clear c25b0
    try clear c25b1
    try clear p11
    try clear q11
    obtain ⟨kq, x44_5, rfl, HA, HJ5, HB⟩ := hcut
    cases kq with
    | zero => exact absurd HA.out (by simp [laws_number9.j0])
    | succ kj5 =>
      have H := HA.out
      clear HA
      simp only [laws_number9.j0] at H
      by_cases c27 : x44_5 = true
      · subst c27
        have H1 : (some ((⟨#[]⟩ : ByteArray), false, false)) = some (r1, r2, r3) := by rw [if_pos rfl] at H; exact H
        clear H
        have H := H1
        clear H1
        simp only [Option.some.injEq, Prod.mk.injEq] at H
        obtain ⟨rfl, rfl, rfl⟩ := H
        go_wp2
        go_ret3
        exact ⟨by first | rfl | (simp [errW_none, errW_some] <;> rfl) | (simp [*, errW_none, errW_some] <;> rfl), by repeat (first | (with_reducible first | exact HB.out | apply below_alloc | apply pw_below_drewN | apply below_drew1) | exact HB.out)⟩
      · replace c27 := Bool.eq_false_iff.mpr c27
        subst c27
        have H1 : (if a0 = true then (if 1 + a1.size ≤ 9223372036854775807 then (laws_number9.j1 kj5 a2 a3 a4 ((⟨#[45]⟩ : ByteArray) ++ a1)) else (none)) else (laws_number9.j1 kj5 a2 a3 a4 a1)) = some (r1, r2, r3) := by rw [if_neg (show ¬ (false = true) by decide)] at H; exact H
        clear H
        have H := H1
        clear H1
        have HC28 := Aside0.mk H
        clear H
        go_upto_if 46 with (fail)
        go_cut [13] (fun v13 wc => ∃ (kq : Nat) (x13_27 : ByteArray), v13 = .string x13_27 ∧ Aside0 (laws_number9.j1 kq a2 a3 a4 x13_27 = some (r1, r2, r3)) ∧ Aside0 (kq ≤ kj5) ∧ Aside0 (Below w.heap.size w wc))
        case first =>
          have H := HC28.out
          clear HC28
          by_cases c29 : a0 = true
          · subst c29
            have H1 : (if 1 + a1.size ≤ 9223372036854775807 then (laws_number9.j1 kj5 a2 a3 a4 ((⟨#[45]⟩ : ByteArray) ++ a1)) else (none)) = some (r1, r2, r3) := by rw [if_pos rfl] at H; exact H
            clear H
            have H := H1
            clear H1
            by_cases c30 : 1 + a1.size ≤ 9223372036854775807
            · rw [if_pos c30] at H
              have c30b0 := eq_true c30
              have c30b1 : decide (1 + a1.size ≤ 9223372036854775807) = true := decide_eq_true c30
              try have c30b2 : (9223372036854775807 < 1 + a1.size) = False := eq_false (Nat.not_lt.2 c30)
              have H' := Aside0.mk H
              clear H
              go_wp2
              go_meet
              case rel => exact ⟨_, ((⟨#[45]⟩ : ByteArray) ++ a1), (by first | rfl | (simp; done) | (simp [*]; done)), H', ⟨by have := HJ5.out; first | omega | exact Nat.le_refl _⟩, ⟨by repeat (first | (with_reducible first | exact HB.out | apply below_alloc | apply pw_below_drewN | apply below_drew1) | exact HB.out)⟩⟩
            · rw [if_neg c30] at H
              exact absurd H (by simp)
          · replace c29 := Bool.eq_false_iff.mpr c29
            subst c29
            have H1 : (laws_number9.j1 kj5 a2 a3 a4 a1) = some (r1, r2, r3) := by rw [if_neg (show ¬ (false = true) by decide)] at H; exact H
            clear H
            have H := H1
            clear H1
            have H' := Aside0.mk H
            clear H
            go_wp2
            go_meet
            case rel => exact ⟨_, (a1), (by first | rfl | (simp; done) | (simp [*]; done)), H', ⟨by have := HJ5.out; first | omega | exact Nat.le_refl _⟩, ⟨by repeat (first | (with_reducible first | exact HB.out | apply below_alloc | apply pw_below_drewN | apply below_drew1) | exact HB.out)⟩⟩
        case rest =>
          clear HC28
          try clear c1
          try clear p1
          try clear q1
          try clear hx1
          try clear qi1
          try clear c2
          try clear p2
          try clear c3
          try clear c8
          try clear c9
          try clear c9b0
          try clear c9b1
          try clear c10
          try clear c10b0
          try clear c10b1
          try clear p11
          try clear q11
          try clear hx11
          try clear qi11
          try clear c12
          try clear c12b0
          try clear c12b1
          try clear c13
          try clear c13b0
          try clear c13b1
          try clear c14
          try clear c14b0
          try clear c14b1
          try clear c15
          try clear c16
          try clear c17
          try clear c18
          try clear c18b0
          try clear c18b1
          try clear c20
          try clear c20b0
          try clear c20b1
          try clear c21
          try clear c21b0
          try clear c21b1
          try clear c24
          try clear c25
          try clear c25b0
          try clear c25b1
          try clear c27
          try clear c29
          try clear c30
          try clear c30b0
          try clear c30b1
          try clear c30b2
          try clear p1
          try clear p11
          try clear p2
          try clear q1
          try clear q11
          obtain ⟨kq, x13_27, rfl, HA, HJ27, HB⟩ := hcut
          cases kq with
          | zero => exact absurd HA.out (by simp [laws_number9.j1])
          | succ kj27 =>
            have H := HA.out
            clear HA
            simp only [laws_number9.j1] at H
            by_cases c31 : a2.toList = ([] : List UInt8)
            · rw [if_pos c31] at H
              have c31b0 : (a2.toList == ([] : List UInt8)) = true := beq_iff_eq.mpr c31
              have c31b1 : (a2.toList != ([] : List UInt8)) = false := bne_eq_false_iff_eq.mpr c31
              clear c31
              by_cases c32 : a3.toList = ([] : List UInt8)
              · rw [if_pos c32] at H
                have c32b0 : (a3.toList == ([] : List UInt8)) = true := beq_iff_eq.mpr c32
                have c32b1 : (a3.toList != ([] : List UInt8)) = false := bne_eq_false_iff_eq.mpr c32
                clear c32
                simp only [Option.some.injEq, Prod.mk.injEq] at H
                obtain ⟨rfl, rfl, rfl⟩ := H
                go_wp2
                go_ret3
                exact ⟨by first | rfl | (simp [errW_none, errW_some] <;> rfl) | (simp [*, errW_none, errW_some] <;> rfl), by repeat (first | (with_reducible first | exact HB.out | apply below_alloc | apply pw_below_drewN | apply below_drew1) | exact HB.out)⟩
              · rw [if_neg c32] at H
                have c32b0 : (a3.toList == ([] : List UInt8)) = false := beq_eq_false_iff_ne.mpr c32
                have c32b1 : (a3.toList != ([] : List UInt8)) = true := bne_iff_ne.mpr c32
                obtain ⟨y110, hy110⟩ : ∃ y_ : List ByteArray, y_ = (([(⟨#[101]⟩ : ByteArray), (⟨#[69]⟩ : ByteArray), (⟨#[101, 43]⟩ : ByteArray), (⟨#[69, 45]⟩ : ByteArray)] : List ByteArray)) := ⟨_, rfl⟩
                replace H : (if 0 ≤ (Int.tmod a4 4) then (if (Int.tmod a4 4) < (y110.length : Int) then (if (rdOf ByteArray.empty y110 (Int.tmod a4 4)).size + a3.size ≤ 9223372036854775807 then (if x13_27.size + ((rdOf ByteArray.empty y110 (Int.tmod a4 4)) ++ a3).size ≤ 9223372036854775807 then (some (x13_27 ++ ((rdOf ByteArray.empty y110 (Int.tmod a4 4)) ++ a3), (a3.toList != ([] : List UInt8)), true)) else (none)) else (none)) else (none)) else (none)) = some (r1, r2, r3) := by first | (rw [hy110]; with_reducible exact H) | (have H2_ := (Option.bind_some _ _).symm.trans H; rw [hy110]; with_reducible exact H2_) | (have H2_ := (Option.bind_some _ _).symm.trans H; with_reducible exact H2_) | with_reducible exact H | (rw [hy110]; exact H) | exact H
                have Ny110 := Aside0.mk hy110
                clear hy110
                obtain ⟨ji33, hji33⟩ : ∃ j_ : Int, (Int.tmod a4 4) = j_ := ⟨_, rfl⟩
                replace H : (if 0 ≤ (ji33) then (if (ji33) < (y110.length : Int) then (if (rdOf ByteArray.empty y110 (ji33)).size + a3.size ≤ 9223372036854775807 then (if x13_27.size + ((rdOf ByteArray.empty y110 (ji33)) ++ a3).size ≤ 9223372036854775807 then (some (x13_27 ++ ((rdOf ByteArray.empty y110 (ji33)) ++ a3), (a3.toList != ([] : List UInt8)), true)) else (none)) else (none)) else (none)) else (none)) = some (r1, r2, r3) := by first | (rw [hji33] at H; exact H) | (simp only [hji33] at H ⊢; exact H)
                by_cases c34 : 0 ≤ (ji33)
                · rw [if_pos c34] at H
                  have c34b0 : decide (0 ≤ (ji33)) = true := decide_eq_true c34
                  clear c34
                  by_cases c35 : (ji33) < (y110.length : Int)
                  · rw [if_pos c35] at H
                    have c35b0 : decide ((ji33) < (y110.length : Int)) = true := decide_eq_true c35
                    clear c35
                    by_cases c36 : (rdOf ByteArray.empty y110 (ji33)).size + a3.size ≤ 9223372036854775807
                    · rw [if_pos c36] at H
                      have c36b0 := eq_true c36
                      have c36b1 : decide ((rdOf ByteArray.empty y110 (ji33)).size + a3.size ≤ 9223372036854775807) = true := decide_eq_true c36
                      try have c36b2 : (9223372036854775807 < (rdOf ByteArray.empty y110 (ji33)).size + a3.size) = False := eq_false (Nat.not_lt.2 c36)
                      by_cases c37 : x13_27.size + ((rdOf ByteArray.empty y110 (ji33)) ++ a3).size ≤ 9223372036854775807
                      · rw [if_pos c37] at H
                        have c37b0 := eq_true c37
                        have c37b1 : decide (x13_27.size + ((rdOf ByteArray.empty y110 (ji33)) ++ a3).size ≤ 9223372036854775807) = true := decide_eq_true c37
                        try have c37b2 : (9223372036854775807 < x13_27.size + ((rdOf ByteArray.empty y110 (ji33)) ++ a3).size) = False := eq_false (Nat.not_lt.2 c37)
                        simp only [Option.some.injEq, Prod.mk.injEq] at H
                        obtain ⟨rfl, rfl, rfl⟩ := H
                        go_wp2_with (first | ((with_reducible refine gate_dst (N := 58) rfl ?_); (try (refine gate_guard (by rfl) ?_; dsimp only)); refine Kd.R_lit Kd.string _ 9 ?hg (N := 58) ?hd (xs := ([(⟨#[101]⟩ : ByteArray), (⟨#[69]⟩ : ByteArray), (⟨#[101, 43]⟩ : ByteArray), (⟨#[69, 45]⟩ : ByteArray)] : List ByteArray)) (inner := [.string (⟨#[101]⟩ : ByteArray), .string (⟨#[69]⟩ : ByteArray), .string (⟨#[101, 43]⟩ : ByteArray), .string (⟨#[69, 45]⟩ : ByteArray)]) (ok := fun _ => True) (okp := fun _ => True) ?hr ?hp (fun _ hk => hk) trivial (Below.refl _ _) (Nat.le_refl _) (by simp) ?_; (case hd => rfl); (case hg => rfl); (case hr => first | (go_simp; done) | (go_simp; rfl)); (case hp => exact (Reps.one (show Kd.M Kd.string _ _ _ (⟨#[101]⟩ : ByteArray) [.string (⟨#[101]⟩ : ByteArray)] from rfl) (Reps.one (show Kd.M Kd.string _ _ _ (⟨#[69]⟩ : ByteArray) [.string (⟨#[69]⟩ : ByteArray)] from rfl) (Reps.one (show Kd.M Kd.string _ _ _ (⟨#[101, 43]⟩ : ByteArray) [.string (⟨#[101, 43]⟩ : ByteArray)] from rfl) (Reps.one (show Kd.M Kd.string _ _ _ (⟨#[69, 45]⟩ : ByteArray) [.string (⟨#[69, 45]⟩ : ByteArray)] from rfl) (Reps.none _ _)))))); intro v111 w38 ho39 hb hg_ hnew_; clear hg_ hnew_; (first | rw [← Ny110.out] at ho39 | (simp only [Int.reduceToNat] at ho39; rw [← Ny110.out] at ho39)); have n0_ := Aside0.mk (Kd.R_lower ho39 (below_size (by repeat (first | (with_reducible first | exact HB.out | apply below_alloc | apply pw_below_drewN | apply below_drew1) | exact HB.out)))); have n1_ := Aside0.mk (below_step (by repeat (first | (with_reducible first | exact HB.out | apply below_alloc | apply pw_below_drewN | apply below_drew1) | exact HB.out)) hb); clear HB; have HO112 := n0_; have HB := n1_; clear n0_ n1_; clear hb ho39; obtain ⟨Ao40, co40, eo40⟩ := Kd.R_slice HO112.out; subst eo40; have p113 : 0 ≤ ((ji33) : Int) := of_decide_eq_true (by first | (with_reducible assumption) | assumption); have q113 : (ji33) < (y110.length : Int) := of_decide_eq_true (by first | (with_reducible assumption) | assumption); obtain ⟨ad113, e113, hx113_0⟩ := Kd.at_string (Kd.R_reads' HO112.out).2.2 (ji33) p113 q113; cases e113; replace p113 := eq_true p113; replace q113 := eq_true q113))
                        go_ret3
                        exact ⟨by first | rfl | (simp [errW_none, errW_some] <;> rfl) | (simp only [← hji33]; first | rfl | (simp [errW_none, errW_some] <;> rfl)) | (simp [*, errW_none, errW_some] <;> rfl), by repeat (first | (with_reducible first | exact HB.out | apply below_alloc | apply pw_below_drewN | apply below_drew1) | exact HB.out)⟩
                      · rw [if_neg c37] at H
                        exact absurd H (by simp)
                    · rw [if_neg c36] at H
                      exact absurd H (by simp)
                  · rw [if_neg c35] at H
                    exact absurd H (by simp)
                · rw [if_neg c34] at H
                  exact absurd H (by simp)
            · rw [if_neg c31] at H
              have c31b0 : (a2.toList == ([] : List UInt8)) = false := beq_eq_false_iff_ne.mpr c31
              have c31b1 : (a2.toList != ([] : List UInt8)) = true := bne_iff_ne.mpr c31
              by_cases c41 : 1 + a2.size ≤ 9223372036854775807
              · rw [if_pos c41] at H
                have c41b0 := eq_true c41
                have c41b1 : decide (1 + a2.size ≤ 9223372036854775807) = true := decide_eq_true c41
                try have c41b2 : (9223372036854775807 < 1 + a2.size) = False := eq_false (Nat.not_lt.2 c41)
                by_cases c42 : x13_27.size + ((⟨#[46]⟩ : ByteArray) ++ a2).size ≤ 9223372036854775807
                · rw [if_pos c42] at H
                  have c42b0 := eq_true c42
                  have c42b1 : decide (x13_27.size + ((⟨#[46]⟩ : ByteArray) ++ a2).size ≤ 9223372036854775807) = true := decide_eq_true c42
                  try have c42b2 : (9223372036854775807 < x13_27.size + ((⟨#[46]⟩ : ByteArray) ++ a2).size) = False := eq_false (Nat.not_lt.2 c42)
                  by_cases c43 : a3.toList = ([] : List UInt8)
                  · rw [if_pos c43] at H
                    have c43b0 : (a3.toList == ([] : List UInt8)) = true := beq_iff_eq.mpr c43
                    have c43b1 : (a3.toList != ([] : List UInt8)) = false := bne_eq_false_iff_eq.mpr c43
                    clear c43
                    simp only [Option.some.injEq, Prod.mk.injEq] at H
                    obtain ⟨rfl, rfl, rfl⟩ := H
                    go_wp2
                    go_ret3
                    exact ⟨by first | rfl | (simp [errW_none, errW_some] <;> rfl) | (simp [*, errW_none, errW_some] <;> rfl), by repeat (first | (with_reducible first | exact HB.out | apply below_alloc | apply pw_below_drewN | apply below_drew1) | exact HB.out)⟩
                  · rw [if_neg c43] at H
                    have c43b0 : (a3.toList == ([] : List UInt8)) = false := beq_eq_false_iff_ne.mpr c43
                    have c43b1 : (a3.toList != ([] : List UInt8)) = true := bne_iff_ne.mpr c43
                    obtain ⟨y114, hy114⟩ : ∃ y_ : List ByteArray, y_ = (([(⟨#[101]⟩ : ByteArray), (⟨#[69]⟩ : ByteArray), (⟨#[101, 43]⟩ : ByteArray), (⟨#[69, 45]⟩ : ByteArray)] : List ByteArray)) := ⟨_, rfl⟩
                    replace H : (if 0 ≤ (Int.tmod a4 4) then (if (Int.tmod a4 4) < (y114.length : Int) then (if (rdOf ByteArray.empty y114 (Int.tmod a4 4)).size + a3.size ≤ 9223372036854775807 then (if (x13_27 ++ ((⟨#[46]⟩ : ByteArray) ++ a2)).size + ((rdOf ByteArray.empty y114 (Int.tmod a4 4)) ++ a3).size ≤ 9223372036854775807 then (some ((x13_27 ++ ((⟨#[46]⟩ : ByteArray) ++ a2)) ++ ((rdOf ByteArray.empty y114 (Int.tmod a4 4)) ++ a3), true, true)) else (none)) else (none)) else (none)) else (none)) = some (r1, r2, r3) := by first | (rw [hy114]; with_reducible exact H) | (have H2_ := (Option.bind_some _ _).symm.trans H; rw [hy114]; with_reducible exact H2_) | (have H2_ := (Option.bind_some _ _).symm.trans H; with_reducible exact H2_) | with_reducible exact H | (rw [hy114]; exact H) | exact H
                    have Ny114 := Aside0.mk hy114
                    clear hy114
                    obtain ⟨ji44, hji44⟩ : ∃ j_ : Int, (Int.tmod a4 4) = j_ := ⟨_, rfl⟩
                    replace H : (if 0 ≤ (ji44) then (if (ji44) < (y114.length : Int) then (if (rdOf ByteArray.empty y114 (ji44)).size + a3.size ≤ 9223372036854775807 then (if (x13_27 ++ ((⟨#[46]⟩ : ByteArray) ++ a2)).size + ((rdOf ByteArray.empty y114 (ji44)) ++ a3).size ≤ 9223372036854775807 then (some ((x13_27 ++ ((⟨#[46]⟩ : ByteArray) ++ a2)) ++ ((rdOf ByteArray.empty y114 (ji44)) ++ a3), true, true)) else (none)) else (none)) else (none)) else (none)) = some (r1, r2, r3) := by first | (rw [hji44] at H; exact H) | (simp only [hji44] at H ⊢; exact H)
                    by_cases c45 : 0 ≤ (ji44)
                    · rw [if_pos c45] at H
                      have c45b0 : decide (0 ≤ (ji44)) = true := decide_eq_true c45
                      clear c45
                      by_cases c46 : (ji44) < (y114.length : Int)
                      · rw [if_pos c46] at H
                        have c46b0 : decide ((ji44) < (y114.length : Int)) = true := decide_eq_true c46
                        clear c46
                        by_cases c47 : (rdOf ByteArray.empty y114 (ji44)).size + a3.size ≤ 9223372036854775807
                        · rw [if_pos c47] at H
                          have c47b0 := eq_true c47
                          have c47b1 : decide ((rdOf ByteArray.empty y114 (ji44)).size + a3.size ≤ 9223372036854775807) = true := decide_eq_true c47
                          try have c47b2 : (9223372036854775807 < (rdOf ByteArray.empty y114 (ji44)).size + a3.size) = False := eq_false (Nat.not_lt.2 c47)
                          by_cases c48 : (x13_27 ++ ((⟨#[46]⟩ : ByteArray) ++ a2)).size + ((rdOf ByteArray.empty y114 (ji44)) ++ a3).size ≤ 9223372036854775807
                          · rw [if_pos c48] at H
                            have c48b0 := eq_true c48
                            have c48b1 : decide ((x13_27 ++ ((⟨#[46]⟩ : ByteArray) ++ a2)).size + ((rdOf ByteArray.empty y114 (ji44)) ++ a3).size ≤ 9223372036854775807) = true := decide_eq_true c48
                            try have c48b2 : (9223372036854775807 < (x13_27 ++ ((⟨#[46]⟩ : ByteArray) ++ a2)).size + ((rdOf ByteArray.empty y114 (ji44)) ++ a3).size) = False := eq_false (Nat.not_lt.2 c48)
                            simp only [Option.some.injEq, Prod.mk.injEq] at H
                            obtain ⟨rfl, rfl, rfl⟩ := H
                            go_wp2_with (first | ((with_reducible refine gate_dst (N := 58) rfl ?_); (try (refine gate_guard (by rfl) ?_; dsimp only)); refine Kd.R_lit Kd.string _ 9 ?hg (N := 58) ?hd (xs := ([(⟨#[101]⟩ : ByteArray), (⟨#[69]⟩ : ByteArray), (⟨#[101, 43]⟩ : ByteArray), (⟨#[69, 45]⟩ : ByteArray)] : List ByteArray)) (inner := [.string (⟨#[101]⟩ : ByteArray), .string (⟨#[69]⟩ : ByteArray), .string (⟨#[101, 43]⟩ : ByteArray), .string (⟨#[69, 45]⟩ : ByteArray)]) (ok := fun _ => True) (okp := fun _ => True) ?hr ?hp (fun _ hk => hk) trivial (Below.refl _ _) (Nat.le_refl _) (by simp) ?_; (case hd => rfl); (case hg => rfl); (case hr => first | (go_simp; done) | (go_simp; rfl)); (case hp => exact (Reps.one (show Kd.M Kd.string _ _ _ (⟨#[101]⟩ : ByteArray) [.string (⟨#[101]⟩ : ByteArray)] from rfl) (Reps.one (show Kd.M Kd.string _ _ _ (⟨#[69]⟩ : ByteArray) [.string (⟨#[69]⟩ : ByteArray)] from rfl) (Reps.one (show Kd.M Kd.string _ _ _ (⟨#[101, 43]⟩ : ByteArray) [.string (⟨#[101, 43]⟩ : ByteArray)] from rfl) (Reps.one (show Kd.M Kd.string _ _ _ (⟨#[69, 45]⟩ : ByteArray) [.string (⟨#[69, 45]⟩ : ByteArray)] from rfl) (Reps.none _ _)))))); intro v115 w49 ho50 hb hg_ hnew_; clear hg_ hnew_; (first | rw [← Ny114.out] at ho50 | (simp only [Int.reduceToNat] at ho50; rw [← Ny114.out] at ho50)); have n0_ := Aside0.mk (Kd.R_lower ho50 (below_size (by repeat (first | (with_reducible first | exact HB.out | apply below_alloc | apply pw_below_drewN | apply below_drew1) | exact HB.out)))); have n1_ := Aside0.mk (below_step (by repeat (first | (with_reducible first | exact HB.out | apply below_alloc | apply pw_below_drewN | apply below_drew1) | exact HB.out)) hb); clear HB; have HO116 := n0_; have HB := n1_; clear n0_ n1_; clear hb ho50; obtain ⟨Ao51, co51, eo51⟩ := Kd.R_slice HO116.out; subst eo51; have p117 : 0 ≤ ((ji44) : Int) := of_decide_eq_true (by first | (with_reducible assumption) | assumption); have q117 : (ji44) < (y114.length : Int) := of_decide_eq_true (by first | (with_reducible assumption) | assumption); obtain ⟨ad117, e117, hx117_0⟩ := Kd.at_string (Kd.R_reads' HO116.out).2.2 (ji44) p117 q117; cases e117; replace p117 := eq_true p117; replace q117 := eq_true q117))
                            go_ret3
                            exact ⟨by first | rfl | (simp [errW_none, errW_some] <;> rfl) | (simp only [← hji44]; first | rfl | (simp [errW_none, errW_some] <;> rfl)) | (simp [*, errW_none, errW_some] <;> rfl), by repeat (first | (with_reducible first | exact HB.out | apply below_alloc | apply pw_below_drewN | apply below_drew1) | exact HB.out)⟩
                          · rw [if_neg c48] at H
                            exact absurd H (by simp)
                        · rw [if_neg c47] at H
                          exact absurd H (by simp)
                      · rw [if_neg c46] at H
                        exact absurd H (by simp)
                    · rw [if_neg c45] at H
                      exact absurd H (by simp)
                · rw [if_neg c42] at H
                  exact absurd H (by simp)
              · rw [if_neg c41] at H
                exact absurd H (by simp)

-- NOT PRINTED: function 6 (laws_FnNumberParts)

end Go.Proofs.YtbojlohjmbhifaaGreatDoor.PFnNumberParts
