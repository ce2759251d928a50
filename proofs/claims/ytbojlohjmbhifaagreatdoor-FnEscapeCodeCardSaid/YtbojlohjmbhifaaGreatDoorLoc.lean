/- What GetLocation and Where compute. -/
import Derived.Test.YtbojlohjmbhifaaGreatDoorLx0
import Derived.Test.YtbojlohjmbhifaaGreatDoorPzzLineEndsx
import Derived.WalkKit
import Derived.WalkSpells
import Derived.Lib.Hide
import Derived.BigQuiet
import Derived.Deep.QuietTactic
import Derived.Outline
namespace Go.Proofs.YtbojlohjmbhifaaGreatDoor
open Go.RowKit Go.Proofs.YtbojlohjmbhifaaGreatDoorW.PrintWords Go.Proofs.YtbojlohjmbhifaaGreatDoorW.PrintMore
open PzzLineEnds (location_zzLineEnds.f location_zzLineEnds.calls)

/-- The line and the column, out of the line ends that stand ahead of a place. -/
def gl (place : Int) : List (List Int) → Int → Int → Int × Int
  | [], a, b => (a, b)
  | m :: t, a, b => if rd m 0 < place then gl place t (a + 1) (place + 1 - (rd m 0 + (rd m 1 - rd m 0))) else (a, b)

set_option maxHeartbeats 400000 in
set_option maxRecDepth 100000 in
theorem loc_any (sb : Nat) (ad : Addr) (c : Nat) (l : List Int) (place : Int) (r : List (List Int)) (k : Nat) (w : World) (hsb : w.cell? ⟨sb, 0, none⟩ = some (.slice (some ad) l.length c))
    (hr0 : Kd.C (Kd.int .u8) w (some ad) l.length l) (hc0 : l.length ≤ c) (hf : location_zzLineEnds.f k l = some r)
    (hok : ∀ m ∈ r, m.length = 2 ∧ 0 ≤ rd m 0 ∧ rd m 0 ≤ rd m 1 ∧ rd m 1 ≤ l.length) (hlen : r.length ≤ 1099511627776) (hl : l.length ≤ 1099511627776) (hp0 : 0 ≤ place) (hp : place ≤ 1099511627776) :
    Calls Tryz.prog 71 #[.pointer (some ⟨sb, 0, none⟩), .int .i64 place] w fun e w' =>
      e = .returned (.agg #[.int .i64 (gl place r 1 (place + 1)).1, .int .i64 (gl place r 1 (place + 1)).2]) ∧ Below w.heap.size w w' := by
  have HR := Lib.hid hr0
  have HF := Lib.hid hf
  have HOK := Lib.hid hok
  clear hr0 hf hok
  have hlt : sb < w.heap.size := World.block_lt_of_cell? w _ hsb
  go_enter Tryz.func71, Tryz.ntmps71
  go_wp2_with fail
  refine (location_zzLineEnds.calls k (some ad) c l r _ (Kd.C_below HR.out (((Below.refl _ _).alloc (Nat.le_refl _) _).alloc (by simp) _)) hc0 HF.out).mono ?_
  rintro e w1 ⟨v, rfl, hS, hB⟩
  obtain ⟨A1, c1, rfl, hl1, hC1⟩ := Kd.S_reads hS
  have HC1 := Lib.hid hC1
  clear hS hC1
  have hB1 : Below w.heap.size w w1 := (((Below.refl _ _).alloc (Nat.le_refl _) _).alloc (by simp) _).trans (hB.mono (by simp; omega))
  have hsz : w.heap.size + 1 < w1.heap.size := by have := hB.size; simp at this; omega
  have hb1 : w1.cell? ⟨sb, 0, none⟩ = some (.slice (some ad) l.length c) := (hB1.cell hlt).trans hsb
  have hq0 : w1.cell? ⟨w.heap.size, 0, none⟩ = some (.int .i64 0) := (hB.cell (by simp; omega)).trans (by simp [World.cell?_alloc_past])
  have hq1 : w1.cell? ⟨w.heap.size, 1, none⟩ = some (.int .i64 0) := (hB.cell (by simp; omega)).trans (by simp [World.cell?_alloc_past])
  have hz : w1.frozen? ⟨w.heap.size, 0, none⟩ = false := (hB.frozen (by simp; omega)).trans (by simp)
  have hz1 : w1.frozen? ⟨w.heap.size, 1, none⟩ = false := (hB.frozen (by simp; omega)).trans (by simp)
  go_wp2_with fail
  go_loopw [6, 7, 26] (fun x y z wr => ∃ (i : Nat) (a b : Int) (m : Nat), i ≤ r.length ∧ z = .int .i64 i ∧ x = .int .i64 a ∧ y = .int .i64 b ∧ Hid (gl place r 1 (place + 1) = gl place (r.drop i) a b) ∧ 0 ≤ a ∧ a ≤ 1 + i ∧ wr = w1.drewN m)
    (fun _ _ z _ => r.length - (intOf z).toNat)
  case atStart => exact ⟨0, 1, _, 0, Nat.zero_le _, rfl, rfl, rfl, Lib.hid rfl, by omega, by omega, rfl⟩
  case round =>
    obtain ⟨i, a, b, m, hi, rfl, rfl, rfl, HG, ha0, ha1, rfl⟩ := hrel
    by_cases hlt2 : i < r.length
    · have hlt3 : (i : Int) < (r.length : Int) := by omega
      obtain ⟨ad1, A0, c0, rfl, hc1, hl2, hC2⟩ := PzzLineEnds.at_L1 HC1.out i (by omega) (by omega)
      have hmem : PzzLineEnds.rd_L1 r i ∈ r := by
        unfold PzzLineEnds.rd_L1
        rw [Int.toNat_natCast, List.getD_eq_getElem?_getD, List.getElem?_eq_getElem hlt2]
        exact List.getElem_mem _
      obtain ⟨ho1, ho2, ho3, ho4⟩ := HOK.out _ hmem
      have hgl : gl place (r.drop i) a b = if rd (PzzLineEnds.rd_L1 r i) 0 < place then gl place (r.drop (i + 1)) (a + 1) (place + 1 - (rd (PzzLineEnds.rd_L1 r i) 0 + (rd (PzzLineEnds.rd_L1 r i) 1 - rd (PzzLineEnds.rd_L1 r i) 0))) else (a, b) := by
        rw [List.drop_eq_getElem_cons hlt2]
        simp only [gl, PzzLineEnds.rd_L1, Int.toNat_natCast, List.getD_eq_getElem?_getD, List.getElem?_eq_getElem hlt2, Option.getD_some]
      generalize PzzLineEnds.rd_L1 r i = mm at *
      rw [ho1] at hl2 hC2
      obtain ⟨ad2, rfl, hd0⟩ := Kd.at_int hC2 0 (by omega) (by omega)
      obtain ⟨ad2', e2, hd1⟩ := Kd.at_int hC2 1 (by omega) (by omega)
      obtain rfl : ad2 = ad2' := by injection e2
      rw [ho1, Int.toNat_natCast] at hc1
      replace hd0 : w1.cell? ad2 = some (.int .i64 (rd mm 0)) := by simpa [Addr.add] using hd0
      obtain ⟨b2, o2, sp2⟩ := ad2
      obtain rfl : sp2 = none := by simpa using World.cell?_spot hd0
      replace hd1 : w1.cell? ⟨b2, o2 + 1, none⟩ = some (.int .i64 (rd mm 1)) := by simpa [Addr.add] using hd1
      generalize rd mm 0 = m0 at *
      generalize rd mm 1 = m1 at *
      have HGL := Lib.hid hgl
      clear hgl hmem hC2 ho1 e2
      by_cases hpl : m0 < place
      · go_wp2_with fail
        go_quiet (fail)
        go_wp2
        go_roundw
        case rel =>
          exact ⟨i + 1, a + 1, _, _, by omega, by go_num, rfl, rfl, (by have e := HGL.out; rw [if_pos hpl, show m1 - m0 = ((m1.toNat - m0.toNat : Nat) : Int) by omega] at e; exact Lib.hid (HG.out.trans e)), by omega, by omega, rfl⟩
        case measure => simp [intOf]; omega
      · go_wp2_with fail
        have q0 : ((w1.drewN m).setCell ⟨w.heap.size, 0, none⟩ (.int .i64 a)).cell? ⟨w.heap.size, 0, none⟩ = some (.int .i64 a) := World.cell?_setCell_same _ _ _ hq0
        have q1 : (((w1.drewN m).setCell ⟨w.heap.size, 0, none⟩ (.int .i64 a)).setCell ⟨w.heap.size, 1, none⟩ (.int .i64 b)).cell? ⟨w.heap.size, 1, none⟩ = some (.int .i64 b) := World.cell?_setCell_same (u := .int .i64 0) _ _ _ ((World.cell?_setCell_other _ _ _ _ (by simp)).trans hq1)
        refine bodyPost_ret (v := .agg #[.int .i64 a, .int .i64 b]) (by simp [results, Tryz.results71, go_sem, q0, q1]) rfl ⟨?_, ?_⟩
        · have e := HGL.out
          rw [if_neg (by omega)] at e
          rw [HG.out, e]
        · exact ((below_drewN hB1 m).setCell (Nat.le_refl _) _).setCell (Nat.le_refl _) _
    · go_wp2_with fail
      have q0 : ((w1.drewN m).setCell ⟨w.heap.size, 0, none⟩ (.int .i64 a)).cell? ⟨w.heap.size, 0, none⟩ = some (.int .i64 a) := World.cell?_setCell_same _ _ _ hq0
      have q1 : (((w1.drewN m).setCell ⟨w.heap.size, 0, none⟩ (.int .i64 a)).setCell ⟨w.heap.size, 1, none⟩ (.int .i64 b)).cell? ⟨w.heap.size, 1, none⟩ = some (.int .i64 b) := World.cell?_setCell_same (u := .int .i64 0) _ _ _ ((World.cell?_setCell_other _ _ _ _ (by simp)).trans hq1)
      refine bodyPost_ret (v := .agg #[.int .i64 a, .int .i64 b]) (by simp [results, Tryz.results71, go_sem, q0, q1]) rfl ⟨?_, ?_⟩
      · rw [HG.out, List.drop_eq_nil_of_le (by omega)]
        rfl
      · exact ((below_drewN hB1 m).setCell (Nat.le_refl _) _).setCell (Nat.le_refl _) _
end Go.Proofs.YtbojlohjmbhifaaGreatDoor
