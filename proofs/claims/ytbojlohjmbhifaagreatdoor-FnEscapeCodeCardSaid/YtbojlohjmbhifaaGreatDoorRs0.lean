/- What 'readString' returns of a string of plain signs. -/
import Derived.Test.YtbojlohjmbhifaaGreatDoorErr
import Derived.Test.YtbojlohjmbhifaaGreatDoorLx2
import Derived.Test.YtbojlohjmbhifaaGreatDoorShelf
import Derived.Lib.BufferOld
namespace Go.Proofs.YtbojlohjmbhifaaGreatDoor
open Go.RowKit Go.Proofs.YtbojlohjmbhifaaGreatDoorW.PrintWords Go.Proofs.YtbojlohjmbhifaaGreatDoorW.PrintMore

/-- A sign that stands for itself in a string. -/
def plainSign (c : Int) : Prop := 32 ≤ c ∧ c ≠ 34 ∧ c ≠ 92

theorem Src.piece {w : World} {sb b cap : Nat} {s : ByteArray} (h : Src w sb b cap s) (p e : Nat) (he : e ≤ s.size) :
    ∀ j v, (Lib.byteCells (s.extract p e).data.toList)[j]? = some v → w.cell? ((⟨b, p, none⟩ : Addr).add j) = some v := by
  intro j v hj
  have hj1 : j < (Lib.byteCells (s.extract p e).data.toList).length := (List.getElem?_eq_some_iff.1 hj).1
  rw [Lib.byteCells_length] at hj1
  have hl := extract_list s p e he
  rw [add_at, h.cells (p + j) (by omega), ← extract_get s p e j he hj1]
  simp only [Lib.byteCells, List.getElem?_map, List.getElem?_eq_getElem hj1, Option.map_some] at hj
  exact hj

/-- The result's cells, kept while blocks behind them turn. -/
theorem kept4b {w w' : World} {c0 c1 c2 c3 : Value} {t : TypeId} {o : Obj} (hb : Below (w.heap.size + 1) ((w.alloc (.cells #[c0, c1, c2, c3] t)).alloc o) w') :
    (w'.cell? ⟨w.heap.size, 0, none⟩ = some c0 ∧ w'.cell? ⟨w.heap.size, 1, none⟩ = some c1 ∧ w'.cell? ⟨w.heap.size, 2, none⟩ = some c2 ∧ w'.cell? ⟨w.heap.size, 3, none⟩ = some c3) ∧
    (w'.frozen? ⟨w.heap.size, 0, none⟩ = false ∧ w'.frozen? ⟨w.heap.size, 1, none⟩ = false ∧ w'.frozen? ⟨w.heap.size, 2, none⟩ = false ∧ w'.frozen? ⟨w.heap.size, 3, none⟩ = false) ∧ w.heap.size < w'.heap.size ∧ Below w.heap.size w w' := by
  have hz : w.heap.size + 1 = (w.alloc (.cells #[c0, c1, c2, c3] t)).heap.size := by simp
  have h1 : Below (w.alloc (.cells #[c0, c1, c2, c3] t)).heap.size (w.alloc (.cells #[c0, c1, c2, c3] t)) w' := by
    rw [← hz]
    exact ((Below.refl _ _).alloc (by simp) _).trans hb
  exact kept4 h1
theorem kept4c {w w1 w2 : World} {B : Nat} {c0 c1 c2 c3 : Value} (hb : Below w1.heap.size w1 w2)
    (h0 : w1.cell? ⟨B, 0, none⟩ = some c0) (h1 : w1.cell? ⟨B, 1, none⟩ = some c1) (h2 : w1.cell? ⟨B, 2, none⟩ = some c2) (h3 : w1.cell? ⟨B, 3, none⟩ = some c3)
    (z0 : w1.frozen? ⟨B, 0, none⟩ = false) (z1 : w1.frozen? ⟨B, 1, none⟩ = false) (z2 : w1.frozen? ⟨B, 2, none⟩ = false) (z3 : w1.frozen? ⟨B, 3, none⟩ = false) (hz : B < w1.heap.size) (hB : Below w.heap.size w w1) (hwB : w.heap.size ≤ B) :
    (w2.cell? ⟨B, 0, none⟩ = some c0 ∧ w2.cell? ⟨B, 1, none⟩ = some c1 ∧ w2.cell? ⟨B, 2, none⟩ = some c2 ∧ w2.cell? ⟨B, 3, none⟩ = some c3) ∧
    (w2.frozen? ⟨B, 0, none⟩ = false ∧ w2.frozen? ⟨B, 1, none⟩ = false ∧ w2.frozen? ⟨B, 2, none⟩ = false ∧ w2.frozen? ⟨B, 3, none⟩ = false) ∧ B < w2.heap.size ∧ Below w.heap.size w w2 :=
  ⟨⟨(hb.cell hz).trans h0, (hb.cell hz).trans h1, (hb.cell hz).trans h2, (hb.cell hz).trans h3⟩, ⟨(hb.frozen hz).trans z0, (hb.frozen hz).trans z1, (hb.frozen hz).trans z2, (hb.frozen hz).trans z3⟩, Nat.lt_of_lt_of_le hz hb.size, hB.trans (hb.mono (by omega))⟩

set_option maxHeartbeats 1000000 in
set_option maxRecDepth 100000 in
theorem readString_plain {w : World} {sb b cap : Nat} {s : ByteArray} (h : Src w sb b cap s) (p e : Nat) (hpe : p < e) (he : e < s.size) (hn : ∀ j : Nat, p < j → j < e → plainSign (cd s j)) (hend : cd s e = 34) :
    Calls Tryz.prog 32 #[.pointer (some ⟨sb, 0, none⟩), .int .i64 (p : Int)] w fun r w' =>
      r = .returned (.tuple #[.agg #[.int .i64 18, .int .i64 p, .int .i64 (e + 1 : Nat), .string (s.extract (p + 1) e)], .nilIface]) ∧ Below w.heap.size w w' := by
  have hs := h.size
  have hlt := h.lts
  have hltb := h.ltb
  have hhd := h.head
  have hcap := h.cap
  have H2 : Hid (∀ o o', Src ((w.alloc o).alloc o') sb b cap s) := Lib.hid (fun o o' => h.grow (((Below.refl _ _).alloc (Nat.le_refl _) o).alloc (by simp) o'))
  have HN := Lib.hid hn
  have hE : (cd s e == 34) = true := beq_iff_eq.2 hend
  have hE2 : (cd s e != 34) = false := by rw [bne_eq_false_iff_eq]; exact hend
  have hE3 : (cd s e != 10) = true := by rw [hend]; rfl
  have hE4 : (cd s e != 13) = true := by rw [hend]; rfl
  have hfr := fun o => Lib.fresh_isBuffer 79 5 (w.alloc o)
  have HFR := Lib.hid hfr
  obtain ⟨V, hV⟩ : ∃ V, V = s.extract (p + 1) e := ⟨_, rfl⟩
  have HL : Hid (V.data.toList.length = e - (p + 1)) := Lib.hid (by rw [hV]; exact extract_list s (p + 1) e (by omega))
  have HPC : Hid (∀ o o', ∀ j v, (Lib.byteCells V.data.toList)[j]? = some v → ((w.alloc o).alloc o').cell? ((⟨b, p + 1, none⟩ : Addr).add j) = some v) := Lib.hid (by rw [hV]; exact fun o o' => (H2.out o o').piece (p + 1) e (by omega))
  rw [← hV]
  clear h hn hend hfr hV
  go_enter Tryz.func32, Tryz.ntmps32
  go_wp2_with fail
  go_loop [7, 8, 9] (fun x y z => ∃ j : Nat, p < j ∧ j ≤ e ∧ x = .int .i64 j ∧ y = .int .i64 j ∧ z = .int .i64 ((p : Int) + 1)) (fun x _ _ => e - (intOf x).toNat)
  case atStart => exact ⟨p + 1, by omega, by omega, by go_num, by go_num, rfl⟩
  case round =>
    obtain ⟨j, hj1, hj2, rfl, rfl, rfl⟩ := hrel
    by_cases hlt2 : j < e
    · obtain ⟨g1, g2, g3⟩ := HN.out j hj1 hlt2
      have hw := Lib.hid (wd_in (show (j : Int) < (s.size : Int) by omega))
      have b1 : (cd s j != 10) = true := by rw [bne_iff_ne]; omega
      have b2 : (cd s j != 13) = true := by rw [bne_iff_ne]; omega
      have b3 : (cd s j != 34) = true := by rw [bne_iff_ne]; exact g2
      have b4 : (cd s j == 92) = false := by rw [beq_eq_false_iff_ne]; exact g3
      clear g2 g3
      go_wp2_with (go_at_call 27; refine (runeAt_any (H2.out _ _) _ (by omega)).mono ?_; rintro r w' ⟨rfl, rfl⟩; rw [hw.out])
      go_round
      case rel => exact ⟨j + 1, by omega, by omega, by go_num, by go_num, rfl⟩
      case measure => simp [intOf]; omega
    · obtain rfl : e = j := by omega
      go_wp2_with (go_at_call 27; refine (runeAt_any (H2.out _ _) _ (by omega)).mono ?_; rintro r w' ⟨rfl, rfl⟩)
      refine (Tryz.Buffer_Write_any (w.heap.size + 1) (w.heap.size + 1) [] (Lib.byteCells V.data.toList) ⟨b, p + 1, none⟩ (e - (p + 1)) _ _ (by simpa using HFR.out _) (by simp) (by simp) (by rw [Lib.byteCells_length, HL.out]) (by show b ≠ _; omega) (HPC.out _ _) (Lib.byteCells_one _) (by simp; omega)).mono ?_
      rintro r w1 ⟨rfl, hI, hB, _⟩
      rw [List.nil_append] at hI
      obtain ⟨⟨c0, c1, c2, c3⟩, ⟨z0, z1, z2, z3⟩, hz, hB1⟩ := kept4b hB
      have hz1 : w.heap.size + 1 < w1.heap.size := by have := hB.size; simp at this; omega
      clear hB
      go_wp2_with (first | (go_at_call 39; refine (Tryz.Buffer_String (w.heap.size + 1) (w.heap.size + 1) _ w1 hI).mono ?_; rintro r w2 ⟨rfl, nq, rfl⟩) | (go_at_call 26; refine (makeToken_any _ _ _ _ _).mono ?_; rintro r w3 ⟨rfl, hb⟩; obtain ⟨⟨c0, c1, c2, c3⟩, ⟨z0, z1, z2, z3⟩, hz, hB⟩ := kept4c hb c0 c1 c2 c3 z0 z1 z2 z3 hz (below_drewN hB1 _) (Nat.le_refl _); clear hb))
      obtain ⟨q0, q1, q2, q3⟩ := set4 c0 c1 c2 c3 (.int .i64 18) (.int .i64 p) (.int .i64 ((e : Int) + 1)) (.string V)
      refine bodyPost_ret (v := .tuple #[.agg #[.int .i64 18, .int .i64 p, .int .i64 ((e : Int) + 1), .string V], .nilIface]) (by simp [results, Tryz.results32, go_sem, q0, q1, q2, q3]) rfl ⟨rfl, below_set4 hB (Nat.le_refl _) _ _ _ _⟩
end Go.Proofs.YtbojlohjmbhifaaGreatDoor
