/- What 'readName' returns. -/
import Derived.Test.YtbjfahhfcdnkaaaGreatDoorLx1
namespace Go.Proofs.YtbjfahhfcdnkaaaGreatDoor
open Go.RowKit Go.Proofs.YtbjfahhfcdnkaaaGreatDoorW.PrintWords Go.Proofs.YtbjfahhfcdnkaaaGreatDoorW.PrintMore

theorem extract_list (s : ByteArray) (p e : Nat) (he : e ≤ s.size) : (s.extract p e).data.toList.length = e - p := by
  rw [Array.length_toList]
  show (s.extract p e).size = e - p
  rw [ByteArray.size_extract]
  omega

theorem extract_get (s : ByteArray) (p e j : Nat) (he : e ≤ s.size) (hj : j < (s.extract p e).data.toList.length) : (s.extract p e).data.toList[j] = s[p + j]'(by rw [extract_list s p e he] at hj; omega) := by
  have h1 : j < (s.extract p e).size := by rw [Array.length_toList] at hj; exact hj
  have h2 : (s.extract p e)[j]'h1 = s[p + j]'(by rw [extract_list s p e he] at hj; omega) := ByteArray.getElem_extract h1
  rw [← h2]
  simp [ByteArray.getElem_eq_getElem_data]

/-- A piece of the source, made a string. -/
theorem piece {w : World} {sb b cap : Nat} {s : ByteArray} (h : Src w sb b cap s) (p e c : Nat) (hpe : p ≤ e) (he : e ≤ s.size) :
    (convert 31 9 (.slice (some ⟨b, p, none⟩) (e - p) c)).run Tryz.prog w = .ok (.string (s.extract p e)) w := by
  have hl := extract_list s p e he
  have hk := run_convert_bytes_back (P := Tryz.prog) w 31 9 5 ⟨b, p, none⟩ c (s.extract p e).data.toList Tryz.underlying31 Tryz.underlying5 Tryz.underlying9 (fun j hj => by
    rw [extract_get s p e j he hj, add_at]
    exact h.cells (p + j) (by omega))
  rw [hl] at hk
  rw [hk]

set_option maxHeartbeats 400000 in
set_option maxRecDepth 100000 in
theorem makeToken_any (k a c : Int) (v : ByteArray) (w : World) :
    Calls Tryz.prog 155 #[.int .i64 k, .int .i64 a, .int .i64 c, .string v] w fun r w' => r = .returned (.agg #[.int .i64 k, .int .i64 a, .int .i64 c, .string v]) ∧ Below w.heap.size w w' := by
  go_enter Tryz.func155, Tryz.ntmps155
  go_wp2_with fail
  refine bodyPost_ret (v := .agg #[.int .i64 k, .int .i64 a, .int .i64 c, .string v]) (by simp [results, Tryz.results155, go_sem]) rfl ⟨rfl, ?_⟩
  exact (Below.refl _ _).alloc (Nat.le_refl _) _

def nameChar (c : Int) : Prop := c = 95 ∨ (48 ≤ c ∧ c ≤ 57) ∨ (65 ≤ c ∧ c ≤ 90) ∨ (97 ≤ c ∧ c ≤ 122)
def nameEnd (c : Int) : Prop := c < 48 ∨ (57 < c ∧ c < 65) ∨ (90 < c ∧ c < 97 ∧ c ≠ 95) ∨ 122 < c

set_option maxHeartbeats 1000000 in
set_option maxRecDepth 100000 in
theorem readName_any {w : World} {sb b cap : Nat} {s : ByteArray} (h : Src w sb b cap s) (p e : Nat) (hpe : p < e) (he : e ≤ s.size) (hn : ∀ j : Nat, p < j → j < e → nameChar (cd s j)) (hend : e < s.size → nameEnd (cd s e)) :
    Calls Tryz.prog 157 #[.pointer (some ⟨sb, 0, none⟩), .int .i64 (p : Int), .int .i64 (p : Int)] w fun r w' =>
      r = .returned (.agg #[.int .i64 15, .int .i64 p, .int .i64 e, .string (s.extract p e)]) ∧ Below w.heap.size w w' := by
  have hs := h.size
  have hlt := h.lts
  have hhd := h.head
  have hcap := h.cap
  have H := Lib.hid h
  have HN := Lib.hid hn
  have HE := Lib.hid hend
  clear h hn hend
  go_enter Tryz.func157, Tryz.ntmps157
  go_wp2_with fail
  go_loop [9, 10] (fun x y => ∃ j : Nat, p < j ∧ j ≤ e ∧ x = .int .i64 j ∧ y = .int .i64 j) (fun x _ => e - (intOf x).toNat)
  case atStart => exact ⟨p + 1, by omega, by omega, by go_num, by go_num⟩
  case round =>
    obtain ⟨j, hj1, hj2, rfl, rfl⟩ := hrel
    have H1 : Hid (∀ o, Src (w.alloc o) sb b cap s) := Lib.hid (fun o => H.out.grow ((Below.refl _ _).alloc (Nat.le_refl _) o))
    have hcv := fun (o : Obj) (c : Nat) => piece (H1.out o) p e c (by omega) he
    have hcp : p < cap := by omega
    by_cases hlt : j < e
    · have hjs : (j : Int) < (s.size : Int) := by omega
      have b0 : ((j : Int) != (s.size : Int)) = true := by rw [bne_iff_ne]; omega
      rcases HN.out j hj1 hlt with e1 | ⟨e1, e2⟩ | ⟨e1, e2⟩ | ⟨e1, e2⟩
      · have b1 : (cd s j == 95) = true := beq_iff_eq.2 e1
        clear e1
        go_wp2_with (go_at_call 156; refine (runeAt_any (H1.out _) _ (by omega)).mono ?_; rintro r w' ⟨rfl, rfl⟩)
        go_round
        case rel => exact ⟨j + 1, by omega, by omega, by go_num, by go_num⟩
        case measure => simp [intOf]; omega
      all_goals
        have b1 : (cd s j == 95) = false := by rw [beq_eq_false_iff_ne]; omega
        go_wp2_with (go_at_call 156; refine (runeAt_any (H1.out _) _ (by omega)).mono ?_; rintro r w' ⟨rfl, rfl⟩)
        go_round
        case rel => exact ⟨j + 1, by omega, by omega, by go_num, by go_num⟩
        case measure => simp [intOf]; omega
    · obtain rfl : e = j := by omega
      by_cases hin : e < s.size
      · have b0 : ((e : Int) != (s.size : Int)) = true := by rw [bne_iff_ne]; omega
        rcases HE.out hin with e1 | ⟨e1, e2⟩ | ⟨e1, e2, e3⟩ | e1
        all_goals
          have b1 : (cd s e == 95) = false := by rw [beq_eq_false_iff_ne]; omega
          go_wp2_with (first | (go_at_call 156; refine (runeAt_any (H1.out _) _ (by omega)).mono ?_; rintro r w' ⟨rfl, rfl⟩) | (go_at_call 155; refine (makeToken_any _ _ _ _ _).mono ?_; rintro r w' ⟨rfl, hb⟩; obtain ⟨⟨c0, c1, c2, c3⟩, ⟨z0, z1, z2, z3⟩, hz, hB⟩ := kept4 hb; clear hb))
          obtain ⟨q0, q1, q2, q3⟩ := set4 c0 c1 c2 c3 (.int .i64 15) (.int .i64 p) (.int .i64 e) (.string (s.extract p e))
          refine bodyPost_ret (v := .agg #[.int .i64 15, .int .i64 p, .int .i64 e, .string (s.extract p e)]) (by simp [results, Tryz.results157, go_sem, q0, q1, q2, q3]) rfl ⟨rfl, below_set4 hB (Nat.le_refl _) _ _ _ _⟩
      · have b0 : ((e : Int) != (s.size : Int)) = false := by rw [bne_eq_false_iff_eq]; omega
        go_wp2_with (first | (go_at_call 156; refine (runeAt_any (H1.out _) _ (by omega)).mono ?_; rintro r w' ⟨rfl, rfl⟩) | (go_at_call 155; refine (makeToken_any _ _ _ _ _).mono ?_; rintro r w' ⟨rfl, hb⟩; obtain ⟨⟨c0, c1, c2, c3⟩, ⟨z0, z1, z2, z3⟩, hz, hB⟩ := kept4 hb; clear hb))
        obtain ⟨q0, q1, q2, q3⟩ := set4 c0 c1 c2 c3 (.int .i64 15) (.int .i64 p) (.int .i64 e) (.string (s.extract p e))
        refine bodyPost_ret (v := .agg #[.int .i64 15, .int .i64 p, .int .i64 e, .string (s.extract p e)]) (by simp [results, Tryz.results157, go_sem, q0, q1, q2, q3]) rfl ⟨rfl, below_set4 hB (Nat.le_refl _) _ _ _ _⟩
end Go.Proofs.YtbjfahhfcdnkaaaGreatDoor
