/- 'readString' refuses a string without its end, with a line end, with a control character but a tab. -/
import Derived.Test.YtbojlohjmbhifaaGreatDoorRs0
namespace Go.Proofs.YtbojlohjmbhifaaGreatDoor
open Go.RowKit Go.Proofs.YtbojlohjmbhifaaGreatDoorW.PrintWords Go.Proofs.YtbojlohjmbhifaaGreatDoorW.PrintMore

/-- What a string can't hold: its end, a line end, a control character but a tab. -/
def badSign (c : Int) : Prop := c < 32 ∧ c ≠ 9

set_option maxHeartbeats 1000000 in
set_option maxRecDepth 100000 in
theorem readString_bad {w : World} {sb b cap : Nat} {s : ByteArray} (h : Src w sb b cap s) (p e : Nat) (hpe : p < e) (he : e ≤ s.size) (hn : ∀ j : Nat, p < j → j < e → plainSign (cd s j)) (hend : badSign (cd s e)) :
    Calls Tryz.prog 32 #[.pointer (some ⟨sb, 0, none⟩), .int .i64 (p : Int)] w fun r w' =>
      ∃ g : Nat, r = .returned (.tuple #[.agg #[.int .i64 0, .int .i64 0, .int .i64 0, .string ⟨#[]⟩], .iface 63 (.pointer (some ⟨g, 0, none⟩))]) ∧ Below w.heap.size w w' := by
  have hs := h.size
  have hlt := h.lts
  have hltb := h.ltb
  have hhd := h.head
  have hcap := h.cap
  have H2 : Hid (∀ o o', Src ((w.alloc o).alloc o') sb b cap s) := Lib.hid (fun o o' => h.grow (((Below.refl _ _).alloc (Nat.le_refl _) o).alloc (by simp) o'))
  have HN := Lib.hid hn
  obtain ⟨e1, e2⟩ := hend
  have hE : (cd s e == 34) = false := by rw [beq_eq_false_iff_ne]; omega
  have hE2 : (cd s e != 34) = true := by rw [bne_iff_ne]; omega
  have hE5 : (cd s e != 9) = true := by rw [bne_iff_ne]; omega
  clear h hn e2
  go_enter Tryz.func32, Tryz.ntmps32
  go_wp2_with fail
  go_loop [7, 8, 9] (fun x y z => ∃ j : Nat, p < j ∧ j ≤ e ∧ x = .int .i64 j ∧ y = .int .i64 j ∧ z = .int .i64 ((p : Int) + 1)) (fun x _ _ => e - (intOf x).toNat)
  case atStart => exact ⟨p + 1, by omega, by omega, by go_num, by go_num, rfl⟩
  case round =>
    obtain ⟨j, hj1, hj2, rfl, rfl, rfl⟩ := hrel
    by_cases hlt2 : j < e
    · obtain ⟨g1, g2, g3⟩ := HN.out j hj1 hlt2
      have hw := Lib.hid (wd_in (show (j : Int) < (s.size : Int) by omega))
      have b1 : (cd s j != 10) = true := by rw [bne_iff_ne]; omega
      have b2 : (cd s j != 13) = true := by rw [bne_iff_ne]; omega
      have b3 : (cd s j != 34) = true := by rw [bne_iff_ne]; exact g2
      have b4 : (cd s j == 92) = false := by rw [beq_eq_false_iff_ne]; exact g3
      clear g2 g3
      go_wp2_with (go_at_call 27; refine (runeAt_any (H2.out _ _) _ (by omega)).mono ?_; rintro r w' ⟨rfl, rfl⟩; rw [hw.out])
      go_round
      case rel => exact ⟨j + 1, by omega, by omega, by go_num, by go_num, rfl⟩
      case measure => simp [intOf]; omega
    · obtain rfl : e = j := by omega
      by_cases hin : e < s.size
      · cases b1 : (cd s e != 10)
        · go_wp2_with (first | (go_at_call 27; refine (runeAt_any (H2.out _ _) _ (by omega)).mono ?_; rintro r w' ⟨rfl, rfl⟩) | (go_at_call 28; refine (syntax_any (H2.out _ _) _ (by omega) (by omega) _).mono ?_; rintro r w1 ⟨g, rfl, hb⟩; obtain ⟨⟨c0, c1, c2, c3⟩, ⟨z0, z1, z2, z3⟩, hz, hB⟩ := kept4b (hb.mono (by simp)); clear hb))
          obtain ⟨q0, q1, q2, q3⟩ := set4 c0 c1 c2 c3 (.int .i64 0) (.int .i64 0) (.int .i64 0) (.string ⟨#[]⟩)
          refine bodyPost_ret (v := .tuple #[.agg #[.int .i64 0, .int .i64 0, .int .i64 0, .string ⟨#[]⟩], .iface 63 (.pointer (some ⟨g, 0, none⟩))]) (by simp [results, Tryz.results32, go_sem, q0, q1, q2, q3]) rfl ⟨g, rfl, below_set4 hB (Nat.le_refl _) _ _ _ _⟩
        · cases b2 : (cd s e != 13)
          all_goals
            go_wp2_with (first | (go_at_call 27; refine (runeAt_any (H2.out _ _) _ (by omega)).mono ?_; rintro r w' ⟨rfl, rfl⟩) | (go_at_call 28; refine (syntax_any (H2.out _ _) _ (by omega) (by omega) _).mono ?_; rintro r w1 ⟨g, rfl, hb⟩; obtain ⟨⟨c0, c1, c2, c3⟩, ⟨z0, z1, z2, z3⟩, hz, hB⟩ := kept4b (hb.mono (by simp)); clear hb))
            obtain ⟨q0, q1, q2, q3⟩ := set4 c0 c1 c2 c3 (.int .i64 0) (.int .i64 0) (.int .i64 0) (.string ⟨#[]⟩)
            refine bodyPost_ret (v := .tuple #[.agg #[.int .i64 0, .int .i64 0, .int .i64 0, .string ⟨#[]⟩], .iface 63 (.pointer (some ⟨g, 0, none⟩))]) (by simp [results, Tryz.results32, go_sem, q0, q1, q2, q3]) rfl ⟨g, rfl, below_set4 hB (Nat.le_refl _) _ _ _ _⟩
      · go_wp2_with (first | (go_at_call 27; refine (runeAt_any (H2.out _ _) _ (by omega)).mono ?_; rintro r w' ⟨rfl, rfl⟩) | (go_at_call 28; refine (syntax_any (H2.out _ _) _ (by omega) (by omega) _).mono ?_; rintro r w1 ⟨g, rfl, hb⟩; obtain ⟨⟨c0, c1, c2, c3⟩, ⟨z0, z1, z2, z3⟩, hz, hB⟩ := kept4b (hb.mono (by simp)); clear hb))
        obtain ⟨q0, q1, q2, q3⟩ := set4 c0 c1 c2 c3 (.int .i64 0) (.int .i64 0) (.int .i64 0) (.string ⟨#[]⟩)
        refine bodyPost_ret (v := .tuple #[.agg #[.int .i64 0, .int .i64 0, .int .i64 0, .string ⟨#[]⟩], .iface 63 (.pointer (some ⟨g, 0, none⟩))]) (by simp [results, Tryz.results32, go_sem, q0, q1, q2, q3]) rfl ⟨g, rfl, below_set4 hB (Nat.le_refl _) _ _ _ _⟩
end Go.Proofs.YtbojlohjmbhifaaGreatDoor
