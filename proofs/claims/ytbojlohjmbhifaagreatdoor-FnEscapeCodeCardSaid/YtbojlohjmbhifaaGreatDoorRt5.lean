/- Three points are a token; one or two are refused. -/
import Derived.Test.YtbojlohjmbhifaaGreatDoorRt4
namespace Go.Proofs.YtbojlohjmbhifaaGreatDoor
open Go.RowKit Go.Proofs.YtbojlohjmbhifaaGreatDoorW.PrintWords Go.Proofs.YtbojlohjmbhifaaGreatDoorW.PrintMore
set_option maxHeartbeats 2000000 in
set_option maxRecDepth 100000 in
theorem tok_spread (s : ByteArray) (p q : Nat) (ha : Ahead s p q) (hc : cd s q = 46) (hc1 : cd s (q + 1 : Nat) = 46) (hc2 : cd s (q + 2 : Nat) = 46) : Tok s p 6 q (q + 3) ⟨#[]⟩ := by
  intro w sb b cap h
  have hlt := h.lts
  have hhd := h.head
  have hq := ha.size
  have hs := h.size
  have HP : Hid (∀ o, Calls Tryz.prog 25 #[.slice (some ⟨b, 0, none⟩) s.size cap, .int .i64 (p : Int)] (w.alloc o) fun e w' => e = .returned (.tuple #[.int .i64 (q : Int), .int .i64 (q : Int)]) ∧ (w.alloc o) = w') :=
    Lib.hid (fun o => pos_at ha (by rw [hc]; refine ⟨?_, ?_, ?_, ?_, ?_, ?_, ?_⟩ <;> decide) (h.grow ((Below.refl _ _).alloc (Nat.le_refl _) o)))
  have HR : Hid (∀ o, Calls Tryz.prog 27 #[.slice (some ⟨b, 0, none⟩) s.size cap, .int .i64 (q : Int)] (w.alloc o) fun e w' => e = .returned (.tuple #[.int .i32 46, .int .i64 1]) ∧ (w.alloc o) = w') :=
    Lib.hid (fun o => by have c := runeAt_any (h.grow ((Below.refl _ _).alloc (Nat.le_refl _) o)) q (by omega); rw [hc, wd_in (by omega)] at c; exact c)
  have H1 : Hid (∀ o, Src (w.alloc o) sb b cap s) := Lib.hid (fun o => h.grow ((Below.refl _ _).alloc (Nat.le_refl _) o))
  have b1 : (cd s ((q : Int) + 1) == 46) = true := beq_iff_eq.2 hc1
  have b2 : (cd s ((q : Int) + 2) == 46) = true := beq_iff_eq.2 hc2
  clear ha hc hc1 hc2 h
  go_enter Tryz.func23, Tryz.ntmps23
  go_wp2_with (first | (go_at_call 25; refine (HP.out _).mono ?_; rintro r w' ⟨rfl, rfl⟩) | (go_at_call_of 27 (Value.int IntKind.i64 (q : Int)); refine (HR.out _).mono ?_; rintro r w' ⟨rfl, rfl⟩) | (go_at_call 27; refine (runeAt_any (H1.out _) _ (by omega)).mono ?_; rintro r w' ⟨rfl, rfl⟩) | (go_at_call 26; refine (makeToken_any _ _ _ _ _).mono ?_; rintro r w' ⟨rfl, hb⟩; obtain ⟨⟨c0, c1, c2, c3⟩, ⟨z0, z1, z2, z3⟩, hz, hB⟩ := kept4 hb; clear hb))
  obtain ⟨q0, q1, q2, q3⟩ := set4 c0 c1 c2 c3 (.int .i64 6) (.int .i64 q) (.int .i64 ((q : Int) + 3)) (.string ⟨#[]⟩)
  refine bodyPost_ret (v := .tuple #[.agg #[.int .i64 6, .int .i64 q, .int .i64 ((q : Int) + 3), .string ⟨#[]⟩], .nilIface]) (by simp [results, Tryz.results23, go_sem, q0, q1, q2, q3]) rfl ⟨rfl, below_set4 hB (Nat.le_refl _) _ _ _ _⟩

set_option maxHeartbeats 2000000 in
set_option maxRecDepth 100000 in
theorem bad_dot (s : ByteArray) (p q : Nat) (ha : Ahead s p q) (hc : cd s q = 46) (hc1 : cd s (q + 1 : Nat) ≠ 46) : Bad s p := by
  intro w sb b cap h
  have hlt := h.lts
  have hhd := h.head
  have hq := ha.size
  have hs := h.size
  have HP : Hid (∀ o, Calls Tryz.prog 25 #[.slice (some ⟨b, 0, none⟩) s.size cap, .int .i64 (p : Int)] (w.alloc o) fun e w' => e = .returned (.tuple #[.int .i64 (q : Int), .int .i64 (q : Int)]) ∧ (w.alloc o) = w') :=
    Lib.hid (fun o => pos_at ha (by rw [hc]; refine ⟨?_, ?_, ?_, ?_, ?_, ?_, ?_⟩ <;> decide) (h.grow ((Below.refl _ _).alloc (Nat.le_refl _) o)))
  have HR : Hid (∀ o, Calls Tryz.prog 27 #[.slice (some ⟨b, 0, none⟩) s.size cap, .int .i64 (q : Int)] (w.alloc o) fun e w' => e = .returned (.tuple #[.int .i32 46, .int .i64 1]) ∧ (w.alloc o) = w') :=
    Lib.hid (fun o => by have c := runeAt_any (h.grow ((Below.refl _ _).alloc (Nat.le_refl _) o)) q (by omega); rw [hc, wd_in (by omega)] at c; exact c)
  have H1 : Hid (∀ o, Src (w.alloc o) sb b cap s) := Lib.hid (fun o => h.grow ((Below.refl _ _).alloc (Nat.le_refl _) o))
  have b1 : (cd s ((q : Int) + 1) == 46) = false := beq_eq_false_iff_ne.2 hc1
  clear hc1
  clear ha hc h
  go_enter Tryz.func23, Tryz.ntmps23
  go_wp2_with (first | (go_at_call 25; refine (HP.out _).mono ?_; rintro r w' ⟨rfl, rfl⟩) | (go_at_call_of 27 (Value.int IntKind.i64 (q : Int)); refine (HR.out _).mono ?_; rintro r w' ⟨rfl, rfl⟩) | (go_at_call 27; refine (runeAt_any (H1.out _) _ (by omega)).mono ?_; rintro r w' ⟨rfl, rfl⟩) | (go_at_call 28; refine (syntax_any (H1.out _) _ (by omega) (by omega) _).mono ?_; rintro r w1 ⟨g, rfl, hb⟩; obtain ⟨⟨c0, c1, c2, c3⟩, ⟨z0, z1, z2, z3⟩, hz, hB⟩ := kept4 hb; clear hb))
  obtain ⟨q0, q1, q2, q3⟩ := set4 c0 c1 c2 c3 (.int .i64 0) (.int .i64 0) (.int .i64 0) (.string ⟨#[]⟩)
  refine bodyPost_ret (v := .tuple #[.agg #[.int .i64 0, .int .i64 0, .int .i64 0, .string ⟨#[]⟩], .iface 63 (.pointer (some ⟨g, 0, none⟩))]) (by simp [results, Tryz.results23, go_sem, q0, q1, q2, q3]) rfl ⟨g, rfl, below_set4 hB (Nat.le_refl _) _ _ _ _⟩

set_option maxHeartbeats 2000000 in
set_option maxRecDepth 100000 in
theorem bad_dots (s : ByteArray) (p q : Nat) (ha : Ahead s p q) (hc : cd s q = 46) (hc1 : cd s (q + 1 : Nat) = 46) (hc2 : cd s (q + 2 : Nat) ≠ 46) : Bad s p := by
  intro w sb b cap h
  have hlt := h.lts
  have hhd := h.head
  have hq := ha.size
  have hs := h.size
  have HP : Hid (∀ o, Calls Tryz.prog 25 #[.slice (some ⟨b, 0, none⟩) s.size cap, .int .i64 (p : Int)] (w.alloc o) fun e w' => e = .returned (.tuple #[.int .i64 (q : Int), .int .i64 (q : Int)]) ∧ (w.alloc o) = w') :=
    Lib.hid (fun o => pos_at ha (by rw [hc]; refine ⟨?_, ?_, ?_, ?_, ?_, ?_, ?_⟩ <;> decide) (h.grow ((Below.refl _ _).alloc (Nat.le_refl _) o)))
  have HR : Hid (∀ o, Calls Tryz.prog 27 #[.slice (some ⟨b, 0, none⟩) s.size cap, .int .i64 (q : Int)] (w.alloc o) fun e w' => e = .returned (.tuple #[.int .i32 46, .int .i64 1]) ∧ (w.alloc o) = w') :=
    Lib.hid (fun o => by have c := runeAt_any (h.grow ((Below.refl _ _).alloc (Nat.le_refl _) o)) q (by omega); rw [hc, wd_in (by omega)] at c; exact c)
  have H1 : Hid (∀ o, Src (w.alloc o) sb b cap s) := Lib.hid (fun o => h.grow ((Below.refl _ _).alloc (Nat.le_refl _) o))
  have b1 : (cd s ((q : Int) + 1) == 46) = true := beq_iff_eq.2 hc1
  have b2 : (cd s ((q : Int) + 2) == 46) = false := beq_eq_false_iff_ne.2 hc2
  clear hc1 hc2
  clear ha hc h
  go_enter Tryz.func23, Tryz.ntmps23
  go_wp2_with (first | (go_at_call 25; refine (HP.out _).mono ?_; rintro r w' ⟨rfl, rfl⟩) | (go_at_call_of 27 (Value.int IntKind.i64 (q : Int)); refine (HR.out _).mono ?_; rintro r w' ⟨rfl, rfl⟩) | (go_at_call 27; refine (runeAt_any (H1.out _) _ (by omega)).mono ?_; rintro r w' ⟨rfl, rfl⟩) | (go_at_call 28; refine (syntax_any (H1.out _) _ (by omega) (by omega) _).mono ?_; rintro r w1 ⟨g, rfl, hb⟩; obtain ⟨⟨c0, c1, c2, c3⟩, ⟨z0, z1, z2, z3⟩, hz, hB⟩ := kept4 hb; clear hb))
  obtain ⟨q0, q1, q2, q3⟩ := set4 c0 c1 c2 c3 (.int .i64 0) (.int .i64 0) (.int .i64 0) (.string ⟨#[]⟩)
  refine bodyPost_ret (v := .tuple #[.agg #[.int .i64 0, .int .i64 0, .int .i64 0, .string ⟨#[]⟩], .iface 63 (.pointer (some ⟨g, 0, none⟩))]) (by simp [results, Tryz.results23, go_sem, q0, q1, q2, q3]) rfl ⟨g, rfl, below_set4 hB (Nat.le_refl _) _ _ _ _⟩

end Go.Proofs.YtbojlohjmbhifaaGreatDoor
