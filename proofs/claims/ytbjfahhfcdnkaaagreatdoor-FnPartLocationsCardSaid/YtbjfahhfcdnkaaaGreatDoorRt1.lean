/- Each sign of the grammar is a token. -/
import Derived.Test.YtbjfahhfcdnkaaaGreatDoorRt0
namespace Go.Proofs.YtbjfahhfcdnkaaaGreatDoor
open Go.RowKit Go.Proofs.YtbjfahhfcdnkaaaGreatDoorW.PrintWords Go.Proofs.YtbjfahhfcdnkaaaGreatDoorW.PrintMore
set_option maxHeartbeats 2000000 in
set_option maxRecDepth 100000 in
theorem tok_bang (s : ByteArray) (p q : Nat) (ha : Ahead s p q) (hc : cd s q = 33) : Tok s p 2 q (q + 1) ⟨#[]⟩ := by
  intro w sb b cap h
  have hlt := h.lts
  have hhd := h.head
  have hq := ha.size
  have hs := h.size
  have HP : Hid (∀ o, Calls Tryz.prog 154 #[.slice (some ⟨b, 0, none⟩) s.size cap, .int .i64 (p : Int)] (w.alloc o) fun e w' => e = .returned (.tuple #[.int .i64 (q : Int), .int .i64 (q : Int)]) ∧ (w.alloc o) = w') :=
    Lib.hid (fun o => pos_at ha (by rw [hc]; refine ⟨?_, ?_, ?_, ?_, ?_, ?_, ?_⟩ <;> decide) (h.grow ((Below.refl _ _).alloc (Nat.le_refl _) o)))
  have HR : Hid (∀ o, Calls Tryz.prog 156 #[.slice (some ⟨b, 0, none⟩) s.size cap, .int .i64 (q : Int)] (w.alloc o) fun e w' => e = .returned (.tuple #[.int .i32 33, .int .i64 1]) ∧ (w.alloc o) = w') :=
    Lib.hid (fun o => by have c := runeAt_any (h.grow ((Below.refl _ _).alloc (Nat.le_refl _) o)) q (by omega); rw [hc, wd_in (by omega)] at c; exact c)
  clear ha hc h
  go_enter Tryz.func134, Tryz.ntmps134
  go_wp2_with (first | (go_at_call 154; refine (HP.out _).mono ?_; rintro r w' ⟨rfl, rfl⟩) | (go_at_call 156; refine (HR.out _).mono ?_; rintro r w' ⟨rfl, rfl⟩) | (go_at_call 155; refine (makeToken_any _ _ _ _ _).mono ?_; rintro r w' ⟨rfl, hb⟩; obtain ⟨⟨c0, c1, c2, c3⟩, ⟨z0, z1, z2, z3⟩, hz, hB⟩ := kept4 hb; clear hb))
  obtain ⟨q0, q1, q2, q3⟩ := set4 c0 c1 c2 c3 (.int .i64 2) (.int .i64 q) (.int .i64 ((q : Int) + 1)) (.string ⟨#[]⟩)
  refine bodyPost_ret (v := .tuple #[.agg #[.int .i64 2, .int .i64 q, .int .i64 ((q : Int) + 1), .string ⟨#[]⟩], .nilIface]) (by simp [results, Tryz.results134, go_sem, q0, q1, q2, q3]) rfl ⟨rfl, below_set4 hB (Nat.le_refl _) _ _ _ _⟩

set_option maxHeartbeats 2000000 in
set_option maxRecDepth 100000 in
theorem tok_dollar (s : ByteArray) (p q : Nat) (ha : Ahead s p q) (hc : cd s q = 36) : Tok s p 3 q (q + 1) ⟨#[]⟩ := by
  intro w sb b cap h
  have hlt := h.lts
  have hhd := h.head
  have hq := ha.size
  have hs := h.size
  have HP : Hid (∀ o, Calls Tryz.prog 154 #[.slice (some ⟨b, 0, none⟩) s.size cap, .int .i64 (p : Int)] (w.alloc o) fun e w' => e = .returned (.tuple #[.int .i64 (q : Int), .int .i64 (q : Int)]) ∧ (w.alloc o) = w') :=
    Lib.hid (fun o => pos_at ha (by rw [hc]; refine ⟨?_, ?_, ?_, ?_, ?_, ?_, ?_⟩ <;> decide) (h.grow ((Below.refl _ _).alloc (Nat.le_refl _) o)))
  have HR : Hid (∀ o, Calls Tryz.prog 156 #[.slice (some ⟨b, 0, none⟩) s.size cap, .int .i64 (q : Int)] (w.alloc o) fun e w' => e = .returned (.tuple #[.int .i32 36, .int .i64 1]) ∧ (w.alloc o) = w') :=
    Lib.hid (fun o => by have c := runeAt_any (h.grow ((Below.refl _ _).alloc (Nat.le_refl _) o)) q (by omega); rw [hc, wd_in (by omega)] at c; exact c)
  clear ha hc h
  go_enter Tryz.func134, Tryz.ntmps134
  go_wp2_with (first | (go_at_call 154; refine (HP.out _).mono ?_; rintro r w' ⟨rfl, rfl⟩) | (go_at_call 156; refine (HR.out _).mono ?_; rintro r w' ⟨rfl, rfl⟩) | (go_at_call 155; refine (makeToken_any _ _ _ _ _).mono ?_; rintro r w' ⟨rfl, hb⟩; obtain ⟨⟨c0, c1, c2, c3⟩, ⟨z0, z1, z2, z3⟩, hz, hB⟩ := kept4 hb; clear hb))
  obtain ⟨q0, q1, q2, q3⟩ := set4 c0 c1 c2 c3 (.int .i64 3) (.int .i64 q) (.int .i64 ((q : Int) + 1)) (.string ⟨#[]⟩)
  refine bodyPost_ret (v := .tuple #[.agg #[.int .i64 3, .int .i64 q, .int .i64 ((q : Int) + 1), .string ⟨#[]⟩], .nilIface]) (by simp [results, Tryz.results134, go_sem, q0, q1, q2, q3]) rfl ⟨rfl, below_set4 hB (Nat.le_refl _) _ _ _ _⟩

set_option maxHeartbeats 2000000 in
set_option maxRecDepth 100000 in
theorem tok_amp (s : ByteArray) (p q : Nat) (ha : Ahead s p q) (hc : cd s q = 38) : Tok s p 20 q (q + 1) ⟨#[]⟩ := by
  intro w sb b cap h
  have hlt := h.lts
  have hhd := h.head
  have hq := ha.size
  have hs := h.size
  have HP : Hid (∀ o, Calls Tryz.prog 154 #[.slice (some ⟨b, 0, none⟩) s.size cap, .int .i64 (p : Int)] (w.alloc o) fun e w' => e = .returned (.tuple #[.int .i64 (q : Int), .int .i64 (q : Int)]) ∧ (w.alloc o) = w') :=
    Lib.hid (fun o => pos_at ha (by rw [hc]; refine ⟨?_, ?_, ?_, ?_, ?_, ?_, ?_⟩ <;> decide) (h.grow ((Below.refl _ _).alloc (Nat.le_refl _) o)))
  have HR : Hid (∀ o, Calls Tryz.prog 156 #[.slice (some ⟨b, 0, none⟩) s.size cap, .int .i64 (q : Int)] (w.alloc o) fun e w' => e = .returned (.tuple #[.int .i32 38, .int .i64 1]) ∧ (w.alloc o) = w') :=
    Lib.hid (fun o => by have c := runeAt_any (h.grow ((Below.refl _ _).alloc (Nat.le_refl _) o)) q (by omega); rw [hc, wd_in (by omega)] at c; exact c)
  clear ha hc h
  go_enter Tryz.func134, Tryz.ntmps134
  go_wp2_with (first | (go_at_call 154; refine (HP.out _).mono ?_; rintro r w' ⟨rfl, rfl⟩) | (go_at_call 156; refine (HR.out _).mono ?_; rintro r w' ⟨rfl, rfl⟩) | (go_at_call 155; refine (makeToken_any _ _ _ _ _).mono ?_; rintro r w' ⟨rfl, hb⟩; obtain ⟨⟨c0, c1, c2, c3⟩, ⟨z0, z1, z2, z3⟩, hz, hB⟩ := kept4 hb; clear hb))
  obtain ⟨q0, q1, q2, q3⟩ := set4 c0 c1 c2 c3 (.int .i64 20) (.int .i64 q) (.int .i64 ((q : Int) + 1)) (.string ⟨#[]⟩)
  refine bodyPost_ret (v := .tuple #[.agg #[.int .i64 20, .int .i64 q, .int .i64 ((q : Int) + 1), .string ⟨#[]⟩], .nilIface]) (by simp [results, Tryz.results134, go_sem, q0, q1, q2, q3]) rfl ⟨rfl, below_set4 hB (Nat.le_refl _) _ _ _ _⟩

set_option maxHeartbeats 2000000 in
set_option maxRecDepth 100000 in
theorem tok_parenL (s : ByteArray) (p q : Nat) (ha : Ahead s p q) (hc : cd s q = 40) : Tok s p 4 q (q + 1) ⟨#[]⟩ := by
  intro w sb b cap h
  have hlt := h.lts
  have hhd := h.head
  have hq := ha.size
  have hs := h.size
  have HP : Hid (∀ o, Calls Tryz.prog 154 #[.slice (some ⟨b, 0, none⟩) s.size cap, .int .i64 (p : Int)] (w.alloc o) fun e w' => e = .returned (.tuple #[.int .i64 (q : Int), .int .i64 (q : Int)]) ∧ (w.alloc o) = w') :=
    Lib.hid (fun o => pos_at ha (by rw [hc]; refine ⟨?_, ?_, ?_, ?_, ?_, ?_, ?_⟩ <;> decide) (h.grow ((Below.refl _ _).alloc (Nat.le_refl _) o)))
  have HR : Hid (∀ o, Calls Tryz.prog 156 #[.slice (some ⟨b, 0, none⟩) s.size cap, .int .i64 (q : Int)] (w.alloc o) fun e w' => e = .returned (.tuple #[.int .i32 40, .int .i64 1]) ∧ (w.alloc o) = w') :=
    Lib.hid (fun o => by have c := runeAt_any (h.grow ((Below.refl _ _).alloc (Nat.le_refl _) o)) q (by omega); rw [hc, wd_in (by omega)] at c; exact c)
  clear ha hc h
  go_enter Tryz.func134, Tryz.ntmps134
  go_wp2_with (first | (go_at_call 154; refine (HP.out _).mono ?_; rintro r w' ⟨rfl, rfl⟩) | (go_at_call 156; refine (HR.out _).mono ?_; rintro r w' ⟨rfl, rfl⟩) | (go_at_call 155; refine (makeToken_any _ _ _ _ _).mono ?_; rintro r w' ⟨rfl, hb⟩; obtain ⟨⟨c0, c1, c2, c3⟩, ⟨z0, z1, z2, z3⟩, hz, hB⟩ := kept4 hb; clear hb))
  obtain ⟨q0, q1, q2, q3⟩ := set4 c0 c1 c2 c3 (.int .i64 4) (.int .i64 q) (.int .i64 ((q : Int) + 1)) (.string ⟨#[]⟩)
  refine bodyPost_ret (v := .tuple #[.agg #[.int .i64 4, .int .i64 q, .int .i64 ((q : Int) + 1), .string ⟨#[]⟩], .nilIface]) (by simp [results, Tryz.results134, go_sem, q0, q1, q2, q3]) rfl ⟨rfl, below_set4 hB (Nat.le_refl _) _ _ _ _⟩

set_option maxHeartbeats 2000000 in
set_option maxRecDepth 100000 in
theorem tok_parenR (s : ByteArray) (p q : Nat) (ha : Ahead s p q) (hc : cd s q = 41) : Tok s p 5 q (q + 1) ⟨#[]⟩ := by
  intro w sb b cap h
  have hlt := h.lts
  have hhd := h.head
  have hq := ha.size
  have hs := h.size
  have HP : Hid (∀ o, Calls Tryz.prog 154 #[.slice (some ⟨b, 0, none⟩) s.size cap, .int .i64 (p : Int)] (w.alloc o) fun e w' => e = .returned (.tuple #[.int .i64 (q : Int), .int .i64 (q : Int)]) ∧ (w.alloc o) = w') :=
    Lib.hid (fun o => pos_at ha (by rw [hc]; refine ⟨?_, ?_, ?_, ?_, ?_, ?_, ?_⟩ <;> decide) (h.grow ((Below.refl _ _).alloc (Nat.le_refl _) o)))
  have HR : Hid (∀ o, Calls Tryz.prog 156 #[.slice (some ⟨b, 0, none⟩) s.size cap, .int .i64 (q : Int)] (w.alloc o) fun e w' => e = .returned (.tuple #[.int .i32 41, .int .i64 1]) ∧ (w.alloc o) = w') :=
    Lib.hid (fun o => by have c := runeAt_any (h.grow ((Below.refl _ _).alloc (Nat.le_refl _) o)) q (by omega); rw [hc, wd_in (by omega)] at c; exact c)
  clear ha hc h
  go_enter Tryz.func134, Tryz.ntmps134
  go_wp2_with (first | (go_at_call 154; refine (HP.out _).mono ?_; rintro r w' ⟨rfl, rfl⟩) | (go_at_call 156; refine (HR.out _).mono ?_; rintro r w' ⟨rfl, rfl⟩) | (go_at_call 155; refine (makeToken_any _ _ _ _ _).mono ?_; rintro r w' ⟨rfl, hb⟩; obtain ⟨⟨c0, c1, c2, c3⟩, ⟨z0, z1, z2, z3⟩, hz, hB⟩ := kept4 hb; clear hb))
  obtain ⟨q0, q1, q2, q3⟩ := set4 c0 c1 c2 c3 (.int .i64 5) (.int .i64 q) (.int .i64 ((q : Int) + 1)) (.string ⟨#[]⟩)
  refine bodyPost_ret (v := .tuple #[.agg #[.int .i64 5, .int .i64 q, .int .i64 ((q : Int) + 1), .string ⟨#[]⟩], .nilIface]) (by simp [results, Tryz.results134, go_sem, q0, q1, q2, q3]) rfl ⟨rfl, below_set4 hB (Nat.le_refl _) _ _ _ _⟩

set_option maxHeartbeats 2000000 in
set_option maxRecDepth 100000 in
theorem tok_colon (s : ByteArray) (p q : Nat) (ha : Ahead s p q) (hc : cd s q = 58) : Tok s p 7 q (q + 1) ⟨#[]⟩ := by
  intro w sb b cap h
  have hlt := h.lts
  have hhd := h.head
  have hq := ha.size
  have hs := h.size
  have HP : Hid (∀ o, Calls Tryz.prog 154 #[.slice (some ⟨b, 0, none⟩) s.size cap, .int .i64 (p : Int)] (w.alloc o) fun e w' => e = .returned (.tuple #[.int .i64 (q : Int), .int .i64 (q : Int)]) ∧ (w.alloc o) = w') :=
    Lib.hid (fun o => pos_at ha (by rw [hc]; refine ⟨?_, ?_, ?_, ?_, ?_, ?_, ?_⟩ <;> decide) (h.grow ((Below.refl _ _).alloc (Nat.le_refl _) o)))
  have HR : Hid (∀ o, Calls Tryz.prog 156 #[.slice (some ⟨b, 0, none⟩) s.size cap, .int .i64 (q : Int)] (w.alloc o) fun e w' => e = .returned (.tuple #[.int .i32 58, .int .i64 1]) ∧ (w.alloc o) = w') :=
    Lib.hid (fun o => by have c := runeAt_any (h.grow ((Below.refl _ _).alloc (Nat.le_refl _) o)) q (by omega); rw [hc, wd_in (by omega)] at c; exact c)
  clear ha hc h
  go_enter Tryz.func134, Tryz.ntmps134
  go_wp2_with (first | (go_at_call 154; refine (HP.out _).mono ?_; rintro r w' ⟨rfl, rfl⟩) | (go_at_call 156; refine (HR.out _).mono ?_; rintro r w' ⟨rfl, rfl⟩) | (go_at_call 155; refine (makeToken_any _ _ _ _ _).mono ?_; rintro r w' ⟨rfl, hb⟩; obtain ⟨⟨c0, c1, c2, c3⟩, ⟨z0, z1, z2, z3⟩, hz, hB⟩ := kept4 hb; clear hb))
  obtain ⟨q0, q1, q2, q3⟩ := set4 c0 c1 c2 c3 (.int .i64 7) (.int .i64 q) (.int .i64 ((q : Int) + 1)) (.string ⟨#[]⟩)
  refine bodyPost_ret (v := .tuple #[.agg #[.int .i64 7, .int .i64 q, .int .i64 ((q : Int) + 1), .string ⟨#[]⟩], .nilIface]) (by simp [results, Tryz.results134, go_sem, q0, q1, q2, q3]) rfl ⟨rfl, below_set4 hB (Nat.le_refl _) _ _ _ _⟩

set_option maxHeartbeats 2000000 in
set_option maxRecDepth 100000 in
theorem tok_equals (s : ByteArray) (p q : Nat) (ha : Ahead s p q) (hc : cd s q = 61) : Tok s p 8 q (q + 1) ⟨#[]⟩ := by
  intro w sb b cap h
  have hlt := h.lts
  have hhd := h.head
  have hq := ha.size
  have hs := h.size
  have HP : Hid (∀ o, Calls Tryz.prog 154 #[.slice (some ⟨b, 0, none⟩) s.size cap, .int .i64 (p : Int)] (w.alloc o) fun e w' => e = .returned (.tuple #[.int .i64 (q : Int), .int .i64 (q : Int)]) ∧ (w.alloc o) = w') :=
    Lib.hid (fun o => pos_at ha (by rw [hc]; refine ⟨?_, ?_, ?_, ?_, ?_, ?_, ?_⟩ <;> decide) (h.grow ((Below.refl _ _).alloc (Nat.le_refl _) o)))
  have HR : Hid (∀ o, Calls Tryz.prog 156 #[.slice (some ⟨b, 0, none⟩) s.size cap, .int .i64 (q : Int)] (w.alloc o) fun e w' => e = .returned (.tuple #[.int .i32 61, .int .i64 1]) ∧ (w.alloc o) = w') :=
    Lib.hid (fun o => by have c := runeAt_any (h.grow ((Below.refl _ _).alloc (Nat.le_refl _) o)) q (by omega); rw [hc, wd_in (by omega)] at c; exact c)
  clear ha hc h
  go_enter Tryz.func134, Tryz.ntmps134
  go_wp2_with (first | (go_at_call 154; refine (HP.out _).mono ?_; rintro r w' ⟨rfl, rfl⟩) | (go_at_call 156; refine (HR.out _).mono ?_; rintro r w' ⟨rfl, rfl⟩) | (go_at_call 155; refine (makeToken_any _ _ _ _ _).mono ?_; rintro r w' ⟨rfl, hb⟩; obtain ⟨⟨c0, c1, c2, c3⟩, ⟨z0, z1, z2, z3⟩, hz, hB⟩ := kept4 hb; clear hb))
  obtain ⟨q0, q1, q2, q3⟩ := set4 c0 c1 c2 c3 (.int .i64 8) (.int .i64 q) (.int .i64 ((q : Int) + 1)) (.string ⟨#[]⟩)
  refine bodyPost_ret (v := .tuple #[.agg #[.int .i64 8, .int .i64 q, .int .i64 ((q : Int) + 1), .string ⟨#[]⟩], .nilIface]) (by simp [results, Tryz.results134, go_sem, q0, q1, q2, q3]) rfl ⟨rfl, below_set4 hB (Nat.le_refl _) _ _ _ _⟩

set_option maxHeartbeats 2000000 in
set_option maxRecDepth 100000 in
theorem tok_at (s : ByteArray) (p q : Nat) (ha : Ahead s p q) (hc : cd s q = 64) : Tok s p 9 q (q + 1) ⟨#[]⟩ := by
  intro w sb b cap h
  have hlt := h.lts
  have hhd := h.head
  have hq := ha.size
  have hs := h.size
  have HP : Hid (∀ o, Calls Tryz.prog 154 #[.slice (some ⟨b, 0, none⟩) s.size cap, .int .i64 (p : Int)] (w.alloc o) fun e w' => e = .returned (.tuple #[.int .i64 (q : Int), .int .i64 (q : Int)]) ∧ (w.alloc o) = w') :=
    Lib.hid (fun o => pos_at ha (by rw [hc]; refine ⟨?_, ?_, ?_, ?_, ?_, ?_, ?_⟩ <;> decide) (h.grow ((Below.refl _ _).alloc (Nat.le_refl _) o)))
  have HR : Hid (∀ o, Calls Tryz.prog 156 #[.slice (some ⟨b, 0, none⟩) s.size cap, .int .i64 (q : Int)] (w.alloc o) fun e w' => e = .returned (.tuple #[.int .i32 64, .int .i64 1]) ∧ (w.alloc o) = w') :=
    Lib.hid (fun o => by have c := runeAt_any (h.grow ((Below.refl _ _).alloc (Nat.le_refl _) o)) q (by omega); rw [hc, wd_in (by omega)] at c; exact c)
  clear ha hc h
  go_enter Tryz.func134, Tryz.ntmps134
  go_wp2_with (first | (go_at_call 154; refine (HP.out _).mono ?_; rintro r w' ⟨rfl, rfl⟩) | (go_at_call 156; refine (HR.out _).mono ?_; rintro r w' ⟨rfl, rfl⟩) | (go_at_call 155; refine (makeToken_any _ _ _ _ _).mono ?_; rintro r w' ⟨rfl, hb⟩; obtain ⟨⟨c0, c1, c2, c3⟩, ⟨z0, z1, z2, z3⟩, hz, hB⟩ := kept4 hb; clear hb))
  obtain ⟨q0, q1, q2, q3⟩ := set4 c0 c1 c2 c3 (.int .i64 9) (.int .i64 q) (.int .i64 ((q : Int) + 1)) (.string ⟨#[]⟩)
  refine bodyPost_ret (v := .tuple #[.agg #[.int .i64 9, .int .i64 q, .int .i64 ((q : Int) + 1), .string ⟨#[]⟩], .nilIface]) (by simp [results, Tryz.results134, go_sem, q0, q1, q2, q3]) rfl ⟨rfl, below_set4 hB (Nat.le_refl _) _ _ _ _⟩

set_option maxHeartbeats 2000000 in
set_option maxRecDepth 100000 in
theorem tok_bracketL (s : ByteArray) (p q : Nat) (ha : Ahead s p q) (hc : cd s q = 91) : Tok s p 10 q (q + 1) ⟨#[]⟩ := by
  intro w sb b cap h
  have hlt := h.lts
  have hhd := h.head
  have hq := ha.size
  have hs := h.size
  have HP : Hid (∀ o, Calls Tryz.prog 154 #[.slice (some ⟨b, 0, none⟩) s.size cap, .int .i64 (p : Int)] (w.alloc o) fun e w' => e = .returned (.tuple #[.int .i64 (q : Int), .int .i64 (q : Int)]) ∧ (w.alloc o) = w') :=
    Lib.hid (fun o => pos_at ha (by rw [hc]; refine ⟨?_, ?_, ?_, ?_, ?_, ?_, ?_⟩ <;> decide) (h.grow ((Below.refl _ _).alloc (Nat.le_refl _) o)))
  have HR : Hid (∀ o, Calls Tryz.prog 156 #[.slice (some ⟨b, 0, none⟩) s.size cap, .int .i64 (q : Int)] (w.alloc o) fun e w' => e = .returned (.tuple #[.int .i32 91, .int .i64 1]) ∧ (w.alloc o) = w') :=
    Lib.hid (fun o => by have c := runeAt_any (h.grow ((Below.refl _ _).alloc (Nat.le_refl _) o)) q (by omega); rw [hc, wd_in (by omega)] at c; exact c)
  clear ha hc h
  go_enter Tryz.func134, Tryz.ntmps134
  go_wp2_with (first | (go_at_call 154; refine (HP.out _).mono ?_; rintro r w' ⟨rfl, rfl⟩) | (go_at_call 156; refine (HR.out _).mono ?_; rintro r w' ⟨rfl, rfl⟩) | (go_at_call 155; refine (makeToken_any _ _ _ _ _).mono ?_; rintro r w' ⟨rfl, hb⟩; obtain ⟨⟨c0, c1, c2, c3⟩, ⟨z0, z1, z2, z3⟩, hz, hB⟩ := kept4 hb; clear hb))
  obtain ⟨q0, q1, q2, q3⟩ := set4 c0 c1 c2 c3 (.int .i64 10) (.int .i64 q) (.int .i64 ((q : Int) + 1)) (.string ⟨#[]⟩)
  refine bodyPost_ret (v := .tuple #[.agg #[.int .i64 10, .int .i64 q, .int .i64 ((q : Int) + 1), .string ⟨#[]⟩], .nilIface]) (by simp [results, Tryz.results134, go_sem, q0, q1, q2, q3]) rfl ⟨rfl, below_set4 hB (Nat.le_refl _) _ _ _ _⟩

set_option maxHeartbeats 2000000 in
set_option maxRecDepth 100000 in
theorem tok_bracketR (s : ByteArray) (p q : Nat) (ha : Ahead s p q) (hc : cd s q = 93) : Tok s p 11 q (q + 1) ⟨#[]⟩ := by
  intro w sb b cap h
  have hlt := h.lts
  have hhd := h.head
  have hq := ha.size
  have hs := h.size
  have HP : Hid (∀ o, Calls Tryz.prog 154 #[.slice (some ⟨b, 0, none⟩) s.size cap, .int .i64 (p : Int)] (w.alloc o) fun e w' => e = .returned (.tuple #[.int .i64 (q : Int), .int .i64 (q : Int)]) ∧ (w.alloc o) = w') :=
    Lib.hid (fun o => pos_at ha (by rw [hc]; refine ⟨?_, ?_, ?_, ?_, ?_, ?_, ?_⟩ <;> decide) (h.grow ((Below.refl _ _).alloc (Nat.le_refl _) o)))
  have HR : Hid (∀ o, Calls Tryz.prog 156 #[.slice (some ⟨b, 0, none⟩) s.size cap, .int .i64 (q : Int)] (w.alloc o) fun e w' => e = .returned (.tuple #[.int .i32 93, .int .i64 1]) ∧ (w.alloc o) = w') :=
    Lib.hid (fun o => by have c := runeAt_any (h.grow ((Below.refl _ _).alloc (Nat.le_refl _) o)) q (by omega); rw [hc, wd_in (by omega)] at c; exact c)
  clear ha hc h
  go_enter Tryz.func134, Tryz.ntmps134
  go_wp2_with (first | (go_at_call 154; refine (HP.out _).mono ?_; rintro r w' ⟨rfl, rfl⟩) | (go_at_call 156; refine (HR.out _).mono ?_; rintro r w' ⟨rfl, rfl⟩) | (go_at_call 155; refine (makeToken_any _ _ _ _ _).mono ?_; rintro r w' ⟨rfl, hb⟩; obtain ⟨⟨c0, c1, c2, c3⟩, ⟨z0, z1, z2, z3⟩, hz, hB⟩ := kept4 hb; clear hb))
  obtain ⟨q0, q1, q2, q3⟩ := set4 c0 c1 c2 c3 (.int .i64 11) (.int .i64 q) (.int .i64 ((q : Int) + 1)) (.string ⟨#[]⟩)
  refine bodyPost_ret (v := .tuple #[.agg #[.int .i64 11, .int .i64 q, .int .i64 ((q : Int) + 1), .string ⟨#[]⟩], .nilIface]) (by simp [results, Tryz.results134, go_sem, q0, q1, q2, q3]) rfl ⟨rfl, below_set4 hB (Nat.le_refl _) _ _ _ _⟩

set_option maxHeartbeats 2000000 in
set_option maxRecDepth 100000 in
theorem tok_braceL (s : ByteArray) (p q : Nat) (ha : Ahead s p q) (hc : cd s q = 123) : Tok s p 12 q (q + 1) ⟨#[]⟩ := by
  intro w sb b cap h
  have hlt := h.lts
  have hhd := h.head
  have hq := ha.size
  have hs := h.size
  have HP : Hid (∀ o, Calls Tryz.prog 154 #[.slice (some ⟨b, 0, none⟩) s.size cap, .int .i64 (p : Int)] (w.alloc o) fun e w' => e = .returned (.tuple #[.int .i64 (q : Int), .int .i64 (q : Int)]) ∧ (w.alloc o) = w') :=
    Lib.hid (fun o => pos_at ha (by rw [hc]; refine ⟨?_, ?_, ?_, ?_, ?_, ?_, ?_⟩ <;> decide) (h.grow ((Below.refl _ _).alloc (Nat.le_refl _) o)))
  have HR : Hid (∀ o, Calls Tryz.prog 156 #[.slice (some ⟨b, 0, none⟩) s.size cap, .int .i64 (q : Int)] (w.alloc o) fun e w' => e = .returned (.tuple #[.int .i32 123, .int .i64 1]) ∧ (w.alloc o) = w') :=
    Lib.hid (fun o => by have c := runeAt_any (h.grow ((Below.refl _ _).alloc (Nat.le_refl _) o)) q (by omega); rw [hc, wd_in (by omega)] at c; exact c)
  clear ha hc h
  go_enter Tryz.func134, Tryz.ntmps134
  go_wp2_with (first | (go_at_call 154; refine (HP.out _).mono ?_; rintro r w' ⟨rfl, rfl⟩) | (go_at_call 156; refine (HR.out _).mono ?_; rintro r w' ⟨rfl, rfl⟩) | (go_at_call 155; refine (makeToken_any _ _ _ _ _).mono ?_; rintro r w' ⟨rfl, hb⟩; obtain ⟨⟨c0, c1, c2, c3⟩, ⟨z0, z1, z2, z3⟩, hz, hB⟩ := kept4 hb; clear hb))
  obtain ⟨q0, q1, q2, q3⟩ := set4 c0 c1 c2 c3 (.int .i64 12) (.int .i64 q) (.int .i64 ((q : Int) + 1)) (.string ⟨#[]⟩)
  refine bodyPost_ret (v := .tuple #[.agg #[.int .i64 12, .int .i64 q, .int .i64 ((q : Int) + 1), .string ⟨#[]⟩], .nilIface]) (by simp [results, Tryz.results134, go_sem, q0, q1, q2, q3]) rfl ⟨rfl, below_set4 hB (Nat.le_refl _) _ _ _ _⟩

set_option maxHeartbeats 2000000 in
set_option maxRecDepth 100000 in
theorem tok_pipe (s : ByteArray) (p q : Nat) (ha : Ahead s p q) (hc : cd s q = 124) : Tok s p 13 q (q + 1) ⟨#[]⟩ := by
  intro w sb b cap h
  have hlt := h.lts
  have hhd := h.head
  have hq := ha.size
  have hs := h.size
  have HP : Hid (∀ o, Calls Tryz.prog 154 #[.slice (some ⟨b, 0, none⟩) s.size cap, .int .i64 (p : Int)] (w.alloc o) fun e w' => e = .returned (.tuple #[.int .i64 (q : Int), .int .i64 (q : Int)]) ∧ (w.alloc o) = w') :=
    Lib.hid (fun o => pos_at ha (by rw [hc]; refine ⟨?_, ?_, ?_, ?_, ?_, ?_, ?_⟩ <;> decide) (h.grow ((Below.refl _ _).alloc (Nat.le_refl _) o)))
  have HR : Hid (∀ o, Calls Tryz.prog 156 #[.slice (some ⟨b, 0, none⟩) s.size cap, .int .i64 (q : Int)] (w.alloc o) fun e w' => e = .returned (.tuple #[.int .i32 124, .int .i64 1]) ∧ (w.alloc o) = w') :=
    Lib.hid (fun o => by have c := runeAt_any (h.grow ((Below.refl _ _).alloc (Nat.le_refl _) o)) q (by omega); rw [hc, wd_in (by omega)] at c; exact c)
  clear ha hc h
  go_enter Tryz.func134, Tryz.ntmps134
  go_wp2_with (first | (go_at_call 154; refine (HP.out _).mono ?_; rintro r w' ⟨rfl, rfl⟩) | (go_at_call 156; refine (HR.out _).mono ?_; rintro r w' ⟨rfl, rfl⟩) | (go_at_call 155; refine (makeToken_any _ _ _ _ _).mono ?_; rintro r w' ⟨rfl, hb⟩; obtain ⟨⟨c0, c1, c2, c3⟩, ⟨z0, z1, z2, z3⟩, hz, hB⟩ := kept4 hb; clear hb))
  obtain ⟨q0, q1, q2, q3⟩ := set4 c0 c1 c2 c3 (.int .i64 13) (.int .i64 q) (.int .i64 ((q : Int) + 1)) (.string ⟨#[]⟩)
  refine bodyPost_ret (v := .tuple #[.agg #[.int .i64 13, .int .i64 q, .int .i64 ((q : Int) + 1), .string ⟨#[]⟩], .nilIface]) (by simp [results, Tryz.results134, go_sem, q0, q1, q2, q3]) rfl ⟨rfl, below_set4 hB (Nat.le_refl _) _ _ _ _⟩

set_option maxHeartbeats 2000000 in
set_option maxRecDepth 100000 in
theorem tok_braceR (s : ByteArray) (p q : Nat) (ha : Ahead s p q) (hc : cd s q = 125) : Tok s p 14 q (q + 1) ⟨#[]⟩ := by
  intro w sb b cap h
  have hlt := h.lts
  have hhd := h.head
  have hq := ha.size
  have hs := h.size
  have HP : Hid (∀ o, Calls Tryz.prog 154 #[.slice (some ⟨b, 0, none⟩) s.size cap, .int .i64 (p : Int)] (w.alloc o) fun e w' => e = .returned (.tuple #[.int .i64 (q : Int), .int .i64 (q : Int)]) ∧ (w.alloc o) = w') :=
    Lib.hid (fun o => pos_at ha (by rw [hc]; refine ⟨?_, ?_, ?_, ?_, ?_, ?_, ?_⟩ <;> decide) (h.grow ((Below.refl _ _).alloc (Nat.le_refl _) o)))
  have HR : Hid (∀ o, Calls Tryz.prog 156 #[.slice (some ⟨b, 0, none⟩) s.size cap, .int .i64 (q : Int)] (w.alloc o) fun e w' => e = .returned (.tuple #[.int .i32 125, .int .i64 1]) ∧ (w.alloc o) = w') :=
    Lib.hid (fun o => by have c := runeAt_any (h.grow ((Below.refl _ _).alloc (Nat.le_refl _) o)) q (by omega); rw [hc, wd_in (by omega)] at c; exact c)
  clear ha hc h
  go_enter Tryz.func134, Tryz.ntmps134
  go_wp2_with (first | (go_at_call 154; refine (HP.out _).mono ?_; rintro r w' ⟨rfl, rfl⟩) | (go_at_call 156; refine (HR.out _).mono ?_; rintro r w' ⟨rfl, rfl⟩) | (go_at_call 155; refine (makeToken_any _ _ _ _ _).mono ?_; rintro r w' ⟨rfl, hb⟩; obtain ⟨⟨c0, c1, c2, c3⟩, ⟨z0, z1, z2, z3⟩, hz, hB⟩ := kept4 hb; clear hb))
  obtain ⟨q0, q1, q2, q3⟩ := set4 c0 c1 c2 c3 (.int .i64 14) (.int .i64 q) (.int .i64 ((q : Int) + 1)) (.string ⟨#[]⟩)
  refine bodyPost_ret (v := .tuple #[.agg #[.int .i64 14, .int .i64 q, .int .i64 ((q : Int) + 1), .string ⟨#[]⟩], .nilIface]) (by simp [results, Tryz.results134, go_sem, q0, q1, q2, q3]) rfl ⟨rfl, below_set4 hB (Nat.le_refl _) _ _ _ _⟩

end Go.Proofs.YtbjfahhfcdnkaaaGreatDoor
