/- A name is a token (by its first letter). -/
import Derived.Test.YtbjfahhfcdnkaaaGreatDoorRt0
namespace Go.Proofs.YtbjfahhfcdnkaaaGreatDoor
open Go.RowKit Go.Proofs.YtbjfahhfcdnkaaaGreatDoorW.PrintWords Go.Proofs.YtbjfahhfcdnkaaaGreatDoorW.PrintMore
set_option maxHeartbeats 2000000 in
set_option maxRecDepth 100000 in
theorem tok_n102 (s : ByteArray) (p q e : Nat) (ha : Ahead s p q) (hc : cd s q = 102) (hqe : q < e) (he : e ≤ s.size) (hn : ∀ j : Nat, q < j → j < e → nameChar (cd s j)) (hend : e < s.size → nameEnd (cd s e)) : Tok s p 15 q e (s.extract q e) := by
  intro w sb b cap h
  have hlt := h.lts
  have hhd := h.head
  have hq := ha.size
  have hs := h.size
  have HP : Hid (∀ o, Calls Tryz.prog 154 #[.slice (some ⟨b, 0, none⟩) s.size cap, .int .i64 (p : Int)] (w.alloc o) fun e w' => e = .returned (.tuple #[.int .i64 (q : Int), .int .i64 (q : Int)]) ∧ (w.alloc o) = w') :=
    Lib.hid (fun o => pos_at ha (by rw [hc]; refine ⟨?_, ?_, ?_, ?_, ?_, ?_, ?_⟩ <;> decide) (h.grow ((Below.refl _ _).alloc (Nat.le_refl _) o)))
  have HR : Hid (∀ o, Calls Tryz.prog 156 #[.slice (some ⟨b, 0, none⟩) s.size cap, .int .i64 (q : Int)] (w.alloc o) fun e w' => e = .returned (.tuple #[.int .i32 102, .int .i64 1]) ∧ (w.alloc o) = w') :=
    Lib.hid (fun o => by have c := runeAt_any (h.grow ((Below.refl _ _).alloc (Nat.le_refl _) o)) q (by omega); rw [hc, wd_in (by omega)] at c; exact c)
  have HN : Hid (∀ o, Calls Tryz.prog 157 #[.pointer (some ⟨sb, 0, none⟩), .int .i64 (q : Int), .int .i64 (q : Int)] (w.alloc o) fun r w' => r = .returned (.agg #[.int .i64 15, .int .i64 q, .int .i64 e, .string (s.extract q e)]) ∧ Below (w.alloc o).heap.size (w.alloc o) w') :=
    Lib.hid (fun o => readName_any (h.grow ((Below.refl _ _).alloc (Nat.le_refl _) o)) q e hqe he hn hend)
  clear ha hc h hn hend
  go_enter Tryz.func134, Tryz.ntmps134
  go_wp2_with (first | (go_at_call 154; refine (HP.out _).mono ?_; rintro r w' ⟨rfl, rfl⟩) | (go_at_call 156; refine (HR.out _).mono ?_; rintro r w' ⟨rfl, rfl⟩) | (go_at_call 157; refine (HN.out _).mono ?_; rintro r w' ⟨rfl, hb⟩; obtain ⟨⟨c0, c1, c2, c3⟩, ⟨z0, z1, z2, z3⟩, hz, hB⟩ := kept4 hb; clear hb))
  obtain ⟨q0, q1, q2, q3⟩ := set4 c0 c1 c2 c3 (.int .i64 15) (.int .i64 q) (.int .i64 e) (.string (s.extract q e))
  refine bodyPost_ret (v := .tuple #[.agg #[.int .i64 15, .int .i64 q, .int .i64 e, .string (s.extract q e)], .nilIface]) (by simp [results, Tryz.results134, go_sem, q0, q1, q2, q3]) rfl ⟨rfl, below_set4 hB (Nat.le_refl _) _ _ _ _⟩

set_option maxHeartbeats 2000000 in
set_option maxRecDepth 100000 in
theorem tok_n103 (s : ByteArray) (p q e : Nat) (ha : Ahead s p q) (hc : cd s q = 103) (hqe : q < e) (he : e ≤ s.size) (hn : ∀ j : Nat, q < j → j < e → nameChar (cd s j)) (hend : e < s.size → nameEnd (cd s e)) : Tok s p 15 q e (s.extract q e) := by
  intro w sb b cap h
  have hlt := h.lts
  have hhd := h.head
  have hq := ha.size
  have hs := h.size
  have HP : Hid (∀ o, Calls Tryz.prog 154 #[.slice (some ⟨b, 0, none⟩) s.size cap, .int .i64 (p : Int)] (w.alloc o) fun e w' => e = .returned (.tuple #[.int .i64 (q : Int), .int .i64 (q : Int)]) ∧ (w.alloc o) = w') :=
    Lib.hid (fun o => pos_at ha (by rw [hc]; refine ⟨?_, ?_, ?_, ?_, ?_, ?_, ?_⟩ <;> decide) (h.grow ((Below.refl _ _).alloc (Nat.le_refl _) o)))
  have HR : Hid (∀ o, Calls Tryz.prog 156 #[.slice (some ⟨b, 0, none⟩) s.size cap, .int .i64 (q : Int)] (w.alloc o) fun e w' => e = .returned (.tuple #[.int .i32 103, .int .i64 1]) ∧ (w.alloc o) = w') :=
    Lib.hid (fun o => by have c := runeAt_any (h.grow ((Below.refl _ _).alloc (Nat.le_refl _) o)) q (by omega); rw [hc, wd_in (by omega)] at c; exact c)
  have HN : Hid (∀ o, Calls Tryz.prog 157 #[.pointer (some ⟨sb, 0, none⟩), .int .i64 (q : Int), .int .i64 (q : Int)] (w.alloc o) fun r w' => r = .returned (.agg #[.int .i64 15, .int .i64 q, .int .i64 e, .string (s.extract q e)]) ∧ Below (w.alloc o).heap.size (w.alloc o) w') :=
    Lib.hid (fun o => readName_any (h.grow ((Below.refl _ _).alloc (Nat.le_refl _) o)) q e hqe he hn hend)
  clear ha hc h hn hend
  go_enter Tryz.func134, Tryz.ntmps134
  go_wp2_with (first | (go_at_call 154; refine (HP.out _).mono ?_; rintro r w' ⟨rfl, rfl⟩) | (go_at_call 156; refine (HR.out _).mono ?_; rintro r w' ⟨rfl, rfl⟩) | (go_at_call 157; refine (HN.out _).mono ?_; rintro r w' ⟨rfl, hb⟩; obtain ⟨⟨c0, c1, c2, c3⟩, ⟨z0, z1, z2, z3⟩, hz, hB⟩ := kept4 hb; clear hb))
  obtain ⟨q0, q1, q2, q3⟩ := set4 c0 c1 c2 c3 (.int .i64 15) (.int .i64 q) (.int .i64 e) (.string (s.extract q e))
  refine bodyPost_ret (v := .tuple #[.agg #[.int .i64 15, .int .i64 q, .int .i64 e, .string (s.extract q e)], .nilIface]) (by simp [results, Tryz.results134, go_sem, q0, q1, q2, q3]) rfl ⟨rfl, below_set4 hB (Nat.le_refl _) _ _ _ _⟩

set_option maxHeartbeats 2000000 in
set_option maxRecDepth 100000 in
theorem tok_n104 (s : ByteArray) (p q e : Nat) (ha : Ahead s p q) (hc : cd s q = 104) (hqe : q < e) (he : e ≤ s.size) (hn : ∀ j : Nat, q < j → j < e → nameChar (cd s j)) (hend : e < s.size → nameEnd (cd s e)) : Tok s p 15 q e (s.extract q e) := by
  intro w sb b cap h
  have hlt := h.lts
  have hhd := h.head
  have hq := ha.size
  have hs := h.size
  have HP : Hid (∀ o, Calls Tryz.prog 154 #[.slice (some ⟨b, 0, none⟩) s.size cap, .int .i64 (p : Int)] (w.alloc o) fun e w' => e = .returned (.tuple #[.int .i64 (q : Int), .int .i64 (q : Int)]) ∧ (w.alloc o) = w') :=
    Lib.hid (fun o => pos_at ha (by rw [hc]; refine ⟨?_, ?_, ?_, ?_, ?_, ?_, ?_⟩ <;> decide) (h.grow ((Below.refl _ _).alloc (Nat.le_refl _) o)))
  have HR : Hid (∀ o, Calls Tryz.prog 156 #[.slice (some ⟨b, 0, none⟩) s.size cap, .int .i64 (q : Int)] (w.alloc o) fun e w' => e = .returned (.tuple #[.int .i32 104, .int .i64 1]) ∧ (w.alloc o) = w') :=
    Lib.hid (fun o => by have c := runeAt_any (h.grow ((Below.refl _ _).alloc (Nat.le_refl _) o)) q (by omega); rw [hc, wd_in (by omega)] at c; exact c)
  have HN : Hid (∀ o, Calls Tryz.prog 157 #[.pointer (some ⟨sb, 0, none⟩), .int .i64 (q : Int), .int .i64 (q : Int)] (w.alloc o) fun r w' => r = .returned (.agg #[.int .i64 15, .int .i64 q, .int .i64 e, .string (s.extract q e)]) ∧ Below (w.alloc o).heap.size (w.alloc o) w') :=
    Lib.hid (fun o => readName_any (h.grow ((Below.refl _ _).alloc (Nat.le_refl _) o)) q e hqe he hn hend)
  clear ha hc h hn hend
  go_enter Tryz.func134, Tryz.ntmps134
  go_wp2_with (first | (go_at_call 154; refine (HP.out _).mono ?_; rintro r w' ⟨rfl, rfl⟩) | (go_at_call 156; refine (HR.out _).mono ?_; rintro r w' ⟨rfl, rfl⟩) | (go_at_call 157; refine (HN.out _).mono ?_; rintro r w' ⟨rfl, hb⟩; obtain ⟨⟨c0, c1, c2, c3⟩, ⟨z0, z1, z2, z3⟩, hz, hB⟩ := kept4 hb; clear hb))
  obtain ⟨q0, q1, q2, q3⟩ := set4 c0 c1 c2 c3 (.int .i64 15) (.int .i64 q) (.int .i64 e) (.string (s.extract q e))
  refine bodyPost_ret (v := .tuple #[.agg #[.int .i64 15, .int .i64 q, .int .i64 e, .string (s.extract q e)], .nilIface]) (by simp [results, Tryz.results134, go_sem, q0, q1, q2, q3]) rfl ⟨rfl, below_set4 hB (Nat.le_refl _) _ _ _ _⟩

set_option maxHeartbeats 2000000 in
set_option maxRecDepth 100000 in
theorem tok_n105 (s : ByteArray) (p q e : Nat) (ha : Ahead s p q) (hc : cd s q = 105) (hqe : q < e) (he : e ≤ s.size) (hn : ∀ j : Nat, q < j → j < e → nameChar (cd s j)) (hend : e < s.size → nameEnd (cd s e)) : Tok s p 15 q e (s.extract q e) := by
  intro w sb b cap h
  have hlt := h.lts
  have hhd := h.head
  have hq := ha.size
  have hs := h.size
  have HP : Hid (∀ o, Calls Tryz.prog 154 #[.slice (some ⟨b, 0, none⟩) s.size cap, .int .i64 (p : Int)] (w.alloc o) fun e w' => e = .returned (.tuple #[.int .i64 (q : Int), .int .i64 (q : Int)]) ∧ (w.alloc o) = w') :=
    Lib.hid (fun o => pos_at ha (by rw [hc]; refine ⟨?_, ?_, ?_, ?_, ?_, ?_, ?_⟩ <;> decide) (h.grow ((Below.refl _ _).alloc (Nat.le_refl _) o)))
  have HR : Hid (∀ o, Calls Tryz.prog 156 #[.slice (some ⟨b, 0, none⟩) s.size cap, .int .i64 (q : Int)] (w.alloc o) fun e w' => e = .returned (.tuple #[.int .i32 105, .int .i64 1]) ∧ (w.alloc o) = w') :=
    Lib.hid (fun o => by have c := runeAt_any (h.grow ((Below.refl _ _).alloc (Nat.le_refl _) o)) q (by omega); rw [hc, wd_in (by omega)] at c; exact c)
  have HN : Hid (∀ o, Calls Tryz.prog 157 #[.pointer (some ⟨sb, 0, none⟩), .int .i64 (q : Int), .int .i64 (q : Int)] (w.alloc o) fun r w' => r = .returned (.agg #[.int .i64 15, .int .i64 q, .int .i64 e, .string (s.extract q e)]) ∧ Below (w.alloc o).heap.size (w.alloc o) w') :=
    Lib.hid (fun o => readName_any (h.grow ((Below.refl _ _).alloc (Nat.le_refl _) o)) q e hqe he hn hend)
  clear ha hc h hn hend
  go_enter Tryz.func134, Tryz.ntmps134
  go_wp2_with (first | (go_at_call 154; refine (HP.out _).mono ?_; rintro r w' ⟨rfl, rfl⟩) | (go_at_call 156; refine (HR.out _).mono ?_; rintro r w' ⟨rfl, rfl⟩) | (go_at_call 157; refine (HN.out _).mono ?_; rintro r w' ⟨rfl, hb⟩; obtain ⟨⟨c0, c1, c2, c3⟩, ⟨z0, z1, z2, z3⟩, hz, hB⟩ := kept4 hb; clear hb))
  obtain ⟨q0, q1, q2, q3⟩ := set4 c0 c1 c2 c3 (.int .i64 15) (.int .i64 q) (.int .i64 e) (.string (s.extract q e))
  refine bodyPost_ret (v := .tuple #[.agg #[.int .i64 15, .int .i64 q, .int .i64 e, .string (s.extract q e)], .nilIface]) (by simp [results, Tryz.results134, go_sem, q0, q1, q2, q3]) rfl ⟨rfl, below_set4 hB (Nat.le_refl _) _ _ _ _⟩

set_option maxHeartbeats 2000000 in
set_option maxRecDepth 100000 in
theorem tok_n106 (s : ByteArray) (p q e : Nat) (ha : Ahead s p q) (hc : cd s q = 106) (hqe : q < e) (he : e ≤ s.size) (hn : ∀ j : Nat, q < j → j < e → nameChar (cd s j)) (hend : e < s.size → nameEnd (cd s e)) : Tok s p 15 q e (s.extract q e) := by
  intro w sb b cap h
  have hlt := h.lts
  have hhd := h.head
  have hq := ha.size
  have hs := h.size
  have HP : Hid (∀ o, Calls Tryz.prog 154 #[.slice (some ⟨b, 0, none⟩) s.size cap, .int .i64 (p : Int)] (w.alloc o) fun e w' => e = .returned (.tuple #[.int .i64 (q : Int), .int .i64 (q : Int)]) ∧ (w.alloc o) = w') :=
    Lib.hid (fun o => pos_at ha (by rw [hc]; refine ⟨?_, ?_, ?_, ?_, ?_, ?_, ?_⟩ <;> decide) (h.grow ((Below.refl _ _).alloc (Nat.le_refl _) o)))
  have HR : Hid (∀ o, Calls Tryz.prog 156 #[.slice (some ⟨b, 0, none⟩) s.size cap, .int .i64 (q : Int)] (w.alloc o) fun e w' => e = .returned (.tuple #[.int .i32 106, .int .i64 1]) ∧ (w.alloc o) = w') :=
    Lib.hid (fun o => by have c := runeAt_any (h.grow ((Below.refl _ _).alloc (Nat.le_refl _) o)) q (by omega); rw [hc, wd_in (by omega)] at c; exact c)
  have HN : Hid (∀ o, Calls Tryz.prog 157 #[.pointer (some ⟨sb, 0, none⟩), .int .i64 (q : Int), .int .i64 (q : Int)] (w.alloc o) fun r w' => r = .returned (.agg #[.int .i64 15, .int .i64 q, .int .i64 e, .string (s.extract q e)]) ∧ Below (w.alloc o).heap.size (w.alloc o) w') :=
    Lib.hid (fun o => readName_any (h.grow ((Below.refl _ _).alloc (Nat.le_refl _) o)) q e hqe he hn hend)
  clear ha hc h hn hend
  go_enter Tryz.func134, Tryz.ntmps134
  go_wp2_with (first | (go_at_call 154; refine (HP.out _).mono ?_; rintro r w' ⟨rfl, rfl⟩) | (go_at_call 156; refine (HR.out _).mono ?_; rintro r w' ⟨rfl, rfl⟩) | (go_at_call 157; refine (HN.out _).mono ?_; rintro r w' ⟨rfl, hb⟩; obtain ⟨⟨c0, c1, c2, c3⟩, ⟨z0, z1, z2, z3⟩, hz, hB⟩ := kept4 hb; clear hb))
  obtain ⟨q0, q1, q2, q3⟩ := set4 c0 c1 c2 c3 (.int .i64 15) (.int .i64 q) (.int .i64 e) (.string (s.extract q e))
  refine bodyPost_ret (v := .tuple #[.agg #[.int .i64 15, .int .i64 q, .int .i64 e, .string (s.extract q e)], .nilIface]) (by simp [results, Tryz.results134, go_sem, q0, q1, q2, q3]) rfl ⟨rfl, below_set4 hB (Nat.le_refl _) _ _ _ _⟩

set_option maxHeartbeats 2000000 in
set_option maxRecDepth 100000 in
theorem tok_n107 (s : ByteArray) (p q e : Nat) (ha : Ahead s p q) (hc : cd s q = 107) (hqe : q < e) (he : e ≤ s.size) (hn : ∀ j : Nat, q < j → j < e → nameChar (cd s j)) (hend : e < s.size → nameEnd (cd s e)) : Tok s p 15 q e (s.extract q e) := by
  intro w sb b cap h
  have hlt := h.lts
  have hhd := h.head
  have hq := ha.size
  have hs := h.size
  have HP : Hid (∀ o, Calls Tryz.prog 154 #[.slice (some ⟨b, 0, none⟩) s.size cap, .int .i64 (p : Int)] (w.alloc o) fun e w' => e = .returned (.tuple #[.int .i64 (q : Int), .int .i64 (q : Int)]) ∧ (w.alloc o) = w') :=
    Lib.hid (fun o => pos_at ha (by rw [hc]; refine ⟨?_, ?_, ?_, ?_, ?_, ?_, ?_⟩ <;> decide) (h.grow ((Below.refl _ _).alloc (Nat.le_refl _) o)))
  have HR : Hid (∀ o, Calls Tryz.prog 156 #[.slice (some ⟨b, 0, none⟩) s.size cap, .int .i64 (q : Int)] (w.alloc o) fun e w' => e = .returned (.tuple #[.int .i32 107, .int .i64 1]) ∧ (w.alloc o) = w') :=
    Lib.hid (fun o => by have c := runeAt_any (h.grow ((Below.refl _ _).alloc (Nat.le_refl _) o)) q (by omega); rw [hc, wd_in (by omega)] at c; exact c)
  have HN : Hid (∀ o, Calls Tryz.prog 157 #[.pointer (some ⟨sb, 0, none⟩), .int .i64 (q : Int), .int .i64 (q : Int)] (w.alloc o) fun r w' => r = .returned (.agg #[.int .i64 15, .int .i64 q, .int .i64 e, .string (s.extract q e)]) ∧ Below (w.alloc o).heap.size (w.alloc o) w') :=
    Lib.hid (fun o => readName_any (h.grow ((Below.refl _ _).alloc (Nat.le_refl _) o)) q e hqe he hn hend)
  clear ha hc h hn hend
  go_enter Tryz.func134, Tryz.ntmps134
  go_wp2_with (first | (go_at_call 154; refine (HP.out _).mono ?_; rintro r w' ⟨rfl, rfl⟩) | (go_at_call 156; refine (HR.out _).mono ?_; rintro r w' ⟨rfl, rfl⟩) | (go_at_call 157; refine (HN.out _).mono ?_; rintro r w' ⟨rfl, hb⟩; obtain ⟨⟨c0, c1, c2, c3⟩, ⟨z0, z1, z2, z3⟩, hz, hB⟩ := kept4 hb; clear hb))
  obtain ⟨q0, q1, q2, q3⟩ := set4 c0 c1 c2 c3 (.int .i64 15) (.int .i64 q) (.int .i64 e) (.string (s.extract q e))
  refine bodyPost_ret (v := .tuple #[.agg #[.int .i64 15, .int .i64 q, .int .i64 e, .string (s.extract q e)], .nilIface]) (by simp [results, Tryz.results134, go_sem, q0, q1, q2, q3]) rfl ⟨rfl, below_set4 hB (Nat.le_refl _) _ _ _ _⟩

set_option maxHeartbeats 2000000 in
set_option maxRecDepth 100000 in
theorem tok_n108 (s : ByteArray) (p q e : Nat) (ha : Ahead s p q) (hc : cd s q = 108) (hqe : q < e) (he : e ≤ s.size) (hn : ∀ j : Nat, q < j → j < e → nameChar (cd s j)) (hend : e < s.size → nameEnd (cd s e)) : Tok s p 15 q e (s.extract q e) := by
  intro w sb b cap h
  have hlt := h.lts
  have hhd := h.head
  have hq := ha.size
  have hs := h.size
  have HP : Hid (∀ o, Calls Tryz.prog 154 #[.slice (some ⟨b, 0, none⟩) s.size cap, .int .i64 (p : Int)] (w.alloc o) fun e w' => e = .returned (.tuple #[.int .i64 (q : Int), .int .i64 (q : Int)]) ∧ (w.alloc o) = w') :=
    Lib.hid (fun o => pos_at ha (by rw [hc]; refine ⟨?_, ?_, ?_, ?_, ?_, ?_, ?_⟩ <;> decide) (h.grow ((Below.refl _ _).alloc (Nat.le_refl _) o)))
  have HR : Hid (∀ o, Calls Tryz.prog 156 #[.slice (some ⟨b, 0, none⟩) s.size cap, .int .i64 (q : Int)] (w.alloc o) fun e w' => e = .returned (.tuple #[.int .i32 108, .int .i64 1]) ∧ (w.alloc o) = w') :=
    Lib.hid (fun o => by have c := runeAt_any (h.grow ((Below.refl _ _).alloc (Nat.le_refl _) o)) q (by omega); rw [hc, wd_in (by omega)] at c; exact c)
  have HN : Hid (∀ o, Calls Tryz.prog 157 #[.pointer (some ⟨sb, 0, none⟩), .int .i64 (q : Int), .int .i64 (q : Int)] (w.alloc o) fun r w' => r = .returned (.agg #[.int .i64 15, .int .i64 q, .int .i64 e, .string (s.extract q e)]) ∧ Below (w.alloc o).heap.size (w.alloc o) w') :=
    Lib.hid (fun o => readName_any (h.grow ((Below.refl _ _).alloc (Nat.le_refl _) o)) q e hqe he hn hend)
  clear ha hc h hn hend
  go_enter Tryz.func134, Tryz.ntmps134
  go_wp2_with (first | (go_at_call 154; refine (HP.out _).mono ?_; rintro r w' ⟨rfl, rfl⟩) | (go_at_call 156; refine (HR.out _).mono ?_; rintro r w' ⟨rfl, rfl⟩) | (go_at_call 157; refine (HN.out _).mono ?_; rintro r w' ⟨rfl, hb⟩; obtain ⟨⟨c0, c1, c2, c3⟩, ⟨z0, z1, z2, z3⟩, hz, hB⟩ := kept4 hb; clear hb))
  obtain ⟨q0, q1, q2, q3⟩ := set4 c0 c1 c2 c3 (.int .i64 15) (.int .i64 q) (.int .i64 e) (.string (s.extract q e))
  refine bodyPost_ret (v := .tuple #[.agg #[.int .i64 15, .int .i64 q, .int .i64 e, .string (s.extract q e)], .nilIface]) (by simp [results, Tryz.results134, go_sem, q0, q1, q2, q3]) rfl ⟨rfl, below_set4 hB (Nat.le_refl _) _ _ _ _⟩

set_option maxHeartbeats 2000000 in
set_option maxRecDepth 100000 in
theorem tok_n109 (s : ByteArray) (p q e : Nat) (ha : Ahead s p q) (hc : cd s q = 109) (hqe : q < e) (he : e ≤ s.size) (hn : ∀ j : Nat, q < j → j < e → nameChar (cd s j)) (hend : e < s.size → nameEnd (cd s e)) : Tok s p 15 q e (s.extract q e) := by
  intro w sb b cap h
  have hlt := h.lts
  have hhd := h.head
  have hq := ha.size
  have hs := h.size
  have HP : Hid (∀ o, Calls Tryz.prog 154 #[.slice (some ⟨b, 0, none⟩) s.size cap, .int .i64 (p : Int)] (w.alloc o) fun e w' => e = .returned (.tuple #[.int .i64 (q : Int), .int .i64 (q : Int)]) ∧ (w.alloc o) = w') :=
    Lib.hid (fun o => pos_at ha (by rw [hc]; refine ⟨?_, ?_, ?_, ?_, ?_, ?_, ?_⟩ <;> decide) (h.grow ((Below.refl _ _).alloc (Nat.le_refl _) o)))
  have HR : Hid (∀ o, Calls Tryz.prog 156 #[.slice (some ⟨b, 0, none⟩) s.size cap, .int .i64 (q : Int)] (w.alloc o) fun e w' => e = .returned (.tuple #[.int .i32 109, .int .i64 1]) ∧ (w.alloc o) = w') :=
    Lib.hid (fun o => by have c := runeAt_any (h.grow ((Below.refl _ _).alloc (Nat.le_refl _) o)) q (by omega); rw [hc, wd_in (by omega)] at c; exact c)
  have HN : Hid (∀ o, Calls Tryz.prog 157 #[.pointer (some ⟨sb, 0, none⟩), .int .i64 (q : Int), .int .i64 (q : Int)] (w.alloc o) fun r w' => r = .returned (.agg #[.int .i64 15, .int .i64 q, .int .i64 e, .string (s.extract q e)]) ∧ Below (w.alloc o).heap.size (w.alloc o) w') :=
    Lib.hid (fun o => readName_any (h.grow ((Below.refl _ _).alloc (Nat.le_refl _) o)) q e hqe he hn hend)
  clear ha hc h hn hend
  go_enter Tryz.func134, Tryz.ntmps134
  go_wp2_with (first | (go_at_call 154; refine (HP.out _).mono ?_; rintro r w' ⟨rfl, rfl⟩) | (go_at_call 156; refine (HR.out _).mono ?_; rintro r w' ⟨rfl, rfl⟩) | (go_at_call 157; refine (HN.out _).mono ?_; rintro r w' ⟨rfl, hb⟩; obtain ⟨⟨c0, c1, c2, c3⟩, ⟨z0, z1, z2, z3⟩, hz, hB⟩ := kept4 hb; clear hb))
  obtain ⟨q0, q1, q2, q3⟩ := set4 c0 c1 c2 c3 (.int .i64 15) (.int .i64 q) (.int .i64 e) (.string (s.extract q e))
  refine bodyPost_ret (v := .tuple #[.agg #[.int .i64 15, .int .i64 q, .int .i64 e, .string (s.extract q e)], .nilIface]) (by simp [results, Tryz.results134, go_sem, q0, q1, q2, q3]) rfl ⟨rfl, below_set4 hB (Nat.le_refl _) _ _ _ _⟩

set_option maxHeartbeats 2000000 in
set_option maxRecDepth 100000 in
theorem tok_n110 (s : ByteArray) (p q e : Nat) (ha : Ahead s p q) (hc : cd s q = 110) (hqe : q < e) (he : e ≤ s.size) (hn : ∀ j : Nat, q < j → j < e → nameChar (cd s j)) (hend : e < s.size → nameEnd (cd s e)) : Tok s p 15 q e (s.extract q e) := by
  intro w sb b cap h
  have hlt := h.lts
  have hhd := h.head
  have hq := ha.size
  have hs := h.size
  have HP : Hid (∀ o, Calls Tryz.prog 154 #[.slice (some ⟨b, 0, none⟩) s.size cap, .int .i64 (p : Int)] (w.alloc o) fun e w' => e = .returned (.tuple #[.int .i64 (q : Int), .int .i64 (q : Int)]) ∧ (w.alloc o) = w') :=
    Lib.hid (fun o => pos_at ha (by rw [hc]; refine ⟨?_, ?_, ?_, ?_, ?_, ?_, ?_⟩ <;> decide) (h.grow ((Below.refl _ _).alloc (Nat.le_refl _) o)))
  have HR : Hid (∀ o, Calls Tryz.prog 156 #[.slice (some ⟨b, 0, none⟩) s.size cap, .int .i64 (q : Int)] (w.alloc o) fun e w' => e = .returned (.tuple #[.int .i32 110, .int .i64 1]) ∧ (w.alloc o) = w') :=
    Lib.hid (fun o => by have c := runeAt_any (h.grow ((Below.refl _ _).alloc (Nat.le_refl _) o)) q (by omega); rw [hc, wd_in (by omega)] at c; exact c)
  have HN : Hid (∀ o, Calls Tryz.prog 157 #[.pointer (some ⟨sb, 0, none⟩), .int .i64 (q : Int), .int .i64 (q : Int)] (w.alloc o) fun r w' => r = .returned (.agg #[.int .i64 15, .int .i64 q, .int .i64 e, .string (s.extract q e)]) ∧ Below (w.alloc o).heap.size (w.alloc o) w') :=
    Lib.hid (fun o => readName_any (h.grow ((Below.refl _ _).alloc (Nat.le_refl _) o)) q e hqe he hn hend)
  clear ha hc h hn hend
  go_enter Tryz.func134, Tryz.ntmps134
  go_wp2_with (first | (go_at_call 154; refine (HP.out _).mono ?_; rintro r w' ⟨rfl, rfl⟩) | (go_at_call 156; refine (HR.out _).mono ?_; rintro r w' ⟨rfl, rfl⟩) | (go_at_call 157; refine (HN.out _).mono ?_; rintro r w' ⟨rfl, hb⟩; obtain ⟨⟨c0, c1, c2, c3⟩, ⟨z0, z1, z2, z3⟩, hz, hB⟩ := kept4 hb; clear hb))
  obtain ⟨q0, q1, q2, q3⟩ := set4 c0 c1 c2 c3 (.int .i64 15) (.int .i64 q) (.int .i64 e) (.string (s.extract q e))
  refine bodyPost_ret (v := .tuple #[.agg #[.int .i64 15, .int .i64 q, .int .i64 e, .string (s.extract q e)], .nilIface]) (by simp [results, Tryz.results134, go_sem, q0, q1, q2, q3]) rfl ⟨rfl, below_set4 hB (Nat.le_refl _) _ _ _ _⟩

set_option maxHeartbeats 2000000 in
set_option maxRecDepth 100000 in
theorem tok_n111 (s : ByteArray) (p q e : Nat) (ha : Ahead s p q) (hc : cd s q = 111) (hqe : q < e) (he : e ≤ s.size) (hn : ∀ j : Nat, q < j → j < e → nameChar (cd s j)) (hend : e < s.size → nameEnd (cd s e)) : Tok s p 15 q e (s.extract q e) := by
  intro w sb b cap h
  have hlt := h.lts
  have hhd := h.head
  have hq := ha.size
  have hs := h.size
  have HP : Hid (∀ o, Calls Tryz.prog 154 #[.slice (some ⟨b, 0, none⟩) s.size cap, .int .i64 (p : Int)] (w.alloc o) fun e w' => e = .returned (.tuple #[.int .i64 (q : Int), .int .i64 (q : Int)]) ∧ (w.alloc o) = w') :=
    Lib.hid (fun o => pos_at ha (by rw [hc]; refine ⟨?_, ?_, ?_, ?_, ?_, ?_, ?_⟩ <;> decide) (h.grow ((Below.refl _ _).alloc (Nat.le_refl _) o)))
  have HR : Hid (∀ o, Calls Tryz.prog 156 #[.slice (some ⟨b, 0, none⟩) s.size cap, .int .i64 (q : Int)] (w.alloc o) fun e w' => e = .returned (.tuple #[.int .i32 111, .int .i64 1]) ∧ (w.alloc o) = w') :=
    Lib.hid (fun o => by have c := runeAt_any (h.grow ((Below.refl _ _).alloc (Nat.le_refl _) o)) q (by omega); rw [hc, wd_in (by omega)] at c; exact c)
  have HN : Hid (∀ o, Calls Tryz.prog 157 #[.pointer (some ⟨sb, 0, none⟩), .int .i64 (q : Int), .int .i64 (q : Int)] (w.alloc o) fun r w' => r = .returned (.agg #[.int .i64 15, .int .i64 q, .int .i64 e, .string (s.extract q e)]) ∧ Below (w.alloc o).heap.size (w.alloc o) w') :=
    Lib.hid (fun o => readName_any (h.grow ((Below.refl _ _).alloc (Nat.le_refl _) o)) q e hqe he hn hend)
  clear ha hc h hn hend
  go_enter Tryz.func134, Tryz.ntmps134
  go_wp2_with (first | (go_at_call 154; refine (HP.out _).mono ?_; rintro r w' ⟨rfl, rfl⟩) | (go_at_call 156; refine (HR.out _).mono ?_; rintro r w' ⟨rfl, rfl⟩) | (go_at_call 157; refine (HN.out _).mono ?_; rintro r w' ⟨rfl, hb⟩; obtain ⟨⟨c0, c1, c2, c3⟩, ⟨z0, z1, z2, z3⟩, hz, hB⟩ := kept4 hb; clear hb))
  obtain ⟨q0, q1, q2, q3⟩ := set4 c0 c1 c2 c3 (.int .i64 15) (.int .i64 q) (.int .i64 e) (.string (s.extract q e))
  refine bodyPost_ret (v := .tuple #[.agg #[.int .i64 15, .int .i64 q, .int .i64 e, .string (s.extract q e)], .nilIface]) (by simp [results, Tryz.results134, go_sem, q0, q1, q2, q3]) rfl ⟨rfl, below_set4 hB (Nat.le_refl _) _ _ _ _⟩

set_option maxHeartbeats 2000000 in
set_option maxRecDepth 100000 in
theorem tok_n112 (s : ByteArray) (p q e : Nat) (ha : Ahead s p q) (hc : cd s q = 112) (hqe : q < e) (he : e ≤ s.size) (hn : ∀ j : Nat, q < j → j < e → nameChar (cd s j)) (hend : e < s.size → nameEnd (cd s e)) : Tok s p 15 q e (s.extract q e) := by
  intro w sb b cap h
  have hlt := h.lts
  have hhd := h.head
  have hq := ha.size
  have hs := h.size
  have HP : Hid (∀ o, Calls Tryz.prog 154 #[.slice (some ⟨b, 0, none⟩) s.size cap, .int .i64 (p : Int)] (w.alloc o) fun e w' => e = .returned (.tuple #[.int .i64 (q : Int), .int .i64 (q : Int)]) ∧ (w.alloc o) = w') :=
    Lib.hid (fun o => pos_at ha (by rw [hc]; refine ⟨?_, ?_, ?_, ?_, ?_, ?_, ?_⟩ <;> decide) (h.grow ((Below.refl _ _).alloc (Nat.le_refl _) o)))
  have HR : Hid (∀ o, Calls Tryz.prog 156 #[.slice (some ⟨b, 0, none⟩) s.size cap, .int .i64 (q : Int)] (w.alloc o) fun e w' => e = .returned (.tuple #[.int .i32 112, .int .i64 1]) ∧ (w.alloc o) = w') :=
    Lib.hid (fun o => by have c := runeAt_any (h.grow ((Below.refl _ _).alloc (Nat.le_refl _) o)) q (by omega); rw [hc, wd_in (by omega)] at c; exact c)
  have HN : Hid (∀ o, Calls Tryz.prog 157 #[.pointer (some ⟨sb, 0, none⟩), .int .i64 (q : Int), .int .i64 (q : Int)] (w.alloc o) fun r w' => r = .returned (.agg #[.int .i64 15, .int .i64 q, .int .i64 e, .string (s.extract q e)]) ∧ Below (w.alloc o).heap.size (w.alloc o) w') :=
    Lib.hid (fun o => readName_any (h.grow ((Below.refl _ _).alloc (Nat.le_refl _) o)) q e hqe he hn hend)
  clear ha hc h hn hend
  go_enter Tryz.func134, Tryz.ntmps134
  go_wp2_with (first | (go_at_call 154; refine (HP.out _).mono ?_; rintro r w' ⟨rfl, rfl⟩) | (go_at_call 156; refine (HR.out _).mono ?_; rintro r w' ⟨rfl, rfl⟩) | (go_at_call 157; refine (HN.out _).mono ?_; rintro r w' ⟨rfl, hb⟩; obtain ⟨⟨c0, c1, c2, c3⟩, ⟨z0, z1, z2, z3⟩, hz, hB⟩ := kept4 hb; clear hb))
  obtain ⟨q0, q1, q2, q3⟩ := set4 c0 c1 c2 c3 (.int .i64 15) (.int .i64 q) (.int .i64 e) (.string (s.extract q e))
  refine bodyPost_ret (v := .tuple #[.agg #[.int .i64 15, .int .i64 q, .int .i64 e, .string (s.extract q e)], .nilIface]) (by simp [results, Tryz.results134, go_sem, q0, q1, q2, q3]) rfl ⟨rfl, below_set4 hB (Nat.le_refl _) _ _ _ _⟩

end Go.Proofs.YtbjfahhfcdnkaaaGreatDoor

/-! A name is a token (by its first letter). -/
namespace Go.Proofs.YtbjfahhfcdnkaaaGreatDoor
open Go.RowKit Go.Proofs.YtbjfahhfcdnkaaaGreatDoorW.PrintWords Go.Proofs.YtbjfahhfcdnkaaaGreatDoorW.PrintMore
set_option maxHeartbeats 2000000 in
set_option maxRecDepth 100000 in
theorem tok_n113 (s : ByteArray) (p q e : Nat) (ha : Ahead s p q) (hc : cd s q = 113) (hqe : q < e) (he : e ≤ s.size) (hn : ∀ j : Nat, q < j → j < e → nameChar (cd s j)) (hend : e < s.size → nameEnd (cd s e)) : Tok s p 15 q e (s.extract q e) := by
  intro w sb b cap h
  have hlt := h.lts
  have hhd := h.head
  have hq := ha.size
  have hs := h.size
  have HP : Hid (∀ o, Calls Tryz.prog 154 #[.slice (some ⟨b, 0, none⟩) s.size cap, .int .i64 (p : Int)] (w.alloc o) fun e w' => e = .returned (.tuple #[.int .i64 (q : Int), .int .i64 (q : Int)]) ∧ (w.alloc o) = w') :=
    Lib.hid (fun o => pos_at ha (by rw [hc]; refine ⟨?_, ?_, ?_, ?_, ?_, ?_, ?_⟩ <;> decide) (h.grow ((Below.refl _ _).alloc (Nat.le_refl _) o)))
  have HR : Hid (∀ o, Calls Tryz.prog 156 #[.slice (some ⟨b, 0, none⟩) s.size cap, .int .i64 (q : Int)] (w.alloc o) fun e w' => e = .returned (.tuple #[.int .i32 113, .int .i64 1]) ∧ (w.alloc o) = w') :=
    Lib.hid (fun o => by have c := runeAt_any (h.grow ((Below.refl _ _).alloc (Nat.le_refl _) o)) q (by omega); rw [hc, wd_in (by omega)] at c; exact c)
  have HN : Hid (∀ o, Calls Tryz.prog 157 #[.pointer (some ⟨sb, 0, none⟩), .int .i64 (q : Int), .int .i64 (q : Int)] (w.alloc o) fun r w' => r = .returned (.agg #[.int .i64 15, .int .i64 q, .int .i64 e, .string (s.extract q e)]) ∧ Below (w.alloc o).heap.size (w.alloc o) w') :=
    Lib.hid (fun o => readName_any (h.grow ((Below.refl _ _).alloc (Nat.le_refl _) o)) q e hqe he hn hend)
  clear ha hc h hn hend
  go_enter Tryz.func134, Tryz.ntmps134
  go_wp2_with (first | (go_at_call 154; refine (HP.out _).mono ?_; rintro r w' ⟨rfl, rfl⟩) | (go_at_call 156; refine (HR.out _).mono ?_; rintro r w' ⟨rfl, rfl⟩) | (go_at_call 157; refine (HN.out _).mono ?_; rintro r w' ⟨rfl, hb⟩; obtain ⟨⟨c0, c1, c2, c3⟩, ⟨z0, z1, z2, z3⟩, hz, hB⟩ := kept4 hb; clear hb))
  obtain ⟨q0, q1, q2, q3⟩ := set4 c0 c1 c2 c3 (.int .i64 15) (.int .i64 q) (.int .i64 e) (.string (s.extract q e))
  refine bodyPost_ret (v := .tuple #[.agg #[.int .i64 15, .int .i64 q, .int .i64 e, .string (s.extract q e)], .nilIface]) (by simp [results, Tryz.results134, go_sem, q0, q1, q2, q3]) rfl ⟨rfl, below_set4 hB (Nat.le_refl _) _ _ _ _⟩

set_option maxHeartbeats 2000000 in
set_option maxRecDepth 100000 in
theorem tok_n114 (s : ByteArray) (p q e : Nat) (ha : Ahead s p q) (hc : cd s q = 114) (hqe : q < e) (he : e ≤ s.size) (hn : ∀ j : Nat, q < j → j < e → nameChar (cd s j)) (hend : e < s.size → nameEnd (cd s e)) : Tok s p 15 q e (s.extract q e) := by
  intro w sb b cap h
  have hlt := h.lts
  have hhd := h.head
  have hq := ha.size
  have hs := h.size
  have HP : Hid (∀ o, Calls Tryz.prog 154 #[.slice (some ⟨b, 0, none⟩) s.size cap, .int .i64 (p : Int)] (w.alloc o) fun e w' => e = .returned (.tuple #[.int .i64 (q : Int), .int .i64 (q : Int)]) ∧ (w.alloc o) = w') :=
    Lib.hid (fun o => pos_at ha (by rw [hc]; refine ⟨?_, ?_, ?_, ?_, ?_, ?_, ?_⟩ <;> decide) (h.grow ((Below.refl _ _).alloc (Nat.le_refl _) o)))
  have HR : Hid (∀ o, Calls Tryz.prog 156 #[.slice (some ⟨b, 0, none⟩) s.size cap, .int .i64 (q : Int)] (w.alloc o) fun e w' => e = .returned (.tuple #[.int .i32 114, .int .i64 1]) ∧ (w.alloc o) = w') :=
    Lib.hid (fun o => by have c := runeAt_any (h.grow ((Below.refl _ _).alloc (Nat.le_refl _) o)) q (by omega); rw [hc, wd_in (by omega)] at c; exact c)
  have HN : Hid (∀ o, Calls Tryz.prog 157 #[.pointer (some ⟨sb, 0, none⟩), .int .i64 (q : Int), .int .i64 (q : Int)] (w.alloc o) fun r w' => r = .returned (.agg #[.int .i64 15, .int .i64 q, .int .i64 e, .string (s.extract q e)]) ∧ Below (w.alloc o).heap.size (w.alloc o) w') :=
    Lib.hid (fun o => readName_any (h.grow ((Below.refl _ _).alloc (Nat.le_refl _) o)) q e hqe he hn hend)
  clear ha hc h hn hend
  go_enter Tryz.func134, Tryz.ntmps134
  go_wp2_with (first | (go_at_call 154; refine (HP.out _).mono ?_; rintro r w' ⟨rfl, rfl⟩) | (go_at_call 156; refine (HR.out _).mono ?_; rintro r w' ⟨rfl, rfl⟩) | (go_at_call 157; refine (HN.out _).mono ?_; rintro r w' ⟨rfl, hb⟩; obtain ⟨⟨c0, c1, c2, c3⟩, ⟨z0, z1, z2, z3⟩, hz, hB⟩ := kept4 hb; clear hb))
  obtain ⟨q0, q1, q2, q3⟩ := set4 c0 c1 c2 c3 (.int .i64 15) (.int .i64 q) (.int .i64 e) (.string (s.extract q e))
  refine bodyPost_ret (v := .tuple #[.agg #[.int .i64 15, .int .i64 q, .int .i64 e, .string (s.extract q e)], .nilIface]) (by simp [results, Tryz.results134, go_sem, q0, q1, q2, q3]) rfl ⟨rfl, below_set4 hB (Nat.le_refl _) _ _ _ _⟩

set_option maxHeartbeats 2000000 in
set_option maxRecDepth 100000 in
theorem tok_n115 (s : ByteArray) (p q e : Nat) (ha : Ahead s p q) (hc : cd s q = 115) (hqe : q < e) (he : e ≤ s.size) (hn : ∀ j : Nat, q < j → j < e → nameChar (cd s j)) (hend : e < s.size → nameEnd (cd s e)) : Tok s p 15 q e (s.extract q e) := by
  intro w sb b cap h
  have hlt := h.lts
  have hhd := h.head
  have hq := ha.size
  have hs := h.size
  have HP : Hid (∀ o, Calls Tryz.prog 154 #[.slice (some ⟨b, 0, none⟩) s.size cap, .int .i64 (p : Int)] (w.alloc o) fun e w' => e = .returned (.tuple #[.int .i64 (q : Int), .int .i64 (q : Int)]) ∧ (w.alloc o) = w') :=
    Lib.hid (fun o => pos_at ha (by rw [hc]; refine ⟨?_, ?_, ?_, ?_, ?_, ?_, ?_⟩ <;> decide) (h.grow ((Below.refl _ _).alloc (Nat.le_refl _) o)))
  have HR : Hid (∀ o, Calls Tryz.prog 156 #[.slice (some ⟨b, 0, none⟩) s.size cap, .int .i64 (q : Int)] (w.alloc o) fun e w' => e = .returned (.tuple #[.int .i32 115, .int .i64 1]) ∧ (w.alloc o) = w') :=
    Lib.hid (fun o => by have c := runeAt_any (h.grow ((Below.refl _ _).alloc (Nat.le_refl _) o)) q (by omega); rw [hc, wd_in (by omega)] at c; exact c)
  have HN : Hid (∀ o, Calls Tryz.prog 157 #[.pointer (some ⟨sb, 0, none⟩), .int .i64 (q : Int), .int .i64 (q : Int)] (w.alloc o) fun r w' => r = .returned (.agg #[.int .i64 15, .int .i64 q, .int .i64 e, .string (s.extract q e)]) ∧ Below (w.alloc o).heap.size (w.alloc o) w') :=
    Lib.hid (fun o => readName_any (h.grow ((Below.refl _ _).alloc (Nat.le_refl _) o)) q e hqe he hn hend)
  clear ha hc h hn hend
  go_enter Tryz.func134, Tryz.ntmps134
  go_wp2_with (first | (go_at_call 154; refine (HP.out _).mono ?_; rintro r w' ⟨rfl, rfl⟩) | (go_at_call 156; refine (HR.out _).mono ?_; rintro r w' ⟨rfl, rfl⟩) | (go_at_call 157; refine (HN.out _).mono ?_; rintro r w' ⟨rfl, hb⟩; obtain ⟨⟨c0, c1, c2, c3⟩, ⟨z0, z1, z2, z3⟩, hz, hB⟩ := kept4 hb; clear hb))
  obtain ⟨q0, q1, q2, q3⟩ := set4 c0 c1 c2 c3 (.int .i64 15) (.int .i64 q) (.int .i64 e) (.string (s.extract q e))
  refine bodyPost_ret (v := .tuple #[.agg #[.int .i64 15, .int .i64 q, .int .i64 e, .string (s.extract q e)], .nilIface]) (by simp [results, Tryz.results134, go_sem, q0, q1, q2, q3]) rfl ⟨rfl, below_set4 hB (Nat.le_refl _) _ _ _ _⟩

set_option maxHeartbeats 2000000 in
set_option maxRecDepth 100000 in
theorem tok_n116 (s : ByteArray) (p q e : Nat) (ha : Ahead s p q) (hc : cd s q = 116) (hqe : q < e) (he : e ≤ s.size) (hn : ∀ j : Nat, q < j → j < e → nameChar (cd s j)) (hend : e < s.size → nameEnd (cd s e)) : Tok s p 15 q e (s.extract q e) := by
  intro w sb b cap h
  have hlt := h.lts
  have hhd := h.head
  have hq := ha.size
  have hs := h.size
  have HP : Hid (∀ o, Calls Tryz.prog 154 #[.slice (some ⟨b, 0, none⟩) s.size cap, .int .i64 (p : Int)] (w.alloc o) fun e w' => e = .returned (.tuple #[.int .i64 (q : Int), .int .i64 (q : Int)]) ∧ (w.alloc o) = w') :=
    Lib.hid (fun o => pos_at ha (by rw [hc]; refine ⟨?_, ?_, ?_, ?_, ?_, ?_, ?_⟩ <;> decide) (h.grow ((Below.refl _ _).alloc (Nat.le_refl _) o)))
  have HR : Hid (∀ o, Calls Tryz.prog 156 #[.slice (some ⟨b, 0, none⟩) s.size cap, .int .i64 (q : Int)] (w.alloc o) fun e w' => e = .returned (.tuple #[.int .i32 116, .int .i64 1]) ∧ (w.alloc o) = w') :=
    Lib.hid (fun o => by have c := runeAt_any (h.grow ((Below.refl _ _).alloc (Nat.le_refl _) o)) q (by omega); rw [hc, wd_in (by omega)] at c; exact c)
  have HN : Hid (∀ o, Calls Tryz.prog 157 #[.pointer (some ⟨sb, 0, none⟩), .int .i64 (q : Int), .int .i64 (q : Int)] (w.alloc o) fun r w' => r = .returned (.agg #[.int .i64 15, .int .i64 q, .int .i64 e, .string (s.extract q e)]) ∧ Below (w.alloc o).heap.size (w.alloc o) w') :=
    Lib.hid (fun o => readName_any (h.grow ((Below.refl _ _).alloc (Nat.le_refl _) o)) q e hqe he hn hend)
  clear ha hc h hn hend
  go_enter Tryz.func134, Tryz.ntmps134
  go_wp2_with (first | (go_at_call 154; refine (HP.out _).mono ?_; rintro r w' ⟨rfl, rfl⟩) | (go_at_call 156; refine (HR.out _).mono ?_; rintro r w' ⟨rfl, rfl⟩) | (go_at_call 157; refine (HN.out _).mono ?_; rintro r w' ⟨rfl, hb⟩; obtain ⟨⟨c0, c1, c2, c3⟩, ⟨z0, z1, z2, z3⟩, hz, hB⟩ := kept4 hb; clear hb))
  obtain ⟨q0, q1, q2, q3⟩ := set4 c0 c1 c2 c3 (.int .i64 15) (.int .i64 q) (.int .i64 e) (.string (s.extract q e))
  refine bodyPost_ret (v := .tuple #[.agg #[.int .i64 15, .int .i64 q, .int .i64 e, .string (s.extract q e)], .nilIface]) (by simp [results, Tryz.results134, go_sem, q0, q1, q2, q3]) rfl ⟨rfl, below_set4 hB (Nat.le_refl _) _ _ _ _⟩

set_option maxHeartbeats 2000000 in
set_option maxRecDepth 100000 in
theorem tok_n117 (s : ByteArray) (p q e : Nat) (ha : Ahead s p q) (hc : cd s q = 117) (hqe : q < e) (he : e ≤ s.size) (hn : ∀ j : Nat, q < j → j < e → nameChar (cd s j)) (hend : e < s.size → nameEnd (cd s e)) : Tok s p 15 q e (s.extract q e) := by
  intro w sb b cap h
  have hlt := h.lts
  have hhd := h.head
  have hq := ha.size
  have hs := h.size
  have HP : Hid (∀ o, Calls Tryz.prog 154 #[.slice (some ⟨b, 0, none⟩) s.size cap, .int .i64 (p : Int)] (w.alloc o) fun e w' => e = .returned (.tuple #[.int .i64 (q : Int), .int .i64 (q : Int)]) ∧ (w.alloc o) = w') :=
    Lib.hid (fun o => pos_at ha (by rw [hc]; refine ⟨?_, ?_, ?_, ?_, ?_, ?_, ?_⟩ <;> decide) (h.grow ((Below.refl _ _).alloc (Nat.le_refl _) o)))
  have HR : Hid (∀ o, Calls Tryz.prog 156 #[.slice (some ⟨b, 0, none⟩) s.size cap, .int .i64 (q : Int)] (w.alloc o) fun e w' => e = .returned (.tuple #[.int .i32 117, .int .i64 1]) ∧ (w.alloc o) = w') :=
    Lib.hid (fun o => by have c := runeAt_any (h.grow ((Below.refl _ _).alloc (Nat.le_refl _) o)) q (by omega); rw [hc, wd_in (by omega)] at c; exact c)
  have HN : Hid (∀ o, Calls Tryz.prog 157 #[.pointer (some ⟨sb, 0, none⟩), .int .i64 (q : Int), .int .i64 (q : Int)] (w.alloc o) fun r w' => r = .returned (.agg #[.int .i64 15, .int .i64 q, .int .i64 e, .string (s.extract q e)]) ∧ Below (w.alloc o).heap.size (w.alloc o) w') :=
    Lib.hid (fun o => readName_any (h.grow ((Below.refl _ _).alloc (Nat.le_refl _) o)) q e hqe he hn hend)
  clear ha hc h hn hend
  go_enter Tryz.func134, Tryz.ntmps134
  go_wp2_with (first | (go_at_call 154; refine (HP.out _).mono ?_; rintro r w' ⟨rfl, rfl⟩) | (go_at_call 156; refine (HR.out _).mono ?_; rintro r w' ⟨rfl, rfl⟩) | (go_at_call 157; refine (HN.out _).mono ?_; rintro r w' ⟨rfl, hb⟩; obtain ⟨⟨c0, c1, c2, c3⟩, ⟨z0, z1, z2, z3⟩, hz, hB⟩ := kept4 hb; clear hb))
  obtain ⟨q0, q1, q2, q3⟩ := set4 c0 c1 c2 c3 (.int .i64 15) (.int .i64 q) (.int .i64 e) (.string (s.extract q e))
  refine bodyPost_ret (v := .tuple #[.agg #[.int .i64 15, .int .i64 q, .int .i64 e, .string (s.extract q e)], .nilIface]) (by simp [results, Tryz.results134, go_sem, q0, q1, q2, q3]) rfl ⟨rfl, below_set4 hB (Nat.le_refl _) _ _ _ _⟩

set_option maxHeartbeats 2000000 in
set_option maxRecDepth 100000 in
theorem tok_n118 (s : ByteArray) (p q e : Nat) (ha : Ahead s p q) (hc : cd s q = 118) (hqe : q < e) (he : e ≤ s.size) (hn : ∀ j : Nat, q < j → j < e → nameChar (cd s j)) (hend : e < s.size → nameEnd (cd s e)) : Tok s p 15 q e (s.extract q e) := by
  intro w sb b cap h
  have hlt := h.lts
  have hhd := h.head
  have hq := ha.size
  have hs := h.size
  have HP : Hid (∀ o, Calls Tryz.prog 154 #[.slice (some ⟨b, 0, none⟩) s.size cap, .int .i64 (p : Int)] (w.alloc o) fun e w' => e = .returned (.tuple #[.int .i64 (q : Int), .int .i64 (q : Int)]) ∧ (w.alloc o) = w') :=
    Lib.hid (fun o => pos_at ha (by rw [hc]; refine ⟨?_, ?_, ?_, ?_, ?_, ?_, ?_⟩ <;> decide) (h.grow ((Below.refl _ _).alloc (Nat.le_refl _) o)))
  have HR : Hid (∀ o, Calls Tryz.prog 156 #[.slice (some ⟨b, 0, none⟩) s.size cap, .int .i64 (q : Int)] (w.alloc o) fun e w' => e = .returned (.tuple #[.int .i32 118, .int .i64 1]) ∧ (w.alloc o) = w') :=
    Lib.hid (fun o => by have c := runeAt_any (h.grow ((Below.refl _ _).alloc (Nat.le_refl _) o)) q (by omega); rw [hc, wd_in (by omega)] at c; exact c)
  have HN : Hid (∀ o, Calls Tryz.prog 157 #[.pointer (some ⟨sb, 0, none⟩), .int .i64 (q : Int), .int .i64 (q : Int)] (w.alloc o) fun r w' => r = .returned (.agg #[.int .i64 15, .int .i64 q, .int .i64 e, .string (s.extract q e)]) ∧ Below (w.alloc o).heap.size (w.alloc o) w') :=
    Lib.hid (fun o => readName_any (h.grow ((Below.refl _ _).alloc (Nat.le_refl _) o)) q e hqe he hn hend)
  clear ha hc h hn hend
  go_enter Tryz.func134, Tryz.ntmps134
  go_wp2_with (first | (go_at_call 154; refine (HP.out _).mono ?_; rintro r w' ⟨rfl, rfl⟩) | (go_at_call 156; refine (HR.out _).mono ?_; rintro r w' ⟨rfl, rfl⟩) | (go_at_call 157; refine (HN.out _).mono ?_; rintro r w' ⟨rfl, hb⟩; obtain ⟨⟨c0, c1, c2, c3⟩, ⟨z0, z1, z2, z3⟩, hz, hB⟩ := kept4 hb; clear hb))
  obtain ⟨q0, q1, q2, q3⟩ := set4 c0 c1 c2 c3 (.int .i64 15) (.int .i64 q) (.int .i64 e) (.string (s.extract q e))
  refine bodyPost_ret (v := .tuple #[.agg #[.int .i64 15, .int .i64 q, .int .i64 e, .string (s.extract q e)], .nilIface]) (by simp [results, Tryz.results134, go_sem, q0, q1, q2, q3]) rfl ⟨rfl, below_set4 hB (Nat.le_refl _) _ _ _ _⟩

set_option maxHeartbeats 2000000 in
set_option maxRecDepth 100000 in
theorem tok_n119 (s : ByteArray) (p q e : Nat) (ha : Ahead s p q) (hc : cd s q = 119) (hqe : q < e) (he : e ≤ s.size) (hn : ∀ j : Nat, q < j → j < e → nameChar (cd s j)) (hend : e < s.size → nameEnd (cd s e)) : Tok s p 15 q e (s.extract q e) := by
  intro w sb b cap h
  have hlt := h.lts
  have hhd := h.head
  have hq := ha.size
  have hs := h.size
  have HP : Hid (∀ o, Calls Tryz.prog 154 #[.slice (some ⟨b, 0, none⟩) s.size cap, .int .i64 (p : Int)] (w.alloc o) fun e w' => e = .returned (.tuple #[.int .i64 (q : Int), .int .i64 (q : Int)]) ∧ (w.alloc o) = w') :=
    Lib.hid (fun o => pos_at ha (by rw [hc]; refine ⟨?_, ?_, ?_, ?_, ?_, ?_, ?_⟩ <;> decide) (h.grow ((Below.refl _ _).alloc (Nat.le_refl _) o)))
  have HR : Hid (∀ o, Calls Tryz.prog 156 #[.slice (some ⟨b, 0, none⟩) s.size cap, .int .i64 (q : Int)] (w.alloc o) fun e w' => e = .returned (.tuple #[.int .i32 119, .int .i64 1]) ∧ (w.alloc o) = w') :=
    Lib.hid (fun o => by have c := runeAt_any (h.grow ((Below.refl _ _).alloc (Nat.le_refl _) o)) q (by omega); rw [hc, wd_in (by omega)] at c; exact c)
  have HN : Hid (∀ o, Calls Tryz.prog 157 #[.pointer (some ⟨sb, 0, none⟩), .int .i64 (q : Int), .int .i64 (q : Int)] (w.alloc o) fun r w' => r = .returned (.agg #[.int .i64 15, .int .i64 q, .int .i64 e, .string (s.extract q e)]) ∧ Below (w.alloc o).heap.size (w.alloc o) w') :=
    Lib.hid (fun o => readName_any (h.grow ((Below.refl _ _).alloc (Nat.le_refl _) o)) q e hqe he hn hend)
  clear ha hc h hn hend
  go_enter Tryz.func134, Tryz.ntmps134
  go_wp2_with (first | (go_at_call 154; refine (HP.out _).mono ?_; rintro r w' ⟨rfl, rfl⟩) | (go_at_call 156; refine (HR.out _).mono ?_; rintro r w' ⟨rfl, rfl⟩) | (go_at_call 157; refine (HN.out _).mono ?_; rintro r w' ⟨rfl, hb⟩; obtain ⟨⟨c0, c1, c2, c3⟩, ⟨z0, z1, z2, z3⟩, hz, hB⟩ := kept4 hb; clear hb))
  obtain ⟨q0, q1, q2, q3⟩ := set4 c0 c1 c2 c3 (.int .i64 15) (.int .i64 q) (.int .i64 e) (.string (s.extract q e))
  refine bodyPost_ret (v := .tuple #[.agg #[.int .i64 15, .int .i64 q, .int .i64 e, .string (s.extract q e)], .nilIface]) (by simp [results, Tryz.results134, go_sem, q0, q1, q2, q3]) rfl ⟨rfl, below_set4 hB (Nat.le_refl _) _ _ _ _⟩

set_option maxHeartbeats 2000000 in
set_option maxRecDepth 100000 in
theorem tok_n120 (s : ByteArray) (p q e : Nat) (ha : Ahead s p q) (hc : cd s q = 120) (hqe : q < e) (he : e ≤ s.size) (hn : ∀ j : Nat, q < j → j < e → nameChar (cd s j)) (hend : e < s.size → nameEnd (cd s e)) : Tok s p 15 q e (s.extract q e) := by
  intro w sb b cap h
  have hlt := h.lts
  have hhd := h.head
  have hq := ha.size
  have hs := h.size
  have HP : Hid (∀ o, Calls Tryz.prog 154 #[.slice (some ⟨b, 0, none⟩) s.size cap, .int .i64 (p : Int)] (w.alloc o) fun e w' => e = .returned (.tuple #[.int .i64 (q : Int), .int .i64 (q : Int)]) ∧ (w.alloc o) = w') :=
    Lib.hid (fun o => pos_at ha (by rw [hc]; refine ⟨?_, ?_, ?_, ?_, ?_, ?_, ?_⟩ <;> decide) (h.grow ((Below.refl _ _).alloc (Nat.le_refl _) o)))
  have HR : Hid (∀ o, Calls Tryz.prog 156 #[.slice (some ⟨b, 0, none⟩) s.size cap, .int .i64 (q : Int)] (w.alloc o) fun e w' => e = .returned (.tuple #[.int .i32 120, .int .i64 1]) ∧ (w.alloc o) = w') :=
    Lib.hid (fun o => by have c := runeAt_any (h.grow ((Below.refl _ _).alloc (Nat.le_refl _) o)) q (by omega); rw [hc, wd_in (by omega)] at c; exact c)
  have HN : Hid (∀ o, Calls Tryz.prog 157 #[.pointer (some ⟨sb, 0, none⟩), .int .i64 (q : Int), .int .i64 (q : Int)] (w.alloc o) fun r w' => r = .returned (.agg #[.int .i64 15, .int .i64 q, .int .i64 e, .string (s.extract q e)]) ∧ Below (w.alloc o).heap.size (w.alloc o) w') :=
    Lib.hid (fun o => readName_any (h.grow ((Below.refl _ _).alloc (Nat.le_refl _) o)) q e hqe he hn hend)
  clear ha hc h hn hend
  go_enter Tryz.func134, Tryz.ntmps134
  go_wp2_with (first | (go_at_call 154; refine (HP.out _).mono ?_; rintro r w' ⟨rfl, rfl⟩) | (go_at_call 156; refine (HR.out _).mono ?_; rintro r w' ⟨rfl, rfl⟩) | (go_at_call 157; refine (HN.out _).mono ?_; rintro r w' ⟨rfl, hb⟩; obtain ⟨⟨c0, c1, c2, c3⟩, ⟨z0, z1, z2, z3⟩, hz, hB⟩ := kept4 hb; clear hb))
  obtain ⟨q0, q1, q2, q3⟩ := set4 c0 c1 c2 c3 (.int .i64 15) (.int .i64 q) (.int .i64 e) (.string (s.extract q e))
  refine bodyPost_ret (v := .tuple #[.agg #[.int .i64 15, .int .i64 q, .int .i64 e, .string (s.extract q e)], .nilIface]) (by simp [results, Tryz.results134, go_sem, q0, q1, q2, q3]) rfl ⟨rfl, below_set4 hB (Nat.le_refl _) _ _ _ _⟩

set_option maxHeartbeats 2000000 in
set_option maxRecDepth 100000 in
theorem tok_n121 (s : ByteArray) (p q e : Nat) (ha : Ahead s p q) (hc : cd s q = 121) (hqe : q < e) (he : e ≤ s.size) (hn : ∀ j : Nat, q < j → j < e → nameChar (cd s j)) (hend : e < s.size → nameEnd (cd s e)) : Tok s p 15 q e (s.extract q e) := by
  intro w sb b cap h
  have hlt := h.lts
  have hhd := h.head
  have hq := ha.size
  have hs := h.size
  have HP : Hid (∀ o, Calls Tryz.prog 154 #[.slice (some ⟨b, 0, none⟩) s.size cap, .int .i64 (p : Int)] (w.alloc o) fun e w' => e = .returned (.tuple #[.int .i64 (q : Int), .int .i64 (q : Int)]) ∧ (w.alloc o) = w') :=
    Lib.hid (fun o => pos_at ha (by rw [hc]; refine ⟨?_, ?_, ?_, ?_, ?_, ?_, ?_⟩ <;> decide) (h.grow ((Below.refl _ _).alloc (Nat.le_refl _) o)))
  have HR : Hid (∀ o, Calls Tryz.prog 156 #[.slice (some ⟨b, 0, none⟩) s.size cap, .int .i64 (q : Int)] (w.alloc o) fun e w' => e = .returned (.tuple #[.int .i32 121, .int .i64 1]) ∧ (w.alloc o) = w') :=
    Lib.hid (fun o => by have c := runeAt_any (h.grow ((Below.refl _ _).alloc (Nat.le_refl _) o)) q (by omega); rw [hc, wd_in (by omega)] at c; exact c)
  have HN : Hid (∀ o, Calls Tryz.prog 157 #[.pointer (some ⟨sb, 0, none⟩), .int .i64 (q : Int), .int .i64 (q : Int)] (w.alloc o) fun r w' => r = .returned (.agg #[.int .i64 15, .int .i64 q, .int .i64 e, .string (s.extract q e)]) ∧ Below (w.alloc o).heap.size (w.alloc o) w') :=
    Lib.hid (fun o => readName_any (h.grow ((Below.refl _ _).alloc (Nat.le_refl _) o)) q e hqe he hn hend)
  clear ha hc h hn hend
  go_enter Tryz.func134, Tryz.ntmps134
  go_wp2_with (first | (go_at_call 154; refine (HP.out _).mono ?_; rintro r w' ⟨rfl, rfl⟩) | (go_at_call 156; refine (HR.out _).mono ?_; rintro r w' ⟨rfl, rfl⟩) | (go_at_call 157; refine (HN.out _).mono ?_; rintro r w' ⟨rfl, hb⟩; obtain ⟨⟨c0, c1, c2, c3⟩, ⟨z0, z1, z2, z3⟩, hz, hB⟩ := kept4 hb; clear hb))
  obtain ⟨q0, q1, q2, q3⟩ := set4 c0 c1 c2 c3 (.int .i64 15) (.int .i64 q) (.int .i64 e) (.string (s.extract q e))
  refine bodyPost_ret (v := .tuple #[.agg #[.int .i64 15, .int .i64 q, .int .i64 e, .string (s.extract q e)], .nilIface]) (by simp [results, Tryz.results134, go_sem, q0, q1, q2, q3]) rfl ⟨rfl, below_set4 hB (Nat.le_refl _) _ _ _ _⟩

set_option maxHeartbeats 2000000 in
set_option maxRecDepth 100000 in
theorem tok_n122 (s : ByteArray) (p q e : Nat) (ha : Ahead s p q) (hc : cd s q = 122) (hqe : q < e) (he : e ≤ s.size) (hn : ∀ j : Nat, q < j → j < e → nameChar (cd s j)) (hend : e < s.size → nameEnd (cd s e)) : Tok s p 15 q e (s.extract q e) := by
  intro w sb b cap h
  have hlt := h.lts
  have hhd := h.head
  have hq := ha.size
  have hs := h.size
  have HP : Hid (∀ o, Calls Tryz.prog 154 #[.slice (some ⟨b, 0, none⟩) s.size cap, .int .i64 (p : Int)] (w.alloc o) fun e w' => e = .returned (.tuple #[.int .i64 (q : Int), .int .i64 (q : Int)]) ∧ (w.alloc o) = w') :=
    Lib.hid (fun o => pos_at ha (by rw [hc]; refine ⟨?_, ?_, ?_, ?_, ?_, ?_, ?_⟩ <;> decide) (h.grow ((Below.refl _ _).alloc (Nat.le_refl _) o)))
  have HR : Hid (∀ o, Calls Tryz.prog 156 #[.slice (some ⟨b, 0, none⟩) s.size cap, .int .i64 (q : Int)] (w.alloc o) fun e w' => e = .returned (.tuple #[.int .i32 122, .int .i64 1]) ∧ (w.alloc o) = w') :=
    Lib.hid (fun o => by have c := runeAt_any (h.grow ((Below.refl _ _).alloc (Nat.le_refl _) o)) q (by omega); rw [hc, wd_in (by omega)] at c; exact c)
  have HN : Hid (∀ o, Calls Tryz.prog 157 #[.pointer (some ⟨sb, 0, none⟩), .int .i64 (q : Int), .int .i64 (q : Int)] (w.alloc o) fun r w' => r = .returned (.agg #[.int .i64 15, .int .i64 q, .int .i64 e, .string (s.extract q e)]) ∧ Below (w.alloc o).heap.size (w.alloc o) w') :=
    Lib.hid (fun o => readName_any (h.grow ((Below.refl _ _).alloc (Nat.le_refl _) o)) q e hqe he hn hend)
  clear ha hc h hn hend
  go_enter Tryz.func134, Tryz.ntmps134
  go_wp2_with (first | (go_at_call 154; refine (HP.out _).mono ?_; rintro r w' ⟨rfl, rfl⟩) | (go_at_call 156; refine (HR.out _).mono ?_; rintro r w' ⟨rfl, rfl⟩) | (go_at_call 157; refine (HN.out _).mono ?_; rintro r w' ⟨rfl, hb⟩; obtain ⟨⟨c0, c1, c2, c3⟩, ⟨z0, z1, z2, z3⟩, hz, hB⟩ := kept4 hb; clear hb))
  obtain ⟨q0, q1, q2, q3⟩ := set4 c0 c1 c2 c3 (.int .i64 15) (.int .i64 q) (.int .i64 e) (.string (s.extract q e))
  refine bodyPost_ret (v := .tuple #[.agg #[.int .i64 15, .int .i64 q, .int .i64 e, .string (s.extract q e)], .nilIface]) (by simp [results, Tryz.results134, go_sem, q0, q1, q2, q3]) rfl ⟨rfl, below_set4 hB (Nat.le_refl _) _ _ _ _⟩

end Go.Proofs.YtbjfahhfcdnkaaaGreatDoor
