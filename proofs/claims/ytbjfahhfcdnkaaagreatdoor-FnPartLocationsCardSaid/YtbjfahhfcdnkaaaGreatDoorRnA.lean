/- A name is a token (by its first letter). -/
import Derived.Test.YtbjfahhfcdnkaaaGreatDoorRt0
namespace Go.Proofs.YtbjfahhfcdnkaaaGreatDoor
open Go.RowKit Go.Proofs.YtbjfahhfcdnkaaaGreatDoorW.PrintWords Go.Proofs.YtbjfahhfcdnkaaaGreatDoorW.PrintMore
set_option maxHeartbeats 2000000 in
set_option maxRecDepth 100000 in
theorem tok_n65 (s : ByteArray) (p q e : Nat) (ha : Ahead s p q) (hc : cd s q = 65) (hqe : q < e) (he : e ≤ s.size) (hn : ∀ j : Nat, q < j → j < e → nameChar (cd s j)) (hend : e < s.size → nameEnd (cd s e)) : Tok s p 15 q e (s.extract q e) := by
  intro w sb b cap h
  have hlt := h.lts
  have hhd := h.head
  have hq := ha.size
  have hs := h.size
  have HP : Hid (∀ o, Calls Tryz.prog 154 #[.slice (some ⟨b, 0, none⟩) s.size cap, .int .i64 (p : Int)] (w.alloc o) fun e w' => e = .returned (.tuple #[.int .i64 (q : Int), .int .i64 (q : Int)]) ∧ (w.alloc o) = w') :=
    Lib.hid (fun o => pos_at ha (by rw [hc]; refine ⟨?_, ?_, ?_, ?_, ?_, ?_, ?_⟩ <;> decide) (h.grow ((Below.refl _ _).alloc (Nat.le_refl _) o)))
  have HR : Hid (∀ o, Calls Tryz.prog 156 #[.slice (some ⟨b, 0, none⟩) s.size cap, .int .i64 (q : Int)] (w.alloc o) fun e w' => e = .returned (.tuple #[.int .i32 65, .int .i64 1]) ∧ (w.alloc o) = w') :=
    Lib.hid (fun o => by have c := runeAt_any (h.grow ((Below.refl _ _).alloc (Nat.le_refl _) o)) q (by omega); rw [hc, wd_in (by omega)] at c; exact c)
  have HN : Hid (∀ o, Calls Tryz.prog 157 #[.pointer (some ⟨sb, 0, none⟩), .int .i64 (q : Int), .int .i64 (q : Int)] (w.alloc o) fun r w' => r = .returned (.agg #[.int .i64 15, .int .i64 q, .int .i64 e, .string (s.extract q e)]) ∧ Below (w.alloc o).heap.size (w.alloc o) w') :=
    Lib.hid (fun o => readName_any (h.grow ((Below.refl _ _).alloc (Nat.le_refl _) o)) q e hqe he hn hend)
  clear ha hc h hn hend
  go_enter Tryz.func134, Tryz.ntmps134
  go_wp2_with (first | (go_at_call 154; refine (HP.out _).mono ?_; rintro r w' ⟨rfl, rfl⟩) | (go_at_call 156; refine (HR.out _).mono ?_; rintro r w' ⟨rfl, rfl⟩) | (go_at_call 157; refine (HN.out _).mono ?_; rintro r w' ⟨rfl, hb⟩; obtain ⟨⟨c0, c1, c2, c3⟩, ⟨z0, z1, z2, z3⟩, hz, hB⟩ := kept4 hb; clear hb))
  obtain ⟨q0, q1, q2, q3⟩ := set4 c0 c1 c2 c3 (.int .i64 15) (.int .i64 q) (.int .i64 e) (.string (s.extract q e))
  refine bodyPost_ret (v := .tuple #[.agg #[.int .i64 15, .int .i64 q, .int .i64 e, .string (s.extract q e)], .nilIface]) (by simp [results, Tryz.results134, go_sem, q0, q1, q2, q3]) rfl ⟨rfl, below_set4 hB (Nat.le_refl _) _ _ _ _⟩

set_option maxHeartbeats 2000000 in
set_option maxRecDepth 100000 in
theorem tok_n66 (s : ByteArray) (p q e : Nat) (ha : Ahead s p q) (hc : cd s q = 66) (hqe : q < e) (he : e ≤ s.size) (hn : ∀ j : Nat, q < j → j < e → nameChar (cd s j)) (hend : e < s.size → nameEnd (cd s e)) : Tok s p 15 q e (s.extract q e) := by
  intro w sb b cap h
  have hlt := h.lts
  have hhd := h.head
  have hq := ha.size
  have hs := h.size
  have HP : Hid (∀ o, Calls Tryz.prog 154 #[.slice (some ⟨b, 0, none⟩) s.size cap, .int .i64 (p : Int)] (w.alloc o) fun e w' => e = .returned (.tuple #[.int .i64 (q : Int), .int .i64 (q : Int)]) ∧ (w.alloc o) = w') :=
    Lib.hid (fun o => pos_at ha (by rw [hc]; refine ⟨?_, ?_, ?_, ?_, ?_, ?_, ?_⟩ <;> decide) (h.grow ((Below.refl _ _).alloc (Nat.le_refl _) o)))
  have HR : Hid (∀ o, Calls Tryz.prog 156 #[.slice (some ⟨b, 0, none⟩) s.size cap, .int .i64 (q : Int)] (w.alloc o) fun e w' => e = .returned (.tuple #[.int .i32 66, .int .i64 1]) ∧ (w.alloc o) = w') :=
    Lib.hid (fun o => by have c := runeAt_any (h.grow ((Below.refl _ _).alloc (Nat.le_refl _) o)) q (by omega); rw [hc, wd_in (by omega)] at c; exact c)
  have HN : Hid (∀ o, Calls Tryz.prog 157 #[.pointer (some ⟨sb, 0, none⟩), .int .i64 (q : Int), .int .i64 (q : Int)] (w.alloc o) fun r w' => r = .returned (.agg #[.int .i64 15, .int .i64 q, .int .i64 e, .string (s.extract q e)]) ∧ Below (w.alloc o).heap.size (w.alloc o) w') :=
    Lib.hid (fun o => readName_any (h.grow ((Below.refl _ _).alloc (Nat.le_refl _) o)) q e hqe he hn hend)
  clear ha hc h hn hend
  go_enter Tryz.func134, Tryz.ntmps134
  go_wp2_with (first | (go_at_call 154; refine (HP.out _).mono ?_; rintro r w' ⟨rfl, rfl⟩) | (go_at_call 156; refine (HR.out _).mono ?_; rintro r w' ⟨rfl, rfl⟩) | (go_at_call 157; refine (HN.out _).mono ?_; rintro r w' ⟨rfl, hb⟩; obtain ⟨⟨c0, c1, c2, c3⟩, ⟨z0, z1, z2, z3⟩, hz, hB⟩ := kept4 hb; clear hb))
  obtain ⟨q0, q1, q2, q3⟩ := set4 c0 c1 c2 c3 (.int .i64 15) (.int .i64 q) (.int .i64 e) (.string (s.extract q e))
  refine bodyPost_ret (v := .tuple #[.agg #[.int .i64 15, .int .i64 q, .int .i64 e, .string (s.extract q e)], .nilIface]) (by simp [results, Tryz.results134, go_sem, q0, q1, q2, q3]) rfl ⟨rfl, below_set4 hB (Nat.le_refl _) _ _ _ _⟩

set_option maxHeartbeats 2000000 in
set_option maxRecDepth 100000 in
theorem tok_n67 (s : ByteArray) (p q e : Nat) (ha : Ahead s p q) (hc : cd s q = 67) (hqe : q < e) (he : e ≤ s.size) (hn : ∀ j : Nat, q < j → j < e → nameChar (cd s j)) (hend : e < s.size → nameEnd (cd s e)) : Tok s p 15 q e (s.extract q e) := by
  intro w sb b cap h
  have hlt := h.lts
  have hhd := h.head
  have hq := ha.size
  have hs := h.size
  have HP : Hid (∀ o, Calls Tryz.prog 154 #[.slice (some ⟨b, 0, none⟩) s.size cap, .int .i64 (p : Int)] (w.alloc o) fun e w' => e = .returned (.tuple #[.int .i64 (q : Int), .int .i64 (q : Int)]) ∧ (w.alloc o) = w') :=
    Lib.hid (fun o => pos_at ha (by rw [hc]; refine ⟨?_, ?_, ?_, ?_, ?_, ?_, ?_⟩ <;> decide) (h.grow ((Below.refl _ _).alloc (Nat.le_refl _) o)))
  have HR : Hid (∀ o, Calls Tryz.prog 156 #[.slice (some ⟨b, 0, none⟩) s.size cap, .int .i64 (q : Int)] (w.alloc o) fun e w' => e = .returned (.tuple #[.int .i32 67, .int .i64 1]) ∧ (w.alloc o) = w') :=
    Lib.hid (fun o => by have c := runeAt_any (h.grow ((Below.refl _ _).alloc (Nat.le_refl _) o)) q (by omega); rw [hc, wd_in (by omega)] at c; exact c)
  have HN : Hid (∀ o, Calls Tryz.prog 157 #[.pointer (some ⟨sb, 0, none⟩), .int .i64 (q : Int), .int .i64 (q : Int)] (w.alloc o) fun r w' => r = .returned (.agg #[.int .i64 15, .int .i64 q, .int .i64 e, .string (s.extract q e)]) ∧ Below (w.alloc o).heap.size (w.alloc o) w') :=
    Lib.hid (fun o => readName_any (h.grow ((Below.refl _ _).alloc (Nat.le_refl _) o)) q e hqe he hn hend)
  clear ha hc h hn hend
  go_enter Tryz.func134, Tryz.ntmps134
  go_wp2_with (first | (go_at_call 154; refine (HP.out _).mono ?_; rintro r w' ⟨rfl, rfl⟩) | (go_at_call 156; refine (HR.out _).mono ?_; rintro r w' ⟨rfl, rfl⟩) | (go_at_call 157; refine (HN.out _).mono ?_; rintro r w' ⟨rfl, hb⟩; obtain ⟨⟨c0, c1, c2, c3⟩, ⟨z0, z1, z2, z3⟩, hz, hB⟩ := kept4 hb; clear hb))
  obtain ⟨q0, q1, q2, q3⟩ := set4 c0 c1 c2 c3 (.int .i64 15) (.int .i64 q) (.int .i64 e) (.string (s.extract q e))
  refine bodyPost_ret (v := .tuple #[.agg #[.int .i64 15, .int .i64 q, .int .i64 e, .string (s.extract q e)], .nilIface]) (by simp [results, Tryz.results134, go_sem, q0, q1, q2, q3]) rfl ⟨rfl, below_set4 hB (Nat.le_refl _) _ _ _ _⟩

set_option maxHeartbeats 2000000 in
set_option maxRecDepth 100000 in
theorem tok_n68 (s : ByteArray) (p q e : Nat) (ha : Ahead s p q) (hc : cd s q = 68) (hqe : q < e) (he : e ≤ s.size) (hn : ∀ j : Nat, q < j → j < e → nameChar (cd s j)) (hend : e < s.size → nameEnd (cd s e)) : Tok s p 15 q e (s.extract q e) := by
  intro w sb b cap h
  have hlt := h.lts
  have hhd := h.head
  have hq := ha.size
  have hs := h.size
  have HP : Hid (∀ o, Calls Tryz.prog 154 #[.slice (some ⟨b, 0, none⟩) s.size cap, .int .i64 (p : Int)] (w.alloc o) fun e w' => e = .returned (.tuple #[.int .i64 (q : Int), .int .i64 (q : Int)]) ∧ (w.alloc o) = w') :=
    Lib.hid (fun o => pos_at ha (by rw [hc]; refine ⟨?_, ?_, ?_, ?_, ?_, ?_, ?_⟩ <;> decide) (h.grow ((Below.refl _ _).alloc (Nat.le_refl _) o)))
  have HR : Hid (∀ o, Calls Tryz.prog 156 #[.slice (some ⟨b, 0, none⟩) s.size cap, .int .i64 (q : Int)] (w.alloc o) fun e w' => e = .returned (.tuple #[.int .i32 68, .int .i64 1]) ∧ (w.alloc o) = w') :=
    Lib.hid (fun o => by have c := runeAt_any (h.grow ((Below.refl _ _).alloc (Nat.le_refl _) o)) q (by omega); rw [hc, wd_in (by omega)] at c; exact c)
  have HN : Hid (∀ o, Calls Tryz.prog 157 #[.pointer (some ⟨sb, 0, none⟩), .int .i64 (q : Int), .int .i64 (q : Int)] (w.alloc o) fun r w' => r = .returned (.agg #[.int .i64 15, .int .i64 q, .int .i64 e, .string (s.extract q e)]) ∧ Below (w.alloc o).heap.size (w.alloc o) w') :=
    Lib.hid (fun o => readName_any (h.grow ((Below.refl _ _).alloc (Nat.le_refl _) o)) q e hqe he hn hend)
  clear ha hc h hn hend
  go_enter Tryz.func134, Tryz.ntmps134
  go_wp2_with (first | (go_at_call 154; refine (HP.out _).mono ?_; rintro r w' ⟨rfl, rfl⟩) | (go_at_call 156; refine (HR.out _).mono ?_; rintro r w' ⟨rfl, rfl⟩) | (go_at_call 157; refine (HN.out _).mono ?_; rintro r w' ⟨rfl, hb⟩; obtain ⟨⟨c0, c1, c2, c3⟩, ⟨z0, z1, z2, z3⟩, hz, hB⟩ := kept4 hb; clear hb))
  obtain ⟨q0, q1, q2, q3⟩ := set4 c0 c1 c2 c3 (.int .i64 15) (.int .i64 q) (.int .i64 e) (.string (s.extract q e))
  refine bodyPost_ret (v := .tuple #[.agg #[.int .i64 15, .int .i64 q, .int .i64 e, .string (s.extract q e)], .nilIface]) (by simp [results, Tryz.results134, go_sem, q0, q1, q2, q3]) rfl ⟨rfl, below_set4 hB (Nat.le_refl _) _ _ _ _⟩

set_option maxHeartbeats 2000000 in
set_option maxRecDepth 100000 in
theorem tok_n69 (s : ByteArray) (p q e : Nat) (ha : Ahead s p q) (hc : cd s q = 69) (hqe : q < e) (he : e ≤ s.size) (hn : ∀ j : Nat, q < j → j < e → nameChar (cd s j)) (hend : e < s.size → nameEnd (cd s e)) : Tok s p 15 q e (s.extract q e) := by
  intro w sb b cap h
  have hlt := h.lts
  have hhd := h.head
  have hq := ha.size
  have hs := h.size
  have HP : Hid (∀ o, Calls Tryz.prog 154 #[.slice (some ⟨b, 0, none⟩) s.size cap, .int .i64 (p : Int)] (w.alloc o) fun e w' => e = .returned (.tuple #[.int .i64 (q : Int), .int .i64 (q : Int)]) ∧ (w.alloc o) = w') :=
    Lib.hid (fun o => pos_at ha (by rw [hc]; refine ⟨?_, ?_, ?_, ?_, ?_, ?_, ?_⟩ <;> decide) (h.grow ((Below.refl _ _).alloc (Nat.le_refl _) o)))
  have HR : Hid (∀ o, Calls Tryz.prog 156 #[.slice (some ⟨b, 0, none⟩) s.size cap, .int .i64 (q : Int)] (w.alloc o) fun e w' => e = .returned (.tuple #[.int .i32 69, .int .i64 1]) ∧ (w.alloc o) = w') :=
    Lib.hid (fun o => by have c := runeAt_any (h.grow ((Below.refl _ _).alloc (Nat.le_refl _) o)) q (by omega); rw [hc, wd_in (by omega)] at c; exact c)
  have HN : Hid (∀ o, Calls Tryz.prog 157 #[.pointer (some ⟨sb, 0, none⟩), .int .i64 (q : Int), .int .i64 (q : Int)] (w.alloc o) fun r w' => r = .returned (.agg #[.int .i64 15, .int .i64 q, .int .i64 e, .string (s.extract q e)]) ∧ Below (w.alloc o).heap.size (w.alloc o) w') :=
    Lib.hid (fun o => readName_any (h.grow ((Below.refl _ _).alloc (Nat.le_refl _) o)) q e hqe he hn hend)
  clear ha hc h hn hend
  go_enter Tryz.func134, Tryz.ntmps134
  go_wp2_with (first | (go_at_call 154; refine (HP.out _).mono ?_; rintro r w' ⟨rfl, rfl⟩) | (go_at_call 156; refine (HR.out _).mono ?_; rintro r w' ⟨rfl, rfl⟩) | (go_at_call 157; refine (HN.out _).mono ?_; rintro r w' ⟨rfl, hb⟩; obtain ⟨⟨c0, c1, c2, c3⟩, ⟨z0, z1, z2, z3⟩, hz, hB⟩ := kept4 hb; clear hb))
  obtain ⟨q0, q1, q2, q3⟩ := set4 c0 c1 c2 c3 (.int .i64 15) (.int .i64 q) (.int .i64 e) (.string (s.extract q e))
  refine bodyPost_ret (v := .tuple #[.agg #[.int .i64 15, .int .i64 q, .int .i64 e, .string (s.extract q e)], .nilIface]) (by simp [results, Tryz.results134, go_sem, q0, q1, q2, q3]) rfl ⟨rfl, below_set4 hB (Nat.le_refl _) _ _ _ _⟩

set_option maxHeartbeats 2000000 in
set_option maxRecDepth 100000 in
theorem tok_n70 (s : ByteArray) (p q e : Nat) (ha : Ahead s p q) (hc : cd s q = 70) (hqe : q < e) (he : e ≤ s.size) (hn : ∀ j : Nat, q < j → j < e → nameChar (cd s j)) (hend : e < s.size → nameEnd (cd s e)) : Tok s p 15 q e (s.extract q e) := by
  intro w sb b cap h
  have hlt := h.lts
  have hhd := h.head
  have hq := ha.size
  have hs := h.size
  have HP : Hid (∀ o, Calls Tryz.prog 154 #[.slice (some ⟨b, 0, none⟩) s.size cap, .int .i64 (p : Int)] (w.alloc o) fun e w' => e = .returned (.tuple #[.int .i64 (q : Int), .int .i64 (q : Int)]) ∧ (w.alloc o) = w') :=
    Lib.hid (fun o => pos_at ha (by rw [hc]; refine ⟨?_, ?_, ?_, ?_, ?_, ?_, ?_⟩ <;> decide) (h.grow ((Below.refl _ _).alloc (Nat.le_refl _) o)))
  have HR : Hid (∀ o, Calls Tryz.prog 156 #[.slice (some ⟨b, 0, none⟩) s.size cap, .int .i64 (q : Int)] (w.alloc o) fun e w' => e = .returned (.tuple #[.int .i32 70, .int .i64 1]) ∧ (w.alloc o) = w') :=
    Lib.hid (fun o => by have c := runeAt_any (h.grow ((Below.refl _ _).alloc (Nat.le_refl _) o)) q (by omega); rw [hc, wd_in (by omega)] at c; exact c)
  have HN : Hid (∀ o, Calls Tryz.prog 157 #[.pointer (some ⟨sb, 0, none⟩), .int .i64 (q : Int), .int .i64 (q : Int)] (w.alloc o) fun r w' => r = .returned (.agg #[.int .i64 15, .int .i64 q, .int .i64 e, .string (s.extract q e)]) ∧ Below (w.alloc o).heap.size (w.alloc o) w') :=
    Lib.hid (fun o => readName_any (h.grow ((Below.refl _ _).alloc (Nat.le_refl _) o)) q e hqe he hn hend)
  clear ha hc h hn hend
  go_enter Tryz.func134, Tryz.ntmps134
  go_wp2_with (first | (go_at_call 154; refine (HP.out _).mono ?_; rintro r w' ⟨rfl, rfl⟩) | (go_at_call 156; refine (HR.out _).mono ?_; rintro r w' ⟨rfl, rfl⟩) | (go_at_call 157; refine (HN.out _).mono ?_; rintro r w' ⟨rfl, hb⟩; obtain ⟨⟨c0, c1, c2, c3⟩, ⟨z0, z1, z2, z3⟩, hz, hB⟩ := kept4 hb; clear hb))
  obtain ⟨q0, q1, q2, q3⟩ := set4 c0 c1 c2 c3 (.int .i64 15) (.int .i64 q) (.int .i64 e) (.string (s.extract q e))
  refine bodyPost_ret (v := .tuple #[.agg #[.int .i64 15, .int .i64 q, .int .i64 e, .string (s.extract q e)], .nilIface]) (by simp [results, Tryz.results134, go_sem, q0, q1, q2, q3]) rfl ⟨rfl, below_set4 hB (Nat.le_refl _) _ _ _ _⟩

set_option maxHeartbeats 2000000 in
set_option maxRecDepth 100000 in
theorem tok_n71 (s : ByteArray) (p q e : Nat) (ha : Ahead s p q) (hc : cd s q = 71) (hqe : q < e) (he : e ≤ s.size) (hn : ∀ j : Nat, q < j → j < e → nameChar (cd s j)) (hend : e < s.size → nameEnd (cd s e)) : Tok s p 15 q e (s.extract q e) := by
  intro w sb b cap h
  have hlt := h.lts
  have hhd := h.head
  have hq := ha.size
  have hs := h.size
  have HP : Hid (∀ o, Calls Tryz.prog 154 #[.slice (some ⟨b, 0, none⟩) s.size cap, .int .i64 (p : Int)] (w.alloc o) fun e w' => e = .returned (.tuple #[.int .i64 (q : Int), .int .i64 (q : Int)]) ∧ (w.alloc o) = w') :=
    Lib.hid (fun o => pos_at ha (by rw [hc]; refine ⟨?_, ?_, ?_, ?_, ?_, ?_, ?_⟩ <;> decide) (h.grow ((Below.refl _ _).alloc (Nat.le_refl _) o)))
  have HR : Hid (∀ o, Calls Tryz.prog 156 #[.slice (some ⟨b, 0, none⟩) s.size cap, .int .i64 (q : Int)] (w.alloc o) fun e w' => e = .returned (.tuple #[.int .i32 71, .int .i64 1]) ∧ (w.alloc o) = w') :=
    Lib.hid (fun o => by have c := runeAt_any (h.grow ((Below.refl _ _).alloc (Nat.le_refl _) o)) q (by omega); rw [hc, wd_in (by omega)] at c; exact c)
  have HN : Hid (∀ o, Calls Tryz.prog 157 #[.pointer (some ⟨sb, 0, none⟩), .int .i64 (q : Int), .int .i64 (q : Int)] (w.alloc o) fun r w' => r = .returned (.agg #[.int .i64 15, .int .i64 q, .int .i64 e, .string (s.extract q e)]) ∧ Below (w.alloc o).heap.size (w.alloc o) w') :=
    Lib.hid (fun o => readName_any (h.grow ((Below.refl _ _).alloc (Nat.le_refl _) o)) q e hqe he hn hend)
  clear ha hc h hn hend
  go_enter Tryz.func134, Tryz.ntmps134
  go_wp2_with (first | (go_at_call 154; refine (HP.out _).mono ?_; rintro r w' ⟨rfl, rfl⟩) | (go_at_call 156; refine (HR.out _).mono ?_; rintro r w' ⟨rfl, rfl⟩) | (go_at_call 157; refine (HN.out _).mono ?_; rintro r w' ⟨rfl, hb⟩; obtain ⟨⟨c0, c1, c2, c3⟩, ⟨z0, z1, z2, z3⟩, hz, hB⟩ := kept4 hb; clear hb))
  obtain ⟨q0, q1, q2, q3⟩ := set4 c0 c1 c2 c3 (.int .i64 15) (.int .i64 q) (.int .i64 e) (.string (s.extract q e))
  refine bodyPost_ret (v := .tuple #[.agg #[.int .i64 15, .int .i64 q, .int .i64 e, .string (s.extract q e)], .nilIface]) (by simp [results, Tryz.results134, go_sem, q0, q1, q2, q3]) rfl ⟨rfl, below_set4 hB (Nat.le_refl _) _ _ _ _⟩

set_option maxHeartbeats 2000000 in
set_option maxRecDepth 100000 in
theorem tok_n72 (s : ByteArray) (p q e : Nat) (ha : Ahead s p q) (hc : cd s q = 72) (hqe : q < e) (he : e ≤ s.size) (hn : ∀ j : Nat, q < j → j < e → nameChar (cd s j)) (hend : e < s.size → nameEnd (cd s e)) : Tok s p 15 q e (s.extract q e) := by
  intro w sb b cap h
  have hlt := h.lts
  have hhd := h.head
  have hq := ha.size
  have hs := h.size
  have HP : Hid (∀ o, Calls Tryz.prog 154 #[.slice (some ⟨b, 0, none⟩) s.size cap, .int .i64 (p : Int)] (w.alloc o) fun e w' => e = .returned (.tuple #[.int .i64 (q : Int), .int .i64 (q : Int)]) ∧ (w.alloc o) = w') :=
    Lib.hid (fun o => pos_at ha (by rw [hc]; refine ⟨?_, ?_, ?_, ?_, ?_, ?_, ?_⟩ <;> decide) (h.grow ((Below.refl _ _).alloc (Nat.le_refl _) o)))
  have HR : Hid (∀ o, Calls Tryz.prog 156 #[.slice (some ⟨b, 0, none⟩) s.size cap, .int .i64 (q : Int)] (w.alloc o) fun e w' => e = .returned (.tuple #[.int .i32 72, .int .i64 1]) ∧ (w.alloc o) = w') :=
    Lib.hid (fun o => by have c := runeAt_any (h.grow ((Below.refl _ _).alloc (Nat.le_refl _) o)) q (by omega); rw [hc, wd_in (by omega)] at c; exact c)
  have HN : Hid (∀ o, Calls Tryz.prog 157 #[.pointer (some ⟨sb, 0, none⟩), .int .i64 (q : Int), .int .i64 (q : Int)] (w.alloc o) fun r w' => r = .returned (.agg #[.int .i64 15, .int .i64 q, .int .i64 e, .string (s.extract q e)]) ∧ Below (w.alloc o).heap.size (w.alloc o) w') :=
    Lib.hid (fun o => readName_any (h.grow ((Below.refl _ _).alloc (Nat.le_refl _) o)) q e hqe he hn hend)
  clear ha hc h hn hend
  go_enter Tryz.func134, Tryz.ntmps134
  go_wp2_with (first | (go_at_call 154; refine (HP.out _).mono ?_; rintro r w' ⟨rfl, rfl⟩) | (go_at_call 156; refine (HR.out _).mono ?_; rintro r w' ⟨rfl, rfl⟩) | (go_at_call 157; refine (HN.out _).mono ?_; rintro r w' ⟨rfl, hb⟩; obtain ⟨⟨c0, c1, c2, c3⟩, ⟨z0, z1, z2, z3⟩, hz, hB⟩ := kept4 hb; clear hb))
  obtain ⟨q0, q1, q2, q3⟩ := set4 c0 c1 c2 c3 (.int .i64 15) (.int .i64 q) (.int .i64 e) (.string (s.extract q e))
  refine bodyPost_ret (v := .tuple #[.agg #[.int .i64 15, .int .i64 q, .int .i64 e, .string (s.extract q e)], .nilIface]) (by simp [results, Tryz.results134, go_sem, q0, q1, q2, q3]) rfl ⟨rfl, below_set4 hB (Nat.le_refl _) _ _ _ _⟩

set_option maxHeartbeats 2000000 in
set_option maxRecDepth 100000 in
theorem tok_n73 (s : ByteArray) (p q e : Nat) (ha : Ahead s p q) (hc : cd s q = 73) (hqe : q < e) (he : e ≤ s.size) (hn : ∀ j : Nat, q < j → j < e → nameChar (cd s j)) (hend : e < s.size → nameEnd (cd s e)) : Tok s p 15 q e (s.extract q e) := by
  intro w sb b cap h
  have hlt := h.lts
  have hhd := h.head
  have hq := ha.size
  have hs := h.size
  have HP : Hid (∀ o, Calls Tryz.prog 154 #[.slice (some ⟨b, 0, none⟩) s.size cap, .int .i64 (p : Int)] (w.alloc o) fun e w' => e = .returned (.tuple #[.int .i64 (q : Int), .int .i64 (q : Int)]) ∧ (w.alloc o) = w') :=
    Lib.hid (fun o => pos_at ha (by rw [hc]; refine ⟨?_, ?_, ?_, ?_, ?_, ?_, ?_⟩ <;> decide) (h.grow ((Below.refl _ _).alloc (Nat.le_refl _) o)))
  have HR : Hid (∀ o, Calls Tryz.prog 156 #[.slice (some ⟨b, 0, none⟩) s.size cap, .int .i64 (q : Int)] (w.alloc o) fun e w' => e = .returned (.tuple #[.int .i32 73, .int .i64 1]) ∧ (w.alloc o) = w') :=
    Lib.hid (fun o => by have c := runeAt_any (h.grow ((Below.refl _ _).alloc (Nat.le_refl _) o)) q (by omega); rw [hc, wd_in (by omega)] at c; exact c)
  have HN : Hid (∀ o, Calls Tryz.prog 157 #[.pointer (some ⟨sb, 0, none⟩), .int .i64 (q : Int), .int .i64 (q : Int)] (w.alloc o) fun r w' => r = .returned (.agg #[.int .i64 15, .int .i64 q, .int .i64 e, .string (s.extract q e)]) ∧ Below (w.alloc o).heap.size (w.alloc o) w') :=
    Lib.hid (fun o => readName_any (h.grow ((Below.refl _ _).alloc (Nat.le_refl _) o)) q e hqe he hn hend)
  clear ha hc h hn hend
  go_enter Tryz.func134, Tryz.ntmps134
  go_wp2_with (first | (go_at_call 154; refine (HP.out _).mono ?_; rintro r w' ⟨rfl, rfl⟩) | (go_at_call 156; refine (HR.out _).mono ?_; rintro r w' ⟨rfl, rfl⟩) | (go_at_call 157; refine (HN.out _).mono ?_; rintro r w' ⟨rfl, hb⟩; obtain ⟨⟨c0, c1, c2, c3⟩, ⟨z0, z1, z2, z3⟩, hz, hB⟩ := kept4 hb; clear hb))
  obtain ⟨q0, q1, q2, q3⟩ := set4 c0 c1 c2 c3 (.int .i64 15) (.int .i64 q) (.int .i64 e) (.string (s.extract q e))
  refine bodyPost_ret (v := .tuple #[.agg #[.int .i64 15, .int .i64 q, .int .i64 e, .string (s.extract q e)], .nilIface]) (by simp [results, Tryz.results134, go_sem, q0, q1, q2, q3]) rfl ⟨rfl, below_set4 hB (Nat.le_refl _) _ _ _ _⟩

set_option maxHeartbeats 2000000 in
set_option maxRecDepth 100000 in
theorem tok_n74 (s : ByteArray) (p q e : Nat) (ha : Ahead s p q) (hc : cd s q = 74) (hqe : q < e) (he : e ≤ s.size) (hn : ∀ j : Nat, q < j → j < e → nameChar (cd s j)) (hend : e < s.size → nameEnd (cd s e)) : Tok s p 15 q e (s.extract q e) := by
  intro w sb b cap h
  have hlt := h.lts
  have hhd := h.head
  have hq := ha.size
  have hs := h.size
  have HP : Hid (∀ o, Calls Tryz.prog 154 #[.slice (some ⟨b, 0, none⟩) s.size cap, .int .i64 (p : Int)] (w.alloc o) fun e w' => e = .returned (.tuple #[.int .i64 (q : Int), .int .i64 (q : Int)]) ∧ (w.alloc o) = w') :=
    Lib.hid (fun o => pos_at ha (by rw [hc]; refine ⟨?_, ?_, ?_, ?_, ?_, ?_, ?_⟩ <;> decide) (h.grow ((Below.refl _ _).alloc (Nat.le_refl _) o)))
  have HR : Hid (∀ o, Calls Tryz.prog 156 #[.slice (some ⟨b, 0, none⟩) s.size cap, .int .i64 (q : Int)] (w.alloc o) fun e w' => e = .returned (.tuple #[.int .i32 74, .int .i64 1]) ∧ (w.alloc o) = w') :=
    Lib.hid (fun o => by have c := runeAt_any (h.grow ((Below.refl _ _).alloc (Nat.le_refl _) o)) q (by omega); rw [hc, wd_in (by omega)] at c; exact c)
  have HN : Hid (∀ o, Calls Tryz.prog 157 #[.pointer (some ⟨sb, 0, none⟩), .int .i64 (q : Int), .int .i64 (q : Int)] (w.alloc o) fun r w' => r = .returned (.agg #[.int .i64 15, .int .i64 q, .int .i64 e, .string (s.extract q e)]) ∧ Below (w.alloc o).heap.size (w.alloc o) w') :=
    Lib.hid (fun o => readName_any (h.grow ((Below.refl _ _).alloc (Nat.le_refl _) o)) q e hqe he hn hend)
  clear ha hc h hn hend
  go_enter Tryz.func134, Tryz.ntmps134
  go_wp2_with (first | (go_at_call 154; refine (HP.out _).mono ?_; rintro r w' ⟨rfl, rfl⟩) | (go_at_call 156; refine (HR.out _).mono ?_; rintro r w' ⟨rfl, rfl⟩) | (go_at_call 157; refine (HN.out _).mono ?_; rintro r w' ⟨rfl, hb⟩; obtain ⟨⟨c0, c1, c2, c3⟩, ⟨z0, z1, z2, z3⟩, hz, hB⟩ := kept4 hb; clear hb))
  obtain ⟨q0, q1, q2, q3⟩ := set4 c0 c1 c2 c3 (.int .i64 15) (.int .i64 q) (.int .i64 e) (.string (s.extract q e))
  refine bodyPost_ret (v := .tuple #[.agg #[.int .i64 15, .int .i64 q, .int .i64 e, .string (s.extract q e)], .nilIface]) (by simp [results, Tryz.results134, go_sem, q0, q1, q2, q3]) rfl ⟨rfl, below_set4 hB (Nat.le_refl _) _ _ _ _⟩

set_option maxHeartbeats 2000000 in
set_option maxRecDepth 100000 in
theorem tok_n75 (s : ByteArray) (p q e : Nat) (ha : Ahead s p q) (hc : cd s q = 75) (hqe : q < e) (he : e ≤ s.size) (hn : ∀ j : Nat, q < j → j < e → nameChar (cd s j)) (hend : e < s.size → nameEnd (cd s e)) : Tok s p 15 q e (s.extract q e) := by
  intro w sb b cap h
  have hlt := h.lts
  have hhd := h.head
  have hq := ha.size
  have hs := h.size
  have HP : Hid (∀ o, Calls Tryz.prog 154 #[.slice (some ⟨b, 0, none⟩) s.size cap, .int .i64 (p : Int)] (w.alloc o) fun e w' => e = .returned (.tuple #[.int .i64 (q : Int), .int .i64 (q : Int)]) ∧ (w.alloc o) = w') :=
    Lib.hid (fun o => pos_at ha (by rw [hc]; refine ⟨?_, ?_, ?_, ?_, ?_, ?_, ?_⟩ <;> decide) (h.grow ((Below.refl _ _).alloc (Nat.le_refl _) o)))
  have HR : Hid (∀ o, Calls Tryz.prog 156 #[.slice (some ⟨b, 0, none⟩) s.size cap, .int .i64 (q : Int)] (w.alloc o) fun e w' => e = .returned (.tuple #[.int .i32 75, .int .i64 1]) ∧ (w.alloc o) = w') :=
    Lib.hid (fun o => by have c := runeAt_any (h.grow ((Below.refl _ _).alloc (Nat.le_refl _) o)) q (by omega); rw [hc, wd_in (by omega)] at c; exact c)
  have HN : Hid (∀ o, Calls Tryz.prog 157 #[.pointer (some ⟨sb, 0, none⟩), .int .i64 (q : Int), .int .i64 (q : Int)] (w.alloc o) fun r w' => r = .returned (.agg #[.int .i64 15, .int .i64 q, .int .i64 e, .string (s.extract q e)]) ∧ Below (w.alloc o).heap.size (w.alloc o) w') :=
    Lib.hid (fun o => readName_any (h.grow ((Below.refl _ _).alloc (Nat.le_refl _) o)) q e hqe he hn hend)
  clear ha hc h hn hend
  go_enter Tryz.func134, Tryz.ntmps134
  go_wp2_with (first | (go_at_call 154; refine (HP.out _).mono ?_; rintro r w' ⟨rfl, rfl⟩) | (go_at_call 156; refine (HR.out _).mono ?_; rintro r w' ⟨rfl, rfl⟩) | (go_at_call 157; refine (HN.out _).mono ?_; rintro r w' ⟨rfl, hb⟩; obtain ⟨⟨c0, c1, c2, c3⟩, ⟨z0, z1, z2, z3⟩, hz, hB⟩ := kept4 hb; clear hb))
  obtain ⟨q0, q1, q2, q3⟩ := set4 c0 c1 c2 c3 (.int .i64 15) (.int .i64 q) (.int .i64 e) (.string (s.extract q e))
  refine bodyPost_ret (v := .tuple #[.agg #[.int .i64 15, .int .i64 q, .int .i64 e, .string (s.extract q e)], .nilIface]) (by simp [results, Tryz.results134, go_sem, q0, q1, q2, q3]) rfl ⟨rfl, below_set4 hB (Nat.le_refl _) _ _ _ _⟩

set_option maxHeartbeats 2000000 in
set_option maxRecDepth 100000 in
theorem tok_n76 (s : ByteArray) (p q e : Nat) (ha : Ahead s p q) (hc : cd s q = 76) (hqe : q < e) (he : e ≤ s.size) (hn : ∀ j : Nat, q < j → j < e → nameChar (cd s j)) (hend : e < s.size → nameEnd (cd s e)) : Tok s p 15 q e (s.extract q e) := by
  intro w sb b cap h
  have hlt := h.lts
  have hhd := h.head
  have hq := ha.size
  have hs := h.size
  have HP : Hid (∀ o, Calls Tryz.prog 154 #[.slice (some ⟨b, 0, none⟩) s.size cap, .int .i64 (p : Int)] (w.alloc o) fun e w' => e = .returned (.tuple #[.int .i64 (q : Int), .int .i64 (q : Int)]) ∧ (w.alloc o) = w') :=
    Lib.hid (fun o => pos_at ha (by rw [hc]; refine ⟨?_, ?_, ?_, ?_, ?_, ?_, ?_⟩ <;> decide) (h.grow ((Below.refl _ _).alloc (Nat.le_refl _) o)))
  have HR : Hid (∀ o, Calls Tryz.prog 156 #[.slice (some ⟨b, 0, none⟩) s.size cap, .int .i64 (q : Int)] (w.alloc o) fun e w' => e = .returned (.tuple #[.int .i32 76, .int .i64 1]) ∧ (w.alloc o) = w') :=
    Lib.hid (fun o => by have c := runeAt_any (h.grow ((Below.refl _ _).alloc (Nat.le_refl _) o)) q (by omega); rw [hc, wd_in (by omega)] at c; exact c)
  have HN : Hid (∀ o, Calls Tryz.prog 157 #[.pointer (some ⟨sb, 0, none⟩), .int .i64 (q : Int), .int .i64 (q : Int)] (w.alloc o) fun r w' => r = .returned (.agg #[.int .i64 15, .int .i64 q, .int .i64 e, .string (s.extract q e)]) ∧ Below (w.alloc o).heap.size (w.alloc o) w') :=
    Lib.hid (fun o => readName_any (h.grow ((Below.refl _ _).alloc (Nat.le_refl _) o)) q e hqe he hn hend)
  clear ha hc h hn hend
  go_enter Tryz.func134, Tryz.ntmps134
  go_wp2_with (first | (go_at_call 154; refine (HP.out _).mono ?_; rintro r w' ⟨rfl, rfl⟩) | (go_at_call 156; refine (HR.out _).mono ?_; rintro r w' ⟨rfl, rfl⟩) | (go_at_call 157; refine (HN.out _).mono ?_; rintro r w' ⟨rfl, hb⟩; obtain ⟨⟨c0, c1, c2, c3⟩, ⟨z0, z1, z2, z3⟩, hz, hB⟩ := kept4 hb; clear hb))
  obtain ⟨q0, q1, q2, q3⟩ := set4 c0 c1 c2 c3 (.int .i64 15) (.int .i64 q) (.int .i64 e) (.string (s.extract q e))
  refine bodyPost_ret (v := .tuple #[.agg #[.int .i64 15, .int .i64 q, .int .i64 e, .string (s.extract q e)], .nilIface]) (by simp [results, Tryz.results134, go_sem, q0, q1, q2, q3]) rfl ⟨rfl, below_set4 hB (Nat.le_refl _) _ _ _ _⟩

set_option maxHeartbeats 2000000 in
set_option maxRecDepth 100000 in
theorem tok_n77 (s : ByteArray) (p q e : Nat) (ha : Ahead s p q) (hc : cd s q = 77) (hqe : q < e) (he : e ≤ s.size) (hn : ∀ j : Nat, q < j → j < e → nameChar (cd s j)) (hend : e < s.size → nameEnd (cd s e)) : Tok s p 15 q e (s.extract q e) := by
  intro w sb b cap h
  have hlt := h.lts
  have hhd := h.head
  have hq := ha.size
  have hs := h.size
  have HP : Hid (∀ o, Calls Tryz.prog 154 #[.slice (some ⟨b, 0, none⟩) s.size cap, .int .i64 (p : Int)] (w.alloc o) fun e w' => e = .returned (.tuple #[.int .i64 (q : Int), .int .i64 (q : Int)]) ∧ (w.alloc o) = w') :=
    Lib.hid (fun o => pos_at ha (by rw [hc]; refine ⟨?_, ?_, ?_, ?_, ?_, ?_, ?_⟩ <;> decide) (h.grow ((Below.refl _ _).alloc (Nat.le_refl _) o)))
  have HR : Hid (∀ o, Calls Tryz.prog 156 #[.slice (some ⟨b, 0, none⟩) s.size cap, .int .i64 (q : Int)] (w.alloc o) fun e w' => e = .returned (.tuple #[.int .i32 77, .int .i64 1]) ∧ (w.alloc o) = w') :=
    Lib.hid (fun o => by have c := runeAt_any (h.grow ((Below.refl _ _).alloc (Nat.le_refl _) o)) q (by omega); rw [hc, wd_in (by omega)] at c; exact c)
  have HN : Hid (∀ o, Calls Tryz.prog 157 #[.pointer (some ⟨sb, 0, none⟩), .int .i64 (q : Int), .int .i64 (q : Int)] (w.alloc o) fun r w' => r = .returned (.agg #[.int .i64 15, .int .i64 q, .int .i64 e, .string (s.extract q e)]) ∧ Below (w.alloc o).heap.size (w.alloc o) w') :=
    Lib.hid (fun o => readName_any (h.grow ((Below.refl _ _).alloc (Nat.le_refl _) o)) q e hqe he hn hend)
  clear ha hc h hn hend
  go_enter Tryz.func134, Tryz.ntmps134
  go_wp2_with (first | (go_at_call 154; refine (HP.out _).mono ?_; rintro r w' ⟨rfl, rfl⟩) | (go_at_call 156; refine (HR.out _).mono ?_; rintro r w' ⟨rfl, rfl⟩) | (go_at_call 157; refine (HN.out _).mono ?_; rintro r w' ⟨rfl, hb⟩; obtain ⟨⟨c0, c1, c2, c3⟩, ⟨z0, z1, z2, z3⟩, hz, hB⟩ := kept4 hb; clear hb))
  obtain ⟨q0, q1, q2, q3⟩ := set4 c0 c1 c2 c3 (.int .i64 15) (.int .i64 q) (.int .i64 e) (.string (s.extract q e))
  refine bodyPost_ret (v := .tuple #[.agg #[.int .i64 15, .int .i64 q, .int .i64 e, .string (s.extract q e)], .nilIface]) (by simp [results, Tryz.results134, go_sem, q0, q1, q2, q3]) rfl ⟨rfl, below_set4 hB (Nat.le_refl _) _ _ _ _⟩

set_option maxHeartbeats 2000000 in
set_option maxRecDepth 100000 in
theorem tok_n78 (s : ByteArray) (p q e : Nat) (ha : Ahead s p q) (hc : cd s q = 78) (hqe : q < e) (he : e ≤ s.size) (hn : ∀ j : Nat, q < j → j < e → nameChar (cd s j)) (hend : e < s.size → nameEnd (cd s e)) : Tok s p 15 q e (s.extract q e) := by
  intro w sb b cap h
  have hlt := h.lts
  have hhd := h.head
  have hq := ha.size
  have hs := h.size
  have HP : Hid (∀ o, Calls Tryz.prog 154 #[.slice (some ⟨b, 0, none⟩) s.size cap, .int .i64 (p : Int)] (w.alloc o) fun e w' => e = .returned (.tuple #[.int .i64 (q : Int), .int .i64 (q : Int)]) ∧ (w.alloc o) = w') :=
    Lib.hid (fun o => pos_at ha (by rw [hc]; refine ⟨?_, ?_, ?_, ?_, ?_, ?_, ?_⟩ <;> decide) (h.grow ((Below.refl _ _).alloc (Nat.le_refl _) o)))
  have HR : Hid (∀ o, Calls Tryz.prog 156 #[.slice (some ⟨b, 0, none⟩) s.size cap, .int .i64 (q : Int)] (w.alloc o) fun e w' => e = .returned (.tuple #[.int .i32 78, .int .i64 1]) ∧ (w.alloc o) = w') :=
    Lib.hid (fun o => by have c := runeAt_any (h.grow ((Below.refl _ _).alloc (Nat.le_refl _) o)) q (by omega); rw [hc, wd_in (by omega)] at c; exact c)
  have HN : Hid (∀ o, Calls Tryz.prog 157 #[.pointer (some ⟨sb, 0, none⟩), .int .i64 (q : Int), .int .i64 (q : Int)] (w.alloc o) fun r w' => r = .returned (.agg #[.int .i64 15, .int .i64 q, .int .i64 e, .string (s.extract q e)]) ∧ Below (w.alloc o).heap.size (w.alloc o) w') :=
    Lib.hid (fun o => readName_any (h.grow ((Below.refl _ _).alloc (Nat.le_refl _) o)) q e hqe he hn hend)
  clear ha hc h hn hend
  go_enter Tryz.func134, Tryz.ntmps134
  go_wp2_with (first | (go_at_call 154; refine (HP.out _).mono ?_; rintro r w' ⟨rfl, rfl⟩) | (go_at_call 156; refine (HR.out _).mono ?_; rintro r w' ⟨rfl, rfl⟩) | (go_at_call 157; refine (HN.out _).mono ?_; rintro r w' ⟨rfl, hb⟩; obtain ⟨⟨c0, c1, c2, c3⟩, ⟨z0, z1, z2, z3⟩, hz, hB⟩ := kept4 hb; clear hb))
  obtain ⟨q0, q1, q2, q3⟩ := set4 c0 c1 c2 c3 (.int .i64 15) (.int .i64 q) (.int .i64 e) (.string (s.extract q e))
  refine bodyPost_ret (v := .tuple #[.agg #[.int .i64 15, .int .i64 q, .int .i64 e, .string (s.extract q e)], .nilIface]) (by simp [results, Tryz.results134, go_sem, q0, q1, q2, q3]) rfl ⟨rfl, below_set4 hB (Nat.le_refl _) _ _ _ _⟩

set_option maxHeartbeats 2000000 in
set_option maxRecDepth 100000 in
theorem tok_n79 (s : ByteArray) (p q e : Nat) (ha : Ahead s p q) (hc : cd s q = 79) (hqe : q < e) (he : e ≤ s.size) (hn : ∀ j : Nat, q < j → j < e → nameChar (cd s j)) (hend : e < s.size → nameEnd (cd s e)) : Tok s p 15 q e (s.extract q e) := by
  intro w sb b cap h
  have hlt := h.lts
  have hhd := h.head
  have hq := ha.size
  have hs := h.size
  have HP : Hid (∀ o, Calls Tryz.prog 154 #[.slice (some ⟨b, 0, none⟩) s.size cap, .int .i64 (p : Int)] (w.alloc o) fun e w' => e = .returned (.tuple #[.int .i64 (q : Int), .int .i64 (q : Int)]) ∧ (w.alloc o) = w') :=
    Lib.hid (fun o => pos_at ha (by rw [hc]; refine ⟨?_, ?_, ?_, ?_, ?_, ?_, ?_⟩ <;> decide) (h.grow ((Below.refl _ _).alloc (Nat.le_refl _) o)))
  have HR : Hid (∀ o, Calls Tryz.prog 156 #[.slice (some ⟨b, 0, none⟩) s.size cap, .int .i64 (q : Int)] (w.alloc o) fun e w' => e = .returned (.tuple #[.int .i32 79, .int .i64 1]) ∧ (w.alloc o) = w') :=
    Lib.hid (fun o => by have c := runeAt_any (h.grow ((Below.refl _ _).alloc (Nat.le_refl _) o)) q (by omega); rw [hc, wd_in (by omega)] at c; exact c)
  have HN : Hid (∀ o, Calls Tryz.prog 157 #[.pointer (some ⟨sb, 0, none⟩), .int .i64 (q : Int), .int .i64 (q : Int)] (w.alloc o) fun r w' => r = .returned (.agg #[.int .i64 15, .int .i64 q, .int .i64 e, .string (s.extract q e)]) ∧ Below (w.alloc o).heap.size (w.alloc o) w') :=
    Lib.hid (fun o => readName_any (h.grow ((Below.refl _ _).alloc (Nat.le_refl _) o)) q e hqe he hn hend)
  clear ha hc h hn hend
  go_enter Tryz.func134, Tryz.ntmps134
  go_wp2_with (first | (go_at_call 154; refine (HP.out _).mono ?_; rintro r w' ⟨rfl, rfl⟩) | (go_at_call 156; refine (HR.out _).mono ?_; rintro r w' ⟨rfl, rfl⟩) | (go_at_call 157; refine (HN.out _).mono ?_; rintro r w' ⟨rfl, hb⟩; obtain ⟨⟨c0, c1, c2, c3⟩, ⟨z0, z1, z2, z3⟩, hz, hB⟩ := kept4 hb; clear hb))
  obtain ⟨q0, q1, q2, q3⟩ := set4 c0 c1 c2 c3 (.int .i64 15) (.int .i64 q) (.int .i64 e) (.string (s.extract q e))
  refine bodyPost_ret (v := .tuple #[.agg #[.int .i64 15, .int .i64 q, .int .i64 e, .string (s.extract q e)], .nilIface]) (by simp [results, Tryz.results134, go_sem, q0, q1, q2, q3]) rfl ⟨rfl, below_set4 hB (Nat.le_refl _) _ _ _ _⟩

set_option maxHeartbeats 2000000 in
set_option maxRecDepth 100000 in
theorem tok_n80 (s : ByteArray) (p q e : Nat) (ha : Ahead s p q) (hc : cd s q = 80) (hqe : q < e) (he : e ≤ s.size) (hn : ∀ j : Nat, q < j → j < e → nameChar (cd s j)) (hend : e < s.size → nameEnd (cd s e)) : Tok s p 15 q e (s.extract q e) := by
  intro w sb b cap h
  have hlt := h.lts
  have hhd := h.head
  have hq := ha.size
  have hs := h.size
  have HP : Hid (∀ o, Calls Tryz.prog 154 #[.slice (some ⟨b, 0, none⟩) s.size cap, .int .i64 (p : Int)] (w.alloc o) fun e w' => e = .returned (.tuple #[.int .i64 (q : Int), .int .i64 (q : Int)]) ∧ (w.alloc o) = w') :=
    Lib.hid (fun o => pos_at ha (by rw [hc]; refine ⟨?_, ?_, ?_, ?_, ?_, ?_, ?_⟩ <;> decide) (h.grow ((Below.refl _ _).alloc (Nat.le_refl _) o)))
  have HR : Hid (∀ o, Calls Tryz.prog 156 #[.slice (some ⟨b, 0, none⟩) s.size cap, .int .i64 (q : Int)] (w.alloc o) fun e w' => e = .returned (.tuple #[.int .i32 80, .int .i64 1]) ∧ (w.alloc o) = w') :=
    Lib.hid (fun o => by have c := runeAt_any (h.grow ((Below.refl _ _).alloc (Nat.le_refl _) o)) q (by omega); rw [hc, wd_in (by omega)] at c; exact c)
  have HN : Hid (∀ o, Calls Tryz.prog 157 #[.pointer (some ⟨sb, 0, none⟩), .int .i64 (q : Int), .int .i64 (q : Int)] (w.alloc o) fun r w' => r = .returned (.agg #[.int .i64 15, .int .i64 q, .int .i64 e, .string (s.extract q e)]) ∧ Below (w.alloc o).heap.size (w.alloc o) w') :=
    Lib.hid (fun o => readName_any (h.grow ((Below.refl _ _).alloc (Nat.le_refl _) o)) q e hqe he hn hend)
  clear ha hc h hn hend
  go_enter Tryz.func134, Tryz.ntmps134
  go_wp2_with (first | (go_at_call 154; refine (HP.out _).mono ?_; rintro r w' ⟨rfl, rfl⟩) | (go_at_call 156; refine (HR.out _).mono ?_; rintro r w' ⟨rfl, rfl⟩) | (go_at_call 157; refine (HN.out _).mono ?_; rintro r w' ⟨rfl, hb⟩; obtain ⟨⟨c0, c1, c2, c3⟩, ⟨z0, z1, z2, z3⟩, hz, hB⟩ := kept4 hb; clear hb))
  obtain ⟨q0, q1, q2, q3⟩ := set4 c0 c1 c2 c3 (.int .i64 15) (.int .i64 q) (.int .i64 e) (.string (s.extract q e))
  refine bodyPost_ret (v := .tuple #[.agg #[.int .i64 15, .int .i64 q, .int .i64 e, .string (s.extract q e)], .nilIface]) (by simp [results, Tryz.results134, go_sem, q0, q1, q2, q3]) rfl ⟨rfl, below_set4 hB (Nat.le_refl _) _ _ _ _⟩

set_option maxHeartbeats 2000000 in
set_option maxRecDepth 100000 in
theorem tok_n81 (s : ByteArray) (p q e : Nat) (ha : Ahead s p q) (hc : cd s q = 81) (hqe : q < e) (he : e ≤ s.size) (hn : ∀ j : Nat, q < j → j < e → nameChar (cd s j)) (hend : e < s.size → nameEnd (cd s e)) : Tok s p 15 q e (s.extract q e) := by
  intro w sb b cap h
  have hlt := h.lts
  have hhd := h.head
  have hq := ha.size
  have hs := h.size
  have HP : Hid (∀ o, Calls Tryz.prog 154 #[.slice (some ⟨b, 0, none⟩) s.size cap, .int .i64 (p : Int)] (w.alloc o) fun e w' => e = .returned (.tuple #[.int .i64 (q : Int), .int .i64 (q : Int)]) ∧ (w.alloc o) = w') :=
    Lib.hid (fun o => pos_at ha (by rw [hc]; refine ⟨?_, ?_, ?_, ?_, ?_, ?_, ?_⟩ <;> decide) (h.grow ((Below.refl _ _).alloc (Nat.le_refl _) o)))
  have HR : Hid (∀ o, Calls Tryz.prog 156 #[.slice (some ⟨b, 0, none⟩) s.size cap, .int .i64 (q : Int)] (w.alloc o) fun e w' => e = .returned (.tuple #[.int .i32 81, .int .i64 1]) ∧ (w.alloc o) = w') :=
    Lib.hid (fun o => by have c := runeAt_any (h.grow ((Below.refl _ _).alloc (Nat.le_refl _) o)) q (by omega); rw [hc, wd_in (by omega)] at c; exact c)
  have HN : Hid (∀ o, Calls Tryz.prog 157 #[.pointer (some ⟨sb, 0, none⟩), .int .i64 (q : Int), .int .i64 (q : Int)] (w.alloc o) fun r w' => r = .returned (.agg #[.int .i64 15, .int .i64 q, .int .i64 e, .string (s.extract q e)]) ∧ Below (w.alloc o).heap.size (w.alloc o) w') :=
    Lib.hid (fun o => readName_any (h.grow ((Below.refl _ _).alloc (Nat.le_refl _) o)) q e hqe he hn hend)
  clear ha hc h hn hend
  go_enter Tryz.func134, Tryz.ntmps134
  go_wp2_with (first | (go_at_call 154; refine (HP.out _).mono ?_; rintro r w' ⟨rfl, rfl⟩) | (go_at_call 156; refine (HR.out _).mono ?_; rintro r w' ⟨rfl, rfl⟩) | (go_at_call 157; refine (HN.out _).mono ?_; rintro r w' ⟨rfl, hb⟩; obtain ⟨⟨c0, c1, c2, c3⟩, ⟨z0, z1, z2, z3⟩, hz, hB⟩ := kept4 hb; clear hb))
  obtain ⟨q0, q1, q2, q3⟩ := set4 c0 c1 c2 c3 (.int .i64 15) (.int .i64 q) (.int .i64 e) (.string (s.extract q e))
  refine bodyPost_ret (v := .tuple #[.agg #[.int .i64 15, .int .i64 q, .int .i64 e, .string (s.extract q e)], .nilIface]) (by simp [results, Tryz.results134, go_sem, q0, q1, q2, q3]) rfl ⟨rfl, below_set4 hB (Nat.le_refl _) _ _ _ _⟩

set_option maxHeartbeats 2000000 in
set_option maxRecDepth 100000 in
theorem tok_n82 (s : ByteArray) (p q e : Nat) (ha : Ahead s p q) (hc : cd s q = 82) (hqe : q < e) (he : e ≤ s.size) (hn : ∀ j : Nat, q < j → j < e → nameChar (cd s j)) (hend : e < s.size → nameEnd (cd s e)) : Tok s p 15 q e (s.extract q e) := by
  intro w sb b cap h
  have hlt := h.lts
  have hhd := h.head
  have hq := ha.size
  have hs := h.size
  have HP : Hid (∀ o, Calls Tryz.prog 154 #[.slice (some ⟨b, 0, none⟩) s.size cap, .int .i64 (p : Int)] (w.alloc o) fun e w' => e = .returned (.tuple #[.int .i64 (q : Int), .int .i64 (q : Int)]) ∧ (w.alloc o) = w') :=
    Lib.hid (fun o => pos_at ha (by rw [hc]; refine ⟨?_, ?_, ?_, ?_, ?_, ?_, ?_⟩ <;> decide) (h.grow ((Below.refl _ _).alloc (Nat.le_refl _) o)))
  have HR : Hid (∀ o, Calls Tryz.prog 156 #[.slice (some ⟨b, 0, none⟩) s.size cap, .int .i64 (q : Int)] (w.alloc o) fun e w' => e = .returned (.tuple #[.int .i32 82, .int .i64 1]) ∧ (w.alloc o) = w') :=
    Lib.hid (fun o => by have c := runeAt_any (h.grow ((Below.refl _ _).alloc (Nat.le_refl _) o)) q (by omega); rw [hc, wd_in (by omega)] at c; exact c)
  have HN : Hid (∀ o, Calls Tryz.prog 157 #[.pointer (some ⟨sb, 0, none⟩), .int .i64 (q : Int), .int .i64 (q : Int)] (w.alloc o) fun r w' => r = .returned (.agg #[.int .i64 15, .int .i64 q, .int .i64 e, .string (s.extract q e)]) ∧ Below (w.alloc o).heap.size (w.alloc o) w') :=
    Lib.hid (fun o => readName_any (h.grow ((Below.refl _ _).alloc (Nat.le_refl _) o)) q e hqe he hn hend)
  clear ha hc h hn hend
  go_enter Tryz.func134, Tryz.ntmps134
  go_wp2_with (first | (go_at_call 154; refine (HP.out _).mono ?_; rintro r w' ⟨rfl, rfl⟩) | (go_at_call 156; refine (HR.out _).mono ?_; rintro r w' ⟨rfl, rfl⟩) | (go_at_call 157; refine (HN.out _).mono ?_; rintro r w' ⟨rfl, hb⟩; obtain ⟨⟨c0, c1, c2, c3⟩, ⟨z0, z1, z2, z3⟩, hz, hB⟩ := kept4 hb; clear hb))
  obtain ⟨q0, q1, q2, q3⟩ := set4 c0 c1 c2 c3 (.int .i64 15) (.int .i64 q) (.int .i64 e) (.string (s.extract q e))
  refine bodyPost_ret (v := .tuple #[.agg #[.int .i64 15, .int .i64 q, .int .i64 e, .string (s.extract q e)], .nilIface]) (by simp [results, Tryz.results134, go_sem, q0, q1, q2, q3]) rfl ⟨rfl, below_set4 hB (Nat.le_refl _) _ _ _ _⟩

end Go.Proofs.YtbjfahhfcdnkaaaGreatDoor

/-! A name is a token (by its first letter). -/
namespace Go.Proofs.YtbjfahhfcdnkaaaGreatDoor
open Go.RowKit Go.Proofs.YtbjfahhfcdnkaaaGreatDoorW.PrintWords Go.Proofs.YtbjfahhfcdnkaaaGreatDoorW.PrintMore
set_option maxHeartbeats 2000000 in
set_option maxRecDepth 100000 in
theorem tok_n83 (s : ByteArray) (p q e : Nat) (ha : Ahead s p q) (hc : cd s q = 83) (hqe : q < e) (he : e ≤ s.size) (hn : ∀ j : Nat, q < j → j < e → nameChar (cd s j)) (hend : e < s.size → nameEnd (cd s e)) : Tok s p 15 q e (s.extract q e) := by
  intro w sb b cap h
  have hlt := h.lts
  have hhd := h.head
  have hq := ha.size
  have hs := h.size
  have HP : Hid (∀ o, Calls Tryz.prog 154 #[.slice (some ⟨b, 0, none⟩) s.size cap, .int .i64 (p : Int)] (w.alloc o) fun e w' => e = .returned (.tuple #[.int .i64 (q : Int), .int .i64 (q : Int)]) ∧ (w.alloc o) = w') :=
    Lib.hid (fun o => pos_at ha (by rw [hc]; refine ⟨?_, ?_, ?_, ?_, ?_, ?_, ?_⟩ <;> decide) (h.grow ((Below.refl _ _).alloc (Nat.le_refl _) o)))
  have HR : Hid (∀ o, Calls Tryz.prog 156 #[.slice (some ⟨b, 0, none⟩) s.size cap, .int .i64 (q : Int)] (w.alloc o) fun e w' => e = .returned (.tuple #[.int .i32 83, .int .i64 1]) ∧ (w.alloc o) = w') :=
    Lib.hid (fun o => by have c := runeAt_any (h.grow ((Below.refl _ _).alloc (Nat.le_refl _) o)) q (by omega); rw [hc, wd_in (by omega)] at c; exact c)
  have HN : Hid (∀ o, Calls Tryz.prog 157 #[.pointer (some ⟨sb, 0, none⟩), .int .i64 (q : Int), .int .i64 (q : Int)] (w.alloc o) fun r w' => r = .returned (.agg #[.int .i64 15, .int .i64 q, .int .i64 e, .string (s.extract q e)]) ∧ Below (w.alloc o).heap.size (w.alloc o) w') :=
    Lib.hid (fun o => readName_any (h.grow ((Below.refl _ _).alloc (Nat.le_refl _) o)) q e hqe he hn hend)
  clear ha hc h hn hend
  go_enter Tryz.func134, Tryz.ntmps134
  go_wp2_with (first | (go_at_call 154; refine (HP.out _).mono ?_; rintro r w' ⟨rfl, rfl⟩) | (go_at_call 156; refine (HR.out _).mono ?_; rintro r w' ⟨rfl, rfl⟩) | (go_at_call 157; refine (HN.out _).mono ?_; rintro r w' ⟨rfl, hb⟩; obtain ⟨⟨c0, c1, c2, c3⟩, ⟨z0, z1, z2, z3⟩, hz, hB⟩ := kept4 hb; clear hb))
  obtain ⟨q0, q1, q2, q3⟩ := set4 c0 c1 c2 c3 (.int .i64 15) (.int .i64 q) (.int .i64 e) (.string (s.extract q e))
  refine bodyPost_ret (v := .tuple #[.agg #[.int .i64 15, .int .i64 q, .int .i64 e, .string (s.extract q e)], .nilIface]) (by simp [results, Tryz.results134, go_sem, q0, q1, q2, q3]) rfl ⟨rfl, below_set4 hB (Nat.le_refl _) _ _ _ _⟩

set_option maxHeartbeats 2000000 in
set_option maxRecDepth 100000 in
theorem tok_n84 (s : ByteArray) (p q e : Nat) (ha : Ahead s p q) (hc : cd s q = 84) (hqe : q < e) (he : e ≤ s.size) (hn : ∀ j : Nat, q < j → j < e → nameChar (cd s j)) (hend : e < s.size → nameEnd (cd s e)) : Tok s p 15 q e (s.extract q e) := by
  intro w sb b cap h
  have hlt := h.lts
  have hhd := h.head
  have hq := ha.size
  have hs := h.size
  have HP : Hid (∀ o, Calls Tryz.prog 154 #[.slice (some ⟨b, 0, none⟩) s.size cap, .int .i64 (p : Int)] (w.alloc o) fun e w' => e = .returned (.tuple #[.int .i64 (q : Int), .int .i64 (q : Int)]) ∧ (w.alloc o) = w') :=
    Lib.hid (fun o => pos_at ha (by rw [hc]; refine ⟨?_, ?_, ?_, ?_, ?_, ?_, ?_⟩ <;> decide) (h.grow ((Below.refl _ _).alloc (Nat.le_refl _) o)))
  have HR : Hid (∀ o, Calls Tryz.prog 156 #[.slice (some ⟨b, 0, none⟩) s.size cap, .int .i64 (q : Int)] (w.alloc o) fun e w' => e = .returned (.tuple #[.int .i32 84, .int .i64 1]) ∧ (w.alloc o) = w') :=
    Lib.hid (fun o => by have c := runeAt_any (h.grow ((Below.refl _ _).alloc (Nat.le_refl _) o)) q (by omega); rw [hc, wd_in (by omega)] at c; exact c)
  have HN : Hid (∀ o, Calls Tryz.prog 157 #[.pointer (some ⟨sb, 0, none⟩), .int .i64 (q : Int), .int .i64 (q : Int)] (w.alloc o) fun r w' => r = .returned (.agg #[.int .i64 15, .int .i64 q, .int .i64 e, .string (s.extract q e)]) ∧ Below (w.alloc o).heap.size (w.alloc o) w') :=
    Lib.hid (fun o => readName_any (h.grow ((Below.refl _ _).alloc (Nat.le_refl _) o)) q e hqe he hn hend)
  clear ha hc h hn hend
  go_enter Tryz.func134, Tryz.ntmps134
  go_wp2_with (first | (go_at_call 154; refine (HP.out _).mono ?_; rintro r w' ⟨rfl, rfl⟩) | (go_at_call 156; refine (HR.out _).mono ?_; rintro r w' ⟨rfl, rfl⟩) | (go_at_call 157; refine (HN.out _).mono ?_; rintro r w' ⟨rfl, hb⟩; obtain ⟨⟨c0, c1, c2, c3⟩, ⟨z0, z1, z2, z3⟩, hz, hB⟩ := kept4 hb; clear hb))
  obtain ⟨q0, q1, q2, q3⟩ := set4 c0 c1 c2 c3 (.int .i64 15) (.int .i64 q) (.int .i64 e) (.string (s.extract q e))
  refine bodyPost_ret (v := .tuple #[.agg #[.int .i64 15, .int .i64 q, .int .i64 e, .string (s.extract q e)], .nilIface]) (by simp [results, Tryz.results134, go_sem, q0, q1, q2, q3]) rfl ⟨rfl, below_set4 hB (Nat.le_refl _) _ _ _ _⟩

set_option maxHeartbeats 2000000 in
set_option maxRecDepth 100000 in
theorem tok_n85 (s : ByteArray) (p q e : Nat) (ha : Ahead s p q) (hc : cd s q = 85) (hqe : q < e) (he : e ≤ s.size) (hn : ∀ j : Nat, q < j → j < e → nameChar (cd s j)) (hend : e < s.size → nameEnd (cd s e)) : Tok s p 15 q e (s.extract q e) := by
  intro w sb b cap h
  have hlt := h.lts
  have hhd := h.head
  have hq := ha.size
  have hs := h.size
  have HP : Hid (∀ o, Calls Tryz.prog 154 #[.slice (some ⟨b, 0, none⟩) s.size cap, .int .i64 (p : Int)] (w.alloc o) fun e w' => e = .returned (.tuple #[.int .i64 (q : Int), .int .i64 (q : Int)]) ∧ (w.alloc o) = w') :=
    Lib.hid (fun o => pos_at ha (by rw [hc]; refine ⟨?_, ?_, ?_, ?_, ?_, ?_, ?_⟩ <;> decide) (h.grow ((Below.refl _ _).alloc (Nat.le_refl _) o)))
  have HR : Hid (∀ o, Calls Tryz.prog 156 #[.slice (some ⟨b, 0, none⟩) s.size cap, .int .i64 (q : Int)] (w.alloc o) fun e w' => e = .returned (.tuple #[.int .i32 85, .int .i64 1]) ∧ (w.alloc o) = w') :=
    Lib.hid (fun o => by have c := runeAt_any (h.grow ((Below.refl _ _).alloc (Nat.le_refl _) o)) q (by omega); rw [hc, wd_in (by omega)] at c; exact c)
  have HN : Hid (∀ o, Calls Tryz.prog 157 #[.pointer (some ⟨sb, 0, none⟩), .int .i64 (q : Int), .int .i64 (q : Int)] (w.alloc o) fun r w' => r = .returned (.agg #[.int .i64 15, .int .i64 q, .int .i64 e, .string (s.extract q e)]) ∧ Below (w.alloc o).heap.size (w.alloc o) w') :=
    Lib.hid (fun o => readName_any (h.grow ((Below.refl _ _).alloc (Nat.le_refl _) o)) q e hqe he hn hend)
  clear ha hc h hn hend
  go_enter Tryz.func134, Tryz.ntmps134
  go_wp2_with (first | (go_at_call 154; refine (HP.out _).mono ?_; rintro r w' ⟨rfl, rfl⟩) | (go_at_call 156; refine (HR.out _).mono ?_; rintro r w' ⟨rfl, rfl⟩) | (go_at_call 157; refine (HN.out _).mono ?_; rintro r w' ⟨rfl, hb⟩; obtain ⟨⟨c0, c1, c2, c3⟩, ⟨z0, z1, z2, z3⟩, hz, hB⟩ := kept4 hb; clear hb))
  obtain ⟨q0, q1, q2, q3⟩ := set4 c0 c1 c2 c3 (.int .i64 15) (.int .i64 q) (.int .i64 e) (.string (s.extract q e))
  refine bodyPost_ret (v := .tuple #[.agg #[.int .i64 15, .int .i64 q, .int .i64 e, .string (s.extract q e)], .nilIface]) (by simp [results, Tryz.results134, go_sem, q0, q1, q2, q3]) rfl ⟨rfl, below_set4 hB (Nat.le_refl _) _ _ _ _⟩

set_option maxHeartbeats 2000000 in
set_option maxRecDepth 100000 in
theorem tok_n86 (s : ByteArray) (p q e : Nat) (ha : Ahead s p q) (hc : cd s q = 86) (hqe : q < e) (he : e ≤ s.size) (hn : ∀ j : Nat, q < j → j < e → nameChar (cd s j)) (hend : e < s.size → nameEnd (cd s e)) : Tok s p 15 q e (s.extract q e) := by
  intro w sb b cap h
  have hlt := h.lts
  have hhd := h.head
  have hq := ha.size
  have hs := h.size
  have HP : Hid (∀ o, Calls Tryz.prog 154 #[.slice (some ⟨b, 0, none⟩) s.size cap, .int .i64 (p : Int)] (w.alloc o) fun e w' => e = .returned (.tuple #[.int .i64 (q : Int), .int .i64 (q : Int)]) ∧ (w.alloc o) = w') :=
    Lib.hid (fun o => pos_at ha (by rw [hc]; refine ⟨?_, ?_, ?_, ?_, ?_, ?_, ?_⟩ <;> decide) (h.grow ((Below.refl _ _).alloc (Nat.le_refl _) o)))
  have HR : Hid (∀ o, Calls Tryz.prog 156 #[.slice (some ⟨b, 0, none⟩) s.size cap, .int .i64 (q : Int)] (w.alloc o) fun e w' => e = .returned (.tuple #[.int .i32 86, .int .i64 1]) ∧ (w.alloc o) = w') :=
    Lib.hid (fun o => by have c := runeAt_any (h.grow ((Below.refl _ _).alloc (Nat.le_refl _) o)) q (by omega); rw [hc, wd_in (by omega)] at c; exact c)
  have HN : Hid (∀ o, Calls Tryz.prog 157 #[.pointer (some ⟨sb, 0, none⟩), .int .i64 (q : Int), .int .i64 (q : Int)] (w.alloc o) fun r w' => r = .returned (.agg #[.int .i64 15, .int .i64 q, .int .i64 e, .string (s.extract q e)]) ∧ Below (w.alloc o).heap.size (w.alloc o) w') :=
    Lib.hid (fun o => readName_any (h.grow ((Below.refl _ _).alloc (Nat.le_refl _) o)) q e hqe he hn hend)
  clear ha hc h hn hend
  go_enter Tryz.func134, Tryz.ntmps134
  go_wp2_with (first | (go_at_call 154; refine (HP.out _).mono ?_; rintro r w' ⟨rfl, rfl⟩) | (go_at_call 156; refine (HR.out _).mono ?_; rintro r w' ⟨rfl, rfl⟩) | (go_at_call 157; refine (HN.out _).mono ?_; rintro r w' ⟨rfl, hb⟩; obtain ⟨⟨c0, c1, c2, c3⟩, ⟨z0, z1, z2, z3⟩, hz, hB⟩ := kept4 hb; clear hb))
  obtain ⟨q0, q1, q2, q3⟩ := set4 c0 c1 c2 c3 (.int .i64 15) (.int .i64 q) (.int .i64 e) (.string (s.extract q e))
  refine bodyPost_ret (v := .tuple #[.agg #[.int .i64 15, .int .i64 q, .int .i64 e, .string (s.extract q e)], .nilIface]) (by simp [results, Tryz.results134, go_sem, q0, q1, q2, q3]) rfl ⟨rfl, below_set4 hB (Nat.le_refl _) _ _ _ _⟩

set_option maxHeartbeats 2000000 in
set_option maxRecDepth 100000 in
theorem tok_n87 (s : ByteArray) (p q e : Nat) (ha : Ahead s p q) (hc : cd s q = 87) (hqe : q < e) (he : e ≤ s.size) (hn : ∀ j : Nat, q < j → j < e → nameChar (cd s j)) (hend : e < s.size → nameEnd (cd s e)) : Tok s p 15 q e (s.extract q e) := by
  intro w sb b cap h
  have hlt := h.lts
  have hhd := h.head
  have hq := ha.size
  have hs := h.size
  have HP : Hid (∀ o, Calls Tryz.prog 154 #[.slice (some ⟨b, 0, none⟩) s.size cap, .int .i64 (p : Int)] (w.alloc o) fun e w' => e = .returned (.tuple #[.int .i64 (q : Int), .int .i64 (q : Int)]) ∧ (w.alloc o) = w') :=
    Lib.hid (fun o => pos_at ha (by rw [hc]; refine ⟨?_, ?_, ?_, ?_, ?_, ?_, ?_⟩ <;> decide) (h.grow ((Below.refl _ _).alloc (Nat.le_refl _) o)))
  have HR : Hid (∀ o, Calls Tryz.prog 156 #[.slice (some ⟨b, 0, none⟩) s.size cap, .int .i64 (q : Int)] (w.alloc o) fun e w' => e = .returned (.tuple #[.int .i32 87, .int .i64 1]) ∧ (w.alloc o) = w') :=
    Lib.hid (fun o => by have c := runeAt_any (h.grow ((Below.refl _ _).alloc (Nat.le_refl _) o)) q (by omega); rw [hc, wd_in (by omega)] at c; exact c)
  have HN : Hid (∀ o, Calls Tryz.prog 157 #[.pointer (some ⟨sb, 0, none⟩), .int .i64 (q : Int), .int .i64 (q : Int)] (w.alloc o) fun r w' => r = .returned (.agg #[.int .i64 15, .int .i64 q, .int .i64 e, .string (s.extract q e)]) ∧ Below (w.alloc o).heap.size (w.alloc o) w') :=
    Lib.hid (fun o => readName_any (h.grow ((Below.refl _ _).alloc (Nat.le_refl _) o)) q e hqe he hn hend)
  clear ha hc h hn hend
  go_enter Tryz.func134, Tryz.ntmps134
  go_wp2_with (first | (go_at_call 154; refine (HP.out _).mono ?_; rintro r w' ⟨rfl, rfl⟩) | (go_at_call 156; refine (HR.out _).mono ?_; rintro r w' ⟨rfl, rfl⟩) | (go_at_call 157; refine (HN.out _).mono ?_; rintro r w' ⟨rfl, hb⟩; obtain ⟨⟨c0, c1, c2, c3⟩, ⟨z0, z1, z2, z3⟩, hz, hB⟩ := kept4 hb; clear hb))
  obtain ⟨q0, q1, q2, q3⟩ := set4 c0 c1 c2 c3 (.int .i64 15) (.int .i64 q) (.int .i64 e) (.string (s.extract q e))
  refine bodyPost_ret (v := .tuple #[.agg #[.int .i64 15, .int .i64 q, .int .i64 e, .string (s.extract q e)], .nilIface]) (by simp [results, Tryz.results134, go_sem, q0, q1, q2, q3]) rfl ⟨rfl, below_set4 hB (Nat.le_refl _) _ _ _ _⟩

set_option maxHeartbeats 2000000 in
set_option maxRecDepth 100000 in
theorem tok_n88 (s : ByteArray) (p q e : Nat) (ha : Ahead s p q) (hc : cd s q = 88) (hqe : q < e) (he : e ≤ s.size) (hn : ∀ j : Nat, q < j → j < e → nameChar (cd s j)) (hend : e < s.size → nameEnd (cd s e)) : Tok s p 15 q e (s.extract q e) := by
  intro w sb b cap h
  have hlt := h.lts
  have hhd := h.head
  have hq := ha.size
  have hs := h.size
  have HP : Hid (∀ o, Calls Tryz.prog 154 #[.slice (some ⟨b, 0, none⟩) s.size cap, .int .i64 (p : Int)] (w.alloc o) fun e w' => e = .returned (.tuple #[.int .i64 (q : Int), .int .i64 (q : Int)]) ∧ (w.alloc o) = w') :=
    Lib.hid (fun o => pos_at ha (by rw [hc]; refine ⟨?_, ?_, ?_, ?_, ?_, ?_, ?_⟩ <;> decide) (h.grow ((Below.refl _ _).alloc (Nat.le_refl _) o)))
  have HR : Hid (∀ o, Calls Tryz.prog 156 #[.slice (some ⟨b, 0, none⟩) s.size cap, .int .i64 (q : Int)] (w.alloc o) fun e w' => e = .returned (.tuple #[.int .i32 88, .int .i64 1]) ∧ (w.alloc o) = w') :=
    Lib.hid (fun o => by have c := runeAt_any (h.grow ((Below.refl _ _).alloc (Nat.le_refl _) o)) q (by omega); rw [hc, wd_in (by omega)] at c; exact c)
  have HN : Hid (∀ o, Calls Tryz.prog 157 #[.pointer (some ⟨sb, 0, none⟩), .int .i64 (q : Int), .int .i64 (q : Int)] (w.alloc o) fun r w' => r = .returned (.agg #[.int .i64 15, .int .i64 q, .int .i64 e, .string (s.extract q e)]) ∧ Below (w.alloc o).heap.size (w.alloc o) w') :=
    Lib.hid (fun o => readName_any (h.grow ((Below.refl _ _).alloc (Nat.le_refl _) o)) q e hqe he hn hend)
  clear ha hc h hn hend
  go_enter Tryz.func134, Tryz.ntmps134
  go_wp2_with (first | (go_at_call 154; refine (HP.out _).mono ?_; rintro r w' ⟨rfl, rfl⟩) | (go_at_call 156; refine (HR.out _).mono ?_; rintro r w' ⟨rfl, rfl⟩) | (go_at_call 157; refine (HN.out _).mono ?_; rintro r w' ⟨rfl, hb⟩; obtain ⟨⟨c0, c1, c2, c3⟩, ⟨z0, z1, z2, z3⟩, hz, hB⟩ := kept4 hb; clear hb))
  obtain ⟨q0, q1, q2, q3⟩ := set4 c0 c1 c2 c3 (.int .i64 15) (.int .i64 q) (.int .i64 e) (.string (s.extract q e))
  refine bodyPost_ret (v := .tuple #[.agg #[.int .i64 15, .int .i64 q, .int .i64 e, .string (s.extract q e)], .nilIface]) (by simp [results, Tryz.results134, go_sem, q0, q1, q2, q3]) rfl ⟨rfl, below_set4 hB (Nat.le_refl _) _ _ _ _⟩

set_option maxHeartbeats 2000000 in
set_option maxRecDepth 100000 in
theorem tok_n89 (s : ByteArray) (p q e : Nat) (ha : Ahead s p q) (hc : cd s q = 89) (hqe : q < e) (he : e ≤ s.size) (hn : ∀ j : Nat, q < j → j < e → nameChar (cd s j)) (hend : e < s.size → nameEnd (cd s e)) : Tok s p 15 q e (s.extract q e) := by
  intro w sb b cap h
  have hlt := h.lts
  have hhd := h.head
  have hq := ha.size
  have hs := h.size
  have HP : Hid (∀ o, Calls Tryz.prog 154 #[.slice (some ⟨b, 0, none⟩) s.size cap, .int .i64 (p : Int)] (w.alloc o) fun e w' => e = .returned (.tuple #[.int .i64 (q : Int), .int .i64 (q : Int)]) ∧ (w.alloc o) = w') :=
    Lib.hid (fun o => pos_at ha (by rw [hc]; refine ⟨?_, ?_, ?_, ?_, ?_, ?_, ?_⟩ <;> decide) (h.grow ((Below.refl _ _).alloc (Nat.le_refl _) o)))
  have HR : Hid (∀ o, Calls Tryz.prog 156 #[.slice (some ⟨b, 0, none⟩) s.size cap, .int .i64 (q : Int)] (w.alloc o) fun e w' => e = .returned (.tuple #[.int .i32 89, .int .i64 1]) ∧ (w.alloc o) = w') :=
    Lib.hid (fun o => by have c := runeAt_any (h.grow ((Below.refl _ _).alloc (Nat.le_refl _) o)) q (by omega); rw [hc, wd_in (by omega)] at c; exact c)
  have HN : Hid (∀ o, Calls Tryz.prog 157 #[.pointer (some ⟨sb, 0, none⟩), .int .i64 (q : Int), .int .i64 (q : Int)] (w.alloc o) fun r w' => r = .returned (.agg #[.int .i64 15, .int .i64 q, .int .i64 e, .string (s.extract q e)]) ∧ Below (w.alloc o).heap.size (w.alloc o) w') :=
    Lib.hid (fun o => readName_any (h.grow ((Below.refl _ _).alloc (Nat.le_refl _) o)) q e hqe he hn hend)
  clear ha hc h hn hend
  go_enter Tryz.func134, Tryz.ntmps134
  go_wp2_with (first | (go_at_call 154; refine (HP.out _).mono ?_; rintro r w' ⟨rfl, rfl⟩) | (go_at_call 156; refine (HR.out _).mono ?_; rintro r w' ⟨rfl, rfl⟩) | (go_at_call 157; refine (HN.out _).mono ?_; rintro r w' ⟨rfl, hb⟩; obtain ⟨⟨c0, c1, c2, c3⟩, ⟨z0, z1, z2, z3⟩, hz, hB⟩ := kept4 hb; clear hb))
  obtain ⟨q0, q1, q2, q3⟩ := set4 c0 c1 c2 c3 (.int .i64 15) (.int .i64 q) (.int .i64 e) (.string (s.extract q e))
  refine bodyPost_ret (v := .tuple #[.agg #[.int .i64 15, .int .i64 q, .int .i64 e, .string (s.extract q e)], .nilIface]) (by simp [results, Tryz.results134, go_sem, q0, q1, q2, q3]) rfl ⟨rfl, below_set4 hB (Nat.le_refl _) _ _ _ _⟩

set_option maxHeartbeats 2000000 in
set_option maxRecDepth 100000 in
theorem tok_n90 (s : ByteArray) (p q e : Nat) (ha : Ahead s p q) (hc : cd s q = 90) (hqe : q < e) (he : e ≤ s.size) (hn : ∀ j : Nat, q < j → j < e → nameChar (cd s j)) (hend : e < s.size → nameEnd (cd s e)) : Tok s p 15 q e (s.extract q e) := by
  intro w sb b cap h
  have hlt := h.lts
  have hhd := h.head
  have hq := ha.size
  have hs := h.size
  have HP : Hid (∀ o, Calls Tryz.prog 154 #[.slice (some ⟨b, 0, none⟩) s.size cap, .int .i64 (p : Int)] (w.alloc o) fun e w' => e = .returned (.tuple #[.int .i64 (q : Int), .int .i64 (q : Int)]) ∧ (w.alloc o) = w') :=
    Lib.hid (fun o => pos_at ha (by rw [hc]; refine ⟨?_, ?_, ?_, ?_, ?_, ?_, ?_⟩ <;> decide) (h.grow ((Below.refl _ _).alloc (Nat.le_refl _) o)))
  have HR : Hid (∀ o, Calls Tryz.prog 156 #[.slice (some ⟨b, 0, none⟩) s.size cap, .int .i64 (q : Int)] (w.alloc o) fun e w' => e = .returned (.tuple #[.int .i32 90, .int .i64 1]) ∧ (w.alloc o) = w') :=
    Lib.hid (fun o => by have c := runeAt_any (h.grow ((Below.refl _ _).alloc (Nat.le_refl _) o)) q (by omega); rw [hc, wd_in (by omega)] at c; exact c)
  have HN : Hid (∀ o, Calls Tryz.prog 157 #[.pointer (some ⟨sb, 0, none⟩), .int .i64 (q : Int), .int .i64 (q : Int)] (w.alloc o) fun r w' => r = .returned (.agg #[.int .i64 15, .int .i64 q, .int .i64 e, .string (s.extract q e)]) ∧ Below (w.alloc o).heap.size (w.alloc o) w') :=
    Lib.hid (fun o => readName_any (h.grow ((Below.refl _ _).alloc (Nat.le_refl _) o)) q e hqe he hn hend)
  clear ha hc h hn hend
  go_enter Tryz.func134, Tryz.ntmps134
  go_wp2_with (first | (go_at_call 154; refine (HP.out _).mono ?_; rintro r w' ⟨rfl, rfl⟩) | (go_at_call 156; refine (HR.out _).mono ?_; rintro r w' ⟨rfl, rfl⟩) | (go_at_call 157; refine (HN.out _).mono ?_; rintro r w' ⟨rfl, hb⟩; obtain ⟨⟨c0, c1, c2, c3⟩, ⟨z0, z1, z2, z3⟩, hz, hB⟩ := kept4 hb; clear hb))
  obtain ⟨q0, q1, q2, q3⟩ := set4 c0 c1 c2 c3 (.int .i64 15) (.int .i64 q) (.int .i64 e) (.string (s.extract q e))
  refine bodyPost_ret (v := .tuple #[.agg #[.int .i64 15, .int .i64 q, .int .i64 e, .string (s.extract q e)], .nilIface]) (by simp [results, Tryz.results134, go_sem, q0, q1, q2, q3]) rfl ⟨rfl, below_set4 hB (Nat.le_refl _) _ _ _ _⟩

set_option maxHeartbeats 2000000 in
set_option maxRecDepth 100000 in
theorem tok_n95 (s : ByteArray) (p q e : Nat) (ha : Ahead s p q) (hc : cd s q = 95) (hqe : q < e) (he : e ≤ s.size) (hn : ∀ j : Nat, q < j → j < e → nameChar (cd s j)) (hend : e < s.size → nameEnd (cd s e)) : Tok s p 15 q e (s.extract q e) := by
  intro w sb b cap h
  have hlt := h.lts
  have hhd := h.head
  have hq := ha.size
  have hs := h.size
  have HP : Hid (∀ o, Calls Tryz.prog 154 #[.slice (some ⟨b, 0, none⟩) s.size cap, .int .i64 (p : Int)] (w.alloc o) fun e w' => e = .returned (.tuple #[.int .i64 (q : Int), .int .i64 (q : Int)]) ∧ (w.alloc o) = w') :=
    Lib.hid (fun o => pos_at ha (by rw [hc]; refine ⟨?_, ?_, ?_, ?_, ?_, ?_, ?_⟩ <;> decide) (h.grow ((Below.refl _ _).alloc (Nat.le_refl _) o)))
  have HR : Hid (∀ o, Calls Tryz.prog 156 #[.slice (some ⟨b, 0, none⟩) s.size cap, .int .i64 (q : Int)] (w.alloc o) fun e w' => e = .returned (.tuple #[.int .i32 95, .int .i64 1]) ∧ (w.alloc o) = w') :=
    Lib.hid (fun o => by have c := runeAt_any (h.grow ((Below.refl _ _).alloc (Nat.le_refl _) o)) q (by omega); rw [hc, wd_in (by omega)] at c; exact c)
  have HN : Hid (∀ o, Calls Tryz.prog 157 #[.pointer (some ⟨sb, 0, none⟩), .int .i64 (q : Int), .int .i64 (q : Int)] (w.alloc o) fun r w' => r = .returned (.agg #[.int .i64 15, .int .i64 q, .int .i64 e, .string (s.extract q e)]) ∧ Below (w.alloc o).heap.size (w.alloc o) w') :=
    Lib.hid (fun o => readName_any (h.grow ((Below.refl _ _).alloc (Nat.le_refl _) o)) q e hqe he hn hend)
  clear ha hc h hn hend
  go_enter Tryz.func134, Tryz.ntmps134
  go_wp2_with (first | (go_at_call 154; refine (HP.out _).mono ?_; rintro r w' ⟨rfl, rfl⟩) | (go_at_call 156; refine (HR.out _).mono ?_; rintro r w' ⟨rfl, rfl⟩) | (go_at_call 157; refine (HN.out _).mono ?_; rintro r w' ⟨rfl, hb⟩; obtain ⟨⟨c0, c1, c2, c3⟩, ⟨z0, z1, z2, z3⟩, hz, hB⟩ := kept4 hb; clear hb))
  obtain ⟨q0, q1, q2, q3⟩ := set4 c0 c1 c2 c3 (.int .i64 15) (.int .i64 q) (.int .i64 e) (.string (s.extract q e))
  refine bodyPost_ret (v := .tuple #[.agg #[.int .i64 15, .int .i64 q, .int .i64 e, .string (s.extract q e)], .nilIface]) (by simp [results, Tryz.results134, go_sem, q0, q1, q2, q3]) rfl ⟨rfl, below_set4 hB (Nat.le_refl _) _ _ _ _⟩

set_option maxHeartbeats 2000000 in
set_option maxRecDepth 100000 in
theorem tok_n97 (s : ByteArray) (p q e : Nat) (ha : Ahead s p q) (hc : cd s q = 97) (hqe : q < e) (he : e ≤ s.size) (hn : ∀ j : Nat, q < j → j < e → nameChar (cd s j)) (hend : e < s.size → nameEnd (cd s e)) : Tok s p 15 q e (s.extract q e) := by
  intro w sb b cap h
  have hlt := h.lts
  have hhd := h.head
  have hq := ha.size
  have hs := h.size
  have HP : Hid (∀ o, Calls Tryz.prog 154 #[.slice (some ⟨b, 0, none⟩) s.size cap, .int .i64 (p : Int)] (w.alloc o) fun e w' => e = .returned (.tuple #[.int .i64 (q : Int), .int .i64 (q : Int)]) ∧ (w.alloc o) = w') :=
    Lib.hid (fun o => pos_at ha (by rw [hc]; refine ⟨?_, ?_, ?_, ?_, ?_, ?_, ?_⟩ <;> decide) (h.grow ((Below.refl _ _).alloc (Nat.le_refl _) o)))
  have HR : Hid (∀ o, Calls Tryz.prog 156 #[.slice (some ⟨b, 0, none⟩) s.size cap, .int .i64 (q : Int)] (w.alloc o) fun e w' => e = .returned (.tuple #[.int .i32 97, .int .i64 1]) ∧ (w.alloc o) = w') :=
    Lib.hid (fun o => by have c := runeAt_any (h.grow ((Below.refl _ _).alloc (Nat.le_refl _) o)) q (by omega); rw [hc, wd_in (by omega)] at c; exact c)
  have HN : Hid (∀ o, Calls Tryz.prog 157 #[.pointer (some ⟨sb, 0, none⟩), .int .i64 (q : Int), .int .i64 (q : Int)] (w.alloc o) fun r w' => r = .returned (.agg #[.int .i64 15, .int .i64 q, .int .i64 e, .string (s.extract q e)]) ∧ Below (w.alloc o).heap.size (w.alloc o) w') :=
    Lib.hid (fun o => readName_any (h.grow ((Below.refl _ _).alloc (Nat.le_refl _) o)) q e hqe he hn hend)
  clear ha hc h hn hend
  go_enter Tryz.func134, Tryz.ntmps134
  go_wp2_with (first | (go_at_call 154; refine (HP.out _).mono ?_; rintro r w' ⟨rfl, rfl⟩) | (go_at_call 156; refine (HR.out _).mono ?_; rintro r w' ⟨rfl, rfl⟩) | (go_at_call 157; refine (HN.out _).mono ?_; rintro r w' ⟨rfl, hb⟩; obtain ⟨⟨c0, c1, c2, c3⟩, ⟨z0, z1, z2, z3⟩, hz, hB⟩ := kept4 hb; clear hb))
  obtain ⟨q0, q1, q2, q3⟩ := set4 c0 c1 c2 c3 (.int .i64 15) (.int .i64 q) (.int .i64 e) (.string (s.extract q e))
  refine bodyPost_ret (v := .tuple #[.agg #[.int .i64 15, .int .i64 q, .int .i64 e, .string (s.extract q e)], .nilIface]) (by simp [results, Tryz.results134, go_sem, q0, q1, q2, q3]) rfl ⟨rfl, below_set4 hB (Nat.le_refl _) _ _ _ _⟩

set_option maxHeartbeats 2000000 in
set_option maxRecDepth 100000 in
theorem tok_n98 (s : ByteArray) (p q e : Nat) (ha : Ahead s p q) (hc : cd s q = 98) (hqe : q < e) (he : e ≤ s.size) (hn : ∀ j : Nat, q < j → j < e → nameChar (cd s j)) (hend : e < s.size → nameEnd (cd s e)) : Tok s p 15 q e (s.extract q e) := by
  intro w sb b cap h
  have hlt := h.lts
  have hhd := h.head
  have hq := ha.size
  have hs := h.size
  have HP : Hid (∀ o, Calls Tryz.prog 154 #[.slice (some ⟨b, 0, none⟩) s.size cap, .int .i64 (p : Int)] (w.alloc o) fun e w' => e = .returned (.tuple #[.int .i64 (q : Int), .int .i64 (q : Int)]) ∧ (w.alloc o) = w') :=
    Lib.hid (fun o => pos_at ha (by rw [hc]; refine ⟨?_, ?_, ?_, ?_, ?_, ?_, ?_⟩ <;> decide) (h.grow ((Below.refl _ _).alloc (Nat.le_refl _) o)))
  have HR : Hid (∀ o, Calls Tryz.prog 156 #[.slice (some ⟨b, 0, none⟩) s.size cap, .int .i64 (q : Int)] (w.alloc o) fun e w' => e = .returned (.tuple #[.int .i32 98, .int .i64 1]) ∧ (w.alloc o) = w') :=
    Lib.hid (fun o => by have c := runeAt_any (h.grow ((Below.refl _ _).alloc (Nat.le_refl _) o)) q (by omega); rw [hc, wd_in (by omega)] at c; exact c)
  have HN : Hid (∀ o, Calls Tryz.prog 157 #[.pointer (some ⟨sb, 0, none⟩), .int .i64 (q : Int), .int .i64 (q : Int)] (w.alloc o) fun r w' => r = .returned (.agg #[.int .i64 15, .int .i64 q, .int .i64 e, .string (s.extract q e)]) ∧ Below (w.alloc o).heap.size (w.alloc o) w') :=
    Lib.hid (fun o => readName_any (h.grow ((Below.refl _ _).alloc (Nat.le_refl _) o)) q e hqe he hn hend)
  clear ha hc h hn hend
  go_enter Tryz.func134, Tryz.ntmps134
  go_wp2_with (first | (go_at_call 154; refine (HP.out _).mono ?_; rintro r w' ⟨rfl, rfl⟩) | (go_at_call 156; refine (HR.out _).mono ?_; rintro r w' ⟨rfl, rfl⟩) | (go_at_call 157; refine (HN.out _).mono ?_; rintro r w' ⟨rfl, hb⟩; obtain ⟨⟨c0, c1, c2, c3⟩, ⟨z0, z1, z2, z3⟩, hz, hB⟩ := kept4 hb; clear hb))
  obtain ⟨q0, q1, q2, q3⟩ := set4 c0 c1 c2 c3 (.int .i64 15) (.int .i64 q) (.int .i64 e) (.string (s.extract q e))
  refine bodyPost_ret (v := .tuple #[.agg #[.int .i64 15, .int .i64 q, .int .i64 e, .string (s.extract q e)], .nilIface]) (by simp [results, Tryz.results134, go_sem, q0, q1, q2, q3]) rfl ⟨rfl, below_set4 hB (Nat.le_refl _) _ _ _ _⟩

set_option maxHeartbeats 2000000 in
set_option maxRecDepth 100000 in
theorem tok_n99 (s : ByteArray) (p q e : Nat) (ha : Ahead s p q) (hc : cd s q = 99) (hqe : q < e) (he : e ≤ s.size) (hn : ∀ j : Nat, q < j → j < e → nameChar (cd s j)) (hend : e < s.size → nameEnd (cd s e)) : Tok s p 15 q e (s.extract q e) := by
  intro w sb b cap h
  have hlt := h.lts
  have hhd := h.head
  have hq := ha.size
  have hs := h.size
  have HP : Hid (∀ o, Calls Tryz.prog 154 #[.slice (some ⟨b, 0, none⟩) s.size cap, .int .i64 (p : Int)] (w.alloc o) fun e w' => e = .returned (.tuple #[.int .i64 (q : Int), .int .i64 (q : Int)]) ∧ (w.alloc o) = w') :=
    Lib.hid (fun o => pos_at ha (by rw [hc]; refine ⟨?_, ?_, ?_, ?_, ?_, ?_, ?_⟩ <;> decide) (h.grow ((Below.refl _ _).alloc (Nat.le_refl _) o)))
  have HR : Hid (∀ o, Calls Tryz.prog 156 #[.slice (some ⟨b, 0, none⟩) s.size cap, .int .i64 (q : Int)] (w.alloc o) fun e w' => e = .returned (.tuple #[.int .i32 99, .int .i64 1]) ∧ (w.alloc o) = w') :=
    Lib.hid (fun o => by have c := runeAt_any (h.grow ((Below.refl _ _).alloc (Nat.le_refl _) o)) q (by omega); rw [hc, wd_in (by omega)] at c; exact c)
  have HN : Hid (∀ o, Calls Tryz.prog 157 #[.pointer (some ⟨sb, 0, none⟩), .int .i64 (q : Int), .int .i64 (q : Int)] (w.alloc o) fun r w' => r = .returned (.agg #[.int .i64 15, .int .i64 q, .int .i64 e, .string (s.extract q e)]) ∧ Below (w.alloc o).heap.size (w.alloc o) w') :=
    Lib.hid (fun o => readName_any (h.grow ((Below.refl _ _).alloc (Nat.le_refl _) o)) q e hqe he hn hend)
  clear ha hc h hn hend
  go_enter Tryz.func134, Tryz.ntmps134
  go_wp2_with (first | (go_at_call 154; refine (HP.out _).mono ?_; rintro r w' ⟨rfl, rfl⟩) | (go_at_call 156; refine (HR.out _).mono ?_; rintro r w' ⟨rfl, rfl⟩) | (go_at_call 157; refine (HN.out _).mono ?_; rintro r w' ⟨rfl, hb⟩; obtain ⟨⟨c0, c1, c2, c3⟩, ⟨z0, z1, z2, z3⟩, hz, hB⟩ := kept4 hb; clear hb))
  obtain ⟨q0, q1, q2, q3⟩ := set4 c0 c1 c2 c3 (.int .i64 15) (.int .i64 q) (.int .i64 e) (.string (s.extract q e))
  refine bodyPost_ret (v := .tuple #[.agg #[.int .i64 15, .int .i64 q, .int .i64 e, .string (s.extract q e)], .nilIface]) (by simp [results, Tryz.results134, go_sem, q0, q1, q2, q3]) rfl ⟨rfl, below_set4 hB (Nat.le_refl _) _ _ _ _⟩

set_option maxHeartbeats 2000000 in
set_option maxRecDepth 100000 in
theorem tok_n100 (s : ByteArray) (p q e : Nat) (ha : Ahead s p q) (hc : cd s q = 100) (hqe : q < e) (he : e ≤ s.size) (hn : ∀ j : Nat, q < j → j < e → nameChar (cd s j)) (hend : e < s.size → nameEnd (cd s e)) : Tok s p 15 q e (s.extract q e) := by
  intro w sb b cap h
  have hlt := h.lts
  have hhd := h.head
  have hq := ha.size
  have hs := h.size
  have HP : Hid (∀ o, Calls Tryz.prog 154 #[.slice (some ⟨b, 0, none⟩) s.size cap, .int .i64 (p : Int)] (w.alloc o) fun e w' => e = .returned (.tuple #[.int .i64 (q : Int), .int .i64 (q : Int)]) ∧ (w.alloc o) = w') :=
    Lib.hid (fun o => pos_at ha (by rw [hc]; refine ⟨?_, ?_, ?_, ?_, ?_, ?_, ?_⟩ <;> decide) (h.grow ((Below.refl _ _).alloc (Nat.le_refl _) o)))
  have HR : Hid (∀ o, Calls Tryz.prog 156 #[.slice (some ⟨b, 0, none⟩) s.size cap, .int .i64 (q : Int)] (w.alloc o) fun e w' => e = .returned (.tuple #[.int .i32 100, .int .i64 1]) ∧ (w.alloc o) = w') :=
    Lib.hid (fun o => by have c := runeAt_any (h.grow ((Below.refl _ _).alloc (Nat.le_refl _) o)) q (by omega); rw [hc, wd_in (by omega)] at c; exact c)
  have HN : Hid (∀ o, Calls Tryz.prog 157 #[.pointer (some ⟨sb, 0, none⟩), .int .i64 (q : Int), .int .i64 (q : Int)] (w.alloc o) fun r w' => r = .returned (.agg #[.int .i64 15, .int .i64 q, .int .i64 e, .string (s.extract q e)]) ∧ Below (w.alloc o).heap.size (w.alloc o) w') :=
    Lib.hid (fun o => readName_any (h.grow ((Below.refl _ _).alloc (Nat.le_refl _) o)) q e hqe he hn hend)
  clear ha hc h hn hend
  go_enter Tryz.func134, Tryz.ntmps134
  go_wp2_with (first | (go_at_call 154; refine (HP.out _).mono ?_; rintro r w' ⟨rfl, rfl⟩) | (go_at_call 156; refine (HR.out _).mono ?_; rintro r w' ⟨rfl, rfl⟩) | (go_at_call 157; refine (HN.out _).mono ?_; rintro r w' ⟨rfl, hb⟩; obtain ⟨⟨c0, c1, c2, c3⟩, ⟨z0, z1, z2, z3⟩, hz, hB⟩ := kept4 hb; clear hb))
  obtain ⟨q0, q1, q2, q3⟩ := set4 c0 c1 c2 c3 (.int .i64 15) (.int .i64 q) (.int .i64 e) (.string (s.extract q e))
  refine bodyPost_ret (v := .tuple #[.agg #[.int .i64 15, .int .i64 q, .int .i64 e, .string (s.extract q e)], .nilIface]) (by simp [results, Tryz.results134, go_sem, q0, q1, q2, q3]) rfl ⟨rfl, below_set4 hB (Nat.le_refl _) _ _ _ _⟩

set_option maxHeartbeats 2000000 in
set_option maxRecDepth 100000 in
theorem tok_n101 (s : ByteArray) (p q e : Nat) (ha : Ahead s p q) (hc : cd s q = 101) (hqe : q < e) (he : e ≤ s.size) (hn : ∀ j : Nat, q < j → j < e → nameChar (cd s j)) (hend : e < s.size → nameEnd (cd s e)) : Tok s p 15 q e (s.extract q e) := by
  intro w sb b cap h
  have hlt := h.lts
  have hhd := h.head
  have hq := ha.size
  have hs := h.size
  have HP : Hid (∀ o, Calls Tryz.prog 154 #[.slice (some ⟨b, 0, none⟩) s.size cap, .int .i64 (p : Int)] (w.alloc o) fun e w' => e = .returned (.tuple #[.int .i64 (q : Int), .int .i64 (q : Int)]) ∧ (w.alloc o) = w') :=
    Lib.hid (fun o => pos_at ha (by rw [hc]; refine ⟨?_, ?_, ?_, ?_, ?_, ?_, ?_⟩ <;> decide) (h.grow ((Below.refl _ _).alloc (Nat.le_refl _) o)))
  have HR : Hid (∀ o, Calls Tryz.prog 156 #[.slice (some ⟨b, 0, none⟩) s.size cap, .int .i64 (q : Int)] (w.alloc o) fun e w' => e = .returned (.tuple #[.int .i32 101, .int .i64 1]) ∧ (w.alloc o) = w') :=
    Lib.hid (fun o => by have c := runeAt_any (h.grow ((Below.refl _ _).alloc (Nat.le_refl _) o)) q (by omega); rw [hc, wd_in (by omega)] at c; exact c)
  have HN : Hid (∀ o, Calls Tryz.prog 157 #[.pointer (some ⟨sb, 0, none⟩), .int .i64 (q : Int), .int .i64 (q : Int)] (w.alloc o) fun r w' => r = .returned (.agg #[.int .i64 15, .int .i64 q, .int .i64 e, .string (s.extract q e)]) ∧ Below (w.alloc o).heap.size (w.alloc o) w') :=
    Lib.hid (fun o => readName_any (h.grow ((Below.refl _ _).alloc (Nat.le_refl _) o)) q e hqe he hn hend)
  clear ha hc h hn hend
  go_enter Tryz.func134, Tryz.ntmps134
  go_wp2_with (first | (go_at_call 154; refine (HP.out _).mono ?_; rintro r w' ⟨rfl, rfl⟩) | (go_at_call 156; refine (HR.out _).mono ?_; rintro r w' ⟨rfl, rfl⟩) | (go_at_call 157; refine (HN.out _).mono ?_; rintro r w' ⟨rfl, hb⟩; obtain ⟨⟨c0, c1, c2, c3⟩, ⟨z0, z1, z2, z3⟩, hz, hB⟩ := kept4 hb; clear hb))
  obtain ⟨q0, q1, q2, q3⟩ := set4 c0 c1 c2 c3 (.int .i64 15) (.int .i64 q) (.int .i64 e) (.string (s.extract q e))
  refine bodyPost_ret (v := .tuple #[.agg #[.int .i64 15, .int .i64 q, .int .i64 e, .string (s.extract q e)], .nilIface]) (by simp [results, Tryz.results134, go_sem, q0, q1, q2, q3]) rfl ⟨rfl, below_set4 hB (Nat.le_refl _) _ _ _ _⟩

end Go.Proofs.YtbjfahhfcdnkaaaGreatDoor
