/- A number is a token (by its first sign). -/
import Derived.Test.YtbojlohjmbhifaaGreatDoorRt0
import Derived.Test.YtbojlohjmbhifaaGreatDoorLx3
namespace Go.Proofs.YtbojlohjmbhifaaGreatDoor
open Go.RowKit Go.Proofs.YtbojlohjmbhifaaGreatDoorW.PrintWords Go.Proofs.YtbojlohjmbhifaaGreatDoorW.PrintMore
set_option maxHeartbeats 2000000 in
set_option maxRecDepth 100000 in
theorem tok_d45 (s : ByteArray) (p q a m f e : Nat) (t1 t2 : Bool) (ha : Ahead s p q) (hc : cd s q = 45) (hn : Num s q a m f e t1 t2) : Tok s p (if t1 || t2 then 17 else 16) q e (s.extract q e) := by
  intro w sb b cap h
  have hlt := h.lts
  have hhd := h.head
  have hq := ha.size
  have hs := h.size
  have HP : Hid (∀ o, Calls Tryz.prog 25 #[.slice (some ⟨b, 0, none⟩) s.size cap, .int .i64 (p : Int)] (w.alloc o) fun e w' => e = .returned (.tuple #[.int .i64 (q : Int), .int .i64 (q : Int)]) ∧ (w.alloc o) = w') :=
    Lib.hid (fun o => pos_at ha (by rw [hc]; refine ⟨?_, ?_, ?_, ?_, ?_, ?_, ?_⟩ <;> decide) (h.grow ((Below.refl _ _).alloc (Nat.le_refl _) o)))
  have HR : Hid (∀ o, Calls Tryz.prog 27 #[.slice (some ⟨b, 0, none⟩) s.size cap, .int .i64 (q : Int)] (w.alloc o) fun e w' => e = .returned (.tuple #[.int .i32 45, .int .i64 1]) ∧ (w.alloc o) = w') :=
    Lib.hid (fun o => by have c := runeAt_any (h.grow ((Below.refl _ _).alloc (Nat.le_refl _) o)) q (by omega); rw [hc, wd_in (by omega)] at c; exact c)
  have HN : Hid (∀ o, Calls Tryz.prog 30 #[.pointer (some ⟨sb, 0, none⟩), .int .i64 (q : Int), .int .i32 45, .int .i64 1] (w.alloc o) fun r w' => r = .returned (.tuple #[.agg #[.int .i64 (if t1 || t2 then 17 else 16), .int .i64 q, .int .i64 e, .string (s.extract q e)], .nilIface]) ∧ Below (w.alloc o).heap.size (w.alloc o) w') :=
    Lib.hid (fun o => by have c := readNumber_any (h.grow ((Below.refl _ _).alloc (Nat.le_refl _) o)) q a m f e t1 t2 hn; rw [hc, wd_in (by omega)] at c; exact c)
  clear ha hc h hn
  generalize (if t1 || t2 then (17 : Int) else 16) = k at HN ⊢
  go_enter Tryz.func23, Tryz.ntmps23
  go_wp2_with (first | (go_at_call 25; refine (HP.out _).mono ?_; rintro r w' ⟨rfl, rfl⟩) | (go_at_call 27; refine (HR.out _).mono ?_; rintro r w' ⟨rfl, rfl⟩) | (go_at_call 30; refine (HN.out _).mono ?_; rintro r w' ⟨rfl, hb⟩; obtain ⟨⟨c0, c1, c2, c3⟩, ⟨z0, z1, z2, z3⟩, hz, hB⟩ := kept4 hb; clear hb))
  obtain ⟨q0, q1, q2, q3⟩ := set4 c0 c1 c2 c3 (.int .i64 k) (.int .i64 q) (.int .i64 e) (.string (s.extract q e))
  refine bodyPost_ret (v := .tuple #[.agg #[.int .i64 k, .int .i64 q, .int .i64 e, .string (s.extract q e)], .nilIface]) (by simp [results, Tryz.results23, go_sem, q0, q1, q2, q3, hz]) rfl ⟨rfl, (below_set4 hB (Nat.le_refl _) _ _ _ _).alloc (by simp; omega) _⟩

set_option maxHeartbeats 2000000 in
set_option maxRecDepth 100000 in
theorem tok_d48 (s : ByteArray) (p q a m f e : Nat) (t1 t2 : Bool) (ha : Ahead s p q) (hc : cd s q = 48) (hn : Num s q a m f e t1 t2) : Tok s p (if t1 || t2 then 17 else 16) q e (s.extract q e) := by
  intro w sb b cap h
  have hlt := h.lts
  have hhd := h.head
  have hq := ha.size
  have hs := h.size
  have HP : Hid (∀ o, Calls Tryz.prog 25 #[.slice (some ⟨b, 0, none⟩) s.size cap, .int .i64 (p : Int)] (w.alloc o) fun e w' => e = .returned (.tuple #[.int .i64 (q : Int), .int .i64 (q : Int)]) ∧ (w.alloc o) = w') :=
    Lib.hid (fun o => pos_at ha (by rw [hc]; refine ⟨?_, ?_, ?_, ?_, ?_, ?_, ?_⟩ <;> decide) (h.grow ((Below.refl _ _).alloc (Nat.le_refl _) o)))
  have HR : Hid (∀ o, Calls Tryz.prog 27 #[.slice (some ⟨b, 0, none⟩) s.size cap, .int .i64 (q : Int)] (w.alloc o) fun e w' => e = .returned (.tuple #[.int .i32 48, .int .i64 1]) ∧ (w.alloc o) = w') :=
    Lib.hid (fun o => by have c := runeAt_any (h.grow ((Below.refl _ _).alloc (Nat.le_refl _) o)) q (by omega); rw [hc, wd_in (by omega)] at c; exact c)
  have HN : Hid (∀ o, Calls Tryz.prog 30 #[.pointer (some ⟨sb, 0, none⟩), .int .i64 (q : Int), .int .i32 48, .int .i64 1] (w.alloc o) fun r w' => r = .returned (.tuple #[.agg #[.int .i64 (if t1 || t2 then 17 else 16), .int .i64 q, .int .i64 e, .string (s.extract q e)], .nilIface]) ∧ Below (w.alloc o).heap.size (w.alloc o) w') :=
    Lib.hid (fun o => by have c := readNumber_any (h.grow ((Below.refl _ _).alloc (Nat.le_refl _) o)) q a m f e t1 t2 hn; rw [hc, wd_in (by omega)] at c; exact c)
  clear ha hc h hn
  generalize (if t1 || t2 then (17 : Int) else 16) = k at HN ⊢
  go_enter Tryz.func23, Tryz.ntmps23
  go_wp2_with (first | (go_at_call 25; refine (HP.out _).mono ?_; rintro r w' ⟨rfl, rfl⟩) | (go_at_call 27; refine (HR.out _).mono ?_; rintro r w' ⟨rfl, rfl⟩) | (go_at_call 30; refine (HN.out _).mono ?_; rintro r w' ⟨rfl, hb⟩; obtain ⟨⟨c0, c1, c2, c3⟩, ⟨z0, z1, z2, z3⟩, hz, hB⟩ := kept4 hb; clear hb))
  obtain ⟨q0, q1, q2, q3⟩ := set4 c0 c1 c2 c3 (.int .i64 k) (.int .i64 q) (.int .i64 e) (.string (s.extract q e))
  refine bodyPost_ret (v := .tuple #[.agg #[.int .i64 k, .int .i64 q, .int .i64 e, .string (s.extract q e)], .nilIface]) (by simp [results, Tryz.results23, go_sem, q0, q1, q2, q3, hz]) rfl ⟨rfl, (below_set4 hB (Nat.le_refl _) _ _ _ _).alloc (by simp; omega) _⟩

set_option maxHeartbeats 2000000 in
set_option maxRecDepth 100000 in
theorem tok_d49 (s : ByteArray) (p q a m f e : Nat) (t1 t2 : Bool) (ha : Ahead s p q) (hc : cd s q = 49) (hn : Num s q a m f e t1 t2) : Tok s p (if t1 || t2 then 17 else 16) q e (s.extract q e) := by
  intro w sb b cap h
  have hlt := h.lts
  have hhd := h.head
  have hq := ha.size
  have hs := h.size
  have HP : Hid (∀ o, Calls Tryz.prog 25 #[.slice (some ⟨b, 0, none⟩) s.size cap, .int .i64 (p : Int)] (w.alloc o) fun e w' => e = .returned (.tuple #[.int .i64 (q : Int), .int .i64 (q : Int)]) ∧ (w.alloc o) = w') :=
    Lib.hid (fun o => pos_at ha (by rw [hc]; refine ⟨?_, ?_, ?_, ?_, ?_, ?_, ?_⟩ <;> decide) (h.grow ((Below.refl _ _).alloc (Nat.le_refl _) o)))
  have HR : Hid (∀ o, Calls Tryz.prog 27 #[.slice (some ⟨b, 0, none⟩) s.size cap, .int .i64 (q : Int)] (w.alloc o) fun e w' => e = .returned (.tuple #[.int .i32 49, .int .i64 1]) ∧ (w.alloc o) = w') :=
    Lib.hid (fun o => by have c := runeAt_any (h.grow ((Below.refl _ _).alloc (Nat.le_refl _) o)) q (by omega); rw [hc, wd_in (by omega)] at c; exact c)
  have HN : Hid (∀ o, Calls Tryz.prog 30 #[.pointer (some ⟨sb, 0, none⟩), .int .i64 (q : Int), .int .i32 49, .int .i64 1] (w.alloc o) fun r w' => r = .returned (.tuple #[.agg #[.int .i64 (if t1 || t2 then 17 else 16), .int .i64 q, .int .i64 e, .string (s.extract q e)], .nilIface]) ∧ Below (w.alloc o).heap.size (w.alloc o) w') :=
    Lib.hid (fun o => by have c := readNumber_any (h.grow ((Below.refl _ _).alloc (Nat.le_refl _) o)) q a m f e t1 t2 hn; rw [hc, wd_in (by omega)] at c; exact c)
  clear ha hc h hn
  generalize (if t1 || t2 then (17 : Int) else 16) = k at HN ⊢
  go_enter Tryz.func23, Tryz.ntmps23
  go_wp2_with (first | (go_at_call 25; refine (HP.out _).mono ?_; rintro r w' ⟨rfl, rfl⟩) | (go_at_call 27; refine (HR.out _).mono ?_; rintro r w' ⟨rfl, rfl⟩) | (go_at_call 30; refine (HN.out _).mono ?_; rintro r w' ⟨rfl, hb⟩; obtain ⟨⟨c0, c1, c2, c3⟩, ⟨z0, z1, z2, z3⟩, hz, hB⟩ := kept4 hb; clear hb))
  obtain ⟨q0, q1, q2, q3⟩ := set4 c0 c1 c2 c3 (.int .i64 k) (.int .i64 q) (.int .i64 e) (.string (s.extract q e))
  refine bodyPost_ret (v := .tuple #[.agg #[.int .i64 k, .int .i64 q, .int .i64 e, .string (s.extract q e)], .nilIface]) (by simp [results, Tryz.results23, go_sem, q0, q1, q2, q3, hz]) rfl ⟨rfl, (below_set4 hB (Nat.le_refl _) _ _ _ _).alloc (by simp; omega) _⟩

end Go.Proofs.YtbojlohjmbhifaaGreatDoor

/-! A number is a token (by its first sign). -/
namespace Go.Proofs.YtbojlohjmbhifaaGreatDoor
open Go.RowKit Go.Proofs.YtbojlohjmbhifaaGreatDoorW.PrintWords Go.Proofs.YtbojlohjmbhifaaGreatDoorW.PrintMore
set_option maxHeartbeats 2000000 in
set_option maxRecDepth 100000 in
theorem tok_d50 (s : ByteArray) (p q a m f e : Nat) (t1 t2 : Bool) (ha : Ahead s p q) (hc : cd s q = 50) (hn : Num s q a m f e t1 t2) : Tok s p (if t1 || t2 then 17 else 16) q e (s.extract q e) := by
  intro w sb b cap h
  have hlt := h.lts
  have hhd := h.head
  have hq := ha.size
  have hs := h.size
  have HP : Hid (∀ o, Calls Tryz.prog 25 #[.slice (some ⟨b, 0, none⟩) s.size cap, .int .i64 (p : Int)] (w.alloc o) fun e w' => e = .returned (.tuple #[.int .i64 (q : Int), .int .i64 (q : Int)]) ∧ (w.alloc o) = w') :=
    Lib.hid (fun o => pos_at ha (by rw [hc]; refine ⟨?_, ?_, ?_, ?_, ?_, ?_, ?_⟩ <;> decide) (h.grow ((Below.refl _ _).alloc (Nat.le_refl _) o)))
  have HR : Hid (∀ o, Calls Tryz.prog 27 #[.slice (some ⟨b, 0, none⟩) s.size cap, .int .i64 (q : Int)] (w.alloc o) fun e w' => e = .returned (.tuple #[.int .i32 50, .int .i64 1]) ∧ (w.alloc o) = w') :=
    Lib.hid (fun o => by have c := runeAt_any (h.grow ((Below.refl _ _).alloc (Nat.le_refl _) o)) q (by omega); rw [hc, wd_in (by omega)] at c; exact c)
  have HN : Hid (∀ o, Calls Tryz.prog 30 #[.pointer (some ⟨sb, 0, none⟩), .int .i64 (q : Int), .int .i32 50, .int .i64 1] (w.alloc o) fun r w' => r = .returned (.tuple #[.agg #[.int .i64 (if t1 || t2 then 17 else 16), .int .i64 q, .int .i64 e, .string (s.extract q e)], .nilIface]) ∧ Below (w.alloc o).heap.size (w.alloc o) w') :=
    Lib.hid (fun o => by have c := readNumber_any (h.grow ((Below.refl _ _).alloc (Nat.le_refl _) o)) q a m f e t1 t2 hn; rw [hc, wd_in (by omega)] at c; exact c)
  clear ha hc h hn
  generalize (if t1 || t2 then (17 : Int) else 16) = k at HN ⊢
  go_enter Tryz.func23, Tryz.ntmps23
  go_wp2_with (first | (go_at_call 25; refine (HP.out _).mono ?_; rintro r w' ⟨rfl, rfl⟩) | (go_at_call 27; refine (HR.out _).mono ?_; rintro r w' ⟨rfl, rfl⟩) | (go_at_call 30; refine (HN.out _).mono ?_; rintro r w' ⟨rfl, hb⟩; obtain ⟨⟨c0, c1, c2, c3⟩, ⟨z0, z1, z2, z3⟩, hz, hB⟩ := kept4 hb; clear hb))
  obtain ⟨q0, q1, q2, q3⟩ := set4 c0 c1 c2 c3 (.int .i64 k) (.int .i64 q) (.int .i64 e) (.string (s.extract q e))
  refine bodyPost_ret (v := .tuple #[.agg #[.int .i64 k, .int .i64 q, .int .i64 e, .string (s.extract q e)], .nilIface]) (by simp [results, Tryz.results23, go_sem, q0, q1, q2, q3, hz]) rfl ⟨rfl, (below_set4 hB (Nat.le_refl _) _ _ _ _).alloc (by simp; omega) _⟩

set_option maxHeartbeats 2000000 in
set_option maxRecDepth 100000 in
theorem tok_d51 (s : ByteArray) (p q a m f e : Nat) (t1 t2 : Bool) (ha : Ahead s p q) (hc : cd s q = 51) (hn : Num s q a m f e t1 t2) : Tok s p (if t1 || t2 then 17 else 16) q e (s.extract q e) := by
  intro w sb b cap h
  have hlt := h.lts
  have hhd := h.head
  have hq := ha.size
  have hs := h.size
  have HP : Hid (∀ o, Calls Tryz.prog 25 #[.slice (some ⟨b, 0, none⟩) s.size cap, .int .i64 (p : Int)] (w.alloc o) fun e w' => e = .returned (.tuple #[.int .i64 (q : Int), .int .i64 (q : Int)]) ∧ (w.alloc o) = w') :=
    Lib.hid (fun o => pos_at ha (by rw [hc]; refine ⟨?_, ?_, ?_, ?_, ?_, ?_, ?_⟩ <;> decide) (h.grow ((Below.refl _ _).alloc (Nat.le_refl _) o)))
  have HR : Hid (∀ o, Calls Tryz.prog 27 #[.slice (some ⟨b, 0, none⟩) s.size cap, .int .i64 (q : Int)] (w.alloc o) fun e w' => e = .returned (.tuple #[.int .i32 51, .int .i64 1]) ∧ (w.alloc o) = w') :=
    Lib.hid (fun o => by have c := runeAt_any (h.grow ((Below.refl _ _).alloc (Nat.le_refl _) o)) q (by omega); rw [hc, wd_in (by omega)] at c; exact c)
  have HN : Hid (∀ o, Calls Tryz.prog 30 #[.pointer (some ⟨sb, 0, none⟩), .int .i64 (q : Int), .int .i32 51, .int .i64 1] (w.alloc o) fun r w' => r = .returned (.tuple #[.agg #[.int .i64 (if t1 || t2 then 17 else 16), .int .i64 q, .int .i64 e, .string (s.extract q e)], .nilIface]) ∧ Below (w.alloc o).heap.size (w.alloc o) w') :=
    Lib.hid (fun o => by have c := readNumber_any (h.grow ((Below.refl _ _).alloc (Nat.le_refl _) o)) q a m f e t1 t2 hn; rw [hc, wd_in (by omega)] at c; exact c)
  clear ha hc h hn
  generalize (if t1 || t2 then (17 : Int) else 16) = k at HN ⊢
  go_enter Tryz.func23, Tryz.ntmps23
  go_wp2_with (first | (go_at_call 25; refine (HP.out _).mono ?_; rintro r w' ⟨rfl, rfl⟩) | (go_at_call 27; refine (HR.out _).mono ?_; rintro r w' ⟨rfl, rfl⟩) | (go_at_call 30; refine (HN.out _).mono ?_; rintro r w' ⟨rfl, hb⟩; obtain ⟨⟨c0, c1, c2, c3⟩, ⟨z0, z1, z2, z3⟩, hz, hB⟩ := kept4 hb; clear hb))
  obtain ⟨q0, q1, q2, q3⟩ := set4 c0 c1 c2 c3 (.int .i64 k) (.int .i64 q) (.int .i64 e) (.string (s.extract q e))
  refine bodyPost_ret (v := .tuple #[.agg #[.int .i64 k, .int .i64 q, .int .i64 e, .string (s.extract q e)], .nilIface]) (by simp [results, Tryz.results23, go_sem, q0, q1, q2, q3, hz]) rfl ⟨rfl, (below_set4 hB (Nat.le_refl _) _ _ _ _).alloc (by simp; omega) _⟩

set_option maxHeartbeats 2000000 in
set_option maxRecDepth 100000 in
theorem tok_d52 (s : ByteArray) (p q a m f e : Nat) (t1 t2 : Bool) (ha : Ahead s p q) (hc : cd s q = 52) (hn : Num s q a m f e t1 t2) : Tok s p (if t1 || t2 then 17 else 16) q e (s.extract q e) := by
  intro w sb b cap h
  have hlt := h.lts
  have hhd := h.head
  have hq := ha.size
  have hs := h.size
  have HP : Hid (∀ o, Calls Tryz.prog 25 #[.slice (some ⟨b, 0, none⟩) s.size cap, .int .i64 (p : Int)] (w.alloc o) fun e w' => e = .returned (.tuple #[.int .i64 (q : Int), .int .i64 (q : Int)]) ∧ (w.alloc o) = w') :=
    Lib.hid (fun o => pos_at ha (by rw [hc]; refine ⟨?_, ?_, ?_, ?_, ?_, ?_, ?_⟩ <;> decide) (h.grow ((Below.refl _ _).alloc (Nat.le_refl _) o)))
  have HR : Hid (∀ o, Calls Tryz.prog 27 #[.slice (some ⟨b, 0, none⟩) s.size cap, .int .i64 (q : Int)] (w.alloc o) fun e w' => e = .returned (.tuple #[.int .i32 52, .int .i64 1]) ∧ (w.alloc o) = w') :=
    Lib.hid (fun o => by have c := runeAt_any (h.grow ((Below.refl _ _).alloc (Nat.le_refl _) o)) q (by omega); rw [hc, wd_in (by omega)] at c; exact c)
  have HN : Hid (∀ o, Calls Tryz.prog 30 #[.pointer (some ⟨sb, 0, none⟩), .int .i64 (q : Int), .int .i32 52, .int .i64 1] (w.alloc o) fun r w' => r = .returned (.tuple #[.agg #[.int .i64 (if t1 || t2 then 17 else 16), .int .i64 q, .int .i64 e, .string (s.extract q e)], .nilIface]) ∧ Below (w.alloc o).heap.size (w.alloc o) w') :=
    Lib.hid (fun o => by have c := readNumber_any (h.grow ((Below.refl _ _).alloc (Nat.le_refl _) o)) q a m f e t1 t2 hn; rw [hc, wd_in (by omega)] at c; exact c)
  clear ha hc h hn
  generalize (if t1 || t2 then (17 : Int) else 16) = k at HN ⊢
  go_enter Tryz.func23, Tryz.ntmps23
  go_wp2_with (first | (go_at_call 25; refine (HP.out _).mono ?_; rintro r w' ⟨rfl, rfl⟩) | (go_at_call 27; refine (HR.out _).mono ?_; rintro r w' ⟨rfl, rfl⟩) | (go_at_call 30; refine (HN.out _).mono ?_; rintro r w' ⟨rfl, hb⟩; obtain ⟨⟨c0, c1, c2, c3⟩, ⟨z0, z1, z2, z3⟩, hz, hB⟩ := kept4 hb; clear hb))
  obtain ⟨q0, q1, q2, q3⟩ := set4 c0 c1 c2 c3 (.int .i64 k) (.int .i64 q) (.int .i64 e) (.string (s.extract q e))
  refine bodyPost_ret (v := .tuple #[.agg #[.int .i64 k, .int .i64 q, .int .i64 e, .string (s.extract q e)], .nilIface]) (by simp [results, Tryz.results23, go_sem, q0, q1, q2, q3, hz]) rfl ⟨rfl, (below_set4 hB (Nat.le_refl _) _ _ _ _).alloc (by simp; omega) _⟩

set_option maxHeartbeats 2000000 in
set_option maxRecDepth 100000 in
theorem tok_d53 (s : ByteArray) (p q a m f e : Nat) (t1 t2 : Bool) (ha : Ahead s p q) (hc : cd s q = 53) (hn : Num s q a m f e t1 t2) : Tok s p (if t1 || t2 then 17 else 16) q e (s.extract q e) := by
  intro w sb b cap h
  have hlt := h.lts
  have hhd := h.head
  have hq := ha.size
  have hs := h.size
  have HP : Hid (∀ o, Calls Tryz.prog 25 #[.slice (some ⟨b, 0, none⟩) s.size cap, .int .i64 (p : Int)] (w.alloc o) fun e w' => e = .returned (.tuple #[.int .i64 (q : Int), .int .i64 (q : Int)]) ∧ (w.alloc o) = w') :=
    Lib.hid (fun o => pos_at ha (by rw [hc]; refine ⟨?_, ?_, ?_, ?_, ?_, ?_, ?_⟩ <;> decide) (h.grow ((Below.refl _ _).alloc (Nat.le_refl _) o)))
  have HR : Hid (∀ o, Calls Tryz.prog 27 #[.slice (some ⟨b, 0, none⟩) s.size cap, .int .i64 (q : Int)] (w.alloc o) fun e w' => e = .returned (.tuple #[.int .i32 53, .int .i64 1]) ∧ (w.alloc o) = w') :=
    Lib.hid (fun o => by have c := runeAt_any (h.grow ((Below.refl _ _).alloc (Nat.le_refl _) o)) q (by omega); rw [hc, wd_in (by omega)] at c; exact c)
  have HN : Hid (∀ o, Calls Tryz.prog 30 #[.pointer (some ⟨sb, 0, none⟩), .int .i64 (q : Int), .int .i32 53, .int .i64 1] (w.alloc o) fun r w' => r = .returned (.tuple #[.agg #[.int .i64 (if t1 || t2 then 17 else 16), .int .i64 q, .int .i64 e, .string (s.extract q e)], .nilIface]) ∧ Below (w.alloc o).heap.size (w.alloc o) w') :=
    Lib.hid (fun o => by have c := readNumber_any (h.grow ((Below.refl _ _).alloc (Nat.le_refl _) o)) q a m f e t1 t2 hn; rw [hc, wd_in (by omega)] at c; exact c)
  clear ha hc h hn
  generalize (if t1 || t2 then (17 : Int) else 16) = k at HN ⊢
  go_enter Tryz.func23, Tryz.ntmps23
  go_wp2_with (first | (go_at_call 25; refine (HP.out _).mono ?_; rintro r w' ⟨rfl, rfl⟩) | (go_at_call 27; refine (HR.out _).mono ?_; rintro r w' ⟨rfl, rfl⟩) | (go_at_call 30; refine (HN.out _).mono ?_; rintro r w' ⟨rfl, hb⟩; obtain ⟨⟨c0, c1, c2, c3⟩, ⟨z0, z1, z2, z3⟩, hz, hB⟩ := kept4 hb; clear hb))
  obtain ⟨q0, q1, q2, q3⟩ := set4 c0 c1 c2 c3 (.int .i64 k) (.int .i64 q) (.int .i64 e) (.string (s.extract q e))
  refine bodyPost_ret (v := .tuple #[.agg #[.int .i64 k, .int .i64 q, .int .i64 e, .string (s.extract q e)], .nilIface]) (by simp [results, Tryz.results23, go_sem, q0, q1, q2, q3, hz]) rfl ⟨rfl, (below_set4 hB (Nat.le_refl _) _ _ _ _).alloc (by simp; omega) _⟩

set_option maxHeartbeats 2000000 in
set_option maxRecDepth 100000 in
theorem tok_d54 (s : ByteArray) (p q a m f e : Nat) (t1 t2 : Bool) (ha : Ahead s p q) (hc : cd s q = 54) (hn : Num s q a m f e t1 t2) : Tok s p (if t1 || t2 then 17 else 16) q e (s.extract q e) := by
  intro w sb b cap h
  have hlt := h.lts
  have hhd := h.head
  have hq := ha.size
  have hs := h.size
  have HP : Hid (∀ o, Calls Tryz.prog 25 #[.slice (some ⟨b, 0, none⟩) s.size cap, .int .i64 (p : Int)] (w.alloc o) fun e w' => e = .returned (.tuple #[.int .i64 (q : Int), .int .i64 (q : Int)]) ∧ (w.alloc o) = w') :=
    Lib.hid (fun o => pos_at ha (by rw [hc]; refine ⟨?_, ?_, ?_, ?_, ?_, ?_, ?_⟩ <;> decide) (h.grow ((Below.refl _ _).alloc (Nat.le_refl _) o)))
  have HR : Hid (∀ o, Calls Tryz.prog 27 #[.slice (some ⟨b, 0, none⟩) s.size cap, .int .i64 (q : Int)] (w.alloc o) fun e w' => e = .returned (.tuple #[.int .i32 54, .int .i64 1]) ∧ (w.alloc o) = w') :=
    Lib.hid (fun o => by have c := runeAt_any (h.grow ((Below.refl _ _).alloc (Nat.le_refl _) o)) q (by omega); rw [hc, wd_in (by omega)] at c; exact c)
  have HN : Hid (∀ o, Calls Tryz.prog 30 #[.pointer (some ⟨sb, 0, none⟩), .int .i64 (q : Int), .int .i32 54, .int .i64 1] (w.alloc o) fun r w' => r = .returned (.tuple #[.agg #[.int .i64 (if t1 || t2 then 17 else 16), .int .i64 q, .int .i64 e, .string (s.extract q e)], .nilIface]) ∧ Below (w.alloc o).heap.size (w.alloc o) w') :=
    Lib.hid (fun o => by have c := readNumber_any (h.grow ((Below.refl _ _).alloc (Nat.le_refl _) o)) q a m f e t1 t2 hn; rw [hc, wd_in (by omega)] at c; exact c)
  clear ha hc h hn
  generalize (if t1 || t2 then (17 : Int) else 16) = k at HN ⊢
  go_enter Tryz.func23, Tryz.ntmps23
  go_wp2_with (first | (go_at_call 25; refine (HP.out _).mono ?_; rintro r w' ⟨rfl, rfl⟩) | (go_at_call 27; refine (HR.out _).mono ?_; rintro r w' ⟨rfl, rfl⟩) | (go_at_call 30; refine (HN.out _).mono ?_; rintro r w' ⟨rfl, hb⟩; obtain ⟨⟨c0, c1, c2, c3⟩, ⟨z0, z1, z2, z3⟩, hz, hB⟩ := kept4 hb; clear hb))
  obtain ⟨q0, q1, q2, q3⟩ := set4 c0 c1 c2 c3 (.int .i64 k) (.int .i64 q) (.int .i64 e) (.string (s.extract q e))
  refine bodyPost_ret (v := .tuple #[.agg #[.int .i64 k, .int .i64 q, .int .i64 e, .string (s.extract q e)], .nilIface]) (by simp [results, Tryz.results23, go_sem, q0, q1, q2, q3, hz]) rfl ⟨rfl, (below_set4 hB (Nat.le_refl _) _ _ _ _).alloc (by simp; omega) _⟩

set_option maxHeartbeats 2000000 in
set_option maxRecDepth 100000 in
theorem tok_d55 (s : ByteArray) (p q a m f e : Nat) (t1 t2 : Bool) (ha : Ahead s p q) (hc : cd s q = 55) (hn : Num s q a m f e t1 t2) : Tok s p (if t1 || t2 then 17 else 16) q e (s.extract q e) := by
  intro w sb b cap h
  have hlt := h.lts
  have hhd := h.head
  have hq := ha.size
  have hs := h.size
  have HP : Hid (∀ o, Calls Tryz.prog 25 #[.slice (some ⟨b, 0, none⟩) s.size cap, .int .i64 (p : Int)] (w.alloc o) fun e w' => e = .returned (.tuple #[.int .i64 (q : Int), .int .i64 (q : Int)]) ∧ (w.alloc o) = w') :=
    Lib.hid (fun o => pos_at ha (by rw [hc]; refine ⟨?_, ?_, ?_, ?_, ?_, ?_, ?_⟩ <;> decide) (h.grow ((Below.refl _ _).alloc (Nat.le_refl _) o)))
  have HR : Hid (∀ o, Calls Tryz.prog 27 #[.slice (some ⟨b, 0, none⟩) s.size cap, .int .i64 (q : Int)] (w.alloc o) fun e w' => e = .returned (.tuple #[.int .i32 55, .int .i64 1]) ∧ (w.alloc o) = w') :=
    Lib.hid (fun o => by have c := runeAt_any (h.grow ((Below.refl _ _).alloc (Nat.le_refl _) o)) q (by omega); rw [hc, wd_in (by omega)] at c; exact c)
  have HN : Hid (∀ o, Calls Tryz.prog 30 #[.pointer (some ⟨sb, 0, none⟩), .int .i64 (q : Int), .int .i32 55, .int .i64 1] (w.alloc o) fun r w' => r = .returned (.tuple #[.agg #[.int .i64 (if t1 || t2 then 17 else 16), .int .i64 q, .int .i64 e, .string (s.extract q e)], .nilIface]) ∧ Below (w.alloc o).heap.size (w.alloc o) w') :=
    Lib.hid (fun o => by have c := readNumber_any (h.grow ((Below.refl _ _).alloc (Nat.le_refl _) o)) q a m f e t1 t2 hn; rw [hc, wd_in (by omega)] at c; exact c)
  clear ha hc h hn
  generalize (if t1 || t2 then (17 : Int) else 16) = k at HN ⊢
  go_enter Tryz.func23, Tryz.ntmps23
  go_wp2_with (first | (go_at_call 25; refine (HP.out _).mono ?_; rintro r w' ⟨rfl, rfl⟩) | (go_at_call 27; refine (HR.out _).mono ?_; rintro r w' ⟨rfl, rfl⟩) | (go_at_call 30; refine (HN.out _).mono ?_; rintro r w' ⟨rfl, hb⟩; obtain ⟨⟨c0, c1, c2, c3⟩, ⟨z0, z1, z2, z3⟩, hz, hB⟩ := kept4 hb; clear hb))
  obtain ⟨q0, q1, q2, q3⟩ := set4 c0 c1 c2 c3 (.int .i64 k) (.int .i64 q) (.int .i64 e) (.string (s.extract q e))
  refine bodyPost_ret (v := .tuple #[.agg #[.int .i64 k, .int .i64 q, .int .i64 e, .string (s.extract q e)], .nilIface]) (by simp [results, Tryz.results23, go_sem, q0, q1, q2, q3, hz]) rfl ⟨rfl, (below_set4 hB (Nat.le_refl _) _ _ _ _).alloc (by simp; omega) _⟩

set_option maxHeartbeats 2000000 in
set_option maxRecDepth 100000 in
theorem tok_d56 (s : ByteArray) (p q a m f e : Nat) (t1 t2 : Bool) (ha : Ahead s p q) (hc : cd s q = 56) (hn : Num s q a m f e t1 t2) : Tok s p (if t1 || t2 then 17 else 16) q e (s.extract q e) := by
  intro w sb b cap h
  have hlt := h.lts
  have hhd := h.head
  have hq := ha.size
  have hs := h.size
  have HP : Hid (∀ o, Calls Tryz.prog 25 #[.slice (some ⟨b, 0, none⟩) s.size cap, .int .i64 (p : Int)] (w.alloc o) fun e w' => e = .returned (.tuple #[.int .i64 (q : Int), .int .i64 (q : Int)]) ∧ (w.alloc o) = w') :=
    Lib.hid (fun o => pos_at ha (by rw [hc]; refine ⟨?_, ?_, ?_, ?_, ?_, ?_, ?_⟩ <;> decide) (h.grow ((Below.refl _ _).alloc (Nat.le_refl _) o)))
  have HR : Hid (∀ o, Calls Tryz.prog 27 #[.slice (some ⟨b, 0, none⟩) s.size cap, .int .i64 (q : Int)] (w.alloc o) fun e w' => e = .returned (.tuple #[.int .i32 56, .int .i64 1]) ∧ (w.alloc o) = w') :=
    Lib.hid (fun o => by have c := runeAt_any (h.grow ((Below.refl _ _).alloc (Nat.le_refl _) o)) q (by omega); rw [hc, wd_in (by omega)] at c; exact c)
  have HN : Hid (∀ o, Calls Tryz.prog 30 #[.pointer (some ⟨sb, 0, none⟩), .int .i64 (q : Int), .int .i32 56, .int .i64 1] (w.alloc o) fun r w' => r = .returned (.tuple #[.agg #[.int .i64 (if t1 || t2 then 17 else 16), .int .i64 q, .int .i64 e, .string (s.extract q e)], .nilIface]) ∧ Below (w.alloc o).heap.size (w.alloc o) w') :=
    Lib.hid (fun o => by have c := readNumber_any (h.grow ((Below.refl _ _).alloc (Nat.le_refl _) o)) q a m f e t1 t2 hn; rw [hc, wd_in (by omega)] at c; exact c)
  clear ha hc h hn
  generalize (if t1 || t2 then (17 : Int) else 16) = k at HN ⊢
  go_enter Tryz.func23, Tryz.ntmps23
  go_wp2_with (first | (go_at_call 25; refine (HP.out _).mono ?_; rintro r w' ⟨rfl, rfl⟩) | (go_at_call 27; refine (HR.out _).mono ?_; rintro r w' ⟨rfl, rfl⟩) | (go_at_call 30; refine (HN.out _).mono ?_; rintro r w' ⟨rfl, hb⟩; obtain ⟨⟨c0, c1, c2, c3⟩, ⟨z0, z1, z2, z3⟩, hz, hB⟩ := kept4 hb; clear hb))
  obtain ⟨q0, q1, q2, q3⟩ := set4 c0 c1 c2 c3 (.int .i64 k) (.int .i64 q) (.int .i64 e) (.string (s.extract q e))
  refine bodyPost_ret (v := .tuple #[.agg #[.int .i64 k, .int .i64 q, .int .i64 e, .string (s.extract q e)], .nilIface]) (by simp [results, Tryz.results23, go_sem, q0, q1, q2, q3, hz]) rfl ⟨rfl, (below_set4 hB (Nat.le_refl _) _ _ _ _).alloc (by simp; omega) _⟩

set_option maxHeartbeats 2000000 in
set_option maxRecDepth 100000 in
theorem tok_d57 (s : ByteArray) (p q a m f e : Nat) (t1 t2 : Bool) (ha : Ahead s p q) (hc : cd s q = 57) (hn : Num s q a m f e t1 t2) : Tok s p (if t1 || t2 then 17 else 16) q e (s.extract q e) := by
  intro w sb b cap h
  have hlt := h.lts
  have hhd := h.head
  have hq := ha.size
  have hs := h.size
  have HP : Hid (∀ o, Calls Tryz.prog 25 #[.slice (some ⟨b, 0, none⟩) s.size cap, .int .i64 (p : Int)] (w.alloc o) fun e w' => e = .returned (.tuple #[.int .i64 (q : Int), .int .i64 (q : Int)]) ∧ (w.alloc o) = w') :=
    Lib.hid (fun o => pos_at ha (by rw [hc]; refine ⟨?_, ?_, ?_, ?_, ?_, ?_, ?_⟩ <;> decide) (h.grow ((Below.refl _ _).alloc (Nat.le_refl _) o)))
  have HR : Hid (∀ o, Calls Tryz.prog 27 #[.slice (some ⟨b, 0, none⟩) s.size cap, .int .i64 (q : Int)] (w.alloc o) fun e w' => e = .returned (.tuple #[.int .i32 57, .int .i64 1]) ∧ (w.alloc o) = w') :=
    Lib.hid (fun o => by have c := runeAt_any (h.grow ((Below.refl _ _).alloc (Nat.le_refl _) o)) q (by omega); rw [hc, wd_in (by omega)] at c; exact c)
  have HN : Hid (∀ o, Calls Tryz.prog 30 #[.pointer (some ⟨sb, 0, none⟩), .int .i64 (q : Int), .int .i32 57, .int .i64 1] (w.alloc o) fun r w' => r = .returned (.tuple #[.agg #[.int .i64 (if t1 || t2 then 17 else 16), .int .i64 q, .int .i64 e, .string (s.extract q e)], .nilIface]) ∧ Below (w.alloc o).heap.size (w.alloc o) w') :=
    Lib.hid (fun o => by have c := readNumber_any (h.grow ((Below.refl _ _).alloc (Nat.le_refl _) o)) q a m f e t1 t2 hn; rw [hc, wd_in (by omega)] at c; exact c)
  clear ha hc h hn
  generalize (if t1 || t2 then (17 : Int) else 16) = k at HN ⊢
  go_enter Tryz.func23, Tryz.ntmps23
  go_wp2_with (first | (go_at_call 25; refine (HP.out _).mono ?_; rintro r w' ⟨rfl, rfl⟩) | (go_at_call 27; refine (HR.out _).mono ?_; rintro r w' ⟨rfl, rfl⟩) | (go_at_call 30; refine (HN.out _).mono ?_; rintro r w' ⟨rfl, hb⟩; obtain ⟨⟨c0, c1, c2, c3⟩, ⟨z0, z1, z2, z3⟩, hz, hB⟩ := kept4 hb; clear hb))
  obtain ⟨q0, q1, q2, q3⟩ := set4 c0 c1 c2 c3 (.int .i64 k) (.int .i64 q) (.int .i64 e) (.string (s.extract q e))
  refine bodyPost_ret (v := .tuple #[.agg #[.int .i64 k, .int .i64 q, .int .i64 e, .string (s.extract q e)], .nilIface]) (by simp [results, Tryz.results23, go_sem, q0, q1, q2, q3, hz]) rfl ⟨rfl, (below_set4 hB (Nat.le_refl _) _ _ _ _).alloc (by simp; omega) _⟩

end Go.Proofs.YtbojlohjmbhifaaGreatDoor
