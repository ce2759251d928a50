/- The reference's lexer at a quotation mark. -/
import Derived.Test.YtbojlohjmbhifaaGreatDoorSp
namespace Go.Proofs.YtbojlohjmbhifaaGreatDoor
open Go.RowKit Go.Proofs.YtbojlohjmbhifaaGreatDoorW.PrintWords Go.Proofs.YtbojlohjmbhifaaGreatDoorW.PrintMore

set_option maxHeartbeats 1000000 in
set_option maxRecDepth 100000 in
theorem sign_quote (w : World) : Calls Tryz.prog 45 #[.int .u8 34] w fun r w' => r = .returned (.int .i64 0) ∧ w = w' := by
  go_enter Tryz.func45, Tryz.ntmps45
  go_wp2_with fail
  go_ret
  exact ⟨rfl, rfl⟩
set_option maxHeartbeats 1000000 in
set_option maxRecDepth 100000 in
theorem begin_quote (w : World) : Calls Tryz.prog 46 #[.int .u8 34] w fun r w' => r = .returned (.bool false) ∧ w = w' := by
  go_enter Tryz.func46, Tryz.ntmps46
  go_wp2_with fail
  go_ret
  exact ⟨rfl, rfl⟩
set_option maxHeartbeats 1000000 in
set_option maxRecDepth 100000 in
theorem isdigit_quote (w : World) : Calls Tryz.prog 48 #[.int .u8 34] w fun r w' => r = .returned (.bool false) ∧ w = w' := by
  go_enter Tryz.func48, Tryz.ntmps48
  go_wp2_with fail
  go_ret
  exact ⟨rfl, rfl⟩

theorem extract_ne {s t : ByteArray} {q j : Nat} (hj : j < t.size) (hd : bt s (q + j : Nat) ≠ bt t (j : Nat)) : q + t.size ≤ s.size → s.extract q (q + t.size) ≠ t := by
  intro hle e
  refine hd ?_
  have hl := extract_list s q (q + t.size) hle
  have h1 : j < (s.extract q (q + t.size)).data.toList.length := by omega
  have hg := extract_get s q (q + t.size) j hle h1
  have h2 : j < t.data.toList.length := by rw [size_list]; exact hj
  have h3 : q + j < s.data.toList.length := by rw [size_list]; omega
  rw [bt_list h3, bt_list h2]
  have e2 : (s.extract q (q + t.size)).data.toList[j]'h1 = t.data.toList[j]'h2 := by simp only [e]
  have e3 : s[q + j]'(by omega) = s.data.toList[q + j]'h3 := by rw [Array.getElem_toList]; rfl
  rw [← e2, hg, e3]

set_option maxHeartbeats 2000000 in
set_option maxRecDepth 100000 in
theorem token_quote {w : World} {x : Nat} {s : ByteArray} {p : Nat} {out : Value} (h : Lxr w x s p out false false) (hp : p < s.size) (hs : s.size ≤ 4294967295) (hq : bt s p = 34) (hn : bt s (p + 1 : Nat) ≠ 34) (R : World → Prop)
    (HT : ∀ m, Calls Tryz.prog 51 #[.pointer (some ⟨x, 0, none⟩)] (w.drewN m) fun r w' => r = .returned (.tuple #[]) ∧ R w') :
    Calls Tryz.prog 33 #[.pointer (some ⟨x, 0, none⟩)] w fun r w' => r = .returned (.tuple #[]) ∧ R w' := by
  have h0 := h.c0
  have h1 := h.c1
  have hps : (p : Int) < s.size := by omega
  have hp0 : (0 : Int) ≤ p := by omega
  have hx4 : ∀ h : p < s.size, ((s[p]'h).toNat : Int) = 34 := fun h => (bt_at s p h).trans hq
  have S1 := Lib.hid (fun W => starts_not s ⟨#[239, 187, 191]⟩ p (by omega) hs (by decide) (extract_ne (j := 0) (by decide) (by rw [Nat.add_zero, hq]; decide)) W)
  have S2 := Lib.hid (fun W => starts_not s ⟨#[46, 46, 46]⟩ p (by omega) hs (by decide) (extract_ne (j := 0) (by decide) (by rw [Nat.add_zero, hq]; decide)) W)
  have S3 := Lib.hid (fun W => starts_not s ⟨#[34, 34, 34]⟩ p (by omega) hs (by decide) (extract_ne (j := 1) (by decide) (by intro e; exact hn (e.trans (by decide)))) W)
  have HT' := Lib.hid HT
  clear h hq hn HT
  go_enter Tryz.func33, Tryz.ntmps33
  go_wp2_with fail
  go_quiet (fail)
  go_wp2_with fail
  go_quiet (first | (go_at_call 42; refine (S1.out _).mono ?_; rintro r w1 ⟨rfl, rfl⟩; exact ⟨rfl, _, rfl⟩))
  go_wp2_with fail
  go_quiet (first | (go_at_call 42; refine (S2.out _).mono ?_; rintro r w1 ⟨rfl, rfl⟩; exact ⟨rfl, _, rfl⟩))
  go_wp2_with (first | (go_at_call 45; refine (sign_quote _).mono ?_; rintro r w1 ⟨rfl, rfl⟩) | (go_at_call 46; refine (begin_quote _).mono ?_; rintro r w1 ⟨rfl, rfl⟩) | (go_at_call 48; refine (isdigit_quote _).mono ?_; rintro r w1 ⟨rfl, rfl⟩; exact ⟨rfl, _, rfl⟩))
  refine (isdigit_quote _).mono ?_
  rintro r w1 ⟨rfl, rfl⟩
  go_wp2_with fail
  go_quiet (first | (go_at_call 42; refine (S3.out _).mono ?_; rintro r w1 ⟨rfl, rfl⟩; exact ⟨rfl, _, rfl⟩))
  go_wp2_with (first | (go_at_call 51; refine (HT'.out _).mono ?_; rintro r w1 ⟨rfl, hR⟩))
  go_end0
  exact ⟨rfl, hR⟩

/-- The reference's lexer, just made. -/
theorem lxr_new (w : World) (s : ByteArray) : Lxr (w.alloc (.cells #[.string s, .int .i64 0, .slice none 0 0, .bool false, .bool false] 69)) w.heap.size s 0 (.slice none 0 0) false false := by
  refine ⟨?_, ?_, ?_, ?_, ?_, ?_, ?_, ?_, ?_⟩
  · rw [World.cell?_alloc_at _ _ _ _ rfl]; rfl
  · rw [World.cell?_alloc_at _ _ _ _ rfl]; rfl
  · rw [World.cell?_alloc_at _ _ _ _ rfl]; rfl
  · rw [World.cell?_alloc_at _ _ _ _ rfl]; rfl
  · rw [World.cell?_alloc_at _ _ _ _ rfl]; rfl
  all_goals exact World.frozen?_alloc_at _ _ _ _ rfl

set_option maxHeartbeats 2000000 in
set_option maxRecDepth 100000 in
theorem lexed_bad (s : ByteArray) (h0 : 0 < s.size) (hs : s.size ≤ 4294967295) (w : World)
    (HT : ∀ W x, Lxr W x s 0 (.slice none 0 0) false false → Calls Tryz.prog 33 #[.pointer (some ⟨x, 0, none⟩)] W (Failed x s false W)) :
    Calls Tryz.prog 24 #[.string s] w fun r w' => (∃ out, r = .returned (.tuple #[out, .bool false, .bool true])) ∧ Below w.heap.size w w' := by
  have H := Lib.hid HT
  have HN := Lib.hid (lxr_new w s)
  have HB := Lib.hid ((Below.refl w.heap.size w).alloc (Nat.le_refl _) (.cells #[.string s, .int .i64 0, .slice none 0 0, .bool false, .bool false] 69))
  clear HT
  have hss : (0 : Int) < s.size := by omega
  go_enter Tryz.func24, Tryz.ntmps24
  go_wp2_with fail
  go_loopg [9] 1 (fun gk _ wr => ((gk = 1 ∧ Hid (Lxr wr w.heap.size s 0 (.slice none 0 0) false false)) ∨ (gk = 0 ∧ ∃ p out, Hid (Lxr wr w.heap.size s p out true false))) ∧ Hid (Below w.heap.size w wr))
  case atStart => exact ⟨.inl ⟨rfl, HN⟩, HB⟩
  case round =>
    obtain ⟨hl, hb⟩ := hrel
    rcases hl with ⟨rfl, hl⟩ | ⟨rfl, p, out, hl⟩
    · have g0 := hl.out.c0
      have g1 := hl.out.c1
      have g3 := hl.out.c3
      go_wp2_with (first | (go_at_call 33; refine (H.out _ _ hl.out).mono ?_; rintro r w1 ⟨rfl, ⟨p, out, hl2⟩, hb2⟩))
      go_roundg 0
      case measure => omega
      case rel => exact ⟨.inr ⟨rfl, p, out, Lib.hid hl2⟩, Lib.hid (hb.out.trans hb2)⟩
    · have g0 := hl.out.c0
      have g1 := hl.out.c1
      have g2 := hl.out.c2
      have g3 := hl.out.c3
      have g4 := hl.out.c4
      go_wp2_with fail
      go_quiet (fail)
      go_wp2_with fail
      refine bodyPost_ret (v := .tuple #[out, .bool false, .bool true]) (by simp [results, Tryz.results24, go_sem]) rfl ⟨⟨out, rfl⟩, ?_⟩
      exact hb.out.trans (Drawn0.below ⟨⟨_, rfl⟩⟩ |>.mono hb.out.size)

set_option maxHeartbeats 2000000 in
set_option maxRecDepth 100000 in
theorem lexs_bad (s : ByteArray) (h0 : 0 < s.size) (hs : s.size ≤ 4294967295) (w : World)
    (HT : ∀ W x, Lxr W x s 0 (.slice none 0 0) false false → Calls Tryz.prog 33 #[.pointer (some ⟨x, 0, none⟩)] W (Failed x s false W)) :
    Calls Tryz.prog 21 #[.string s] w fun r w' => r = .returned (.tuple #[.slice none 0 0, .bool false, .bool true]) ∧ Below w.heap.size w w' := by
  have H := Lib.hid (fun W => lexed_bad s h0 hs W HT)
  clear HT
  go_enter Tryz.func21, Tryz.ntmps21
  go_wp2_with (first | (go_at_call 24; refine (H.out _).mono ?_; rintro r w1 ⟨⟨out, rfl⟩, hb⟩))
  refine bodyPost_ret (v := .tuple #[.slice none 0 0, .bool false, .bool true]) (by simp [results, Tryz.results21, go_sem]) rfl ⟨rfl, hb⟩

set_option maxHeartbeats 2000000 in
set_option maxRecDepth 100000 in
/-- A text that is refused at its first token: the reference is sure of it. -/
theorem sure_bad (s : ByteArray) (h0 : 0 < s.size) (hs : s.size ≤ 4294967295) (w : World)
    (HT : ∀ W x, Lxr W x s 0 (.slice none 0 0) false false → Calls Tryz.prog 33 #[.pointer (some ⟨x, 0, none⟩)] W (Failed x s false W)) :
    Calls Tryz.prog 11 #[.string s] w fun r w' => r = .returned (.bool true) ∧ Below w.heap.size w w' := by
  have H := Lib.hid (fun W => lexs_bad s h0 hs W HT)
  clear HT
  go_enter Tryz.func11, Tryz.ntmps11
  go_wp2_with (first | (go_at_call 21; refine (H.out _).mono ?_; rintro r w1 ⟨rfl, hb⟩))
  go_ret
  exact ⟨rfl, hb⟩
end Go.Proofs.YtbojlohjmbhifaaGreatDoor
