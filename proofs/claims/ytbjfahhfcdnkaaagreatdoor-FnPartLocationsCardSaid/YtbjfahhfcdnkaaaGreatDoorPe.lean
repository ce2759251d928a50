/- The parser made: 'begin'. -/
import Derived.Test.YtbjfahhfcdnkaaaGreatDoorPd
import Derived.Test.YtbjfahhfcdnkaaaGreatDoorPn
namespace Go.Proofs.YtbjfahhfcdnkaaaGreatDoor
open Go.RowKit Go.Proofs.YtbjfahhfcdnkaaaGreatDoorW.PrintWords Go.Proofs.YtbjfahhfcdnkaaaGreatDoorW.PrintMore

theorem clo_new {w : World} {sb b cap : Nat} {s : ByteArray} (h : Src w sb b cap s) (t2 : TypeId) (o0 : Obj) : Clo (((w.alloc o0).alloc (.cells #[.pointer (some ⟨sb, 0, none⟩)] t2)).alloc (.cells #[.int .i64 0] 3)) sb b cap s (w.heap.size + 1 + 1) (w.heap.size + 1) 0 := by
  have h1 := h.lts
  have h2 := h.ltb
  have hs := h.grow ((((Below.refl _ _).alloc (Nat.le_refl _) o0).alloc (by simp) (.cells #[.pointer (some ⟨sb, 0, none⟩)] t2)).alloc (by simp; omega) (.cells #[.int .i64 0] 3))
  refine ⟨hs, (World.cell?_alloc_at _ _ _ _ (by simp)).trans rfl, World.frozen?_alloc_at _ _ _ _ (by simp), ?_, by simp, by simp, by omega, by omega, by omega⟩
  rw [World.cell?_alloc_past _ _ _ (by simp)]
  exact (World.cell?_alloc_at _ _ _ _ (by simp)).trans rfl

theorem prs_made {w : World} {sb b cap : Nat} {s : ByteArray} {P1 P2 e : Nat} (h : Clo w sb b cap s P1 P2 e) (k : Int) (q : Nat) (e' : Nat) (v : ByteArray) (ty : TypeId) (he : e = e' := by rfl) :
    Prs (w.alloc (.cells #[.func (.func 133) #[] #[.pointer (some ⟨P1, 0, none⟩), .pointer (some ⟨P2, 0, none⟩)], .pointer (some ⟨sb, 0, none⟩), .bool false, .bool false, .int .i64 0, .int .i64 k, .int .i64 (q : Int), .int .i64 (e' : Int), .string v] ty)) w.heap.size sb b cap s P1 P2 0 ⟨k, q, e', v⟩ := by
  subst he
  have hc : ∀ i : Nat, (w.alloc (.cells #[.func (.func 133) #[] #[.pointer (some ⟨P1, 0, none⟩), .pointer (some ⟨P2, 0, none⟩)], .pointer (some ⟨sb, 0, none⟩), .bool false, .bool false, .int .i64 0, .int .i64 k, .int .i64 (q : Int), .int .i64 (e : Int), .string v] ty)).cell? ⟨w.heap.size, i, none⟩ = (#[.func (.func 133) #[] #[.pointer (some ⟨P1, 0, none⟩), .pointer (some ⟨P2, 0, none⟩)], .pointer (some ⟨sb, 0, none⟩), .bool false, .bool false, .int .i64 0, .int .i64 k, .int .i64 (q : Int), .int .i64 (e : Int), .string v] : Array Value)[i]? := fun i => World.cell?_alloc_at _ _ _ _ rfl
  have h1 := h.lts (.inl rfl)
  have h2 := h.lts (.inr (.inl rfl))
  have h3 := h.lts (.inr (.inr (.inl rfl)))
  have h4 := h.lts (.inr (.inr (.inr rfl)))
  exact ⟨hc 0, hc 1, hc 2, hc 3, hc 4, hc 5, hc 6, hc 7, hc 8, fun i => World.frozen?_alloc_at _ _ _ _ rfl, h.alloc _, by simp, by omega, by omega, by omega, by omega⟩

set_option maxHeartbeats 2000000 in
set_option maxRecDepth 100000 in
theorem makeParser_any {w : World} {sb b cap : Nat} {s : ByteArray} (h : Src w sb b cap s) (k : Int) (q e : Nat) (v : ByteArray) (ht : Tok s 0 k q e v) :
    Calls Tryz.prog 28 #[.pointer (some ⟨sb, 0, none⟩), .agg #[.bool false, .bool false]] w fun r w' => (∃ pb P1 P2, r = .returned (.tuple #[.pointer (some ⟨pb, 0, none⟩), .nilIface]) ∧ Prs w' pb sb b cap s P1 P2 0 ⟨k, q, e, v⟩ ∧ w.heap.size ≤ pb ∧ w.heap.size ≤ P1) ∧ Below w.heap.size w w' := by
  have HC := Lib.hid (fun t2 o0 => clo_new h t2 o0)
  have HT := Lib.hid ht
  have HS := Lib.hid h
  clear h ht
  go_enter Tryz.func28, Tryz.ntmps28
  go_wp2_with (first | (go_at_call 74; refine (lex_any _ _).mono ?_; rintro r w' ⟨rfl, rfl⟩))
  refine (lex_tok (HC.out _ _) k q e v HT.out).mono ?_
  rintro r w1 ⟨rfl, hg, g1, g2⟩
  have hgs := hg.size
  simp only [World.size_alloc] at hgs
  have hob : ∀ i : Nat, w1.cell? ⟨w.heap.size, i, none⟩ = (#[.bool false, .bool false] : Array Value)[i]? := fun i => by
    rw [hg.cell_far ⟨w.heap.size, i, none⟩ (by show w.heap.size < _; simp; omega) (by intro e; have e2 := Option.some.inj e; change w.heap.size = _ at e2; omega), World.cell?_alloc_past _ _ _ (by show w.heap.size < _; simp; omega), World.cell?_alloc_past _ _ _ (by show w.heap.size < _; simp)]
    exact World.cell?_alloc_at _ _ _ _ rfl
  have o0 := hob 0
  have o1 := hob 1
  have HG := Lib.hid hg
  have HGS := Lib.hid hgs
  clear hob hg hgs
  change w1.cell? ⟨w.heap.size, 0, none⟩ = some (.bool false) at o0
  change w1.cell? ⟨w.heap.size, 1, none⟩ = some (.bool false) at o1
  have ho : w.heap.size < w1.heap.size := by have := HGS.out; omega
  go_wp2_with fail
  go_ret2
  have hcl := (HC.out 58 (.cells #[.bool false, .bool false] 60)).next HG.out g1 g2
  have hg := HGS.out
  have hb3 : ∀ o o' o'', Below w.heap.size w (((w.alloc o).alloc o').alloc o'') := fun o o' o'' => ((((Below.refl w.heap.size w).alloc (Nat.le_refl _) o).alloc (by simp) o').alloc (by simp; omega) o'')
  have hbel : Below w.heap.size w w1 := (hb3 _ _ _).grown HG.out (by simp; omega) (fun k hk => by injection hk; omega)
  have hb5 : ∀ o o', Below w.heap.size w ((w1.alloc o).alloc o') := fun o o' => ((hbel.alloc hbel.size o).alloc (by simp; omega) o')
  have hpm := prs_made (hcl.alloc (.cells #[.int .i64 k, .int .i64 (q : Int), .int .i64 (e : Int), .string v] 55)) k q e v 62
  rw [World.size_alloc] at hpm
  exact ⟨⟨w1.heap.size + 1, w.heap.size + 1 + 1, w.heap.size + 1, rfl, hpm, by omega, by omega⟩, hb5 _ _⟩

theorem src_new {w W1 : World} {cap : Nat} {s g : ByteArray} {ty : TypeId} (hz : w.heap.size < W1.heap.size)
    (hC : ∀ (j : Nat) (h : j < s.size), W1.cell? ⟨w.heap.size, j, none⟩ = some (.int .u8 ((s[j]'h).toNat : Int))) (hcap : s.size ≤ cap) (hs : s.size ≤ 4294967295) (ha : ∀ (j : Nat) (h : j < s.size), (s[j]'h).toNat < 128) :
    Src (W1.alloc (.cells #[.slice (some ⟨w.heap.size, 0, none⟩) s.size cap, .string g] ty)) W1.heap.size w.heap.size cap s :=
  ⟨(World.cell?_alloc_at _ _ _ _ rfl).trans rfl, fun j h => (World.cell?_alloc_past _ _ _ hz).trans (hC j h), hcap, by simp, by simp; omega, by omega, ha⟩

set_option maxHeartbeats 2000000 in
set_option maxRecDepth 100000 in
theorem begin_any (s : ByteArray) (hs : s.size ≤ 4294967295) (ha : ∀ (j : Nat) (h : j < s.size), (s[j]'h).toNat < 128) (k : Int) (q e : Nat) (v : ByteArray) (ht : Tok s 0 k q e v) (w : World) :
    Calls Tryz.prog 14 #[.string s] w fun r w' => (∃ pb sb b cap P1 P2, r = .returned (.tuple #[.pointer (some ⟨pb, 0, none⟩), .nilIface]) ∧ Prs w' pb sb b cap s P1 P2 0 ⟨k, q, e, v⟩ ∧ w.heap.size ≤ pb ∧ w.heap.size ≤ P1) ∧ Below w.heap.size w w' := by
  have hcv := Lib.run_convert_string_bytes (P := Tryz.prog) w 9 31 5 s (u := .string) Tryz.underlying9 Tryz.underlying31 Tryz.underlying5
  have hsz := Lib.bytesWorld_size w 5 s
  have hbw := bytes_below (Below.refl w.heap.size w) (Nat.le_refl _) 5 s
  have hC : ∀ (j : Nat) (h : j < s.size), (Lib.bytesWorld w 5 s).cell? ⟨w.heap.size, j, none⟩ = some (.int .u8 ((s[j]'h).toNat : Int)) := by
    intro j h
    rw [Lib.bytesWorld_cell w 5 s j h]
    have h' : j < s.data.toList.length := by rw [Array.length_toList]; exact h
    simp [List.getD_eq_getElem?_getD, List.getElem?_eq_getElem h']
    rfl
  have hcap := grownCap_ge w s.size 0 5
  generalize Lib.bytesWorld w 5 s = W1 at *
  generalize grownCap w s.size 0 5 = cap at *
  have hz1 : w.heap.size < W1.heap.size := by omega
  have HM := Lib.hid (fun g ty => makeParser_any (src_new (g := g) (ty := ty) hz1 hC hcap hs ha) k q e v ht)
  have HBW := Lib.hid hbw
  clear hC ha ht hbw hsz
  go_enter Tryz.func14, Tryz.ntmps14
  go_wp2_with fail
  refine (newSource_any _ _ _ _).mono ?_
  rintro r w' ⟨rfl, rfl⟩
  go_wp2_with fail
  refine (HM.out _ _).mono ?_
  rintro r w2 ⟨⟨pb, P1, P2, rfl, hp, hb1, hb2⟩, hB⟩
  go_wp2_with fail
  go_ret2
  have h0 := HBW.out.size
  simp only [World.size_alloc] at hb1 hb2
  exact ⟨⟨pb, _, _, _, P1, P2, rfl, hp, by omega, by omega⟩, (HBW.out.alloc h0 _).trans (hB.mono (by simp; omega))⟩
end Go.Proofs.YtbjfahhfcdnkaaaGreatDoor
