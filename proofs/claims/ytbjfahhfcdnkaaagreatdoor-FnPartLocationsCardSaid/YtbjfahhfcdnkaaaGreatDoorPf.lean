/- A part read: 'part', 'parser.ReadPart'. -/
import Derived.Test.YtbjfahhfcdnkaaaGreatDoorPe
namespace Go.Proofs.YtbjfahhfcdnkaaaGreatDoor
open Go.RowKit Go.Proofs.YtbjfahhfcdnkaaaGreatDoorW.PrintWords Go.Proofs.YtbjfahhfcdnkaaaGreatDoorW.PrintMore

/-- A list of nodes, as values of interfaces of type ty. -/
def Parts (A : World → Nat → Option Nat → Nat → ByteArray → Prop) (ty : TypeId) (w : World) (N : Nat) (v : Value) (names : List ByteArray) : Prop :=
  ∃ (gs : List Nat) (B : Option Addr) (c : Nat), v = .slice B names.length c ∧ gs.length = names.length ∧ RowV w B (gs.map (fun g => Value.iface ty (ptr g))) ∧ Nodes (A w N none) gs names

set_option maxHeartbeats 2000000 in
set_option maxRecDepth 100000 in
theorem part_impl {w : World} {pb sb b cap : Nat} {s : ByteArray} {P1 P2 : Nat} {pe : Int} {t : T} (h : Prs w pb sb b cap s P1 P2 pe t) (hv : t.v = ⟨#[105, 109, 112, 108, 101, 109, 101, 110, 116, 115]⟩) (he : 0 < t.e) (k1 : Int) (q1 e1 : Nat) (v1 : ByteArray) (ht : Tok s t.e k1 q1 e1 v1)
    (E : Nat) (names : List ByteArray) (hs : Start s E ⟨k1, q1, e1, v1⟩ names) (hN : names.length ≤ 1000) :
    Calls Tryz.prog 15 #[.pointer (some ⟨pb, 0, none⟩), .string ⟨#[105, 109, 112, 108, 101, 109, 101, 110, 116, 115]⟩] w fun r w' => (∃ v, r = .returned (.tuple #[v, .nilIface]) ∧ Parts NamedAt 77 w' w.heap.size v names) ∧ (∃ pe' t', Prs w' pb sb b cap s P1 P2 pe' t' ∧ t'.q = E) ∧ Turn P1 pb w w' := by
  have HI := Lib.hid (impl_any h hv he k1 q1 e1 v1 ht E names hs hN)
  clear h hv ht hs
  go_enter Tryz.func15, Tryz.ntmps15
  go_wp2_with fail
  refine HI.out.mono ?_
  rintro r w1 ⟨⟨v, gs, rfl, hl⟩, ⟨pe', t', hp, hq⟩, hT⟩
  obtain ⟨A, c, rfl, hlen, hrow⟩ := rowV_of hl.own
  have hgs : gs.length = names.length := by simpa using hlen
  have HL := Lib.hid hl
  have HP := Lib.hid hp
  have HT := Lib.hid hT
  have HD := Lib.hid (by have h := listed35_any (c := c) gs hrow (by omega); rwa [hgs] at h)
  clear hl hp hT hrow hlen
  go_wp2_with fail
  refine HD.out.mono ?_
  rintro r w2 ⟨⟨v2, rfl, hown⟩, hB⟩
  have HO := Lib.hid hown
  have HB := Lib.hid hB
  clear hown hB
  go_wp2_with fail
  go_ret2
  obtain ⟨A2, c2, hv2, _, hrow2⟩ := rowV_of HO.out
  refine ⟨⟨v2, rfl, gs, A2, c2, hv2, hgs, hrow2, ?_⟩, ⟨pe', t', HP.out.keep HB.out, hq⟩, HT.out.trans (Turn.below HB.out)⟩
  exact HL.out.nodes.imp (fun _ _ hn => hn.keep HB.out.size (fun i _ hi _ => HB.out.block i hi) (fun _ _ _ => by simp))

set_option maxHeartbeats 2000000 in
set_option maxRecDepth 100000 in
theorem part_locs {w : World} {pb sb b cap : Nat} {s : ByteArray} {P1 P2 : Nat} {pe : Int} {t : T} (h : Prs w pb sb b cap s P1 P2 pe t) (E : Nat) (names : List ByteArray) (hc : Chain s 13 E t names) (hN : names.length ≤ 1000) :
    Calls Tryz.prog 15 #[.pointer (some ⟨pb, 0, none⟩), .string ⟨#[108, 111, 99, 97, 116, 105, 111, 110, 115]⟩] w fun r w' => (∃ v, r = .returned (.tuple #[v, .nilIface]) ∧ Parts NameAt 81 w' w.heap.size v names) ∧ (∃ pe' t', Prs w' pb sb b cap s P1 P2 pe' t' ∧ t'.q = E) ∧ Turn P1 pb w w' := by
  have HI := Lib.hid (locs_any h E names hc hN)
  clear h hc
  go_enter Tryz.func15, Tryz.ntmps15
  go_wp2_with fail
  refine HI.out.mono ?_
  rintro r w1 ⟨⟨v, gs, rfl, hl⟩, ⟨pe', t', hp, hq⟩, hT⟩
  obtain ⟨A, c, rfl, hlen, hrow⟩ := rowV_of hl.own
  have hgs : gs.length = names.length := by simpa using hlen
  have HL := Lib.hid hl
  have HP := Lib.hid hp
  have HT := Lib.hid hT
  have HD := Lib.hid (by have h := listed49_any (c := c) gs hrow (by omega); rwa [hgs] at h)
  clear hl hp hT hrow hlen
  go_wp2_with fail
  refine HD.out.mono ?_
  rintro r w2 ⟨⟨v2, rfl, hown⟩, hB⟩
  have HO := Lib.hid hown
  have HB := Lib.hid hB
  clear hown hB
  go_wp2_with fail
  go_ret2
  obtain ⟨A2, c2, hv2, _, hrow2⟩ := rowV_of HO.out
  refine ⟨⟨v2, rfl, gs, A2, c2, hv2, hgs, hrow2, ?_⟩, ⟨pe', t', HP.out.keep HB.out, hq⟩, HT.out.trans (Turn.below HB.out)⟩
  exact HL.out.nodes.imp (fun _ _ hn => hn.keep HB.out.size (fun i _ hi _ => HB.out.block i hi) (fun _ _ _ => by simp))

theorem nodes_drewN {A : World → Nat → Option Nat → Nat → ByteArray → Prop} (hA : Keeps A) {w : World} {N n : Nat} {gs : List Nat} {ds : List ByteArray} (h : Nodes (A w N none) gs ds) : Nodes (A (w.drewN n) N none) gs ds :=
  h.imp (fun _ _ hn => hA.keep hn (Nat.le_refl _) (fun _ _ _ _ => rfl) (fun _ _ hx => hx))
theorem Parts.drewN {A : World → Nat → Option Nat → Nat → ByteArray → Prop} (hA : Keeps A) {ty : TypeId} {w : World} {N : Nat} {v : Value} {names : List ByteArray} (h : Parts A ty w N v names) (n : Nat) : Parts A ty (w.drewN n) N v names := by
  obtain ⟨gs, B, c, hv, hl, hr, hn⟩ := h
  exact ⟨gs, B, c, hv, hl, hr, nodes_drewN hA hn⟩

set_option maxHeartbeats 2000000 in
set_option maxRecDepth 100000 in
/-- 'parser.ReadPart' over the interfaces behind 'implements'. -/
theorem preadImpl_any (s : ByteArray) (hs : s.size ≤ 4294967295) (ha : ∀ (j : Nat) (h : j < s.size), (s[j]'h).toNat < 128) (q e : Nat) (he : 0 < e) (ht : Tok s 0 15 q e ⟨#[105, 109, 112, 108, 101, 109, 101, 110, 116, 115]⟩)
    (k1 : Int) (q1 e1 : Nat) (v1 : ByteArray) (ht1 : Tok s e k1 q1 e1 v1) (E : Nat) (names : List ByteArray) (hst : Start s E ⟨k1, q1, e1, v1⟩ names) (hN : names.length ≤ 1000) (w : World) :
    Calls Tryz.prog 12 #[.string ⟨#[105, 109, 112, 108, 101, 109, 101, 110, 116, 115]⟩, .string s] w fun r w' => (∃ v, r = .returned (.tuple #[v, .int .i64 (E : Int), .nilIface]) ∧ ∃ N, Parts NamedAt 77 w' N v names) ∧ Below w.heap.size w w' := by
  have HB := Lib.hid (begin_any s hs ha 15 q e _ ht w)
  have HPI : Hid (∀ (W : World) (pb sb b cap P1 P2 : Nat) (pe : Int), Prs W pb sb b cap s P1 P2 pe ⟨15, q, e, ⟨#[105, 109, 112, 108, 101, 109, 101, 110, 116, 115]⟩⟩ → _) := Lib.hid (fun W pb sb b cap P1 P2 pe h => part_impl h rfl he k1 q1 e1 v1 ht1 E names hst hN)
  clear ha ht ht1 hst
  go_enter Tryz.func12, Tryz.ntmps12
  go_wp2_with fail
  refine HB.out.mono ?_
  rintro r w1 ⟨⟨pb, sb, b, cap, P1, P2, rfl, hp, hb1, hb2⟩, hB⟩
  have HP := Lib.hid (HPI.out _ _ _ _ _ _ _ _ hp)
  have HB1 := Lib.hid hB
  clear hp hB HB HPI
  go_wp2_with fail
  refine HP.out.mono ?_
  rintro r w2 ⟨⟨v, rfl, hparts⟩, ⟨pe', t', hp, hq⟩, hT⟩
  have g6 := hp.c6
  rw [hq] at g6
  have HT := Lib.hid (hT.low HB1.out.size hb2 hb1)
  have HPA := Lib.hid hparts
  clear hp hq hT hparts HP
  go_wp2_with fail
  go_quiet (fail)
  go_wp2_with fail
  refine bodyPost_ret (v := .tuple #[v, .int .i64 (E : Int), .nilIface]) (by simp [results, Tryz.results12, go_sem]) rfl ⟨⟨v, rfl, _, HPA.out.drewN keeps_named _⟩, below_drewN (HB1.out.trans HT.out) _⟩

set_option maxHeartbeats 2000000 in
set_option maxRecDepth 100000 in
/-- 'parser.ReadPart' over the places of a directive. -/
theorem preadLocs_any (s : ByteArray) (hs : s.size ≤ 4294967295) (ha : ∀ (j : Nat) (h : j < s.size), (s[j]'h).toNat < 128) (q e : Nat) (v0 : ByteArray) (ht : Tok s 0 15 q e v0) (E : Nat) (names : List ByteArray) (hst : Chain s 13 E ⟨15, q, e, v0⟩ names) (hN : names.length ≤ 1000) (w : World) :
    Calls Tryz.prog 12 #[.string ⟨#[108, 111, 99, 97, 116, 105, 111, 110, 115]⟩, .string s] w fun r w' => (∃ v, r = .returned (.tuple #[v, .int .i64 (E : Int), .nilIface]) ∧ ∃ N, Parts NameAt 81 w' N v names) ∧ Below w.heap.size w w' := by
  have HB := Lib.hid (begin_any s hs ha 15 q e _ ht w)
  have HPI : Hid (∀ (W : World) (pb sb b cap P1 P2 : Nat) (pe : Int), Prs W pb sb b cap s P1 P2 pe ⟨15, q, e, v0⟩ → _) := Lib.hid (fun W pb sb b cap P1 P2 pe h => part_locs h E names hst hN)
  clear ha ht hst
  go_enter Tryz.func12, Tryz.ntmps12
  go_wp2_with fail
  refine HB.out.mono ?_
  rintro r w1 ⟨⟨pb, sb, b, cap, P1, P2, rfl, hp, hb1, hb2⟩, hB⟩
  have HP := Lib.hid (HPI.out _ _ _ _ _ _ _ _ hp)
  have HB1 := Lib.hid hB
  clear hp hB HB HPI
  go_wp2_with fail
  refine HP.out.mono ?_
  rintro r w2 ⟨⟨v, rfl, hparts⟩, ⟨pe', t', hp, hq⟩, hT⟩
  have g6 := hp.c6
  rw [hq] at g6
  have HT := Lib.hid (hT.low HB1.out.size hb2 hb1)
  have HPA := Lib.hid hparts
  clear hp hq hT hparts HP
  go_wp2_with fail
  go_quiet (fail)
  go_wp2_with fail
  refine bodyPost_ret (v := .tuple #[v, .int .i64 (E : Int), .nilIface]) (by simp [results, Tryz.results12, go_sem]) rfl ⟨⟨v, rfl, _, HPA.out.drewN keeps_name _⟩, below_drewN (HB1.out.trans HT.out) _⟩
end Go.Proofs.YtbjfahhfcdnkaaaGreatDoor
