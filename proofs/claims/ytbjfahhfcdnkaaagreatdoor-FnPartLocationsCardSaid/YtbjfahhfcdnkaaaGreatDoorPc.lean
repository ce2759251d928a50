/- The parser's lists: the interfaces behind 'implements', the places of a directive. -/
import Derived.Test.YtbjfahhfcdnkaaaGreatDoorPb
namespace Go.Proofs.YtbjfahhfcdnkaaaGreatDoor
open Go.RowKit Go.Proofs.YtbjfahhfcdnkaaaGreatDoorW.PrintWords Go.Proofs.YtbjfahhfcdnkaaaGreatDoorW.PrintMore

/-- From the token t on: names with a sign between; behind the last one a token of another kind begins at E. -/
inductive Chain (s : ByteArray) (K : Int) (E : Nat) : T → List ByteArray → Prop
  | last {t : T} {k : Int} {q e : Nat} {v : ByteArray} : t.k = 15 → 0 < t.e → Tok s t.e k q e v → k ≠ K → q = E → Chain s K E t [t.v]
  | more {t : T} {q e q' e' : Nat} {v v' : ByteArray} {ns : List ByteArray} : t.k = 15 → 0 < t.e → Tok s t.e K q e v → 0 < e → Tok s e 15 q' e' v' → Chain s K E ⟨15, q', e', v'⟩ ns → Chain s K E t (t.v :: ns)

theorem Chain.kind {s : ByteArray} {K : Int} {E : Nat} {t : T} {ns : List ByteArray} (h : Chain s K E t ns) : t.k = 15 := by cases h <;> assumption
theorem Chain.pos {s : ByteArray} {K : Int} {E : Nat} {t : T} {ns : List ByteArray} (h : Chain s K E t ns) : 0 < t.e := by cases h <;> assumption

/-- Nodes, one for each text. -/
inductive Nodes (P : Nat → ByteArray → Prop) : List Nat → List ByteArray → Prop
  | nil : Nodes P [] []
  | snoc {gs : List Nat} {ds : List ByteArray} {g : Nat} {d : ByteArray} : Nodes P gs ds → P g d → Nodes P (gs ++ [g]) (ds ++ [d])

theorem Nodes.imp {P Q : Nat → ByteArray → Prop} {gs : List Nat} {ds : List ByteArray} (h : Nodes P gs ds) (hpq : ∀ g d, P g d → Q g d) : Nodes Q gs ds := by
  induction h with
  | nil => exact .nil
  | snoc _ hp ih => exact .snoc ih (hpq _ _ hp)
theorem Nodes.length {P : Nat → ByteArray → Prop} {gs : List Nat} {ds : List ByteArray} (h : Nodes P gs ds) : gs.length = ds.length := by
  induction h with
  | nil => rfl
  | snoc _ _ ih => simp [ih]
theorem Nodes.get {P : Nat → ByteArray → Prop} {gs : List Nat} {ds : List ByteArray} (h : Nodes P gs ds) : ∀ (i : Nat) (h1 : i < gs.length) (h2 : i < ds.length), P gs[i] ds[i] := by
  induction h with
  | nil => intro i h1; simp at h1
  | @snoc gs ds g d h hp ih =>
    intro i h1 h2
    have hl := h.length
    rcases Nat.lt_or_ge i gs.length with hlt | hge
    · rw [List.getElem_append_left hlt, List.getElem_append_left (by omega)]
      exact ih i hlt (by omega)
    · simp only [List.length_append, List.length_cons, List.length_nil] at h1
      obtain rfl : i = gs.length := by omega
      simp only [hl, List.getElem_append_right (Nat.le_refl _), Nat.sub_self, List.getElem_cons_zero]
      simpa [← hl] using hp

def ptr (g : Nat) : Value := .pointer (some ⟨g, 0, none⟩)

theorem owns_turn {w w' : World} {P1 pb base : Nat} {e : TypeId} {size n : Nat} {v : Value} {xs : List Value} (h : w.ownsRow base e size v n xs) (hT : Turn P1 pb w w') (h1 : P1 < base) (h2 : pb < base) : w'.ownsRow base e size v n xs := by
  refine ⟨h.1, ?_⟩
  rcases h.2 with h' | ⟨k, cap, cur, hv, hk, hh, r⟩
  · exact .inl h'
  · refine .inr ⟨k, cap, cur, hv, hk, ?_, r⟩
    have hlt : k < w.heap.size := by
      rcases Nat.lt_or_ge k w.heap.size with h' | h'
      · exact h'
      · rw [Array.getElem?_eq_none h'] at hh; cases hh
    rw [hT.block k hlt (by omega) (by omega)]
    exact hh

theorem NamedAt.weaken {w : World} {N N' : Nat} {X X' : Option Nat} {g : Nat} {v : ByteArray} (h : NamedAt w N X g v) (hN : N' ≤ N) (hX : ∀ i, N ≤ i → some i ≠ X') : NamedAt w N' X' g v := by
  obtain ⟨l, n, h1, h2, h3, h4, h5, h6, h7, h8, h9, ⟨l2, k1, k2, k3, k4, k5, k6, k7⟩⟩ := h
  exact ⟨l, n, by omega, by omega, h3, h4, hX _ h1, hX _ h2, h7, h8, h9, l2, by omega, by omega, k3, k4, hX _ k1, hX _ k2, k7⟩
theorem NameAt.weaken {w : World} {N N' : Nat} {X X' : Option Nat} {g : Nat} {v : ByteArray} (h : NameAt w N X g v) (hN : N' ≤ N) (hX : ∀ i, N ≤ i → some i ≠ X') : NameAt w N' X' g v := by
  obtain ⟨l2, k1, k2, k3, k4, k5, k6, k7⟩ := h
  exact ⟨l2, by omega, by omega, k3, k4, hX _ k1, hX _ k2, k7⟩

/-- What a list of nodes leaves behind each round. -/
structure Lst (A : World → Nat → Option Nat → Nat → ByteArray → Prop) (e : TypeId) (w wr : World) (v : Value) (ds : List ByteArray) (gs : List Nat) : Prop where
  own : wr.ownsRow w.heap.size e 1 v ds.length (gs.map ptr)
  nodes : Nodes (A wr w.heap.size v.ownBlock) gs ds
  size : w.heap.size ≤ wr.heap.size

/-- The nodes' words that are kept. -/
structure Keeps (A : World → Nat → Option Nat → Nat → ByteArray → Prop) : Prop where
  keep : ∀ {w w' : World} {N : Nat} {X X' : Option Nat} {g : Nat} {v : ByteArray}, A w N X g v → w.heap.size ≤ w'.heap.size → (∀ i, N ≤ i → i < w.heap.size → some i ≠ X → w'.heap[i]? = w.heap[i]?) → (∀ i, i < w.heap.size → some i ≠ X → some i ≠ X') → A w' N X' g v
  weaken : ∀ {w : World} {N N' : Nat} {X X' : Option Nat} {g : Nat} {v : ByteArray}, A w N X g v → N' ≤ N → (∀ i, N ≤ i → some i ≠ X') → A w N' X' g v

theorem keeps_name : Keeps NameAt := ⟨fun h a b c => h.keep a b c, fun h a b => h.weaken a b⟩
theorem keeps_named : Keeps NamedAt := ⟨fun h a b c => h.keep a b c, fun h a b => h.weaken a b⟩

theorem Lst.turn {A : World → Nat → Option Nat → Nat → ByteArray → Prop} (hA : Keeps A) {e : TypeId} {w wr w1 : World} {v : Value} {ds : List ByteArray} {gs : List Nat} {P1 pb : Nat} (h : Lst A e w wr v ds gs) (hT : Turn P1 pb wr w1) (h1 : P1 < w.heap.size) (h2 : pb < w.heap.size) : Lst A e w w1 v ds gs :=
  ⟨owns_turn h.own hT h1 h2, h.nodes.imp (fun _ _ hn => hA.keep hn hT.size (fun i hi hl _ => hT.block i hl (by omega) (by omega)) (fun _ _ hx => hx)), Nat.le_trans h.size hT.size⟩

/-- One more: its node is new, then the list has grown. -/
theorem Lst.more {A : World → Nat → Option Nat → Nat → ByteArray → Prop} (hA : Keeps A) {e : TypeId} {w wr w1 w2 : World} {v : Value} {ds : List ByteArray} {gs : List Nat} {P1 pb g g' cap : Nat} {d : ByteArray} {o : Obj} (h : Lst A e w wr v ds gs) (hT : Turn P1 pb wr w1) (h1 : P1 < w.heap.size) (h2 : pb < w.heap.size)
    (hn : A w1 wr.heap.size none g d) (hown : w2.ownsRow w.heap.size e 1 (.slice (some ⟨g', 0, none⟩) (ds.length + 1) cap) (ds.length + 1) (gs.map ptr ++ [ptr g])) (hg : (w1.alloc o).grownBy w2 v.ownBlock) (hlie : v.ownBlock = some g' ∨ g' = w1.heap.size + 1) :
    Lst A e w w2 (.slice (some ⟨g', 0, none⟩) (ds.length + 1) cap) (ds ++ [d]) (gs ++ [g]) := by
  have hl := h.turn hA hT h1 h2
  have hsz := hg.size
  simp only [World.size_alloc] at hsz
  have hk : ∀ x y, A w1 w.heap.size v.ownBlock x y → A w2 w.heap.size (some g') x y := fun x y hx => hA.keep hx (by omega) (fun i _ hi hne => (hg.block i (by simp; omega) (fun e => hne e)).trans (Below.heap_alloc _ _ _ hi)) (fun i hi hne => by
    rcases hlie with hlie | hlie
    · rw [← hlie]; exact hne
    · intro e; injection e; omega)
  refine ⟨by simpa using hown, .snoc (hl.nodes.imp hk) (hk _ _ (hA.weaken hn h.size (fun i hi => ?_))), by have := hl.size; omega⟩
  intro e
  have := (h.own.lt i e.symm).2
  omega

theorem Turn.more {P1 pb : Nat} {w w1 w2 : World} {o : Obj} {row : Option Nat} (h : Turn P1 pb w w1) (hg : (w1.alloc o).grownBy w2 row) (hr : ∀ k, row = some k → w.heap.size ≤ k) : Turn P1 pb w w2 := by
  have hs := hg.size
  have h0 := h.size
  simp only [World.size_alloc] at hs
  exact ⟨hg.os.trans h.os, hg.tape.trans h.tape, hg.output.trans h.output, by omega, fun i hi h1 h2 => (hg.block i (by simp; omega) (fun e => by have := hr i e.symm; omega)).trans ((Below.heap_alloc _ _ _ (by omega)).trans (h.block i hi h1 h2))⟩

theorem infoP77 : (Tryz.prog.info? 77).map (fun i => (i.zero, i.size, i.bytes)) = some (some (.pointer none), 1, 8) := by kernel_rfl
theorem infoP81 : (Tryz.prog.info? 81).map (fun i => (i.zero, i.size, i.bytes)) = some (some (.pointer none), 1, 8) := by kernel_rfl

theorem Prs.grown {w w2 : World} {pb sb b cap : Nat} {s : ByteArray} {P1 P2 : Nat} {pe : Int} {t : T} {row : Option Nat} {o : Obj} {base : Nat} (h : Prs w pb sb b cap s P1 P2 pe t) (hg : (w.alloc o).grownBy w2 row) (hr : ∀ k, row = some k → base ≤ k) (hb : ∀ B, B = pb ∨ B = sb ∨ B = b ∨ B = P1 ∨ B = P2 → B < base) : Prs w2 pb sb b cap s P1 P2 pe t :=
  h.blocks (by have := hg.size; simp at this; omega) (fun B hB => by
    have h1 := h.lts hB
    have h2 := hb B hB
    rw [hg.block B (by simp; omega) (fun e => by have := hr B e.symm; omega), Below.heap_alloc _ _ _ h1])

set_option maxHeartbeats 2000000 in
set_option maxRecDepth 100000 in
theorem locs_any {w : World} {pb sb b cap : Nat} {s : ByteArray} {P1 P2 : Nat} {pe : Int} {t : T} (h : Prs w pb sb b cap s P1 P2 pe t) (E : Nat) (names : List ByteArray) (hc : Chain s 13 E t names) (hN : names.length ≤ 1000) :
    Calls Tryz.prog 50 #[.pointer (some ⟨pb, 0, none⟩)] w fun r w' => (∃ v gs, r = .returned (.tuple #[v, .nilIface]) ∧ Lst NameAt 81 w w' v names gs) ∧ (∃ pe' t', Prs w' pb sb b cap s P1 P2 pe' t' ∧ t'.q = E) ∧ Turn P1 pb w w' := by
  have H := Lib.hid h
  have HC := Lib.hid hc
  have hP1 := h.clo.lt1
  have hpb := h.lt
  have HLT := Lib.hid (fun B (hB : B = pb ∨ B = sb ∨ B = b ∨ B = P1 ∨ B = P2) => h.lts hB)
  have HL0 : Hid (Lst NameAt 81 w (w.alloc (.cells #[] 81)) (.slice (some ⟨w.heap.size, 0, none⟩) 0 0) [] []) := Lib.hid ⟨World.ownsRow_lit w #[] 0 (Nat.le_refl _) (by unfold maxLen; omega) rfl, .nil, by simp⟩
  clear h hc
  go_enter Tryz.func50, Tryz.ntmps50
  go_wp2_with fail
  go_loopg [4] names.length (fun gk v wr => ∃ (ds us : List ByteArray) (gs : List Nat) (pe1 : Int) (t1 : T), gk = us.length ∧ Hid (names = ds ++ us) ∧ Hid (Lst NameAt 81 w wr v ds gs) ∧ Hid (Prs wr pb sb b cap s P1 P2 pe1 t1) ∧ Hid (Chain s 13 E t1 us) ∧ Hid (Turn P1 pb w wr))
  case atStart => exact ⟨[], names, [], pe, t, rfl, Lib.hid rfl, HL0, Lib.hid (H.out.alloc _), HC, Lib.hid ((Turn.refl _ _ _).alloc _)⟩
  case round =>
    obtain ⟨ds, us, gs, pe1, t1, hgk, HE, HL, HP, HCH, HT⟩ := hrel
    subst hgk
    obtain ⟨A, c, rfl⟩ := owns_form HL.out.own
    have hK := HCH.out.kind
    have hE := HCH.out.pos
    obtain ⟨i0, hi, hy0, hy1, hy2⟩ := info_parts infoP81
    have hds : ds.length + us.length ≤ 1000 := by have := congrArg List.length HE.out; simp at this; omega
    have HTK : Hid (∃ (k : Int) (q e : Nat) (v : ByteArray), Tok s t1.e k q e v ∧ (k ≠ 13 ∧ q = E ∧ us = [t1.v] ∨ k = 13 ∧ 0 < e ∧ ∃ (q' e' : Nat) (v' : ByteArray) (ns : List ByteArray), Tok s e 15 q' e' v' ∧ Chain s 13 E ⟨15, q', e', v'⟩ ns ∧ us = t1.v :: ns)) := Lib.hid (by
      have h := HCH.out
      cases h with
      | last h1 h2 h3 h4 h5 => exact ⟨_, _, _, _, h3, .inl ⟨h4, h5, rfl⟩⟩
      | more h1 h2 h3 h4 h5 h6 => exact ⟨_, _, _, _, h3, .inr ⟨rfl, h4, _, _, _, _, h5, h6, rfl⟩⟩)
    obtain ⟨k, q, e, v, ht, hcase⟩ := HTK.out
    have HNM := Lib.hid (name_any HP.out hK hE k q e v ht)
    have HCS := Lib.hid hcase
    clear HTK ht hcase hK hE
    go_wp2_with fail
    refine HNM.out.mono ?_
    rintro r w1 ⟨⟨g, rfl, hn⟩, hp1, hT1⟩
    have HP1 := Lib.hid hp1
    have HT1 := Lib.hid hT1
    have HN1 := Lib.hid hn
    have HL1 := Lib.hid (HL.out.turn keeps_name hT1 hP1 hpb)
    clear hp1 hT1 hn HNM
    go_wp2_with (at_builtin; refine wpList_append_lies _ rfl (.tmp 19) (.tmp 21) 120 rfl w.heap.size 81 i0 (.pointer none) 1 8 Tryz.underlying120 hi hy0 hy1 hy2 rfl (by decide) _ _ _ rfl (HL1.out.own.alloc _) ⟨w1.heap.size, 0, none⟩ 1 1 [ptr g] rfl rfl ?c1 ?c2 (by decide) ?c3 ?c4 ?c5 (w1.heap.size + 1) (by simp) ?_)
    case c1 =>
      intro j u hj
      rw [add_plain, World.cell?_alloc_at _ _ _ _ rfl]
      simpa [ptr] using hj
    case c2 =>
      intro u hu
      simp only [List.mem_cons, List.mem_nil_iff, or_false] at hu
      subst hu
      rfl
    case c3 => unfold maxLen; omega
    case c4 => omega
    case c5 => have := HL1.out.size; simp; omega
    intro g' cap' w2 hown' hgrow hlie hlt'
    have HL2 := Lib.hid (Lst.more keeps_name HL.out HT1.out hP1 hpb HN1.out hown' hgrow hlie)
    have HP2 := Lib.hid (HP1.out.grown hgrow (fun k hk => (HL1.out.own.lt k hk).1) HLT.out)
    have HT2 := Lib.hid ((HT.out.trans HT1.out).more hgrow (fun k hk => (HL1.out.own.lt k hk).1))
    clear hown' hgrow hlie
    rcases HCS.out with ⟨hne, hq, hus⟩ | ⟨rfl, he, q', e', v', ns, ht2, hch2, hus⟩
    · have HQ := Lib.hid (And.intro hq hus)
      have C88 := Lib.hid (skip_no HP2.out 13 hne)
      clear hq hus hne
      go_wp2_with (go_at_call 88; refine C88.out.mono ?_; rintro r w3 ⟨rfl, rfl⟩)
      go_ret2
      refine ⟨⟨.slice (some ⟨g', 0, none⟩) (ds.length + 1) cap', gs ++ [g], rfl, ?_⟩, ⟨_, _, HP2.out, HQ.out.1⟩, HT2.out⟩
      rw [HE.out, HQ.out.2]
      have h := HL2.out
      simpa using h
    · have HQ := Lib.hid hus
      have HC2 := Lib.hid hch2
      have C88 := Lib.hid (skip_yes HP2.out he 15 q' e' v' ht2)
      clear hus hch2 ht2 he
      go_wp2_with (go_at_call 88; refine C88.out.mono ?_; rintro r w3 ⟨rfl, hp3, hT3⟩)
      have HP3 := Lib.hid hp3
      have HL3 := Lib.hid (HL2.out.turn keeps_name hT3 hP1 hpb)
      have HT3 := Lib.hid (HT2.out.trans hT3)
      clear hp3 hT3
      go_wp2_with fail
      go_roundg ns.length
      case measure => rw [HQ.out]; simp
      case rel => exact ⟨ds ++ [t1.v], ns, gs ++ [g], _, _, rfl, Lib.hid (by rw [HE.out, HQ.out]; simp), by simpa using HL3, HP3, HC2, HT3⟩

/-- The sign ahead is passed over, where there is one. -/
def Start (s : ByteArray) (E : Nat) (t1 : T) (names : List ByteArray) : Prop :=
  (t1.k = 15 ∧ Chain s 20 E t1 names) ∨ (t1.k = 20 ∧ 0 < t1.e ∧ ∃ (q' e' : Nat) (v' : ByteArray), Tok s t1.e 15 q' e' v' ∧ Chain s 20 E ⟨15, q', e', v'⟩ names)

theorem skip_start {w : World} {pb sb b cap : Nat} {s : ByteArray} {P1 P2 : Nat} {pe : Int} {t : T} (h : Prs w pb sb b cap s P1 P2 pe t) (E : Nat) (names : List ByteArray) (hs : Start s E t names) :
    Calls Tryz.prog 88 #[.pointer (some ⟨pb, 0, none⟩), .int .i64 20] w fun r w' => (∃ x, r = .returned (.tuple #[.bool x, .nilIface])) ∧ (∃ pe' t', Prs w' pb sb b cap s P1 P2 pe' t' ∧ Chain s 20 E t' names) ∧ Turn P1 pb w w' := by
  rcases hs with ⟨hk, hc⟩ | ⟨hk, he, q', e', v', ht, hc⟩
  · refine (skip_no h 20 (by omega)).mono ?_
    rintro r w1 ⟨rfl, rfl⟩
    exact ⟨⟨_, rfl⟩, ⟨_, _, h, hc⟩, Turn.refl _ _ _⟩
  · have c := skip_yes h he 15 q' e' v' ht
    rw [hk] at c
    refine c.mono ?_
    rintro r w1 ⟨rfl, hp, hT⟩
    exact ⟨⟨_, rfl⟩, ⟨_, _, hp, hc⟩, hT⟩

set_option maxHeartbeats 2000000 in
set_option maxRecDepth 100000 in
theorem impl_any {w : World} {pb sb b cap : Nat} {s : ByteArray} {P1 P2 : Nat} {pe : Int} {t : T} (h : Prs w pb sb b cap s P1 P2 pe t) (hv : t.v = ⟨#[105, 109, 112, 108, 101, 109, 101, 110, 116, 115]⟩) (he : 0 < t.e) (k1 : Int) (q1 e1 : Nat) (v1 : ByteArray) (ht : Tok s t.e k1 q1 e1 v1)
    (E : Nat) (names : List ByteArray) (hs : Start s E ⟨k1, q1, e1, v1⟩ names) (hN : names.length ≤ 1000) :
    Calls Tryz.prog 36 #[.pointer (some ⟨pb, 0, none⟩)] w fun r w' => (∃ v gs, r = .returned (.tuple #[v, .nilIface]) ∧ Lst NamedAt 77 w w' v names gs) ∧ (∃ pe' t', Prs w' pb sb b cap s P1 P2 pe' t' ∧ t'.q = E) ∧ Turn P1 pb w w' := by
  have hP1 := h.clo.lt1
  have hpb := h.lt
  have g8 := h.c8
  rw [hv] at g8
  have HLT := Lib.hid (fun B (hB : B = pb ∨ B = sb ∨ B = b ∨ B = P1 ∨ B = P2) => h.lts hB)
  have HL0 : Hid (Lst NamedAt 77 w (w.alloc (.cells #[] 77)) (.slice (some ⟨w.heap.size, 0, none⟩) 0 0) [] []) := Lib.hid ⟨World.ownsRow_lit w #[] 0 (Nat.le_refl _) (by unfold maxLen; omega) rfl, .nil, by simp⟩
  have HA := Lib.hid (fun o => advance_any (h.alloc o) he k1 q1 e1 v1 ht)
  have HS := Lib.hid hs
  have HT0 : Hid (∀ o, Turn P1 pb w (w.alloc o)) := Lib.hid (fun o => (Turn.refl _ _ _).alloc o)
  clear h hv ht hs
  go_enter Tryz.func36, Tryz.ntmps36
  go_wp2_with fail
  refine (HA.out _).mono ?_
  rintro r w1 ⟨rfl, hp1, hT1⟩
  have HP1 := Lib.hid hp1
  have HT1 := Lib.hid ((HT0.out _).trans hT1)
  have HL1 := Lib.hid (HL0.out.turn keeps_named hT1 hP1 hpb)
  have HSK := Lib.hid (skip_start hp1 E names HS.out)
  clear hp1 hT1 HA HL0 HS
  go_wp2_with fail
  refine HSK.out.mono ?_
  rintro r w2 ⟨⟨x, rfl⟩, ⟨pe2, t2, hp2, hc2⟩, hT2⟩
  have HP2 := Lib.hid hp2
  have HC := Lib.hid hc2
  have HT2 := Lib.hid (HT1.out.trans hT2)
  have HL2 := Lib.hid (HL1.out.turn keeps_named hT2 hP1 hpb)
  clear hp2 hc2 hT2 HSK HP1 HT1 HL1
  go_wp2_with fail
  go_loopg [4] names.length (fun gk v wr => ∃ (ds us : List ByteArray) (gs : List Nat) (pe1 : Int) (t1 : T), gk = us.length ∧ Hid (names = ds ++ us) ∧ Hid (Lst NamedAt 77 w wr v ds gs) ∧ Hid (Prs wr pb sb b cap s P1 P2 pe1 t1) ∧ Hid (Chain s 20 E t1 us) ∧ Hid (Turn P1 pb w wr))
  case atStart => exact ⟨[], names, [], pe2, t2, rfl, Lib.hid rfl, HL2, HP2, HC, HT2⟩
  case round =>
    clear HP2 HC HT2 HL2
    obtain ⟨ds, us, gs, pe1, t1, hgk, HE, HL, HP, HCH, HT⟩ := hrel
    subst hgk
    obtain ⟨A, c, rfl⟩ := owns_form HL.out.own
    have hK := HCH.out.kind
    have hE := HCH.out.pos
    obtain ⟨i0, hi, hy0, hy1, hy2⟩ := info_parts infoP77
    have hds : ds.length + us.length ≤ 1000 := by have := congrArg List.length HE.out; simp at this; omega
    have HTK : Hid (∃ (k : Int) (q e : Nat) (v : ByteArray), Tok s t1.e k q e v ∧ (k ≠ 20 ∧ q = E ∧ us = [t1.v] ∨ k = 20 ∧ 0 < e ∧ ∃ (q' e' : Nat) (v' : ByteArray) (ns : List ByteArray), Tok s e 15 q' e' v' ∧ Chain s 20 E ⟨15, q', e', v'⟩ ns ∧ us = t1.v :: ns)) := Lib.hid (by
      have h := HCH.out
      cases h with
      | last h1 h2 h3 h4 h5 => exact ⟨_, _, _, _, h3, .inl ⟨h4, h5, rfl⟩⟩
      | more h1 h2 h3 h4 h5 h6 => exact ⟨_, _, _, _, h3, .inr ⟨rfl, h4, _, _, _, _, h5, h6, rfl⟩⟩)
    obtain ⟨k, q, e, v, ht, hcase⟩ := HTK.out
    have HNM := Lib.hid (named_any HP.out hK hE k q e v ht)
    have HCS := Lib.hid hcase
    clear HTK ht hcase hK hE
    go_wp2_with fail
    refine HNM.out.mono ?_
    rintro r w1 ⟨⟨g, rfl, hn⟩, hp1, hT1⟩
    have HP1 := Lib.hid hp1
    have HT1 := Lib.hid hT1
    have HN1 := Lib.hid hn
    have HL1 := Lib.hid (HL.out.turn keeps_named hT1 hP1 hpb)
    clear hp1 hT1 hn HNM
    go_wp2_with (at_builtin; refine wpList_append_lies _ rfl (.tmp 33) (.tmp 35) 113 rfl w.heap.size 77 i0 (.pointer none) 1 8 Tryz.underlying113 hi hy0 hy1 hy2 rfl (by decide) _ _ _ rfl (HL1.out.own.alloc _) ⟨w1.heap.size, 0, none⟩ 1 1 [ptr g] rfl rfl ?c1 ?c2 (by decide) ?c3 ?c4 ?c5 (w1.heap.size + 1) (by simp) ?_)
    case c1 =>
      intro j u hj
      rw [add_plain, World.cell?_alloc_at _ _ _ _ rfl]
      simpa [ptr] using hj
    case c2 =>
      intro u hu
      simp only [List.mem_cons, List.mem_nil_iff, or_false] at hu
      subst hu
      rfl
    case c3 => unfold maxLen; omega
    case c4 => omega
    case c5 => have := HL1.out.size; simp; omega
    intro g' cap' w2 hown' hgrow hlie hlt'
    have HL2 := Lib.hid (Lst.more keeps_named HL.out HT1.out hP1 hpb HN1.out hown' hgrow hlie)
    have HP2 := Lib.hid (HP1.out.grown hgrow (fun k hk => (HL1.out.own.lt k hk).1) HLT.out)
    have HT2 := Lib.hid ((HT.out.trans HT1.out).more hgrow (fun k hk => (HL1.out.own.lt k hk).1))
    clear hown' hgrow hlie
    rcases HCS.out with ⟨hne, hq, hus⟩ | ⟨rfl, he, q', e', v', ns, ht2, hch2, hus⟩
    · have HQ := Lib.hid (And.intro hq hus)
      have C88 := Lib.hid (skip_no HP2.out 20 hne)
      clear hq hus hne
      go_wp2_with (go_at_call 88; refine C88.out.mono ?_; rintro r w3 ⟨rfl, rfl⟩)
      go_ret2
      refine ⟨⟨.slice (some ⟨g', 0, none⟩) (ds.length + 1) cap', gs ++ [g], rfl, ?_⟩, ⟨_, _, HP2.out, HQ.out.1⟩, HT2.out⟩
      rw [HE.out, HQ.out.2]
      have h := HL2.out
      simpa using h
    · have HQ := Lib.hid hus
      have HC2 := Lib.hid hch2
      have C88 := Lib.hid (skip_yes HP2.out he 15 q' e' v' ht2)
      clear hus hch2 ht2 he
      go_wp2_with (go_at_call 88; refine C88.out.mono ?_; rintro r w3 ⟨rfl, hp3, hT3⟩)
      have HP3 := Lib.hid hp3
      have HL3 := Lib.hid (HL2.out.turn keeps_named hT3 hP1 hpb)
      have HT3 := Lib.hid (HT2.out.trans hT3)
      clear hp3 hT3
      go_wp2_with fail
      go_roundg ns.length
      case measure => rw [HQ.out]; simp
      case rel => exact ⟨ds ++ [t1.v], ns, gs ++ [g], _, _, rfl, Lib.hid (by rw [HE.out, HQ.out]; simp), by simpa using HL3, HP3, HC2, HT3⟩
end Go.Proofs.YtbjfahhfcdnkaaaGreatDoor
