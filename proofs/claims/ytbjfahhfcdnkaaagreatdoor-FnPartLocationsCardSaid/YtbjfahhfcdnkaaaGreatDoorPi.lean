/- A part as data: 'readPart', 'impl.ReadPart'. -/
import Derived.Test.YtbjfahhfcdnkaaaGreatDoorPh
namespace Go.Proofs.YtbjfahhfcdnkaaaGreatDoor
open Go.RowKit Go.Proofs.YtbjfahhfcdnkaaaGreatDoorW.PrintWords Go.Proofs.YtbjfahhfcdnkaaaGreatDoorW.PrintMore

/-- Nodes of a kind, with names, as cells. -/
def nodeCells (K : Int) (names : List ByteArray) : List Value := names.flatMap fun v => [.int .i64 K, .string v, .string ⟨#[]⟩, .string ⟨#[]⟩, .int .i64 0, .int .i64 1]

theorem nodeCells_snoc (K : Int) (names : List ByteArray) (i : Nat) (h : i < names.length) : nodeCells K (names.take (i + 1)) = nodeCells K (names.take i) ++ [.int .i64 K, .string names[i], .string ⟨#[]⟩, .string ⟨#[]⟩, .int .i64 0, .int .i64 1] := by
  unfold nodeCells
  rw [List.take_succ_eq_append_getElem h, List.flatMap_append]
  simp

theorem tkr_new (w : World) : Tkr (w.alloc (.cells #[.slice none 0 0, .slice none 0 0, .bool false] 46)) w.heap.size (w.heap.size + 1) (.slice none 0 0) (.slice none 0 0) 0 [] 0 [] :=
  ⟨(World.cell?_alloc_at _ _ _ _ rfl).trans rfl, (World.cell?_alloc_at _ _ _ _ rfl).trans rfl, (World.cell?_alloc_at _ _ _ _ rfl).trans rfl, (fun i => World.frozen?_alloc_at _ _ _ _ rfl), World.ownsRow_nil _ _ _ _, World.ownsRow_nil _ _ _ _, (fun k h => by cases h), by omega, by simp⟩

theorem owns_low {w : World} {base b0 : Nat} {e : TypeId} {size n : Nat} {v : Value} {xs : List Value} (h : w.ownsRow base e size v n xs) (hb : b0 ≤ base) : w.ownsRow b0 e size v n xs := by
  refine ⟨h.1, ?_⟩
  rcases h.2 with h2 | ⟨k, cap, cur, hv, hk, r⟩
  · exact .inl h2
  · exact .inr ⟨k, cap, cur, hv, by omega, r⟩

set_option maxHeartbeats 2000000 in
set_option maxRecDepth 100000 in
theorem readPart_impl (s : ByteArray) (hs : s.size ≤ 4294967295) (ha : ∀ (j : Nat) (h : j < s.size), (s[j]'h).toNat < 128) (q e : Nat) (he : 0 < e) (ht : Tok s 0 15 q e ⟨#[105, 109, 112, 108, 101, 109, 101, 110, 116, 115]⟩)
    (k1 : Int) (q1 e1 : Nat) (v1 : ByteArray) (ht1 : Tok s e k1 q1 e1 v1) (E : Nat) (names : List ByteArray) (hst : Start s E ⟨k1, q1, e1, v1⟩ names) (hN : names.length ≤ 1000) (K : Int) (w : World) :
    Calls Tryz.prog 11 #[.string ⟨#[105, 109, 112, 108, 101, 109, 101, 110, 116, 115]⟩, .int .i64 K, .string s] w fun r w' => (∃ v, r = .returned (.tuple #[v, .int .i64 (E : Int), .bool true]) ∧ w'.ownsRow w.heap.size 35 6 v names.length (nodeCells K names)) ∧ Below w.heap.size w w' := by
  have HRP := Lib.hid (preadImpl_any s hs ha q e he ht k1 q1 e1 v1 ht1 E names hst hN w)
  clear ha ht ht1 hst
  go_enter Tryz.func11, Tryz.ntmps11
  go_wp2_with fail
  refine HRP.out.mono ?_
  rintro r w1 ⟨⟨v, rfl, N, gs, B, c, rfl, hgs, hrow, hnodes⟩, hB⟩
  have HROW := Lib.hid hrow
  have HNODES := Lib.hid hnodes
  have HB1 := Lib.hid hB
  have HGS := Lib.hid hgs
  have HT0 := Lib.hid (tkr_new w1)
  clear hrow hnodes hB HRP hgs
  go_wp2_with fail
  go_loopg [27] names.length (fun gk x wr => ∃ (i : Nat) (vd vs : Value) (ys : List Value), gk = names.length - i ∧ i ≤ names.length ∧ x = .int .i64 i ∧ Hid (Tkr wr w1.heap.size (w1.heap.size + 1) vd vs i (nodeCells K (names.take i)) i ys) ∧ Hid (Below w1.heap.size w1 wr))
  case atStart => exact ⟨0, _, _, _, by omega, by omega, rfl, HT0, Lib.hid ((Below.refl _ _).alloc (Nat.le_refl _) _)⟩
  case round =>
    obtain ⟨i, vd, vs, ys, hgk, hile, rfl, HT, HB⟩ := hrel
    subst hgk
    by_cases hlt : i < names.length
    · have hlg : i < gs.length := by have := HGS.out; omega
      obtain ⟨b, rfl, hbw, hcell⟩ := (HROW.out.below HB.out) i (by simpa using hlg)
      rw [List.getElem_map] at hcell
      unfold ptr at hcell
      obtain ⟨l, nn, hl1, hl2, hl3, hc1, hc2, hloc, hc3⟩ := (HNODES.out.get i hlg hlt).cells (Nat.le_refl _) HB.out
      have HP := Lib.hid (tpart_named HT.out hl1 hl2 hl3 hc1 hc2 hloc hc3 (by omega) (by omega) K)
      have hlt2 : (i : Int) < names.length := by omega
      clear hc1 hc2 hloc hc3
      go_wp2_with fail
      refine HP.out.mono ?_
      rintro r w2 ⟨rfl, ⟨vd', vs', ys', hk⟩, hB2⟩
      have HK : Hid (Tkr w2 w1.heap.size (w1.heap.size + 1) vd' vs' (i + 1) (nodeCells K (names.take (i + 1))) (i + 1) ys') := Lib.hid (by rw [nodeCells_snoc K names i hlt]; exact hk)
      have HB2 := Lib.hid (HB.out.trans hB2)
      clear hk hB2 hcell HP
      go_wp2_with fail
      go_roundg (names.length - (i + 1))
      case measure => omega
      case rel => exact ⟨i + 1, vd', vs', ys', rfl, by omega, by go_num, HK, HB2⟩
    · obtain rfl : i = names.length := by omega
      have hd0 := HT.out.c0
      have hd2 := HT.out.c2
      have hz := HB1.out.size
      have HO := Lib.hid (owns_low (b0 := w.heap.size) HT.out.own0 (by omega))
      have hlw : w1.heap.size < wr.heap.size := Nat.lt_of_lt_of_le HT.out.lt HT.out.le
      go_wp2_with fail
      refine bodyPost_ret (v := .tuple #[vd, .int .i64 (E : Int), .bool true]) (by simp [results, Tryz.results11, go_sem]) rfl ⟨⟨vd, rfl, ?_⟩, HB1.out.trans (HB.out.mono hz)⟩
      have h := HO.out
      rwa [List.take_length] at h

set_option maxHeartbeats 2000000 in
set_option maxRecDepth 100000 in
theorem readPart_locs (s : ByteArray) (hs : s.size ≤ 4294967295) (ha : ∀ (j : Nat) (h : j < s.size), (s[j]'h).toNat < 128) (q e : Nat) (v0 : ByteArray) (ht : Tok s 0 15 q e v0) (E : Nat) (names : List ByteArray) (hst : Chain s 13 E ⟨15, q, e, v0⟩ names) (hN : names.length ≤ 1000) (K : Int) (w : World) :
    Calls Tryz.prog 11 #[.string ⟨#[108, 111, 99, 97, 116, 105, 111, 110, 115]⟩, .int .i64 K, .string s] w fun r w' => (∃ v, r = .returned (.tuple #[v, .int .i64 (E : Int), .bool true]) ∧ w'.ownsRow w.heap.size 35 6 v names.length (nodeCells K names)) ∧ Below w.heap.size w w' := by
  have HRP := Lib.hid (preadLocs_any s hs ha q e v0 ht E names hst hN w)
  clear ha ht hst
  go_enter Tryz.func11, Tryz.ntmps11
  go_wp2_with fail
  refine HRP.out.mono ?_
  rintro r w1 ⟨⟨v, rfl, N, gs, B, c, rfl, hgs, hrow, hnodes⟩, hB⟩
  have HROW := Lib.hid hrow
  have HNODES := Lib.hid hnodes
  have HB1 := Lib.hid hB
  have HGS := Lib.hid hgs
  have HT0 := Lib.hid (tkr_new w1)
  clear hrow hnodes hB HRP hgs
  go_wp2_with fail
  go_loopg [27] names.length (fun gk x wr => ∃ (i : Nat) (vd vs : Value) (ys : List Value), gk = names.length - i ∧ i ≤ names.length ∧ x = .int .i64 i ∧ Hid (Tkr wr w1.heap.size (w1.heap.size + 1) vd vs i (nodeCells K (names.take i)) i ys) ∧ Hid (Below w1.heap.size w1 wr))
  case atStart => exact ⟨0, _, _, _, by omega, by omega, rfl, HT0, Lib.hid ((Below.refl _ _).alloc (Nat.le_refl _) _)⟩
  case round =>
    obtain ⟨i, vd, vs, ys, hgk, hile, rfl, HT, HB⟩ := hrel
    subst hgk
    by_cases hlt : i < names.length
    · have hlg : i < gs.length := by have := HGS.out; omega
      obtain ⟨b, rfl, hbw, hcell⟩ := (HROW.out.below HB.out) i (by simpa using hlg)
      rw [List.getElem_map] at hcell
      unfold ptr at hcell
      obtain ⟨l, hl1, hl2, hc1, hc2, hloc⟩ := (HNODES.out.get i hlg hlt).cells (Nat.le_refl _) HB.out
      have HP := Lib.hid (tpart_name HT.out hl1 hl2 hc1 hc2 hloc (by omega) (by omega) K)
      have hlt2 : (i : Int) < names.length := by omega
      clear hc1 hc2 hloc
      go_wp2_with fail
      refine HP.out.mono ?_
      rintro r w2 ⟨rfl, ⟨vd', vs', ys', hk⟩, hB2⟩
      have HK : Hid (Tkr w2 w1.heap.size (w1.heap.size + 1) vd' vs' (i + 1) (nodeCells K (names.take (i + 1))) (i + 1) ys') := Lib.hid (by rw [nodeCells_snoc K names i hlt]; exact hk)
      have HB2 := Lib.hid (HB.out.trans hB2)
      clear hk hB2 hcell HP
      go_wp2_with fail
      go_roundg (names.length - (i + 1))
      case measure => omega
      case rel => exact ⟨i + 1, vd', vs', ys', rfl, by omega, by go_num, HK, HB2⟩
    · obtain rfl : i = names.length := by omega
      have hd0 := HT.out.c0
      have hd2 := HT.out.c2
      have hz := HB1.out.size
      have HO := Lib.hid (owns_low (b0 := w.heap.size) HT.out.own0 (by omega))
      have hlw : w1.heap.size < wr.heap.size := Nat.lt_of_lt_of_le HT.out.lt HT.out.le
      go_wp2_with fail
      refine bodyPost_ret (v := .tuple #[vd, .int .i64 (E : Int), .bool true]) (by simp [results, Tryz.results11, go_sem]) rfl ⟨⟨vd, rfl, ?_⟩, HB1.out.trans (HB.out.mono hz)⟩
      have h := HO.out
      rwa [List.take_length] at h

set_option maxHeartbeats 1000000 in
set_option maxRecDepth 100000 in
theorem partName_impl (w : World) : Calls Tryz.prog 10 #[.int .i64 28] w fun r w' => r = .returned (.string ⟨#[105, 109, 112, 108, 101, 109, 101, 110, 116, 115]⟩) ∧ w = w' := by
  go_enter Tryz.func10, Tryz.ntmps10
  go_wp2_with fail
  go_ret
  exact ⟨rfl, rfl⟩

set_option maxHeartbeats 1000000 in
set_option maxRecDepth 100000 in
theorem read_impl (s : ByteArray) (hs : s.size ≤ 4294967295) (ha : ∀ (j : Nat) (h : j < s.size), (s[j]'h).toNat < 128) (q e : Nat) (he : 0 < e) (ht : Tok s 0 15 q e ⟨#[105, 109, 112, 108, 101, 109, 101, 110, 116, 115]⟩)
    (k1 : Int) (q1 e1 : Nat) (v1 : ByteArray) (ht1 : Tok s e k1 q1 e1 v1) (E : Nat) (names : List ByteArray) (hst : Start s E ⟨k1, q1, e1, v1⟩ names) (hN : names.length ≤ 1000) (w : World) :
    Calls Tryz.prog 7 #[.int .i64 28, .string s] w fun r w' => (∃ v, r = .returned (.tuple #[v, .int .i64 (E : Int), .bool true]) ∧ w'.ownsRow w.heap.size 35 6 v names.length (nodeCells 28 names)) ∧ Below w.heap.size w w' := by
  have H := Lib.hid (readPart_impl s hs ha q e he ht k1 q1 e1 v1 ht1 E names hst hN 28 w)
  clear ha ht ht1 hst
  go_enter Tryz.func7, Tryz.ntmps7
  go_wp2_with fail
  refine (partName_impl _).mono ?_
  rintro r w1 ⟨rfl, rfl⟩
  go_wp2_with fail
  refine H.out.mono ?_
  rintro r w1 ⟨⟨v, rfl, ho⟩, hb⟩
  go_wp2_with fail
  refine bodyPost_ret (v := .tuple #[v, .int .i64 (E : Int), .bool true]) (by simp [results, Tryz.results7, go_sem]) rfl ⟨⟨v, rfl, ho⟩, hb⟩

set_option maxHeartbeats 1000000 in
set_option maxRecDepth 100000 in
theorem partName_locs (w : World) : Calls Tryz.prog 10 #[.int .i64 38] w fun r w' => r = .returned (.string ⟨#[108, 111, 99, 97, 116, 105, 111, 110, 115]⟩) ∧ w = w' := by
  go_enter Tryz.func10, Tryz.ntmps10
  go_wp2_with fail
  go_ret
  exact ⟨rfl, rfl⟩

set_option maxHeartbeats 1000000 in
set_option maxRecDepth 100000 in
theorem read_locs (s : ByteArray) (hs : s.size ≤ 4294967295) (ha : ∀ (j : Nat) (h : j < s.size), (s[j]'h).toNat < 128) (q e : Nat) (v0 : ByteArray) (ht : Tok s 0 15 q e v0) (E : Nat) (names : List ByteArray) (hst : Chain s 13 E ⟨15, q, e, v0⟩ names) (hN : names.length ≤ 1000) (w : World) :
    Calls Tryz.prog 7 #[.int .i64 38, .string s] w fun r w' => (∃ v, r = .returned (.tuple #[v, .int .i64 (E : Int), .bool true]) ∧ w'.ownsRow w.heap.size 35 6 v names.length (nodeCells 38 names)) ∧ Below w.heap.size w w' := by
  have H := Lib.hid (readPart_locs s hs ha q e v0 ht E names hst hN 38 w)
  clear ha ht hst
  go_enter Tryz.func7, Tryz.ntmps7
  go_wp2_with fail
  refine (partName_locs _).mono ?_
  rintro r w1 ⟨rfl, rfl⟩
  go_wp2_with fail
  refine H.out.mono ?_
  rintro r w1 ⟨⟨v, rfl, ho⟩, hb⟩
  go_wp2_with fail
  refine bodyPost_ret (v := .tuple #[v, .int .i64 (E : Int), .bool true]) (by simp [results, Tryz.results7, go_sem]) rfl ⟨⟨v, rfl, ho⟩, hb⟩
end Go.Proofs.YtbjfahhfcdnkaaaGreatDoor
