/- FnPartLocations: the walk. -/
import Derived.Test.YtbjfahhfcdnkaaaGreatDoorPo
namespace Go.Proofs.YtbjfahhfcdnkaaaGreatDoor
open Go.RowKit Go.Proofs.YtbjfahhfcdnkaaaGreatDoorW.PrintWords Go.Proofs.YtbjfahhfcdnkaaaGreatDoorW.PrintMore

/-- The published names. -/
def locList : List ByteArray := [⟨#[81, 85, 69, 82, 89]⟩, ⟨#[77, 85, 84, 65, 84, 73, 79, 78]⟩, ⟨#[83, 85, 66, 83, 67, 82, 73, 80, 84, 73, 79, 78]⟩, ⟨#[70, 73, 69, 76, 68]⟩, ⟨#[70, 82, 65, 71, 77, 69, 78, 84, 95, 68, 69, 70, 73, 78, 73, 84, 73, 79, 78]⟩, ⟨#[70, 82, 65, 71, 77, 69, 78, 84, 95, 83, 80, 82, 69, 65, 68]⟩, ⟨#[73, 78, 76, 73, 78, 69, 95, 70, 82, 65, 71, 77, 69, 78, 84]⟩, ⟨#[83, 67, 72, 69, 77, 65]⟩, ⟨#[83, 67, 65, 76, 65, 82]⟩, ⟨#[79, 66, 74, 69, 67, 84]⟩, ⟨#[70, 73, 69, 76, 68, 95, 68, 69, 70, 73, 78, 73, 84, 73, 79, 78]⟩, ⟨#[65, 82, 71, 85, 77, 69, 78, 84, 95, 68, 69, 70, 73, 78, 73, 84, 73, 79, 78]⟩, ⟨#[73, 78, 84, 69, 82, 70, 65, 67, 69]⟩, ⟨#[85, 78, 73, 79, 78]⟩, ⟨#[69, 78, 85, 77]⟩, ⟨#[69, 78, 85, 77, 95, 86, 65, 76, 85, 69]⟩, ⟨#[73, 78, 80, 85, 84, 95, 79, 66, 74, 69, 67, 84]⟩, ⟨#[73, 78, 80, 85, 84, 95, 70, 73, 69, 76, 68, 95, 68, 69, 70, 73, 78, 73, 84, 73, 79, 78]⟩]
def loc9 (g : Int) : ByteArray := locList.getD (g % 18).toNat ByteArray.empty
def locCells : Array Value := (locList.map Value.string).toArray
theorem loc_name : ∀ k : Fin 18, name9 (locList.getD k.val ByteArray.empty) = true := by decide
theorem loc_cell : ∀ k : Fin 18, locCells[k.val]? = some (.string (locList.getD k.val ByteArray.empty)) := by
  intro k
  have h : k.val < locList.length := k.isLt
  unfold locCells
  simp [List.getD_eq_getElem?_getD, List.getElem?_eq_getElem h]

theorem infoS9 : (Tryz.prog.info? 9).map (fun i => (i.zero, i.size, i.bytes)) = some (some (.string ⟨#[]⟩), 1, 16) := by kernel_rfl

theorem rowS_own {w : World} {base : Nat} {v : Value} {ns : List ByteArray} (h : w.ownsRow base 9 1 v ns.length (ns.map Value.string)) : ∃ A c, v = .slice A ns.length c ∧ RowS w A ns := by
  rcases h.2 with ⟨rfl, h0⟩ | ⟨g, cap, cur, rfl, hg⟩
  · exact ⟨_, _, by rw [h0], fun i hi => by omega⟩
  · refine ⟨_, _, rfl, fun i hi => ⟨g, 0, rfl, (h.lt g rfl).2, ?_⟩⟩
    rw [Nat.zero_add, h.cellAt i (by omega), List.getElem?_map, List.getElem?_eq_getElem hi]
    rfl

theorem locs_text {s : ByteArray} (ns : List ByteArray) (hall : ∀ m ∈ ns, name9 m = true) (h0 : 0 < ns.length) (hs : s.data.toList = tailS 124 125 ns 0) :
    ∃ (e : Nat) (v0 : ByteArray), Tok s 0 15 0 e v0 ∧ Chain s 13 (s.size - 1) ⟨15, 0, e, v0⟩ ns := by
  cases ns with
  | nil => simp at h0
  | cons n l =>
    have hn := hall n (by simp)
    have hl : ∀ m ∈ l, name9 m = true := fun m hm => hall m (by simp [hm])
    have hw : From s 0 ([] ++ (n.data.toList ++ tailS 124 125 l (0 + 1))) := by
      have h := From.whole s
      rw [hs] at h
      simpa [tailS, sep] using h
    have hk := nameTok hn hw (by simp) (tail_blank 124 125 l 0)
    have hch := chain_of (s := s) (sg := 124) (fin := 125) (K := 13) (kf := 14) (fun p q ha hc => tok_pipe s p q ha hc) (fun p q ha hc => tok_braceR s p q ha hc) (by decide) l n 0 0 hn hl (by simpa using hw)
    simp only [List.length_nil, Nat.zero_add, Nat.add_zero] at hk hch
    exact ⟨_, _, hk, hch⟩

set_option maxHeartbeats 4000000 in
set_option maxRecDepth 100000 in
theorem locs_walk {w : World} {A : Option Addr} {gs : List Int} {cap : Nat} (hA : RowB w A gs) :
    Calls Tryz.prog 4 #[.slice A gs.length cap] w fun r w' => r = .returned (.bool true) ∧ Below w.heap.size w w' := by
  have HA := Lib.hid hA
  clear hA
  by_cases b1 : (2147483647 : Int) < gs.length
  · go_enter Tryz.func4, Tryz.ntmps4
    go_wp2_with fail
    go_ret
    exact ⟨rfl, Below.refl _ _⟩
  have hcl : Hid ((w.alloc (.cells locCells 9)).heap.size = w.heap.size + 1 ∧ ∀ k : Nat, k < 18 → (w.alloc (.cells locCells 9)).cell? ⟨w.heap.size, k, none⟩ = some (.string (locList.getD k ByteArray.empty))) := Lib.hid ⟨by simp, fun k hk => (World.cell?_alloc_at _ _ _ _ rfl).trans (loc_cell ⟨k, hk⟩)⟩
  obtain ⟨i0, hi, hy0, hy1, hy2⟩ := info_parts infoS9
  have HD := Lib.hid ((Below.refl w.heap.size w).alloc (Nat.le_refl _) (.cells locCells 9))
  go_enter Tryz.func4, Tryz.ntmps4
  go_wp2_with fail
  go_loopg [4, 19] gs.length (fun gk v x wr => ∃ i : Nat, gk = gs.length - i ∧ i ≤ gs.length ∧ x = .int .i64 i ∧ Hid (wr.ownsRow (w.heap.size + 1) 9 1 v i (((gs.take i).map loc9).map Value.string)) ∧ Hid (Below w.heap.size w wr) ∧ Hid (∀ k : Nat, k < 18 → wr.cell? ⟨w.heap.size, k, none⟩ = some (.string (locList.getD k ByteArray.empty))) ∧ w.heap.size < wr.heap.size)
  case atStart => exact ⟨0, by omega, by omega, rfl, Lib.hid (World.ownsRow_nil _ _ _ _), HD, Lib.hid hcl.out.2, by simp⟩
  case round =>
    obtain ⟨i, hgk, hile, rfl, HO, HB, HC, hws⟩ := hrel
    obtain ⟨A2, c2, rfl⟩ := owns_form HO.out
    subst hgk
    by_cases hlt : i < gs.length
    · obtain ⟨b, o, rfl, hbw, hcell, hg0, hg1⟩ := (HA.out.below HB.out) i hlt
      have hlt2 : (i : Int) < gs.length := by omega
      have hi0 : (0 : Int) ≤ i := by omega
      obtain ⟨k, hk, hkm⟩ : ∃ k : Nat, k < 18 ∧ gs[i] % 18 = k := ⟨(gs[i] % 18).toNat, by omega, by omega⟩
      have HK := Lib.hid hkm
      have hck := HC.out k hk
      have hki : (k : Int) < 18 := by omega
      have hkm2 := HK.out
      go_wp2_with (at_builtin; refine wpList_append_lies _ rfl (.tmp 22) (.tmp 34) 22 rfl (w.heap.size + 1) 9 i0 _ 1 16 Tryz.underlying22 hi hy0 hy1 hy2 rfl (by decide) _ _ _ rfl (HO.out.alloc _) ⟨wr.heap.size, 0, none⟩ 1 1 [.string (locList.getD k ByteArray.empty)] rfl rfl ?c1 ?c2 (by decide) ?c3 ?c4 ?c5 (wr.heap.size + 1) (by simp) ?_)
      case c1 =>
        intro j u hj
        rw [add_plain]
        refine (World.cell?_alloc_at _ _ _ _ rfl).trans ?_
        simpa using hj
      case c2 =>
        intro u hu
        simp only [List.mem_cons, List.mem_nil_iff, or_false] at hu
        subst hu
        rfl
      case c3 => unfold maxLen; omega
      case c4 => omega
      case c5 => simp; omega
      intro g' cap' w2 hown' hgrow hlie hlt'
      have hsz := hgrow.size
      simp only [World.size_alloc] at hsz
      have HB2 := Lib.hid ((HB.out.alloc HB.out.size (.cells #[.string (locList.getD k ByteArray.empty)] 9)).grown hgrow (by have := HB.out.size; simp; omega) (fun j hj => by have := (HO.out.lt j hj).1; omega))
      have HC2 : Hid (∀ k : Nat, k < 18 → w2.cell? ⟨w.heap.size, k, none⟩ = some (.string (locList.getD k ByteArray.empty))) := Lib.hid (fun k hk => by
        rw [hgrow.cell_far ⟨w.heap.size, k, none⟩ (by show w.heap.size < _; simp; omega) (fun e => by have := (HO.out.lt w.heap.size e.symm).1; omega)]
        exact (World.cell?_of_block (Below.heap_alloc _ _ _ hws)).trans (HC.out k hk))
      have HO2 : Hid (w2.ownsRow (w.heap.size + 1) 9 1 (.slice (some ⟨g', 0, none⟩) (i + 1) cap') (i + 1) (((gs.take (i + 1)).map loc9).map Value.string)) := Lib.hid (by
        rw [List.take_succ_eq_append_getElem hlt, List.map_append, List.map_append]
        have e : loc9 gs[i] = locList.getD k ByteArray.empty := by unfold loc9; rw [HK.out]; rfl
        simp only [List.map_cons, List.map_nil, e]
        simpa using hown')
      clear hown' hgrow hlie hkm2 hcell hck
      go_wp2_with fail
      go_roundg (gs.length - (i + 1))
      case measure => omega
      case rel => exact ⟨i + 1, rfl, by omega, by go_num, HO2, HB2, HC2, by omega⟩
    · obtain rfl : i = gs.length := by omega
      have hown : wr.ownsRow (w.heap.size + 1) 9 1 (.slice A2 gs.length c2) gs.length ((gs.map loc9).map Value.string) := by have h := HO.out; rwa [List.take_length] at h
      obtain ⟨ns, hns⟩ : ∃ ns, ns = gs.map loc9 := ⟨_, rfl⟩
      have hl : ns.length = gs.length := by rw [hns]; simp
      rw [← hns, ← hl] at hown
      obtain ⟨A3, c3, hv3, hrow⟩ := rowS_own hown
      obtain ⟨rfl, rfl⟩ : A2 = A3 ∧ c2 = c3 := by
        injection hv3 with h1 h2 h3
        exact ⟨h1, h3⟩
      have hall : ∀ m ∈ ns, name9 m = true := by
        intro m hm
        rw [hns, List.mem_map] at hm
        obtain ⟨g, _, rfl⟩ := hm
        exact loc_name ⟨(g % 18).toNat, by omega⟩
      have HNM := Lib.hid (named9_any (cap := c2) hrow (by omega) (fun n hn => by have := (name_bytes (hall n hn)).2; rw [size_list] at this; omega) 38 124)
      rw [hl] at HNM
      have HL := Lib.hid hl
      have HALL := Lib.hid hall
      clear hns hown hv3 hrow hl hall hcl HC HO HA
      go_wp2_with fail
      refine HNM.out.mono ?_
      rintro r w1 ⟨⟨v, t, rfl, hok⟩, hb1⟩
      have HOK := Lib.hid hok
      have HB1 := Lib.hid (HB.out.trans (hb1.mono HB.out.size))
      clear hok hb1 HNM
      cases hb : (allName ns && decide (0 < gs.length) && decide (gs.length ≤ 8)) with
      | false =>
        go_wp2_with fail
        go_ret
        exact ⟨rfl, HB1.out⟩
      | true =>
      rw [Bool.and_eq_true, Bool.and_eq_true, decide_eq_true_eq, decide_eq_true_eq] at hb
      obtain ⟨⟨ball, b0⟩, b8⟩ := hb
      have hl := HL.out
      obtain ⟨hown, htx⟩ := HOK.out ball
      rw [← hl] at hown htx b0 b8
      have htl : t.data.toList ++ [32, 125] = tailS 124 125 ns 0 := by rw [htx]; exact text_tail 124 125 ns
      have hlen := tail_len 124 125 ns 0 HALL.out
      have htz : t.size + 2 ≤ 43 * 8 + 2 := by
        have := congrArg List.length htl
        simp only [List.length_append, List.length_cons, List.length_nil, size_list] at this
        omega
      obtain ⟨B, cB, rfl, hrowB⟩ := rowN_of hown
      have HROW := Lib.hid hrowB
      have hasc := tail_ascii 124 125 (by decide) (by decide) ns 0 HALL.out
      have HRD : Hid (∀ (s : ByteArray), s.data.toList = tailS 124 125 ns 0 → s.size ≤ 4294967295 → ∀ W, Calls Tryz.prog 7 #[.int .i64 38, .string s] W fun r w' => (∃ v, r = .returned (.tuple #[v, .int .i64 ((s.size - 1 : Nat) : Int), .bool true]) ∧ w'.ownsRow W.heap.size 35 6 v ns.length (nodeCells 38 ns)) ∧ Below W.heap.size W w') := Lib.hid (fun s hs hsz W => by
        obtain ⟨e, v0, ht0, hst⟩ := locs_text ns HALL.out b0 hs
        exact read_locs s hsz (ascii_list (by rw [hs]; exact hasc)) 0 e v0 ht0 (s.size - 1) ns hst (by omega) W)
      have HTL := Lib.hid htl
      clear htl hlen hrowB hasc htx hown HOK ball hl b0
      go_wp2_with fail
      generalize hS : (t ++ ⟨#[32, 125]⟩ : ByteArray) = s
      have hs1 : s.size ≤ 4294967295 ∧ 1 ≤ s.size := by
        rw [← hS]
        simp only [ByteArray.size_append]
        have e2 : (⟨#[32, 125]⟩ : ByteArray).size = 2 := rfl
        omega
      have C7 := HRD.out s (by rw [← hS, ← HTL.out]; simp) hs1.1
      have hE : (((s.size - 1 : Nat) : Int) == (s.size : Int) - 1) = true := beq_iff_eq.2 (by omega)
      clear hS
      refine (C7 _).mono ?_
      rintro r w2 ⟨⟨v2, rfl, hown⟩, hb2⟩
      obtain ⟨A5, c5, rfl, hrow2⟩ := rowN_of hown
      have C8 := Lib.hid (same_any (c := c5) (d := cB) hrow2 (HROW.out.below hb2) (by decide) (by omega))
      have HB2 := Lib.hid (HB1.out.trans (hb2.mono HB1.out.size))
      clear hown hrow2 hb2 C7
      go_wp2_with fail
      refine C8.out.mono ?_
      rintro r w3 ⟨rfl, hb3⟩
      go_wp2_with fail
      go_ret
      exact ⟨rfl, HB2.out.trans (hb3.mono HB2.out.size)⟩
end Go.Proofs.YtbjfahhfcdnkaaaGreatDoor
