/- The taker: nodes as data. -/
import Derived.Test.YtbjfahhfcdnkaaaGreatDoorPf
import Derived.Deep.RegionLaw
namespace Go.Proofs.YtbjfahhfcdnkaaaGreatDoor
open Go.RowKit Go.Proofs.YtbjfahhfcdnkaaaGreatDoorW.PrintWords Go.Proofs.YtbjfahhfcdnkaaaGreatDoorW.PrintMore

theorem info35 : (Tryz.prog.info? 35).map (fun i => (i.zero, i.size, i.bytes)) = some (some (.agg #[.int .i64 0, .string ⟨#[]⟩, .string ⟨#[]⟩, .string ⟨#[]⟩, .int .i64 0, .int .i64 0]), 6, 72) := by kernel_rfl
theorem info147 : (Tryz.prog.info? 147).map (fun i => (i.zero, i.size, i.bytes)) = some (some (.agg #[.int .i64 0, .int .i64 0]), 2, 16) := by kernel_rfl

/-- A taker lies at block tb: its nodes xs, its spans ys. -/
structure Tkr (w : World) (tb base : Nat) (vd vs : Value) (n : Nat) (xs : List Value) (m : Nat) (ys : List Value) : Prop where
  c0 : w.cell? ⟨tb, 0, none⟩ = some vd
  c1 : w.cell? ⟨tb, 1, none⟩ = some vs
  c2 : w.cell? ⟨tb, 2, none⟩ = some (.bool false)
  z : ∀ i : Nat, w.frozen? ⟨tb, i, none⟩ = false
  own0 : w.ownsRow base 35 6 vd n xs
  own1 : w.ownsRow base 147 2 vs m ys
  sep : ∀ k, vd.ownBlock = some k → vs.ownBlock ≠ some k
  lt : tb < base
  le : base ≤ w.heap.size

/-- Another row's block is as it was. -/
theorem owns_other {w w' : World} {base : Nat} {e : TypeId} {size n : Nat} {v : Value} {xs : List Value} (h : w.ownsRow base e size v n xs) (hb : ∀ k, v.ownBlock = some k → w'.heap[k]? = w.heap[k]?) : w'.ownsRow base e size v n xs := by
  refine ⟨h.1, ?_⟩
  rcases h.2 with h2 | ⟨k, cap, cur, rfl, hk, hh, r⟩
  · exact .inl h2
  · exact .inr ⟨k, cap, cur, rfl, hk, (hb k rfl).trans hh, r⟩

/-- The list of nodes has grown, and is stored. -/
theorem tkr_d {w w1 : World} {tb base : Nat} {vd vs : Value} {n : Nat} {xs news : List Value} {m : Nat} {ys : List Value} {o o' : Obj} {gg cap : Nat} (h : Tkr w tb base vd vs n xs m ys) (hown : w1.ownsRow base 35 6 (.slice (some ⟨gg, 0, none⟩) (n + 1) cap) (n + 1) (xs ++ news))
    (hg : ((w.alloc o).alloc o').drew.grownBy w1 vd.ownBlock) (hat : vd.ownBlock = some gg ∨ gg = w.heap.size + 1 + 1) :
    Tkr (w1.setCell ⟨tb, 0, none⟩ (.slice (some ⟨gg, 0, none⟩) (n + 1) cap)) tb base (.slice (some ⟨gg, 0, none⟩) (n + 1) cap) vs (n + 1) (xs ++ news) m ys ∧ Below tb w (w1.setCell ⟨tb, 0, none⟩ (.slice (some ⟨gg, 0, none⟩) (n + 1) cap)) := by
  have hlt := h.lt
  have hle := h.le
  have hsz := hg.size
  simp only [World.size_drew, World.size_alloc] at hsz
  have hbk : ∀ i, i < w.heap.size → some i ≠ vd.ownBlock → w1.heap[i]? = w.heap[i]? := fun i hi hne =>
    (hg.block i (by simp; omega) hne).trans ((Below.heap_alloc _ _ _ (by simp; omega)).trans (Below.heap_alloc _ _ _ hi))
  have htb : some tb ≠ vd.ownBlock := fun e => by have := (h.own0.lt tb e.symm).1; omega
  have htk := hbk tb (by omega) htb
  have hc : ∀ i : Nat, w1.cell? ⟨tb, i, none⟩ = w.cell? ⟨tb, i, none⟩ := fun i => World.cell?_of_block htk
  refine ⟨⟨World.cell?_setCell_same _ _ _ ((hc 0).trans h.c0), ?_, ?_, fun i => ?_, ownsRow_setCell_below hown (show tb < base from hlt) _, ownsRow_setCell_below (owns_other h.own1 (fun k hk => hbk k (h.own1.lt k hk).2 (fun e => h.sep k e.symm hk))) (show tb < base from hlt) _, ?_, hlt, by simp; omega⟩, ?_⟩
  · rw [World.cell?_setCell_other _ _ _ _ (by simp)]; exact (hc 1).trans h.c1
  · rw [World.cell?_setCell_other _ _ _ _ (by simp)]; exact (hc 2).trans h.c2
  · rw [World.frozen?_setCell]; exact (World.frozen?_of_block htk).trans (h.z i)
  · intro k hk
    have hk2 : gg = k := by simpa [Value.ownBlock] using hk
    subst hk2
    rcases hat with hat | hat
    · exact h.sep _ hat
    · intro e
      have := (h.own1.lt _ e).2
      omega
  · exact ⟨hg.os, hg.tape, hg.output, by simp; omega, fun i hi => (Below.heap_setCell _ _ _ _ (by show i ≠ tb; omega)).trans (hbk i (by omega) (fun e => by have := (h.own0.lt i e.symm).1; omega))⟩

/-- The list of spans has grown, and is stored. -/
theorem tkr_s {w w1 : World} {tb base : Nat} {vd vs : Value} {n : Nat} {xs news : List Value} {m : Nat} {ys : List Value} {o : Obj} {gg cap : Nat} (h : Tkr w tb base vd vs n xs m ys) (hown : w1.ownsRow base 147 2 (.slice (some ⟨gg, 0, none⟩) (m + 1) cap) (m + 1) (ys ++ news))
    (hg : (w.alloc o).drew.grownBy w1 vs.ownBlock) (hat : vs.ownBlock = some gg ∨ gg = w.heap.size + 1) :
    Tkr (w1.setCell ⟨tb, 1, none⟩ (.slice (some ⟨gg, 0, none⟩) (m + 1) cap)) tb base vd (.slice (some ⟨gg, 0, none⟩) (m + 1) cap) n xs (m + 1) (ys ++ news) ∧ Below tb w (w1.setCell ⟨tb, 1, none⟩ (.slice (some ⟨gg, 0, none⟩) (m + 1) cap)) := by
  have hlt := h.lt
  have hle := h.le
  have hsz := hg.size
  simp only [World.size_drew, World.size_alloc] at hsz
  have hbk : ∀ i, i < w.heap.size → some i ≠ vs.ownBlock → w1.heap[i]? = w.heap[i]? := fun i hi hne =>
    (hg.block i (by simp; omega) hne).trans (Below.heap_alloc _ _ _ hi)
  have htb : some tb ≠ vs.ownBlock := fun e => by have := (h.own1.lt tb e.symm).1; omega
  have htk := hbk tb (by omega) htb
  have hc : ∀ i : Nat, w1.cell? ⟨tb, i, none⟩ = w.cell? ⟨tb, i, none⟩ := fun i => World.cell?_of_block htk
  refine ⟨⟨?_, World.cell?_setCell_same _ _ _ ((hc 1).trans h.c1), ?_, fun i => ?_, ownsRow_setCell_below (owns_other h.own0 (fun k hk => hbk k (h.own0.lt k hk).2 (fun e => h.sep k hk e.symm))) (show tb < base from hlt) _, ownsRow_setCell_below hown (show tb < base from hlt) _, ?_, hlt, by simp; omega⟩, ?_⟩
  · rw [World.cell?_setCell_other _ _ _ _ (by simp)]; exact (hc 0).trans h.c0
  · rw [World.cell?_setCell_other _ _ _ _ (by simp)]; exact (hc 2).trans h.c2
  · rw [World.frozen?_setCell]; exact (World.frozen?_of_block htk).trans (h.z i)
  · intro k hk e
    have hk2 : gg = k := by simpa [Value.ownBlock] using e
    subst hk2
    rcases hat with hat | hat
    · exact h.sep _ hk hat
    · have := (h.own0.lt _ hk).2
      omega
  · exact ⟨hg.os, hg.tape, hg.output, by simp; omega, fun i hi => (Below.heap_setCell _ _ _ _ (by show i ≠ tb; omega)).trans (hbk i (by omega) (fun e => by have := (h.own1.lt i e.symm).1; omega))⟩

/-- The last node's size is stored. -/
theorem tkr_size {w : World} {tb base gd cd : Nat} {vs : Value} {n : Nat} {xs : List Value} {x0 x1 x2 x3 x4 x5 : Value} {m : Nat} {ys : List Value} (h : Tkr w tb base (.slice (some ⟨gd, 0, none⟩) (n + 1) cd) vs (n + 1) (xs ++ [x0, x1, x2, x3, x4, x5]) m ys) (u : Value) :
    Tkr (w.setCell ⟨gd, n * 6 + 5, none⟩ u).drew tb base (.slice (some ⟨gd, 0, none⟩) (n + 1) cd) vs (n + 1) (xs ++ [x0, x1, x2, x3, x4, u]) m ys ∧ Below tb w (w.setCell ⟨gd, n * 6 + 5, none⟩ u).drew := by
  have hge := (h.own0.lt gd rfl).1
  have hlt := h.lt
  have hgne : gd ≠ tb := by omega
  have hx : xs.length = n * 6 := by have := h.own0.1; simp at this; omega
  have hset : (xs ++ [x0, x1, x2, x3, x4, x5]).set (n * 6 + 5) u = xs ++ [x0, x1, x2, x3, x4, u] := by
    rw [List.set_append_right _ _ (by omega), hx, Nat.add_sub_cancel_left]
    rfl
  have ho := (h.own0.stored (n * 6 + 5) u).1
  rw [hset] at ho
  refine ⟨⟨(setCell_far w u hgne).trans h.c0, (setCell_far w u hgne).trans h.c1, (setCell_far w u hgne).trans h.c2, fun i => ?_, ho, owns_other h.own1 (fun k hk => Below.heap_setCell _ _ _ _ (fun e => h.sep gd rfl (by rw [hk]; exact congrArg some e))), h.sep, hlt, by have := h.le; simpa using this⟩, ?_⟩
  · show (w.setCell ⟨gd, n * 6 + 5, none⟩ u).frozen? ⟨tb, i, none⟩ = false
    rw [World.frozen?_setCell]
    exact h.z i
  · exact Below.drew ((Below.refl tb w).setCell (show tb ≤ gd by omega) u)

theorem heap_alloc_new' (w : World) (o o' : Obj) : ((w.alloc o).alloc o').drew.heap[w.heap.size + 1]? = some o' := by
  have h := heap_alloc_new (w.alloc o) o'
  rw [World.size_alloc] at h
  exact h

set_option maxRecDepth 100000 in
theorem nilFunc_neq (w : World) : (Sem.run Tryz.prog (binOp BinOp.neq 1 Value.nilFunc Value.nilFunc) w) = .ok (.bool false) w := by kernel_rfl

set_option maxHeartbeats 2000000 in
set_option maxRecDepth 100000 in
theorem put_any {w : World} {tb base l : Nat} {vd vs : Value} {n : Nat} {xs : List Value} {m : Nat} {ys : List Value} (h : Tkr w tb base vd vs n xs m ys) (hl : LocAt w l) (hll : l < tb) (hn : n ≤ 1000) (hm : m ≤ 1000) (K : Int) (nm : ByteArray) :
    Calls Tryz.prog 20 #[.pointer (some ⟨tb, 0, none⟩), .pointer (some ⟨l, 0, none⟩), .agg #[.int .i64 K, .string nm, .string ⟨#[]⟩, .string ⟨#[]⟩, .int .i64 0, .int .i64 0], .nilFunc] w fun r w' => r = .returned (.tuple #[]) ∧
      (∃ vd' vs' ys', Tkr w' tb base vd' vs' (n + 1) (xs ++ [.int .i64 K, .string nm, .string ⟨#[]⟩, .string ⟨#[]⟩, .int .i64 0, .int .i64 1]) (m + 1) ys') ∧ Below tb w w' := by
  have HT := Lib.hid h
  have HL := Lib.hid hl
  have g0 := h.c0
  have z0 := h.z 0
  have hlt : tb < w.heap.size := Nat.lt_of_lt_of_le h.lt h.le
  obtain ⟨A0, cp0, rfl⟩ := owns_form h.own0
  have hb0 := h.lt
  have hb1 := h.le
  have HO : Hid (∀ o o', ((w.alloc o).alloc o').drew.ownsRow base 35 6 (.slice A0 n cp0) n xs) := Lib.hid (fun o o' => (h.own0.alloc o).alloc o')
  have HF : Hid (∀ (o o' : Obj) (W : World), ((w.alloc o).alloc o').drew.grownBy W (Value.slice A0 n cp0).ownBlock → W.cell? ⟨tb, 0, none⟩ = some (.slice A0 n cp0) ∧ W.frozen? ⟨tb, 0, none⟩ = false) := Lib.hid (fun o o' W hg => by
    have hne : some tb ≠ (Value.slice A0 n cp0).ownBlock := fun e => by have := (h.own0.lt tb e.symm).1; omega
    have hbk : W.heap[tb]? = w.heap[tb]? := (hg.block tb (by simp; omega) hne).trans ((Below.heap_alloc _ _ _ (by simp; omega)).trans (Below.heap_alloc _ _ _ hlt))
    exact ⟨(World.cell?_of_block hbk).trans g0, (World.frozen?_of_block hbk).trans z0⟩)
  clear h hl
  obtain ⟨i0, hi0, hy0, hy1, hy2⟩ := info_parts info35
  go_enter Tryz.func20, Tryz.ntmps20
  go_upto_region 2 with (fail)
  go_cut [21] (fun x wx => ∃ gg cap, x = .slice (some ⟨gg, 0, none⟩) (n + 1) cap ∧ Hid (Tkr wx tb base (.slice (some ⟨gg, 0, none⟩) (n + 1) cap) vs (n + 1) (xs ++ [.int .i64 K, .string nm, .string ⟨#[]⟩, .string ⟨#[]⟩, .int .i64 0, .int .i64 0]) m ys) ∧ Hid (Below tb w wx))
  case first =>
    go_region_law (refine step_append_lies _ (by rfl) (.tmp 18) (.tmp 20) 24 (by rfl) base 35 i0 _ 6 72 Tryz.underlying24 hi0 hy0 hy1 hy2 rfl (by omega) (.slice A0 n cp0) n xs (by rfl) (HO.out _ _) (⟨w.heap.size + 1, 0, none⟩) 1 1 [.int .i64 K, .string nm, .string ⟨#[]⟩, .string ⟨#[]⟩, .int .i64 0, .int .i64 0] (by rfl) (by rfl) (World.news_of_block (cs := #[.int .i64 K, .string nm, .string ⟨#[]⟩, .string ⟨#[]⟩, .int .i64 0, .int .i64 0]) (t := 35) (fr := (0, 0)) (heap_alloc_new' w _ _)) (by simp [Value.oneCell']) (by omega) (by unfold maxLen; omega) (by omega) (by simp; omega) (w.heap.size + 1 + 1) (by simp) ?_; intro gg cap w1 hown1 hgrow hat hlt2; have hfz := HF.out _ _ _ hgrow; have hcc := hfz.1; have hzz := hfz.2)
    all_goals
      have hkk := Lib.hid (tkr_d HT.out hown1 hgrow hat)
      clear hown1 hgrow hat hfz hcc hzz
      go_wp2_with fail
      go_meet
      case rel => exact ⟨_, _, rfl, Lib.hid hkk.out.1, Lib.hid hkk.out.2⟩
  case rest =>
    obtain ⟨gd, cd, rfl, hT1, hB1⟩ := hcut
    clear HO HF HT hi0 hy0 hy1 hy2 g0 z0 hlt
    have hlt := Nat.lt_of_lt_of_le hT1.out.lt hT1.out.le
    obtain ⟨A1, cp1, rfl⟩ := owns_form hT1.out.own1
    have g1 := hT1.out.c1
    have z1 := hT1.out.z 1
    have HL1 := Lib.hid (HL.out.of (hB1.out.block l hll))
    obtain ⟨la, lb, hl0, hl1⟩ := HL1.out
    have hb1' := hT1.out.le
    have hlw : l < wc.heap.size := by omega
    have HO : Hid (∀ o, (wc.alloc o).drew.ownsRow base 147 2 (.slice A1 m cp1) m ys) := Lib.hid (fun o => hT1.out.own1.alloc o)
    have HF : Hid (∀ (o : Obj) (W : World), (wc.alloc o).drew.grownBy W (Value.slice A1 m cp1).ownBlock → W.cell? ⟨tb, 1, none⟩ = some (.slice A1 m cp1) ∧ W.frozen? ⟨tb, 1, none⟩ = false) := Lib.hid (fun o W hg => by
      have hne : some tb ≠ (Value.slice A1 m cp1).ownBlock := fun e => by have := (hT1.out.own1.lt tb e.symm).1; omega
      have hbk : W.heap[tb]? = wc.heap[tb]? := (hg.block tb (by simp; omega) hne).trans (Below.heap_alloc _ _ _ hlt)
      exact ⟨(World.cell?_of_block hbk).trans g1, (World.frozen?_of_block hbk).trans z1⟩)
    obtain ⟨i1, hi0, hy0, hy1, hy2⟩ := info_parts info147
    go_upto_region 5 with (fail)
    go_cut [43] (fun x wx => ∃ vs' ys', x = vs' ∧ Hid (Tkr wx tb base (.slice (some ⟨gd, 0, none⟩) (n + 1) cd) vs' (n + 1) (xs ++ [.int .i64 K, .string nm, .string ⟨#[]⟩, .string ⟨#[]⟩, .int .i64 0, .int .i64 0]) (m + 1) ys') ∧ Hid (Below tb w wx))
    case first =>
      go_region_law (refine step_append_lies _ (by rfl) (.tmp 32) (.tmp 42) 44 (by rfl) base 147 i1 _ 2 16 Tryz.underlying44 hi0 hy0 hy1 hy2 rfl (by omega) (.slice A1 m cp1) m ys (by rfl) (HO.out _) (⟨wc.heap.size, 0, none⟩) 1 1 [.int .i64 la, .int .i64 lb] (by rfl) (by rfl) (World.news_of_block (cs := #[.int .i64 la, .int .i64 lb]) (t := 147) (fr := (0, 0)) (heap_alloc_new wc _)) (by simp [Value.oneCell']) (by omega) (by unfold maxLen; omega) (by omega) (by simp; omega) (wc.heap.size + 1) (by simp) ?_; intro gg cap w1 hown1 hgrow hat hlt2; have hfz := HF.out _ _ hgrow; have hcc := hfz.1; have hzz := hfz.2)
      all_goals
        have hkk := Lib.hid (tkr_s hT1.out hown1 hgrow hat)
        clear hown1 hgrow hat hfz hcc hzz
        go_wp2_with fail
        go_meet
        case rel => exact ⟨_, _, rfl, Lib.hid hkk.out.1, Lib.hid (hB1.out.trans hkk.out.2)⟩
    case rest =>
      obtain ⟨vs', ys', rfl, hT2, hB2⟩ := hcut
      clear HO HF hT1 hB1 hi0 hy0 hy1 hy2 g1 z1 hlt hl0 hl1
      have hnf := nilFunc_neq
      have hlen := hT2.out.own0.1
      have HLEN := Lib.hid hlen
      clear hlen
      have hn1 : (0 : Int) ≤ n := by omega
      have hn2 : (n : Int) < ((n + 1 : Nat) : Int) := by omega
      have hn3 : (n : Int) < (n : Int) + 1 := by omega
      have hn4 : (n : Int).toNat = n := by omega
      have d0 := hT2.out.c0
      have hgne : gd ≠ tb := by have := (hT2.out.own0.lt gd rfl).1; have := hT2.out.lt; omega
      have d1 : wc.cell? ⟨gd, n * 6 + 5, none⟩ = some (.int .i64 0) := by
        rw [hT2.out.own0.cellAt (n * 6 + 5) (by omega)]
        have hx : xs.length = n * 6 := by have := HLEN.out; simp at this; omega
        rw [List.getElem?_append_right (by omega), hx, Nat.add_sub_cancel_left]
        rfl
      have d2 : wc.frozen? ⟨gd, n * 6 + 5, none⟩ = false := hT2.out.own0.frozenAt _
      have D0 := Lib.hid d0
      go_wp2_with fail
      go_region_held3 (fun w' => w'.cell? ⟨tb, 0, none⟩ = some (.slice (some ⟨gd, 0, none⟩) (n + 1) cd)) (first | with_reducible exact D0.out | exact (setCell_far _ _ hgne).trans D0.out | go_keep) (fail)
      all_goals
        go_wp2_with fail
        rw [show (n : Int) + 1 - n = 1 by omega]
        have hfin := Lib.hid (tkr_size hT2.out (.int .i64 1))
        go_end0
        exact ⟨rfl, ⟨_, _, _, hfin.out.1⟩, hB2.out.trans hfin.out.2⟩
end Go.Proofs.YtbjfahhfcdnkaaaGreatDoor
