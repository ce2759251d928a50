/- The law FnNamesApart, walked. -/
import Derived.Test.YtbojlohjmbhifaaGreatDoorNn
import Derived.Deep.QuietTactic
import Derived.BigQuiet
import Derived.Deep.RegionHeld3
import Derived.Deep.AppendLies
namespace Go.Proofs.YtbojlohjmbhifaaGreatDoor
open Go.RowKit Go.Proofs.YtbojlohjmbhifaaGreatDoorW.PrintWords Go.Proofs.YtbojlohjmbhifaaGreatDoorW.PrintMore

theorem infoS9 : (Tryz.prog.info? 9).map (fun i => (i.zero, i.size, i.bytes)) = some (some (.string ⟨#[]⟩), 1, 16) := by kernel_rfl

/-- The signs, as the law lays them. -/
def signCells : Array Value := #[.string ⟨#[33]⟩, .string ⟨#[36]⟩, .string ⟨#[40]⟩, .string ⟨#[41]⟩, .string ⟨#[58]⟩, .string ⟨#[61]⟩, .string ⟨#[64]⟩, .string ⟨#[91]⟩, .string ⟨#[93]⟩, .string ⟨#[123]⟩, .string ⟨#[124]⟩, .string ⟨#[125]⟩, .string ⟨#[46, 46, 46]⟩]
theorem signCells_at (k : Nat) (h : k < 13) : signCells[k]? = some (.string ⟨(signOf k).toArray⟩) := by
  match k, h with
  | 0, _ => rfl
  | 1, _ => rfl
  | 2, _ => rfl
  | 3, _ => rfl
  | 4, _ => rfl
  | 5, _ => rfl
  | 6, _ => rfl
  | 7, _ => rfl
  | 8, _ => rfl
  | 9, _ => rfl
  | 10, _ => rfl
  | 11, _ => rfl
  | 12, _ => rfl
  | n + 13, h => omega

theorem tcells_at : ∀ (ts : List T) (j : Nat) (h : j < ts.length), (tcells ts)[j * 4]? = some (.int .i64 ts[j].k) ∧ (tcells ts)[j * 4 + 1]? = some (.string ts[j].v)
  | t :: ts, 0, _ => ⟨rfl, rfl⟩
  | t :: ts, j + 1, h => by
    have := tcells_at ts j (by simpa using h)
    have e : tcells (t :: ts) = [Value.int .i64 t.k, .string t.v, .int .i64 (t.q : Int), .int .i64 (t.e : Int)] ++ tcells ts := rfl
    rw [e, List.getElem?_append_right (by simp; omega), List.getElem?_append_right (by simp; omega)]
    simp only [List.length_cons, List.length_nil, List.getElem_cons_succ]
    rw [show (j + 1) * 4 - (0 + 1 + 1 + 1 + 1) = j * 4 by omega, show (j + 1) * 4 + 1 - (0 + 1 + 1 + 1 + 1) = j * 4 + 1 by omega]
    exact this

set_option maxHeartbeats 2000000 in
set_option maxRecDepth 100000 in
theorem names_walk {w : World} {A B : Option Addr} {ws : List ByteArray} {gs : List Int} {c1 c2 : Nat} (hA : RowS w A ws) (hB : RowB w B gs) :
    Calls Tryz.prog 5 #[.slice A ws.length c1, .slice B gs.length c2] w fun r w' => r = .returned (.bool true) ∧ Below w.heap.size w w' := by
  have HA := Lib.hid hA
  have HB := Lib.hid hB
  have CF := Lib.hid (fun c => fits_any (cap := c) hA)
  clear hA hB
  go_enter Tryz.func5, Tryz.ntmps5
  go_wp2_with fail
  refine (CF.out _).mono ?_
  rintro r w0 ⟨⟨b, rfl, hfit⟩, hd⟩
  obtain ⟨m0, rfl⟩ := hd.out
  cases b with
  | false =>
    go_wp2_with fail
    go_ret
    exact ⟨rfl, hd.below⟩
  | true =>
  obtain ⟨z1, z2⟩ := hfit rfl
  have HZ := Lib.hid z2
  clear z2 hfit CF
  by_cases b1 : (2147483647 : Int) < gs.length
  · go_wp2_with fail
    go_ret
    exact ⟨rfl, hd.below⟩
  by_cases b2 : (12 : Int) < ws.length
  · go_wp2_with fail
    go_ret
    exact ⟨rfl, hd.below⟩
  go_wp2_with fail
  have HD := Lib.hid hd.below
  clear hd
  have hsig : ∀ k, k < 13 → ((w.drewN m0).alloc (.cells signCells 9)).cell? ⟨w.heap.size, k, none⟩ = some (.string ⟨(signOf k).toArray⟩) := fun k hk => by
    exact (World.cell?_alloc_at _ _ _ _ rfl).trans (signCells_at k hk)
  have HS := Lib.hid hsig
  have HD2 := Lib.hid (HD.out.alloc HD.out.size (.cells signCells 9))
  clear hsig
  obtain ⟨i0, hi0, hz0, hz1, hz2⟩ := info_parts infoS9
  go_loopw [6, 7, 27] (fun x v y wr => ∃ i : Nat, i ≤ ws.length ∧ x = .string ⟨(nameTo gs ws i).toArray⟩ ∧ y = .int .i64 i ∧ Hid (∀ (j : Nat) (h : j < ws.length), j < i → name9 ws[j] = true) ∧ Hid (Below w.heap.size w wr) ∧
    Hid (∀ k, k < 13 → wr.cell? ⟨w.heap.size, k, none⟩ = some (.string ⟨(signOf k).toArray⟩)) ∧ Hid (wr.ownsRow (w.heap.size + 1) 9 1 v (wantTo gs ws i).length ((wantTo gs ws i).map Value.string)) ∧ w.heap.size < wr.heap.size) (fun _ _ y _ => ws.length - (intOf y).toNat)
  case atStart => exact ⟨0, by omega, rfl, rfl, Lib.hid (fun j _ h => absurd h (Nat.not_lt_zero _)), HD2, HS, Lib.hid (World.ownsRow_nil _ _ _ _), by simp⟩
  case round =>
    obtain ⟨i, hi, rfl, rfl, hall, hb, hsg, hown, hG⟩ := hrel
    obtain ⟨A', cc, rfl⟩ := owns_form hown.out
    by_cases hlt : i < ws.length
    · have hlt2 : (i : Int) < ws.length := by omega
      obtain ⟨b, o, rfl, hbb, hc⟩ := (HA.out.below hb.out) i hlt
      have hblt : b < w.heap.size := by
        obtain ⟨b', o', e, hl, _⟩ := HA.out i hlt
        cases e
        exact hl
      have C14 := Lib.hid (fun W => isName9_any ws[i] (HZ.out _ (List.getElem_mem hlt)) W)
      cases hnm : name9 ws[i] with
      | false =>
        rw [hnm] at C14
        go_wp2_with fail
        refine (C14.out _).mono ?_
        rintro r w1 ⟨rfl, ⟨m1, rfl⟩⟩
        go_wp2_with fail
        go_ret
        exact ⟨rfl, hb.out.trans (Drawn0.below ⟨⟨_, rfl⟩⟩ |>.mono hb.out.size)⟩
      | true =>
        rw [hnm] at C14
        have hsz : ws[i].size ≤ 40 := by
          obtain ⟨_, _, _, _, _, h⟩ := name9_list hnm
          exact h
        have hlen : (nameTo gs ws i).length ≤ 43 * i := nameTo_len gs ws i (fun j hj => by
          have hj' : j < ws.length := by omega
          obtain ⟨_, _, _, _, _, h⟩ := name9_list (hall.out j hj' hj)
          rw [List.getD_eq_getElem?_getD, List.getElem?_eq_getElem hj']
          exact h)
        have hwl := wantTo_len gs ws i
        have hts : (⟨(nameTo gs ws i).toArray⟩ : ByteArray).size = (nameTo gs ws i).length := by show (nameTo gs ws i).toArray.size = _; simp
        go_wp2_with fail
        refine (C14.out _).mono ?_
        rintro r w1 ⟨rfl, ⟨m1, rfl⟩⟩
        have hcW : (wr.drewN m1).cell? ⟨b, o + i, none⟩ = some (.string ws[i]) := hc
        have hoW : (wr.drewN m1).ownsRow (w.heap.size + 1) 9 1 (.slice A' (wantTo gs ws i).length cc) (wantTo gs ws i).length ((wantTo gs ws i).map Value.string) := hown.out
        have hbW : Hid (Below w.heap.size w (wr.drewN m1)) := Lib.hid (hb.out.trans (Drawn0.below ⟨⟨_, rfl⟩⟩ |>.mono hb.out.size))
        have hsW : Hid (∀ k, k < 13 → (wr.drewN m1).cell? ⟨w.heap.size, k, none⟩ = some (.string ⟨(signOf k).toArray⟩)) := hsg
        have hGW : w.heap.size < (wr.drewN m1).heap.size := hG
        have hHO := Lib.hid hoW
        generalize wr.drewN m1 = W at *
        clear hc hbb hG hsg hb hoW hown
        have hi00 : (0 : Int) ≤ i := by omega
        have HNX : Hid (∀ g : List UInt8, behind gs i = g → Value.string (⟨(nameTo gs ws i).toArray⟩ ++ ws[i] ++ ⟨g.toArray⟩) = Value.string ⟨(nameTo gs ws (i + 1)).toArray⟩) := Lib.hid (fun g hg => by
          refine congrArg Value.string (ba_ext ?_)
          have e : ws.getD i ByteArray.empty = ws[i] := by rw [List.getD_eq_getElem?_getD, List.getElem?_eq_getElem hlt]; rfl
          simp only [nameTo, e, hg]
          simp)
        generalize (⟨(nameTo gs ws i).toArray⟩ : ByteArray) = S at *
        have hSz : S.size ≤ 43 * i := by omega
        have hadd : ¬ 9223372036854775807 < S.size + ws[i].size := by omega
        have hall2 : Hid (∀ (j : Nat) (h : j < ws.length), j < i + 1 → name9 ws[j] = true) := Lib.hid (fun j hj h => by
          rcases Nat.lt_or_ge j i with h' | h'
          · exact hall.out j hj h'
          · obtain rfl : j = i := by omega
            exact hnm)
        clear C14 hnm hall hts hlen
        go_wp2_with fail
        go_region_held3 (fun w' => w'.cell? ⟨b, o + i, none⟩ = some (.string ws[i]))
          (first | go_keep | (rw [hgrow.cell_far _ (by simp; omega) (by intro e; have := hHO.out.lt _ e.symm; simp at this; omega)]; assumption))
          ((refine step_append_lies _ (by rfl) _ _ _ (by rfl) (w.heap.size + 1) 9 i0 _ 1 16 Tryz.underlying31 hi0 hz0 hz1 hz2 rfl (by omega) (.slice A' (wantTo gs ws i).length cc) (wantTo gs ws i).length ((wantTo gs ws i).map Value.string) (by rfl) ((hHO.out.alloc _).drew)
                (⟨W.heap.size, 0, none⟩) 1 1 [.string ws[i]] (by rfl) (by rfl) (World.news_of_block (cs := #[.string ws[i]]) (t := 9) (fr := (0, 0)) (heap_alloc_new W _)) (by simp [Value.oneCell'])
                (by omega) (by unfold maxLen; omega) (by omega) (by simp; omega) (W.heap.size + 1) (by simp) ?_; intro gg cap w1 hown1 hgrow hat hggl))
        have hb1 : Hid (Below w.heap.size w w1) := Lib.hid (((hbW.out.alloc hbW.out.size _).drew).grown hgrow (by have := hbW.out.size; simp; omega) (fun k hk => by have := (hHO.out.lt k hk).1; omega))
        have hs1 : Hid (∀ k, k < 13 → w1.cell? ⟨w.heap.size, k, none⟩ = some (.string ⟨(signOf k).toArray⟩)) := Lib.hid (fun k hk => by
          rw [hgrow.cell_far _ (by simp; omega) (by intro e; have := (hHO.out.lt _ e.symm).1; simp at this; omega)]
          exact (World.cell?_alloc_past _ _ _ hGW).trans (hsW.out k hk))
        have hG1 : w.heap.size < w1.heap.size := by
          have := (hown1.lt gg rfl).1
          omega
        have HO1 := Lib.hid hown1
        clear hown1 hgrow hat hsW hHO hbW
        have hsw : (S ++ ws[i]).size ≤ 43 * i + 40 := by rw [ByteArray.size_append]; omega
        by_cases hg : i < gs.length
        · have hg2 : (i : Int) < gs.length := by omega
          obtain ⟨b', o', rfl, hbb', hc', hr1, hr2⟩ := (HB.out.below hb1.out) i hg
          have hm : Int.tmod gs[i] 2 = gs[i] % 2 := Int.tmod_eq_emod_of_nonneg hr1
          cases hs : isSign gs i with
          | true =>
            have e2 : gs[i] % 2 = 1 := by
              unfold isSign at hs
              rw [List.getElem?_eq_getElem hg] at hs
              simpa using hs
            have e3 : (gs[i] % 2 == 1) = true := beq_iff_eq.2 e2
            obtain ⟨k, hk⟩ : ∃ k : Nat, gs[i] / 2 % 13 = (k : Int) := ⟨(gs[i] / 2 % 13).toNat, by omega⟩
            have hk13 : k < 13 := by omega
            have hk13' : (k : Int) < 13 := by omega
            have hk0 : (0 : Int) ≤ k := by omega
            have hsk : signAt gs i = k := by
              unfold signAt
              rw [List.getD_eq_getElem?_getD, List.getElem?_eq_getElem hg]
              show (gs[i] / 2 % 13).toNat = k
              rw [hk]
              rfl
            have hcK := hs1.out k hk13
            have hnx := HNX.out (signOf k) (by unfold behind; rw [hs, hsk]; rfl)
            have hZ : (⟨(signOf k).toArray⟩ : ByteArray).size ≤ 3 := by
              have := behind_len gs i
              unfold behind at this
              rw [hs, hsk] at this
              show (signOf k).toArray.size ≤ 3
              simpa using this
            have HNX2 := Lib.hid hnx
            clear hnx
            generalize (⟨(signOf k).toArray⟩ : ByteArray) = Z at *
            have hadd2 : ¬ 9223372036854775807 < (S ++ ws[i]).size + Z.size := by omega
            have hadd3 : ¬ 9223372036854775807 < S.size + ws[i].size + Z.size := by omega
            go_wp2_with fail
            go_region_held3 (fun w' => w'.cell? ⟨w.heap.size, k, none⟩ = some (.string Z))
              (first | go_keep | (rw [hgrow.cell_far _ (by simp; omega) (by intro e; have := HO1.out.lt _ e.symm; simp at this; omega)]; assumption))
              ((refine step_append_lies _ (by rfl) _ _ _ (by rfl) (w.heap.size + 1) 9 i0 _ 1 16 Tryz.underlying31 hi0 hz0 hz1 hz2 rfl (by omega) (.slice (some ⟨gg, 0, none⟩) ((wantTo gs ws i).length + 1) cap) ((wantTo gs ws i).length + 1) ((wantTo gs ws i).map Value.string ++ [.string ws[i]]) (by rfl) ((HO1.out.alloc _).drew)
                    (⟨w1.heap.size, 0, none⟩) 1 1 [.string ⟨#[]⟩] (by rfl) (by rfl) (World.news_of_block (cs := #[.string ⟨#[]⟩]) (t := 9) (fr := (0, 0)) (heap_alloc_new w1 _)) (by simp [Value.oneCell'])
                    (by omega) (by unfold maxLen; omega) (by omega) (by simp; omega) (w1.heap.size + 1) (by simp) ?_; intro gg2 cap2 w2 hown2 hgrow hat2 hggl2))
            have hb2 : Hid (Below w.heap.size w w2) := Lib.hid (((hb1.out.alloc hb1.out.size _).drew).grown hgrow (by have := hb1.out.size; simp; omega) (fun k hk => by have := (HO1.out.lt k hk).1; omega))
            have hs2 : Hid (∀ k, k < 13 → w2.cell? ⟨w.heap.size, k, none⟩ = some (.string ⟨(signOf k).toArray⟩)) := Lib.hid (fun k hk => by
              rw [hgrow.cell_far _ (by simp; omega) (by intro e; have := (HO1.out.lt _ e.symm).1; simp at this; omega)]
              exact (World.cell?_alloc_past _ _ _ hG1).trans (hs1.out k hk))
            have hG2 : w.heap.size < w2.heap.size := by
              have := (hown2.lt gg2 rfl).1
              omega
            have HO2 := Lib.hid hown2
            clear hown2 hgrow hat2
            go_wp2_with fail
            go_round
            case rel => exact ⟨i + 1, by omega, HNX2.out, by go_num, hall2, hb2, hs2, Lib.hid (by
              have e4 : wantTo gs ws (i + 1) = wantTo gs ws i ++ [ws[i]] ++ [⟨#[]⟩] := by
                rw [wantTo, List.getD_eq_getElem?_getD, List.getElem?_eq_getElem hlt]
                unfold wants
                rw [hs]
                simp
              rw [e4, List.map_append, List.length_append, List.map_append, List.length_append]
              exact HO2.out), hG2⟩
            case measure => simp [intOf]; omega
          | false =>
            have e2 : gs[i] % 2 ≠ 1 := by
              unfold isSign at hs
              rw [List.getElem?_eq_getElem hg] at hs
              simpa using hs
            have e3 : (gs[i] % 2 == 1) = false := beq_eq_false_iff_ne.2 e2
            go_wp2_with fail
            go_round
            case rel => exact ⟨i + 1, by omega, HNX.out [32] (by unfold behind; rw [hs]; rfl), by go_num, hall2, hb1, hs1, Lib.hid (by
              have e4 : wantTo gs ws (i + 1) = wantTo gs ws i ++ [ws[i]] := by
                rw [wantTo, List.getD_eq_getElem?_getD, List.getElem?_eq_getElem hlt]
                unfold wants
                rw [hs]
                rfl
              rw [e4, List.map_append, List.length_append]
              exact HO1.out), hG1⟩
            case measure => simp [intOf]; omega
        · have hs : isSign gs i = false := by unfold isSign; rw [List.getElem?_eq_none (by omega)]
          go_wp2_with fail
          go_round
          case rel => exact ⟨i + 1, by omega, HNX.out [32] (by unfold behind; rw [hs]; rfl), by go_num, hall2, hb1, hs1, Lib.hid (by
            have e4 : wantTo gs ws (i + 1) = wantTo gs ws i ++ [ws[i]] := by
              rw [wantTo, List.getD_eq_getElem?_getD, List.getElem?_eq_getElem hlt]
              unfold wants
              rw [hs]
              rfl
            rw [e4, List.map_append, List.length_append]
            exact HO1.out), hG1⟩
          case measure => simp [intOf]; omega
    · obtain rfl : i = ws.length := by omega
      have hwall : ∀ x ∈ ws, name9 x = true := by
        intro x hx
        obtain ⟨j, hj, rfl⟩ := List.getElem_of_mem hx
        exact hall.out j hj hj
      have htext : nameTo gs ws ws.length = restS gs ws 0 := by
        have := nameTo_rest gs ws ws.length (Nat.le_refl _)
        rw [List.drop_length] at this
        simpa [restS] using this
      have hwant : wantTo gs ws ws.length = wantS gs ws 0 := by
        have := wantTo_rest gs ws ws.length (Nat.le_refl _)
        rw [List.drop_length] at this
        simpa [wantS] using this
      have hlen : (nameTo gs ws ws.length).length ≤ 43 * ws.length := nameTo_len gs ws ws.length (fun j hj => by
        obtain ⟨_, _, _, _, _, h⟩ := name9_list (hall.out j hj hj)
        rw [List.getD_eq_getElem?_getD, List.getElem?_eq_getElem hj]
        exact h)
      have hwl := wantTo_len gs ws ws.length
      have hfrom : From ⟨(nameTo gs ws ws.length).toArray⟩ 0 ([] ++ restS gs ws 0) := by
        rw [← htext]
        exact From.whole _
      obtain ⟨ts, hr, hl, hcell⟩ := run_names gs ws 0 0 [] hwall (by simp) hfrom
      obtain ⟨sq, se, h7⟩ := a_only
      have C9 := Lib.hid (fun W => tokens_any ⟨(nameTo gs ws ws.length).toArray⟩ (by show (nameTo gs ws ws.length).toArray.size ≤ _; simp; omega) (ascii_list (by
        intro c hc
        have hc' : c ∈ restS gs ws 0 := by rw [← htext]; exact hc
        exact restS_ascii gs ws 0 hwall c hc')) ts true hr W)
      have C12 := Lib.hid (fun W => only_any ⟨#[97]⟩ (by decide) (by decide) 15 sq se ⟨#[97]⟩ h7 W)
      have HC := Lib.hid hcell
      rw [hwant] at hown hwl
      generalize (⟨(nameTo gs ws ws.length).toArray⟩ : ByteArray) = s at *
      rw [hwant]
      clear hall hwall htext hlen hfrom hr h7 hcell hwant hsg
      generalize wantS gs ws 0 = wt at *
      go_wp2_with fail
      refine (C9.out _).mono ?_
      rintro r w2 ⟨⟨_, v, rfl, hown2⟩ | ⟨h, _⟩, hb2⟩
      · obtain ⟨A2, cc2, rfl⟩ := owns_form hown2
        have b3 : ((ts.length : Int) != wt.length) = false := by rw [bne_eq_false_iff_eq]; omega
        have HO := Lib.hid hown2
        have HB2 := Lib.hid (hb.out.trans (hb2.mono hb.out.size))
        have HOW : Hid (w2.ownsRow (w.heap.size + 1) 9 1 (.slice A' wt.length cc) wt.length (wt.map Value.string)) := Lib.hid (own_move hown.out (fun k hk => hb2.block k (hown.out.lt k hk).2))
        clear hown2 hb2 hb hown
        go_wp2_with fail
        go_loopw [98] (fun x wr => ∃ j : Nat, j ≤ ts.length ∧ x = .int .i64 j ∧ Drawn0 w2 wr) (fun x _ => ts.length - (intOf x).toNat)
        case atStart => exact ⟨0, by omega, rfl, by repeat (first | exact Drawn0.refl _ | apply Drawn0.step)⟩
        case round =>
          obtain ⟨j, hj, rfl, ⟨m2, rfl⟩⟩ := hrel
          by_cases hlt2 : j < ts.length
          · have hlt3 : (j : Int) < ts.length := by omega
            have hlt4 : j < wt.length := by omega
            have hlt5 : (j : Int) < wt.length := by omega
            have hj0 : (0 : Int) ≤ j := by omega
            rcases HO.out.2 with ⟨h0, h1⟩ | ⟨g, cap, cur, h0, _⟩
            · omega
            rcases HOW.out.2 with ⟨h00, h1⟩ | ⟨gw, capw, curw, h00, _⟩
            · omega
            cases h0
            cases h00
            have c0 := HO.out.cellAt (j * 4) (by omega)
            have c1 := HO.out.cellAt (j * 4 + 1) (by omega)
            have cw := HOW.out.cellAt j (by omega)
            obtain ⟨t0, t1⟩ := tcells_at ts j hlt2
            rw [t0] at c0
            rw [t1] at c1
            rw [List.getElem?_map, List.getElem?_eq_getElem hlt4] at cw
            simp only [Option.map_some] at cw
            rcases HC.out j hlt2 hlt4 with ⟨k0, k1, k2⟩ | ⟨k0, k1⟩
            · rw [k1] at c0
              rw [k2] at c1
              have e0 : (wt[j].toList != ([] : List UInt8)) = true := by rw [ByteArray.toList_eq, bne_iff_ne]; exact k0
              have e1 : (wt[j].toList == ([] : List UInt8)) = false := by rw [ByteArray.toList_eq, beq_eq_false_iff_ne]; exact k0
              clear t0 t1 k0 k1 k2
              generalize wt[j] = Z at *
              go_wp2_with fail
              go_quiet (fail)
              go_wp2_with fail
              go_round
              case rel => exact ⟨j + 1, by omega, by go_num, by repeat (first | exact Drawn0.refl _ | apply Drawn0.step)⟩
              case measure => simp [intOf]; omega
            · rw [k0] at cw
              have e2 : (ts[j].k == 15) = false := beq_eq_false_iff_ne.2 k1
              clear t0 t1 k0 k1
              go_wp2_with fail
              go_quiet (fail)
              go_wp2_with fail
              go_round
              case rel => exact ⟨j + 1, by omega, by go_num, by repeat (first | exact Drawn0.refl _ | apply Drawn0.step)⟩
              case measure => simp [intOf]; omega
          · obtain rfl : j = ts.length := by omega
            go_wp2_with fail
            refine (C12.out _).mono ?_
            rintro r w3 ⟨rfl, hb3⟩
            go_wp2
            go_ret
            exact ⟨rfl, HB2.out.trans ((Drawn0.below ⟨⟨_, rfl⟩⟩ |>.mono HB2.out.size).trans (hb3.mono HB2.out.size))⟩
      · cases h
end Go.Proofs.YtbojlohjmbhifaaGreatDoor
