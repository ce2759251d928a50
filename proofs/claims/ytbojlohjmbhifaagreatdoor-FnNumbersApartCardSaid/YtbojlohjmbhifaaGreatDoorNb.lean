/- The law FnNumbersApart, walked. -/
import Derived.Test.YtbojlohjmbhifaaGreatDoorNa
import Derived.Test.YtbojlohjmbhifaaGreatDoorNu
import Derived.Deep.QuietTactic
import Derived.BigQuiet
namespace Go.Proofs.YtbojlohjmbhifaaGreatDoor
open Go.RowKit Go.Proofs.YtbojlohjmbhifaaGreatDoorW.PrintWords Go.Proofs.YtbojlohjmbhifaaGreatDoorW.PrintMore

/-- What stands behind the word at place i. -/
def gapOf (g : Int) : List UInt8 := if g % 4 = 0 then [32] else if g % 4 = 1 then [44] else if g % 4 = 2 then [10] else [32, 44, 32]
def gapN (gs : List Int) (i : Nat) : List UInt8 := match gs[i]? with
  | none => [32]
  | some g => gapOf g
/-- The text of the words from one on. -/
def restN (gs : List Int) : List ByteArray → Nat → List UInt8
  | [], _ => []
  | w :: ws, i => w.data.toList ++ (gapN gs i ++ restN gs ws (i + 1))
/-- The text of the first words. -/
def textTo (gs : List Int) (ws : List ByteArray) : Nat → List UInt8
  | 0 => []
  | i + 1 => textTo gs ws i ++ ((ws.getD i ByteArray.empty).data.toList ++ gapN gs i)

theorem gapN_blank (gs : List Int) (i : Nat) : (∀ c ∈ gapN gs i, blank8 c = true) ∧ gapN gs i ≠ [] ∧ (gapN gs i).length ≤ 3 := by
  unfold gapN
  split
  · exact ⟨by decide, by decide, by decide⟩
  · unfold gapOf
    repeat' split
    all_goals exact ⟨by decide, by decide, by decide⟩

theorem textTo_rest (gs : List Int) (ws : List ByteArray) : ∀ i, i ≤ ws.length → textTo gs ws i ++ restN gs (ws.drop i) i = restN gs ws 0
  | 0, _ => by simp [textTo]
  | i + 1, h => by
    rw [← textTo_rest gs ws i (by omega)]
    rw [List.drop_eq_getElem_cons (show i < ws.length by omega)]
    have e : ws.getD i ByteArray.empty = ws[i] := by rw [List.getD_eq_getElem?_getD, List.getElem?_eq_getElem (show i < ws.length by omega)]; rfl
    simp only [textTo, restN, e, List.append_assoc]

theorem textTo_len (gs : List Int) (ws : List ByteArray) : ∀ i, (∀ j, j < i → (ws.getD j ByteArray.empty).size ≤ 20) → (textTo gs ws i).length ≤ 23 * i
  | 0, _ => by simp [textTo]
  | i + 1, h => by
    have h1 := textTo_len gs ws i (fun j hj => h j (by omega))
    have h2 := h i (by omega)
    have h3 := (gapN_blank gs i).2.2
    rw [← size_list] at h2
    simp only [textTo, List.length_append]
    omega

theorem run_nums {s : ByteArray} (gs : List Int) : ∀ (ws : List ByteArray) (i p : Nat) (g : List UInt8), (∀ w ∈ ws, whole9 w = true) → (∀ c ∈ g, blank8 c = true) → From s p (g ++ restN gs ws i) →
    ∃ ts, Run s p ts true ∧ ts.length = ws.length ∧ ∀ (j : Nat) (h : j < ts.length) (h' : j < ws.length), ts[j].k = 16 ∧ ts[j].v = ws[j]
  | [], i, p, g, _, hg, hf => by
    rw [restN, List.append_nil] at hf
    obtain ⟨e, v, t⟩ := end_at hf hg
    exact ⟨[], .done t, rfl, fun j h => by cases h⟩
  | w :: ws, i, p, g, hw, hg, hf => by
    obtain ⟨w1, w2, w3, w4⟩ := whole_list (hw w List.mem_cons_self)
    obtain ⟨g1, g2, g3⟩ := gapN_blank gs i
    rw [restN] at hf
    have t := int_at hf hg w2 w1 w4 (fun d r' e => by
      refine blank_noNum ?_
      cases hgn : gapN gs i with
      | nil => exact absurd hgn g2
      | cons c u =>
        rw [hgn] at e g1
        simp only [List.cons_append, List.cons.injEq] at e
        rw [← e.1]
        exact g1 c List.mem_cons_self)
    have h2 := hf.skip.skip
    have hz := h2.size
    have hl : 0 < w.data.toList.length := List.length_pos_iff.2 w2
    obtain ⟨ts, r1, r2, r3⟩ := run_nums gs ws (i + 1) (p + g.length + w.data.toList.length) (gapN gs i) (fun x hx => hw x (List.mem_cons_of_mem _ hx)) g1 h2
    refine ⟨_ :: ts, .step t (by decide) (by omega) (by omega) r1, by simp [r2], ?_⟩
    intro j h h'
    cases j with
    | zero => exact ⟨rfl, rfl⟩
    | succ j => exact r3 j (by simpa using h) (by simpa using h')

theorem restN_ascii (gs : List Int) : ∀ (ws : List ByteArray) (i : Nat), (∀ w ∈ ws, whole9 w = true) → ∀ c ∈ restN gs ws i, c.toNat < 128
  | [], _, _, c, h => by cases h
  | w :: ws, i, hw, c, h => by
    rw [restN] at h
    rcases List.mem_append.1 h with h | h
    · exact digit_ascii ((whole_list (hw w List.mem_cons_self)).1 c h)
    rcases List.mem_append.1 h with h | h
    · exact blank_ascii ((gapN_blank gs i).1 c h)
    · exact restN_ascii gs ws (i + 1) (fun x hx => hw x (List.mem_cons_of_mem _ hx)) c h

theorem tcells_at : ∀ (ts : List T) (j : Nat) (h : j < ts.length), (tcells ts)[j * 4]? = some (.int .i64 ts[j].k) ∧ (tcells ts)[j * 4 + 1]? = some (.string ts[j].v)
  | t :: ts, 0, _ => ⟨rfl, rfl⟩
  | t :: ts, j + 1, h => by
    have := tcells_at ts j (by simpa using h)
    have e : tcells (t :: ts) = [Value.int .i64 t.k, .string t.v, .int .i64 (t.q : Int), .int .i64 (t.e : Int)] ++ tcells ts := rfl
    rw [e, List.getElem?_append_right (by simp; omega), List.getElem?_append_right (by simp; omega)]
    simp only [List.length_cons, List.length_nil, List.getElem_cons_succ]
    rw [show (j + 1) * 4 - (0 + 1 + 1 + 1 + 1) = j * 4 by omega, show (j + 1) * 4 + 1 - (0 + 1 + 1 + 1 + 1) = j * 4 + 1 by omega]
    exact this

theorem seven_only : ∃ q e, Run ⟨#[55]⟩ 0 [⟨16, q, e, ⟨#[55]⟩⟩] true := by
  have h0 : From ⟨#[55]⟩ 0 ([] ++ ([55] ++ [])) := ⟨rfl, by decide⟩
  have h1 : From ⟨#[55]⟩ 1 [] := ⟨rfl, by decide⟩
  have t := int_at h0 (by simp) (by simp) (by decide) (by simp) (by simp)
  obtain ⟨e, v, t3⟩ := end_at h1 (by simp)
  exact ⟨_, _, .step t (by decide) (by decide) (by decide) (.done t3)⟩

set_option maxHeartbeats 2000000 in
set_option maxRecDepth 100000 in
theorem numbers_walk {w : World} {A B : Option Addr} {ws : List ByteArray} {gs : List Int} {c1 c2 : Nat} (hA : RowS w A ws) (hB : RowB w B gs) :
    Calls Tryz.prog 7 #[.slice A ws.length c1, .slice B gs.length c2] w fun r w' => r = .returned (.bool true) ∧ Below w.heap.size w w' := by
  have HA := Lib.hid hA
  have HB := Lib.hid hB
  have CF := Lib.hid (fun c => fits_any (cap := c) hA)
  clear hA hB
  go_enter Tryz.func7, Tryz.ntmps7
  go_wp2_with fail
  refine (CF.out _).mono ?_
  rintro r w0 ⟨⟨b, rfl, hfit⟩, hd⟩
  obtain ⟨m0, rfl⟩ := hd.out
  cases b with
  | false =>
    go_wp2_with fail
    go_ret
    exact ⟨rfl, hd.below⟩
  | true =>
  obtain ⟨z1, z2⟩ := hfit rfl
  have HZ := Lib.hid z2
  clear z2 hfit CF
  by_cases b1 : (2147483647 : Int) < gs.length
  · go_wp2_with fail
    go_ret
    exact ⟨rfl, hd.below⟩
  by_cases b2 : (12 : Int) < ws.length
  · go_wp2_with fail
    go_ret
    exact ⟨rfl, hd.below⟩
  go_wp2_with fail
  have HD := Lib.hid hd.below
  clear hd
  go_loopw [5, 24] (fun x y wr => ∃ i : Nat, i ≤ ws.length ∧ x = .string ⟨(textTo gs ws i).toArray⟩ ∧ y = .int .i64 i ∧ Hid (∀ (j : Nat) (h : j < ws.length), j < i → whole9 ws[j] = true) ∧ Hid (Below w.heap.size w wr)) (fun _ y _ => ws.length - (intOf y).toNat)
  case atStart => exact ⟨0, by omega, rfl, rfl, Lib.hid (fun j _ h => absurd h (Nat.not_lt_zero _)), HD⟩
  case round =>
    obtain ⟨i, hi, rfl, rfl, hall, hb⟩ := hrel
    by_cases hlt : i < ws.length
    · have hlt2 : (i : Int) < ws.length := by omega
      obtain ⟨b, o, rfl, hbb, hc⟩ := (HA.out.below hb.out) i hlt
      have C16 := Lib.hid (fun W => digits9_any ws[i] (HZ.out _ (List.getElem_mem hlt)) W)
      cases hdg : dig9 ws[i] with
      | false =>
        rw [hdg] at C16
        go_wp2_with fail
        refine (C16.out _).mono ?_
        rintro r w1 ⟨rfl, ⟨m1, rfl⟩⟩
        go_wp2_with fail
        go_ret
        exact ⟨rfl, hb.out.trans (Drawn0.below ⟨⟨_, rfl⟩⟩ |>.mono hb.out.size)⟩
      | true =>
        rw [hdg] at C16
        have hsz : ws[i].size ≤ 20 := by
          have := (dig9_list hdg).2.2
          rwa [size_list] at this
        have hpos : 0 < ws[i].size := by
          have h1 := (dig9_list hdg).2.1
          rw [← size_list]
          exact List.length_pos_iff.2 h1
        have hx : bt ws[i] 0 = ((ws[i][0]'hpos).toNat : Int) := by
          unfold bt
          rw [dif_pos (show (0 : Int).toNat < ws[i].size from hpos)]
          rfl
        cases hwh : whole9 ws[i] with
        | false =>
          have hw2 := hwh
          unfold whole9 at hw2
          rw [hdg, hx] at hw2
          simp at hw2
          obtain ⟨e1, e2⟩ := hw2
          have e1' : (1 : Int) < ws[i].size := by omega
          have e3 : (((ws[i][0]'hpos).toNat : Int) == 48) = true := by rw [beq_iff_eq]; omega
          clear hdg hwh e2 hx
          go_wp2_with fail
          refine (C16.out _).mono ?_
          rintro r w1 ⟨rfl, ⟨m1, rfl⟩⟩
          go_wp2_with fail
          go_ret
          exact ⟨rfl, hb.out.trans (Drawn0.below ⟨⟨_, rfl⟩⟩ |>.mono hb.out.size)⟩
        | true =>
          have hw2 := hwh
          unfold whole9 at hw2
          rw [hdg, hx] at hw2
          simp only [Bool.true_and, Bool.not_eq_true', Bool.and_eq_false_iff] at hw2
          have hlen : (textTo gs ws i).length ≤ 23 * i := textTo_len gs ws i (fun j hj => by
            have hj' : j < ws.length := by omega
            have e := (whole_list (hall.out j hj' hj)).2.2.1
            rw [size_list] at e
            rw [List.getD_eq_getElem?_getD, List.getElem?_eq_getElem hj']
            exact e)
          have hts : (⟨(textTo gs ws i).toArray⟩ : ByteArray).size = (textTo gs ws i).length := by show (textTo gs ws i).toArray.size = _; simp
          have hall2 : Hid (∀ (j : Nat) (h : j < ws.length), j < i + 1 → whole9 ws[j] = true) := Lib.hid (fun j hj h => by
            rcases Nat.lt_or_ge j i with h' | h'
            · exact hall.out j hj h'
            · obtain rfl : j = i := by omega
              exact hwh)
          have hnext : Hid (∀ g : List UInt8, gapN gs i = g → Value.string (⟨(textTo gs ws i).toArray⟩ ++ (ws[i] ++ ⟨g.toArray⟩)) = Value.string ⟨(textTo gs ws (i + 1)).toArray⟩) := Lib.hid (fun g hg => by
            refine congrArg Value.string (ba_ext ?_)
            have e : ws.getD i ByteArray.empty = ws[i] := by rw [List.getD_eq_getElem?_getD, List.getElem?_eq_getElem hlt]; rfl
            simp only [textTo, e, hg]
            simp)
          clear hdg hwh hx
          have hor : (¬ (1 : Int) < ws[i].size) ∨ ((1 : Int) < ws[i].size ∧ (((ws[i][0]'hpos).toNat : Int) == 48) = false) := by
            rcases hw2 with hw2 | hw2
            · rw [decide_eq_false_iff_not] at hw2
              exact .inl (by omega)
            · by_cases h1 : (1 : Int) < ws[i].size
              · exact .inr ⟨h1, hw2⟩
              · exact .inl h1
          clear hw2
          rcases hor with e1 | ⟨e1, e3⟩
          all_goals
            by_cases hg : i < gs.length
            · obtain ⟨b', o', rfl, hbb', hc', hr1, hr2⟩ := (HB.out.below hb.out) i hg
              have hcA : ∀ (m : Nat) (ob : Obj), ((wr.drewN m).alloc ob).cell? ⟨b', o' + i, none⟩ = some (.int .u8 gs[i]) := fun m ob => (World.cell?_alloc_past _ _ _ hbb').trans hc'
              have hcB : ∀ (m : Nat) (ob : Obj), ((wr.drewN m).alloc ob).cell? ⟨b, o + i, none⟩ = some (.string ws[i]) := fun m ob => (World.cell?_alloc_past _ _ _ hbb).trans hc
              have hcN : ∀ (m k : Nat) (cs : Array Value) (ty : TypeId), ((wr.drewN m).alloc (.cells cs ty)).cell? ⟨wr.heap.size, k, none⟩ = cs[k]? := fun m k cs ty => World.cell?_alloc_at _ _ _ _ rfl
              have hgn : gapN gs i = gapOf gs[i] := by unfold gapN; rw [List.getElem?_eq_getElem hg]
              have hm : Int.tmod gs[i] 4 = gs[i] % 4 := Int.tmod_eq_emod_of_nonneg hr1
              have h4 : gs[i] % 4 = 0 ∨ gs[i] % 4 = 1 ∨ gs[i] % 4 = 2 ∨ gs[i] % 4 = 3 := by omega
              rcases h4 with h4 | h4 | h4 | h4
              · have hm' : Int.tmod gs[i] 4 = 0 := by omega
                have hgo : gapN gs i = [32] := by rw [hgn]; unfold gapOf; simp [h4]
                clear hm hgn
                go_wp2_with fail
                refine (C16.out _).mono ?_
                rintro r w1 ⟨rfl, ⟨m1, rfl⟩⟩
                go_wp2_with fail
                go_round
                case rel => exact ⟨i + 1, by omega, hnext.out [32] hgo, by go_num, hall2, Lib.hid ((hb.out.trans (Drawn0.below ⟨⟨_, rfl⟩⟩ |>.mono hb.out.size)).alloc hb.out.size _)⟩
                case measure => simp [intOf]; omega
              · have hm' : Int.tmod gs[i] 4 = 1 := by omega
                have hgo : gapN gs i = [44] := by rw [hgn]; unfold gapOf; simp [h4]
                clear hm hgn
                go_wp2_with fail
                refine (C16.out _).mono ?_
                rintro r w1 ⟨rfl, ⟨m1, rfl⟩⟩
                go_wp2_with fail
                go_round
                case rel => exact ⟨i + 1, by omega, hnext.out [44] hgo, by go_num, hall2, Lib.hid ((hb.out.trans (Drawn0.below ⟨⟨_, rfl⟩⟩ |>.mono hb.out.size)).alloc hb.out.size _)⟩
                case measure => simp [intOf]; omega
              · have hm' : Int.tmod gs[i] 4 = 2 := by omega
                have hgo : gapN gs i = [10] := by rw [hgn]; unfold gapOf; simp [h4]
                clear hm hgn
                go_wp2_with fail
                refine (C16.out _).mono ?_
                rintro r w1 ⟨rfl, ⟨m1, rfl⟩⟩
                go_wp2_with fail
                go_round
                case rel => exact ⟨i + 1, by omega, hnext.out [10] hgo, by go_num, hall2, Lib.hid ((hb.out.trans (Drawn0.below ⟨⟨_, rfl⟩⟩ |>.mono hb.out.size)).alloc hb.out.size _)⟩
                case measure => simp [intOf]; omega
              · have hm' : Int.tmod gs[i] 4 = 3 := by omega
                have hgo : gapN gs i = [32, 44, 32] := by rw [hgn]; unfold gapOf; simp [h4]
                clear hm hgn
                go_wp2_with fail
                refine (C16.out _).mono ?_
                rintro r w1 ⟨rfl, ⟨m1, rfl⟩⟩
                go_wp2_with fail
                go_round
                case rel => exact ⟨i + 1, by omega, hnext.out [32, 44, 32] hgo, by go_num, hall2, Lib.hid ((hb.out.trans (Drawn0.below ⟨⟨_, rfl⟩⟩ |>.mono hb.out.size)).alloc hb.out.size _)⟩
                case measure => simp [intOf]; omega
            · go_wp2_with fail
              refine (C16.out _).mono ?_
              rintro r w1 ⟨rfl, ⟨m1, rfl⟩⟩
              go_wp2_with fail
              go_round
              case rel => exact ⟨i + 1, by omega, hnext.out [32] (by unfold gapN; rw [List.getElem?_eq_none (by omega)]), by go_num, hall2, Lib.hid (hb.out.trans (Drawn0.below ⟨⟨_, rfl⟩⟩ |>.mono hb.out.size))⟩
              case measure => simp [intOf]; omega
    · obtain rfl : i = ws.length := by omega
      have hwall : ∀ x ∈ ws, whole9 x = true := by
        intro x hx
        obtain ⟨j, hj, rfl⟩ := List.getElem_of_mem hx
        exact hall.out j hj hj
      have htext : textTo gs ws ws.length = restN gs ws 0 := by
        have := textTo_rest gs ws ws.length (Nat.le_refl _)
        rw [List.drop_length] at this
        simpa [restN] using this
      have hlen : (textTo gs ws ws.length).length ≤ 23 * ws.length := textTo_len gs ws ws.length (fun j hj => by
        have e := (whole_list (hall.out j hj hj)).2.2.1
        rw [size_list] at e
        rw [List.getD_eq_getElem?_getD, List.getElem?_eq_getElem hj]
        exact e)
      have hfrom : From ⟨(textTo gs ws ws.length).toArray⟩ 0 ([] ++ restN gs ws 0) := by
        rw [← htext]
        exact From.whole _
      obtain ⟨ts, hr, hl, hcell⟩ := run_nums gs ws 0 0 [] hwall (by simp) hfrom
      obtain ⟨sq, se, h7⟩ := seven_only
      have C9 := Lib.hid (fun W => tokens_any ⟨(textTo gs ws ws.length).toArray⟩ (by show (textTo gs ws ws.length).toArray.size ≤ _; simp; omega) (ascii_list (by
        intro c hc
        have hc' : c ∈ restN gs ws 0 := by rw [← htext]; exact hc
        exact restN_ascii gs ws 0 hwall c hc')) ts true hr W)
      have C12 := Lib.hid (fun W => only_any ⟨#[55]⟩ (by decide) (by decide) 16 sq se ⟨#[55]⟩ h7 W)
      have HC := Lib.hid hcell
      generalize (⟨(textTo gs ws ws.length).toArray⟩ : ByteArray) = s at *
      clear hall hwall htext hlen hfrom hr h7 hcell
      go_wp2_with fail
      refine (C9.out _).mono ?_
      rintro r w2 ⟨⟨_, v, rfl, hown⟩ | ⟨h, _⟩, hb2⟩
      · obtain ⟨A', cc, rfl⟩ := owns_form hown
        have b3 : ((ts.length : Int) != ws.length) = false := by rw [bne_eq_false_iff_eq]; omega
        have HO := Lib.hid hown
        have HB2 := Lib.hid (hb.out.trans (hb2.mono hb.out.size))
        have HA2 := Lib.hid ((HA.out.below hb.out).below hb2)
        clear hown hb2 hb
        go_wp2_with fail
        go_loopw [86] (fun x wr => ∃ j : Nat, j ≤ ts.length ∧ x = .int .i64 j ∧ Drawn0 w2 wr) (fun x _ => ts.length - (intOf x).toNat)
        case atStart => exact ⟨0, by omega, rfl, by repeat (first | exact Drawn0.refl _ | apply Drawn0.step)⟩
        case round =>
          obtain ⟨j, hj, rfl, ⟨m2, rfl⟩⟩ := hrel
          by_cases hlt2 : j < ts.length
          · have hlt3 : (j : Int) < ts.length := by omega
            have hlt4 : j < ws.length := by omega
            have hlt5 : (j : Int) < ws.length := by omega
            obtain ⟨b, o, rfl, hbb, hc⟩ := HA2.out j hlt4
            rcases HO.out.2 with ⟨h0, h1⟩ | ⟨g, cap, cur, h0, _⟩
            · omega
            · cases h0
              have c0 := HO.out.cellAt (j * 4) (by omega)
              have c1 := HO.out.cellAt (j * 4 + 1) (by omega)
              obtain ⟨t0, t1⟩ := tcells_at ts j hlt2
              obtain ⟨k0, k1⟩ := HC.out j hlt2 hlt4
              rw [t0, k0] at c0
              rw [t1, k1] at c1
              clear t0 t1 k0 k1
              have hj0 : (0 : Int) ≤ j := by omega
              go_wp2_with fail
              go_quiet (fail)
              go_wp2_with fail
              go_round
              case rel => exact ⟨j + 1, by omega, by go_num, by repeat (first | exact Drawn0.refl _ | apply Drawn0.step)⟩
              case measure => simp [intOf]; omega
          · obtain rfl : j = ts.length := by omega
            go_wp2_with fail
            refine (C12.out _).mono ?_
            rintro r w3 ⟨rfl, hb3⟩
            go_wp2
            go_ret
            exact ⟨rfl, HB2.out.trans ((Drawn0.below ⟨⟨_, rfl⟩⟩ |>.mono HB2.out.size).trans (hb3.mono HB2.out.size))⟩
      · cases h
end Go.Proofs.YtbojlohjmbhifaaGreatDoor
