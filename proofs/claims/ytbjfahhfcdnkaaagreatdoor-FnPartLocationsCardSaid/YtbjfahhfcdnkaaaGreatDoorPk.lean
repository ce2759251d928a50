/- 'named9': the nodes that are wanted, and their text. -/
import Derived.Test.YtbjfahhfcdnkaaaGreatDoorPi
namespace Go.Proofs.YtbjfahhfcdnkaaaGreatDoor
open Go.RowKit Go.Proofs.YtbjfahhfcdnkaaaGreatDoorW.PrintWords Go.Proofs.YtbjfahhfcdnkaaaGreatDoorW.PrintMore

/-- What stands ahead of a name. -/
def sep (sg : UInt8) (i : Nat) : List UInt8 := if i = 0 then [] else [32, sg, 32]
/-- The text of the names up to one. -/
def textTo (sg : UInt8) (ns : List ByteArray) : Nat → List UInt8
  | 0 => []
  | i + 1 => textTo sg ns i ++ (sep sg i ++ (ns.getD i ByteArray.empty).data.toList)

def allName (ns : List ByteArray) : Bool := ns.all name9

set_option maxHeartbeats 4000000 in
set_option maxRecDepth 100000 in
theorem named9_any {w : World} {A : Option Addr} {ns : List ByteArray} {cap : Nat} (hA : RowS w A ns) (hN : ns.length ≤ 2147483647) (hz : ∀ n ∈ ns, n.size ≤ 2147483647) (K : Int) (sg : UInt8) :
    Calls Tryz.prog 6 #[.int .i64 K, .slice A ns.length cap, .string ⟨#[sg]⟩] w fun r w' =>
      (∃ v t, r = .returned (.tuple #[v, .string t, .bool (allName ns && decide (0 < ns.length) && decide (ns.length ≤ 8))]) ∧ (allName ns = true → w'.ownsRow w.heap.size 35 6 v ns.length (nodeCells K ns) ∧ t.data.toList = textTo sg ns ns.length)) ∧ Below w.heap.size w w' := by
  have HA := Lib.hid hA
  have HZ := Lib.hid hz
  have hsg : (⟨#[sg]⟩ : ByteArray).size = 1 := rfl
  have HN : ∀ x : ByteArray, x.size ≤ 2147483647 → Hid (∀ W, Calls Tryz.prog 9 #[.string x] W fun r w' => r = .returned (.bool (name9 x)) ∧ Drawn0 W w') := fun x hx => Lib.hid (fun W => isName9_any x hx W)
  have HNM := Lib.hid HN
  obtain ⟨i0, hi, hy0, hy1, hy2⟩ := info_parts info35
  clear hA hz HN
  go_enter Tryz.func6, Tryz.ntmps6
  go_wp2_with fail
  go_loopg [9, 10, 14] ns.length (fun gk v b x wr => ∃ (i : Nat) (t : ByteArray), gk = ns.length - i ∧ i ≤ ns.length ∧ b = .string t ∧ x = .int .i64 i ∧ t.size ≤ 43 * i ∧ Hid (∀ (j : Nat) (h : j < ns.length), j < i → name9 ns[j] = true) ∧ Hid (t.data.toList = textTo sg ns i) ∧ Hid (wr.ownsRow w.heap.size 35 6 v i (nodeCells K (ns.take i))) ∧ Hid (Below w.heap.size w wr))
  case atStart => exact ⟨0, ⟨#[]⟩, by omega, by omega, rfl, rfl, by show 0 ≤ _; omega, Lib.hid (fun j _ h => absurd h (Nat.not_lt_zero _)), Lib.hid rfl, Lib.hid (World.ownsRow_nil _ _ _ _), Lib.hid (Below.refl _ _)⟩
  case round =>
    obtain ⟨i, t, hgk, hile, rfl, rfl, htz, hall, htx, HO, HB⟩ := hrel
    obtain ⟨A2, c2, rfl⟩ := owns_form HO.out
    subst hgk
    by_cases hlt : i < ns.length
    · obtain ⟨b, o, rfl, hbw, hcell⟩ := (HA.out.below HB.out) i hlt
      have hlt2 : (i : Int) < ns.length := by omega
      have hi0 : (0 : Int) ≤ i := by omega
      have hsz := HZ.out ns[i] (List.getElem_mem hlt)
      have C := HNM.out ns[i] hsz
      have hg : ns.getD i ByteArray.empty = ns[i] := by simp [List.getD_eq_getElem?_getD, List.getElem?_eq_getElem hlt]
      have HG := Lib.hid hg
      clear hg
      cases hnm : name9 ns[i] with
      | false =>
        rw [hnm] at C
        have HNO : Hid (allName ns = false) := Lib.hid (by
          unfold allName
          rw [List.all_eq_false]
          exact ⟨ns[i], List.getElem_mem hlt, by rw [hnm]; decide⟩)
        clear hnm
        go_wp2_with fail
        refine (C.out _).mono ?_
        rintro r w1 ⟨rfl, ⟨m1, rfl⟩⟩
        go_wp2_with fail
        refine bodyPost_ret (v := .tuple #[.slice none 0 0, .string ⟨#[]⟩, .bool false]) (by simp [results, Tryz.results6, go_sem]) rfl ⟨⟨.slice none 0 0, ⟨#[]⟩, ?_, fun h => ?_⟩, below_drewN HB.out _⟩
        · rw [HNO.out]; rfl
        · rw [HNO.out] at h; cases h
      | true =>
        rw [hnm] at C
        have hsz : ns[i].size ≤ 40 := by
          obtain ⟨_, _, _, _, _, h⟩ := name9_list hnm
          exact h
        have HNM2 := Lib.hid hnm
        clear hnm
        have hcl : Hid (∀ n : Nat, (wr.drewN n).ownsRow w.heap.size 35 6 (.slice A2 i c2) i (nodeCells K (ns.take i))) := Lib.hid (fun n => HO.out)
        go_wp2_with fail
        refine (C.out _).mono ?_
        rintro r w1 ⟨rfl, ⟨m1, rfl⟩⟩
        by_cases hi00 : i = 0
        · have e0 : decide (0 < i) = false := decide_eq_false (by omega)
          have HI0 := Lib.hid hi00
          clear hi00
          go_wp2_with (at_builtin; refine wpList_append_lies _ rfl (.tmp 36) (.tmp 43) 24 rfl w.heap.size 35 i0 _ 6 72 Tryz.underlying24 hi hy0 hy1 hy2 rfl (by decide) _ _ _ rfl ((hcl.out m1).alloc _) ⟨wr.heap.size, 0, none⟩ 1 1 [.int .i64 K, .string ns[i], .string ⟨#[]⟩, .string ⟨#[]⟩, .int .i64 0, .int .i64 1] rfl rfl ?c1 ?c2 (by decide) ?c3 ?c4 ?c5 (wr.heap.size + 1) (by simp) ?_)
          case c1 =>
            intro j u hj
            rw [add_plain]
            refine (World.cell?_alloc_at _ _ _ _ rfl).trans ?_
            simpa using hj
          case c2 =>
            intro u hu
            simp only [List.mem_cons, List.mem_nil_iff, or_false] at hu
            rcases hu with rfl | rfl | rfl | rfl | rfl | rfl <;> rfl
          case c3 => unfold maxLen; omega
          case c4 => omega
          case c5 => have := HB.out.size; simp; omega
          intro g' cap' w2 hown' hgrow hlie hlt'
          have HB2 := Lib.hid (((below_drewN HB.out m1).alloc (by have := HB.out.size; simp; omega) (.cells #[.int .i64 K, .string ns[i], .string ⟨#[]⟩, .string ⟨#[]⟩, .int .i64 0, .int .i64 1] 35)).grown hgrow (by have := HB.out.size; simp; omega) (fun k hk => (HO.out.lt k hk).1))
          have HO2 : Hid (w2.ownsRow w.heap.size 35 6 (.slice (some ⟨g', 0, none⟩) (i + 1) cap') (i + 1) (nodeCells K (ns.take (i + 1)))) := Lib.hid (by
            rw [nodeCells_snoc K ns i hlt]
            exact hown')
          have hall2 : Hid (∀ (j : Nat) (h : j < ns.length), j < i + 1 → name9 ns[j] = true) := Lib.hid (fun j hj h => by
            rcases Nat.lt_or_ge j i with h' | h'
            · exact hall.out j hj h'
            · obtain rfl : j = i := by omega
              exact HNM2.out)
          clear hown' hgrow hlie
          go_wp2_with fail
          go_roundg (ns.length - (i + 1))
          case measure => omega
          case rel => exact ⟨i + 1, _, rfl, by omega, rfl, by go_num, by rw [ByteArray.size_append]; omega, hall2, Lib.hid (by
            rw [textTo, HG.out, ← htx.out]
            simp [sep, HI0.out]), HO2, HB2⟩
        · have hip : (0 : Int) < i := by omega
          have e0 : decide ((0 : Int) < i) = true := decide_eq_true hip
          go_wp2_with (at_builtin; refine wpList_append_lies _ rfl (.tmp 36) (.tmp 43) 24 rfl w.heap.size 35 i0 _ 6 72 Tryz.underlying24 hi hy0 hy1 hy2 rfl (by decide) _ _ _ rfl ((hcl.out m1).alloc _) ⟨wr.heap.size, 0, none⟩ 1 1 [.int .i64 K, .string ns[i], .string ⟨#[]⟩, .string ⟨#[]⟩, .int .i64 0, .int .i64 1] rfl rfl ?c1 ?c2 (by decide) ?c3 ?c4 ?c5 (wr.heap.size + 1) (by simp) ?_)
          case c1 =>
            intro j u hj
            rw [add_plain]
            refine (World.cell?_alloc_at _ _ _ _ rfl).trans ?_
            simpa using hj
          case c2 =>
            intro u hu
            simp only [List.mem_cons, List.mem_nil_iff, or_false] at hu
            rcases hu with rfl | rfl | rfl | rfl | rfl | rfl <;> rfl
          case c3 => unfold maxLen; omega
          case c4 => omega
          case c5 => have := HB.out.size; simp; omega
          intro g' cap' w2 hown' hgrow hlie hlt'
          have HB2 := Lib.hid (((below_drewN HB.out m1).alloc (by have := HB.out.size; simp; omega) (.cells #[.int .i64 K, .string ns[i], .string ⟨#[]⟩, .string ⟨#[]⟩, .int .i64 0, .int .i64 1] 35)).grown hgrow (by have := HB.out.size; simp; omega) (fun k hk => (HO.out.lt k hk).1))
          have HO2 : Hid (w2.ownsRow w.heap.size 35 6 (.slice (some ⟨g', 0, none⟩) (i + 1) cap') (i + 1) (nodeCells K (ns.take (i + 1)))) := Lib.hid (by
            rw [nodeCells_snoc K ns i hlt]
            exact hown')
          have hall2 : Hid (∀ (j : Nat) (h : j < ns.length), j < i + 1 → name9 ns[j] = true) := Lib.hid (fun j hj h => by
            rcases Nat.lt_or_ge j i with h' | h'
            · exact hall.out j hj h'
            · obtain rfl : j = i := by omega
              exact HNM2.out)
          clear hown' hgrow hlie
          go_wp2_with fail
          go_roundg (ns.length - (i + 1))
          case measure => omega
          case rel => exact ⟨i + 1, _, rfl, by omega, rfl, by go_num, by simp only [ByteArray.size_append, hsg]; show t.size + (1 + 1 + 1) + ns[i].size ≤ _; omega, hall2, Lib.hid (by
            rw [textTo, HG.out, ← htx.out]
            simp [sep, hi00]), HO2, HB2⟩
    · obtain rfl : i = ns.length := by omega
      have HALL : Hid (allName ns = true) := Lib.hid (by
        unfold allName
        rw [List.all_eq_true]
        intro x hx
        obtain ⟨j, hj, rfl⟩ := List.getElem_of_mem hx
        exact hall.out j hj hj)
      have HO2 := Lib.hid (show wr.ownsRow w.heap.size 35 6 (.slice A2 ns.length c2) ns.length (nodeCells K ns) by have h := HO.out; rwa [List.take_length] at h)
      have hb8 : decide ((ns.length : Int) ≤ 8) = decide (ns.length ≤ 8) := decide_eq_decide.2 (by omega)
      have HB8 := Lib.hid hb8
      clear hb8
      cases h0 : decide (0 < ns.length) with
      | false =>
        have H0 := Lib.hid h0
        go_wp2_with fail
        refine bodyPost_ret (v := .tuple #[.slice A2 ns.length c2, .string t, .bool false]) (by simp [results, Tryz.results6, go_sem]) rfl ⟨⟨_, _, ?_, fun _ => ⟨HO2.out, htx.out⟩⟩, HB.out⟩
        rw [HALL.out, H0.out]; rfl
      | true =>
        have H0 := Lib.hid h0
        cases h8 : decide ((ns.length : Int) ≤ 8) with
        | false =>
          have H8 := Lib.hid (HB8.out.symm.trans h8)
          go_wp2_with fail
          refine bodyPost_ret (v := .tuple #[.slice A2 ns.length c2, .string t, .bool false]) (by simp [results, Tryz.results6, go_sem]) rfl ⟨⟨_, _, ?_, fun _ => ⟨HO2.out, htx.out⟩⟩, HB.out⟩
          rw [HALL.out, H0.out, H8.out]; rfl
        | true =>
          have H8 := Lib.hid (HB8.out.symm.trans h8)
          go_wp2_with fail
          refine bodyPost_ret (v := .tuple #[.slice A2 ns.length c2, .string t, .bool true]) (by simp [results, Tryz.results6, go_sem]) rfl ⟨⟨_, _, ?_, fun _ => ⟨HO2.out, htx.out⟩⟩, HB.out⟩
          rw [HALL.out, H0.out, H8.out]; rfl
end Go.Proofs.YtbjfahhfcdnkaaaGreatDoor
