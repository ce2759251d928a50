/- FnWhereBack holds: for every text and every place, the line and the column that GetLocation tells are the number of line ends ahead of the place and how far its line has begun. No condition beyond the statement's own. -/
import Derived.Test.YtbojlohjmbhifaaMain
import Derived.ChangeOld
import Derived.Below
import Derived.Test.YtbojlohjmbhifaaRows
import Derived.WalkKit
import Derived.ProofKit
import Derived.OpenShut
import Derived.ShutString
namespace Go.Proofs.Ytbojlohjmbhifaa.fnWhereBack
open Go.ChangeShapes Go.WideShapes Go.ChangeAt Go.RowKit
open Go.ChangeMaps (open_string shut_string)
set_option linter.unusedVariables false      -- a walk need not use every 'w<i>' (that an integer argument fits its kind)

theorem own : ownKnob Try.prog.godebug = none := by kernel_rfl

open Go.Proofs.YtbojlohjmbhifaaW.PrintWords in
theorem walk (a0 : ByteArray) (a1 : Int) (w : World) : Calls Try.prog 3 #[.string a0, .int .i64 a1] w fun e w' => e = .returned (.bool true) ∧ Below w.heap.size w w' := by
  by_cases h1 : 2147483647 < (a0.size : Int)
  · exact big1 a0 a1 w h1
  · by_cases h2 : 500 < (a0.size : Int) ∨ (a0.size : Int) ≤ 500 ∧ a1 < 0 ∨ (a0.size : Int) ≤ 500 ∧ 0 ≤ a1 ∧ (a0.size : Int) < a1
    · exact big2 a0 a1 w (by omega) h2
    · have h3 : (a0.size : Int) ≤ 500 := by omega
      obtain ⟨p, rfl⟩ := Int.eq_ofNat_of_zero_le (show 0 ≤ a1 by omega)
      obtain ⟨r, hr⟩ := ascii_some a0 (by omega) a0.size 0 (a0.size + 1) (by omega) (by omega)
      have ha : PFnWhereBack.laws_ascii9.f (a0.size + 1) a0 = some r := hr
      clear hr
      cases r with
      | false => exact notAscii a0 p w h3 (by omega) (by omega) _ ha
      | true =>
        have hp : p ≤ a0.size := by omega
        by_cases hno : 0 < p ∧ p < a0.size ∧ rd (bytesOf a0) ((p : Int) - 1) = 13 ∧ rd (bytesOf a0) p = 10
        · obtain ⟨q1, q2, q3, q4⟩ := hno
          obtain ⟨q, rfl⟩ : ∃ q, p = q + 1 := ⟨p - 1, by omega⟩
          refine amidst a0 q w h3 q2 _ ha ?_ ?_
          · rw [← at_byte a0 q (by omega), ← q3]; congr 1; omega
          · rw [← at_byte a0 (q + 1) q2, q4]
        · have hb : (bytesOf a0).length = a0.size := bytesOf_length a0
          have hg := gl_cnt (bytesOf a0) p (by rw [hb]; exact hp) (by rw [hb]; exact hno) p (bytesOf a0).length 0 1 0 (by omega) (by omega)
          have hcb := cnt_bd (bytesOf a0) p 0 1 0
          obtain ⟨b1, b2, b3, b4⟩ := hcb
          have hsp : spot a0 p = ((cnt (bytesOf a0) p 0 1 0).1, (p : Int) - (cnt (bytesOf a0) p 0 1 0).2 + 1) := by
            unfold spot
            rw [← hg, show (p : Int) - 0 + 1 = p + 1 by omega]
          have b3 := b3 (by omega)
          have b4 := b4 (by omega)
          by_cases e0 : p < 1
          · exact mainNought a0 p w h3 hp _ ha _ _ hsp rfl b1 (by omega) b3 (by omega) e0
          · by_cases e1 : a0.size ≤ p
            · exact mainEnd a0 p w h3 hp _ ha _ _ hsp rfl b1 (by omega) b3 (by omega) (by omega) e1
            · have ex : rd (bytesOf a0) ((p : Int) - 1) = ((a0[p - 1]'(by omega)).toNat : Int) := by
                rw [← at_byte a0 (p - 1) (by omega)]; congr 1; omega
              by_cases e2 : rd (bytesOf a0) ((p : Int) - 1) = 13
              · refine mainLone a0 p w h3 hp _ ha _ _ hsp rfl b1 (by omega) b3 (by omega) (by omega) (by omega) ?_ ?_
                · rw [ex] at e2; exact beq_iff_eq.2 e2
                · rw [beq_eq_false_iff_ne]
                  intro e3
                  exact hno ⟨by omega, by omega, e2, by rw [at_byte a0 p (by omega)]; exact e3⟩
              · refine mainOther a0 p w h3 hp _ ha _ _ hsp rfl b1 (by omega) b3 (by omega) (by omega) (by omega) ?_
                rw [ex] at e2
                exact beq_eq_false_iff_ne.2 e2

/-! ### THE ROW's STEP: WRITTEN OUT: LEAVE IT -/
set_option maxRecDepth 100000 in
theorem lifted (os : Os) (started : os.Started) (H : Type) (enc : TypeId × Value → H) :
    ReturnsInHanded {} Try.checked os 3 .any (Rows.fnWhereBackSpec.pre6 enc Try.prog Try.f3 Rows.fnWhereBackRow.domain false) (Rows.fnWhereBackSpec.post enc Try.prog Try.f3 false true false false) := by
  refine returnsInHanded_of_change (C := Try.checked) own started (by kernel_rfl) Try.func3
    (ChangeSpec.witness6 (enc := enc) (C := Try.checked) false ⟨#[], #[.string ByteArray.empty, .int .i64 0], []⟩ 8 (by kernel_rfl) (by kernel_rfl) (by kernel_rfl) (by kernel_rfl)) ?_
  intro W base args ds gs before hval0 hW hcnd _
  have hval : ∀ (j : Nat) t v, Try.f3.params[j]? = some t → args[j]? = some v → Value.okWide Try.prog W .any base t v := hval0
  have hW' := hW
  obtain ⟨p, q, hA0, hV, rfl, hfz, hnd⟩ := hW
  have hA : DataW.TrodAll enc Try.prog W 0 (fun _ => true) true Try.f3.params.toList args.toList ds p := hA0
  rw [Try.params3] at hA hval
  obtain ⟨v0, vs0, d0, ds0, p0, q0, hargs, rfl, rfl, h0, r0⟩ := trodAll_cons hA
  obtain ⟨v1, vs1, d1, ds1, p1, q1, rfl, rfl, rfl, h1, r1⟩ := trodAll_cons r0
  obtain ⟨rfl, rfl, rfl⟩ := trodAll_nil r1
  obtain rfl : args = #[v0, v1] := by cases args; simp_all
  obtain ⟨rfl, rfl⟩ := trodVars_none hV
  obtain ⟨a0, rfl, rfl, rfl, w0⟩ := open_string Try.underlying9 (hval 0 9 v0 rfl rfl) h0
  obtain ⟨a1, rfl, rfl, rfl, w1⟩ := open_int Try.underlying3 (hval 1 3 v1 rfl rfl) h1
  clear hA0 hval0
  simp only [List.append_nil] at hW'
  refine (walk a0 a1 W).mono fun e W' ⟨he, bel⟩ => ?_
  subst he
  exact ⟨_, rfl, _, _, _, [], _, [], hW', trodAll_mk1 (shut_bool Try.underlying4 _), (trodAll_cons_mk (shut_string Try.underlying9 w0) (trodAll_cons_mk (shut_int Try.underlying3 w1) trodAll_mk0)), rfl, bel.frame _, fun h => by cases h⟩

theorem over : Rows.fnWhereBackRow.holds Try.pinned (OpenSpec.ofChange Rows.fnWhereBackSpec) :=
  OpenClaim.holds_of_wide 3 Try.f3 rfl rfl rfl rfl rfl rfl rfl ⟨rfl, rfl, rfl, rfl, rfl⟩ rfl rfl rfl rfl rfl (by kernel_rfl) Try.func3 (by kernel_rfl)
    (of_decide_eq_true (by kernel_rfl)) (by unfold Func.isWrapper; first | (rw [if_pos (by decide +kernel)]; kernel_rfl) | (rw [if_neg (by decide +kernel)]; exact ⟨rfl, rfl⟩))
    (fun os started H enc _ => lifted os started H enc)

/-- ████ THE STATEMENT ████ -/
theorem proved : Rows.FnWhereBackSaid :=
  over
#print axioms proved
end Go.Proofs.Ytbojlohjmbhifaa.fnWhereBack
