/-
  Seat b6615619a. FnUncoveredSubjectsAnyCut: the law for every cut; the statement.
-/
import Derived.Test.Qxb6615619aROpen
import Derived.ProofKit
import Derived.ShutString
import Derived.ChangeOld
import Derived.Below
namespace Go.Proofs.Qxb6615619aR
open Go.ChangeShapes Go.WideShapes Go.ChangeAt Go.RowKit
attribute [local go_sem ↓] Go.wp_at_zero Go.wp_at_succ
set_option linter.unusedVariables false

set_option maxHeartbeats 1000000 in
theorem law4_out (su sg sh : Option Addr) (cu cg ch : Nat) (us gs : List El) (hs : List Gr) (i j : Int) (w : World) (hU : Sl w su us) (hV : Sl w sg gs) (hH : Gl w sh hs) (lu : us.length ≤ maxLen) (lg : gs.length ≤ maxLen) (lh : hs.length ≤ maxLen)
    (out : i < 0 ∨ (us.length : Int) < i ∨ j < 0 ∨ (gs.length : Int) < j) :
    Calls Try.prog 4 #[.slice su us.length cu, .slice sg gs.length cg, .slice sh hs.length ch, .int .i64 i, .int .i64 j] w fun e w' => e = .returned (.bool true) ∧ Below w.heap.size w w' := by
  have HZ := hid (zzB14 su sg sh cu cg ch us gs hs i j w hU hV hH lu lg lh)
  unfold maxLen at lu lg lh
  have HU := hid hU
  have HV := hid hV
  have HH := hid hH
  clear hU hV hH
  go_enter Try.func4, Try.ntmps4
  go_wp2_with fail
  refine HZ.out.mono ?_
  rintro e w1 ⟨⟨b, rfl, hb⟩, hw⟩
  obtain rfl := hw.symm
  cases b with
  | false =>
    go_wp2
    go_ret
    exact ⟨rfl, Below.refl _ _⟩
  | true =>
    obtain ⟨hSU, hSG, hSH⟩ := hb rfl
    have hl1 := hSU.len
    have hl2 := hSG.len
    have hl3 := hSH.len
    have SU := hid hSU
    have SG := hid hSG
    have SH := hid hSH
    clear hb hSU hSG hSH HZ hw
    go_wp2_with fail
    refine (sizeSubs 0 su cu us w HU.out (by omega) (by omega) SU.out).mono ?_
    rintro e w2 ⟨⟨r1, r10, r11, rfl⟩, q1, hw⟩
    subst hw
    go_wp2_with fail
    refine (sizeSubs r1 sg cg gs (w.drewN q1) (HV.out.draw q1) r10 r11 SG.out).mono ?_
    rintro e w2 ⟨⟨r2, r20, r21, rfl⟩, q2, hw⟩
    rw [World.drewN_drewN] at hw
    subst hw
    go_wp2_with fail
    refine (sizeGr r2 sh ch hs (w.drewN (q1 + q2)) (HH.out.draw _) r20 r21 hl3 SH.out.each).mono ?_
    rintro e w2 ⟨⟨r3, r30, r31, rfl⟩, q3, hw⟩
    rw [World.drewN_drewN] at hw
    have hbw : Below w.heap.size w w2 := by rw [hw]; exact ⟨rfl, rfl, rfl, Nat.le_refl _, fun _ _ => rfl⟩
    have HBW := hid hbw
    clear hw hbw HU HV HH
    by_cases hbig : (1048576 : Int) < r3
    · go_wp2
      go_ret
      exact ⟨rfl, HBW.out⟩
    · by_cases ki : i < 0
      · go_wp2
        go_ret
        exact ⟨rfl, HBW.out⟩
      · by_cases ki2 : (us.length : Int) < i
        · go_wp2
          go_ret
          exact ⟨rfl, HBW.out⟩
        · by_cases kj : j < 0
          · go_wp2
            go_ret
            exact ⟨rfl, HBW.out⟩
          · have kj2 : (gs.length : Int) < j := by omega
            clear out
            go_wp2
            go_ret
            exact ⟨rfl, HBW.out⟩

theorem law4 (su sg sh : Option Addr) (cu cg ch : Nat) (us gs : List El) (hs : List Gr) (i j : Int) (w : World) (hU : Sl w su us) (hV : Sl w sg gs) (hH : Gl w sh hs) (lu : us.length ≤ maxLen) (lg : gs.length ≤ maxLen) (lh : hs.length ≤ maxLen)
    (nu : su = none → us = [] ∧ cu = 0) (ng : sg = none → gs = [] ∧ cg = 0) (hcu : us.length ≤ cu) (hcg : gs.length ≤ cg) :
    Calls Try.prog 4 #[.slice su us.length cu, .slice sg gs.length cg, .slice sh hs.length ch, .int .i64 i, .int .i64 j] w fun e w' => e = .returned (.bool true) ∧ Below w.heap.size w w' := by
  by_cases out : i < 0 ∨ (us.length : Int) < i ∨ j < 0 ∨ (gs.length : Int) < j
  · exact law4_out su sg sh cu cg ch us gs hs i j w hU hV hH lu lg lh out
  · obtain ⟨a, rfl⟩ := Int.eq_ofNat_of_zero_le (a := i) (by omega)
    obtain ⟨b, rfl⟩ := Int.eq_ofNat_of_zero_le (a := j) (by omega)
    exact law4_in su sg sh cu cg ch us gs hs a b w hU hV hH lu lg lh nu ng (by omega) (by omega) hcu hcg

theorem own : ownKnob Try.prog.godebug = none := by kernel_rfl
theorem laidOut : laidOutB Try.prog = true := by kernel_rfl

set_option maxRecDepth 100000 in
theorem lifted4 (os : Os) (started : os.Started) (H : Type) (enc : TypeId × Value → H) :
    ReturnsInHanded {} Try.checked os 4 .any (Rows.fnUncoveredSubjectsAnyCutSpec.pre6 enc Try.prog Try.f4 Rows.fnUncoveredSubjectsAnyCutRow.domain false) (Rows.fnUncoveredSubjectsAnyCutSpec.post enc Try.prog Try.f4 false true false false) := by
  refine returnsInHanded_of_change (C := Try.checked) own started (by kernel_rfl) Try.func4
    (ChangeSpec.witness6 (enc := enc) (C := Try.checked) false ⟨#[], #[.slice none 0 0, .slice none 0 0, .slice none 0 0, .int .i64 0, .int .i64 0], []⟩ 8 (by kernel_rfl) (by kernel_rfl) (by kernel_rfl) (by kernel_rfl)) ?_
  intro W base args ds gs before hval0 hW hcnd _
  have hval : ∀ (j : Nat) t v, Try.f4.params[j]? = some t → args[j]? = some v → Value.okWide Try.prog W .any base t v := hval0
  have hW' := hW
  obtain ⟨p, q, hA0, hV, rfl, hfz, hnd⟩ := hW
  have hA : DataW.TrodAll enc Try.prog W 0 (fun _ => true) true Try.f4.params.toList args.toList ds p := hA0
  rw [Try.params4] at hA hval
  obtain ⟨v0, vs0, d0, ds0, p0, q0, hargs, rfl, rfl, h0, r0⟩ := trodAll_cons hA
  obtain ⟨v1, vs1, d1, ds1, p1, q1, rfl, rfl, rfl, h1, r1⟩ := trodAll_cons r0
  obtain ⟨v2, vs2, d2, ds2, p2, q2, rfl, rfl, rfl, h2, r2⟩ := trodAll_cons r1
  obtain ⟨v3, vs3, d3, ds3, p3, q3, rfl, rfl, rfl, h3, r3⟩ := trodAll_cons r2
  obtain ⟨v4, vs4, d4, ds4, p4, q4, rfl, rfl, rfl, h4, r4⟩ := trodAll_cons r3
  obtain ⟨rfl, rfl, rfl⟩ := trodAll_nil r4
  obtain rfl : args = #[v0, v1, v2, v3, v4] := by cases args; simp_all
  obtain ⟨rfl, rfl⟩ := trodVars_none hV
  obtain ⟨a3, rfl, rfl, rfl, w3⟩ := open_int Try.underlying3 (hval 3 3 v3 rfl rfl) h3
  obtain ⟨a4, rfl, rfl, rfl, w4⟩ := open_int Try.underlying3 (hval 4 3 v4 rfl rfl) h4
  obtain ⟨a0, len0, cap0, rfl⟩ := okWide_slice Try.underlying22 (hval 0 22 v0 rfl rfl)
  obtain ⟨a1, len1, cap1, rfl⟩ := okWide_slice Try.underlying22 (hval 1 22 v1 rfl rfl)
  obtain ⟨a2, len2, cap2, rfl⟩ := okWide_slice Try.underlying23 (hval 2 23 v2 rfl rfl)
  have lt0 : ∀ x ∈ p0, x.block < W.heap.size := by obtain ⟨m, hm⟩ := h0; exact DataW.trod_lt m _ _ _ hm
  have lt1 : ∀ x ∈ p1, x.block < W.heap.size := by obtain ⟨m, hm⟩ := h1; exact DataW.trod_lt m _ _ _ hm
  have lt2 : ∀ x ∈ p2, x.block < W.heap.size := by obtain ⟨m, hm⟩ := h2; exact DataW.trod_lt m _ _ _ hm
  obtain ⟨us, rfl, hU, nu, cu, lu⟩ := subs_open h0
  obtain ⟨gl, rfl, hG, ng, cg, lg⟩ := subs_open h1
  obtain ⟨hs, rfl, hH, lh⟩ := grs_open h2
  clear hA0 hval0
  refine (law4 a0 a1 a2 cap0 cap1 cap2 us gl hs a3 a4 W hU hG hH lu lg lh nu ng cu cg).mono fun e W' ⟨he, bel⟩ => ?_
  subst he
  exact ⟨_, rfl, _, _, _, [], _, [], hW', trodAll_mk1 (shut_bool Try.underlying4 _), (trodAll_cons_mk (Below.trod laidOut (by kernel_rfl) (of_decide_eq_true (by kernel_rfl)) h0 bel lt0) (trodAll_cons_mk (Below.trod laidOut (by kernel_rfl) (of_decide_eq_true (by kernel_rfl)) h1 bel lt1) (trodAll_cons_mk (Below.trod laidOut (by kernel_rfl) (of_decide_eq_true (by kernel_rfl)) h2 bel lt2) (trodAll_cons_mk (shut_int Try.underlying3 w3) (trodAll_cons_mk (shut_int Try.underlying3 w4) trodAll_mk0))))), rfl, bel.frame _, fun h => by cases h⟩

/-- The statement. -/
theorem fnUncoveredSubjectsAnyCut_proved : Rows.FnUncoveredSubjectsAnyCutSaid :=
  OpenClaim.holds_of_wide 4 Try.f4 rfl rfl rfl rfl rfl rfl rfl ⟨rfl, rfl, rfl, rfl, rfl⟩ rfl rfl rfl rfl rfl (by kernel_rfl) Try.func4 (by kernel_rfl)
    (of_decide_eq_true (by kernel_rfl)) (by unfold Func.isWrapper; first | (rw [if_pos (by decide +kernel)]; kernel_rfl) | (rw [if_neg (by decide +kernel)]; exact ⟨rfl, rfl⟩))
    (fun os started H enc _ => lifted4 os started H enc)
end Go.Proofs.Qxb6615619aR
