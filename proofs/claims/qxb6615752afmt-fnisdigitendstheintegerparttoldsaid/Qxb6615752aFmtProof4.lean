/-
  Seat b6615752aF. FnIsDigitEndsTheIntegerPart: the told card.
-/
import Derived.Test.Qxb6615752aFmtLaw4
import Derived.Test.Qxb6615752aFmtText
import Derived.SevenToldRow
import Derived.OpenShut
import Derived.ChangeOld
namespace Go.Proofs.Qxb6615752aFmt
open Go.ChangeShapes Go.WideShapes Go.ChangeAt Go.RowKit Go.Kit
open Go.Extern.Stop Go.Stop Go.Extern
set_option linter.unusedVariables false

theorem Tryf.own : ownKnob Tryf.prog.godebug = none := by kernel_rfl
theorem Tryf.laidOut : laidOutB Tryf.pinned.checked.prog = true := by kernel_rfl
theorem Tryf.stops : Tryf.pinned.checked.prog.stops = ["fmt.Sprintf"] := by kernel_rfl
theorem Tryf.stopKnobs : Tryf.pinned.checked.prog.stopKnobs = [] := by kernel_rfl
theorem Tryf.quiet (os : Os) : Stop.quiet Tryf.pinned.checked.prog os := by
  intro k hk
  rw [Tryf.stopKnobs] at hk
  cases hk

theorem law4 (F : Interp) (so : Option Addr) (zs : List Int) (c : Nat) (p : Int) (w : World) (hz : Bytes zs) (hc : 0 < zs.length → ∃ b off, so = some ⟨b, off, none⟩ ∧ ∀ k, (h : k < zs.length) → w.cell? ⟨b, off + k, none⟩ = some (.int .u8 zs[k])) (hF : F.answers w.tape) (hS : Short F) :
    Calls Tryf.prog 4 #[.slice so zs.length c, .int .i64 p] w fun e w' => e = .returned (.bool true) ∧ Below w.heap.size w w' := by
  by_cases he : 1048576 < zs.length ∨ p < 0 ∨ (zs.length : Int) ≤ p
  · exact law4_early so zs.length c p w he
  · obtain ⟨pos, rfl⟩ := Int.eq_ofNat_of_zero_le (a := p) (by omega)
    have hpos : pos < zs.length := by omega
    have hl : zs.length ≤ 1048576 := by omega
    obtain ⟨b, off, rfl, hcell⟩ := hc (by omega)
    by_cases hb : zs[pos] < 49 ∨ 57 < zs[pos]
    · exact law4_byte b off zs c pos w hl hpos (hcell pos hpos) hb
    · exact law4_go F b off zs c pos w hl hz hpos hcell (by omega) (by omega) hF hS

set_option maxRecDepth 100000 in
theorem lifted4 (os : Os) (started : os.Started) (H : Type) (enc : TypeId × Value → H) :
    ReturnsInTold none {} Tryf.checked os 4 .any Input.okWide ((OpenSpec.ofChange Rows.fnIsDigitEndsTheIntegerPartSpec).preRow enc Tryf.prog Tryf.f4 [] false []) (fun F => ((OpenSpec.ofChange Rows.fnIsDigitEndsTheIntegerPartSpec).at F).post enc Tryf.prog Tryf.f4 false true false false) (aloneAtReturn Tryf.prog) nothingAlways := by
  refine returnsInTold_of_row (C := Tryf.checked) (s := OpenSpec.ofChange Rows.fnIsDigitEndsTheIntegerPartSpec) (by kernel_rfl) Tryf.own started (by kernel_rfl) Tryf.func4
    (OpenSpec.witness_stopped (enc := enc) (C := Tryf.checked) false ⟨#[], #[.slice none 0 0, .int .i64 0], []⟩ 8 (by kernel_rfl) (by kernel_rfl) (by kernel_rfl) (by kernel_rfl)) ?_
  intro F W base args ds gs before _ hF hval0 hW _ _ _ _ _
  have hval : ∀ (j : Nat) t v, Tryf.f4.params[j]? = some t → args[j]? = some v → Value.okWide Tryf.prog W .any base t v := hval0
  have hW' := hW
  obtain ⟨p, q, hA0, hV, rfl, hfz, hnd⟩ := hW
  have hA : DataW.TrodAll enc Tryf.prog W 0 (fun _ => true) true Tryf.f4.params.toList args.toList ds p := hA0
  rw [Tryf.params4] at hA hval
  obtain ⟨v0, vs0, d0, ds0, p0, q0, hargs, rfl, rfl, h0, r0⟩ := trodAll_cons hA
  obtain ⟨v1, vs1, d1, ds1, p1, q1, rfl, rfl, rfl, h1, r1⟩ := trodAll_cons r0
  obtain ⟨rfl, rfl, rfl⟩ := trodAll_nil r1
  obtain rfl : args = #[v0, v1] := by cases args; simp_all
  obtain ⟨rfl, rfl⟩ := trodVars_none hV
  obtain ⟨a1, rfl, rfl, rfl, w1⟩ := open_int Tryf.underlying3 (hval 1 3 v1 rfl rfl) h1
  obtain ⟨a0, len0, cap0, rfl⟩ := okWide_slice Tryf.underlying22 (hval 0 22 v0 rfl rfl)
  have k0 := h0
  have lt0 : ∀ x ∈ p0, x.block < W.heap.size := by obtain ⟨m, hm⟩ := k0; exact DataW.trod_lt m _ _ _ hm
  have hrow : ∃ zs : List Int, zs.length = len0 ∧ Bytes zs ∧ (0 < len0 → ∃ b off, a0 = some ⟨b, off, none⟩ ∧ ∀ k, (h : k < zs.length) → W.cell? ⟨b, off + k, none⟩ = some (.int .u8 zs[k])) := by
    obtain ⟨fuel, hf⟩ := h0
    rcases open_ints Tryf.underlying22 Tryf.underlying5 (by kernel_rfl) hf with ⟨hcs, _⟩ | ⟨x, l, c, zs, hcs, _, hl, hm, hz, _, hcell, hwz⟩
    · simp [Value.cells] at hcs
      obtain ⟨rfl, rfl, rfl⟩ := hcs
      exact ⟨[], rfl, fun z hz => by simp at hz, fun h => by omega⟩
    · simp [Value.cells] at hcs
      obtain ⟨rfl, rfl, rfl⟩ := hcs
      have hz2 : zs.length = cap0 := by simpa using hz
      refine ⟨zs.take len0, by simp; omega, fun z hz => ?_, fun hp => ?_⟩
      · have := FmtText.int_bounds (hwz z (List.mem_of_mem_take hz))
        simpa [IntKind.min, IntKind.max, IntKind.signed, IntKind.bits] using this
      · obtain ⟨b, off, rfl, hcc⟩ := ints_at hcell (by omega)
        refine ⟨b, off, rfl, fun k hk => ?_⟩
        simp at hk
        rw [hcc k (by omega), List.getElem_take, getD_eq zs k (by omega)]
  obtain ⟨zs, rfl, hz, hcell⟩ := hrow
  clear hA0 hval0
  refine (law4 F.told a0 zs cap0 a1 W hz hcell hF (short_told F)).mono fun e W' ⟨he, bel⟩ => ?_
  subst he
  exact ⟨_, rfl, _, _, _, [], _, [], hW', trodAll_mk1 (shut_bool Tryf.underlying4 _), (trodAll_cons_mk (Below.trod Tryf.laidOut (by kernel_rfl) (of_decide_eq_true (by kernel_rfl)) k0 bel lt0) (trodAll_cons_mk (shut_int Tryf.underlying3 w1) trodAll_mk0)), rfl, bel.frame _, fun h => by cases h⟩

/-- The statement. -/
theorem fnIsDigitEndsTheIntegerPart_told : Rows.FnIsDigitEndsTheIntegerPartToldSaid :=
  Claim7.holds_of_told_any 4 Tryf.f4 "fmt.Sprintf" [] [] _ _ _ (by kernel_rfl) rfl rfl rfl Tryf.laidOut (by kernel_rfl) rfl ⟨rfl, rfl, rfl, rfl, rfl, rfl, rfl⟩ rfl rfl (by kernel_rfl) (by kernel_rfl) Tryf.func4 (by kernel_rfl)
    (of_decide_eq_true (by kernel_rfl)) (of_decide_eq_true (by kernel_rfl)) Tryf.stops.symm rfl Tryf.stopKnobs.symm (by kernel_rfl)
    (by kernel_rfl) (by kernel_rfl) (by kernel_rfl) (by kernel_rfl) (by kernel_rfl) (by kernel_rfl) (by kernel_rfl) (by kernel_rfl) (by kernel_rfl) rfl (by kernel_rfl) rfl rfl
    rfl rfl
    rfl (by kernel_rfl) (by kernel_rfl) (by kernel_rfl) (by decide) (by kernel_rfl)
    (OpenClaim.moreEntering_of (by kernel_rfl) (by kernel_rfl) (by kernel_rfl) (by kernel_rfl) (by kernel_rfl) (by kernel_rfl) (by kernel_rfl) (by kernel_rfl) (by kernel_rfl) (by kernel_rfl))
    ⟨_, WideRow.started_initial, Tryf.quiet _⟩
    (fun os started _ H enc _ => lifted4 os started H enc)
end Go.Proofs.Qxb6615752aFmt
