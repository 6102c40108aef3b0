/-
  Seat b6615085a. handlerRan: two atomic adds, then a select of one send with a default, in one goroutine.
-/
import Derived.Test.Qxb6615085aA
namespace Go.Proofs.Qxb6615085a
open Go.RowKit Go.Conc

/-- The sums after one run. -/
theorem Pc.ran {w : World} {pb cb : Nat} {t n : Int} {buf : Array Value} {s : Nat} (h : Pc w pb cb t n buf s) (t' n' : Int) :
    Pc ((w.setCell ⟨pb, 0, none⟩ (.int .i64 t')).setCell ⟨pb, 1, none⟩ (.int .i64 n')) pb cb t' n' buf s := by
  obtain ⟨a, b, c, d, e, f, hb⟩ := h.blk
  have h1 := heap_set_same (o := 0) hb (.int .i64 t')
  have h2 := heap_set_same (o := 1) h1 (.int .i64 n')
  refine ⟨⟨a, b, c, d, e, f, ?_⟩, ?_, h.ne⟩
  · rw [h2]; simp
  · rw [Below.heap_setCell _ _ _ _ (by simpa using h.ne), Below.heap_setCell _ _ _ _ (by simpa using h.ne)]
    exact h.ch

set_option maxRecDepth 100000 in
theorem ran_room (pb cb : Nat) (t n d : Int) (w : World) (h : Pc w pb cb t n #[] 0) (B : Nat) (hB1 : B ≤ pb) (hB2 : B ≤ cb) :
    Calls Try.prog 11 #[.pointer (some ⟨pb, 0, none⟩), .int .i64 d] w fun e w' => e = .returned (.tuple #[]) ∧ Pc w' pb cb (IntKind.i64.wrap (t + d)) (IntKind.i64.wrap (n + 1)) #[.agg #[]] 1 ∧ Below B w w' := by
  obtain ⟨c0, c1, c2, cf⟩ := h.cells
  have hP := h.ran (IntKind.i64.wrap (t + d)) (IntKind.i64.wrap (n + 1))
  have hb0 : Below B w ((w.setCell ⟨pb, 0, none⟩ (.int .i64 (IntKind.i64.wrap (t + d)))).setCell ⟨pb, 1, none⟩ (.int .i64 (IntKind.i64.wrap (n + 1)))) := ((Below.refl B w).setCell hB1 _).setCell hB1 _
  have e1 : (w.setCell ⟨pb, 0, none⟩ (.int .i64 (IntKind.i64.wrap (t + d)))).cell? ⟨pb, 1, none⟩ = some (.int .i64 n) := by
    obtain ⟨a, b, c, d', e, f, hb⟩ := h.blk
    have h1 := heap_set_same (o := 0) hb (.int .i64 (IntKind.i64.wrap (t + d)))
    simp [World.cell?, h1]
  have f1 : (w.setCell ⟨pb, 0, none⟩ (.int .i64 (IntKind.i64.wrap (t + d)))).frozen? ⟨pb, 1, none⟩ = false := by
    obtain ⟨a, b, c, d', e, f, hb⟩ := h.blk
    have h1 := heap_set_same (o := 0) hb (.int .i64 (IntKind.i64.wrap (t + d)))
    simp [World.frozen?, h1]
  refine calls_of_loneTo fun cs => ?_
  have e : Frame.enter Try.prog 11 #[.pointer (some ⟨pb, 0, none⟩), .int .i64 d] .normal = (base 11).at ⟨#[.pointer (some ⟨pb, 0, none⟩), .int .i64 d, undef, undef, undef, undef, undef, undef, undef, undef, undef, undef, undef, undef, undef, undef, undef, undef, undef, undef, undef], []⟩ [.code (Try.f11.body.getD .skip)] := by
    simp [Frame.enter, Frame.at, Try.func11, base, Try.f11]
  rw [e]
  have hbd := bd
  have hadd := addC ⟨pb, 0, none⟩ t d w c0 (cf 0)
  have hadd2 := addC ⟨pb, 1, none⟩ n 1 _ e1 f1
  have c2' := hP.cells.2.2.1
  clear c0 c1 c2 cf e1 f1 e
  refine LoneTo.goes (n := 80) ?_
  simp only [Try.f11, Option.getD_some]
  s_c stepG_seq
  s_reg
  s_op
  s_op
  s_op
  s_op
  s_call Try.func15 (by kernel_rfl) Try.f15
  s_c stepG_seq
  s_reg
  s_op
  s_c stepG_region_end
  s_c stepG_seq
  s_reg
  s_op
  s_op
  s_op
  s_op
  s_op
  s_op
  s_c stepG_region_end
  s_c stepG_ret'
  s_leave1 Try.func15
  s_c stepG_region_end
  s_c stepG_seq
  s_reg
  s_op
  s_op
  s_op
  s_call Try.func15 (by kernel_rfl) Try.f15
  s_c stepG_seq
  s_reg
  s_op
  s_c stepG_region_end
  s_c stepG_seq
  s_reg
  s_op
  s_op
  s_op
  s_op
  s_op
  s_op
  s_c stepG_region_end
  s_c stepG_ret'
  s_leave1 Try.func15
  s_c stepG_region_end
  clear hadd hadd2
  generalize (w.setCell ⟨pb, 0, none⟩ (.int .i64 (IntKind.i64.wrap (t + d)))).setCell ⟨pb, 1, none⟩ (.int .i64 (IntKind.i64.wrap (n + 1))) = w2 at hP hb0 c2' ⊢
  s_c stepG_seq
  s_c stepG_seq
  s_reg
  s_op
  s_op
  s_op
  s_op
  s_c stepG_region_end
  s_reg
  s_op
  s_c stepG_region_end
  s_c stepG_seq
  s_reg
  s_stop
  refine LoneTo.step (step_lone_select_send_room (c := cb) (cap := 1) (buf := #[]) (s := 0) (r := 0) (tm := false) (stepG_comm (cases := #[scase cb (.agg #[]) (.agg #[])]) (blocking := false) (shape := .select) (w' := w2) rfl rfl (by decide) (by simp [go_sem, execOp, scase, Act.eval])) hP.ch (by simp)) ?_
  rw [Frame.finish_at]
  walk_nrm
  refine LoneTo.goes (n := 20) ?_
  s_op
  s_op
  s_c stepG_region_end
  s_c stepG_block
  s_cond true
  s_c stepG_skip
  s_c stepG_inBlock
  s_c stepG_end
  s_stop
  refine LoneTo.done ⟨.returned (.tuple #[]), _, rfl, ⟨rfl, ?_, ?_⟩, rfl, rfl, rfl, rfl, _, Try.func11, by simp [results, Try.f11, Frame.at]⟩
  · obtain ⟨a, b, c, d', e, f, hb⟩ := hP.blk
    exact ⟨⟨a, b, c, d', e, f, by simp only [World.setChan]; rw [Array.getElem?_setIfInBounds_ne hP.ne]; exact hb⟩, heap_setChan _ _ _ _ _ _ _ _ (heap_lt hP.ch), hP.ne⟩
  · exact below_setChan hb0 hB2 _ _ _ _ _ _

set_option maxRecDepth 100000 in
theorem ran_full (pb cb : Nat) (t n d : Int) (w : World) (h : Pc w pb cb t n #[.agg #[]] 1) (B : Nat) (hB1 : B ≤ pb) :
    Calls Try.prog 11 #[.pointer (some ⟨pb, 0, none⟩), .int .i64 d] w fun e w' => e = .returned (.tuple #[]) ∧ Pc w' pb cb (IntKind.i64.wrap (t + d)) (IntKind.i64.wrap (n + 1)) #[.agg #[]] 1 ∧ Below B w w' := by
  obtain ⟨c0, c1, c2, cf⟩ := h.cells
  have hP := h.ran (IntKind.i64.wrap (t + d)) (IntKind.i64.wrap (n + 1))
  have hb0 : Below B w ((w.setCell ⟨pb, 0, none⟩ (.int .i64 (IntKind.i64.wrap (t + d)))).setCell ⟨pb, 1, none⟩ (.int .i64 (IntKind.i64.wrap (n + 1)))) := ((Below.refl B w).setCell hB1 _).setCell hB1 _
  have e1 : (w.setCell ⟨pb, 0, none⟩ (.int .i64 (IntKind.i64.wrap (t + d)))).cell? ⟨pb, 1, none⟩ = some (.int .i64 n) := by
    obtain ⟨a, b, c, d', e, f, hb⟩ := h.blk
    have h1 := heap_set_same (o := 0) hb (.int .i64 (IntKind.i64.wrap (t + d)))
    simp [World.cell?, h1]
  have f1 : (w.setCell ⟨pb, 0, none⟩ (.int .i64 (IntKind.i64.wrap (t + d)))).frozen? ⟨pb, 1, none⟩ = false := by
    obtain ⟨a, b, c, d', e, f, hb⟩ := h.blk
    have h1 := heap_set_same (o := 0) hb (.int .i64 (IntKind.i64.wrap (t + d)))
    simp [World.frozen?, h1]
  refine calls_of_loneTo fun cs => ?_
  have e : Frame.enter Try.prog 11 #[.pointer (some ⟨pb, 0, none⟩), .int .i64 d] .normal = (base 11).at ⟨#[.pointer (some ⟨pb, 0, none⟩), .int .i64 d, undef, undef, undef, undef, undef, undef, undef, undef, undef, undef, undef, undef, undef, undef, undef, undef, undef, undef, undef], []⟩ [.code (Try.f11.body.getD .skip)] := by
    simp [Frame.enter, Frame.at, Try.func11, base, Try.f11]
  rw [e]
  have hbd := bd
  have hadd := addC ⟨pb, 0, none⟩ t d w c0 (cf 0)
  have hadd2 := addC ⟨pb, 1, none⟩ n 1 _ e1 f1
  have c2' := hP.cells.2.2.1
  clear c0 c1 c2 cf e1 f1 e
  refine LoneTo.goes (n := 80) ?_
  simp only [Try.f11, Option.getD_some]
  s_c stepG_seq
  s_reg
  s_op
  s_op
  s_op
  s_op
  s_call Try.func15 (by kernel_rfl) Try.f15
  s_c stepG_seq
  s_reg
  s_op
  s_c stepG_region_end
  s_c stepG_seq
  s_reg
  s_op
  s_op
  s_op
  s_op
  s_op
  s_op
  s_c stepG_region_end
  s_c stepG_ret'
  s_leave1 Try.func15
  s_c stepG_region_end
  s_c stepG_seq
  s_reg
  s_op
  s_op
  s_op
  s_call Try.func15 (by kernel_rfl) Try.f15
  s_c stepG_seq
  s_reg
  s_op
  s_c stepG_region_end
  s_c stepG_seq
  s_reg
  s_op
  s_op
  s_op
  s_op
  s_op
  s_op
  s_c stepG_region_end
  s_c stepG_ret'
  s_leave1 Try.func15
  s_c stepG_region_end
  clear hadd hadd2
  generalize (w.setCell ⟨pb, 0, none⟩ (.int .i64 (IntKind.i64.wrap (t + d)))).setCell ⟨pb, 1, none⟩ (.int .i64 (IntKind.i64.wrap (n + 1))) = w2 at hP hb0 c2' ⊢
  s_c stepG_seq
  s_c stepG_seq
  s_reg
  s_op
  s_op
  s_op
  s_op
  s_c stepG_region_end
  s_reg
  s_op
  s_c stepG_region_end
  s_c stepG_seq
  s_reg
  s_stop
  refine LoneTo.step (step_lone_select_send_full (c := cb) (cap := 1) (buf := #[.agg #[]]) (s := 1) (r := 0) (tm := false) (stepG_comm (cases := #[scase cb (.agg #[]) (.agg #[])]) (blocking := false) (shape := .select) (w' := w2) rfl rfl (by decide) (by simp [go_sem, execOp, scase, Act.eval])) hP.ch (by simp)) ?_
  rw [Frame.finish_at]
  walk_nrm
  refine LoneTo.goes (n := 20) ?_
  s_op
  s_op
  s_c stepG_region_end
  s_c stepG_block
  s_cond false
  s_c stepG_skip
  s_c stepG_inBlock
  s_c stepG_end
  s_stop
  exact LoneTo.done ⟨.returned (.tuple #[]), _, rfl, ⟨rfl, hP, hb0⟩, rfl, rfl, rfl, rfl, _, Try.func11, by simp [results, Try.f11, Frame.at]⟩

theorem zzRan_room (pb cb : Nat) (t n d : Int) (w : World) (h : Pc w pb cb t n #[] 0) (B : Nat) (hB1 : B ≤ pb) (hB2 : B ≤ cb) :
    Calls Try.prog 6 #[.pointer (some ⟨pb, 0, none⟩), .int .i64 d] w fun e w' => e = .returned (.tuple #[]) ∧ Pc w' pb cb (IntKind.i64.wrap (t + d)) (IntKind.i64.wrap (n + 1)) #[.agg #[]] 1 ∧ Below B w w' := by
  have H := hid (ran_room pb cb t n d w h B hB1 hB2)
  clear h
  go_enter Try.func6, Try.ntmps6
  go_wp2_with fail
  refine H.out.mono ?_
  rintro e w' ⟨rfl, h1, h2⟩
  go_wp2
  go_end0
  exact ⟨rfl, h1, h2⟩
theorem zzRan_full (pb cb : Nat) (t n d : Int) (w : World) (h : Pc w pb cb t n #[.agg #[]] 1) (B : Nat) (hB1 : B ≤ pb) :
    Calls Try.prog 6 #[.pointer (some ⟨pb, 0, none⟩), .int .i64 d] w fun e w' => e = .returned (.tuple #[]) ∧ Pc w' pb cb (IntKind.i64.wrap (t + d)) (IntKind.i64.wrap (n + 1)) #[.agg #[]] 1 ∧ Below B w w' := by
  have H := hid (ran_full pb cb t n d w h B hB1)
  clear h
  go_enter Try.func6, Try.ntmps6
  go_wp2_with fail
  refine H.out.mono ?_
  rintro e w' ⟨rfl, h1, h2⟩
  go_wp2
  go_end0
  exact ⟨rfl, h1, h2⟩
end Go.Proofs.Qxb6615085a
