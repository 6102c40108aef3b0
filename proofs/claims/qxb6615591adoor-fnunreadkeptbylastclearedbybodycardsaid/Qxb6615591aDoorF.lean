/-
  Seat b6615591aD. (*Incoming).Body, asked for the first time.
-/
import Derived.Test.Qxb6615591aDoorE
import Derived.Deep.DrawnRows
namespace Go.Proofs.Qxb6615591aDoor
open Go.RowKit
attribute [local go_sem ↓] Go.wp_at_zero Go.wp_at_succ

/-- Below block B, and but for the blocks r and s, the world is as it was. -/
structure Kb2 (B r s : Nat) (w w' : World) : Prop where
  os : w'.os = w.os
  tape : w'.tape = w.tape
  output : w'.output = w.output
  size : w.heap.size ≤ w'.heap.size
  block : ∀ k, k < B → k ≠ r → k ≠ s → w'.heap[k]? = w.heap[k]?

theorem Kb2.base {B C r s : Nat} {w w' : World} (h : Kb2 C r s w w') (hC : B ≤ C) (hr : B ≤ r) (hs : B ≤ s) : Below B w w' := ⟨h.os, h.tape, h.output, h.size, fun k hk => h.block k (by omega) (by omega) (by omega)⟩

/-- What the two stores leave. -/
theorem stored {w1 : World} {ib : Nat} {typ sz : Int} {rb : Nat} {b e : Value} {last : Bool} (h : w1.heap[ib]? = some (.cells (inc typ sz rb b e last) 36 (0, 0))) (v u : Value) :
    ((w1.setCell ⟨ib, 3, none⟩ v).setCell ⟨ib, 4, none⟩ u).heap[ib]? = some (.cells (inc typ sz rb v u last) 36 (0, 0)) := by
  rw [heap_set_same (heap_set_same h v) u]
  simp [inc]
theorem stored_other (w1 : World) (ib k : Nat) (v u : Value) (h : k ≠ ib) : ((w1.setCell ⟨ib, 3, none⟩ v).setCell ⟨ib, 4, none⟩ u).heap[k]? = w1.heap[k]? := by
  rw [Below.heap_setCell _ _ _ _ (by simpa using h), Below.heap_setCell _ _ _ _ (by simpa using h)]
theorem stored_size (w1 : World) (ib : Nat) (v u : Value) : ((w1.setCell ⟨ib, 3, none⟩ v).setCell ⟨ib, 4, none⟩ u).heap.size = w1.heap.size := by
  simp [World.setCell]
theorem Feed.stored {w1 : World} {rb : Nat} {so : Option Addr} {fb : Nat} {fs : List Int} {i : Nat} (h : Feed w1 rb so fb fs i) (ib : Nat) (hne : ib ≠ rb) (hnf : ib ≠ fb) (v u : Value) (n : Nat) :
    Feed (((w1.setCell ⟨ib, 3, none⟩ v).setCell ⟨ib, 4, none⟩ u).drewN n) rb so fb fs i := by
  obtain ⟨⟨pr, hrd⟩, hle, hlen, hpos⟩ := h
  refine ⟨⟨pr, (stored_other _ _ _ _ _ (Ne.symm hne)).trans hrd⟩, hle, hlen, fun hp => ?_⟩
  obtain ⟨h1, h2, h3⟩ := hpos hp
  exact ⟨h1, h2, (stored_other _ _ _ _ _ (Ne.symm hnf)).trans h3⟩
theorem Kb2.stored {B rb ib q : Nat} {w w1 : World} (h : Kb B rb (w.drewN q) w1) (v u : Value) (n : Nat) : Kb2 B rb ib w (((w1.setCell ⟨ib, 3, none⟩ v).setCell ⟨ib, 4, none⟩ u).drewN n) :=
  ⟨h.os, h.tape, h.output, Nat.le_trans h.size (Nat.le_of_eq (stored_size w1 ib v u).symm), fun k hk hr hi => (stored_other _ _ _ _ _ hi).trans (h.block k hk hr)⟩

set_option maxHeartbeats 400000 in
theorem body_ok (ib : Nat) (typ : Int) (rb : Nat) (so : Option Addr) (fb : Nat) (fs : List Int) (i sz : Nat) (last : Bool) (w : World) (hI : w.heap[ib]? = some (.cells (inc typ sz rb (.slice none 0 0) .nilIface last) 36 (0, 0)))
    (hne : ib ≠ rb) (hnf : ib ≠ fb) (hF : Feed w rb so fb fs i) (hs : i + sz ≤ fs.length) (hsz : sz ≤ 65536) :
    Calls Tryd.prog 10 #[.pointer (some ⟨ib, 0, none⟩)] w fun e w' => e = .returned (.tuple #[.slice (some ⟨w.heap.size, 0, none⟩) sz sz, .nilIface]) ∧
      w'.heap[w.heap.size]? = some (.cells (bytesA ((fs.drop i).take sz)) 5 (0, 0)) ∧ w'.heap[ib]? = some (.cells (inc typ sz rb (.slice (some ⟨w.heap.size, 0, none⟩) sz sz) .nilIface last) 36 (0, 0)) ∧
      Feed w' rb so fb fs (i + sz) ∧ Kb2 w.heap.size rb ib w w' ∧ w.heap.size < w'.heap.size := by
  have hil := (Array.getElem?_eq_some_iff.1 hI).1
  obtain ⟨c0, c1, c2, c3, c4, c5, cf⟩ := inc_cell hI
  have R := fun q => readBody_ok rb so fb fs i sz (w.drewN q) ⟨hF.rd, hF.le, hF.len, hF.pos⟩ hs hsz
  have H := hid R
  have HI := hid hI
  have hq := fun w => Lib.run_eql_slice_nil (P := Tryd.prog) w 22 5 none 0 0 0 0 Tryd.underlying22
  clear c0 c5 hI R cf
  go_enter Tryd.func10, Tryd.ntmps10
  go_wp2
  go_region_with (go_at_call 18; refine (H.out 1).mono ?_; rintro e w1 ⟨rfl, g1, g2, g3, g4⟩; have hI1 := (g3.block ib hil hne).trans HI.out; obtain ⟨d0, d1, d2, d3, d4, d5, df⟩ := inc_cell hI1; have G1 := hid g1; have HI1 := hid hI1; clear g1 hI1 d0 d1 d2 d5)
  all_goals
    go_wp2
    go_quiet (fail)
    go_wp2
    go_ret2
    refine ⟨rfl, ?_, ?_, ?_, ?_, ?_⟩
    · exact (stored_other w1 ib w.heap.size _ _ (by omega)).trans G1.out
    · exact stored HI1.out _ _
    · exact Feed.stored g2 ib hne hnf _ _ _
    · exact Kb2.stored g3 _ _ _
    · exact Nat.lt_of_lt_of_eq g4 (stored_size w1 ib _ _).symm

set_option maxHeartbeats 400000 in
theorem body_err (B : Nat) (a0 a1 : Addr) (ib : Nat) (typ : Int) (rb : Nat) (so : Option Addr) (fb : Nat) (fs : List Int) (i sz : Nat) (last : Bool) (w : World) (hI : w.heap[ib]? = some (.cells (inc typ sz rb (.slice none 0 0) .nilIface last) 36 (0, 0)))
    (hne : ib ≠ rb) (hnf : ib ≠ fb) (hF : Feed w rb so fb fs i) (hE : Errs B a0 a1 w) (hB : B ≤ rb) (hs : fs.length < i + sz) (hsz : sz ≤ 65536) :
    Calls Tryd.prog 10 #[.pointer (some ⟨ib, 0, none⟩)] w fun e w' => e = .returned (.tuple #[.slice none 0 0, .iface 52 (.pointer (some a1))]) ∧
      w'.heap[ib]? = some (.cells (inc typ sz rb (.slice none 0 0) (.iface 52 (.pointer (some a1))) last) 36 (0, 0)) ∧
      Feed w' rb so fb fs fs.length ∧ Kb2 w.heap.size rb ib w w' ∧ w.heap.size < w'.heap.size := by
  have hil := (Array.getElem?_eq_some_iff.1 hI).1
  obtain ⟨c0, c1, c2, c3, c4, c5, cf⟩ := inc_cell hI
  have R := fun q => readBody_err B a0 a1 rb so fb fs i sz (w.drewN q) ⟨hF.rd, hF.le, hF.len, hF.pos⟩ ⟨hE.two, hE.g0, hE.g1, hE.b0, hE.b1, hE.r0, hE.r1⟩ hB hs hsz
  have H := hid R
  have HI := hid hI
  have hq := fun w => Lib.run_eql_slice_nil (P := Tryd.prog) w 22 5 none 0 0 0 0 Tryd.underlying22
  clear c0 c5 hI R cf hE
  go_enter Tryd.func10, Tryd.ntmps10
  go_wp2
  go_region_with (go_at_call 18; refine (H.out 1).mono ?_; rintro e w1 ⟨rfl, g2, g3, g4⟩; have hI1 := (g3.block ib hil hne).trans HI.out; obtain ⟨d0, d1, d2, d3, d4, d5, df⟩ := inc_cell hI1; have HI1 := hid hI1; clear hI1 d0 d1 d2 d5)
  all_goals
    go_wp2
    go_quiet (fail)
    go_wp2
    go_ret2
    refine ⟨rfl, ?_, ?_, ?_, ?_⟩
    · exact stored HI1.out _ _
    · exact Feed.stored g2 ib hne hnf _ _ _
    · exact Kb2.stored g3 _ _ _
    · exact Nat.lt_of_lt_of_eq g4 (stored_size w1 ib _ _).symm
end Go.Proofs.Qxb6615591aDoor
