/-
  Seat b6615591aD. What the rows' listed variables give the walks; the slice that came in.
-/
import Derived.Test.Qxb6615591aDoorRows
import Derived.Test.Qxb6615591aDoorG
import Derived.ProofKit
import Derived.LaidMore
import Derived.LaidLaws
import Derived.OpenShut
import Derived.ShutString
import Derived.ChangeOld
import Derived.Stop.Joined
namespace Go.Proofs.Qxb6615591aDoor
open Go.ChangeShapes Go.WideShapes Go.ChangeAt Go.RowKit

theorem own : ownKnob Tryd.prog.godebug = none := by kernel_rfl
theorem laidOut : laidOutB Tryd.prog = true := by kernel_rfl
theorem gEof : Tryd.prog.globalNamed "io.EOF" = some 0 := by kernel_rfl
theorem gUnx : Tryd.prog.globalNamed "io.ErrUnexpectedEOF" = some 1 := by kernel_rfl
theorem tEof : (Tryd.prog.globals[0]?).map (·.type) = some 29 := by kernel_rfl
theorem tUnx : (Tryd.prog.globals[1]?).map (·.type) = some 29 := by kernel_rfl
theorem cells71 : Tryd.prog.cellsOf 71 = 1 := by kernel_rfl
theorem cells9 : Tryd.prog.cellsOf 9 = 1 := by kernel_rfl
theorem star : "*" ++ "errors.errorString" = "*errors.errorString" := by decide
theorem row52 (u : TypeId) (h : Tryd.prog.typeName? 3 u = some "*errors.errorString") : u = 52 :=
  typeName_ptr_named (nm := "errors.errorString") (by rw [star]; kernel_rfl) (by kernel_rfl) (by decide) u (by rw [star]; exact h)

abbrev laid3 : List (String × DataW Unit) := [("io.ErrShortBuffer", Rows.laid_io_ErrShortBuffer), ("io.EOF", Rows.laid_io_EOF), ("io.ErrUnexpectedEOF", Rows.laid_io_ErrUnexpectedEOF)]

theorem door_met (os : Os) (args : Array Value) : laidMetH Tryd.prog laid3 ((World.doorLaid Tryd.prog 400 os).forCall (fun _ _ => 0) ⟨#[], args, []⟩).memory :=
  laidMetH_of_parts3 (fuel := 8) (laidMet_of_run' 8 (by kernel_rfl) (by kernel_rfl)) (by kernel_rfl) (by kernel_rfl)

theorem errs_of_laid {W : World} (h : laidMetH Tryd.prog laid3 W) : ∃ a0 a1, Errs W.heap.size a0 a1 W := by
  rw [MakeChecks.laidMetH_plain _ _ _ (by kernel_rfl)] at h
  obtain ⟨ps, ⟨g2, t2, cs2, f2, p2, q2, hg2, ht2, hv2, hd2, ⟨g0, t0, cs0, f0, p0, q0, hg0, ht0, hv0, hd0, ⟨g1, t1, cs1, f1, p1, q1, hg1, ht1, hv1, hd1, hq1, e1⟩, e0⟩, e2⟩, hnd, hrows⟩ := h
  obtain rfl := Option.some.inj (gEof.symm.trans hg0)
  obtain rfl := Option.some.inj (gUnx.symm.trans hg1)
  obtain rfl := Option.some.inj (tEof.symm.trans ht0)
  obtain rfl := Option.some.inj (tUnx.symm.trans ht1)
  have hq1' : q1 = [] := hq1
  subst hq1'
  subst e1
  subst e0
  subst e2
  obtain ⟨l0⟩ := cs0
  obtain ⟨l1⟩ := cs1
  have ok0 : ∀ u v, l0 = [.iface u v] → Value.okWide Tryd.prog W .any 0 u v := fun u v e => by
    subst e
    exact (hrows 0 0 (by simp [MemPlace.row])).2 u v (by simpa using World.var?_cell hg0 hv0 0)
  have ok1 : ∀ u v, l1 = [.iface u v] → Value.okWide Tryd.prog W .any 0 u v := fun u v e => by
    subst e
    exact (hrows 1 0 (by simp [MemPlace.row])).2 u v (by simpa using World.var?_cell hg1 hv1 0)
  obtain ⟨a0, s0, rfl, hc0, hs0, hz0, rfl⟩ := errorString_of_trod Tryd.underlying29 row52 Tryd.underlying52 Tryd.underlying71 rfl rfl Tryd.underlying9 cells71 cells9 hd0 ok0
  obtain ⟨a1, s1, rfl, hc1, hs1, hz1, rfl⟩ := errorString_of_trod Tryd.underlying29 row52 Tryd.underlying52 Tryd.underlying71 rfl rfl Tryd.underlying9 cells71 cells9 hd1 ok1
  obtain ⟨c0, t0, hb0⟩ := (hrows a0.block a0.off (by simp [MemPlace.row])).1
  obtain ⟨c1, t1, hb1⟩ := (hrows a1.block a1.off (by simp [MemPlace.row])).1
  have G0 : W.cell? ⟨0, 0, none⟩ = some (.iface 52 (.pointer (some a0))) := by simpa using World.var?_cell hg0 hv0 0
  have G1 : W.cell? ⟨1, 0, none⟩ = some (.iface 52 (.pointer (some a1))) := by simpa using World.var?_cell hg1 hv1 0
  have two : 1 < W.heap.size := by
    apply Classical.byContradiction
    intro hn
    simp [World.cell?, Array.getElem?_eq_none (show W.heap.size ≤ 1 by omega)] at G1
  exact ⟨a0, a1, ⟨two, G0, G1, (Array.getElem?_eq_some_iff.1 hb0).1, (Array.getElem?_eq_some_iff.1 hb1).1, ⟨c0, t0, hb0⟩, ⟨c1, t1, hb1⟩⟩⟩

/-- WHAT THE WALK IS TOLD OF A SLICE OF BYTES THAT CAME IN: the numbers that it reads. -/
theorem src_of_open {W : World} {H : Type} {enc : TypeId × Value → H} {a : Option Addr} {len cap : Nat} {d : DataW H} {p : List MemPlace}
    (h : DataW.Trod enc Tryd.prog W 0 (fun _ => true) true 22 (.slice a len cap) d p) : ∃ zs : List Int, zs.length = len ∧ (zs.length ≤ 1048576 → Src W a cap zs) := by
  obtain ⟨fuel, hf⟩ := h
  rcases open_ints Tryd.underlying22 Tryd.underlying5 (by kernel_rfl) hf with ⟨hcs, _⟩ | ⟨x, l, c, zs, hcs, _, hl, hm, hz, _, hcell, _⟩
  · simp [Value.cells] at hcs
    obtain ⟨rfl, rfl, rfl⟩ := hcs
    exact ⟨[], rfl, fun h => ⟨h, fun _ => ⟨rfl, rfl⟩, fun hp => by simp at hp⟩⟩
  · simp [Value.cells] at hcs
    obtain ⟨rfl, rfl, rfl⟩ := hcs
    have hz' : zs.length = cap := by simpa using hz
    refine ⟨zs.take len, by simp; omega, fun h => ⟨h, (fun e => by cases e), fun hp => ?_⟩⟩
    simp at hp
    have hzp : 0 < zs.length := by omega
    obtain ⟨b, off, rfl, hc⟩ := ints_at hcell hzp
    refine ⟨b, off, rfl, ?_, fun k hk => ?_⟩
    · have h0 := hc 0 hzp
      apply Classical.byContradiction
      intro hn
      simp [World.cell?, Array.getElem?_eq_none (show W.heap.size ≤ b by omega)] at h0
    · simp at hk
      rw [hc k (by omega)]
      have hk1 : k < len := by omega
      simp [List.getD_eq_getElem?_getD, hk1]
end Go.Proofs.Qxb6615591aDoor
