/-
  Seat b6615591aD. (*bytes.Reader).Read.
-/
import Derived.Test.Qxb6615591aDoorB
import Derived.Laws.CopyOwn
import Derived.Deep.RegionLaw
import Derived.Deep.RegionHeld3
namespace Go.Proofs.Qxb6615591aDoor
open Go.RowKit

/-- Below block B, and but for block r, the world is as it was. -/
structure Kb (B r : Nat) (w w' : World) : Prop where
  os : w'.os = w.os
  tape : w'.tape = w.tape
  output : w'.output = w.output
  size : w.heap.size ≤ w'.heap.size
  block : ∀ k, k < B → k ≠ r → w'.heap[k]? = w.heap[k]?

theorem Kb.refl (B r : Nat) (w : World) : Kb B r w w := ⟨rfl, rfl, rfl, Nat.le_refl _, fun _ _ _ => rfl⟩
theorem Kb.trans {B r : Nat} {a b c : World} (h : Kb B r a b) (k : Kb B r b c) : Kb B r a c :=
  ⟨k.os.trans h.os, k.tape.trans h.tape, k.output.trans h.output, Nat.le_trans h.size k.size, fun i hi hr => (k.block i hi hr).trans (h.block i hi hr)⟩
theorem Kb.mono {B B' r : Nat} {w w' : World} (h : Kb B r w w') (hB : B' ≤ B) : Kb B' r w w' := ⟨h.os, h.tape, h.output, h.size, fun k hk hr => h.block k (Nat.lt_of_lt_of_le hk hB) hr⟩
theorem Kb.ofBelow {B r : Nat} {w w' : World} (h : Below B w w') : Kb B r w w' := ⟨h.os, h.tape, h.output, h.size, fun k hk _ => h.block k hk⟩
theorem Kb.drewN {B r : Nat} {a w : World} (h : Kb B r a w) (n : Nat) : Kb B r a (w.drewN n) := ⟨h.os, h.tape, h.output, h.size, h.block⟩
theorem Kb.drew {B r : Nat} {a w : World} (h : Kb B r a w) : Kb B r a w.drew := ⟨h.os, h.tape, h.output, h.size, h.block⟩
theorem Kb.setCell {B r : Nat} {a w : World} (h : Kb B r a w) (p : Addr) (hp : p.block = r ∨ B ≤ p.block) (u : Value) : Kb B r a (w.setCell p u) :=
  h.trans ⟨rfl, rfl, rfl, by simp [World.setCell], fun k hk hr => Below.heap_setCell _ _ _ _ (by omega)⟩
theorem Kb.alloc {B r : Nat} {a w : World} (h : Kb B r a w) (hB : B ≤ w.heap.size) (o : Obj) : Kb B r a (w.alloc o) :=
  h.trans ⟨rfl, rfl, rfl, by simp, fun k hk _ => Below.heap_alloc _ _ _ (by omega)⟩
theorem Kb.below {B r : Nat} {w w' : World} (h : Kb B r w w') : Below (min B r) w w' := ⟨h.os, h.tape, h.output, h.size, fun k hk => h.block k (by omega) (by omega)⟩
theorem Kb.cell {B r : Nat} {w w' : World} (h : Kb B r w w') {p : Addr} (hp : p.block < B) (hr : p.block ≠ r) : w'.cell? p = w.cell? p := World.cell?_of_block (w := w) (h.block p.block hp hr)

/-- The cells of a bytes.Reader. -/
def rdr (so : Option Addr) (n c i : Nat) (pr : Int) : Array Value := #[.slice so n c, .int .i64 (i : Int), .int .i64 pr]
theorem rdr_cell {w : World} {rb : Nat} {so : Option Addr} {n c i : Nat} {pr : Int} (h : w.heap[rb]? = some (.cells (rdr so n c i pr) 47 (0, 0))) :
    w.cell? ⟨rb, 0, none⟩ = some (.slice so n c) ∧ w.cell? ⟨rb, 1, none⟩ = some (.int .i64 i) ∧ w.cell? ⟨rb, 2, none⟩ = some (.int .i64 pr) ∧ ∀ o, w.frozen? ⟨rb, o, none⟩ = false := by
  simp [World.cell?, World.frozen?, h, rdr]

set_option maxHeartbeats 400000 in
theorem read_eof (rb : Nat) (so : Option Addr) (n c i : Nat) (pr : Int) (dst : Value) (eof : Value) (w : World) (h : w.heap[rb]? = some (.cells (rdr so n c i pr) 47 (0, 0)))
    (hg : w.cell? ⟨0, 0, none⟩ = some (.iface 52 eof)) (hn : n ≤ i) (_hi : i ≤ 1048576) :
    Calls Tryd.prog 37 #[.pointer (some ⟨rb, 0, none⟩), dst] w fun e w' => e = .returned (.tuple #[.int .i64 0, .iface 52 eof]) ∧ ∃ m, w' = w.drewN m := by
  obtain ⟨c0, c1, c2, cf⟩ := rdr_cell h
  clear h c2 cf
  go_enter Tryd.func37, Tryd.ntmps37
  go_wp2
  go_quiet (fail)
  go_wp2
  go_quiet (fail)
  go_wp2
  go_ret2
  exact ⟨rfl, _, World.drewN_drewN _ _ _⟩

theorem add_at (b o j : Nat) : (⟨b, o, none⟩ : Addr).add j = ⟨b, o + j, none⟩ := by unfold Addr.add; split <;> simp_all
theorem size5 : (Tryd.prog.info? 5).map (·.size) = some 1 := by kernel_rfl
theorem heap_set_same {w : World} {b o : Nat} {C : Array Value} {t : TypeId} {f : Nat × Nat} (h : w.heap[b]? = some (.cells C t f)) (v : Value) : (w.setCell ⟨b, o, none⟩ v).heap[b]? = some (.cells (C.setIfInBounds o v) t f) := by
  simp [World.setCell, Array.getElem?_modify, h]

set_option maxHeartbeats 400000 in
theorem read_ok (rb fb n c i : Nat) (pr : Int) (db off m cm : Nat) (cur cs : List Value) (w : World) (h : w.heap[rb]? = some (.cells (rdr (some ⟨fb, 0, none⟩) n c i pr) 47 (0, 0)))
    (hn : i < n) (hnc : n ≤ c) (hi : c ≤ 1048576) (hm : m ≤ 65536) (hd : w.heap[db]? = some (.cells cur.toArray 5 (0, 0))) (hfit : off + m ≤ cur.length) (hcl : cs.length = min (n - i) m)
    (hcs : ∀ j v, cs[j]? = some v → w.cell? ⟨fb, i + j, none⟩ = some v) (h1 : ∀ v ∈ cs, v.oneCell' = true) (hr : rb < db) (hfr : fb ≠ rb) :
    Calls Tryd.prog 37 #[.pointer (some ⟨rb, 0, none⟩), .slice (some ⟨db, off, none⟩) m cm] w fun e w' => e = .returned (.tuple #[.int .i64 cs.length, .nilIface]) ∧ 
      w'.heap[rb]? = some (.cells (rdr (some ⟨fb, 0, none⟩) n c (i + cs.length) (-1)) 47 (0, 0)) ∧ w'.heap[db]? = some (.cells (splice cur off cs).toArray 5 (0, 0)) ∧ Kb db rb w w' := by
  obtain ⟨c0, c1, c2, cf⟩ := rdr_cell h
  have h0i : (0 : Int) ≤ (i : Int) := by omega
  have h1i : (i : Int) < (n : Int) := by omega
  have h2i : (n : Int) ≤ (c : Int) := by omega
  go_enter Tryd.func37, Tryd.ntmps37
  go_wp2
  go_quiet (fail)
  go_wp2
  have f1 : ((w.drewN nq).setCell ⟨rb, 2, none⟩ (.int .i64 (-1))).heap[rb]? = some (.cells (rdr (some ⟨fb, 0, none⟩) n c i (-1)) 47 (0, 0)) := heap_set_same (w := w.drewN nq) h _
  have f2 : ((w.drewN nq).setCell ⟨rb, 2, none⟩ (.int .i64 (-1))).heap[db]? = some (.cells cur.toArray 5 (0, 0)) := (Below.heap_setCell _ _ _ _ (by simp; omega)).trans hd
  have f3 : Kb db rb w ((w.drewN nq).setCell ⟨rb, 2, none⟩ (.int .i64 (-1))) := ((Kb.refl db rb w).drewN nq).setCell ⟨rb, 2, none⟩ (.inl rfl) _
  have f4 : ∀ j v, cs[j]? = some v → ((w.drewN nq).setCell ⟨rb, 2, none⟩ (.int .i64 (-1))).cell? ⟨fb, i + j, none⟩ = some v := fun j v hj =>
    (World.cell?_of_block (w := w) (Below.heap_setCell _ _ _ _ (by simpa using hfr))).trans (hcs j v hj)
  generalize (w.drewN nq).setCell ⟨rb, 2, none⟩ (.int .i64 (-1)) = W1 at f1 f2 f3 f4 ⊢
  clear c0 c1 c2 cf h hd hcs
  obtain ⟨c0, c1, c2, cf⟩ := rdr_cell f1
  have F4 : Hid (∀ j v, cs[j]? = some v → W1.cell? ⟨fb, i + j, none⟩ = some v) := f4
  have HC : Hid (cs.length = min (n - i) m) := hcl
  have F1 : Hid (W1.heap[rb]? = some (.cells (rdr (some ⟨fb, 0, none⟩) n c i (-1)) 47 (0, 0))) := f1
  have F2 : Hid (W1.heap[db]? = some (.cells cur.toArray 5 (0, 0))) := f2
  clear f1 f2 f4 hcl
  have e1 : i ≤ n := by omega
  have e2 : ¬ c = i := by omega
  go_region_law ((refine step_copy_splice (by rfl) (.tmp 20) (.tmp 29) 22 22 (by rfl) 5 Tryd.underlying22 size5 (some ⟨db, off, none⟩) (some ⟨fb, i, none⟩) m cm (n - i) (c - i) (by simp [Act.eval, Act.put]) (by simp [Act.eval, Act.put]) db off cur 5 (by exact F2.out) cs (by exact HC.out) (by intro _; exact ⟨rfl, ⟨fb, i, none⟩, rfl, fun j v hj => by rw [add_at]; exact F4.out j v hj⟩) (by rw [HC.out]; omega) h1 db W1 (by exact (Below.refl _ _).drew) (Nat.le_refl _) ?_; intro w4 hg4 hb4))
  all_goals
    have g1 := (hb4.block rb hr).trans F1.out
    obtain ⟨d0, d1, d2, df⟩ := rdr_cell g1
    have G1 : Hid (w4.heap[rb]? = some (.cells (rdr (some ⟨fb, 0, none⟩) n c i (-1)) 47 (0, 0))) := g1
    have hlen : cs.length ≤ 65536 := by rw [HC.out]; omega
    clear g1 c0 c1 c2 cf
    go_wp2
    go_ret2
    refine ⟨rfl, ?_, ?_, ?_⟩
    · have := heap_set_same (o := 1) G1.out (.int .i64 ((i : Int) + (cs.length : Int)))
      rw [this]
      simp [rdr]
    · rw [Below.heap_setCell _ _ _ _ (by simp; omega)]
      exact hg4.out
    · exact (f3.trans (Kb.ofBelow hb4)).setCell _ (.inl rfl) _
end Go.Proofs.Qxb6615591aDoor
