/-
  Seat b6615085a. The atomics; the pace in memory; its maker, its readers.
-/
import Derived.Test.Qxb6615085aRows
import Derived.WalkKit
import Derived.WalkSpells
import Derived.WalkLawsBesides
import Derived.Deep.QuietTactic
import Derived.Deep.RegionWith
import Derived.BigQuiet
import Derived.KernelRfl
import Derived.Below
import Derived.Laws.Rows
import Derived.Laws.LoneSync
import Derived.Conc.LoneSelect
namespace Go.Proofs.Qxb6615085a
open Go.RowKit Go.Conc

theorem hid {p : Prop} (h : p) : Hid p := h

theorem storeC (ad : Addr) (u : Value) (v : Int) (w : World) (hc : w.cell? ad = some u) (hz : w.frozen? ad = false) :
    (callFunc 14 #[.pointer (some ad), .int .i64 v]).run Try.prog w = .ok (.value (.tuple #[])) (w.setCell ad (.int .i64 v)) :=
  run_call_store Try.func14 (by kernel_rfl) (by kernel_rfl) (by kernel_rfl) (by kernel_rfl) hc hz
theorem loadC (ad : Addr) (v : Int) (w : World) (hc : w.cell? ad = some (.int .i64 v)) :
    (callFunc 16 #[.pointer (some ad)]).run Try.prog w = .ok (.value (.int .i64 v)) w :=
  run_call_load Try.func16 (by kernel_rfl) (by kernel_rfl) (by kernel_rfl) .i64 (by kernel_rfl) hc
theorem addC (ad : Addr) (v d : Int) (w : World) (hc : w.cell? ad = some (.int .i64 v)) (hz : w.frozen? ad = false) :
    (callFunc 19 #[.pointer (some ad), .int .i64 d]).run Try.prog w = .ok (.value (.int .i64 (IntKind.i64.wrap (v + d)))) (w.setCell ad (.int .i64 (IntKind.i64.wrap (v + d)))) :=
  run_call_add Try.func19 (by kernel_rfl) (by kernel_rfl) (by kernel_rfl) .i64 (by kernel_rfl) hc hz (by simp [go_sem])

theorem store10 (b o : Nat) (u : Value) (v : Int) (w : World) (hc : w.cell? ⟨b, o, none⟩ = some u) (hz : w.frozen? ⟨b, o, none⟩ = false) :
    Calls Try.prog 10 #[.pointer (some ⟨b, o, none⟩), .int .i64 v] w fun e w' => e = .returned (.tuple #[]) ∧ w' = w.setCell ⟨b, o, none⟩ (.int .i64 v) := by
  have h := storeC ⟨b, o, none⟩ u v w hc hz
  go_enter Try.func10, Try.ntmps10
  go_wp2
  go_end0
  exact ⟨rfl, rfl⟩
theorem load12 (b o : Nat) (v : Int) (w : World) (hc : w.cell? ⟨b, o, none⟩ = some (.int .i64 v)) :
    Calls Try.prog 12 #[.pointer (some ⟨b, o, none⟩)] w fun e w' => e = .returned (.int .i64 v) ∧ w' = w := by
  have h := loadC ⟨b, o, none⟩ v w hc
  go_enter Try.func12, Try.ntmps12
  go_wp2
  go_ret
  exact ⟨rfl, rfl⟩

/-- A pace in block pb, its channel in block cb. -/
structure Pc (w : World) (pb cb : Nat) (t n : Int) (buf : Array Value) (s : Nat) : Prop where
  blk : ∃ a b c d e f, w.heap[pb]? = some (.cells #[.int .i64 t, .int .i64 n, .chan (some cb), a, b, c, d, e, f] 43 (0, 0))
  ch : w.heap[cb]? = some (.chan 1 buf false s 0 false)
  ne : cb ≠ pb
theorem heap_lt {w : World} {b : Nat} {o : Obj} (h : w.heap[b]? = some o) : b < w.heap.size := (Array.getElem?_eq_some_iff.1 h).1
theorem Pc.cells {w : World} {pb cb : Nat} {t n : Int} {buf : Array Value} {s : Nat} (h : Pc w pb cb t n buf s) :
    w.cell? ⟨pb, 0, none⟩ = some (.int .i64 t) ∧ w.cell? ⟨pb, 1, none⟩ = some (.int .i64 n) ∧ w.cell? ⟨pb, 2, none⟩ = some (.chan (some cb)) ∧ ∀ o, w.frozen? ⟨pb, o, none⟩ = false := by
  obtain ⟨a, b, c, d, e, f, hb⟩ := h.blk
  simp [World.cell?, World.frozen?, hb]

set_option maxHeartbeats 400000 in
theorem sums7 (pb cb : Nat) (t n : Int) (buf : Array Value) (s : Nat) (w : World) (h : Pc w pb cb t n buf s) :
    Calls Try.prog 7 #[.pointer (some ⟨pb, 0, none⟩)] w fun e w' => e = .returned (.tuple #[.int .i64 t, .int .i64 n]) ∧ ∃ q, w' = w.drewN q := by
  obtain ⟨c0, c1, c2, cf⟩ := h.cells
  go_enter Try.func7, Try.ntmps7
  go_wp2
  go_quiet ((first | (go_at_call_of 12 (Value.pointer (some ⟨pb, 0, none⟩)); refine Calls.quiet_of_same (load12 pb 0 t _ ?_); exact c0) | (go_at_call_of 12 (Value.pointer (some ⟨pb, 1, none⟩)); refine Calls.quiet_of_same (load12 pb 1 n _ ?_); exact c1)))
  go_wp2
  go_ret2
  exact ⟨rfl, _, rfl⟩

theorem len31 (cb cap : Nat) (buf : Array Value) (s r : Nat) (w : World) (h : w.heap[cb]? = some (.chan cap buf false s r false)) (ty : TypeId) :
    (Builtin.len_ #[31] ty #[.chan (some cb)]).run Try.prog w = .ok (goInt buf.size) w := by
  have hg : (getObj cb).run Try.prog w = .ok (.chan cap buf false s r false) w := by simp [getObj, Sem.run, h]
  simp [Builtin.len_, run_underlying Try.underlying31, hg]
set_option maxHeartbeats 400000 in
theorem wakes8 (pb cb : Nat) (t n : Int) (buf : Array Value) (s : Nat) (w : World) (h : Pc w pb cb t n buf s) :
    Calls Try.prog 8 #[.pointer (some ⟨pb, 0, none⟩)] w fun e w' => e = .returned (.int .i64 buf.size) ∧ w' = w := by
  obtain ⟨c0, c1, c2, cf⟩ := h.cells
  have hl := fun ty => len31 cb 1 buf s 0 w h.ch ty
  go_enter Try.func8, Try.ntmps8
  go_wp2
  go_ret
  exact ⟨rfl, rfl⟩

theorem bytes32 : ∃ i, Try.prog.info? 32 = some i ∧ i.bytes = 0 := by
  have h : (Try.prog.info? 32).map (·.bytes) = some 0 := by kernel_rfl
  obtain ⟨i, hi, hb⟩ := Option.map_eq_some_iff.1 h
  exact ⟨i, hi, hb⟩
theorem mk1 (w : World) : (Instr.makeChan 31 (.int .i64 1)).run Try.prog w = .ok (.chan (some w.heap.size)) (w.alloc (.chan 1 #[] false 0 0 false)) := by
  obtain ⟨i, hi, hb⟩ := bytes32
  simpa using run_makeChan (P := Try.prog) (w := w) Try.underlying31 hi .i64 1 (by omega) (by rw [hb]; omega)
theorem bd (w : World) : (Instr.build 32 #[]).run Try.prog w = .ok (.agg #[]) w := run_build w 32 #[] #[] (by kernel_rfl)

theorem heap_new (w : World) (o : Obj) : (w.alloc o).heap[w.heap.size]? = some o := by
  show (w.heap.push o)[w.heap.size]? = some o
  simp
theorem heap_set_same {w : World} {b o : Nat} {C : Array Value} {t : TypeId} {f : Nat × Nat} (h : w.heap[b]? = some (.cells C t f)) (v : Value) : (w.setCell ⟨b, o, none⟩ v).heap[b]? = some (.cells (C.setIfInBounds o v) t f) := by
  simp [World.setCell, Array.getElem?_modify, h]
/-- Nine cells of a pace. -/
def pc9 (a0 a1 a2 a3 a4 a5 a6 a7 a8 : Value) : Array Value := #[a0, a1, a2, a3, a4, a5, a6, a7, a8]
/-- A pace being made. -/
structure Pm (w0 w : World) (pb cb : Nat) (a0 a1 a3 a4 a5 a6 a7 a8 : Value) : Prop where
  blk : w.heap[pb]? = some (.cells (pc9 a0 a1 (.chan (some cb)) a3 a4 a5 a6 a7 a8) 43 (0, 0))
  ch : w.heap[cb]? = some (.chan 1 #[] false 0 0 false)
  ne : cb ≠ pb
  lo : w0.heap.size ≤ cb
  lo2 : w0.heap.size ≤ pb
  bel : Below w0.heap.size w0 w
theorem Pm.set0 {w0 w : World} {pb cb : Nat} {a0 a1 a3 a4 a5 a6 a7 a8 : Value} (h : Pm w0 w pb cb a0 a1 a3 a4 a5 a6 a7 a8) (v : Value) : Pm w0 (w.setCell ⟨pb, 0, none⟩ v) pb cb v a1 a3 a4 a5 a6 a7 a8 :=
  ⟨heap_set_same h.blk v, (Below.heap_setCell _ _ _ _ (by simpa using h.ne)).trans h.ch, h.ne, h.lo, h.lo2, h.bel.setCell h.lo2 _⟩
theorem Pm.set1 {w0 w : World} {pb cb : Nat} {a0 a1 a3 a4 a5 a6 a7 a8 : Value} (h : Pm w0 w pb cb a0 a1 a3 a4 a5 a6 a7 a8) (v : Value) : Pm w0 (w.setCell ⟨pb, 1, none⟩ v) pb cb a0 v a3 a4 a5 a6 a7 a8 :=
  ⟨heap_set_same h.blk v, (Below.heap_setCell _ _ _ _ (by simpa using h.ne)).trans h.ch, h.ne, h.lo, h.lo2, h.bel.setCell h.lo2 _⟩
theorem Pm.set6 {w0 w : World} {pb cb : Nat} {a0 a1 a3 a4 a5 a6 a7 a8 : Value} (h : Pm w0 w pb cb a0 a1 a3 a4 a5 a6 a7 a8) (v : Value) : Pm w0 (w.setCell ⟨pb, 6, none⟩ v) pb cb a0 a1 a3 a4 a5 v a7 a8 :=
  ⟨heap_set_same h.blk v, (Below.heap_setCell _ _ _ _ (by simpa using h.ne)).trans h.ch, h.ne, h.lo, h.lo2, h.bel.setCell h.lo2 _⟩
theorem Pm.set7 {w0 w : World} {pb cb : Nat} {a0 a1 a3 a4 a5 a6 a7 a8 : Value} (h : Pm w0 w pb cb a0 a1 a3 a4 a5 a6 a7 a8) (v : Value) : Pm w0 (w.setCell ⟨pb, 7, none⟩ v) pb cb a0 a1 a3 a4 a5 a6 v a8 :=
  ⟨heap_set_same h.blk v, (Below.heap_setCell _ _ _ _ (by simpa using h.ne)).trans h.ch, h.ne, h.lo, h.lo2, h.bel.setCell h.lo2 _⟩
theorem Pm.set8 {w0 w : World} {pb cb : Nat} {a0 a1 a3 a4 a5 a6 a7 a8 : Value} (h : Pm w0 w pb cb a0 a1 a3 a4 a5 a6 a7 a8) (v : Value) : Pm w0 (w.setCell ⟨pb, 8, none⟩ v) pb cb a0 a1 a3 a4 a5 a6 a7 v :=
  ⟨heap_set_same h.blk v, (Below.heap_setCell _ _ _ _ (by simpa using h.ne)).trans h.ch, h.ne, h.lo, h.lo2, h.bel.setCell h.lo2 _⟩
theorem Pm.cells {w0 w : World} {pb cb : Nat} {a0 a1 a3 a4 a5 a6 a7 a8 : Value} (h : Pm w0 w pb cb a0 a1 a3 a4 a5 a6 a7 a8) :
    w.cell? ⟨pb, 0, none⟩ = some a0 ∧ w.cell? ⟨pb, 1, none⟩ = some a1 ∧ w.cell? ⟨pb, 6, none⟩ = some a6 ∧ w.cell? ⟨pb, 7, none⟩ = some a7 ∧ w.cell? ⟨pb, 8, none⟩ = some a8 ∧ ∀ o, w.frozen? ⟨pb, o, none⟩ = false := by
  have hb := h.blk
  simp [World.cell?, World.frozen?, hb, pc9]

set_option maxHeartbeats 1000000 in
theorem new5 (t n k : Int) (w : World) :
    Calls Try.prog 5 #[.int .i64 t, .int .i64 n, .int .i64 k] w fun e w' => e = .returned (.pointer (some ⟨w.heap.size + 1, 0, none⟩)) ∧ Pc w' (w.heap.size + 1) w.heap.size t n #[] 0 ∧ Below w.heap.size w w' := by
  have hmk := mk1
  have h1 : Pm w ((w.alloc (.chan 1 #[] false 0 0 false)).alloc (.cells #[.int .i64 0, .int .i64 0, .chan (some w.heap.size), .int .u64 0, .int .i64 0, .pointer none, .int .i64 0, .int .i64 0, .int .i64 0] 43)) (w.heap.size + 1) w.heap.size (.int .i64 0) (.int .i64 0) (.int .u64 0) (.int .i64 0) (.pointer none) (.int .i64 0) (.int .i64 0) (.int .i64 0) := by
    refine ⟨?_, ?_, by omega, Nat.le_refl _, by omega, ((Below.refl _ w).alloc (Nat.le_refl _) _).alloc (by simp) _⟩
    · have := heap_new (w.alloc (.chan 1 #[] false 0 0 false)) (.cells #[.int .i64 0, .int .i64 0, .chan (some w.heap.size), .int .u64 0, .int .i64 0, .pointer none, .int .i64 0, .int .i64 0, .int .i64 0] 43)
      simp only [World.size_alloc] at this
      exact this
    · rw [Below.heap_alloc _ _ _ (by simp)]
      exact heap_new _ _
  have H1 := hid h1
  clear h1
  go_enter Try.func5, Try.ntmps5
  go_wp2_with fail
  obtain ⟨pb, hpb⟩ : ∃ p, w.heap.size + 1 = p := ⟨_, rfl⟩
  obtain ⟨cb, hcb⟩ : ∃ p, w.heap.size = p := ⟨_, rfl⟩
  generalize (w.alloc (.chan 1 #[] false 0 0 false)).alloc (.cells #[.int .i64 0, .int .i64 0, .chan (some w.heap.size), .int .u64 0, .int .i64 0, .pointer none, .int .i64 0, .int .i64 0, .int .i64 0] 43) = w1 at H1 ⊢
  have HC : Hid (Pm w w1 pb cb (.int .i64 0) (.int .i64 0) (.int .u64 0) (.int .i64 0) (.pointer none) (.int .i64 0) (.int .i64 0) (.int .i64 0)) := by rw [← hpb, ← hcb]; exact H1
  rw [hpb]
  obtain ⟨c0, c1, c6, c7, c8, cf⟩ := HC.out.cells
  refine (store10 pb 0 (.int .i64 0) t w1 c0 (cf _)).mono ?_
  rintro e w2 ⟨rfl, hw⟩
  have H2 : Hid (Pm w w2 pb cb (.int .i64 t) (.int .i64 0) (.int .u64 0) (.int .i64 0) (.pointer none) (.int .i64 0) (.int .i64 0) (.int .i64 0)) := by rw [hw]; exact hid (HC.out.set0 _)
  have HPB := hid hpb
  have HCB := hid hcb
  clear hw c0 c1 c6 c7 c8 cf HC H1 hmk hpb hcb
  obtain ⟨c0, c1, c6, c7, c8, cf⟩ := H2.out.cells
  go_wp2_with fail
  refine (store10 pb 1 (.int .i64 0) n w2 c1 (cf _)).mono ?_
  rintro e w3 ⟨rfl, hw⟩
  have H3 : Hid (Pm w w3 pb cb (.int .i64 t) (.int .i64 n) (.int .u64 0) (.int .i64 0) (.pointer none) (.int .i64 0) (.int .i64 0) (.int .i64 0)) := by rw [hw]; exact hid (H2.out.set1 _)
  clear hw c0 c1 c6 c7 c8 cf H2
  obtain ⟨c0, c1, c6, c7, c8, cf⟩ := H3.out.cells
  go_wp2
  go_ret
  have F := ((H3.out.set6 (.int .i64 t)).set7 (.int .i64 n)).set8 (.int .i64 k)
  rw [HPB.out, HCB.out]
  exact ⟨rfl, ⟨⟨_, _, _, _, _, _, F.blk⟩, F.ch, F.ne⟩, by rw [← HCB.out]; exact F.bel⟩
end Go.Proofs.Qxb6615085a
