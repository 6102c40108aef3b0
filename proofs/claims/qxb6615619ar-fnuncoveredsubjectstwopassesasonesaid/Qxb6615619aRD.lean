/-
  Seat b6615619a. toSubjectsB1.
-/
import Derived.Test.Qxb6615619aRC
namespace Go.Proofs.Qxb6615619aR
open Go.RowKit
attribute [local go_sem ↓] Go.wp_at_zero Go.wp_at_succ

def eT (e : El) : T3 := (.string e.name, .string e.ing, .slice e.ba e.bn e.bc)
def eZ : T3 := (.string ⟨#[]⟩, .string ⟨#[]⟩, .slice none 0 0)
/-- What a subject reads as. -/
def con (e : El) : ByteArray × ByteArray × Option (List ByteArray) := (e.name, e.ing, e.by_)

theorem ByAt.below {w w' : World} {bv : Value} {d : Option (List ByteArray)} (h : ByAt w bv d) {B : Nat} (hb : Below B w w') (hB : w.heap.size ≤ B) : ByAt w' bv d := by
  cases d with
  | none => exact h
  | some ss =>
    obtain ⟨a, c, rfl, hc⟩ := h
    refine ⟨a, c, rfl, fun hp => ?_⟩
    obtain ⟨b, off, rfl, hlt, hk⟩ := hc hp
    exact ⟨b, off, rfl, Nat.lt_of_lt_of_le hlt hb.size, fun k hk' => (hb.cell (by simp; omega)).trans (hk k hk')⟩

/-- Below block B, and but for block r, the world is as it was. -/
structure Kb (B r : Nat) (w w' : World) : Prop where
  os : w'.os = w.os
  tape : w'.tape = w.tape
  output : w'.output = w.output
  size : w.heap.size ≤ w'.heap.size
  block : ∀ k, k < B → k ≠ r → w'.heap[k]? = w.heap[k]?
theorem Kb.refl (B r : Nat) (w : World) : Kb B r w w := ⟨rfl, rfl, rfl, Nat.le_refl _, fun _ _ _ => rfl⟩
theorem Kb.trans {B r : Nat} {a b c : World} (h : Kb B r a b) (k : Kb B r b c) : Kb B r a c :=
  ⟨k.os.trans h.os, k.tape.trans h.tape, k.output.trans h.output, Nat.le_trans h.size k.size, fun i hi hr => (k.block i hi hr).trans (h.block i hi hr)⟩
theorem Kb.mono {B B' r : Nat} {w w' : World} (h : Kb B r w w') (hB : B' ≤ B) : Kb B' r w w' := ⟨h.os, h.tape, h.output, h.size, fun k hk hr => h.block k (Nat.lt_of_lt_of_le hk hB) hr⟩
theorem Kb.ofBelow {B r : Nat} {w w' : World} (h : Below B w w') : Kb B r w w' := ⟨h.os, h.tape, h.output, h.size, fun k hk _ => h.block k hk⟩
theorem Kb.setCell {B r : Nat} {a w : World} (h : Kb B r a w) (p : Addr) (hp : p.block = r ∨ B ≤ p.block) (u : Value) : Kb B r a (w.setCell p u) :=
  h.trans ⟨rfl, rfl, rfl, by simp [World.setCell], fun k hk hr => Below.heap_setCell _ _ _ _ (by omega)⟩
theorem Kb.cell {B r : Nat} {w w' : World} (h : Kb B r w w') {p : Addr} (hp : p.block < B) (hr : p.block ≠ r) : w'.cell? p = w.cell? p := World.cell?_of_block (w := w) (h.block p.block hp hr)
theorem Kb.base {B C r : Nat} {w w' : World} (h : Kb C r w w') (hC : B ≤ C) (hr : B ≤ r) : Below B w w' := ⟨h.os, h.tape, h.output, h.size, fun k hk => h.block k (by omega) (by omega)⟩

theorem ByAt.kb {w w' : World} {a : Option Addr} {n c : Nat} {d : Option (List ByteArray)} (h : ByAt w (.slice a n c) d) {B r : Nat} (hb : Kb B r w w') (hB : w.heap.size ≤ B) (hr : ∀ x, a = some x → 0 < n → x.block ≠ r) : ByAt w' (.slice a n c) d := by
  cases d with
  | none => exact h
  | some ss =>
    obtain ⟨a, c, e, hc⟩ := h
    cases e
    refine ⟨_, _, rfl, fun hp => ?_⟩
    obtain ⟨b, off, rfl, hlt, hk⟩ := hc hp
    exact ⟨b, off, rfl, Nat.lt_of_lt_of_le hlt hb.size, fun k hk' => (hb.cell (by simp; omega) (by have := hr _ rfl hp; simpa using this)).trans (hk k hk')⟩
/-- The list of a subject lies from block B on. -/
def Fr (B : Nat) (e : El) : Prop := ∀ x, e.ba = some x → 0 < e.bn → B ≤ x.block

theorem Try.info45 : (Try.prog.info? 45).map (fun i => (i.zero, i.size, i.bytes)) = some (some (.agg #[.string ⟨#[]⟩, .string ⟨#[]⟩, .slice none 0 0]), 3, 56) := by kernel_rfl

/-- A store of three cells into a row that is known whole. -/
theorem heap_set3 {w : World} {b : Nat} {R : Array Value} {t : TypeId} (h : w.heap[b]? = some (.cells R t (0, 0))) (i : Nat) (x y z : Value) :
    (((w.setCell ⟨b, i, none⟩ x).setCell ⟨b, i + 1, none⟩ y).setCell ⟨b, i + 2, none⟩ z).heap[b]? = some (.cells (((R.setIfInBounds i x).setIfInBounds (i + 1) y).setIfInBounds (i + 2) z) t (0, 0)) := by
  simp [World.setCell, Array.getElem?_modify, h]
theorem below_set3 {B : Nat} {w0 w : World} (h : Below B w0 w) (b : Nat) (hb : B ≤ b) (i : Nat) (x y z : Value) : Below B w0 (((w.setCell ⟨b, i, none⟩ x).setCell ⟨b, i + 1, none⟩ y).setCell ⟨b, i + 2, none⟩ z) :=
  ((h.setCell (by simpa using hb) _).setCell (by simpa using hb) _).setCell (by simpa using hb) _

theorem kb_set3 {B r : Nat} {w0 w : World} (h : Kb B r w0 w) (i : Nat) (x y z : Value) : Kb B r w0 (((w.setCell ⟨r, i, none⟩ x).setCell ⟨r, i + 1, none⟩ y).setCell ⟨r, i + 2, none⟩ z) :=
  ((h.setCell ⟨r, i, none⟩ (.inl rfl) x).setCell ⟨r, i + 1, none⟩ (.inl rfl) y).setCell ⟨r, i + 2, none⟩ (.inl rfl) z
theorem undrew {B : Nat} {w w1 : World} (h : Below B w.drew w1) : Below B w w1 := ⟨h.os, h.tape, h.output, h.size, h.block⟩
theorem undrewN {B n : Nat} {w w1 : World} (h : Below B (w.drewN n) w1) : Below B w w1 := ⟨h.os, h.tape, h.output, h.size, h.block⟩
theorem Below.onto {B C : Nat} {w wr w1 : World} (h : Below B w wr) (k : Below C wr w1) (hC : B ≤ C) : Below B w w1 := h.trans (k.mono hC)

theorem row_some {w : World} {b : Nat} {l : List T3} {t : TypeId} (h : w.heap[b]? = some (.cells (rowA l) t (0, 0))) (i : Nat) (hi : i < l.length) :
    ∃ x y z, w.cell? ⟨b, i * 3, none⟩ = some x ∧ w.cell? ⟨b, i * 3 + 1, none⟩ = some y ∧ w.cell? ⟨b, i * 3 + 2, none⟩ = some z := ⟨_, _, _, row_cell h i hi⟩
theorem row_free {w : World} {b : Nat} {R : Array Value} {t : TypeId} (h : w.heap[b]? = some (.cells R t (0, 0))) (o : Nat) : w.frozen? ⟨b, o, none⟩ = false := by
  simp [World.frozen?, h]

theorem cell_set3 (w : World) (N b o i : Nat) (x y z : Value) (h : b ≠ N) : (((w.setCell ⟨N, i, none⟩ x).setCell ⟨N, i + 1, none⟩ y).setCell ⟨N, i + 2, none⟩ z).cell? ⟨b, o, none⟩ = w.cell? ⟨b, o, none⟩ :=
  World.cell?_of_block (w := w) ((Below.heap_setCell _ _ _ _ (by simpa using h)).trans ((Below.heap_setCell _ _ _ _ (by simpa using h)).trans (Below.heap_setCell _ _ _ _ (by simpa using h))))

set_option maxHeartbeats 1000000 in
theorem toSubs_some (a0 : Addr) (c : Nat) (els : List El) (w : World) (hS : Sl w (some a0) els) (hm : Small els) :
    Calls Try.prog 8 #[.slice (some a0) els.length c] w fun e w' => e = .returned (.slice (some ⟨w.heap.size, 0, none⟩) els.length els.length) ∧
      (∃ ds : List El, ds.map con = els.map con ∧ (∀ d ∈ ds, ByAt w' (.slice d.ba d.bn d.bc) d.by_ ∧ Fr (w.heap.size + 1) d) ∧ w'.heap[w.heap.size]? = some (.cells (rowA (ds.map eT)) 45 (0, 0))) ∧ Below w.heap.size w w' := by
  obtain ⟨hl, hsm⟩ := hm
  have hq := fun w => Lib.run_eql_slice_nil (P := Try.prog) w 22 40 (some a0) els.length c 0 0 Try.underlying22
  have hmk := run_make3 27 45 _ _ _ 56 Try.underlying27 Try.info45 .i64 .i64 els.length (by omega) (by omega)
  obtain ⟨N, hN⟩ : ∃ N, w.heap.size = N := ⟨_, rfl⟩
  go_enter Try.func8, Try.ntmps8
  go_wp2
  go_loopw [4] (fun i wr => ∃ (k : Nat) (ds : List El), k ≤ els.length ∧ i = .int .i64 k ∧ ds.map con = (els.take k).map con ∧ (∀ d ∈ ds, ByAt wr (.slice d.ba d.bn d.bc) d.by_ ∧ Fr (N + 1) d) ∧ wr.heap[N]? = some (.cells (rowA (ds.map eT ++ List.replicate (els.length - k) eZ)) 45 (0, 0)) ∧ Below N w wr) (fun i _ => els.length - (intOf i).toNat)
  case atStart =>
    refine ⟨0, [], Nat.zero_le _, rfl, rfl, fun d hd => (by cases hd), ?_, ?_⟩
    · rw [← hN]; exact heap_new _ _
    · rw [← hN]; exact (Below.refl _ _).alloc (Nat.le_refl _) _
  case round =>
    obtain ⟨k, ds, hk, rfl, hcon, hgood, hrow, hbel⟩ := hrel
    have hdl : ds.length = k := by have := congrArg List.length hcon; simp at this; omega
    have CON := hid hcon
    have GOOD := hid hgood
    have ROW := hid hrow
    have HN := hid hN
    clear hcon hgood hrow
    by_cases hlt : k < els.length
    · obtain ⟨b, off, hab, hb, hg⟩ := hS.pos (by omega)
      obtain rfl := Option.some.inj hab
      obtain ⟨c0, c1, c2⟩ := hg k hlt
      have hbN : b < N := by rw [← HN.out]; exact hb
      have r0 := (hbel.cell (p := ⟨b, off + k * 3, none⟩) hbN).trans c0
      have r1 := (hbel.cell (p := ⟨b, off + k * 3 + 1, none⟩) hbN).trans c1
      have r2 := (hbel.cell (p := ⟨b, off + k * 3 + 2, none⟩) hbN).trans c2
      have hby := hS.good els[k] (List.getElem_mem hlt)
      have BY : Hid (ByAt wr (.slice els[k].ba els[k].bn els[k].bc) els[k].by_) := hid (hby.below hbel (by rw [HN.out]; exact Nat.le_refl _))
      have LB := hid (hsm els[k] (List.getElem_mem hlt)).2.2
      have NLT : N < wr.heap.size := (Array.getElem?_eq_some_iff.1 ROW.out).1
      have hbne : b ≠ N := by omega
      have hI : (k : Int) < (els.length : Int) := by omega
      clear hg hS hsm hby c0 c1 c2 hab hN
      generalize hnm : els[k].name = nm at *
      generalize hgm : els[k].ing = gm at *
      generalize els[k].ba = ba at *
      generalize els[k].bn = bn at *
      generalize els[k].bc = bc at *
      generalize hbd : els[k].by_ = bd at *
      have HNM := hid hnm
      have HGM := hid hgm
      have HBD := hid hbd
      clear hnm hgm hbd
      go_wp2
      go_region_held3 (fun w' => w'.cell? ⟨b, off + k * 3, none⟩ = some (.string nm) ∧ w'.cell? ⟨b, off + k * 3 + 1, none⟩ = some (.string gm) ∧ w'.cell? ⟨b, off + k * 3 + 2, none⟩ = some (.slice ba bn bc)) (first | (refine ⟨?_, ?_, ?_⟩ <;> (rw [cell_set3 _ _ _ _ _ _ _ _ hbne]; assumption)) | go_keep)
        ((go_at_call 17; refine (cloneStrs (.slice ba bn bc) bd _ ?_ LB.out).mono ?_; exact BY.out; rintro e w1 ⟨⟨ba', bn', bc', rfl, hb1, hfr⟩, hbel1⟩; have s0 := (hbel1.cell (p := ⟨b, off + k * 3, none⟩) (by simp; omega)).trans r0; have s1 := (hbel1.cell (p := ⟨b, off + k * 3 + 1, none⟩) (by simp; omega)).trans r1; have s2 := (hbel1.cell (p := ⟨b, off + k * 3 + 2, none⟩) (by simp; omega)).trans r2; have ROW1 := hid ((hbel1.block N NLT).trans ROW.out); obtain ⟨x, y, z, t0, t1, t2⟩ := row_some ROW1.out k (by simp; omega); have tf := row_free ROW1.out; have BY1 := hid hb1; have FR1 := hid hfr; clear hb1 hfr))
      go_wp2
      refine ⟨⟨k + 1, ds ++ [⟨nm, gm, ba', bn', bc', bd⟩], by omega, by go_num, ?_, ?_, ?_, ?_⟩, by simp [intOf]; omega⟩
      · rw [List.map_append, CON.out, List.take_succ_eq_append_getElem hlt, List.map_append]
        simp [con, HNM.out, HGM.out, HBD.out]
      · have hkb : Kb w1.heap.size N w1 (((w1.setCell ⟨N, k * 3, none⟩ (.string nm)).setCell ⟨N, k * 3 + 1, none⟩ (.string gm)).setCell ⟨N, k * 3 + 2, none⟩ (.slice ba' bn' bc')) := kb_set3 (Kb.refl _ _ _) _ _ _ _
        intro d hd
        rcases List.mem_append.1 hd with hd | hd
        · obtain ⟨g1, g2⟩ := GOOD.out d hd
          exact ⟨(g1.below (undrew hbel1) (Nat.le_refl _)).kb hkb (Nat.le_refl _) (fun x hx hn => by have := g2 x hx hn; omega), g2⟩
        · obtain rfl := List.mem_singleton.1 hd
          have hf : Fr (N + 1) ⟨nm, gm, ba', bn', bc', bd⟩ := fun x hx hn => by have := FR1.out x hx hn; simp at this; omega
          exact ⟨BY1.out.kb hkb (Nat.le_refl _) (fun x hx hn => by have := hf x hx hn; omega), hf⟩
      · rw [heap_set3 ROW1.out, rowA_set _ _ (by simp; omega)]
        congr 3
        obtain ⟨m, hm⟩ : ∃ m, els.length - k = m + 1 := ⟨els.length - k - 1, by omega⟩
        rw [hm, show els.length - (k + 1) = m by omega, List.replicate_succ, List.set_append_right _ _ (by simp; omega)]
        simp [hdl, eT]
      · exact below_set3 (Below.onto hbel (undrew hbel1) (Nat.le_of_lt NLT)) N (Nat.le_refl _) _ _ _ _
    · obtain rfl : k = els.length := by omega
      go_wp2
      go_ret
      rw [HN.out]
      refine ⟨rfl, ⟨ds, by rw [CON.out, List.take_length], GOOD.out, ?_⟩, hbel⟩
      rw [ROW.out]; simp

set_option maxHeartbeats 400000 in
theorem toSubs_nil (w : World) : Calls Try.prog 8 #[.slice none 0 0] w fun e w' => e = .returned (.slice none 0 0) ∧ w' = w := by
  have hq := fun w => Lib.run_eql_slice_nil (P := Try.prog) w 22 40 none 0 0 0 0 Try.underlying22
  go_enter Try.func8, Try.ntmps8
  go_wp2
  go_ret
  exact ⟨rfl, rfl⟩

/-- A slice of the call's own over the whole block db: els, then rest. -/
structure Blk (w : World) (so : Option Addr) (db : Nat) (els : List El) (rest : List T3) : Prop where
  nil : so = none → els = [] ∧ rest = []
  some : ∀ a, so = some a → a = ⟨db, 0, none⟩ ∧ w.heap[db]? = some (.cells (rowA (els.map eT ++ rest)) 45 (0, 0))

theorem toSubs (so : Option Addr) (c : Nat) (els : List El) (w : World) (hS : Sl w so els) (hm : Small els) (hn : so = none → els = [] ∧ c = 0) :
    Calls Try.prog 8 #[.slice so els.length c] w fun e w' => (∃ ds so', e = .returned (.slice so' els.length els.length) ∧ so'.isNone = so.isNone ∧ ds.map con = els.map con ∧ (∀ d ∈ ds, ByAt w' (.slice d.ba d.bn d.bc) d.by_ ∧ Fr (w.heap.size + 1) d) ∧ Blk w' so' w.heap.size ds []) ∧ Below w.heap.size w w' := by
  cases so with
  | none =>
    obtain ⟨rfl, rfl⟩ := hn rfl
    refine (toSubs_nil w).mono ?_
    rintro e w' ⟨rfl, rfl⟩
    exact ⟨⟨[], none, rfl, rfl, rfl, (fun d hd => by cases hd), ⟨fun _ => ⟨rfl, rfl⟩, fun a h => by cases h⟩⟩, Below.refl _ _⟩
  | some a =>
    refine (toSubs_some a c els w hS hm).mono ?_
    rintro e w' ⟨rfl, ⟨ds, h1, h2, h3⟩, h4⟩
    exact ⟨⟨ds, _, rfl, rfl, h1, h2, ⟨(fun h => by cases h), fun a h => by cases h; exact ⟨rfl, by rw [List.append_nil]; exact h3⟩⟩⟩, h4⟩
end Go.Proofs.Qxb6615619aR
