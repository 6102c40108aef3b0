/-
  Seat b6615591aD. readBody.
-/
import Derived.Test.Qxb6615591aDoorD
namespace Go.Proofs.Qxb6615591aDoor
open Go.RowKit

theorem hid {p : Prop} (h : p) : Hid p := h
theorem heap_new (w : World) (o : Obj) : (w.alloc o).heap[w.heap.size]? = some o := by
  show (w.heap.push o)[w.heap.size]? = some o
  simp

/-- A bytes.Reader in block rb over the bytes fs, read up to i. -/
structure Feed (w : World) (rb : Nat) (so : Option Addr) (fb : Nat) (fs : List Int) (i : Nat) : Prop where
  rd : ∃ pr, w.heap[rb]? = some (.cells (rdr so fs.length fs.length i pr) 47 (0, 0))
  le : i ≤ fs.length
  len : fs.length ≤ 1048576
  pos : 0 < fs.length → so = some ⟨fb, 0, none⟩ ∧ fb ≠ rb ∧ w.heap[fb]? = some (.cells (bytesA fs) 5 (0, 0))

theorem Feed.lt {w : World} {rb : Nat} {so : Option Addr} {fb : Nat} {fs : List Int} {i : Nat} (h : Feed w rb so fb fs i) : rb < w.heap.size := by
  obtain ⟨pr, h⟩ := h.rd
  exact (Array.getElem?_eq_some_iff.1 h).1

/-- The two sentinels. -/
structure Errs (B : Nat) (a0 a1 : Addr) (w : World) : Prop where
  two : 1 < B
  g0 : w.cell? ⟨0, 0, none⟩ = some (.iface 52 (.pointer (some a0)))
  g1 : w.cell? ⟨1, 0, none⟩ = some (.iface 52 (.pointer (some a1)))
  b0 : a0.block < B
  b1 : a1.block < B
  r0 : ∃ c t, w.heap[a0.block]? = some (.cells c t (0, 0))
  r1 : ∃ c t, w.heap[a1.block]? = some (.cells c t (0, 0))

theorem Errs.below {B : Nat} {a0 a1 : Addr} {w w' : World} (h : Errs B a0 a1 w) (k : Below B w w') : Errs B a0 a1 w' :=
  ⟨h.two, (k.cell (by have := h.two; simp; omega)).trans h.g0, (k.cell h.two).trans h.g1, h.b0, h.b1, by rw [k.block _ h.b0]; exact h.r0, by rw [k.block _ h.b1]; exact h.r1⟩

theorem Errs.eql {B : Nat} {a0 a1 : Addr} {w : World} (h : Errs B a0 a1 w) : ∃ b : Bool, (binOp .eql 29 (.iface 52 (.pointer (some a1))) (.iface 52 (.pointer (some a0)))).run Tryd.prog w = .ok (.bool b) w := by
  by_cases e : a1 = a0
  · subst e; exact ⟨true, eql_same _ _⟩
  · obtain ⟨c0, t0, h0⟩ := h.r0
    obtain ⟨c1, t1, h1⟩ := h.r1
    exact ⟨false, eql_other w e h1 h0⟩

/-- The bytes from i on, sz of them. -/
def part (fs : List Int) (i sz : Nat) : List Value := ((fs.drop i).take sz).map (Value.int .u8)
theorem part_length (fs : List Int) (i sz : Nat) : (part fs i sz).length = min sz (fs.length - i) := by simp [part]
theorem part_one (fs : List Int) (i sz : Nat) : ∀ v ∈ part fs i sz, v.oneCell' = true := by
  intro v hv
  simp only [part, List.mem_map] at hv
  obtain ⟨z, _, rfl⟩ := hv
  rfl
theorem bytes_cell {w : World} {fb : Nat} {fs : List Int} {t : TypeId} (h : w.heap[fb]? = some (.cells (bytesA fs) t (0, 0))) (j : Nat) : w.cell? ⟨fb, j, none⟩ = (fs.map (Value.int .u8))[j]? := by
  simp [World.cell?, h, bytesA]
theorem part_at {w : World} {fb : Nat} {fs : List Int} {i sz : Nat} (h : w.heap[fb]? = some (.cells (bytesA fs) 5 (0, 0))) : ∀ j v, (part fs i sz)[j]? = some v → w.cell? ⟨fb, i + j, none⟩ = some v := by
  intro j v hv
  rw [bytes_cell h]
  simp only [part, List.getElem?_map, List.getElem?_take] at hv ⊢
  split at hv
  · rw [List.getElem?_drop] at hv; exact hv
  · simp at hv

theorem made_list (sz : Nat) : madeCells #[.int .u8 0] sz = (List.replicate sz (Value.int .u8 0)).toArray := by
  have := clA_zero (List.replicate sz 0)
  simpa [clA] using this
theorem splice_all (L cs : List Value) (h : cs.length = L.length) : splice L 0 cs = cs := by
  simp [splice, h]

set_option maxHeartbeats 400000 in
theorem readFull_of (r : Value) (so : Option Addr) (n c : Nat) (k : Int) (er : Value) (R : World → Prop) (w : World) (h : Calls Tryd.prog 20 #[r, .slice so n c, .int .i64 n] w fun e w' => e = .returned (.tuple #[.int .i64 k, er]) ∧ R w') :
    Calls Tryd.prog 19 #[r, .slice so n c] w fun e w' => e = .returned (.tuple #[.int .i64 k, er]) ∧ R w' := by
  have H := hid h
  clear h
  go_enter Tryd.func19, Tryd.ntmps19
  go_wp2_with (go_at_call 20; refine H.out.mono ?_; rintro e w' ⟨rfl, hR⟩)
  go_ret2
  exact ⟨rfl, hR⟩

set_option maxHeartbeats 400000 in
theorem readBody_zero (r : Value) (w : World) :
    Calls Tryd.prog 18 #[r, .int .i64 0] w fun e w' => e = .returned (.tuple #[.slice (some ⟨w.heap.size, 0, none⟩) 0 0, .nilIface]) ∧ w' = w.alloc (.cells #[] 5) := by
  have hmk : ∀ w, (Instr.makeSlice 22 (.int .i64 0) (.int .i64 0)).run Tryd.prog w = .ok (.slice (some ⟨w.heap.size, 0, none⟩) 0 0) (w.alloc (.cells #[] 5)) := fun _ => by kernel_rfl
  go_enter Tryd.func18, Tryd.ntmps18
  go_wp2_with (go_at_call 19; refine (readFull_of _ _ _ _ _ _ _ _ (ral_zero _ _ _ _)).mono ?_; rintro e w' ⟨rfl, rfl⟩)
  go_ret2
  exact ⟨rfl, rfl⟩

set_option maxHeartbeats 400000 in
theorem readBody_ok (rb : Nat) (so : Option Addr) (fb : Nat) (fs : List Int) (i sz : Nat) (w : World) (hF : Feed w rb so fb fs i) (hs : i + sz ≤ fs.length) (hsz : sz ≤ 65536) :
    Calls Tryd.prog 18 #[.iface 42 (.pointer (some ⟨rb, 0, none⟩)), .int .i64 sz] w fun e w' => e = .returned (.tuple #[.slice (some ⟨w.heap.size, 0, none⟩) sz sz, .nilIface]) ∧
      w'.heap[w.heap.size]? = some (.cells (bytesA ((fs.drop i).take sz)) 5 (0, 0)) ∧ Feed w' rb so fb fs (i + sz) ∧ Kb w.heap.size rb w w' ∧ w.heap.size < w'.heap.size := by
  have hlt := hF.lt
  obtain ⟨⟨pr, hrd⟩, hle, hlen, hpos⟩ := hF
  by_cases h0 : sz = 0
  · subst h0
    refine (readBody_zero _ w).mono ?_
    rintro e w' ⟨rfl, rfl⟩
    have hk : Kb w.heap.size rb w (w.alloc (.cells #[] 5)) := (Kb.refl _ _ _).alloc (Nat.le_refl _) _
    have hb : Below w.heap.size w (w.alloc (.cells #[] 5)) := (Below.refl _ _).alloc (Nat.le_refl _) _
    refine ⟨rfl, by simpa [bytesA] using heap_new w (.cells #[] 5), ⟨⟨pr, (hb.block _ hlt).trans hrd⟩, hle, hlen, fun hp => ?_⟩, hk, by simp⟩
    obtain ⟨h1, h2, h3⟩ := hpos hp
    exact ⟨h1, h2, (hb.block _ (Array.getElem?_eq_some_iff.1 h3).1).trans h3⟩
  · obtain ⟨rfl, hne, hfb⟩ := hpos (by omega)
    have hfl := (Array.getElem?_eq_some_iff.1 hfb).1
    have hb : Below w.heap.size w (w.alloc (.cells (List.replicate sz (Value.int .u8 0)).toArray 5)) := (Below.refl _ _).alloc (Nat.le_refl _) _
    have R := ral_ok rb fb fs.length fs.length i pr w.heap.size sz (List.replicate sz (.int .u8 0)) (part fs i sz) (w.alloc (.cells (List.replicate sz (Value.int .u8 0)).toArray 5))
      ((hb.block _ hlt).trans hrd) hs (Nat.le_refl _) hlen (by omega) hsz (heap_new _ _) (by simp) (by rw [part_length]; omega) (part_at ((hb.block _ hfl).trans hfb)) (part_one _ _ _) hlt hne
    have H := hid R
    clear R
    have hmk := run_make_row' (P := Tryd.prog) 22 5 (.int .u8 0) 1 Tryd.underlying22 Tryd.info5 rfl .i64 .i64 sz (by omega) (by omega)
    rw [made_list] at hmk
    have hsp : Hid (splice (List.replicate sz (Value.int .u8 0)) 0 (part fs i sz) = part fs i sz) := splice_all _ _ (by rw [part_length]; simp; omega)
    have HF := hid hfb
    clear hrd hfb hpos
    go_enter Tryd.func18, Tryd.ntmps18
    go_wp2_with (go_at_call 19; refine (readFull_of _ _ _ _ _ _ _ _ H.out).mono ?_; rintro e w' ⟨rfl, g1, g2, g3⟩)
    go_ret2
    refine ⟨rfl, ?_, ⟨⟨-1, g1⟩, hs, hlen, fun _ => ⟨rfl, hne, ?_⟩⟩, ?_, ?_⟩
    · rw [g2, hsp.out]; rfl
    · rw [g3.block fb hfl hne, hb.block fb hfl]; exact HF.out
    · exact (Kb.ofBelow hb).trans g3
    · have := g3.size; simp at this; omega

theorem Kb.base {B r s : Nat} {w w' : World} (h : Kb s r w w') (hs : B ≤ s) (hr : B ≤ r) : Below B w w' := ⟨h.os, h.tape, h.output, h.size, fun k hk => h.block k (by omega) (by omega)⟩

set_option maxHeartbeats 400000 in
theorem readBody_err (B : Nat) (a0 a1 : Addr) (rb : Nat) (so : Option Addr) (fb : Nat) (fs : List Int) (i sz : Nat) (w : World) (hF : Feed w rb so fb fs i) (hE : Errs B a0 a1 w) (hB : B ≤ rb) (hs : fs.length < i + sz) (hsz : sz ≤ 65536) :
    Calls Tryd.prog 18 #[.iface 42 (.pointer (some ⟨rb, 0, none⟩)), .int .i64 sz] w fun e w' => e = .returned (.tuple #[.slice none 0 0, .iface 52 (.pointer (some a1))]) ∧
      Feed w' rb so fb fs fs.length ∧ Kb w.heap.size rb w w' ∧ w.heap.size < w'.heap.size := by
  have hlt := hF.lt
  obtain ⟨⟨pr, hrd⟩, hle, hlen, hpos⟩ := hF
  have hb : Below w.heap.size w (w.alloc (.cells (List.replicate sz (Value.int .u8 0)).toArray 5)) := (Below.refl _ _).alloc (Nat.le_refl _) _
  have hE1 := hE.below (hb.mono (by omega))
  have hmk := run_make_row' (P := Tryd.prog) 22 5 (.int .u8 0) 1 Tryd.underlying22 Tryd.info5 rfl .i64 .i64 sz (by omega) (by omega)
  rw [made_list] at hmk
  have htwo := hE.two
  by_cases h0 : i = fs.length
  · subst h0
    have R := ral_eof rb so fs.length fs.length fs.length pr w.heap.size sz (.pointer (some a0)) (w.alloc (.cells (List.replicate sz (Value.int .u8 0)).toArray 5)) ((hb.block _ hlt).trans hrd) hE1.g0 (Nat.le_refl _) hlen (by omega) hsz
    have H := hid R
    have HF : Hid (Feed (w.alloc (.cells (List.replicate sz (Value.int .u8 0)).toArray 5)) rb so fb fs fs.length) := by
      refine ⟨⟨pr, (hb.block _ hlt).trans hrd⟩, hle, hlen, fun hp => ?_⟩
      obtain ⟨h1, h2, h3⟩ := hpos hp
      exact ⟨h1, h2, (hb.block _ (Array.getElem?_eq_some_iff.1 h3).1).trans h3⟩
    have heq := eql_same a0
    have g0 := hE.g0
    have g1 := hE.g1
    have s0 : 0 < w.heap.size := by omega
    have s1 : 1 < w.heap.size := by omega
    clear R hrd hpos hE hE1
    go_enter Tryd.func18, Tryd.ntmps18
    go_wp2_with (go_at_call 19; refine (readFull_of _ _ _ _ _ _ _ _ H.out).mono ?_; rintro e w' ⟨rfl, q, rfl⟩)
    go_ret2
    refine ⟨rfl, ?_, (Kb.ofBelow hb).drewN _, ?_⟩
    · exact ⟨HF.out.rd, HF.out.le, HF.out.len, HF.out.pos⟩
    · show w.heap.size < (w.alloc _).heap.size
      simp
  · obtain ⟨rfl, hne, hfb⟩ := hpos (by omega)
    have hfl := (Array.getElem?_eq_some_iff.1 hfb).1
    have R := ral_short rb fb fs.length fs.length i pr w.heap.size sz (List.replicate sz (.int .u8 0)) (part fs i sz) a0 (.pointer (some a1)) (w.alloc (.cells (List.replicate sz (Value.int .u8 0)).toArray 5))
      ((hb.block _ hlt).trans hrd) (by omega) hs (Nat.le_refl _) hlen hsz (heap_new _ _) (by simp) (by rw [part_length]; omega) (part_at ((hb.block _ hfl).trans hfb)) (part_one _ _ _) hlt hne hE1.g0 hE1.g1 (by omega)
    have H := hid R
    have HF := hid hfb
    have HE := hid hE1
    clear R hrd hpos hE hE1 hfb
    go_enter Tryd.func18, Tryd.ntmps18
    go_wp2_with (go_at_call 19; refine (readFull_of _ _ _ _ _ _ _ _ H.out).mono ?_; rintro e w' ⟨rfl, g1, g3⟩; have hE2 := HE.out.below (g3.base (by omega) hB); have q0 := hE2.g0; have q1 := hE2.g1; obtain ⟨bq, heq⟩ := hE2.eql; cases bq)
    all_goals
      go_ret2
      refine ⟨rfl, ⟨⟨-1, g1⟩, Nat.le_refl _, hlen, fun _ => ⟨rfl, hne, ?_⟩⟩, (Kb.ofBelow hb).trans g3, ?_⟩
      · rw [g3.block fb hfl hne, hb.block fb hfl]; exact HF.out
      · have := g3.size; simp at this; omega
end Go.Proofs.Qxb6615591aDoor
