/-
  Seat b6615619a. sameStrsB1, sameSubjB1, sameModelSubjB1, coveredUserB1, coveredGroupB1.
-/
import Derived.Test.Qxb6615619aRD
namespace Go.Proofs.Qxb6615619aR
open Go.RowKit

set_option maxHeartbeats 1000000 in
theorem sameStrs (a1 a2 : Option Addr) (n1 n2 c1 c2 : Nat) (d : Option (List ByteArray)) (w : World) (h1 : ByAt w (.slice a1 n1 c1) d) (h2 : ByAt w (.slice a2 n2 c2) d) (hl : lenBy d) :
    Calls Try.prog 32 #[.slice a1 n1 c1, .slice a2 n2 c2] w fun e w' => e = .returned (.bool true) ∧ ∃ n, w' = w.drewN n := by
  obtain ⟨b1, k1, e1, i1, g1⟩ := h1.form
  obtain ⟨b2, k2, e2, i2, g2⟩ := h2.form
  cases e1
  cases e2
  have hln : (strs d).length ≤ 1048576 := by
    cases d with
    | none => simp [strs]
    | some ss => exact (hl ss rfl).1
  clear h1 h2 hl
  have q1 := fun w => Lib.run_eql_slice_nil (P := Try.prog) w 38 9 a1 (strs d).length c1 0 0 Try.underlying38
  have q2 := fun w => Lib.run_eql_slice_nil (P := Try.prog) w 38 9 a2 (strs d).length c2 0 0 Try.underlying38
  rw [i1] at q1
  rw [i2] at q2
  clear i1 i2
  generalize d.isNone = nn at q1 q2
  generalize strs d = ss at *
  go_enter Try.func32, Try.ntmps32
  go_wp2
  go_loopw [5] (fun i wr => ∃ k n : Nat, k ≤ ss.length ∧ i = .int .i64 k ∧ wr = w.drewN n) (fun i _ => ss.length - (intOf i).toNat)
  case atStart => exact ⟨0, 0, Nat.zero_le _, rfl, rfl⟩
  case round =>
    obtain ⟨k, n, hk, rfl, rfl⟩ := hrel
    by_cases hlt : k < ss.length
    · obtain ⟨x1, o1, rfl, _, f1⟩ := g1 (by omega)
      obtain ⟨x2, o2, rfl, _, f2⟩ := g2 (by omega)
      have r1 := f1 k hlt
      have r2 := f2 k hlt
      clear f1 f2 g1 g2
      have hI : (k : Int) < (ss.length : Int) := by omega
      go_wp2
      go_quiet (fail)
      go_wp2
      exact ⟨⟨k + 1, n + nq, by omega, by go_num, rfl⟩, by simp [intOf]; omega⟩
    · go_wp2
      go_ret
      exact ⟨rfl, n, rfl⟩

theorem below_drewN {B n : Nat} {w w1 : World} (h : Below B w w1) : Below B w (w1.drewN n) := ⟨h.os, h.tape, h.output, h.size, h.block⟩

set_option maxHeartbeats 1000000 in
theorem sameSubj (nm ig : ByteArray) (a1 a2 : Option Addr) (n1 n2 c1 c2 : Nat) (d : Option (List ByteArray)) (w : World) (h1 : ByAt w (.slice a1 n1 c1) d) (h2 : ByAt w (.slice a2 n2 c2) d) (hl : lenBy d) :
    Calls Try.prog 24 #[.agg #[.string nm, .string ig, .slice a1 n1 c1], .agg #[.string nm, .string ig, .slice a2 n2 c2]] w fun e w' => e = .returned (.bool true) ∧ Below w.heap.size w w' := by
  have hB : Below w.heap.size w ((w.alloc (.cells #[.string nm, .string ig, .slice a1 n1 c1] 45)).alloc (.cells #[.string nm, .string ig, .slice a2 n2 c2] 45)) := ((Below.refl _ _).alloc (Nat.le_refl _) _).alloc (by simp) _
  have HC := hid (sameStrs a1 a2 n1 n2 c1 c2 d _ (h1.below hB (Nat.le_refl _)) (h2.below hB (Nat.le_refl _)) hl)
  have HB := hid hB
  clear h1 h2 hl hB
  go_enter Try.func24, Try.ntmps24
  go_wp2_with (go_at_call 32; refine HC.out.mono ?_; rintro e w1 ⟨rfl, q, hw⟩; subst hw)
  go_ret
  exact ⟨rfl, below_drewN HB.out⟩

set_option maxHeartbeats 1000000 in
theorem sameModel (nm ig : ByteArray) (a1 a2 : Option Addr) (n1 n2 c1 c2 : Nat) (d : Option (List ByteArray)) (w : World) (h1 : ByAt w (.slice a1 n1 c1) d) (h2 : ByAt w (.slice a2 n2 c2) d) (hl : lenBy d) :
    Calls Try.prog 23 #[.agg #[.string nm, .string ig, .slice a1 n1 c1], .agg #[.string nm, .string ig, .slice a2 n2 c2]] w fun e w' => e = .returned (.bool true) ∧ Below w.heap.size w w' := by
  have hB : Below w.heap.size w ((w.alloc (.cells #[.string nm, .string ig, .slice a1 n1 c1] 45)).alloc (.cells #[.string nm, .string ig, .slice a2 n2 c2] 40)) := ((Below.refl _ _).alloc (Nat.le_refl _) _).alloc (by simp) _
  have HC := hid (sameStrs a1 a2 n1 n2 c1 c2 d _ (h1.below hB (Nat.le_refl _)) (h2.below hB (Nat.le_refl _)) hl)
  have HB := hid hB
  clear h1 h2 hl hB
  go_enter Try.func23, Try.ntmps23
  go_wp2_with (go_at_call 32; refine HC.out.mono ?_; rintro e w1 ⟨rfl, q, hw⟩; subst hw)
  go_ret
  exact ⟨rfl, below_drewN HB.out⟩

/-- Does the grantee cover the user? As the model has it. -/
def hitU (n g : ByteArray) (h : Gr) : Bool :=
  if h.grp then !g.toList.isEmpty && (h.ing.toList.isEmpty && h.name.toList == g.toList) else h.name.toList == n.toList && (h.ing.toList == g.toList || (!g.toList.isEmpty && h.ing.toList.isEmpty))
def hitG (n : ByteArray) (h : Gr) : Bool := h.grp && (h.ing.toList.isEmpty && h.name.toList == n.toList)
def NoneH (gs : List Gr) (p : Gr → Bool) (k : Nat) : Prop := ∀ i, (h : i < gs.length) → i < k → p gs[i] = false
theorem NoneH.next {gs : List Gr} {p : Gr → Bool} {k : Nat} (h : NoneH gs p k) (hk : k < gs.length) (ho : p gs[k] = false) : NoneH gs p (k + 1) := fun i hi hlt => by
  by_cases e : i = k
  · subst e; exact ho
  · exact h i hi (by omega)
theorem any_no {gs : List Gr} {p : Gr → Bool} (h : NoneH gs p gs.length) : gs.any p = false := by
  rw [List.any_eq_false]
  intro x hx
  obtain ⟨i, hi, rfl⟩ := List.mem_iff_getElem.1 hx
  simp [h i hi hi]
theorem any_yes {gs : List Gr} {p : Gr → Bool} {k : Nat} (hk : k < gs.length) (h : p gs[k] = true) : gs.any p = true := by
  rw [List.any_eq_true]
  exact ⟨_, List.getElem_mem hk, h⟩
theorem below_box {w wr : World} (h : Below w.heap.size w wr) (cs : Array Value) (t : TypeId) : Below w.heap.size w (wr.alloc (.cells cs t)) := h.alloc h.size _
theorem grs_below {w w' : World} {so : Option Addr} {gs : List Gr} (h : Gl w so gs) (hb : Below w.heap.size w w') : Gl w' so gs :=
  ⟨fun hp => by
    obtain ⟨b, off, rfl, hlt, hg⟩ := h.pos hp
    exact ⟨b, off, rfl, Nat.lt_of_lt_of_le hlt hb.size, fun i hi => by
      obtain ⟨h0, h1, h2⟩ := hg i hi
      exact ⟨(hb.cell (p := ⟨b, off + i * 3, none⟩) hlt).trans h0, (hb.cell (p := ⟨b, off + i * 3 + 1, none⟩) hlt).trans h1, (hb.cell (p := ⟨b, off + i * 3 + 2, none⟩) hlt).trans h2⟩⟩⟩

set_option maxHeartbeats 2000000 in
theorem coveredUser (n g : ByteArray) (ba : Option Addr) (bn bc : Nat) (sh : Option Addr) (ch : Nat) (gs : List Gr) (w : World) (hG : Gl w sh gs) (hl : gs.length ≤ 1048576) :
    Calls Try.prog 22 #[.agg #[.string n, .string g, .slice ba bn bc], .slice sh gs.length ch] w fun e w' => e = .returned (.bool (gs.any (hitU n g))) ∧ Below w.heap.size w w' := by
  have hB : Below w.heap.size w (w.alloc (.cells #[.string n, .string g, .slice ba bn bc] 40)) := (Below.refl _ _).alloc (Nat.le_refl _) _
  have HG := hid hG
  have HB0 := hid hB
  clear hG hB
  go_enter Try.func22, Try.ntmps22
  go_wp2
  go_loopw [5] (fun i wr => ∃ (k : Nat), k ≤ gs.length ∧ i = .int .i64 k ∧ Below (w.heap.size + 1) (w.alloc (.cells #[.string n, .string g, .slice ba bn bc] 40)) wr ∧ NoneH gs (hitU n g) k) (fun i _ => gs.length - (intOf i).toNat)
  case atStart => exact ⟨0, Nat.zero_le _, rfl, Below.refl _ _, fun _ _ h => absurd h (Nat.not_lt_zero _)⟩
  case round =>
    obtain ⟨k, hk, rfl, hbel, hno⟩ := hrel
    have NO := hid hno
    have HB : Hid (Below w.heap.size w wr) := hid (HB0.out.trans (hbel.mono (by omega)))
    have x0 := (hbel.cell (p := ⟨w.heap.size, 0, none⟩) (by simp)).trans (World.cell?_alloc_at _ _ _ _ rfl)
    have x1 := (hbel.cell (p := ⟨w.heap.size, 1, none⟩) (by simp)).trans (World.cell?_alloc_at _ _ _ _ rfl)
    simp at x0 x1
    have hsz : w.heap.size < wr.heap.size := by have := hbel.size; simp at this; omega
    have HBL := hid hbel
    clear hno hbel
    by_cases hlt : k < gs.length
    · obtain ⟨b, off, rfl, hb1, hs⟩ := (grs_below HG.out HB.out).pos (by omega)
      obtain ⟨c0, c1, c2⟩ := hs k hlt
      have hI : (k : Int) < (gs.length : Int) := by omega
      clear hs
      cases f1 : gs[k].grp with
      | true =>
        have F1 := hid f1
        rw [f1] at c1
        clear f1
        cases g1 : g.toList.isEmpty with
        | true =>
          have G1 := hid g1
          go_wp2
          exact ⟨⟨k + 1, by omega, by go_num, HBL.out.alloc (by omega) _, NO.out.next hlt (by simp only [hitU, F1.out, G1.out]; rfl)⟩, by simp [intOf]; omega⟩
        | false =>
          have G1 := hid g1
          cases g2 : gs[k].ing.toList.isEmpty with
          | true =>
            have G2 := hid g2
            cases g3 : (gs[k].name.toList == g.toList) with
            | true =>
              have G3 := hid g3
              go_wp2
              go_ret
              exact ⟨by rw [any_yes hlt (by simp only [hitU, F1.out, G1.out, G2.out, G3.out]; rfl)]; rfl, below_box HB.out _ _⟩
            | false =>
              have G3 := hid g3
              go_wp2
              exact ⟨⟨k + 1, by omega, by go_num, HBL.out.alloc (by omega) _, NO.out.next hlt (by simp only [hitU, F1.out, G1.out, G2.out, G3.out]; rfl)⟩, by simp [intOf]; omega⟩
          | false =>
            have G2 := hid g2
            go_wp2
            exact ⟨⟨k + 1, by omega, by go_num, HBL.out.alloc (by omega) _, NO.out.next hlt (by simp only [hitU, F1.out, G1.out, G2.out]; rfl)⟩, by simp [intOf]; omega⟩
      | false =>
        have F1 := hid f1
        rw [f1] at c1
        clear f1
        cases g3 : (gs[k].name.toList == n.toList) with
        | true =>
          have G3 := hid g3
          cases g4 : (gs[k].ing.toList == g.toList) with
          | true =>
            have G4 := hid g4
            go_wp2
            go_ret
            exact ⟨by rw [any_yes hlt (by simp only [hitU, F1.out, G3.out, G4.out]; rfl)]; rfl, below_box HB.out _ _⟩
          | false =>
            have G4 := hid g4
            cases g1 : g.toList.isEmpty with
            | true =>
              have G1 := hid g1
              go_wp2
              exact ⟨⟨k + 1, by omega, by go_num, HBL.out.alloc (by omega) _, NO.out.next hlt (by simp only [hitU, F1.out, G3.out, G4.out, G1.out]; rfl)⟩, by simp [intOf]; omega⟩
            | false =>
              have G1 := hid g1
              cases g2 : gs[k].ing.toList.isEmpty with
              | true =>
                have G2 := hid g2
                go_wp2
                go_ret
                exact ⟨by rw [any_yes hlt (by simp only [hitU, F1.out, G3.out, G4.out, G1.out, G2.out]; rfl)]; rfl, below_box HB.out _ _⟩
              | false =>
                have G2 := hid g2
                go_wp2
                exact ⟨⟨k + 1, by omega, by go_num, HBL.out.alloc (by omega) _, NO.out.next hlt (by simp only [hitU, F1.out, G3.out, G4.out, G1.out, G2.out]; rfl)⟩, by simp [intOf]; omega⟩
        | false =>
          have G3 := hid g3
          go_wp2
          exact ⟨⟨k + 1, by omega, by go_num, HBL.out.alloc (by omega) _, NO.out.next hlt (by simp only [hitU, F1.out, G3.out]; rfl)⟩, by simp [intOf]; omega⟩
    · obtain rfl : k = gs.length := by omega
      go_wp2
      go_ret
      exact ⟨by rw [any_no NO.out]; rfl, HB.out⟩

set_option maxHeartbeats 2000000 in
theorem coveredGroup (n g : ByteArray) (ba : Option Addr) (bn bc : Nat) (sh : Option Addr) (ch : Nat) (gs : List Gr) (w : World) (hG : Gl w sh gs) (hl : gs.length ≤ 1048576) :
    Calls Try.prog 21 #[.agg #[.string n, .string g, .slice ba bn bc], .slice sh gs.length ch] w fun e w' => e = .returned (.bool (gs.any (hitG n))) ∧ Below w.heap.size w w' := by
  have hB : Below w.heap.size w (w.alloc (.cells #[.string n, .string g, .slice ba bn bc] 40)) := (Below.refl _ _).alloc (Nat.le_refl _) _
  have HG := hid (grs_below hG hB)
  have HB0 := hid hB
  clear hG hB
  go_enter Try.func21, Try.ntmps21
  go_wp2
  go_loopw [5] (fun i wr => ∃ (k q : Nat), k ≤ gs.length ∧ i = .int .i64 k ∧ wr = (w.alloc (.cells #[.string n, .string g, .slice ba bn bc] 40)).drewN q ∧ NoneH gs (hitG n) k) (fun i _ => gs.length - (intOf i).toNat)
  case atStart => exact ⟨0, 0, Nat.zero_le _, rfl, rfl, fun _ _ h => absurd h (Nat.not_lt_zero _)⟩
  case round =>
    obtain ⟨k, q, hk, rfl, rfl, hno⟩ := hrel
    have NO := hid hno
    clear hno
    by_cases hlt : k < gs.length
    · obtain ⟨b, off, rfl, hb1, hs⟩ := HG.out.pos (by omega)
      obtain ⟨c0, c1, c2⟩ := hs k hlt
      have hI : (k : Int) < (gs.length : Int) := by omega
      clear hs
      cases f1 : gs[k].grp with
      | true =>
        have F1 := hid f1
        rw [f1] at c1
        clear f1
        cases g2 : gs[k].ing.toList.isEmpty with
        | true =>
          have G2 := hid g2
          cases g3 : (gs[k].name.toList == n.toList) with
          | true =>
            have G3 := hid g3
            go_wp2
            go_quiet (fail)
            go_wp2
            go_ret
            exact ⟨by rw [any_yes hlt (by simp only [hitG, F1.out, G2.out, G3.out]; rfl)]; rfl, below_drewN (below_drewN HB0.out)⟩
          | false =>
            have G3 := hid g3
            go_wp2
            go_quiet (fail)
            go_wp2
            exact ⟨⟨k + 1, _, by omega, by go_num, rfl, NO.out.next hlt (by simp only [hitG, F1.out, G2.out, G3.out]; rfl)⟩, by simp [intOf]; omega⟩
        | false =>
          have G2 := hid g2
          go_wp2
          go_quiet (fail)
          go_wp2
          exact ⟨⟨k + 1, _, by omega, by go_num, rfl, NO.out.next hlt (by simp only [hitG, F1.out, G2.out]; rfl)⟩, by simp [intOf]; omega⟩
      | false =>
        have F1 := hid f1
        rw [f1] at c1
        clear f1
        go_wp2
        go_quiet (fail)
        go_wp2
        exact ⟨⟨k + 1, _, by omega, by go_num, rfl, NO.out.next hlt (by simp [hitG, F1.out])⟩, by simp [intOf]; omega⟩
    · obtain rfl : k = gs.length := by omega
      go_wp2
      go_ret
      exact ⟨by rw [any_no NO.out]; rfl, below_drewN HB0.out⟩
end Go.Proofs.Qxb6615619aR
