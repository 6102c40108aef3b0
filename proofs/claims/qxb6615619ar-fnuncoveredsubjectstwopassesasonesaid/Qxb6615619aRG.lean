/-
  Seat b6615619a. slices.DeleteFunc on subjects.
-/
import Derived.Test.Qxb6615619aRF
namespace Go.Proofs.Qxb6615619aR
open Go.RowKit

/-- What is kept of the first j. -/
def kept (els : List El) (p : El → Bool) (j : Nat) : List El := (els.take j).filter fun e => !p e
theorem kept_le (els : List El) (p : El → Bool) (j : Nat) : (kept els p j).length ≤ j := Nat.le_trans (List.length_filter_le _ _) (by simp; omega)
theorem kept_keep {els : List El} {p : El → Bool} {j : Nat} (hj : j < els.length) (h : p els[j] = false) : kept els p (j + 1) = kept els p j ++ [els[j]] := by
  unfold kept
  rw [List.take_succ_eq_append_getElem hj, List.filter_append]
  simp [h]
theorem kept_drop {els : List El} {p : El → Bool} {j : Nat} (hj : j < els.length) (h : p els[j] = true) : kept els p (j + 1) = kept els p j := by
  unfold kept
  rw [List.take_succ_eq_append_getElem hj, List.filter_append]
  simp [h]
theorem kept_full (els : List El) (p : El → Bool) : kept els p els.length = els.filter fun e => !p e := by
  unfold kept
  rw [List.take_length]
theorem kept_none {els : List El} {p : El → Bool} {k : Nat} (h : NoneP els p k) (hk : k ≤ els.length) : kept els p k = els.take k := by
  unfold kept
  rw [List.filter_eq_self]
  intro e he
  obtain ⟨i, hi, rfl⟩ := List.mem_iff_getElem.1 he
  simp at hi
  rw [List.getElem_take, h i (by omega) (by omega)]
  rfl
/-- The row after j rounds. -/
def rowL (els : List El) (p : El → Bool) (rest : List T3) (j : Nat) : List T3 := (kept els p j ++ els.drop (kept els p j).length).map eT ++ rest
theorem rowL_length (els : List El) (p : El → Bool) (rest : List T3) (j : Nat) (h : j ≤ els.length) : (rowL els p rest j).length = els.length + rest.length := by
  have := kept_le els p j
  simp [rowL]; omega
theorem rowL_at (els : List El) (p : El → Bool) (rest : List T3) (j : Nat) (h : j < els.length) : (rowL els p rest j)[j]'(by rw [rowL_length _ _ _ _ (by omega)]; omega) = eT els[j] := by
  have hk := kept_le els p j
  apply Option.some.inj
  rw [← List.getElem?_eq_getElem, rowL, List.getElem?_append_left (by simp; omega), List.getElem?_map, List.getElem?_append_right hk, List.getElem?_drop, show (kept els p j).length + (j - (kept els p j).length) = j by omega, List.getElem?_eq_getElem h]
  rfl
theorem rowL_keep {els : List El} {p : El → Bool} (rest : List T3) {j : Nat} (hj : j < els.length) (h : p els[j] = false) : (rowL els p rest j).set (kept els p j).length (eT els[j]) = rowL els p rest (j + 1) := by
  have hk := kept_le els p j
  unfold rowL
  rw [kept_keep hj h, List.set_append_left _ _ (by simp; omega), ← List.map_set, List.set_append_right _ _ (Nat.le_refl _), Nat.sub_self]
  obtain ⟨x, xs, hx⟩ : ∃ x xs, els.drop (kept els p j).length = x :: xs := by
    rw [List.drop_eq_getElem_cons (by omega)]
    exact ⟨_, _, rfl⟩
  have hx2 : els.drop ((kept els p j) ++ [els[j]]).length = xs := by
    rw [List.length_append, List.length_singleton, ← List.drop_drop, hx]
    rfl
  rw [hx, hx2]
  simp
theorem rowL_drop {els : List El} {p : El → Bool} (rest : List T3) {j : Nat} (hj : j < els.length) (h : p els[j] = true) : rowL els p rest j = rowL els p rest (j + 1) := by
  unfold rowL
  rw [kept_drop hj h]
/-- The row at the end. -/
def rowE (els : List El) (p : El → Bool) (rest : List T3) : List T3 := (els.filter fun e => !p e).map eT ++ (List.replicate (els.length - (els.filter fun e => !p e).length) eZ ++ rest)
theorem rowL_clear (els : List El) (p : El → Bool) (rest : List T3) : (rowL els p rest els.length).take (kept els p els.length).length ++ (List.replicate (els.length - (kept els p els.length).length) eZ ++ (rowL els p rest els.length).drop ((kept els p els.length).length + (els.length - (kept els p els.length).length))) = rowE els p rest := by
  have hk := kept_le els p els.length
  unfold rowE
  rw [← kept_full]
  have e1 : (rowL els p rest els.length).take (kept els p els.length).length = (kept els p els.length).map eT := by
    unfold rowL
    rw [List.map_append, List.append_assoc, List.take_append_of_le_length (by simp), List.take_of_length_le (by simp)]
  have e2 : (rowL els p rest els.length).drop ((kept els p els.length).length + (els.length - (kept els p els.length).length)) = rest := by
    unfold rowL
    rw [List.drop_append_of_le_length (by simp), List.drop_eq_nil_of_le (by simp)]
    rfl
  rw [e1, e2]
theorem rowE_none (els : List El) (p : El → Bool) (rest : List T3) (h : ∀ x ∈ els, p x = false) : rowE els p rest = els.map eT ++ rest ∧ (els.filter fun e => !p e) = els := by
  have : (els.filter fun e => !p e) = els := by
    rw [List.filter_eq_self]
    intro e he
    simp [h e he]
  refine ⟨?_, this⟩
  unfold rowE
  rw [this]
  simp

set_option maxHeartbeats 600000 in
theorem delSubU (p8 p5 ph hb c : Nat) (gs : List Gr) (so : Option Addr) (db cl : Nat) (els : List El) (rest : List T3) (w : World) (hE : Env w p8 p5 ph hb c gs) (hBl : Blk w so db els rest) (hcl : cl = els.length + rest.length)
    (n8 : p8 ≠ db) (n5 : p5 ≠ db) (nh : ph ≠ db) (nb : hb ≠ db) (hl : els.length ≤ 1048576) (hr : rest.length ≤ 1048576) :
    Calls Try.prog 28 #[.slice so els.length cl, .func (.func 29) #[] #[.pointer (some ⟨p8, 0, none⟩)]] w fun e w' => e = .returned (.slice so (els.filter fun e => !pU gs e).length cl) ∧
      (∀ a, so = some a → w'.heap[db]? = some (.cells (rowA (rowE els (pU gs) rest)) 45 (0, 0))) ∧ Kb w.heap.size db w w' := by
  have hS : 0 < els.length → ∃ b off, so = some ⟨b, off, none⟩ ∧ b < w.heap.size ∧ SubAt w b off els := fun hp => by
    cases hso : so with
    | none => have := (hBl.nil hso).1; rw [this] at hp; simp at hp
    | some a =>
      obtain ⟨rfl, h2⟩ := hBl.some a hso
      refine ⟨db, 0, rfl, (Array.getElem?_eq_some_iff.1 h2).1, fun i hi => ?_⟩
      have := row_cell h2 i (by simp; omega)
      rw [Nat.zero_add]
      rw [List.getElem_append_left (by simpa using hi), List.getElem_map] at this
      exact this
  have HI := hid (idxSubU p8 p5 ph hb c gs so cl els w hE hS hl)
  have HE := hid hE
  have HBL := hid hBl
  have HCL := hid hcl
  clear hE hS hBl hcl
  go_enter Try.func28, Try.ntmps28
  go_wp2_with fail
  refine HI.out.mono ?_
  rintro e w0 ⟨hfr, hb0⟩
  rcases hfr with ⟨rfl, hall⟩ | ⟨k0, hk0, rfl, hpk, hno⟩
  · -- nothing is struck
    have HA := hid (rowE_none els (pU gs) rest hall)
    have HB0 := hid hb0
    clear hall hb0
    go_wp2
    go_ret
    refine ⟨by rw [HA.out.2]; rfl, fun a ha => ?_, Kb.ofBelow HB0.out⟩
    obtain ⟨rfl, h2⟩ := HBL.out.some a ha
    rw [HA.out.1, HB0.out.block db (Array.getElem?_eq_some_iff.1 h2).1]
    exact h2
  · obtain ⟨a, ha⟩ : ∃ a, so = some a := by
      cases hso : so with
      | none => have := (HBL.out.nil hso).1; rw [this] at hk0; simp at hk0
      | some a => exact ⟨a, rfl⟩
    obtain ⟨hda, h2⟩ := HBL.out.some a ha
    subst hda
    subst ha
    have hdl : db < w.heap.size := (Array.getElem?_eq_some_iff.1 h2).1
    have hk1 : kept els (pU gs) (k0 + 1) = els.take k0 := by rw [kept_drop hk0 hpk, kept_none hno (by omega)]
    have hrow0 : w0.heap[db]? = some (.cells (rowA (rowL els (pU gs) rest (k0 + 1))) 45 (0, 0)) := by
      rw [hb0.block db hdl, h2]
      unfold rowL
      rw [hk1, List.length_take, show min k0 els.length = k0 by omega, List.take_append_drop]
    have hkl : (kept els (pU gs) (k0 + 1)).length = k0 := by rw [hk1]; simp; omega
    have R0 := hid hrow0
    have KL := hid hkl
    have HB0 := hid hb0
    clear hrow0 hkl hk1 h2 hpk hno hb0 HBL
    have hne : ((k0 : Int) == -1) = false := beq_eq_false_iff_ne.2 (by omega)
    go_wp2
    go_loopw [5, 6] (fun s5 s6 wr => ∃ (i j : Nat), s5 = .int .i64 i ∧ s6 = .int .i64 j ∧ j ≤ els.length ∧ i < j ∧ Hid (i = (kept els (pU gs) j).length) ∧ Hid (wr.heap[db]? = some (.cells (rowA (rowL els (pU gs) rest j)) 45 (0, 0))) ∧ Kb w.heap.size db w wr) (fun _ s6 _ => els.length - (intOf s6).toNat)
    case atStart => exact ⟨k0, k0 + 1, rfl, by go_num, hk0, by omega, KL.out.symm, R0.out, Kb.ofBelow HB0.out⟩
    case round =>
      obtain ⟨i, j, rfl, rfl, hj, hij, IK, ROW, hkb⟩ := hrel
      have KB := hid hkb
      have hEr := HE.out.kb hkb (Nat.le_refl _) n8 n5 nh nb
      clear hkb
      by_cases hlt : j < els.length
      · have hrl := rowL_length els (pU gs) rest j (by omega)
        obtain ⟨c0, c1, c2⟩ := row_cell ROW.out j (by omega)
        rw [rowL_at els (pU gs) rest j hlt] at c0 c1 c2
        simp only [eT] at c0 c1 c2
        have hdr : db < wr.heap.size := (Array.getElem?_eq_some_iff.1 ROW.out).1
        have hI : (j : Int) < (els.length : Int) := by omega
        have hI2 : (i : Int) < (els.length : Int) := by omega
        have hB1 := cellsEl els[j].name els[j].ing els[j].ba els[j].bn els[j].bc wr
        have HB1 := hid hB1
        have HC := hid (del_user p8 p5 ph hb c gs els[j].name els[j].ing els[j].ba els[j].bn els[j].bc _ (hEr.below hB1 (Nat.le_refl _)))
        clear hEr hB1
        cases hx : pU gs els[j] with
        | true =>
          have HX := hid hx
          unfold pU at hx
          rw [hx] at HC
          clear hx
          go_wp2_with (go_at_call 29; refine HC.out.mono ?_; rintro e w1 ⟨rfl, hb1⟩)
          refine ⟨⟨i, j + 1, rfl, by go_num, hlt, by omega, ?_, ?_, ?_⟩, by simp [intOf]; omega⟩
          · rw [kept_drop hlt HX.out]; exact IK
          · rw [← rowL_drop rest hlt HX.out, hb1.block db (by simp; omega), HB1.out.block db hdr]; exact ROW
          · exact KB.out.trans (Kb.ofBelow ((HB1.out.mono KB.out.size).trans (hb1.mono (by simp; have := KB.out.size; omega))))
        | false =>
          have HX := hid hx
          unfold pU at hx
          rw [hx] at HC
          clear hx
          go_wp2_with (go_at_call 29; refine HC.out.mono ?_; rintro e w1 ⟨rfl, hb1⟩; have ROW1 := hid ((hb1.block db (by simp; omega)).trans ((HB1.out.block db hdr).trans ROW.out)); obtain ⟨x, y, z, t0, t1, t2⟩ := row_some ROW1.out i (by omega); have tf := row_free ROW1.out; have b0 := (hb1.cell (p := ⟨wr.heap.size, 0, none⟩) (by simp)).trans (World.cell?_alloc_at _ _ _ _ rfl); have b1 := (hb1.cell (p := ⟨wr.heap.size, 1, none⟩) (by simp)).trans (World.cell?_alloc_at _ _ _ _ rfl); have b2 := (hb1.cell (p := ⟨wr.heap.size, 2, none⟩) (by simp)).trans (World.cell?_alloc_at _ _ _ _ rfl); simp at b0 b1 b2)
          refine ⟨⟨i + 1, j + 1, by go_num, by go_num, hlt, by omega, ?_, ?_, ?_⟩, by simp [intOf]; omega⟩
          · show i + 1 = _
            rw [kept_keep hlt HX.out, List.length_append, ← IK.out]; rfl
          · show _ = _
            rw [heap_set3 ROW1.out, rowA_set _ _ (by omega)]
            congr 3
            rw [← rowL_keep rest hlt HX.out, ← IK.out]
            rfl
          · exact kb_set3 (KB.out.trans (Kb.ofBelow ((HB1.out.mono KB.out.size).trans (hb1.mono (by simp; have := KB.out.size; omega))))) _ _ _ _
      · obtain rfl : j = els.length := by omega
        have hrl := rowL_length els (pU gs) rest els.length (Nat.le_refl _)
        have e1 : i ≤ els.length := by omega
        have e2 : ¬ cl = i := by rw [HCL.out]; omega
        have e3 : (i : Int) ≤ (els.length : Int) := by omega
        have e4 : (els.length : Int) ≤ (cl : Int) := by rw [HCL.out]; omega
        have hcr := fun ty => run_clear3 wr ty db i (els.length - i) (cl - i) _ ROW.out (by omega) (by omega)
        have FINAL := hid (rowL_clear els (pU gs) rest)
        have hrw : Hid ((wr.setRow db (rowA ((rowL els (pU gs) rest els.length).take i ++ (List.replicate (els.length - i) eZ ++ (rowL els (pU gs) rest els.length).drop (i + (els.length - i)))))).heap[db]? = some (.cells (rowA (rowE els (pU gs) rest)) 45 (0, 0))) := by
          show _ = _
          rw [setRow_heap wr db _ _ 45 _ ROW.out]
          congr 3
          rw [IK.out]
          exact FINAL.out
        generalize rowA ((rowL els (pU gs) rest els.length).take i ++ (List.replicate (els.length - i) eZ ++ (rowL els (pU gs) rest els.length).drop (i + (els.length - i)))) = RR at hcr hrw
        clear hEr
        go_wp2
        go_ret
        refine ⟨by rw [← kept_full, ← IK.out]; rfl, fun _ _ => hrw.out, ?_⟩
        exact KB.out.trans ⟨rfl, rfl, rfl, by simp [World.setRow], fun k hk hne => setRow_other wr db k _ hne⟩

set_option maxHeartbeats 600000 in
theorem delSubG (p8 p5 ph hb c : Nat) (gs : List Gr) (so : Option Addr) (db cl : Nat) (els : List El) (rest : List T3) (w : World) (hE : Env w p8 p5 ph hb c gs) (hBl : Blk w so db els rest) (hcl : cl = els.length + rest.length)
    (n8 : p8 ≠ db) (n5 : p5 ≠ db) (nh : ph ≠ db) (nb : hb ≠ db) (hl : els.length ≤ 1048576) (hr : rest.length ≤ 1048576) :
    Calls Try.prog 28 #[.slice so els.length cl, .func (.func 30) #[] #[.pointer (some ⟨p8, 0, none⟩)]] w fun e w' => e = .returned (.slice so (els.filter fun e => !pG gs e).length cl) ∧
      (∀ a, so = some a → w'.heap[db]? = some (.cells (rowA (rowE els (pG gs) rest)) 45 (0, 0))) ∧ Kb w.heap.size db w w' := by
  have hS : 0 < els.length → ∃ b off, so = some ⟨b, off, none⟩ ∧ b < w.heap.size ∧ SubAt w b off els := fun hp => by
    cases hso : so with
    | none => have := (hBl.nil hso).1; rw [this] at hp; simp at hp
    | some a =>
      obtain ⟨rfl, h2⟩ := hBl.some a hso
      refine ⟨db, 0, rfl, (Array.getElem?_eq_some_iff.1 h2).1, fun i hi => ?_⟩
      have := row_cell h2 i (by simp; omega)
      rw [Nat.zero_add]
      rw [List.getElem_append_left (by simpa using hi), List.getElem_map] at this
      exact this
  have HI := hid (idxSubG p8 p5 ph hb c gs so cl els w hE hS hl)
  have HE := hid hE
  have HBL := hid hBl
  have HCL := hid hcl
  clear hE hS hBl hcl
  go_enter Try.func28, Try.ntmps28
  go_wp2_with fail
  refine HI.out.mono ?_
  rintro e w0 ⟨hfr, hb0⟩
  rcases hfr with ⟨rfl, hall⟩ | ⟨k0, hk0, rfl, hpk, hno⟩
  · -- nothing is struck
    have HA := hid (rowE_none els (pG gs) rest hall)
    have HB0 := hid hb0
    clear hall hb0
    go_wp2
    go_ret
    refine ⟨by rw [HA.out.2]; rfl, fun a ha => ?_, Kb.ofBelow HB0.out⟩
    obtain ⟨rfl, h2⟩ := HBL.out.some a ha
    rw [HA.out.1, HB0.out.block db (Array.getElem?_eq_some_iff.1 h2).1]
    exact h2
  · obtain ⟨a, ha⟩ : ∃ a, so = some a := by
      cases hso : so with
      | none => have := (HBL.out.nil hso).1; rw [this] at hk0; simp at hk0
      | some a => exact ⟨a, rfl⟩
    obtain ⟨hda, h2⟩ := HBL.out.some a ha
    subst hda
    subst ha
    have hdl : db < w.heap.size := (Array.getElem?_eq_some_iff.1 h2).1
    have hk1 : kept els (pG gs) (k0 + 1) = els.take k0 := by rw [kept_drop hk0 hpk, kept_none hno (by omega)]
    have hrow0 : w0.heap[db]? = some (.cells (rowA (rowL els (pG gs) rest (k0 + 1))) 45 (0, 0)) := by
      rw [hb0.block db hdl, h2]
      unfold rowL
      rw [hk1, List.length_take, show min k0 els.length = k0 by omega, List.take_append_drop]
    have hkl : (kept els (pG gs) (k0 + 1)).length = k0 := by rw [hk1]; simp; omega
    have R0 := hid hrow0
    have KL := hid hkl
    have HB0 := hid hb0
    clear hrow0 hkl hk1 h2 hpk hno hb0 HBL
    have hne : ((k0 : Int) == -1) = false := beq_eq_false_iff_ne.2 (by omega)
    go_wp2
    go_loopw [5, 6] (fun s5 s6 wr => ∃ (i j : Nat), s5 = .int .i64 i ∧ s6 = .int .i64 j ∧ j ≤ els.length ∧ i < j ∧ Hid (i = (kept els (pG gs) j).length) ∧ Hid (wr.heap[db]? = some (.cells (rowA (rowL els (pG gs) rest j)) 45 (0, 0))) ∧ Kb w.heap.size db w wr) (fun _ s6 _ => els.length - (intOf s6).toNat)
    case atStart => exact ⟨k0, k0 + 1, rfl, by go_num, hk0, by omega, KL.out.symm, R0.out, Kb.ofBelow HB0.out⟩
    case round =>
      obtain ⟨i, j, rfl, rfl, hj, hij, IK, ROW, hkb⟩ := hrel
      have KB := hid hkb
      have hEr := HE.out.kb hkb (Nat.le_refl _) n8 n5 nh nb
      clear hkb
      by_cases hlt : j < els.length
      · have hrl := rowL_length els (pG gs) rest j (by omega)
        obtain ⟨c0, c1, c2⟩ := row_cell ROW.out j (by omega)
        rw [rowL_at els (pG gs) rest j hlt] at c0 c1 c2
        simp only [eT] at c0 c1 c2
        have hdr : db < wr.heap.size := (Array.getElem?_eq_some_iff.1 ROW.out).1
        have hI : (j : Int) < (els.length : Int) := by omega
        have hI2 : (i : Int) < (els.length : Int) := by omega
        have hB1 := cellsEl els[j].name els[j].ing els[j].ba els[j].bn els[j].bc wr
        have HB1 := hid hB1
        have HC := hid (del_group p8 p5 ph hb c gs els[j].name els[j].ing els[j].ba els[j].bn els[j].bc _ (hEr.below hB1 (Nat.le_refl _)))
        clear hEr hB1
        cases hx : pG gs els[j] with
        | true =>
          have HX := hid hx
          unfold pG at hx
          rw [hx] at HC
          clear hx
          go_wp2_with (go_at_call 30; refine HC.out.mono ?_; rintro e w1 ⟨rfl, hb1⟩)
          refine ⟨⟨i, j + 1, rfl, by go_num, hlt, by omega, ?_, ?_, ?_⟩, by simp [intOf]; omega⟩
          · rw [kept_drop hlt HX.out]; exact IK
          · rw [← rowL_drop rest hlt HX.out, hb1.block db (by simp; omega), HB1.out.block db hdr]; exact ROW
          · exact KB.out.trans (Kb.ofBelow ((HB1.out.mono KB.out.size).trans (hb1.mono (by simp; have := KB.out.size; omega))))
        | false =>
          have HX := hid hx
          unfold pG at hx
          rw [hx] at HC
          clear hx
          go_wp2_with (go_at_call 30; refine HC.out.mono ?_; rintro e w1 ⟨rfl, hb1⟩; have ROW1 := hid ((hb1.block db (by simp; omega)).trans ((HB1.out.block db hdr).trans ROW.out)); obtain ⟨x, y, z, t0, t1, t2⟩ := row_some ROW1.out i (by omega); have tf := row_free ROW1.out; have b0 := (hb1.cell (p := ⟨wr.heap.size, 0, none⟩) (by simp)).trans (World.cell?_alloc_at _ _ _ _ rfl); have b1 := (hb1.cell (p := ⟨wr.heap.size, 1, none⟩) (by simp)).trans (World.cell?_alloc_at _ _ _ _ rfl); have b2 := (hb1.cell (p := ⟨wr.heap.size, 2, none⟩) (by simp)).trans (World.cell?_alloc_at _ _ _ _ rfl); simp at b0 b1 b2)
          refine ⟨⟨i + 1, j + 1, by go_num, by go_num, hlt, by omega, ?_, ?_, ?_⟩, by simp [intOf]; omega⟩
          · show i + 1 = _
            rw [kept_keep hlt HX.out, List.length_append, ← IK.out]; rfl
          · show _ = _
            rw [heap_set3 ROW1.out, rowA_set _ _ (by omega)]
            congr 3
            rw [← rowL_keep rest hlt HX.out, ← IK.out]
            rfl
          · exact kb_set3 (KB.out.trans (Kb.ofBelow ((HB1.out.mono KB.out.size).trans (hb1.mono (by simp; have := KB.out.size; omega))))) _ _ _ _
      · obtain rfl : j = els.length := by omega
        have hrl := rowL_length els (pG gs) rest els.length (Nat.le_refl _)
        have e1 : i ≤ els.length := by omega
        have e2 : ¬ cl = i := by rw [HCL.out]; omega
        have e3 : (i : Int) ≤ (els.length : Int) := by omega
        have e4 : (els.length : Int) ≤ (cl : Int) := by rw [HCL.out]; omega
        have hcr := fun ty => run_clear3 wr ty db i (els.length - i) (cl - i) _ ROW.out (by omega) (by omega)
        have FINAL := hid (rowL_clear els (pG gs) rest)
        have hrw : Hid ((wr.setRow db (rowA ((rowL els (pG gs) rest els.length).take i ++ (List.replicate (els.length - i) eZ ++ (rowL els (pG gs) rest els.length).drop (i + (els.length - i)))))).heap[db]? = some (.cells (rowA (rowE els (pG gs) rest)) 45 (0, 0))) := by
          show _ = _
          rw [setRow_heap wr db _ _ 45 _ ROW.out]
          congr 3
          rw [IK.out]
          exact FINAL.out
        generalize rowA ((rowL els (pG gs) rest els.length).take i ++ (List.replicate (els.length - i) eZ ++ (rowL els (pG gs) rest els.length).drop (i + (els.length - i)))) = RR at hcr hrw
        clear hEr
        go_wp2
        go_ret
        refine ⟨by rw [← kept_full, ← IK.out]; rfl, fun _ _ => hrw.out, ?_⟩
        exact KB.out.trans ⟨rfl, rfl, rfl, by simp [World.setRow], fun k hk hne => setRow_other wr db k _ hne⟩
end Go.Proofs.Qxb6615619aR
