/-
  Seat b6615752aF. FnIsDigitEndsTheIntegerPart: the walk.
-/
import Derived.Test.Qxb6615752aFmtD
import Derived.Laws.IdiomCopy
import Derived.Deep.CutRange
namespace Go.Proofs.Qxb6615752aFmt
open Go.RowKit Go.Extern.Stop Go.Stop Go.Extern

theorem guard7 (so : Option Addr) (n c : Nat) (p : Int) (w : World) (hn : n ≤ 1048576) :
    Calls Tryf.prog 7 #[.slice so n c, .int .i64 p] w fun e w' => e = .returned (.bool true) ∧ w' = w := by
  have h1 : ¬ (1048576 : Int) < (n : Int) := by omega
  go_enter Tryf.func7, Tryf.ntmps7
  go_wp2
  go_ret
  exact ⟨rfl, rfl⟩
theorem guard7_big (so : Option Addr) (n c : Nat) (p : Int) (w : World) (hn : 1048576 < n) :
    Calls Tryf.prog 7 #[.slice so n c, .int .i64 p] w fun e w' => e = .returned (.bool false) ∧ w' = w := by
  have h1 : (1048576 : Int) < (n : Int) := by omega
  go_enter Tryf.func7, Tryf.ntmps7
  go_wp2
  go_ret
  exact ⟨rfl, rfl⟩

theorem Tryf.info5 : (Tryf.prog.info? 5).map (fun i => (i.zero, i.size, i.bytes)) = some (some (.int .u8 0), 1, 1) := by kernel_rfl
theorem size5' : (Tryf.prog.info? 5).map (·.size) = some 1 := by kernel_rfl
def zeroA (n : Nat) : Array Value := (List.replicate n (Value.int .u8 0)).toArray
theorem made_list (n : Nat) : madeCells #[.int .u8 0] n = zeroA n := by
  unfold zeroA
  apply Array.ext'
  apply List.ext_getElem?
  intro i
  simp only [madeCells, List.getElem?_replicate]
  by_cases h : i < n
  · have h2 : i % 1 = 0 := Nat.mod_one i
    simp [h, h2]
  · simp [h]
theorem setCells_heap (b : Nat) (t : TypeId) : ∀ (vs : List Value) (A L : List Value) (w : World), L.length = vs.length → w.heap[b]? = some (.cells (A ++ L).toArray t (0, 0)) → (w.setCells b A.length vs).heap[b]? = some (.cells (A ++ vs).toArray t (0, 0))
  | [], _, [], _, _, h => h
  | [], _, _ :: _, _, hl, _ => by simp at hl
  | _ :: _, _, [], _, hl, _ => by simp at hl
  | v :: vs, A, x :: L, w, hl, h => by
    have h1 := heap_set_same (w := w) (o := A.length) h v
    have h2 : ((A ++ x :: L).toArray.setIfInBounds A.length v) = ((A ++ [v]) ++ L).toArray := by
      apply Array.ext'
      simp
    rw [h2] at h1
    have ih := setCells_heap b t vs (A ++ [v]) L (w.setCell ⟨b, A.length, none⟩ v) (by simpa using hl) h1
    rw [List.length_append, List.length_singleton] at ih
    show ((w.setCell ⟨b, A.length, none⟩ v).setCells b (A.length + 1) vs).heap[b]? = _
    rw [ih]
    simp
theorem setCells_below {B b : Nat} (hB : B ≤ b) : ∀ (vs : List Value) (o : Nat) (w0 w : World), Below B w0 w → Below B w0 (w.setCells b o vs)
  | [], _, _, _, h => h
  | v :: vs, o, w0, _, h => setCells_below hB vs (o + 1) w0 _ (h.setCell hB v)
theorem add_at (b o j : Nat) : (⟨b, o, none⟩ : Addr).add j = ⟨b, o + j, none⟩ := by unfold Addr.add; split <;> simp_all

theorem cell_lt {w : World} {a : Addr} {v : Value} (h : w.cell? a = some v) : a.block < w.heap.size := by
  unfold World.cell? at h
  by_cases hl : a.block < w.heap.size
  · exact hl
  · rw [Array.getElem?_eq_none (by omega)] at h
    simp at h
theorem Run.back {zs : List Int} {p k : Nat} (h1 : p + 1 ≤ k) (hk : k ≤ zs.length) (ha : ∀ i, p ≤ i → i < k → digitB (zs.getD i 0) = true) (hs : k < zs.length → digitB (zs.getD k 0) = false) : Run zs p k := ⟨by omega, hk, ha, hs⟩

/-- An early answer. -/
theorem law4_early (so : Option Addr) (n c : Nat) (p : Int) (w : World) (h : 1048576 < n ∨ p < 0 ∨ (n : Int) ≤ p) :
    Calls Tryf.prog 4 #[.slice so n c, .int .i64 p] w fun e w' => e = .returned (.bool true) ∧ Below w.heap.size w w' := by
  by_cases hn : 1048576 < n
  · go_enter Tryf.func4, Tryf.ntmps4
    go_wp2_with fail
    refine (guard7_big so n c p w hn).mono ?_
    rintro e w' ⟨rfl, hw⟩
    obtain rfl := hw.symm
    go_wp2
    go_ret
    exact ⟨rfl, Below.refl _ _⟩
  · have h1 : ¬ (1048576 : Int) < (n : Int) := by omega
    by_cases hp : p < 0
    · go_enter Tryf.func4, Tryf.ntmps4
      go_wp2_with fail
      refine (guard7 so n c p w (by omega)).mono ?_
      rintro e w' ⟨rfl, hw⟩
      obtain rfl := hw.symm
      go_wp2
      go_ret
      exact ⟨rfl, Below.refl _ _⟩
    · have hp2 : (n : Int) ≤ p := by omega
      clear h
      go_enter Tryf.func4, Tryf.ntmps4
      go_wp2_with fail
      refine (guard7 so n c p w (by omega)).mono ?_
      rintro e w' ⟨rfl, hw⟩
      obtain rfl := hw.symm
      go_wp2
      go_ret
      exact ⟨rfl, Below.refl _ _⟩
theorem law4_byte (b off : Nat) (zs : List Int) (c pos : Nat) (w : World) (hl : zs.length ≤ 1048576) (hpos : pos < zs.length) (hc : w.cell? ⟨b, off + pos, none⟩ = some (.int .u8 zs[pos])) (h : zs[pos] < 49 ∨ 57 < zs[pos]) :
    Calls Tryf.prog 4 #[.slice (some ⟨b, off, none⟩) zs.length c, .int .i64 pos] w fun e w' => e = .returned (.bool true) ∧ Below w.heap.size w w' := by
  have h1 : ¬ (1048576 : Int) < (zs.length : Int) := by omega
  have h2 : ¬ (pos : Int) < 0 := by omega
  have h3 : (pos : Int) < (zs.length : Int) := by omega
  by_cases hp : zs[pos] < 49
  · clear h
    go_enter Tryf.func4, Tryf.ntmps4
    go_wp2_with fail
    refine (guard7 _ _ _ _ w hl).mono ?_
    rintro e w' ⟨rfl, hw⟩
    obtain rfl := hw.symm
    go_wp2
    go_ret
    exact ⟨rfl, Below.refl _ _⟩
  · have hp2 : 57 < zs[pos] := by omega
    clear h
    go_enter Tryf.func4, Tryf.ntmps4
    go_wp2_with fail
    refine (guard7 _ _ _ _ w hl).mono ?_
    rintro e w' ⟨rfl, hw⟩
    obtain rfl := hw.symm
    go_wp2
    go_ret
    exact ⟨rfl, Below.refl _ _⟩

set_option maxHeartbeats 2000000 in
set_option maxRecDepth 100000 in
theorem law4_go (F : Interp) (b off : Nat) (zs : List Int) (c pos : Nat) (w : World) (hl : zs.length ≤ 1048576) (hz : Bytes zs) (hpos : pos < zs.length) (hc : ∀ k, (h : k < zs.length) → w.cell? ⟨b, off + k, none⟩ = some (.int .u8 zs[k])) (g1 : 49 ≤ zs[pos]) (g9 : zs[pos] ≤ 57) (hF : F.answers w.tape) (hS : Short F) :
    Calls Tryf.prog 4 #[.slice (some ⟨b, off, none⟩) zs.length c, .int .i64 pos] w fun e w' => e = .returned (.bool true) ∧ Below w.heap.size w w' := by
  have h1 : ¬ (1048576 : Int) < (zs.length : Int) := by omega
  have h2 : ¬ (pos : Int) < 0 := by omega
  have h3 : (pos : Int) < (zs.length : Int) := by omega
  have hq := fun w => Lib.run_eql_slice_nil (P := Tryf.prog) w 22 5 (some ⟨b, off, none⟩) zs.length c 0 0 Tryf.underlying22
  have hmk := run_make_row' (P := Tryf.prog) 22 5 (.int .u8 0) 1 Tryf.underlying22 Tryf.info5 rfl .i64 .i64 zs.length (by omega) (by omega)
  rw [made_list] at hmk
  have hcp := hc pos hpos
  have hbs : b < w.heap.size := cell_lt hcp
  have hsrc : ∀ j v, (zs.map (Value.int .u8))[j]? = some v → (w.alloc (.cells (zeroA zs.length) 5)).cell? ((⟨b, off, none⟩ : Addr).add j) = some v := by
    intro j v hj
    rw [List.getElem?_map] at hj
    have hjl : j < zs.length := by
      rcases Nat.lt_or_ge j zs.length with g | g
      · exact g
      · rw [List.getElem?_eq_none g] at hj; simp at hj
    rw [List.getElem?_eq_getElem hjl] at hj
    simp at hj
    subst hj
    rw [add_at, (((Below.refl w.heap.size w).alloc (Nat.le_refl _) (.cells (zeroA zs.length) 5)).cell (p := ⟨b, off + j, none⟩) hbs)]
    exact hc j hjl
  have HSRC := hid hsrc
  have HF := hid hF
  have HS := hid hS
  have HZ := hid hz
  clear hc hF hS hz hsrc
  go_enter Tryf.func4, Tryf.ntmps4
  go_wp2_with fail
  refine (guard7 _ _ _ _ w hl).mono ?_
  rintro e w' ⟨rfl, hw⟩
  obtain rfl := hw.symm
  clear hw
  have hnew : (w.alloc (.cells (zeroA zs.length) 5)).heap[w.heap.size]? = some (.cells (zeroA zs.length) 5 (0, 0)) := heap_new _ _
  have hcopy := fun ty => run_copy_cells (P := Tryf.prog) (w.alloc (.cells (zeroA zs.length) 5)) 22 22 ty 5 w.heap.size 0 zs.length zs.length ⟨b, off, none⟩ zs.length c (zs.map (Value.int .u8)) Tryf.underlying22 size5' (by simp) HSRC.out
    (fun j hj => by simp at hj; simp only [World.cell?, hnew]; simp [hj, zeroA]) (fun j hj => by simp only [World.frozen?, hnew]; simp) (fun v hv => by simp at hv; obtain ⟨_, _, rfl⟩ := hv; rfl)
  have hg2 : ((w.alloc (.cells (zeroA zs.length) 5)).setCells w.heap.size 0 (zs.map (Value.int .u8))).heap[w.heap.size]? = some (.cells (bytesA zs) 5 (0, 0)) :=
    setCells_heap w.heap.size 5 (zs.map (Value.int .u8)) [] (List.replicate zs.length (Value.int .u8 0)) _ (by simp) hnew
  have hb2 : Below w.heap.size w ((w.alloc (.cells (zeroA zs.length) 5)).setCells w.heap.size 0 (zs.map (Value.int .u8))) := setCells_below (Nat.le_refl _) _ _ _ _ ((Below.refl _ w).alloc (Nat.le_refl _) _)
  have HG2 := hid hg2
  have HB2 := hid hb2
  clear hg2 hb2 hnew
  go_upto_region 13 with fail
  generalize (w.alloc (.cells (zeroA zs.length) 5)).setCells w.heap.size 0 (zs.map (Value.int .u8)) = w2 at HG2 HB2 ⊢
  clear hcopy
  obtain ⟨db, hdb⟩ : ∃ d, w.heap.size = d := ⟨_, rfl⟩
  have HBY : Hid (w2.heap[db]? = some (.cells (bytesA zs) 5 (0, 0))) := by
    rw [← hdb]
    exact HG2
  have HDB := hid hdb
  have hdlt : db < w2.heap.size := heap_lt HBY.out
  have HN := hid (zzNum db _ zs pos w2.heap.size (fun f k => ∃ j, Run zs pos j ∧ Q4 zs j f k) w2 (Nat.le_refl _) ((num_dig F w2.heap.size db zs pos w2.heap.size _ (heap_new _ _) ((Below.heap_alloc _ _ _ hdlt).trans HBY.out) (by omega) hl HZ.out hpos g1 g9 (show F.answers w2.tape by rw [HB2.out.tape]; exact HF.out) HS.out (Nat.le_refl _)).mono (fun e w' ⟨j, f, k, x1, x2, x3, x4, x5⟩ => ⟨f, k, x2, ⟨j, x1, x3⟩, x4, x5⟩)))
  have hd0 : digitB zs[pos] = true := by simp [digitB]; omega
  have HD0 := hid hd0
  rw [hdb]
  clear HG2 hdb hd0 HSRC hmk hq hcp
  go_wp2
  go_loop [7] (fun q => ∃ (k : Nat), q = .int .i64 k ∧ pos + 1 ≤ k ∧ k ≤ zs.length ∧ (∀ i, pos ≤ i → i < k → digitB (zs.getD i 0) = true)) (fun q => zs.length - (intOf q).toNat)
  case atStart =>
    refine ⟨pos + 1, by go_num, Nat.le_refl _, by omega, fun i a1 a2 => ?_⟩
    obtain rfl : i = pos := by omega
    rw [getD_eq zs i hpos]
    exact HD0.out
  case round =>
    obtain ⟨k, rfl, hk0, hk1, hall⟩ := hrel
    have HA := hid hall
    clear hall
    by_cases hlt : k < zs.length
    · have cb := bytes_cell HBY.out k hlt
      have hI : (k : Int) < (zs.length : Int) := by omega
      go_wp2_with fail
      refine (zzIsDigit zs[k] w2).mono ?_
      rintro e w' ⟨rfl, hw⟩
      obtain rfl := hw.symm
      clear hw
      cases hdk : digitB zs[k] with
      | true =>
        go_wp2
        refine ⟨⟨k + 1, by go_num, by omega, by omega, fun i a1 a2 => ?_⟩, by simp [intOf]; omega⟩
        by_cases hik : i < k
        · exact HA.out i a1 hik
        · obtain rfl : i = k := by omega
          rw [getD_eq zs i hlt]
          exact hdk
      | false =>
        have RUN := hid (Run.back hk0 hk1 HA.out (fun _ => by rw [getD_eq zs k hlt]; exact hdk))
        clear HA hdk cb
        go_wp2_with fail
        refine HN.out.mono ?_
        rintro e w3 ⟨f, k2, s, rfl, hs1, hs2, ⟨j, hr, hq4⟩, hbel⟩
        obtain rfl : j = k := hr.unique RUN.out
        have hby : w3.heap[db]? = some (.cells (bytesA zs) 5 (0, 0)) := (hbel.block _ hdlt).trans HBY.out
        have HBY3 := hid hby
        have HB3 : Hid (Below w.heap.size w w3) := hid (HB2.out.trans (hbel.mono HB2.out.size))
        have HQ := hid hq4
        have HS1 := hid hs1
        have HS2 := hid hs2
        clear hr hq4 hby hbel hs1 hs2 HN RUN
        have cb := bytes_cell HBY3.out j hlt
        cases t0 : (zs[j] == 46) with
        | true =>
          have hsp := spec_dot hlt t0
          cases f with
          | true =>
            go_wp2
            go_ret
            exact ⟨rfl, HB3.out⟩
          | false =>
            obtain rfl := HS2.out rfl
            have hjk := HQ.out.more hsp rfl
            have hkn := HQ.out.len
            have hle : pos ≤ k2 := by omega
            have hsl := fun w => slice_lh db zs.length pos k2 hle hkn hpos w
            have hcv := conv_part HBY3.out pos k2 (zs.length - pos) hle hkn 0
            rw [World.drewN_zero] at hcv
            have hi0 : (pos : Int) ≤ (k2 : Int) := by omega
            have hi1 : (k2 : Int) ≤ (zs.length : Int) := by omega
            have hi2 : (j : Int) < (k2 : Int) := by omega
            go_wp2
            go_ret
            exact ⟨rfl, HB3.out⟩
        | false =>
          cases t1 : (zs[j] == 101) with
          | true =>
            have hsp := spec_e hlt t1
            cases f with
            | true =>
              go_wp2
              go_ret
              exact ⟨rfl, HB3.out⟩
            | false =>
              obtain rfl := HS2.out rfl
              have hjk := HQ.out.more hsp rfl
              have hkn := HQ.out.len
              have hle : pos ≤ k2 := by omega
              have hsl := fun w => slice_lh db zs.length pos k2 hle hkn hpos w
              have hcv := conv_part HBY3.out pos k2 (zs.length - pos) hle hkn 0
              rw [World.drewN_zero] at hcv
              have hi0 : (pos : Int) ≤ (k2 : Int) := by omega
              have hi1 : (k2 : Int) ≤ (zs.length : Int) := by omega
              have hi2 : (j : Int) < (k2 : Int) := by omega
              go_wp2
              go_ret
              exact ⟨rfl, HB3.out⟩
          | false =>
            cases t2 : (zs[j] == 69) with
            | true =>
              have hsp := spec_E hlt t2
              cases f with
              | true =>
                go_wp2
                go_ret
                exact ⟨rfl, HB3.out⟩
              | false =>
                obtain rfl := HS2.out rfl
                have hjk := HQ.out.more hsp rfl
                have hkn := HQ.out.len
                have hle : pos ≤ k2 := by omega
                have hsl := fun w => slice_lh db zs.length pos k2 hle hkn hpos w
                have hcv := conv_part HBY3.out pos k2 (zs.length - pos) hle hkn 0
                rw [World.drewN_zero] at hcv
                have hi0 : (pos : Int) ≤ (k2 : Int) := by omega
                have hi1 : (k2 : Int) ≤ (zs.length : Int) := by omega
                have hi2 : (j : Int) < (k2 : Int) := by omega
                go_wp2
                go_ret
                exact ⟨rfl, HB3.out⟩
            | false =>
              have hsp := spec_no hlt t0 t1 t2
              obtain ⟨hf, hk2⟩ := HQ.out.plain hsp
              subst hf
              subst hk2
              obtain rfl := HS2.out rfl
              have hle : pos ≤ k2 := by omega
              have hsl := fun w => slice_lh db zs.length pos k2 hle hk1 hpos w
              have hcv := conv_part HBY3.out pos k2 (zs.length - pos) hle hk1 0
              rw [World.drewN_zero] at hcv
              have hi0 : (pos : Int) ≤ (k2 : Int) := by omega
              have hi1 : (k2 : Int) ≤ (zs.length : Int) := by omega
              go_wp2
              go_ret
              exact ⟨rfl, HB3.out⟩
    · have RUN := hid (Run.back hk0 hk1 HA.out (fun h => absurd h hlt))
      have hI : (zs.length : Int) ≤ (k : Int) := by omega
      clear HA
      go_wp2_with fail
      refine HN.out.mono ?_
      rintro e w3 ⟨f, k2, s, rfl, hs1, hs2, ⟨j, hr, hq4⟩, hbel⟩
      obtain rfl : j = k := hr.unique RUN.out
      have hby : w3.heap[db]? = some (.cells (bytesA zs) 5 (0, 0)) := (hbel.block _ hdlt).trans HBY.out
      have HBY3 := hid hby
      have HB3 : Hid (Below w.heap.size w w3) := hid (HB2.out.trans (hbel.mono HB2.out.size))
      have HQ := hid hq4
      have HS1 := hid hs1
      have HS2 := hid hs2
      clear hr hq4 hby hbel hs1 hs2 HN RUN
      obtain ⟨hf, hk2⟩ := HQ.out.plain (spec_out hlt)
      subst hf
      subst hk2
      obtain rfl := HS2.out rfl
      have hle : pos ≤ k2 := by omega
      have hsl := fun w => slice_lh db zs.length pos k2 hle hk1 hpos w
      have hcv := conv_part HBY3.out pos k2 (zs.length - pos) hle hk1 0
      rw [World.drewN_zero] at hcv
      have hi0 : (pos : Int) ≤ (k2 : Int) := by omega
      have hi1 : (k2 : Int) ≤ (zs.length : Int) := by omega
      go_wp2
      go_ret
      exact ⟨rfl, HB3.out⟩
end Go.Proofs.Qxb6615752aFmt
