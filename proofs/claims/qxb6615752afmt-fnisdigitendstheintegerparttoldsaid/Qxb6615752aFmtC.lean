/-
  Seat b6615752aF. numberText from a digit 1..9.
-/
import Derived.Test.Qxb6615752aFmtB
import Derived.Laws.BytesArg
namespace Go.Proofs.Qxb6615752aFmt
open Go.RowKit Go.Extern.Stop Go.Stop Go.Extern

theorem heap_new (w : World) (o : Obj) : (w.alloc o).heap[w.heap.size]? = some o := by
  show (w.heap.push o)[w.heap.size]? = some o
  simp
theorem Dec.start {w : World} {D db : Nat} {zs : List Int} {p : Nat} (hd : w.heap[D]? = some (.cells #[.slice (some ⟨db, 0, none⟩) zs.length zs.length, .int .i64 p] 29 (0, 0))) (hb : w.heap[db]? = some (.cells (bytesA zs) 5 (0, 0))) (hne : db ≠ D) :
    Dec (w.alloc (.cells #[.pointer (some ⟨D, 0, none⟩)] 27)) w.heap.size D db zs p := by
  have h1 := heap_lt hd
  have h2 := heap_lt hb
  exact ⟨heap_new _ _, (Below.heap_alloc _ _ _ h1).trans hd, (Below.heap_alloc _ _ _ h2).trans hb, by omega, hne⟩

/-- What numberText answers: failed or not, up to k. -/
def NT (zs : List Int) (start : Nat) (e : Ending) (f : Bool) (k : Nat) : Prop :=
  ∃ s er, e = .returned (.tuple #[.string s, er]) ∧ ((f = true ∧ s = ⟨#[]⟩ ∧ ∃ a, er = .iface 36 (.pointer (some a))) ∨ (f = false ∧ er = .nilIface ∧ s = strOfNums ((zs.drop start).take (k - start))))
theorem NT.bad (zs : List Int) (start : Nat) (a : Addr) (k : Nat) : NT zs start (.returned (.tuple #[.string ⟨#[]⟩, .iface 36 (.pointer (some a))])) true k := ⟨_, _, rfl, .inl ⟨rfl, rfl, a, rfl⟩⟩
theorem NT.good (zs : List Int) (start k : Nat) : NT zs start (.returned (.tuple #[.string (strOfNums ((zs.drop start).take (k - start))), .nilIface])) false k := ⟨_, _, rfl, .inr ⟨rfl, rfl, rfl⟩⟩

theorem elem22 : Tryf.prog.elem 22 = 5 := by kernel_rfl
theorem size5 (w : World) : (sizeOf 5).run Tryf.prog w = .ok 1 w := by kernel_rfl
theorem slice_lh (db n l h : Nat) (hl : l ≤ h) (hh : h ≤ n) (hn : l < n) (w : World) :
    (Instr.slice 22 (.slice (some ⟨db, 0, none⟩) n n) (some (.int .i64 (l : Int))) (some (.int .i64 (h : Int))) none).run Tryf.prog w = .ok (.slice (some ⟨db, l, none⟩) (h - l) (n - l)) w := by
  rw [run_slice_lh w 22 (some ⟨db, 0, none⟩) n n (by rw [elem22]; exact Tryf.underlying22) .i64 .i64 l h (by omega) (by omega) (by omega), elem22, size5]
  have : ¬ n = l := by omega
  simp [sliced, this]
  unfold Addr.add
  split <;> simp_all
theorem conv_part {w : World} {db : Nat} {zs : List Int} (hb : w.heap[db]? = some (.cells (bytesA zs) 5 (0, 0))) (l h c : Nat) (hl : l ≤ h) (hh : h ≤ zs.length) (q : Nat) :
    (convert 22 9 (.slice (some ⟨db, l, none⟩) (h - l) c)).run Tryf.prog (w.drewN q) = .ok (.string (strOfNums ((zs.drop l).take (h - l)))) (w.drewN q) := by
  refine run_convert_bytes_arg (w.drewN q) 22 5 Tryf.underlying22 Tryf.underlying5 db l (h - l) c _ (by simp; omega) (fun i hi => ?_) 9 Tryf.underlying9
  have hk : l + i < zs.length := by omega
  have := bytes_cell hb (l + i) hk
  show w.cell? _ = _
  rw [this]
  have h1 : i < ((zs.drop l).take (h - l)).length := by simp; omega
  rw [getD_eq _ i h1]
  simp

def atB (zs : List Int) (j : Nat) (z : Int) : Bool := decide (j < zs.length) && (zs.getD j 0 == z)
/-- At j a fraction or an exponent opens. -/
def spec (zs : List Int) (j : Nat) : Bool := atB zs j 46 || atB zs j 101 || atB zs j 69
theorem spec_end (zs : List Int) : spec zs zs.length = false := by simp [spec, atB]
theorem atB_at {zs : List Int} {j : Nat} (h : j < zs.length) (z : Int) : atB zs j z = (zs[j] == z) := by simp [atB, h]
theorem spec_no {zs : List Int} {j : Nat} (h : j < zs.length) (a : (zs[j] == 46) = false) (b : (zs[j] == 101) = false) (c : (zs[j] == 69) = false) : spec zs j = false := by
  simp [spec, atB_at h, a, b, c]

/-- What a number from a digit 1..9 does: the digits run up to j. -/
structure Q4 (zs : List Int) (j : Nat) (f : Bool) (k : Nat) : Prop where
  len : k ≤ zs.length
  plain : spec zs j = false → f = false ∧ k = j
  more : spec zs j = true → f = false → j < k

theorem Q4.same {zs : List Int} {j : Nat} (h : j ≤ zs.length) (hs : spec zs j = false) : Q4 zs j false j := ⟨h, fun _ => ⟨rfl, rfl⟩, fun a => absurd (hs.symm.trans a) (by decide)⟩
theorem Q4.bad {zs : List Int} {j k : Nat} (h : k ≤ zs.length) (hs : spec zs j = true) : Q4 zs j true k := ⟨h, fun a => absurd (hs.symm.trans a) (by decide), fun _ h => absurd h (by decide)⟩
theorem Q4.good {zs : List Int} {j k : Nat} (h : k ≤ zs.length) (hj : j < k) (hs : spec zs j = true) : Q4 zs j false k := ⟨h, fun a => absurd (hs.symm.trans a) (by decide), fun _ _ => hj⟩
theorem spec_dot {zs : List Int} {j : Nat} (h : j < zs.length) (a : (zs[j] == 46) = true) : spec zs j = true := by simp [spec, atB_at h, a]
theorem spec_e {zs : List Int} {j : Nat} (h : j < zs.length) (a : (zs[j] == 101) = true) : spec zs j = true := by simp [spec, atB_at h, a]
theorem spec_E {zs : List Int} {j : Nat} (h : j < zs.length) (a : (zs[j] == 69) = true) : spec zs j = true := by simp [spec, atB_at h, a]

theorem spec_out {zs : List Int} {j : Nat} (h : ¬ j < zs.length) : spec zs j = false := by simp [spec, atB, h]

/-- The post of numberText from a digit 1..9. -/
def PN (zs : List Int) (pos pb D db B : Nat) (w : World) (e : Ending) (w' : World) : Prop := ∃ j f k, Run zs pos j ∧ NT zs pos e f k ∧ Q4 zs j f k ∧ Dec w' pb D db zs k ∧ Below B w w'

set_option maxHeartbeats 4000000 in
set_option maxRecDepth 100000 in
theorem num_dig (F : Interp) (D db : Nat) (zs : List Int) (pos B : Nat) (w : World) (hd : w.heap[D]? = some (.cells #[.slice (some ⟨db, 0, none⟩) zs.length zs.length, .int .i64 pos] 29 (0, 0))) (hb : w.heap[db]? = some (.cells (bytesA zs) 5 (0, 0))) (hne : db ≠ D)
    (hl : zs.length ≤ 1048576) (hz : Bytes zs) (hpos : pos < zs.length) (h1 : 49 ≤ zs[pos]) (h9 : zs[pos] ≤ 57) (hF : F.answers w.tape) (hS : Short F) (hB : B ≤ D) :
    Calls Tryf.prog 8 #[.pointer (some ⟨D, 0, none⟩)] w fun e w' => PN zs pos w.heap.size D db B w e w' := by
  have H0 := hid (Dec.start hd hb hne)
  have HB0 : Hid (Below B w (w.alloc (.cells #[.pointer (some ⟨D, 0, none⟩)] 27))) := hid ((Below.refl B w).alloc (by have := heap_lt hd; omega) _)
  obtain ⟨c0, c1, c2, cf⟩ := H0.out.cells
  have cb := H0.out.byte pos hpos
  have t1 : (zs[pos] == 45) = false := by simp; omega
  have t2 : (zs[pos] == 48) = false := by simp; omega
  have TD : Hid (digitB zs[pos] = true) := hid (by simp [digitB]; omega)
  have hI : (pos : Int) < (zs.length : Int) := by omega
  have HF := hid hF
  have HS := hid hS
  have HZ := hid hz
  clear hd hb h1 h9 hF hS hz
  go_enter Tryf.func8, Tryf.ntmps8
  go_wp2
  generalize w.alloc (.cells #[.pointer (some ⟨D, 0, none⟩)] 27) = w1 at H0 HB0 c0 c1 c2 cf cb ⊢
  go_quiet (fail)
  go_wp2
  go_quiet (fail)
  go_wp2_with fail
  refine (digits_ok w.heap.size D db zs pos B _ (H0.out.draw _) hl hpos TD.out hB).mono ?_
  rintro e w2 ⟨rfl, j, hj, hrun, hdec, hbel⟩
  have H2 := hid hdec
  have HB2 : Hid (Below B w w2) := hid ((HB0.out.trans (below_drewN _ _)).trans hbel)
  have RUN := hid hrun
  have hjn := hrun.len
  clear c0 c1 c2 cf cb t1 t2 hrun hdec hbel H0 HB0 hI TD
  obtain ⟨c0, c1, c2, cf⟩ := H2.out.cells
  go_wp2
  by_cases hjl : j < zs.length
  · have cb := H2.out.byte j hjl
    have hI : (j : Int) < (zs.length : Int) := by omega
    cases t0 : (zs[j] == 46) with
    | false =>
      go_quiet (fail)
      generalize hx : World.drewN w2 nq = y1
      have Y1 : Hid (Dec y1 w.heap.size D db zs j) := by rw [← hx]; exact hid (H2.out.draw _)
      have YB1 : Hid (Below B w y1) := by rw [← hx]; exact hid (HB2.out.trans (below_drewN _ _))
      clear hx c0 c1 c2 cf H2 HB2 cb
      obtain ⟨c0, c1, c2, cf⟩ := Y1.out.cells
      go_wp2
      by_cases hkl : j < zs.length
      · have cb := Y1.out.byte j hkl
        have hI : (j : Int) < (zs.length : Int) := by omega
        cases t3 : (zs[j] == 101) with
        | true =>
          have HSP := hid (spec_e hjl t3)
          go_quiet (fail)
          generalize hx : World.drewN y1 nq = y2
          have Y2 : Hid (Dec y2 w.heap.size D db zs j) := by rw [← hx]; exact hid (Y1.out.draw _)
          have YB2 : Hid (Below B w y2) := by rw [← hx]; exact hid (YB1.out.trans (below_drewN _ _))
          clear hx c0 c1 c2 cf Y1 YB1 cb
          obtain ⟨c0, c1, c2, cf⟩ := Y2.out.cells
          go_wp2
          have hs3 : Dec (y2.setCell ⟨D, 1, none⟩ (.int .i64 ((j : Int) + 1))) w.heap.size D db zs (j + 1) := Y2.out.set (j + 1)
          have hb3 : Below B w (y2.setCell ⟨D, 1, none⟩ (.int .i64 ((j : Int) + 1))) := YB2.out.setCell hB _
          generalize y2.setCell ⟨D, 1, none⟩ (.int .i64 ((j : Int) + 1)) = x3 at hs3 hb3 ⊢
          obtain ⟨m3, hm3⟩ : ∃ m, j + 1 = m := ⟨_, rfl⟩
          rw [hm3] at hs3
          have X3 := hid hs3
          have XB3 := hid hb3
          have M3 := hid hm3
          have hlo3 : j < m3 := by omega
          have hhi3 : m3 ≤ zs.length := by omega
          clear c0 c1 c2 cf hs3 hb3 hm3 Y2 YB2
          obtain ⟨c0, c1, c2, cf⟩ := X3.out.cells
          by_cases hsl : m3 < zs.length
          · have cb := X3.out.byte m3 hsl
            have hI : (m3 : Int) < (zs.length : Int) := by omega
            cases t5 : (zs[m3] == 43) with
            | true =>
              go_quiet (fail)
              generalize hx : World.drewN x3 nq = y4
              have Y4 : Hid (Dec y4 w.heap.size D db zs m3) := by rw [← hx]; exact hid (X3.out.draw _)
              have YB4 : Hid (Below B w y4) := by rw [← hx]; exact hid (XB3.out.trans (below_drewN _ _))
              clear hx c0 c1 c2 cf X3 XB3 cb
              obtain ⟨c0, c1, c2, cf⟩ := Y4.out.cells
              go_wp2_with fail
              have hs5 : Dec (y4.setCell ⟨D, 1, none⟩ (.int .i64 ((m3 : Int) + 1))) w.heap.size D db zs (m3 + 1) := Y4.out.set (m3 + 1)
              have hb5 : Below B w (y4.setCell ⟨D, 1, none⟩ (.int .i64 ((m3 : Int) + 1))) := YB4.out.setCell hB _
              generalize y4.setCell ⟨D, 1, none⟩ (.int .i64 ((m3 : Int) + 1)) = x5 at hs5 hb5 ⊢
              obtain ⟨m5, hm5⟩ : ∃ m, m3 + 1 = m := ⟨_, rfl⟩
              rw [hm5] at hs5
              have X5 := hid hs5
              have XB5 := hid hb5
              have M5 := hid hm5
              have hlo5 : j < m5 := by omega
              have hhi5 : m5 ≤ zs.length := by omega
              clear c0 c1 c2 cf hs5 hb5 hm5 Y4 YB4
              obtain ⟨c0, c1, c2, cf⟩ := X5.out.cells
              refine (digits F w.heap.size D db zs m5 B _ X5.out hl HZ.out ?_ HS.out hB).mono ?_
              · exact (show F.answers x5.tape by rw [XB5.out.tape]; exact HF.out)
              rintro e v6 ⟨k6, ok, hdr, hdec, hbel⟩
              have G6 := hid hdec
              have GB6 : Hid (Below B w v6) := hid (XB5.out.trans hbel)
              clear c0 c1 c2 cf hdec hbel X5 XB5
              cases ok with
              | false =>
                obtain ⟨⟨a, rfl⟩, hk⟩ := hdr
                have hkn : k6 ≤ zs.length := by omega
                clear hk
                go_wp2
                go_ret2
                exact ⟨j, _, k6, RUN.out, NT.bad zs pos a k6, Q4.bad hkn HSP.out, G6.out, GB6.out⟩
              | true =>
                obtain ⟨rfl, hk, hrk⟩ := hdr
                have hkn := hrk.len
                clear hrk
                obtain ⟨c0, c1, c2, cf⟩ := G6.out.cells
                have hle : pos ≤ k6 := by omega
                have hleN : k6 ≤ zs.length := by omega
                have hsl := fun w => slice_lh db zs.length pos k6 hle hleN hpos w
                have hcv := fun q => conv_part G6.out.hb pos k6 (zs.length - pos) hle hleN q
                have hi0 : (pos : Int) ≤ (k6 : Int) := by omega
                have hi1 : (k6 : Int) ≤ (zs.length : Int) := by omega
                go_wp2
                go_quiet (fail)
                go_wp2
                go_ret2
                exact ⟨j, _, k6, RUN.out, NT.good zs pos k6, Q4.good hleN (by omega) HSP.out, G6.out.draw _, GB6.out.trans (below_drewN _ _)⟩
            | false =>
              cases t6 : (zs[m3] == 45) with
              | true =>
                go_quiet (fail)
                generalize hx : World.drewN x3 nq = y7
                have Y7 : Hid (Dec y7 w.heap.size D db zs m3) := by rw [← hx]; exact hid (X3.out.draw _)
                have YB7 : Hid (Below B w y7) := by rw [← hx]; exact hid (XB3.out.trans (below_drewN _ _))
                clear hx c0 c1 c2 cf X3 XB3 cb
                obtain ⟨c0, c1, c2, cf⟩ := Y7.out.cells
                go_wp2_with fail
                have hs8 : Dec (y7.setCell ⟨D, 1, none⟩ (.int .i64 ((m3 : Int) + 1))) w.heap.size D db zs (m3 + 1) := Y7.out.set (m3 + 1)
                have hb8 : Below B w (y7.setCell ⟨D, 1, none⟩ (.int .i64 ((m3 : Int) + 1))) := YB7.out.setCell hB _
                generalize y7.setCell ⟨D, 1, none⟩ (.int .i64 ((m3 : Int) + 1)) = x8 at hs8 hb8 ⊢
                obtain ⟨m8, hm8⟩ : ∃ m, m3 + 1 = m := ⟨_, rfl⟩
                rw [hm8] at hs8
                have X8 := hid hs8
                have XB8 := hid hb8
                have M8 := hid hm8
                have hlo8 : j < m8 := by omega
                have hhi8 : m8 ≤ zs.length := by omega
                clear c0 c1 c2 cf hs8 hb8 hm8 Y7 YB7
                obtain ⟨c0, c1, c2, cf⟩ := X8.out.cells
                refine (digits F w.heap.size D db zs m8 B _ X8.out hl HZ.out ?_ HS.out hB).mono ?_
                · exact (show F.answers x8.tape by rw [XB8.out.tape]; exact HF.out)
                rintro e v9 ⟨k9, ok, hdr, hdec, hbel⟩
                have G9 := hid hdec
                have GB9 : Hid (Below B w v9) := hid (XB8.out.trans hbel)
                clear c0 c1 c2 cf hdec hbel X8 XB8
                cases ok with
                | false =>
                  obtain ⟨⟨a, rfl⟩, hk⟩ := hdr
                  have hkn : k9 ≤ zs.length := by omega
                  clear hk
                  go_wp2
                  go_ret2
                  exact ⟨j, _, k9, RUN.out, NT.bad zs pos a k9, Q4.bad hkn HSP.out, G9.out, GB9.out⟩
                | true =>
                  obtain ⟨rfl, hk, hrk⟩ := hdr
                  have hkn := hrk.len
                  clear hrk
                  obtain ⟨c0, c1, c2, cf⟩ := G9.out.cells
                  have hle : pos ≤ k9 := by omega
                  have hleN : k9 ≤ zs.length := by omega
                  have hsl := fun w => slice_lh db zs.length pos k9 hle hleN hpos w
                  have hcv := fun q => conv_part G9.out.hb pos k9 (zs.length - pos) hle hleN q
                  have hi0 : (pos : Int) ≤ (k9 : Int) := by omega
                  have hi1 : (k9 : Int) ≤ (zs.length : Int) := by omega
                  go_wp2
                  go_quiet (fail)
                  go_wp2
                  go_ret2
                  exact ⟨j, _, k9, RUN.out, NT.good zs pos k9, Q4.good hleN (by omega) HSP.out, G9.out.draw _, GB9.out.trans (below_drewN _ _)⟩
              | false =>
                go_quiet (fail)
                generalize hx : World.drewN x3 nq = y10
                have Y10 : Hid (Dec y10 w.heap.size D db zs m3) := by rw [← hx]; exact hid (X3.out.draw _)
                have YB10 : Hid (Below B w y10) := by rw [← hx]; exact hid (XB3.out.trans (below_drewN _ _))
                clear hx c0 c1 c2 cf X3 XB3 cb
                obtain ⟨c0, c1, c2, cf⟩ := Y10.out.cells
                go_wp2_with fail
                refine (digits F w.heap.size D db zs m3 B _ Y10.out hl HZ.out ?_ HS.out hB).mono ?_
                · exact (show F.answers y10.tape by rw [YB10.out.tape]; exact HF.out)
                rintro e v11 ⟨k11, ok, hdr, hdec, hbel⟩
                have G11 := hid hdec
                have GB11 : Hid (Below B w v11) := hid (YB10.out.trans hbel)
                clear c0 c1 c2 cf hdec hbel Y10 YB10
                cases ok with
                | false =>
                  obtain ⟨⟨a, rfl⟩, hk⟩ := hdr
                  have hkn : k11 ≤ zs.length := by omega
                  clear hk
                  go_wp2
                  go_ret2
                  exact ⟨j, _, k11, RUN.out, NT.bad zs pos a k11, Q4.bad hkn HSP.out, G11.out, GB11.out⟩
                | true =>
                  obtain ⟨rfl, hk, hrk⟩ := hdr
                  have hkn := hrk.len
                  clear hrk
                  obtain ⟨c0, c1, c2, cf⟩ := G11.out.cells
                  have hle : pos ≤ k11 := by omega
                  have hleN : k11 ≤ zs.length := by omega
                  have hsl := fun w => slice_lh db zs.length pos k11 hle hleN hpos w
                  have hcv := fun q => conv_part G11.out.hb pos k11 (zs.length - pos) hle hleN q
                  have hi0 : (pos : Int) ≤ (k11 : Int) := by omega
                  have hi1 : (k11 : Int) ≤ (zs.length : Int) := by omega
                  go_wp2
                  go_quiet (fail)
                  go_wp2
                  go_ret2
                  exact ⟨j, _, k11, RUN.out, NT.good zs pos k11, Q4.good hleN (by omega) HSP.out, G11.out.draw _, GB11.out.trans (below_drewN _ _)⟩
          · have hI : (zs.length : Int) ≤ (m3 : Int) := by omega
            go_quiet (fail)
            generalize hx : World.drewN x3 nq = y12
            have Y12 : Hid (Dec y12 w.heap.size D db zs m3) := by rw [← hx]; exact hid (X3.out.draw _)
            have YB12 : Hid (Below B w y12) := by rw [← hx]; exact hid (XB3.out.trans (below_drewN _ _))
            clear hx c0 c1 c2 cf X3 XB3
            obtain ⟨c0, c1, c2, cf⟩ := Y12.out.cells
            go_wp2_with fail
            refine (digits F w.heap.size D db zs m3 B _ Y12.out hl HZ.out ?_ HS.out hB).mono ?_
            · exact (show F.answers y12.tape by rw [YB12.out.tape]; exact HF.out)
            rintro e v13 ⟨k13, ok, hdr, hdec, hbel⟩
            have G13 := hid hdec
            have GB13 : Hid (Below B w v13) := hid (YB12.out.trans hbel)
            clear c0 c1 c2 cf hdec hbel Y12 YB12
            cases ok with
            | false =>
              obtain ⟨⟨a, rfl⟩, hk⟩ := hdr
              have hkn : k13 ≤ zs.length := by omega
              clear hk
              go_wp2
              go_ret2
              exact ⟨j, _, k13, RUN.out, NT.bad zs pos a k13, Q4.bad hkn HSP.out, G13.out, GB13.out⟩
            | true =>
              obtain ⟨rfl, hk, hrk⟩ := hdr
              have hkn := hrk.len
              clear hrk
              obtain ⟨c0, c1, c2, cf⟩ := G13.out.cells
              have hle : pos ≤ k13 := by omega
              have hleN : k13 ≤ zs.length := by omega
              have hsl := fun w => slice_lh db zs.length pos k13 hle hleN hpos w
              have hcv := fun q => conv_part G13.out.hb pos k13 (zs.length - pos) hle hleN q
              have hi0 : (pos : Int) ≤ (k13 : Int) := by omega
              have hi1 : (k13 : Int) ≤ (zs.length : Int) := by omega
              go_wp2
              go_quiet (fail)
              go_wp2
              go_ret2
              exact ⟨j, _, k13, RUN.out, NT.good zs pos k13, Q4.good hleN (by omega) HSP.out, G13.out.draw _, GB13.out.trans (below_drewN _ _)⟩
        | false =>
          cases t4 : (zs[j] == 69) with
          | true =>
            have HSP := hid (spec_E hjl t4)
            go_quiet (fail)
            generalize hx : World.drewN y1 nq = y14
            have Y14 : Hid (Dec y14 w.heap.size D db zs j) := by rw [← hx]; exact hid (Y1.out.draw _)
            have YB14 : Hid (Below B w y14) := by rw [← hx]; exact hid (YB1.out.trans (below_drewN _ _))
            clear hx c0 c1 c2 cf Y1 YB1 cb
            obtain ⟨c0, c1, c2, cf⟩ := Y14.out.cells
            go_wp2
            have hs15 : Dec (y14.setCell ⟨D, 1, none⟩ (.int .i64 ((j : Int) + 1))) w.heap.size D db zs (j + 1) := Y14.out.set (j + 1)
            have hb15 : Below B w (y14.setCell ⟨D, 1, none⟩ (.int .i64 ((j : Int) + 1))) := YB14.out.setCell hB _
            generalize y14.setCell ⟨D, 1, none⟩ (.int .i64 ((j : Int) + 1)) = x15 at hs15 hb15 ⊢
            obtain ⟨m15, hm15⟩ : ∃ m, j + 1 = m := ⟨_, rfl⟩
            rw [hm15] at hs15
            have X15 := hid hs15
            have XB15 := hid hb15
            have M15 := hid hm15
            have hlo15 : j < m15 := by omega
            have hhi15 : m15 ≤ zs.length := by omega
            clear c0 c1 c2 cf hs15 hb15 hm15 Y14 YB14
            obtain ⟨c0, c1, c2, cf⟩ := X15.out.cells
            by_cases hsl : m15 < zs.length
            · have cb := X15.out.byte m15 hsl
              have hI : (m15 : Int) < (zs.length : Int) := by omega
              cases t5 : (zs[m15] == 43) with
              | true =>
                go_quiet (fail)
                generalize hx : World.drewN x15 nq = y16
                have Y16 : Hid (Dec y16 w.heap.size D db zs m15) := by rw [← hx]; exact hid (X15.out.draw _)
                have YB16 : Hid (Below B w y16) := by rw [← hx]; exact hid (XB15.out.trans (below_drewN _ _))
                clear hx c0 c1 c2 cf X15 XB15 cb
                obtain ⟨c0, c1, c2, cf⟩ := Y16.out.cells
                go_wp2_with fail
                have hs17 : Dec (y16.setCell ⟨D, 1, none⟩ (.int .i64 ((m15 : Int) + 1))) w.heap.size D db zs (m15 + 1) := Y16.out.set (m15 + 1)
                have hb17 : Below B w (y16.setCell ⟨D, 1, none⟩ (.int .i64 ((m15 : Int) + 1))) := YB16.out.setCell hB _
                generalize y16.setCell ⟨D, 1, none⟩ (.int .i64 ((m15 : Int) + 1)) = x17 at hs17 hb17 ⊢
                obtain ⟨m17, hm17⟩ : ∃ m, m15 + 1 = m := ⟨_, rfl⟩
                rw [hm17] at hs17
                have X17 := hid hs17
                have XB17 := hid hb17
                have M17 := hid hm17
                have hlo17 : j < m17 := by omega
                have hhi17 : m17 ≤ zs.length := by omega
                clear c0 c1 c2 cf hs17 hb17 hm17 Y16 YB16
                obtain ⟨c0, c1, c2, cf⟩ := X17.out.cells
                refine (digits F w.heap.size D db zs m17 B _ X17.out hl HZ.out ?_ HS.out hB).mono ?_
                · exact (show F.answers x17.tape by rw [XB17.out.tape]; exact HF.out)
                rintro e v18 ⟨k18, ok, hdr, hdec, hbel⟩
                have G18 := hid hdec
                have GB18 : Hid (Below B w v18) := hid (XB17.out.trans hbel)
                clear c0 c1 c2 cf hdec hbel X17 XB17
                cases ok with
                | false =>
                  obtain ⟨⟨a, rfl⟩, hk⟩ := hdr
                  have hkn : k18 ≤ zs.length := by omega
                  clear hk
                  go_wp2
                  go_ret2
                  exact ⟨j, _, k18, RUN.out, NT.bad zs pos a k18, Q4.bad hkn HSP.out, G18.out, GB18.out⟩
                | true =>
                  obtain ⟨rfl, hk, hrk⟩ := hdr
                  have hkn := hrk.len
                  clear hrk
                  obtain ⟨c0, c1, c2, cf⟩ := G18.out.cells
                  have hle : pos ≤ k18 := by omega
                  have hleN : k18 ≤ zs.length := by omega
                  have hsl := fun w => slice_lh db zs.length pos k18 hle hleN hpos w
                  have hcv := fun q => conv_part G18.out.hb pos k18 (zs.length - pos) hle hleN q
                  have hi0 : (pos : Int) ≤ (k18 : Int) := by omega
                  have hi1 : (k18 : Int) ≤ (zs.length : Int) := by omega
                  go_wp2
                  go_quiet (fail)
                  go_wp2
                  go_ret2
                  exact ⟨j, _, k18, RUN.out, NT.good zs pos k18, Q4.good hleN (by omega) HSP.out, G18.out.draw _, GB18.out.trans (below_drewN _ _)⟩
              | false =>
                cases t6 : (zs[m15] == 45) with
                | true =>
                  go_quiet (fail)
                  generalize hx : World.drewN x15 nq = y19
                  have Y19 : Hid (Dec y19 w.heap.size D db zs m15) := by rw [← hx]; exact hid (X15.out.draw _)
                  have YB19 : Hid (Below B w y19) := by rw [← hx]; exact hid (XB15.out.trans (below_drewN _ _))
                  clear hx c0 c1 c2 cf X15 XB15 cb
                  obtain ⟨c0, c1, c2, cf⟩ := Y19.out.cells
                  go_wp2_with fail
                  have hs20 : Dec (y19.setCell ⟨D, 1, none⟩ (.int .i64 ((m15 : Int) + 1))) w.heap.size D db zs (m15 + 1) := Y19.out.set (m15 + 1)
                  have hb20 : Below B w (y19.setCell ⟨D, 1, none⟩ (.int .i64 ((m15 : Int) + 1))) := YB19.out.setCell hB _
                  generalize y19.setCell ⟨D, 1, none⟩ (.int .i64 ((m15 : Int) + 1)) = x20 at hs20 hb20 ⊢
                  obtain ⟨m20, hm20⟩ : ∃ m, m15 + 1 = m := ⟨_, rfl⟩
                  rw [hm20] at hs20
                  have X20 := hid hs20
                  have XB20 := hid hb20
                  have M20 := hid hm20
                  have hlo20 : j < m20 := by omega
                  have hhi20 : m20 ≤ zs.length := by omega
                  clear c0 c1 c2 cf hs20 hb20 hm20 Y19 YB19
                  obtain ⟨c0, c1, c2, cf⟩ := X20.out.cells
                  refine (digits F w.heap.size D db zs m20 B _ X20.out hl HZ.out ?_ HS.out hB).mono ?_
                  · exact (show F.answers x20.tape by rw [XB20.out.tape]; exact HF.out)
                  rintro e v21 ⟨k21, ok, hdr, hdec, hbel⟩
                  have G21 := hid hdec
                  have GB21 : Hid (Below B w v21) := hid (XB20.out.trans hbel)
                  clear c0 c1 c2 cf hdec hbel X20 XB20
                  cases ok with
                  | false =>
                    obtain ⟨⟨a, rfl⟩, hk⟩ := hdr
                    have hkn : k21 ≤ zs.length := by omega
                    clear hk
                    go_wp2
                    go_ret2
                    exact ⟨j, _, k21, RUN.out, NT.bad zs pos a k21, Q4.bad hkn HSP.out, G21.out, GB21.out⟩
                  | true =>
                    obtain ⟨rfl, hk, hrk⟩ := hdr
                    have hkn := hrk.len
                    clear hrk
                    obtain ⟨c0, c1, c2, cf⟩ := G21.out.cells
                    have hle : pos ≤ k21 := by omega
                    have hleN : k21 ≤ zs.length := by omega
                    have hsl := fun w => slice_lh db zs.length pos k21 hle hleN hpos w
                    have hcv := fun q => conv_part G21.out.hb pos k21 (zs.length - pos) hle hleN q
                    have hi0 : (pos : Int) ≤ (k21 : Int) := by omega
                    have hi1 : (k21 : Int) ≤ (zs.length : Int) := by omega
                    go_wp2
                    go_quiet (fail)
                    go_wp2
                    go_ret2
                    exact ⟨j, _, k21, RUN.out, NT.good zs pos k21, Q4.good hleN (by omega) HSP.out, G21.out.draw _, GB21.out.trans (below_drewN _ _)⟩
                | false =>
                  go_quiet (fail)
                  generalize hx : World.drewN x15 nq = y22
                  have Y22 : Hid (Dec y22 w.heap.size D db zs m15) := by rw [← hx]; exact hid (X15.out.draw _)
                  have YB22 : Hid (Below B w y22) := by rw [← hx]; exact hid (XB15.out.trans (below_drewN _ _))
                  clear hx c0 c1 c2 cf X15 XB15 cb
                  obtain ⟨c0, c1, c2, cf⟩ := Y22.out.cells
                  go_wp2_with fail
                  refine (digits F w.heap.size D db zs m15 B _ Y22.out hl HZ.out ?_ HS.out hB).mono ?_
                  · exact (show F.answers y22.tape by rw [YB22.out.tape]; exact HF.out)
                  rintro e v23 ⟨k23, ok, hdr, hdec, hbel⟩
                  have G23 := hid hdec
                  have GB23 : Hid (Below B w v23) := hid (YB22.out.trans hbel)
                  clear c0 c1 c2 cf hdec hbel Y22 YB22
                  cases ok with
                  | false =>
                    obtain ⟨⟨a, rfl⟩, hk⟩ := hdr
                    have hkn : k23 ≤ zs.length := by omega
                    clear hk
                    go_wp2
                    go_ret2
                    exact ⟨j, _, k23, RUN.out, NT.bad zs pos a k23, Q4.bad hkn HSP.out, G23.out, GB23.out⟩
                  | true =>
                    obtain ⟨rfl, hk, hrk⟩ := hdr
                    have hkn := hrk.len
                    clear hrk
                    obtain ⟨c0, c1, c2, cf⟩ := G23.out.cells
                    have hle : pos ≤ k23 := by omega
                    have hleN : k23 ≤ zs.length := by omega
                    have hsl := fun w => slice_lh db zs.length pos k23 hle hleN hpos w
                    have hcv := fun q => conv_part G23.out.hb pos k23 (zs.length - pos) hle hleN q
                    have hi0 : (pos : Int) ≤ (k23 : Int) := by omega
                    have hi1 : (k23 : Int) ≤ (zs.length : Int) := by omega
                    go_wp2
                    go_quiet (fail)
                    go_wp2
                    go_ret2
                    exact ⟨j, _, k23, RUN.out, NT.good zs pos k23, Q4.good hleN (by omega) HSP.out, G23.out.draw _, GB23.out.trans (below_drewN _ _)⟩
            · have hI : (zs.length : Int) ≤ (m15 : Int) := by omega
              go_quiet (fail)
              generalize hx : World.drewN x15 nq = y24
              have Y24 : Hid (Dec y24 w.heap.size D db zs m15) := by rw [← hx]; exact hid (X15.out.draw _)
              have YB24 : Hid (Below B w y24) := by rw [← hx]; exact hid (XB15.out.trans (below_drewN _ _))
              clear hx c0 c1 c2 cf X15 XB15
              obtain ⟨c0, c1, c2, cf⟩ := Y24.out.cells
              go_wp2_with fail
              refine (digits F w.heap.size D db zs m15 B _ Y24.out hl HZ.out ?_ HS.out hB).mono ?_
              · exact (show F.answers y24.tape by rw [YB24.out.tape]; exact HF.out)
              rintro e v25 ⟨k25, ok, hdr, hdec, hbel⟩
              have G25 := hid hdec
              have GB25 : Hid (Below B w v25) := hid (YB24.out.trans hbel)
              clear c0 c1 c2 cf hdec hbel Y24 YB24
              cases ok with
              | false =>
                obtain ⟨⟨a, rfl⟩, hk⟩ := hdr
                have hkn : k25 ≤ zs.length := by omega
                clear hk
                go_wp2
                go_ret2
                exact ⟨j, _, k25, RUN.out, NT.bad zs pos a k25, Q4.bad hkn HSP.out, G25.out, GB25.out⟩
              | true =>
                obtain ⟨rfl, hk, hrk⟩ := hdr
                have hkn := hrk.len
                clear hrk
                obtain ⟨c0, c1, c2, cf⟩ := G25.out.cells
                have hle : pos ≤ k25 := by omega
                have hleN : k25 ≤ zs.length := by omega
                have hsl := fun w => slice_lh db zs.length pos k25 hle hleN hpos w
                have hcv := fun q => conv_part G25.out.hb pos k25 (zs.length - pos) hle hleN q
                have hi0 : (pos : Int) ≤ (k25 : Int) := by omega
                have hi1 : (k25 : Int) ≤ (zs.length : Int) := by omega
                go_wp2
                go_quiet (fail)
                go_wp2
                go_ret2
                exact ⟨j, _, k25, RUN.out, NT.good zs pos k25, Q4.good hleN (by omega) HSP.out, G25.out.draw _, GB25.out.trans (below_drewN _ _)⟩
          | false =>
            go_quiet (fail)
            generalize hx : World.drewN y1 nq = y26
            have Y26 : Hid (Dec y26 w.heap.size D db zs j) := by rw [← hx]; exact hid (Y1.out.draw _)
            have YB26 : Hid (Below B w y26) := by rw [← hx]; exact hid (YB1.out.trans (below_drewN _ _))
            clear hx c0 c1 c2 cf Y1 YB1 cb
            obtain ⟨c0, c1, c2, cf⟩ := Y26.out.cells
            have hle : pos ≤ j := by omega
            have hleN : j ≤ zs.length := by omega
            have hsl := fun w => slice_lh db zs.length pos j hle hleN hpos w
            have hcv := fun q => conv_part Y26.out.hb pos j (zs.length - pos) hle hleN q
            have hi0 : (pos : Int) ≤ (j : Int) := by omega
            have hi1 : (j : Int) ≤ (zs.length : Int) := by omega
            go_wp2
            go_quiet (fail)
            go_wp2
            go_ret2
            exact ⟨j, _, j, RUN.out, NT.good zs pos j, Q4.same hjn (spec_no hjl t0 t3 t4), Y26.out.draw _, YB26.out.trans (below_drewN _ _)⟩
      · have hI : (zs.length : Int) ≤ (j : Int) := by omega
        exact absurd hjl hkl
    | true =>
      have HSP := hid (spec_dot hjl t0)
      go_quiet (fail)
      generalize hx : World.drewN w2 nq = y27
      have Y27 : Hid (Dec y27 w.heap.size D db zs j) := by rw [← hx]; exact hid (H2.out.draw _)
      have YB27 : Hid (Below B w y27) := by rw [← hx]; exact hid (HB2.out.trans (below_drewN _ _))
      clear hx c0 c1 c2 cf H2 HB2 cb hI
      obtain ⟨c0, c1, c2, cf⟩ := Y27.out.cells
      go_wp2_with fail
      have hs28 : Dec (y27.setCell ⟨D, 1, none⟩ (.int .i64 ((j : Int) + 1))) w.heap.size D db zs (j + 1) := Y27.out.set (j + 1)
      have hb28 : Below B w (y27.setCell ⟨D, 1, none⟩ (.int .i64 ((j : Int) + 1))) := YB27.out.setCell hB _
      generalize y27.setCell ⟨D, 1, none⟩ (.int .i64 ((j : Int) + 1)) = x28 at hs28 hb28 ⊢
      obtain ⟨m28, hm28⟩ : ∃ m, j + 1 = m := ⟨_, rfl⟩
      rw [hm28] at hs28
      have X28 := hid hs28
      have XB28 := hid hb28
      have M28 := hid hm28
      have hlo28 : j < m28 := by omega
      have hhi28 : m28 ≤ zs.length := by omega
      clear c0 c1 c2 cf hs28 hb28 hm28 Y27 YB27
      obtain ⟨c0, c1, c2, cf⟩ := X28.out.cells
      refine (digits F w.heap.size D db zs m28 B _ X28.out hl HZ.out ?_ HS.out hB).mono ?_
      · exact (show F.answers x28.tape by rw [XB28.out.tape]; exact HF.out)
      rintro e v29 ⟨k29, ok, hdr, hdec, hbel⟩
      have G29 := hid hdec
      have GB29 : Hid (Below B w v29) := hid (XB28.out.trans hbel)
      clear c0 c1 c2 cf hdec hbel X28 XB28
      cases ok with
      | false =>
        obtain ⟨⟨a, rfl⟩, hk⟩ := hdr
        have hkn : k29 ≤ zs.length := by omega
        clear hk
        go_wp2
        go_ret2
        exact ⟨j, _, k29, RUN.out, NT.bad zs pos a k29, Q4.bad hkn HSP.out, G29.out, GB29.out⟩
      | true =>
        obtain ⟨rfl, hk, hrk⟩ := hdr
        have hkn := hrk.len
        clear hrk
        obtain ⟨c0, c1, c2, cf⟩ := G29.out.cells
        go_wp2
        by_cases hkl : k29 < zs.length
        · have cb := G29.out.byte k29 hkl
          have hI : (k29 : Int) < (zs.length : Int) := by omega
          cases t3 : (zs[k29] == 101) with
          | true =>
            go_quiet (fail)
            generalize hx : World.drewN v29 nq = y30
            have Y30 : Hid (Dec y30 w.heap.size D db zs k29) := by rw [← hx]; exact hid (G29.out.draw _)
            have YB30 : Hid (Below B w y30) := by rw [← hx]; exact hid (GB29.out.trans (below_drewN _ _))
            clear hx c0 c1 c2 cf G29 GB29 cb
            obtain ⟨c0, c1, c2, cf⟩ := Y30.out.cells
            go_wp2
            have hs31 : Dec (y30.setCell ⟨D, 1, none⟩ (.int .i64 ((k29 : Int) + 1))) w.heap.size D db zs (k29 + 1) := Y30.out.set (k29 + 1)
            have hb31 : Below B w (y30.setCell ⟨D, 1, none⟩ (.int .i64 ((k29 : Int) + 1))) := YB30.out.setCell hB _
            generalize y30.setCell ⟨D, 1, none⟩ (.int .i64 ((k29 : Int) + 1)) = x31 at hs31 hb31 ⊢
            obtain ⟨m31, hm31⟩ : ∃ m, k29 + 1 = m := ⟨_, rfl⟩
            rw [hm31] at hs31
            have X31 := hid hs31
            have XB31 := hid hb31
            have M31 := hid hm31
            have hlo31 : j < m31 := by omega
            have hhi31 : m31 ≤ zs.length := by omega
            clear c0 c1 c2 cf hs31 hb31 hm31 Y30 YB30
            obtain ⟨c0, c1, c2, cf⟩ := X31.out.cells
            by_cases hsl : m31 < zs.length
            · have cb := X31.out.byte m31 hsl
              have hI : (m31 : Int) < (zs.length : Int) := by omega
              cases t5 : (zs[m31] == 43) with
              | true =>
                go_quiet (fail)
                generalize hx : World.drewN x31 nq = y32
                have Y32 : Hid (Dec y32 w.heap.size D db zs m31) := by rw [← hx]; exact hid (X31.out.draw _)
                have YB32 : Hid (Below B w y32) := by rw [← hx]; exact hid (XB31.out.trans (below_drewN _ _))
                clear hx c0 c1 c2 cf X31 XB31 cb
                obtain ⟨c0, c1, c2, cf⟩ := Y32.out.cells
                go_wp2_with fail
                have hs33 : Dec (y32.setCell ⟨D, 1, none⟩ (.int .i64 ((m31 : Int) + 1))) w.heap.size D db zs (m31 + 1) := Y32.out.set (m31 + 1)
                have hb33 : Below B w (y32.setCell ⟨D, 1, none⟩ (.int .i64 ((m31 : Int) + 1))) := YB32.out.setCell hB _
                generalize y32.setCell ⟨D, 1, none⟩ (.int .i64 ((m31 : Int) + 1)) = x33 at hs33 hb33 ⊢
                obtain ⟨m33, hm33⟩ : ∃ m, m31 + 1 = m := ⟨_, rfl⟩
                rw [hm33] at hs33
                have X33 := hid hs33
                have XB33 := hid hb33
                have M33 := hid hm33
                have hlo33 : j < m33 := by omega
                have hhi33 : m33 ≤ zs.length := by omega
                clear c0 c1 c2 cf hs33 hb33 hm33 Y32 YB32
                obtain ⟨c0, c1, c2, cf⟩ := X33.out.cells
                refine (digits F w.heap.size D db zs m33 B _ X33.out hl HZ.out ?_ HS.out hB).mono ?_
                · exact (show F.answers x33.tape by rw [XB33.out.tape]; exact HF.out)
                rintro e v34 ⟨k34, ok, hdr, hdec, hbel⟩
                have G34 := hid hdec
                have GB34 : Hid (Below B w v34) := hid (XB33.out.trans hbel)
                clear c0 c1 c2 cf hdec hbel X33 XB33
                cases ok with
                | false =>
                  obtain ⟨⟨a, rfl⟩, hk⟩ := hdr
                  have hkn : k34 ≤ zs.length := by omega
                  clear hk
                  go_wp2
                  go_ret2
                  exact ⟨j, _, k34, RUN.out, NT.bad zs pos a k34, Q4.bad hkn HSP.out, G34.out, GB34.out⟩
                | true =>
                  obtain ⟨rfl, hk, hrk⟩ := hdr
                  have hkn := hrk.len
                  clear hrk
                  obtain ⟨c0, c1, c2, cf⟩ := G34.out.cells
                  have hle : pos ≤ k34 := by omega
                  have hleN : k34 ≤ zs.length := by omega
                  have hsl := fun w => slice_lh db zs.length pos k34 hle hleN hpos w
                  have hcv := fun q => conv_part G34.out.hb pos k34 (zs.length - pos) hle hleN q
                  have hi0 : (pos : Int) ≤ (k34 : Int) := by omega
                  have hi1 : (k34 : Int) ≤ (zs.length : Int) := by omega
                  go_wp2
                  go_quiet (fail)
                  go_wp2
                  go_ret2
                  exact ⟨j, _, k34, RUN.out, NT.good zs pos k34, Q4.good hleN (by omega) HSP.out, G34.out.draw _, GB34.out.trans (below_drewN _ _)⟩
              | false =>
                cases t6 : (zs[m31] == 45) with
                | true =>
                  go_quiet (fail)
                  generalize hx : World.drewN x31 nq = y35
                  have Y35 : Hid (Dec y35 w.heap.size D db zs m31) := by rw [← hx]; exact hid (X31.out.draw _)
                  have YB35 : Hid (Below B w y35) := by rw [← hx]; exact hid (XB31.out.trans (below_drewN _ _))
                  clear hx c0 c1 c2 cf X31 XB31 cb
                  obtain ⟨c0, c1, c2, cf⟩ := Y35.out.cells
                  go_wp2_with fail
                  have hs36 : Dec (y35.setCell ⟨D, 1, none⟩ (.int .i64 ((m31 : Int) + 1))) w.heap.size D db zs (m31 + 1) := Y35.out.set (m31 + 1)
                  have hb36 : Below B w (y35.setCell ⟨D, 1, none⟩ (.int .i64 ((m31 : Int) + 1))) := YB35.out.setCell hB _
                  generalize y35.setCell ⟨D, 1, none⟩ (.int .i64 ((m31 : Int) + 1)) = x36 at hs36 hb36 ⊢
                  obtain ⟨m36, hm36⟩ : ∃ m, m31 + 1 = m := ⟨_, rfl⟩
                  rw [hm36] at hs36
                  have X36 := hid hs36
                  have XB36 := hid hb36
                  have M36 := hid hm36
                  have hlo36 : j < m36 := by omega
                  have hhi36 : m36 ≤ zs.length := by omega
                  clear c0 c1 c2 cf hs36 hb36 hm36 Y35 YB35
                  obtain ⟨c0, c1, c2, cf⟩ := X36.out.cells
                  refine (digits F w.heap.size D db zs m36 B _ X36.out hl HZ.out ?_ HS.out hB).mono ?_
                  · exact (show F.answers x36.tape by rw [XB36.out.tape]; exact HF.out)
                  rintro e v37 ⟨k37, ok, hdr, hdec, hbel⟩
                  have G37 := hid hdec
                  have GB37 : Hid (Below B w v37) := hid (XB36.out.trans hbel)
                  clear c0 c1 c2 cf hdec hbel X36 XB36
                  cases ok with
                  | false =>
                    obtain ⟨⟨a, rfl⟩, hk⟩ := hdr
                    have hkn : k37 ≤ zs.length := by omega
                    clear hk
                    go_wp2
                    go_ret2
                    exact ⟨j, _, k37, RUN.out, NT.bad zs pos a k37, Q4.bad hkn HSP.out, G37.out, GB37.out⟩
                  | true =>
                    obtain ⟨rfl, hk, hrk⟩ := hdr
                    have hkn := hrk.len
                    clear hrk
                    obtain ⟨c0, c1, c2, cf⟩ := G37.out.cells
                    have hle : pos ≤ k37 := by omega
                    have hleN : k37 ≤ zs.length := by omega
                    have hsl := fun w => slice_lh db zs.length pos k37 hle hleN hpos w
                    have hcv := fun q => conv_part G37.out.hb pos k37 (zs.length - pos) hle hleN q
                    have hi0 : (pos : Int) ≤ (k37 : Int) := by omega
                    have hi1 : (k37 : Int) ≤ (zs.length : Int) := by omega
                    go_wp2
                    go_quiet (fail)
                    go_wp2
                    go_ret2
                    exact ⟨j, _, k37, RUN.out, NT.good zs pos k37, Q4.good hleN (by omega) HSP.out, G37.out.draw _, GB37.out.trans (below_drewN _ _)⟩
                | false =>
                  go_quiet (fail)
                  generalize hx : World.drewN x31 nq = y38
                  have Y38 : Hid (Dec y38 w.heap.size D db zs m31) := by rw [← hx]; exact hid (X31.out.draw _)
                  have YB38 : Hid (Below B w y38) := by rw [← hx]; exact hid (XB31.out.trans (below_drewN _ _))
                  clear hx c0 c1 c2 cf X31 XB31 cb
                  obtain ⟨c0, c1, c2, cf⟩ := Y38.out.cells
                  go_wp2_with fail
                  refine (digits F w.heap.size D db zs m31 B _ Y38.out hl HZ.out ?_ HS.out hB).mono ?_
                  · exact (show F.answers y38.tape by rw [YB38.out.tape]; exact HF.out)
                  rintro e v39 ⟨k39, ok, hdr, hdec, hbel⟩
                  have G39 := hid hdec
                  have GB39 : Hid (Below B w v39) := hid (YB38.out.trans hbel)
                  clear c0 c1 c2 cf hdec hbel Y38 YB38
                  cases ok with
                  | false =>
                    obtain ⟨⟨a, rfl⟩, hk⟩ := hdr
                    have hkn : k39 ≤ zs.length := by omega
                    clear hk
                    go_wp2
                    go_ret2
                    exact ⟨j, _, k39, RUN.out, NT.bad zs pos a k39, Q4.bad hkn HSP.out, G39.out, GB39.out⟩
                  | true =>
                    obtain ⟨rfl, hk, hrk⟩ := hdr
                    have hkn := hrk.len
                    clear hrk
                    obtain ⟨c0, c1, c2, cf⟩ := G39.out.cells
                    have hle : pos ≤ k39 := by omega
                    have hleN : k39 ≤ zs.length := by omega
                    have hsl := fun w => slice_lh db zs.length pos k39 hle hleN hpos w
                    have hcv := fun q => conv_part G39.out.hb pos k39 (zs.length - pos) hle hleN q
                    have hi0 : (pos : Int) ≤ (k39 : Int) := by omega
                    have hi1 : (k39 : Int) ≤ (zs.length : Int) := by omega
                    go_wp2
                    go_quiet (fail)
                    go_wp2
                    go_ret2
                    exact ⟨j, _, k39, RUN.out, NT.good zs pos k39, Q4.good hleN (by omega) HSP.out, G39.out.draw _, GB39.out.trans (below_drewN _ _)⟩
            · have hI : (zs.length : Int) ≤ (m31 : Int) := by omega
              go_quiet (fail)
              generalize hx : World.drewN x31 nq = y40
              have Y40 : Hid (Dec y40 w.heap.size D db zs m31) := by rw [← hx]; exact hid (X31.out.draw _)
              have YB40 : Hid (Below B w y40) := by rw [← hx]; exact hid (XB31.out.trans (below_drewN _ _))
              clear hx c0 c1 c2 cf X31 XB31
              obtain ⟨c0, c1, c2, cf⟩ := Y40.out.cells
              go_wp2_with fail
              refine (digits F w.heap.size D db zs m31 B _ Y40.out hl HZ.out ?_ HS.out hB).mono ?_
              · exact (show F.answers y40.tape by rw [YB40.out.tape]; exact HF.out)
              rintro e v41 ⟨k41, ok, hdr, hdec, hbel⟩
              have G41 := hid hdec
              have GB41 : Hid (Below B w v41) := hid (YB40.out.trans hbel)
              clear c0 c1 c2 cf hdec hbel Y40 YB40
              cases ok with
              | false =>
                obtain ⟨⟨a, rfl⟩, hk⟩ := hdr
                have hkn : k41 ≤ zs.length := by omega
                clear hk
                go_wp2
                go_ret2
                exact ⟨j, _, k41, RUN.out, NT.bad zs pos a k41, Q4.bad hkn HSP.out, G41.out, GB41.out⟩
              | true =>
                obtain ⟨rfl, hk, hrk⟩ := hdr
                have hkn := hrk.len
                clear hrk
                obtain ⟨c0, c1, c2, cf⟩ := G41.out.cells
                have hle : pos ≤ k41 := by omega
                have hleN : k41 ≤ zs.length := by omega
                have hsl := fun w => slice_lh db zs.length pos k41 hle hleN hpos w
                have hcv := fun q => conv_part G41.out.hb pos k41 (zs.length - pos) hle hleN q
                have hi0 : (pos : Int) ≤ (k41 : Int) := by omega
                have hi1 : (k41 : Int) ≤ (zs.length : Int) := by omega
                go_wp2
                go_quiet (fail)
                go_wp2
                go_ret2
                exact ⟨j, _, k41, RUN.out, NT.good zs pos k41, Q4.good hleN (by omega) HSP.out, G41.out.draw _, GB41.out.trans (below_drewN _ _)⟩
          | false =>
            cases t4 : (zs[k29] == 69) with
            | true =>
              go_quiet (fail)
              generalize hx : World.drewN v29 nq = y42
              have Y42 : Hid (Dec y42 w.heap.size D db zs k29) := by rw [← hx]; exact hid (G29.out.draw _)
              have YB42 : Hid (Below B w y42) := by rw [← hx]; exact hid (GB29.out.trans (below_drewN _ _))
              clear hx c0 c1 c2 cf G29 GB29 cb
              obtain ⟨c0, c1, c2, cf⟩ := Y42.out.cells
              go_wp2
              have hs43 : Dec (y42.setCell ⟨D, 1, none⟩ (.int .i64 ((k29 : Int) + 1))) w.heap.size D db zs (k29 + 1) := Y42.out.set (k29 + 1)
              have hb43 : Below B w (y42.setCell ⟨D, 1, none⟩ (.int .i64 ((k29 : Int) + 1))) := YB42.out.setCell hB _
              generalize y42.setCell ⟨D, 1, none⟩ (.int .i64 ((k29 : Int) + 1)) = x43 at hs43 hb43 ⊢
              obtain ⟨m43, hm43⟩ : ∃ m, k29 + 1 = m := ⟨_, rfl⟩
              rw [hm43] at hs43
              have X43 := hid hs43
              have XB43 := hid hb43
              have M43 := hid hm43
              have hlo43 : j < m43 := by omega
              have hhi43 : m43 ≤ zs.length := by omega
              clear c0 c1 c2 cf hs43 hb43 hm43 Y42 YB42
              obtain ⟨c0, c1, c2, cf⟩ := X43.out.cells
              by_cases hsl : m43 < zs.length
              · have cb := X43.out.byte m43 hsl
                have hI : (m43 : Int) < (zs.length : Int) := by omega
                cases t5 : (zs[m43] == 43) with
                | true =>
                  go_quiet (fail)
                  generalize hx : World.drewN x43 nq = y44
                  have Y44 : Hid (Dec y44 w.heap.size D db zs m43) := by rw [← hx]; exact hid (X43.out.draw _)
                  have YB44 : Hid (Below B w y44) := by rw [← hx]; exact hid (XB43.out.trans (below_drewN _ _))
                  clear hx c0 c1 c2 cf X43 XB43 cb
                  obtain ⟨c0, c1, c2, cf⟩ := Y44.out.cells
                  go_wp2_with fail
                  have hs45 : Dec (y44.setCell ⟨D, 1, none⟩ (.int .i64 ((m43 : Int) + 1))) w.heap.size D db zs (m43 + 1) := Y44.out.set (m43 + 1)
                  have hb45 : Below B w (y44.setCell ⟨D, 1, none⟩ (.int .i64 ((m43 : Int) + 1))) := YB44.out.setCell hB _
                  generalize y44.setCell ⟨D, 1, none⟩ (.int .i64 ((m43 : Int) + 1)) = x45 at hs45 hb45 ⊢
                  obtain ⟨m45, hm45⟩ : ∃ m, m43 + 1 = m := ⟨_, rfl⟩
                  rw [hm45] at hs45
                  have X45 := hid hs45
                  have XB45 := hid hb45
                  have M45 := hid hm45
                  have hlo45 : j < m45 := by omega
                  have hhi45 : m45 ≤ zs.length := by omega
                  clear c0 c1 c2 cf hs45 hb45 hm45 Y44 YB44
                  obtain ⟨c0, c1, c2, cf⟩ := X45.out.cells
                  refine (digits F w.heap.size D db zs m45 B _ X45.out hl HZ.out ?_ HS.out hB).mono ?_
                  · exact (show F.answers x45.tape by rw [XB45.out.tape]; exact HF.out)
                  rintro e v46 ⟨k46, ok, hdr, hdec, hbel⟩
                  have G46 := hid hdec
                  have GB46 : Hid (Below B w v46) := hid (XB45.out.trans hbel)
                  clear c0 c1 c2 cf hdec hbel X45 XB45
                  cases ok with
                  | false =>
                    obtain ⟨⟨a, rfl⟩, hk⟩ := hdr
                    have hkn : k46 ≤ zs.length := by omega
                    clear hk
                    go_wp2
                    go_ret2
                    exact ⟨j, _, k46, RUN.out, NT.bad zs pos a k46, Q4.bad hkn HSP.out, G46.out, GB46.out⟩
                  | true =>
                    obtain ⟨rfl, hk, hrk⟩ := hdr
                    have hkn := hrk.len
                    clear hrk
                    obtain ⟨c0, c1, c2, cf⟩ := G46.out.cells
                    have hle : pos ≤ k46 := by omega
                    have hleN : k46 ≤ zs.length := by omega
                    have hsl := fun w => slice_lh db zs.length pos k46 hle hleN hpos w
                    have hcv := fun q => conv_part G46.out.hb pos k46 (zs.length - pos) hle hleN q
                    have hi0 : (pos : Int) ≤ (k46 : Int) := by omega
                    have hi1 : (k46 : Int) ≤ (zs.length : Int) := by omega
                    go_wp2
                    go_quiet (fail)
                    go_wp2
                    go_ret2
                    exact ⟨j, _, k46, RUN.out, NT.good zs pos k46, Q4.good hleN (by omega) HSP.out, G46.out.draw _, GB46.out.trans (below_drewN _ _)⟩
                | false =>
                  cases t6 : (zs[m43] == 45) with
                  | true =>
                    go_quiet (fail)
                    generalize hx : World.drewN x43 nq = y47
                    have Y47 : Hid (Dec y47 w.heap.size D db zs m43) := by rw [← hx]; exact hid (X43.out.draw _)
                    have YB47 : Hid (Below B w y47) := by rw [← hx]; exact hid (XB43.out.trans (below_drewN _ _))
                    clear hx c0 c1 c2 cf X43 XB43 cb
                    obtain ⟨c0, c1, c2, cf⟩ := Y47.out.cells
                    go_wp2_with fail
                    have hs48 : Dec (y47.setCell ⟨D, 1, none⟩ (.int .i64 ((m43 : Int) + 1))) w.heap.size D db zs (m43 + 1) := Y47.out.set (m43 + 1)
                    have hb48 : Below B w (y47.setCell ⟨D, 1, none⟩ (.int .i64 ((m43 : Int) + 1))) := YB47.out.setCell hB _
                    generalize y47.setCell ⟨D, 1, none⟩ (.int .i64 ((m43 : Int) + 1)) = x48 at hs48 hb48 ⊢
                    obtain ⟨m48, hm48⟩ : ∃ m, m43 + 1 = m := ⟨_, rfl⟩
                    rw [hm48] at hs48
                    have X48 := hid hs48
                    have XB48 := hid hb48
                    have M48 := hid hm48
                    have hlo48 : j < m48 := by omega
                    have hhi48 : m48 ≤ zs.length := by omega
                    clear c0 c1 c2 cf hs48 hb48 hm48 Y47 YB47
                    obtain ⟨c0, c1, c2, cf⟩ := X48.out.cells
                    refine (digits F w.heap.size D db zs m48 B _ X48.out hl HZ.out ?_ HS.out hB).mono ?_
                    · exact (show F.answers x48.tape by rw [XB48.out.tape]; exact HF.out)
                    rintro e v49 ⟨k49, ok, hdr, hdec, hbel⟩
                    have G49 := hid hdec
                    have GB49 : Hid (Below B w v49) := hid (XB48.out.trans hbel)
                    clear c0 c1 c2 cf hdec hbel X48 XB48
                    cases ok with
                    | false =>
                      obtain ⟨⟨a, rfl⟩, hk⟩ := hdr
                      have hkn : k49 ≤ zs.length := by omega
                      clear hk
                      go_wp2
                      go_ret2
                      exact ⟨j, _, k49, RUN.out, NT.bad zs pos a k49, Q4.bad hkn HSP.out, G49.out, GB49.out⟩
                    | true =>
                      obtain ⟨rfl, hk, hrk⟩ := hdr
                      have hkn := hrk.len
                      clear hrk
                      obtain ⟨c0, c1, c2, cf⟩ := G49.out.cells
                      have hle : pos ≤ k49 := by omega
                      have hleN : k49 ≤ zs.length := by omega
                      have hsl := fun w => slice_lh db zs.length pos k49 hle hleN hpos w
                      have hcv := fun q => conv_part G49.out.hb pos k49 (zs.length - pos) hle hleN q
                      have hi0 : (pos : Int) ≤ (k49 : Int) := by omega
                      have hi1 : (k49 : Int) ≤ (zs.length : Int) := by omega
                      go_wp2
                      go_quiet (fail)
                      go_wp2
                      go_ret2
                      exact ⟨j, _, k49, RUN.out, NT.good zs pos k49, Q4.good hleN (by omega) HSP.out, G49.out.draw _, GB49.out.trans (below_drewN _ _)⟩
                  | false =>
                    go_quiet (fail)
                    generalize hx : World.drewN x43 nq = y50
                    have Y50 : Hid (Dec y50 w.heap.size D db zs m43) := by rw [← hx]; exact hid (X43.out.draw _)
                    have YB50 : Hid (Below B w y50) := by rw [← hx]; exact hid (XB43.out.trans (below_drewN _ _))
                    clear hx c0 c1 c2 cf X43 XB43 cb
                    obtain ⟨c0, c1, c2, cf⟩ := Y50.out.cells
                    go_wp2_with fail
                    refine (digits F w.heap.size D db zs m43 B _ Y50.out hl HZ.out ?_ HS.out hB).mono ?_
                    · exact (show F.answers y50.tape by rw [YB50.out.tape]; exact HF.out)
                    rintro e v51 ⟨k51, ok, hdr, hdec, hbel⟩
                    have G51 := hid hdec
                    have GB51 : Hid (Below B w v51) := hid (YB50.out.trans hbel)
                    clear c0 c1 c2 cf hdec hbel Y50 YB50
                    cases ok with
                    | false =>
                      obtain ⟨⟨a, rfl⟩, hk⟩ := hdr
                      have hkn : k51 ≤ zs.length := by omega
                      clear hk
                      go_wp2
                      go_ret2
                      exact ⟨j, _, k51, RUN.out, NT.bad zs pos a k51, Q4.bad hkn HSP.out, G51.out, GB51.out⟩
                    | true =>
                      obtain ⟨rfl, hk, hrk⟩ := hdr
                      have hkn := hrk.len
                      clear hrk
                      obtain ⟨c0, c1, c2, cf⟩ := G51.out.cells
                      have hle : pos ≤ k51 := by omega
                      have hleN : k51 ≤ zs.length := by omega
                      have hsl := fun w => slice_lh db zs.length pos k51 hle hleN hpos w
                      have hcv := fun q => conv_part G51.out.hb pos k51 (zs.length - pos) hle hleN q
                      have hi0 : (pos : Int) ≤ (k51 : Int) := by omega
                      have hi1 : (k51 : Int) ≤ (zs.length : Int) := by omega
                      go_wp2
                      go_quiet (fail)
                      go_wp2
                      go_ret2
                      exact ⟨j, _, k51, RUN.out, NT.good zs pos k51, Q4.good hleN (by omega) HSP.out, G51.out.draw _, GB51.out.trans (below_drewN _ _)⟩
              · have hI : (zs.length : Int) ≤ (m43 : Int) := by omega
                go_quiet (fail)
                generalize hx : World.drewN x43 nq = y52
                have Y52 : Hid (Dec y52 w.heap.size D db zs m43) := by rw [← hx]; exact hid (X43.out.draw _)
                have YB52 : Hid (Below B w y52) := by rw [← hx]; exact hid (XB43.out.trans (below_drewN _ _))
                clear hx c0 c1 c2 cf X43 XB43
                obtain ⟨c0, c1, c2, cf⟩ := Y52.out.cells
                go_wp2_with fail
                refine (digits F w.heap.size D db zs m43 B _ Y52.out hl HZ.out ?_ HS.out hB).mono ?_
                · exact (show F.answers y52.tape by rw [YB52.out.tape]; exact HF.out)
                rintro e v53 ⟨k53, ok, hdr, hdec, hbel⟩
                have G53 := hid hdec
                have GB53 : Hid (Below B w v53) := hid (YB52.out.trans hbel)
                clear c0 c1 c2 cf hdec hbel Y52 YB52
                cases ok with
                | false =>
                  obtain ⟨⟨a, rfl⟩, hk⟩ := hdr
                  have hkn : k53 ≤ zs.length := by omega
                  clear hk
                  go_wp2
                  go_ret2
                  exact ⟨j, _, k53, RUN.out, NT.bad zs pos a k53, Q4.bad hkn HSP.out, G53.out, GB53.out⟩
                | true =>
                  obtain ⟨rfl, hk, hrk⟩ := hdr
                  have hkn := hrk.len
                  clear hrk
                  obtain ⟨c0, c1, c2, cf⟩ := G53.out.cells
                  have hle : pos ≤ k53 := by omega
                  have hleN : k53 ≤ zs.length := by omega
                  have hsl := fun w => slice_lh db zs.length pos k53 hle hleN hpos w
                  have hcv := fun q => conv_part G53.out.hb pos k53 (zs.length - pos) hle hleN q
                  have hi0 : (pos : Int) ≤ (k53 : Int) := by omega
                  have hi1 : (k53 : Int) ≤ (zs.length : Int) := by omega
                  go_wp2
                  go_quiet (fail)
                  go_wp2
                  go_ret2
                  exact ⟨j, _, k53, RUN.out, NT.good zs pos k53, Q4.good hleN (by omega) HSP.out, G53.out.draw _, GB53.out.trans (below_drewN _ _)⟩
            | false =>
              go_quiet (fail)
              generalize hx : World.drewN v29 nq = y54
              have Y54 : Hid (Dec y54 w.heap.size D db zs k29) := by rw [← hx]; exact hid (G29.out.draw _)
              have YB54 : Hid (Below B w y54) := by rw [← hx]; exact hid (GB29.out.trans (below_drewN _ _))
              clear hx c0 c1 c2 cf G29 GB29 cb
              obtain ⟨c0, c1, c2, cf⟩ := Y54.out.cells
              have hle : pos ≤ k29 := by omega
              have hleN : k29 ≤ zs.length := by omega
              have hsl := fun w => slice_lh db zs.length pos k29 hle hleN hpos w
              have hcv := fun q => conv_part Y54.out.hb pos k29 (zs.length - pos) hle hleN q
              have hi0 : (pos : Int) ≤ (k29 : Int) := by omega
              have hi1 : (k29 : Int) ≤ (zs.length : Int) := by omega
              go_wp2
              go_quiet (fail)
              go_wp2
              go_ret2
              exact ⟨j, _, k29, RUN.out, NT.good zs pos k29, Q4.good hleN (by omega) HSP.out, Y54.out.draw _, YB54.out.trans (below_drewN _ _)⟩
        · have hI : (zs.length : Int) ≤ (k29 : Int) := by omega
          go_quiet (fail)
          generalize hx : World.drewN v29 nq = y55
          have Y55 : Hid (Dec y55 w.heap.size D db zs k29) := by rw [← hx]; exact hid (G29.out.draw _)
          have YB55 : Hid (Below B w y55) := by rw [← hx]; exact hid (GB29.out.trans (below_drewN _ _))
          clear hx c0 c1 c2 cf G29 GB29
          obtain ⟨c0, c1, c2, cf⟩ := Y55.out.cells
          have hle : pos ≤ k29 := by omega
          have hleN : k29 ≤ zs.length := by omega
          have hsl := fun w => slice_lh db zs.length pos k29 hle hleN hpos w
          have hcv := fun q => conv_part Y55.out.hb pos k29 (zs.length - pos) hle hleN q
          have hi0 : (pos : Int) ≤ (k29 : Int) := by omega
          have hi1 : (k29 : Int) ≤ (zs.length : Int) := by omega
          go_wp2
          go_quiet (fail)
          go_wp2
          go_ret2
          exact ⟨j, _, k29, RUN.out, NT.good zs pos k29, Q4.good hleN (by omega) HSP.out, Y55.out.draw _, YB55.out.trans (below_drewN _ _)⟩
  · have hI : (zs.length : Int) ≤ (j : Int) := by omega
    go_quiet (fail)
    generalize hx : World.drewN w2 nq = y56
    have Y56 : Hid (Dec y56 w.heap.size D db zs j) := by rw [← hx]; exact hid (H2.out.draw _)
    have YB56 : Hid (Below B w y56) := by rw [← hx]; exact hid (HB2.out.trans (below_drewN _ _))
    clear hx c0 c1 c2 cf H2 HB2
    obtain ⟨c0, c1, c2, cf⟩ := Y56.out.cells
    go_wp2
    go_quiet (fail)
    generalize hx : World.drewN y56 nq = y57
    have Y57 : Hid (Dec y57 w.heap.size D db zs j) := by rw [← hx]; exact hid (Y56.out.draw _)
    have YB57 : Hid (Below B w y57) := by rw [← hx]; exact hid (YB56.out.trans (below_drewN _ _))
    clear hx c0 c1 c2 cf Y56 YB56
    obtain ⟨c0, c1, c2, cf⟩ := Y57.out.cells
    have hle : pos ≤ j := by omega
    have hleN : j ≤ zs.length := by omega
    have hsl := fun w => slice_lh db zs.length pos j hle hleN hpos w
    have hcv := fun q => conv_part Y57.out.hb pos j (zs.length - pos) hle hleN q
    have hi0 : (pos : Int) ≤ (j : Int) := by omega
    have hi1 : (j : Int) ≤ (zs.length : Int) := by omega
    go_wp2
    go_quiet (fail)
    go_wp2
    go_ret2
    exact ⟨j, _, j, RUN.out, NT.good zs pos j, Q4.same hjn (spec_out hjl), Y57.out.draw _, YB57.out.trans (below_drewN _ _)⟩
end Go.Proofs.Qxb6615752aFmt
