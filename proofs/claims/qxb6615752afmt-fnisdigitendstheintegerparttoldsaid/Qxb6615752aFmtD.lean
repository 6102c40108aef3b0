/-
  Seat b6615752aF. numberText at the other one-byte numbers; ZZnumberText.
-/
import Derived.Test.Qxb6615752aFmtC
namespace Go.Proofs.Qxb6615752aFmt
open Go.RowKit Go.Extern.Stop Go.Stop Go.Extern

/-- What numberText leaves. -/
def NP (zs : List Int) (pos pb D db B : Nat) (w : World) (Q : Bool → Nat → Prop) (e : Ending) (w' : World) : Prop := ∃ f k, NT zs pos e f k ∧ Q f k ∧ Dec w' pb D db zs k ∧ Below B w w'

set_option maxHeartbeats 4000000 in
set_option maxRecDepth 100000 in
theorem num_other (F : Interp) (D db : Nat) (zs : List Int) (pos B : Nat) (w : World) (hd : w.heap[D]? = some (.cells #[.slice (some ⟨db, 0, none⟩) zs.length zs.length, .int .i64 pos] 29 (0, 0))) (hb : w.heap[db]? = some (.cells (bytesA zs) 5 (0, 0))) (hne : db ≠ D)
    (hz : Bytes zs) (hpos : pos < zs.length) (h1 : zs[pos] ≠ 45) (h9 : digitB zs[pos] = false) (hF : F.answers w.tape) (hS : Short F) (hB : B ≤ D) :
    Calls Tryf.prog 8 #[.pointer (some ⟨D, 0, none⟩)] w fun e w' => NP zs pos w.heap.size D db B w (fun f k => f = true ∧ k = pos) e w' := by
  have H0 := hid (Dec.start hd hb hne)
  have HB0 : Hid (Below B w (w.alloc (.cells #[.pointer (some ⟨D, 0, none⟩)] 27))) := hid ((Below.refl B w).alloc (by have := heap_lt hd; omega) _)
  obtain ⟨c0, c1, c2, cf⟩ := H0.out.cells
  have cb := H0.out.byte pos hpos
  have t1 : (zs[pos] == 45) = false := by simp; exact h1
  have t2 : (zs[pos] == 48) = false := by
    cases hh : (zs[pos] == 48) with
    | false => rfl
    | true => simp at hh; rw [hh] at h9; simp [digitB] at h9
  have TD := hid h9
  have hI : (pos : Int) < (zs.length : Int) := by omega
  have HF := hid hF
  have HS := hid hS
  have HZ := hid hz
  clear hd hb h1 h9 hF hS hz
  go_enter Tryf.func8, Tryf.ntmps8
  go_wp2
  generalize w.alloc (.cells #[.pointer (some ⟨D, 0, none⟩)] 27) = w1 at H0 HB0 c0 c1 c2 cf cb ⊢
  go_quiet (fail)
  go_wp2
  go_quiet (fail)
  go_wp2_with fail
  refine (digits_byte F w.heap.size D db zs pos B _ (H0.out.draw _) hpos TD.out HZ.out ?_ HS.out hB).mono ?_
  · exact (show F.answers w1.tape by rw [HB0.out.tape]; exact HF.out)
  rintro e w2 ⟨⟨a, rfl⟩, hdec, hbel⟩
  have G := hid hdec
  have GB : Hid (Below B w w2) := hid ((HB0.out.trans (below_drewN _ _)).trans hbel)
  clear hdec hbel
  go_wp2
  go_ret2
  exact ⟨_, _, NT.bad zs pos a pos, ⟨rfl, rfl⟩, G.out, GB.out⟩

set_option maxHeartbeats 4000000 in
set_option maxRecDepth 100000 in
theorem num_minus (F : Interp) (D db : Nat) (zs : List Int) (pos B : Nat) (w : World) (hd : w.heap[D]? = some (.cells #[.slice (some ⟨db, 0, none⟩) zs.length zs.length, .int .i64 pos] 29 (0, 0))) (hb : w.heap[db]? = some (.cells (bytesA zs) 5 (0, 0))) (hne : db ≠ D)
    (hl : zs.length ≤ 1048576) (hz : Bytes zs) (hpos : pos < zs.length) (h1 : zs[pos] = 45) (hend : zs.length ≤ pos + 1) (hF : F.answers w.tape) (hS : Short F) (hB : B ≤ D) :
    Calls Tryf.prog 8 #[.pointer (some ⟨D, 0, none⟩)] w fun e w' => NP zs pos w.heap.size D db B w (fun f k => f = true ∧ k = pos + 1) e w' := by
  have H0 := hid (Dec.start hd hb hne)
  have HB0 : Hid (Below B w (w.alloc (.cells #[.pointer (some ⟨D, 0, none⟩)] 27))) := hid ((Below.refl B w).alloc (by have := heap_lt hd; omega) _)
  obtain ⟨c0, c1, c2, cf⟩ := H0.out.cells
  have cb := H0.out.byte pos hpos
  have t1 : (zs[pos] == 45) = true := by simp; exact h1
  have hI : (pos : Int) < (zs.length : Int) := by omega
  have HF := hid hF
  have HS := hid hS
  have HZ := hid hz
  clear hd hb h1 hF hS hz
  go_enter Tryf.func8, Tryf.ntmps8
  go_wp2
  generalize w.alloc (.cells #[.pointer (some ⟨D, 0, none⟩)] 27) = w1 at H0 HB0 c0 c1 c2 cf cb ⊢
  go_quiet (fail)
  generalize hx : World.drewN w1 nq = y1
  have Y1 : Hid (Dec y1 w.heap.size D db zs pos) := by rw [← hx]; exact hid (H0.out.draw _)
  have YB1 : Hid (Below B w y1) := by rw [← hx]; exact hid (HB0.out.trans (below_drewN _ _))
  clear hx c0 c1 c2 cf cb t1 H0 HB0
  obtain ⟨c0, c1, c2, cf⟩ := Y1.out.cells
  go_wp2
  have hs1 : Dec (y1.setCell ⟨D, 1, none⟩ (.int .i64 ((pos : Int) + 1))) w.heap.size D db zs (pos + 1) := Y1.out.set (pos + 1)
  have hb1 : Below B w (y1.setCell ⟨D, 1, none⟩ (.int .i64 ((pos : Int) + 1))) := YB1.out.setCell hB _
  generalize y1.setCell ⟨D, 1, none⟩ (.int .i64 ((pos : Int) + 1)) = x1 at hs1 hb1 ⊢
  obtain ⟨m1, hm1⟩ : ∃ m, pos + 1 = m := ⟨_, rfl⟩
  rw [hm1] at hs1
  have X1 := hid hs1
  have XB1 := hid hb1
  have M1 := hid hm1
  have hge : zs.length ≤ m1 := by omega
  have hng : ¬ m1 < zs.length := by omega
  have hI2 : (zs.length : Int) ≤ (m1 : Int) := by omega
  clear c0 c1 c2 cf hs1 hb1 hm1 Y1 YB1
  obtain ⟨c0, c1, c2, cf⟩ := X1.out.cells
  go_quiet (fail)
  go_wp2_with fail
  refine (digits_end F w.heap.size D db zs m1 B _ (X1.out.draw _) hge HZ.out ?_ HS.out hB).mono ?_
  · exact (show F.answers x1.tape by rw [XB1.out.tape]; exact HF.out)
  rintro e w2 ⟨⟨a, rfl⟩, hdec, hbel⟩
  have G := hid hdec
  have GB : Hid (Below B w w2) := hid ((XB1.out.trans (below_drewN _ _)).trans hbel)
  clear hdec hbel
  go_wp2
  go_ret2
  exact ⟨_, _, NT.bad zs pos a m1, ⟨rfl, M1.out.symm⟩, G.out, GB.out⟩

set_option maxHeartbeats 4000000 in
set_option maxRecDepth 100000 in
theorem num_zero (D db : Nat) (zs : List Int) (pos B : Nat) (w : World) (hd : w.heap[D]? = some (.cells #[.slice (some ⟨db, 0, none⟩) zs.length zs.length, .int .i64 pos] 29 (0, 0))) (hb : w.heap[db]? = some (.cells (bytesA zs) 5 (0, 0))) (hne : db ≠ D)
    (hl : zs.length ≤ 1048576) (hpos : pos < zs.length) (h1 : zs[pos] = 48) (hend : zs.length = pos + 1) (hB : B ≤ D) :
    Calls Tryf.prog 8 #[.pointer (some ⟨D, 0, none⟩)] w fun e w' => NP zs pos w.heap.size D db B w (fun f k => f = false ∧ k = pos + 1) e w' := by
  have H0 := hid (Dec.start hd hb hne)
  have HB0 : Hid (Below B w (w.alloc (.cells #[.pointer (some ⟨D, 0, none⟩)] 27))) := hid ((Below.refl B w).alloc (by have := heap_lt hd; omega) _)
  obtain ⟨c0, c1, c2, cf⟩ := H0.out.cells
  have cb := H0.out.byte pos hpos
  have t0 : (zs[pos] == 45) = false := by rw [h1]; rfl
  have t1 : (zs[pos] == 48) = true := by simp; exact h1
  have hI : (pos : Int) < (zs.length : Int) := by omega
  have HEND := hid hend
  clear hd hb h1 hend
  go_enter Tryf.func8, Tryf.ntmps8
  go_wp2
  generalize w.alloc (.cells #[.pointer (some ⟨D, 0, none⟩)] 27) = w1 at H0 HB0 c0 c1 c2 cf cb ⊢
  go_quiet (fail)
  go_wp2
  go_quiet (fail)
  generalize hx : World.drewN _ nq = y1
  have Y1 : Hid (Dec y1 w.heap.size D db zs pos) := by rw [← hx]; exact hid ((H0.out.draw _).draw _)
  have YB1 : Hid (Below B w y1) := by rw [← hx]; exact hid ((HB0.out.trans (below_drewN _ _)).trans (below_drewN _ _))
  clear hx c0 c1 c2 cf cb t1 t0 H0 HB0
  obtain ⟨c0, c1, c2, cf⟩ := Y1.out.cells
  go_wp2
  have hs1 : Dec (y1.setCell ⟨D, 1, none⟩ (.int .i64 ((pos : Int) + 1))) w.heap.size D db zs (pos + 1) := Y1.out.set (pos + 1)
  have hb1 : Below B w (y1.setCell ⟨D, 1, none⟩ (.int .i64 ((pos : Int) + 1))) := YB1.out.setCell hB _
  generalize y1.setCell ⟨D, 1, none⟩ (.int .i64 ((pos : Int) + 1)) = x1 at hs1 hb1 ⊢
  obtain ⟨m1, hm1⟩ : ∃ m, pos + 1 = m := ⟨_, rfl⟩
  rw [hm1] at hs1
  have X1 := hid hs1
  have XB1 := hid hb1
  have M1 := hid hm1
  have hng : ¬ m1 < zs.length := by have := HEND.out; omega
  have hI2 : (zs.length : Int) ≤ (m1 : Int) := by have := HEND.out; omega
  have hle : pos ≤ m1 := by omega
  have hleN : m1 ≤ zs.length := by have := HEND.out; omega
  have hsl := fun w => slice_lh db zs.length pos m1 hle hleN hpos w
  have hcv := fun q => conv_part X1.out.hb pos m1 (zs.length - pos) hle hleN q
  have hi0 : (pos : Int) ≤ (m1 : Int) := by omega
  have hi1 : (m1 : Int) ≤ (zs.length : Int) := by omega
  clear c0 c1 c2 cf hs1 hb1 hm1 Y1 YB1
  obtain ⟨c0, c1, c2, cf⟩ := X1.out.cells
  go_quiet (fail)
  generalize hx : World.drewN x1 nq = y2
  have Y2 : Hid (Dec y2 w.heap.size D db zs m1) := by rw [← hx]; exact hid (X1.out.draw _)
  have YB2 : Hid (Below B w y2) := by rw [← hx]; exact hid (XB1.out.trans (below_drewN _ _))
  clear hx c0 c1 c2 cf X1 XB1 hcv
  obtain ⟨c0, c1, c2, cf⟩ := Y2.out.cells
  go_wp2
  go_quiet (fail)
  generalize hx : World.drewN y2 nq = y3
  have Y3 : Hid (Dec y3 w.heap.size D db zs m1) := by rw [← hx]; exact hid (Y2.out.draw _)
  have YB3 : Hid (Below B w y3) := by rw [← hx]; exact hid (YB2.out.trans (below_drewN _ _))
  clear hx c0 c1 c2 cf Y2 YB2
  obtain ⟨c0, c1, c2, cf⟩ := Y3.out.cells
  have hcv := fun q => conv_part Y3.out.hb pos m1 (zs.length - pos) hle hleN q
  go_wp2
  go_quiet (fail)
  go_wp2
  go_ret2
  exact ⟨_, m1, NT.good zs pos m1, ⟨rfl, M1.out.symm⟩, Y3.out.draw _, YB3.out.trans (below_drewN _ _)⟩

/-- What ZZnumberText leaves. -/
def ZP (zs : List Int) (pos B : Nat) (w : World) (Q : Bool → Nat → Prop) (e : Ending) (w' : World) : Prop := ∃ f k s, e = .returned (.tuple #[.string s, .bool f, .int .i64 (k : Nat)]) ∧ (f = true → s = ⟨#[]⟩) ∧ (f = false → s = strOfNums ((zs.drop pos).take (k - pos))) ∧ Q f k ∧ Below B w w'

set_option maxHeartbeats 1000000 in
theorem zzNum (db pb : Nat) (zs : List Int) (pos B : Nat) (Q : Bool → Nat → Prop) (w : World) (hB : B ≤ w.heap.size)
    (h : Calls Tryf.prog 8 #[.pointer (some ⟨w.heap.size, 0, none⟩)] (w.alloc (.cells #[.slice (some ⟨db, 0, none⟩) zs.length zs.length, .int .i64 pos] 29)) fun e w' => NP zs pos pb w.heap.size db B (w.alloc (.cells #[.slice (some ⟨db, 0, none⟩) zs.length zs.length, .int .i64 pos] 29)) Q e w') :
    Calls Tryf.prog 5 #[.slice (some ⟨db, 0, none⟩) zs.length zs.length, .int .i64 pos] w fun e w' => ZP zs pos B w Q e w' := by
  have H := hid h
  clear h
  go_enter Tryf.func5, Tryf.ntmps5
  go_wp2_with fail
  refine H.out.mono ?_
  rintro e w2 ⟨f, k, ⟨s, er, rfl, hnt⟩, hq, hdec, hbel⟩
  have GB : Hid (Below B w w2) := hid (((Below.refl B w).alloc hB _).trans hbel)
  obtain ⟨c0, c1, c2, cf⟩ := hdec.cells
  have HQ := hid hq
  clear hbel hdec hq H c0 cf
  rcases hnt with ⟨rfl, rfl, a, rfl⟩ | ⟨rfl, rfl, hs⟩
  · go_wp2
    go_quiet (fail)
    go_wp2
    go_ret3
    exact ⟨_, k, _, rfl, fun _ => rfl, (fun h => by cases h), HQ.out, GB.out.trans (below_drewN _ _)⟩
  · have HS := hid hs
    clear hs
    go_wp2
    go_quiet (fail)
    go_wp2
    go_ret3
    exact ⟨_, k, _, rfl, (fun h => by cases h), fun _ => HS.out, HQ.out, GB.out.trans (below_drewN _ _)⟩
end Go.Proofs.Qxb6615752aFmt
