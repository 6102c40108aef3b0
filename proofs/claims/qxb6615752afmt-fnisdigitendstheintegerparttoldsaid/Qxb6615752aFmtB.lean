/-
  Seat b6615752aF. The closure 'digits' of numberText.
-/
import Derived.Test.Qxb6615752aFmtA
namespace Go.Proofs.Qxb6615752aFmt
open Go.RowKit Go.Extern.Stop Go.Stop Go.Extern

/-- From p the digits run up to k. -/
structure Run (zs : List Int) (p k : Nat) : Prop where
  le : p ≤ k
  len : k ≤ zs.length
  all : ∀ i, p ≤ i → i < k → digitB (zs.getD i 0) = true
  stop : k < zs.length → digitB (zs.getD k 0) = false
theorem Run.unique {zs : List Int} {p k k' : Nat} (h : Run zs p k) (h' : Run zs p k') : k = k' := by
  rcases Nat.lt_trichotomy k k' with g | g | g
  · have h1 := h'.all k h.le g
    rw [h.stop (by have := h'.len; omega)] at h1
    cases h1
  · exact g
  · have h1 := h.all k' h'.le g
    rw [h'.stop (by have := h.len; omega)] at h1
    cases h1
def posOf (w : World) (D : Nat) : Nat := match w.cell? ⟨D, 1, none⟩ with | some v => (intOf v).toNat | none => 0
theorem Dec.pos {w : World} {pb D db : Nat} {zs : List Int} {p : Nat} (h : Dec w pb D db zs p) : posOf w D = p := by
  unfold posOf
  rw [h.cells.2.2.1]
  simp [intOf]
theorem getD_eq (zs : List Int) (p : Nat) (h : p < zs.length) : zs.getD p 0 = zs[p] := by simp [List.getD, h]

set_option maxHeartbeats 1000000 in
theorem digits_ok (pb D db : Nat) (zs : List Int) (p B : Nat) (w : World) (h : Dec w pb D db zs p) (hl : zs.length ≤ 1048576) (hp : p < zs.length) (hd : digitB zs[p] = true) (hB : B ≤ D) :
    Calls Tryf.prog 10 #[.pointer (some ⟨pb, 0, none⟩)] w fun e w' => e = .returned .nilIface ∧ ∃ k, p < k ∧ Run zs p k ∧ Dec w' pb D db zs k ∧ Below B w w' := by
  obtain ⟨c0, c1, c2, cf⟩ := h.cells
  have cb := h.byte p hp
  have H := hid h
  have hI : (p : Int) < (zs.length : Int) := by omega
  have hge : decide ((zs.length : Int) ≤ (p : Int)) = false := by simp; omega
  clear h
  go_enter Tryf.func10, Tryf.ntmps10
  go_wp2
  go_quiet ((go_at_call 9; refine Calls.quiet_of_same (isDigit zs[p] _)))
  clear c0 c1 c2 cf cb hI hge
  go_wp2
  go_loopw [] (fun wr => ∃ (k : Nat), p ≤ k ∧ k ≤ zs.length ∧ (∀ i, p ≤ i → i < k → digitB (zs.getD i 0) = true) ∧ Dec wr pb D db zs k ∧ Below B w wr) (fun wr => zs.length - posOf wr D)
  case atStart => exact ⟨p, Nat.le_refl _, by omega, fun i h1 h2 => by omega, H.out.draw _, below_drewN _ _⟩
  case round =>
    obtain ⟨k, hk0, hk1, hall, hdec, hbel⟩ := hrel
    obtain ⟨c0, c1, c2, cf⟩ := hdec.cells
    have HD := hid hdec
    have HB := hid hbel
    have HA := hid hall
    clear hall hbel
    by_cases hlt : k < zs.length
    · have cb := hdec.byte k hlt
      have hI : (k : Int) < (zs.length : Int) := by omega
      cases hdk : digitB zs[k] with
      | true =>
        clear hdec
        go_wp2
        go_quiet ((go_at_call 9; refine Calls.quiet_of_same (isDigit zs[k] _)))
        go_wp2
        have hs : Dec ((wr.drewN nq).setCell ⟨D, 1, none⟩ (.int .i64 ((k : Int) + 1))) pb D db zs (k + 1) := (HD.out.draw nq).set (k + 1)
        refine ⟨⟨k + 1, by omega, by omega, fun i h1 h2 => ?_, hs, (HB.out.trans (below_drewN wr nq)).setCell hB _⟩, ?_⟩
        · by_cases hik : i < k
          · exact HA.out i h1 hik
          · obtain rfl : i = k := by omega
            rw [getD_eq zs i hlt, hdk]
        · rw [hs.pos, HD.out.pos]
          omega
      | false =>
        clear hdec
        go_wp2
        go_quiet ((go_at_call 9; refine Calls.quiet_of_same (isDigit zs[k] _)))
        go_wp2
        go_ret
        refine ⟨rfl, k, ?_, ⟨hk0, hk1, HA.out, fun _ => by rw [getD_eq zs k hlt, hdk]⟩, HD.out.draw _, HB.out.trans (below_drewN wr nq)⟩
        rcases Nat.eq_or_lt_of_le hk0 with e | e
        · subst e
          rw [hd] at hdk
          cases hdk
        · exact e
    · obtain rfl : k = zs.length := by omega
      clear hdec
      have hge : ¬ (zs.length : Int) < (zs.length : Int) := by omega
      go_wp2
      go_quiet (fail)
      go_wp2
      go_ret
      exact ⟨rfl, _, hp, ⟨hk0, hk1, HA.out, fun hh => by omega⟩, HD.out.draw _, HB.out.trans (below_drewN wr nq)⟩

set_option maxHeartbeats 1000000 in
theorem digits_byte (F : Interp) (pb D db : Nat) (zs : List Int) (p B : Nat) (w : World) (h : Dec w pb D db zs p) (hp : p < zs.length) (hd : digitB zs[p] = false) (hz : Bytes zs) (hF : F.answers w.tape) (hS : Short F) (hB : B ≤ D) :
    Calls Tryf.prog 10 #[.pointer (some ⟨pb, 0, none⟩)] w fun e w' => ER e ∧ Dec w' pb D db zs p ∧ Below B w w' := by
  obtain ⟨c0, c1, c2, cf⟩ := h.cells
  have cb := h.byte p hp
  have H := hid h
  have HE := hid (fun q => synErr F pb D db zs p (w.drewN q) (h.draw q) hz hF hS)
  have hI : (p : Int) < (zs.length : Int) := by omega
  clear h hF hS hz
  go_enter Tryf.func10, Tryf.ntmps10
  go_wp2
  go_quiet ((go_at_call 9; refine Calls.quiet_of_same (isDigit zs[p] _)))
  go_wp2_with fail
  refine (HE.out nq).mono ?_
  rintro e w' ⟨⟨a, rfl⟩, hb⟩
  have hb2 : Below w.heap.size w w' := (below_drewN w nq).trans hb
  clear hb
  have HD := hid (H.out.below hb2 (Nat.le_refl _))
  have HB := hid hb2
  have hBs : B ≤ w.heap.size := by have := heap_lt H.out.hd; omega
  clear hb2
  go_wp2
  go_ret
  exact ⟨⟨_, rfl⟩, HD.out, HB.out.mono hBs⟩

set_option maxHeartbeats 1000000 in
theorem digits_end (F : Interp) (pb D db : Nat) (zs : List Int) (p B : Nat) (w : World) (h : Dec w pb D db zs p) (hp : zs.length ≤ p) (hz : Bytes zs) (hF : F.answers w.tape) (hS : Short F) (hB : B ≤ D) :
    Calls Tryf.prog 10 #[.pointer (some ⟨pb, 0, none⟩)] w fun e w' => ER e ∧ Dec w' pb D db zs p ∧ Below B w w' := by
  obtain ⟨c0, c1, c2, cf⟩ := h.cells
  have H := hid h
  have HE := hid (fun q => synErr F pb D db zs p (w.drewN q) (h.draw q) hz hF hS)
  have hI : (zs.length : Int) ≤ (p : Int) := by omega
  clear h hF hS hz
  go_enter Tryf.func10, Tryf.ntmps10
  go_wp2
  go_quiet (fail)
  go_wp2_with fail
  refine (HE.out nq).mono ?_
  rintro e w' ⟨⟨a, rfl⟩, hb⟩
  have hb2 : Below w.heap.size w w' := (below_drewN w nq).trans hb
  clear hb
  have HD := hid (H.out.below hb2 (Nat.le_refl _))
  have HB := hid hb2
  have hBs : B ≤ w.heap.size := by have := heap_lt H.out.hd; omega
  clear hb2
  go_wp2
  go_ret
  exact ⟨⟨_, rfl⟩, HD.out, HB.out.mono hBs⟩

/-- What 'digits' answers. -/
def DR (zs : List Int) (p : Nat) (e : Ending) (k : Nat) (ok : Bool) : Prop := if ok then e = .returned .nilIface ∧ p < k ∧ Run zs p k else ER e ∧ k = p
theorem digits (F : Interp) (pb D db : Nat) (zs : List Int) (p B : Nat) (w : World) (h : Dec w pb D db zs p) (hl : zs.length ≤ 1048576) (hz : Bytes zs) (hF : F.answers w.tape) (hS : Short F) (hB : B ≤ D) :
    Calls Tryf.prog 10 #[.pointer (some ⟨pb, 0, none⟩)] w fun e w' => ∃ k ok, DR zs p e k ok ∧ Dec w' pb D db zs k ∧ Below B w w' := by
  by_cases hp : p < zs.length
  · cases hd : digitB zs[p] with
    | true =>
      refine (digits_ok pb D db zs p B w h hl hp hd hB).mono ?_
      rintro e w' ⟨he, k, h1, h2, h3, h4⟩
      exact ⟨k, true, ⟨he, h1, h2⟩, h3, h4⟩
    | false =>
      refine (digits_byte F pb D db zs p B w h hp hd hz hF hS hB).mono ?_
      rintro e w' ⟨he, h3, h4⟩
      exact ⟨p, false, ⟨he, rfl⟩, h3, h4⟩
  · refine (digits_end F pb D db zs p B w h (by omega) hz hF hS hB).mono ?_
    rintro e w' ⟨he, h3, h4⟩
    exact ⟨p, false, ⟨he, rfl⟩, h3, h4⟩
end Go.Proofs.Qxb6615752aFmt
