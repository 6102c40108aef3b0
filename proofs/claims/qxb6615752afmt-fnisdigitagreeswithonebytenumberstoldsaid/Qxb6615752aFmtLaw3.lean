/-
  Seat b6615752aF. FnIsDigitAgreesWithOneByteNumbers: the walk.
-/
import Derived.Test.Qxb6615752aFmtD
namespace Go.Proofs.Qxb6615752aFmt
open Go.RowKit Go.Extern.Stop Go.Stop Go.Extern

/-- A one-byte number. -/
structure O1 (c : Int) (s : ByteArray) (f : Bool) (k : Nat) : Prop where
  f : f = !digitB c
  s : s = if digitB c then strOfNums [c] else ⟨#[]⟩
  k : k = if digitB c || c == 45 then 1 else 0
def OP (c : Int) (w : World) (e : Ending) (w' : World) : Prop := ∃ f k s, e = .returned (.tuple #[.string s, .bool f, .int .i64 (k : Nat)]) ∧ O1 c s f k ∧ Below w.heap.size w w'

theorem one_num (F : Interp) (c : Int) (db : Nat) (w : World) (hb : w.heap[db]? = some (.cells #[.int .u8 c] 5 (0, 0))) (c0 : 0 ≤ c) (c1 : c ≤ 255) (hF : F.answers w.tape) (hS : Short F) :
    Calls Tryf.prog 5 #[.slice (some ⟨db, 0, none⟩) 1 1, .int .i64 0] w fun e w' => OP c w e w' := by
  have hlt := heap_lt hb
  have hd : (w.alloc (.cells #[.slice (some ⟨db, 0, none⟩) [c].length [c].length, .int .i64 (0 : Nat)] 29)).heap[w.heap.size]? = some (.cells #[.slice (some ⟨db, 0, none⟩) [c].length [c].length, .int .i64 (0 : Nat)] 29 (0, 0)) := heap_new _ _
  have hb1 : (w.alloc (.cells #[.slice (some ⟨db, 0, none⟩) [c].length [c].length, .int .i64 (0 : Nat)] 29)).heap[db]? = some (.cells (bytesA [c]) 5 (0, 0)) := (Below.heap_alloc _ _ _ hlt).trans hb
  have hne : db ≠ w.heap.size := by omega
  have hz : Bytes [c] := by intro z hz; simp at hz; subst hz; exact ⟨c0, c1⟩
  have hp : 0 < [c].length := by simp
  have hl : [c].length ≤ 1048576 := by simp
  cases hdc : digitB c with
  | true =>
    by_cases h48 : c = 48
    · have := zzNum db _ [c] 0 w.heap.size _ w (Nat.le_refl _) (num_zero w.heap.size db [c] 0 w.heap.size _ hd hb1 hne hl hp h48 rfl (Nat.le_refl _))
      refine this.mono ?_
      rintro e w' ⟨f, k, s, rfl, h1, h2, ⟨rfl, rfl⟩, hbel⟩
      exact ⟨_, _, _, rfl, ⟨by rw [hdc]; rfl, by rw [hdc]; exact h2 rfl, by rw [hdc]; rfl⟩, hbel⟩
    · have h49 : 49 ≤ c := by simp [digitB] at hdc; omega
      have h57 : c ≤ 57 := by simp [digitB] at hdc; omega
      have hn := num_dig F w.heap.size db [c] 0 w.heap.size _ hd hb1 hne hl hz hp h49 h57 hF hS (Nat.le_refl _)
      have := zzNum db _ [c] 0 w.heap.size (fun f k => ∃ j, Run [c] 0 j ∧ Q4 [c] j f k) w (Nat.le_refl _) (hn.mono (fun e w' ⟨j, f, k, h1, h2, h3, h4, h5⟩ => ⟨f, k, h2, ⟨j, h1, h3⟩, h4, h5⟩))
      refine this.mono ?_
      rintro e w' ⟨f, k, s, rfl, h1, h2, ⟨j, hr, hq⟩, hbel⟩
      obtain rfl : j = 1 := Run.unique hr ⟨by omega, by simp, fun i a b => by have : i = 0 := by omega
                                                                              subst this; simpa using hdc, fun h => by simp at h⟩
      obtain ⟨rfl, rfl⟩ := hq.plain (spec_end [c])
      exact ⟨_, _, _, rfl, ⟨by rw [hdc]; rfl, by rw [hdc]; exact h2 rfl, by rw [hdc]; rfl⟩, hbel⟩
  | false =>
    by_cases h45 : c = 45
    · have := zzNum db _ [c] 0 w.heap.size _ w (Nat.le_refl _) (num_minus F w.heap.size db [c] 0 w.heap.size _ hd hb1 hne hl hz hp h45 (by simp) hF hS (Nat.le_refl _))
      refine this.mono ?_
      rintro e w' ⟨f, k, s, rfl, h1, h2, ⟨rfl, rfl⟩, hbel⟩
      exact ⟨_, _, _, rfl, ⟨by rw [hdc]; rfl, by rw [hdc]; exact h1 rfl, by rw [hdc, h45]; rfl⟩, hbel⟩
    · have := zzNum db _ [c] 0 w.heap.size _ w (Nat.le_refl _) (num_other F w.heap.size db [c] 0 w.heap.size _ hd hb1 hne hz hp h45 hdc hF hS (Nat.le_refl _))
      refine this.mono ?_
      rintro e w' ⟨f, k, s, rfl, h1, h2, ⟨rfl, rfl⟩, hbel⟩
      exact ⟨_, _, _, rfl, ⟨by rw [hdc]; rfl, by rw [hdc]; exact h1 rfl, by rw [hdc]; simp [h45]⟩, hbel⟩

theorem conv_one {w : World} {db : Nat} {c : Int} (hb : w.heap[db]? = some (.cells #[.int .u8 c] 5 (0, 0))) :
    (convert 22 9 (.slice (some ⟨db, 0, none⟩) 1 1)).run Tryf.prog w = .ok (.string (strOfNums [c])) w :=
  run_convert_bytes_arg w 22 5 Tryf.underlying22 Tryf.underlying5 db 0 1 1 [c] rfl (fun i hi => by
    obtain rfl : i = 0 := by omega
    simp [World.cell?, hb]) 9 Tryf.underlying9

set_option maxHeartbeats 1000000 in
theorem law3 (F : Interp) (c : Int) (w : World) (c0 : 0 ≤ c) (c1 : c ≤ 255) (hF : F.answers w.tape) (hS : Short F) :
    Calls Tryf.prog 3 #[.int .u8 c] w fun e w' => e = .returned (.bool true) ∧ Below w.heap.size w w' := by
  have hb0 : (w.alloc (.cells #[.int .u8 c] 5)).heap[w.heap.size]? = some (.cells #[.int .u8 c] 5 (0, 0)) := heap_new _ _
  have HN := hid (one_num F c w.heap.size (w.alloc (.cells #[.int .u8 c] 5)) hb0 c0 c1 hF hS)
  have HB0 : Hid (Below w.heap.size w (w.alloc (.cells #[.int .u8 c] 5))) := hid ((Below.refl _ w).alloc (Nat.le_refl _) _)
  have H0 := hid hb0
  have hsz : Hid (w.heap.size < (w.alloc (.cells #[.int .u8 c] 5)).heap.size) := hid (by simp)
  clear hb0 hF hS
  go_enter Tryf.func3, Tryf.ntmps3
  go_wp2_with fail
  refine HN.out.mono ?_
  rintro e w2 ⟨f, k, s, rfl, hO, hbel⟩
  have hb2 : w2.heap[w.heap.size]? = some (.cells #[.int .u8 c] 5 (0, 0)) := (hbel.block _ hsz.out).trans H0.out
  have hcv := conv_one hb2
  have HB2 : Hid (Below w.heap.size w w2) := hid (HB0.out.trans (hbel.mono (Nat.le_of_lt hsz.out)))
  obtain ⟨hf, hs, hk⟩ := hO
  clear hbel hb2 HN H0 HB0 hsz
  cases hd : digitB c with
  | true =>
    rw [hd] at hf hs hk
    simp at hf hs hk
    subst hf hs hk
    have h1 : 48 ≤ c ∧ c ≤ 57 := by simpa [digitB] using hd
    obtain ⟨g0, g1⟩ := h1
    go_wp2_with fail
    refine (zzIsDigit c w2).mono ?_
    rintro e w3 ⟨rfl, hw⟩
    obtain rfl := hw.symm
    rw [hd]
    clear hw
    go_wp2
    go_ret
    exact ⟨rfl, HB2.out⟩
  | false =>
    rw [hd] at hf hs hk
    simp at hf hs hk
    subst hf hs
    have hout : c < 48 ∨ 57 < c := by simp [digitB] at hd; omega
    by_cases h45 : c = 45
    · subst h45
      simp at hk
      subst hk
      go_wp2_with fail
      refine (zzIsDigit 45 w2).mono ?_
      rintro e w3 ⟨rfl, hw⟩
      obtain rfl := hw.symm
      rw [hd]
      clear hw
      go_wp2
      go_ret
      exact ⟨rfl, HB2.out⟩
    · rw [if_neg h45] at hk
      subst hk
      have hq : (c == 45) = false := by simp; exact h45
      go_wp2_with fail
      refine (zzIsDigit c w2).mono ?_
      rintro e w3 ⟨rfl, hw⟩
      obtain rfl := hw.symm
      rw [hd]
      clear hw
      rcases hout with g | g
      · go_wp2
        go_ret
        exact ⟨rfl, HB2.out⟩
      · have g0 : 48 ≤ c := by omega
        go_wp2
        go_ret
        exact ⟨rfl, HB2.out⟩
end Go.Proofs.Qxb6615752aFmt
