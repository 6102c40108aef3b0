/-
  Seat b6615619a. tailZeroB1, sameListsB1.
-/
import Derived.Test.Qxb6615619aRLaw4
namespace Go.Proofs.Qxb6615619aR
open Go.RowKit

set_option maxHeartbeats 1000000 in
theorem tailZero (so : Option Addr) (db n c m : Nat) (els : List El) (w : World) (hS : Blk w so db els (List.replicate (n - m) eZ)) (hl : els.length = m) (hm : m ≤ n) (hn : n ≤ 1048576) :
    Calls Try.prog 12 #[.slice so n c, .int .i64 m] w fun e w' => e = .returned (.bool true) ∧ w' = w := by
  have hq := fun w => Lib.run_eql_slice_nil (P := Try.prog) w 38 9 none 0 0 0 0 Try.underlying38
  have hgt : ¬ (n : Int) < (m : Int) := by omega
  have HS := hid hS
  clear hS
  go_enter Try.func12, Try.ntmps12
  go_wp2
  go_loop [5] (fun q => ∃ (k : Nat), q = .int .i64 k ∧ m ≤ k ∧ k ≤ n) (fun q => n - (intOf q).toNat)
  case atStart => exact ⟨m, rfl, Nat.le_refl _, hm⟩
  case round =>
    obtain ⟨k, rfl, hk0, hk⟩ := hrel
    by_cases hlt : k < n
    · cases so with
      | none =>
        exfalso
        have h := (HS.out.nil rfl).2
        have := congrArg List.length h
        simp at this
        omega
      | some a =>
        obtain ⟨rfl, hr⟩ := HS.out.some a rfl
        obtain ⟨c0, c1, c2⟩ := row_cell hr k (by simp; omega)
        have hz : (els.map eT ++ List.replicate (n - m) eZ)[k]'(by simp; omega) = eZ := by
          rw [List.getElem_append_right (by simp; omega)]
          simp
        rw [hz] at c0 c1 c2
        simp only [eZ] at c0 c1 c2
        clear hr hz
        have hI : (k : Int) < (n : Int) := by omega
        go_wp2
        exact ⟨⟨k + 1, by go_num, by omega, by omega⟩, by simp [intOf]; omega⟩
    · obtain rfl : k = n := by omega
      go_wp2
      go_ret
      exact ⟨rfl, rfl⟩

set_option maxHeartbeats 1000000 in
theorem sameLists (sw sl : Option Addr) (cw cl n : Nat) (ws ls : List El) (w : World) (hW : Sl w sw ws) (hL : Sl w sl ls) (hlw : ws.length = n) (lL : ls.length ≤ 1048576) (hsm : ∀ e ∈ ws, lenBy e.by_) (hnn : sw.isNone = sl.isNone)
    (hcon : ws.map con = ls.map con) :
    Calls Try.prog 13 #[.slice sw n cw, .slice sl ls.length cl] w fun e w' => e = .returned (.bool true) ∧ Below w.heap.size w w' := by
  subst hlw
  have hln : ws.length = ls.length := len_of_con hcon
  have q1 := fun w => Lib.run_eql_slice_nil (P := Try.prog) w 27 45 sw ws.length cw 0 0 Try.underlying27
  have q2 := fun w => Lib.run_eql_slice_nil (P := Try.prog) w 27 45 sl ls.length cl 0 0 Try.underlying27
  rw [hln] at q1 ⊢
  obtain ⟨nb, hnb⟩ : ∃ nb, sl.isNone = nb := ⟨_, rfl⟩
  rw [hnn, hnb] at q1
  rw [hnb] at q2
  clear hnb hnn
  have LN := hid hln
  have CON := hid hcon
  have HW := hid hW
  have HL := hid hL
  have SM := hid hsm
  clear hcon hW hL hsm hln
  go_enter Try.func13, Try.ntmps13
  go_wp2
  go_loopw [5] (fun s7 wr => ∃ (k : Nat), s7 = .int .i64 k ∧ k ≤ ls.length ∧ Below w.heap.size w wr) (fun s7 _ => ls.length - (intOf s7).toNat)
  case atStart => exact ⟨0, rfl, Nat.zero_le _, Below.refl _ _⟩
  case round =>
    obtain ⟨k, rfl, hk, hbel⟩ := hrel
    have HB := hid hbel
    by_cases hlt : k < ls.length
    · have hwk : k < ws.length := by rw [LN.out]; exact hlt
      have hce : con ws[k] = con ls[k] := by
        have h := congrArg (fun l => l[k]?) CON.out
        simp only [List.getElem?_map, List.getElem?_eq_getElem hlt, List.getElem?_eq_getElem hwk, Option.map_some] at h
        exact Option.some.inj h
      simp only [con, Prod.mk.injEq] at hce
      obtain ⟨en, ei, eb⟩ := hce
      obtain ⟨b1, o1, hs1, hl1, hc1⟩ := (HW.out.below hbel (Nat.le_refl _)).pos (by omega)
      obtain ⟨b2, o2, hs2, hl2, hc2⟩ := (HL.out.below hbel (Nat.le_refl _)).pos (by omega)
      obtain ⟨r0, r1, r2⟩ := hc1 (k) hwk
      obtain ⟨f0, f1, f2⟩ := hc2 k hlt
      rw [en] at r0
      rw [ei] at r1
      have hga := (HW.out.good ws[k] (List.getElem_mem hwk)).below hbel (Nat.le_refl _)
      have hlb := SM.out ws[k] (List.getElem_mem hwk)
      rw [eb] at hga hlb
      have hgb := (HL.out.good ls[k] (List.getElem_mem hlt)).below hbel (Nat.le_refl _)
      have HS := hid (sameSubj ls[k].name ls[k].ing ws[k].ba ls[k].ba ws[k].bn ls[k].bn ws[k].bc ls[k].bc ls[k].by_ wr.drew hga hgb hlb)
      subst hs1
      subst hs2
      clear hc1 hc2 hga hgb hlb en ei eb hbel q1 q2
      have hI1 : (k : Int) < (ls.length : Int) := by omega
      go_wp2
      go_region_held3 (fun w' => w'.cell? ⟨b1, o1 + k * 3, none⟩ = some (.string ls[k].name) ∧ w'.cell? ⟨b1, o1 + k * 3 + 1, none⟩ = some (.string ls[k].ing) ∧ w'.cell? ⟨b1, o1 + k * 3 + 2, none⟩ = some (.slice ws[k].ba ws[k].bn ws[k].bc) ∧ w'.cell? ⟨b2, o2 + k * 3, none⟩ = some (.string ls[k].name) ∧ w'.cell? ⟨b2, o2 + k * 3 + 1, none⟩ = some (.string ls[k].ing) ∧ w'.cell? ⟨b2, o2 + k * 3 + 2, none⟩ = some (.slice ls[k].ba ls[k].bn ls[k].bc)) (go_keep)
        ((go_at_call 24; refine HS.out.mono ?_; rintro e w3 ⟨rfl, hb4⟩; have z0 := (hb4.cell (p := ⟨b1, o1 + k * 3, none⟩) hl1).trans r0; have z1 := (hb4.cell (p := ⟨b1, o1 + k * 3 + 1, none⟩) hl1).trans r1; have z2 := (hb4.cell (p := ⟨b1, o1 + k * 3 + 2, none⟩) hl1).trans r2; have y0 := (hb4.cell (p := ⟨b2, o2 + k * 3, none⟩) hl2).trans f0; have y1 := (hb4.cell (p := ⟨b2, o2 + k * 3 + 1, none⟩) hl2).trans f1; have y2 := (hb4.cell (p := ⟨b2, o2 + k * 3 + 2, none⟩) hl2).trans f2))
      all_goals
        go_wp2
        exact ⟨⟨k + 1, by go_num, by omega, HB.out.trans ((undrew hb4).mono HB.out.size)⟩, by simp [intOf]; omega⟩
    · obtain rfl : k = ls.length := by omega
      clear hbel
      go_wp2
      go_ret
      exact ⟨rfl, HB.out⟩
end Go.Proofs.Qxb6615619aR
