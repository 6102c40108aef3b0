/-
  Seat b6615619a. TwoPassesAsOne: its guard.
-/
import Derived.Test.Qxb6615619aRLaw4
namespace Go.Proofs.Qxb6615619aR
open Go.RowKit
set_option maxHeartbeats 4000000 in
set_option maxRecDepth 100000 in
theorem zzB5 (su sg sh sk : Option Addr) (cu cg ch ck : Nat) (us gs : List El) (hs ks : List Gr) (w : World) (hU : Sl w su us) (hG : Sl w sg gs) (hH : Gl w sh hs) (hK : Gl w sk ks) (lu : us.length ≤ maxLen) (lg : gs.length ≤ maxLen) (lh : hs.length ≤ maxLen) (lk : ks.length ≤ maxLen) :
    Calls Try.prog 5 #[.slice su us.length cu, .slice sg gs.length cg, .slice sh hs.length ch, .slice sk ks.length ck] w fun e w' => ZR e (Small us ∧ Small gs ∧ GSmall hs ∧ GSmall ks) ∧ w' = w := by
  unfold maxLen at lu lg lh lk
  go_enter Try.func5, Try.ntmps5
  by_cases hu : (1048576 : Int) < (us.length : Int)
  · go_wp2
    go_ret
    exact ⟨ZR.no _, rfl⟩
  have hu0 : us.length ≤ 1048576 := by omega
  go_wp2
  go_loop [9, 10] (fun a q => ∃ (k : Nat) (ac : Int), k ≤ us.length ∧ q = .int .i64 k ∧ a = .int .i64 ac ∧ 0 ≤ ac ∧ ac ≤ 1048576 ∧ Upto us k) (fun _ q => us.length - (intOf q).toNat)
  case atStart => exact ⟨0, _, Nat.zero_le _, rfl, rfl, by omega, by omega, Upto.zero _⟩
  case round =>
    obtain ⟨k, ac, hk, rfl, rfl, ha0, ha1, hup⟩ := hrel
    have UP := hid hup
    clear hup
    by_cases hlt : k < us.length
    · obtain ⟨b, off, rfl, hb, hg⟩ := hU.pos (by omega)
      obtain ⟨c0, c1, c2⟩ := hg k hlt
      obtain ⟨a, c, hbv, _, hcs⟩ := (hU.good us[k] (List.getElem_mem hlt)).form
      rw [hbv] at c2
      clear hg hbv
      obtain ⟨nm, hnm⟩ : ∃ nm, nm = us[k].name := ⟨_, rfl⟩
      obtain ⟨gm, hgm⟩ : ∃ gm, gm = us[k].ing := ⟨_, rfl⟩
      obtain ⟨ss, hss⟩ : ∃ ss, ss = strs us[k].by_ := ⟨_, rfl⟩
      rw [← hnm] at c0
      rw [← hgm] at c1
      rw [← hss] at c2 hcs
      have HN := hid hnm
      have HG := hid hgm
      have HSS := hid hss
      clear hnm hgm hss
      go_wp2
      iterate 6 (focus (go_ret; exact ⟨ZR.no _, rfl⟩))
      go_loop [9, 11] (fun a q => ∃ (m : Nat) (ac : Int), m ≤ ss.length ∧ q = .int .i64 m ∧ a = .int .i64 ac ∧ 0 ≤ ac ∧ ac ≤ 1048576 ∧ UptoS ss m) (fun _ q => ss.length - (intOf q).toNat)
      case atStart => exact ⟨0, _, Nat.zero_le _, rfl, rfl, by omega, by omega, UptoS.zero _⟩
      case round =>
        obtain ⟨m, ac2, hm, rfl, rfl, hb0, hb1, hup2⟩ := hrel
        have US := hid hup2
        clear hup2
        by_cases hlt2 : m < ss.length
        · obtain ⟨b2, off2, rfl, hb2, hg2⟩ := hcs (by omega)
          have d0 := hg2 m hlt2
          clear hg2 hcs
          obtain ⟨st, hst⟩ : ∃ st, st = ss[m] := ⟨_, rfl⟩
          rw [← hst] at d0
          have HST := hid hst
          clear hst
          go_wp2
          iterate 2 (focus (go_ret; exact ⟨ZR.no _, rfl⟩))
          exact ⟨⟨m + 1, _, by omega, by go_num, rfl, by omega, by omega, US.out.next hlt2 (by rw [← HST.out]; omega)⟩, by simp [intOf]; omega⟩
        · obtain rfl : m = ss.length := by omega
          go_wp2
          exact ⟨⟨k + 1, _, by omega, by go_num, rfl, hb0, hb1, UP.out.next hlt ⟨by rw [← HN.out]; omega, by rw [← HG.out]; omega, lenBy_of (by rw [← HSS.out]; omega) (by rw [← HSS.out]; exact fun i hi => US.out i hi hi)⟩⟩, by simp [intOf]; omega⟩
    · obtain rfl : k = us.length := by omega
      have SU := hid (UP.out.small (by omega))
      clear UP
      by_cases hg : (1048576 : Int) < (gs.length : Int)
      · go_wp2
        go_ret
        exact ⟨ZR.no _, rfl⟩
      have hg0 : gs.length ≤ 1048576 := by omega
      go_wp2
      focus (go_ret; exact ⟨ZR.no _, rfl⟩)
      go_loop [9, 12] (fun a q => ∃ (k : Nat) (ac : Int), k ≤ gs.length ∧ q = .int .i64 k ∧ a = .int .i64 ac ∧ 0 ≤ ac ∧ ac ≤ 1048576 ∧ Upto gs k) (fun _ q => gs.length - (intOf q).toNat)
      case atStart => exact ⟨0, _, Nat.zero_le _, rfl, rfl, by omega, by omega, Upto.zero _⟩
      case round =>
        obtain ⟨k, ac, hk, rfl, rfl, ha0, ha1, hup⟩ := hrel
        have UP := hid hup
        clear hup
        by_cases hlt : k < gs.length
        · obtain ⟨b, off, rfl, hb, hg⟩ := hG.pos (by omega)
          obtain ⟨c0, c1, c2⟩ := hg k hlt
          obtain ⟨a, c, hbv, _, hcs⟩ := (hG.good gs[k] (List.getElem_mem hlt)).form
          rw [hbv] at c2
          clear hg hbv
          obtain ⟨nm, hnm⟩ : ∃ nm, nm = gs[k].name := ⟨_, rfl⟩
          obtain ⟨gm, hgm⟩ : ∃ gm, gm = gs[k].ing := ⟨_, rfl⟩
          obtain ⟨ss, hss⟩ : ∃ ss, ss = strs gs[k].by_ := ⟨_, rfl⟩
          rw [← hnm] at c0
          rw [← hgm] at c1
          rw [← hss] at c2 hcs
          have HN := hid hnm
          have HG := hid hgm
          have HSS := hid hss
          clear hnm hgm hss
          go_wp2
          iterate 6 (focus (go_ret; exact ⟨ZR.no _, rfl⟩))
          go_loop [9, 13] (fun a q => ∃ (m : Nat) (ac : Int), m ≤ ss.length ∧ q = .int .i64 m ∧ a = .int .i64 ac ∧ 0 ≤ ac ∧ ac ≤ 1048576 ∧ UptoS ss m) (fun _ q => ss.length - (intOf q).toNat)
          case atStart => exact ⟨0, _, Nat.zero_le _, rfl, rfl, by omega, by omega, UptoS.zero _⟩
          case round =>
            obtain ⟨m, ac2, hm, rfl, rfl, hb0, hb1, hup2⟩ := hrel
            have US := hid hup2
            clear hup2
            by_cases hlt2 : m < ss.length
            · obtain ⟨b2, off2, rfl, hb2, hg2⟩ := hcs (by omega)
              have d0 := hg2 m hlt2
              clear hg2 hcs
              obtain ⟨st, hst⟩ : ∃ st, st = ss[m] := ⟨_, rfl⟩
              rw [← hst] at d0
              have HST := hid hst
              clear hst
              go_wp2
              iterate 2 (focus (go_ret; exact ⟨ZR.no _, rfl⟩))
              exact ⟨⟨m + 1, _, by omega, by go_num, rfl, by omega, by omega, US.out.next hlt2 (by rw [← HST.out]; omega)⟩, by simp [intOf]; omega⟩
            · obtain rfl : m = ss.length := by omega
              go_wp2
              exact ⟨⟨k + 1, _, by omega, by go_num, rfl, hb0, hb1, UP.out.next hlt ⟨by rw [← HN.out]; omega, by rw [← HG.out]; omega, lenBy_of (by rw [← HSS.out]; omega) (by rw [← HSS.out]; exact fun i hi => US.out i hi hi)⟩⟩, by simp [intOf]; omega⟩
        · obtain rfl : k = gs.length := by omega
          have SG := hid (UP.out.small (by omega))
          clear UP
          by_cases hh : (1048576 : Int) < (hs.length : Int)
          · go_wp2
            go_ret
            exact ⟨ZR.no _, rfl⟩
          have hh0 : hs.length ≤ 1048576 := by omega
          go_wp2
          focus (go_ret; exact ⟨ZR.no _, rfl⟩)
          go_loop [9, 14] (fun a q => ∃ (k : Nat) (ac : Int), k ≤ hs.length ∧ q = .int .i64 k ∧ a = .int .i64 ac ∧ 0 ≤ ac ∧ ac ≤ 1048576 ∧ UptoG hs k) (fun _ q => hs.length - (intOf q).toNat)
          case atStart => exact ⟨0, _, Nat.zero_le _, rfl, rfl, by omega, by omega, UptoG.zero _⟩
          case round =>
            obtain ⟨k, ac, hk, rfl, rfl, ha0, ha1, hup⟩ := hrel
            have UP := hid hup
            clear hup
            by_cases hlt : k < hs.length
            · obtain ⟨b, off, rfl, hb, hg⟩ := hH.pos (by omega)
              obtain ⟨c0, c1, c2⟩ := hg k hlt
              clear hg c1
              obtain ⟨nm, hnm⟩ : ∃ nm, nm = hs[k].name := ⟨_, rfl⟩
              obtain ⟨gm, hgm⟩ : ∃ gm, gm = hs[k].ing := ⟨_, rfl⟩
              rw [← hnm] at c0
              rw [← hgm] at c2
              have HN := hid hnm
              have HG := hid hgm
              clear hnm hgm
              go_wp2
              iterate 4 (focus (go_ret; exact ⟨ZR.no _, rfl⟩))
              exact ⟨⟨k + 1, _, by omega, by go_num, rfl, by omega, by omega, UP.out.next hlt (by rw [← HN.out]; omega) (by rw [← HG.out]; omega)⟩, by simp [intOf]; omega⟩
            · obtain rfl : k = hs.length := by omega
              have SH := hid (UP.out.small (by omega))
              clear UP
              by_cases hk0 : (1048576 : Int) < (ks.length : Int)
              · go_wp2
                go_ret
                exact ⟨ZR.no _, rfl⟩
              have hk00 : ks.length ≤ 1048576 := by omega
              go_wp2
              focus (go_ret; exact ⟨ZR.no _, rfl⟩)
              go_loop [9, 15] (fun a q => ∃ (k : Nat) (ac : Int), k ≤ ks.length ∧ q = .int .i64 k ∧ a = .int .i64 ac ∧ 0 ≤ ac ∧ ac ≤ 1048576 ∧ UptoG ks k) (fun _ q => ks.length - (intOf q).toNat)
              case atStart => exact ⟨0, _, Nat.zero_le _, rfl, rfl, by omega, by omega, UptoG.zero _⟩
              case round =>
                obtain ⟨k, ac, hk, rfl, rfl, ha0, ha1, hup⟩ := hrel
                have UP := hid hup
                clear hup
                by_cases hlt : k < ks.length
                · obtain ⟨b, off, rfl, hb, hg⟩ := hK.pos (by omega)
                  obtain ⟨c0, c1, c2⟩ := hg k hlt
                  clear hg c1
                  obtain ⟨nm, hnm⟩ : ∃ nm, nm = ks[k].name := ⟨_, rfl⟩
                  obtain ⟨gm, hgm⟩ : ∃ gm, gm = ks[k].ing := ⟨_, rfl⟩
                  rw [← hnm] at c0
                  rw [← hgm] at c2
                  have HN := hid hnm
                  have HG := hid hgm
                  clear hnm hgm
                  go_wp2
                  iterate 4 (focus (go_ret; exact ⟨ZR.no _, rfl⟩))
                  exact ⟨⟨k + 1, _, by omega, by go_num, rfl, by omega, by omega, UP.out.next hlt (by rw [← HN.out]; omega) (by rw [← HG.out]; omega)⟩, by simp [intOf]; omega⟩
                · obtain rfl : k = ks.length := by omega
                  have SK := hid (UP.out.small (by omega))
                  clear UP
                  go_wp2
                  go_ret
                  exact ⟨ZR.yes ⟨SU.out, SG.out, SH.out, SK.out⟩, rfl⟩


end Go.Proofs.Qxb6615619aR
