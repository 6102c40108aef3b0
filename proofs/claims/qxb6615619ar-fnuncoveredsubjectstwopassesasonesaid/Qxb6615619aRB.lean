/-
  Seat b6615619a. The byte guards (zzBytes_..): they answer; where they answer true all lengths are small.
-/
import Derived.Test.Qxb6615619aRA
namespace Go.Proofs.Qxb6615619aR
open Go.RowKit

def strs (d : Option (List ByteArray)) : List ByteArray := d.getD []
/-- One form for a nil list and any other. -/
theorem ByAt.form {w : World} {bv : Value} {d : Option (List ByteArray)} (h : ByAt w bv d) : ∃ a c, bv = .slice a (strs d).length c ∧ a.isNone = d.isNone ∧ (0 < (strs d).length → ∃ b off, a = some ⟨b, off, none⟩ ∧ b < w.heap.size ∧ ∀ k, (h : k < (strs d).length) → w.cell? ⟨b, off + k, none⟩ = some (.string (strs d)[k])) := by
  cases d with
  | none => exact ⟨none, 0, h, rfl, fun hp => by simp [strs] at hp⟩
  | some ss =>
    obtain ⟨a, c, rfl, hc⟩ := h
    refine ⟨some a, c, rfl, rfl, fun hp => ?_⟩
    obtain ⟨b, off, rfl, hb, hk⟩ := hc hp
    exact ⟨b, off, rfl, hb, hk⟩

def okEl (e : El) : Prop := e.name.size ≤ 1048576 ∧ e.ing.size ≤ 1048576 ∧ lenBy e.by_
theorem lenBy_of {d : Option (List ByteArray)} (h1 : (strs d).length ≤ 1048576) (h2 : ∀ i, (h : i < (strs d).length) → (strs d)[i].size ≤ 1048576) : lenBy d := by
  rintro ss rfl
  refine ⟨h1, fun s hs => ?_⟩
  obtain ⟨i, hi, rfl⟩ := List.mem_iff_getElem.1 hs
  exact h2 i hi

/-- The first k are small. -/
def Upto (els : List El) (k : Nat) : Prop := ∀ i, (h : i < els.length) → i < k → okEl els[i]
theorem Upto.zero (els : List El) : Upto els 0 := fun _ _ h => absurd h (Nat.not_lt_zero _)
theorem Upto.next {els : List El} {k : Nat} (h : Upto els k) (hk : k < els.length) (ho : okEl els[k]) : Upto els (k + 1) := fun i hi hlt => by
  by_cases e : i = k
  · subst e; exact ho
  · exact h i hi (by omega)
theorem Upto.small {els : List El} (h : Upto els els.length) (hl : els.length ≤ 1048576) : Small els := ⟨hl, fun e he => by
  obtain ⟨i, hi, rfl⟩ := List.mem_iff_getElem.1 he
  exact h i hi hi⟩
def UptoS (ss : List ByteArray) (k : Nat) : Prop := ∀ i, (h : i < ss.length) → i < k → ss[i].size ≤ 1048576
theorem UptoS.zero (ss : List ByteArray) : UptoS ss 0 := fun _ _ h => absurd h (Nat.not_lt_zero _)
theorem UptoS.next {ss : List ByteArray} {k : Nat} (h : UptoS ss k) (hk : k < ss.length) (ho : ss[k].size ≤ 1048576) : UptoS ss (k + 1) := fun i hi hlt => by
  by_cases e : i = k
  · subst e; exact ho
  · exact h i hi (by omega)
structure GSmall (gs : List Gr) : Prop where
  len : gs.length ≤ 1048576
  each : ∀ g ∈ gs, g.name.size ≤ 1048576 ∧ g.ing.size ≤ 1048576
def UptoG (gs : List Gr) (k : Nat) : Prop := ∀ i, (h : i < gs.length) → i < k → gs[i].name.size ≤ 1048576 ∧ gs[i].ing.size ≤ 1048576
theorem UptoG.zero (gs : List Gr) : UptoG gs 0 := fun _ _ h => absurd h (Nat.not_lt_zero _)
theorem UptoG.next {gs : List Gr} {k : Nat} (h : UptoG gs k) (hk : k < gs.length) (h1 : gs[k].name.size ≤ 1048576) (h2 : gs[k].ing.size ≤ 1048576) : UptoG gs (k + 1) := fun i hi hlt => by
  by_cases e : i = k
  · subst e; exact ⟨h1, h2⟩
  · exact h i hi (by omega)
theorem UptoG.small {gs : List Gr} (h : UptoG gs gs.length) (hl : gs.length ≤ 1048576) : GSmall gs := ⟨hl, fun e he => by
  obtain ⟨i, hi, rfl⟩ := List.mem_iff_getElem.1 he
  exact h i hi hi⟩

/-- The guard has answered; where it said yes, P. -/
def ZR (e : Ending) (P : Prop) : Prop := ∃ b, e = .returned (.bool b) ∧ (b = true → P)
theorem ZR.no (P : Prop) : ZR (.returned (.bool false)) P := ⟨false, rfl, by simp⟩
theorem ZR.yes {P : Prop} (h : P) : ZR (.returned (.bool true)) P := ⟨true, rfl, fun _ => h⟩

set_option maxHeartbeats 4000000 in
set_option maxRecDepth 100000 in
theorem zzB14 (su sg sh : Option Addr) (cu cg ch : Nat) (us gs : List El) (hs : List Gr) (i j : Int) (w : World) (hU : Sl w su us) (hG : Sl w sg gs) (hH : Gl w sh hs) (lu : us.length ≤ maxLen) (lg : gs.length ≤ maxLen) (lh : hs.length ≤ maxLen) :
    Calls Try.prog 14 #[.slice su us.length cu, .slice sg gs.length cg, .slice sh hs.length ch, .int .i64 i, .int .i64 j] w fun e w' => ZR e (Small us ∧ Small gs ∧ GSmall hs) ∧ w' = w := by
  unfold maxLen at lu lg lh
  go_enter Try.func14, Try.ntmps14
  by_cases hu : (1048576 : Int) < (us.length : Int)
  · go_wp2
    go_ret
    exact ⟨ZR.no _, rfl⟩
  have hu0 : us.length ≤ 1048576 := by omega
  go_wp2
  go_loop [11, 12] (fun a q => ∃ (k : Nat) (ac : Int), k ≤ us.length ∧ q = .int .i64 k ∧ a = .int .i64 ac ∧ 0 ≤ ac ∧ ac ≤ 1048576 ∧ Upto us k) (fun _ q => us.length - (intOf q).toNat)
  case atStart => exact ⟨0, _, Nat.zero_le _, rfl, rfl, by omega, by omega, Upto.zero _⟩
  case round =>
    obtain ⟨k, ac, hk, rfl, rfl, ha0, ha1, hup⟩ := hrel
    have UP := hid hup
    clear hup
    by_cases hlt : k < us.length
    · obtain ⟨b, off, rfl, hb, hg⟩ := hU.pos (by omega)
      obtain ⟨c0, c1, c2⟩ := hg k hlt
      obtain ⟨a, c, hbv, _, hcs⟩ := (hU.good us[k] (List.getElem_mem hlt)).form
      rw [hbv] at c2
      clear hg hbv
      obtain ⟨nm, hnm⟩ : ∃ nm, nm = us[k].name := ⟨_, rfl⟩
      obtain ⟨gm, hgm⟩ : ∃ gm, gm = us[k].ing := ⟨_, rfl⟩
      obtain ⟨ss, hss⟩ : ∃ ss, ss = strs us[k].by_ := ⟨_, rfl⟩
      rw [← hnm] at c0
      rw [← hgm] at c1
      rw [← hss] at c2 hcs
      have HN := hid hnm
      have HG := hid hgm
      have HSS := hid hss
      clear hnm hgm hss
      go_wp2
      iterate 6 (focus (go_ret; exact ⟨ZR.no _, rfl⟩))
      go_loop [11, 13] (fun a q => ∃ (m : Nat) (ac : Int), m ≤ ss.length ∧ q = .int .i64 m ∧ a = .int .i64 ac ∧ 0 ≤ ac ∧ ac ≤ 1048576 ∧ UptoS ss m) (fun _ q => ss.length - (intOf q).toNat)
      case atStart => exact ⟨0, _, Nat.zero_le _, rfl, rfl, by omega, by omega, UptoS.zero _⟩
      case round =>
        obtain ⟨m, ac2, hm, rfl, rfl, hb0, hb1, hup2⟩ := hrel
        have US := hid hup2
        clear hup2
        by_cases hlt2 : m < ss.length
        · obtain ⟨b2, off2, rfl, hb2, hg2⟩ := hcs (by omega)
          have d0 := hg2 m hlt2
          clear hg2 hcs
          obtain ⟨st, hst⟩ : ∃ st, st = ss[m] := ⟨_, rfl⟩
          rw [← hst] at d0
          have HST := hid hst
          clear hst
          go_wp2
          iterate 2 (focus (go_ret; exact ⟨ZR.no _, rfl⟩))
          exact ⟨⟨m + 1, _, by omega, by go_num, rfl, by omega, by omega, US.out.next hlt2 (by rw [← HST.out]; omega)⟩, by simp [intOf]; omega⟩
        · obtain rfl : m = ss.length := by omega
          go_wp2
          exact ⟨⟨k + 1, _, by omega, by go_num, rfl, hb0, hb1, UP.out.next hlt ⟨by rw [← HN.out]; omega, by rw [← HG.out]; omega, lenBy_of (by rw [← HSS.out]; omega) (by rw [← HSS.out]; exact fun i hi => US.out i hi hi)⟩⟩, by simp [intOf]; omega⟩
    · obtain rfl : k = us.length := by omega
      have SU := hid (UP.out.small (by omega))
      clear UP
      by_cases hg : (1048576 : Int) < (gs.length : Int)
      · go_wp2
        go_ret
        exact ⟨ZR.no _, rfl⟩
      have hg0 : gs.length ≤ 1048576 := by omega
      go_wp2
      focus (go_ret; exact ⟨ZR.no _, rfl⟩)
      go_loop [11, 14] (fun a q => ∃ (k : Nat) (ac : Int), k ≤ gs.length ∧ q = .int .i64 k ∧ a = .int .i64 ac ∧ 0 ≤ ac ∧ ac ≤ 1048576 ∧ Upto gs k) (fun _ q => gs.length - (intOf q).toNat)
      case atStart => exact ⟨0, _, Nat.zero_le _, rfl, rfl, by omega, by omega, Upto.zero _⟩
      case round =>
        obtain ⟨k, ac, hk, rfl, rfl, ha0, ha1, hup⟩ := hrel
        have UP := hid hup
        clear hup
        by_cases hlt : k < gs.length
        · obtain ⟨b, off, rfl, hb, hg⟩ := hG.pos (by omega)
          obtain ⟨c0, c1, c2⟩ := hg k hlt
          obtain ⟨a, c, hbv, _, hcs⟩ := (hG.good gs[k] (List.getElem_mem hlt)).form
          rw [hbv] at c2
          clear hg hbv
          obtain ⟨nm, hnm⟩ : ∃ nm, nm = gs[k].name := ⟨_, rfl⟩
          obtain ⟨gm, hgm⟩ : ∃ gm, gm = gs[k].ing := ⟨_, rfl⟩
          obtain ⟨ss, hss⟩ : ∃ ss, ss = strs gs[k].by_ := ⟨_, rfl⟩
          rw [← hnm] at c0
          rw [← hgm] at c1
          rw [← hss] at c2 hcs
          have HN := hid hnm
          have HG := hid hgm
          have HSS := hid hss
          clear hnm hgm hss
          go_wp2
          iterate 6 (focus (go_ret; exact ⟨ZR.no _, rfl⟩))
          go_loop [11, 15] (fun a q => ∃ (m : Nat) (ac : Int), m ≤ ss.length ∧ q = .int .i64 m ∧ a = .int .i64 ac ∧ 0 ≤ ac ∧ ac ≤ 1048576 ∧ UptoS ss m) (fun _ q => ss.length - (intOf q).toNat)
          case atStart => exact ⟨0, _, Nat.zero_le _, rfl, rfl, by omega, by omega, UptoS.zero _⟩
          case round =>
            obtain ⟨m, ac2, hm, rfl, rfl, hb0, hb1, hup2⟩ := hrel
            have US := hid hup2
            clear hup2
            by_cases hlt2 : m < ss.length
            · obtain ⟨b2, off2, rfl, hb2, hg2⟩ := hcs (by omega)
              have d0 := hg2 m hlt2
              clear hg2 hcs
              obtain ⟨st, hst⟩ : ∃ st, st = ss[m] := ⟨_, rfl⟩
              rw [← hst] at d0
              have HST := hid hst
              clear hst
              go_wp2
              iterate 2 (focus (go_ret; exact ⟨ZR.no _, rfl⟩))
              exact ⟨⟨m + 1, _, by omega, by go_num, rfl, by omega, by omega, US.out.next hlt2 (by rw [← HST.out]; omega)⟩, by simp [intOf]; omega⟩
            · obtain rfl : m = ss.length := by omega
              go_wp2
              exact ⟨⟨k + 1, _, by omega, by go_num, rfl, hb0, hb1, UP.out.next hlt ⟨by rw [← HN.out]; omega, by rw [← HG.out]; omega, lenBy_of (by rw [← HSS.out]; omega) (by rw [← HSS.out]; exact fun i hi => US.out i hi hi)⟩⟩, by simp [intOf]; omega⟩
        · obtain rfl : k = gs.length := by omega
          have SG := hid (UP.out.small (by omega))
          clear UP
          by_cases hh : (1048576 : Int) < (hs.length : Int)
          · go_wp2
            go_ret
            exact ⟨ZR.no _, rfl⟩
          have hh0 : hs.length ≤ 1048576 := by omega
          go_wp2
          focus (go_ret; exact ⟨ZR.no _, rfl⟩)
          go_loop [11, 16] (fun a q => ∃ (k : Nat) (ac : Int), k ≤ hs.length ∧ q = .int .i64 k ∧ a = .int .i64 ac ∧ 0 ≤ ac ∧ ac ≤ 1048576 ∧ UptoG hs k) (fun _ q => hs.length - (intOf q).toNat)
          case atStart => exact ⟨0, _, Nat.zero_le _, rfl, rfl, by omega, by omega, UptoG.zero _⟩
          case round =>
            obtain ⟨k, ac, hk, rfl, rfl, ha0, ha1, hup⟩ := hrel
            have UP := hid hup
            clear hup
            by_cases hlt : k < hs.length
            · obtain ⟨b, off, rfl, hb, hg⟩ := hH.pos (by omega)
              obtain ⟨c0, c1, c2⟩ := hg k hlt
              clear hg c1
              obtain ⟨nm, hnm⟩ : ∃ nm, nm = hs[k].name := ⟨_, rfl⟩
              obtain ⟨gm, hgm⟩ : ∃ gm, gm = hs[k].ing := ⟨_, rfl⟩
              rw [← hnm] at c0
              rw [← hgm] at c2
              have HN := hid hnm
              have HG := hid hgm
              clear hnm hgm
              go_wp2
              iterate 4 (focus (go_ret; exact ⟨ZR.no _, rfl⟩))
              exact ⟨⟨k + 1, _, by omega, by go_num, rfl, by omega, by omega, UP.out.next hlt (by rw [← HN.out]; omega) (by rw [← HG.out]; omega)⟩, by simp [intOf]; omega⟩
            · obtain rfl : k = hs.length := by omega
              have SH := hid (UP.out.small (by omega))
              clear UP
              go_wp2
              go_ret
              exact ⟨ZR.yes ⟨SU.out, SG.out, SH.out⟩, rfl⟩

end Go.Proofs.Qxb6615619aR
