/-
  Seat b6615619a. The size guards' walks; what is read.
-/
import Derived.Test.Qxb6615619aRRows
import Derived.WalkKit
import Derived.WalkSpells
import Derived.WalkLawsBesides
import Derived.Deep.OwnRows
import Derived.Deep.QuietTactic
import Derived.BigQuiet
namespace Go.Proofs.Qxb6615619aR
open Go.RowKit

theorem hid {p : Prop} (h : p) : Hid p := h

/-- A grantee. -/
structure Gr where
  name : ByteArray
  grp : Bool
  ing : ByteArray

/-- A row of grantees at block b from off on. -/
def GrAt (w : World) (b off : Nat) (gs : List Gr) : Prop :=
  ∀ i (h : i < gs.length), w.cell? ⟨b, off + i * 3, none⟩ = some (.string gs[i].name) ∧ w.cell? ⟨b, off + i * 3 + 1, none⟩ = some (.bool gs[i].grp) ∧ w.cell? ⟨b, off + i * 3 + 2, none⟩ = some (.string gs[i].ing)

/-- A slice of grantees. -/
structure Gl (w : World) (so : Option Addr) (gs : List Gr) : Prop where
  pos : 0 < gs.length → ∃ b off, so = some ⟨b, off, none⟩ ∧ b < w.heap.size ∧ GrAt w b off gs

set_option maxHeartbeats 400000 in
theorem sizeGr (acc : Int) (so : Option Addr) (c : Nat) (gs : List Gr) (w : World) (hG : Gl w so gs) (h0 : 0 ≤ acc) (h1 : acc ≤ 1000000000000) (hl : gs.length ≤ 1048576) (hs : ∀ g ∈ gs, g.name.size ≤ 1048576 ∧ g.ing.size ≤ 1048576) :
    Calls Try.prog 6 #[.int .i64 acc, .slice so gs.length c] w fun e w' => (∃ r, 0 ≤ r ∧ r ≤ 1000000000000 ∧ e = .returned (.int .i64 r)) ∧ ∃ n, w' = w.drewN n := by
  go_enter Try.func6, Try.ntmps6
  go_wp2
  go_loopw [0, 5] (fun a i wr => ∃ (k n : Nat) (ac : Int), k ≤ gs.length ∧ i = .int .i64 k ∧ a = .int .i64 ac ∧ 0 ≤ ac ∧ ac ≤ 1000000000000 ∧ wr = w.drewN n) (fun _ i _ => gs.length - (intOf i).toNat)
  case atStart => exact ⟨0, 0, acc, Nat.zero_le _, rfl, rfl, h0, h1, rfl⟩
  case round =>
    obtain ⟨k, n, ac, hk, rfl, rfl, ha0, ha1, rfl⟩ := hrel
    by_cases hlt : k < gs.length
    · obtain ⟨b, off, rfl, hb, hg⟩ := hG.pos (by omega)
      obtain ⟨c0, c1, c2⟩ := hg k hlt
      obtain ⟨s0, s1⟩ := hs gs[k] (List.getElem_mem hlt)
      clear hg hs c1
      by_cases hac : 1048576 < ac
      · go_wp2
        go_ret
        exact ⟨⟨_, ha0, ha1, rfl⟩, _, rfl⟩
      · have hI : (k : Int) < (gs.length : Int) := by omega
        go_wp2
        go_quiet (fail)
        go_wp2
        exact ⟨⟨k + 1, _, _, by omega, by go_num, rfl, by omega, by omega, rfl⟩, by simp [intOf]; omega⟩
    · go_wp2
      go_ret
      exact ⟨⟨_, ha0, ha1, rfl⟩, _, rfl⟩

/-- What a []string reads as. -/
def ByAt (w : World) (bv : Value) : Option (List ByteArray) → Prop
  | none => bv = .slice none 0 0
  | some ss => ∃ a c, bv = .slice (some a) ss.length c ∧ (0 < ss.length → ∃ b off, a = ⟨b, off, none⟩ ∧ b < w.heap.size ∧ ∀ k, (h : k < ss.length) → w.cell? ⟨b, off + k, none⟩ = some (.string ss[k]))
def lenBy (d : Option (List ByteArray)) : Prop := ∀ ss, d = some ss → ss.length ≤ 1048576 ∧ ∀ s ∈ ss, s.size ≤ 1048576

/-- A subject: its two names, the value of its list, and what that reads as. -/
structure El where
  name : ByteArray
  ing : ByteArray
  ba : Option Addr
  bn : Nat
  bc : Nat
  by_ : Option (List ByteArray)

def SubAt (w : World) (b off : Nat) (els : List El) : Prop :=
  ∀ i (h : i < els.length), w.cell? ⟨b, off + i * 3, none⟩ = some (.string els[i].name) ∧ w.cell? ⟨b, off + i * 3 + 1, none⟩ = some (.string els[i].ing) ∧ w.cell? ⟨b, off + i * 3 + 2, none⟩ = some (.slice els[i].ba els[i].bn els[i].bc)

/-- A slice of subjects. -/
structure Sl (w : World) (so : Option Addr) (els : List El) : Prop where
  pos : 0 < els.length → ∃ b off, so = some ⟨b, off, none⟩ ∧ b < w.heap.size ∧ SubAt w b off els
  good : ∀ e ∈ els, ByAt w (.slice e.ba e.bn e.bc) e.by_
structure Small (els : List El) : Prop where
  len : els.length ≤ 1048576
  each : ∀ e ∈ els, e.name.size ≤ 1048576 ∧ e.ing.size ≤ 1048576 ∧ lenBy e.by_

set_option maxHeartbeats 400000 in
theorem sizeStrs (acc : Int) (bv : Value) (d : Option (List ByteArray)) (w : World) (hB : ByAt w bv d) (h0 : 0 ≤ acc) (h1 : acc ≤ 1000000000000) (hs : lenBy d) :
    Calls Try.prog 16 #[.int .i64 acc, bv] w fun e w' => (∃ r, 0 ≤ r ∧ r ≤ 1000000000000 ∧ e = .returned (.int .i64 r)) ∧ w' = w := by
  cases d with
  | none =>
    obtain rfl := hB
    go_enter Try.func16, Try.ntmps16
    go_wp2
    refine wp_loop_rounds 1 ?_
    rw [rounds_succ]
    go_wp2
    go_ret
    exact ⟨⟨_, h0, h1, rfl⟩, rfl⟩
  | some ss =>
    obtain ⟨a, c, rfl, hc⟩ := hB
    obtain ⟨hl, hs⟩ := hs ss rfl
    go_enter Try.func16, Try.ntmps16
    go_wp2
    go_loop [0, 5] (fun a i => ∃ (k : Nat) (ac : Int), k ≤ ss.length ∧ i = .int .i64 k ∧ a = .int .i64 ac ∧ 0 ≤ ac ∧ ac ≤ 1000000000000) (fun _ i => ss.length - (intOf i).toNat)
    case atStart => exact ⟨0, acc, Nat.zero_le _, rfl, rfl, h0, h1⟩
    case round =>
      obtain ⟨k, ac, hk, rfl, rfl, ha0, ha1⟩ := hrel
      by_cases hlt : k < ss.length
      · obtain ⟨b, off, rfl, hb, hg⟩ := hc (by omega)
        have c0 := hg k hlt
        have s0 := hs ss[k] (List.getElem_mem hlt)
        clear hg hs hc
        by_cases hac : 1048576 < ac
        · go_wp2
          go_ret
          exact ⟨⟨_, ha0, ha1, rfl⟩, rfl⟩
        · have hI : (k : Int) < (ss.length : Int) := by omega
          go_wp2
          exact ⟨⟨k + 1, _, by omega, by go_num, rfl, by omega, by omega⟩, by simp [intOf]; omega⟩
      · go_wp2
        go_ret
        exact ⟨⟨_, ha0, ha1, rfl⟩, rfl⟩

theorem ByAt.drewN {w : World} {bv : Value} {d : Option (List ByteArray)} (h : ByAt w bv d) (n : Nat) : ByAt (w.drewN n) bv d := h

set_option maxHeartbeats 400000 in
theorem sizeSubs (acc : Int) (so : Option Addr) (c : Nat) (els : List El) (w : World) (hG : Sl w so els) (h0 : 0 ≤ acc) (h1 : acc ≤ 1000000000000) (hS : Small els) :
    Calls Try.prog 7 #[.int .i64 acc, .slice so els.length c] w fun e w' => (∃ r, 0 ≤ r ∧ r ≤ 1000000000000 ∧ e = .returned (.int .i64 r)) ∧ ∃ n, w' = w.drewN n := by
  obtain ⟨hl, hs⟩ := hS
  obtain ⟨hpos, hgood⟩ := hG
  go_enter Try.func7, Try.ntmps7
  go_wp2
  go_loopw [0, 5] (fun a i wr => ∃ (k n : Nat) (ac : Int), k ≤ els.length ∧ i = .int .i64 k ∧ a = .int .i64 ac ∧ 0 ≤ ac ∧ ac ≤ 1000000000000 ∧ wr = w.drewN n) (fun _ i _ => els.length - (intOf i).toNat)
  case atStart => exact ⟨0, 0, acc, Nat.zero_le _, rfl, rfl, h0, h1, rfl⟩
  case round =>
    obtain ⟨k, n, ac, hk, rfl, rfl, ha0, ha1, rfl⟩ := hrel
    by_cases hlt : k < els.length
    · obtain ⟨b, off, rfl, hb, hg⟩ := hpos (by omega)
      obtain ⟨c0, c1, c2⟩ := hg k hlt
      obtain ⟨s0, s1, s2⟩ := hs els[k] (List.getElem_mem hlt)
      have B := hid (hgood els[k] (List.getElem_mem hlt))
      have S2 := hid s2
      clear hg hs hgood hpos s2
      by_cases hac : 1048576 < ac
      · go_wp2
        go_ret
        exact ⟨⟨_, ha0, ha1, rfl⟩, _, rfl⟩
      · have hI : (k : Int) < (els.length : Int) := by omega
        go_wp2
        go_quiet (fail)
        go_wp2_with (go_at_call 16; refine (sizeStrs _ _ _ _ ?_ (by omega) (by omega) S2.out).mono ?_; exact B.out.drewN _; rintro e w' ⟨⟨r, hr0, hr1, rfl⟩, hw⟩; obtain rfl := hw.symm)
        exact ⟨⟨k + 1, _, r, by omega, by go_num, rfl, hr0, hr1, rfl⟩, by simp [intOf]; omega⟩
    · go_wp2
      go_ret
      exact ⟨⟨_, ha0, ha1, rfl⟩, _, rfl⟩
end Go.Proofs.Qxb6615619aR
