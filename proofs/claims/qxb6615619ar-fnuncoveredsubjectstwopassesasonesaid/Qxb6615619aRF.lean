/-
  Seat b6615619a. slices.IndexFunc and slices.DeleteFunc on subjects: the plain side; clear.
-/
import Derived.Test.Qxb6615619aRE
import Derived.Laws.CopyRow
namespace Go.Proofs.Qxb6615619aR
open Go.RowKit

theorem c3_append (a b : List T3) : c3 (a ++ b) = c3 a ++ c3 b := by simp [c3]
theorem c3_take (l : List T3) (k : Nat) (h : k ≤ l.length) : (c3 l).take (k * 3) = c3 (l.take k) := by
  have e : c3 l = c3 (l.take k) ++ c3 (l.drop k) := by rw [← c3_append, List.take_append_drop]
  rw [e, List.take_append_of_le_length (by rw [c3_length]; simp; omega), List.take_of_length_le (by rw [c3_length]; simp; omega)]
theorem c3_drop (l : List T3) (k : Nat) (h : k ≤ l.length) : (c3 l).drop (k * 3) = c3 (l.drop k) := by
  have e : c3 l = c3 (l.take k) ++ c3 (l.drop k) := by rw [← c3_append, List.take_append_drop]
  have hk : (c3 (l.take k)).length = k * 3 := by rw [c3_length]; simp; omega
  rw [e, ← hk, List.drop_left]

theorem run_clear3 (w : World) (ty : TypeId) (b k n c : Nat) (L : List T3) (h : w.heap[b]? = some (.cells (rowA L) 45 (0, 0))) (hn : 0 < n) (hk : k + n ≤ L.length) :
    (Builtin.clear_ #[27] ty #[.slice (some ⟨b, k * 3, none⟩) n c]).run Try.prog w = .ok (.tuple #[]) (w.setRow b (rowA (L.take k ++ (List.replicate n eZ ++ L.drop (k + n))))) := by
  have hz : (Builtin.zeroCells #[.string ⟨#[]⟩, .string ⟨#[]⟩, .slice none 0 0] n).toList = c3 (List.replicate n eZ) := by
    have := c3_made (.string ⟨#[]⟩) (.string ⟨#[]⟩) (.slice none 0 0) n
    have h2 : Builtin.zeroCells #[.string ⟨#[]⟩, .string ⟨#[]⟩, .slice none 0 0] n = madeCells #[.string ⟨#[]⟩, .string ⟨#[]⟩, .slice none 0 0] (n * 3) := by
      unfold Builtin.zeroCells madeCells
      rfl
    rw [h2, this]
    rfl
  have hst := run_storeCells_at Try.prog b (k * 3) 45 (c3 (List.replicate n eZ)) 0 (rowA L) w h (by rw [c3_length]; simp [rowA, c3_length]; omega) (by
    intro v hv
    simp only [c3, List.mem_flatMap] at hv
    obtain ⟨t, ht, hv⟩ := hv
    rw [List.eq_of_mem_replicate ht] at hv
    simp [eZ] at hv
    rcases hv with rfl | rfl <;> rfl)
  have he : ((rowA L).toList.take (k * 3 + 0) ++ c3 (List.replicate n eZ) ++ (rowA L).toList.drop (k * 3 + 0 + (c3 (List.replicate n eZ)).length)).toArray = rowA (L.take k ++ (List.replicate n eZ ++ L.drop (k + n))) := by
    rw [c3_length]
    simp only [rowA, Nat.add_zero, List.length_replicate]
    rw [show k * 3 + n * 3 = (k + n) * 3 by omega, c3_take L k (by omega), c3_drop L (k + n) hk, c3_append, c3_append, List.append_assoc]
  rw [he] at hst
  obtain ⟨m, rfl⟩ : ∃ m, n = m + 1 := ⟨n - 1, by omega⟩
  simp [Builtin.clear_, run_underlying Try.underlying27, Value.cells, hz, hst]

def pU (gs : List Gr) (e : El) : Bool := covB gs ⟨e.name, false, e.ing⟩
def pG (gs : List Gr) (e : El) : Bool := covB gs ⟨e.name, true, ⟨#[]⟩⟩

/-- What IndexFunc answers. -/
def FR (e : Ending) (els : List El) (p : El → Bool) : Prop :=
  (e = .returned (.int .i64 (-1)) ∧ ∀ x ∈ els, p x = false) ∨ ∃ k, ∃ h : k < els.length, e = .returned (.int .i64 (k : Int)) ∧ p els[k] = true ∧ ∀ i, (hi : i < els.length) → i < k → p els[i] = false
def NoneP (els : List El) (p : El → Bool) (k : Nat) : Prop := ∀ i, (h : i < els.length) → i < k → p els[i] = false
theorem NoneP.next {els : List El} {p : El → Bool} {k : Nat} (h : NoneP els p k) (hk : k < els.length) (ho : p els[k] = false) : NoneP els p (k + 1) := fun i hi hlt => by
  by_cases e : i = k
  · subst e; exact ho
  · exact h i hi (by omega)
theorem NoneP.all {els : List El} {p : El → Bool} (h : NoneP els p els.length) : ∀ x ∈ els, p x = false := fun x hx => by
  obtain ⟨i, hi, rfl⟩ := List.mem_iff_getElem.1 hx
  exact h i hi hi
theorem SubAt.below {w w' : World} {b off : Nat} {els : List El} (h : SubAt w b off els) {B : Nat} (hk : Below B w w') (hb : b < B) : SubAt w' b off els := fun i hi => by
  obtain ⟨h0, h1, h2⟩ := h i hi
  exact ⟨(hk.cell (p := ⟨b, off + i * 3, none⟩) hb).trans h0, (hk.cell (p := ⟨b, off + i * 3 + 1, none⟩) hb).trans h1, (hk.cell (p := ⟨b, off + i * 3 + 2, none⟩) hb).trans h2⟩

set_option maxHeartbeats 1000000 in
theorem idxSubU (p8 p5 ph hb c : Nat) (gs : List Gr) (so : Option Addr) (cl : Nat) (els : List El) (w : World) (hE : Env w p8 p5 ph hb c gs) (hS : 0 < els.length → ∃ b off, so = some ⟨b, off, none⟩ ∧ b < w.heap.size ∧ SubAt w b off els) (hl : els.length ≤ 1048576) :
    Calls Try.prog 34 #[.slice so els.length cl, .func (.func 29) #[] #[.pointer (some ⟨p8, 0, none⟩)]] w fun e w' => FR e els (pU gs) ∧ Below w.heap.size w w' := by
  have HE := hid hE
  have HS := hid hS
  clear hE hS
  go_enter Try.func34, Try.ntmps34
  go_wp2
  go_loopw [8] (fun i wr => ∃ (k : Nat), k ≤ els.length ∧ i = .int .i64 k ∧ Below w.heap.size w wr ∧ NoneP els (pU gs) k) (fun i _ => els.length - (intOf i).toNat)
  case atStart => exact ⟨0, Nat.zero_le _, rfl, Below.refl _ _, fun _ _ h => absurd h (Nat.not_lt_zero _)⟩
  case round =>
    obtain ⟨k, hk, rfl, hbel, hno⟩ := hrel
    have NO := hid hno
    have HB := hid hbel
    clear hno
    by_cases hlt : k < els.length
    · obtain ⟨b, off, rfl, hb1, hs⟩ := HS.out (by omega)
      obtain ⟨c0, c1, c2⟩ := (hs.below hbel hb1) k hlt
      have hI : (k : Int) < (els.length : Int) := by omega
      have HC := hid (del_user p8 p5 ph hb c gs els[k].name els[k].ing els[k].ba els[k].bn els[k].bc wr (HE.out.below hbel (Nat.le_refl _)))
      clear hbel hs
      cases hx : pU gs els[k] with
      | true =>
        have HX := hid hx
        unfold pU at hx
        rw [hx] at HC
        clear hx
        go_wp2_with (go_at_call 29; refine HC.out.mono ?_; rintro e w1 ⟨rfl, hb2⟩)
        go_ret
        exact ⟨.inr ⟨k, hlt, rfl, HX.out, fun i hi hlt => NO.out i hi hlt⟩, HB.out.trans (hb2.mono HB.out.size)⟩
      | false =>
        have HX := hid hx
        unfold pU at hx
        rw [hx] at HC
        clear hx
        go_wp2_with (go_at_call 29; refine HC.out.mono ?_; rintro e w1 ⟨rfl, hb2⟩)
        exact ⟨⟨k + 1, by omega, by go_num, HB.out.trans (hb2.mono HB.out.size), NO.out.next hlt HX.out⟩, by simp [intOf]; omega⟩
    · obtain rfl : k = els.length := by omega
      go_wp2
      go_ret
      exact ⟨.inl ⟨rfl, NO.out.all⟩, HB.out⟩

set_option maxHeartbeats 1000000 in
theorem idxSubG (p8 p5 ph hb c : Nat) (gs : List Gr) (so : Option Addr) (cl : Nat) (els : List El) (w : World) (hE : Env w p8 p5 ph hb c gs) (hS : 0 < els.length → ∃ b off, so = some ⟨b, off, none⟩ ∧ b < w.heap.size ∧ SubAt w b off els) (hl : els.length ≤ 1048576) :
    Calls Try.prog 34 #[.slice so els.length cl, .func (.func 30) #[] #[.pointer (some ⟨p8, 0, none⟩)]] w fun e w' => FR e els (pG gs) ∧ Below w.heap.size w w' := by
  have HE := hid hE
  have HS := hid hS
  clear hE hS
  go_enter Try.func34, Try.ntmps34
  go_wp2
  go_loopw [8] (fun i wr => ∃ (k : Nat), k ≤ els.length ∧ i = .int .i64 k ∧ Below w.heap.size w wr ∧ NoneP els (pG gs) k) (fun i _ => els.length - (intOf i).toNat)
  case atStart => exact ⟨0, Nat.zero_le _, rfl, Below.refl _ _, fun _ _ h => absurd h (Nat.not_lt_zero _)⟩
  case round =>
    obtain ⟨k, hk, rfl, hbel, hno⟩ := hrel
    have NO := hid hno
    have HB := hid hbel
    clear hno
    by_cases hlt : k < els.length
    · obtain ⟨b, off, rfl, hb1, hs⟩ := HS.out (by omega)
      obtain ⟨c0, c1, c2⟩ := (hs.below hbel hb1) k hlt
      have hI : (k : Int) < (els.length : Int) := by omega
      have HC := hid (del_group p8 p5 ph hb c gs els[k].name els[k].ing els[k].ba els[k].bn els[k].bc wr (HE.out.below hbel (Nat.le_refl _)))
      clear hbel hs
      cases hx : pG gs els[k] with
      | true =>
        have HX := hid hx
        unfold pG at hx
        rw [hx] at HC
        clear hx
        go_wp2_with (go_at_call 30; refine HC.out.mono ?_; rintro e w1 ⟨rfl, hb2⟩)
        go_ret
        exact ⟨.inr ⟨k, hlt, rfl, HX.out, fun i hi hlt => NO.out i hi hlt⟩, HB.out.trans (hb2.mono HB.out.size)⟩
      | false =>
        have HX := hid hx
        unfold pG at hx
        rw [hx] at HC
        clear hx
        go_wp2_with (go_at_call 30; refine HC.out.mono ?_; rintro e w1 ⟨rfl, hb2⟩)
        exact ⟨⟨k + 1, by omega, by go_num, HB.out.trans (hb2.mono HB.out.size), NO.out.next hlt HX.out⟩, by simp [intOf]; omega⟩
    · obtain rfl : k = els.length := by omega
      go_wp2
      go_ret
      exact ⟨.inl ⟨rfl, NO.out.all⟩, HB.out⟩
end Go.Proofs.Qxb6615619aR
