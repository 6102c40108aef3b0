/-
  Seat b6615619a. cloneStrsB1, toGranteesB1.
-/
import Derived.Test.Qxb6615619aRB
import Derived.Deep.RegionHeld3
import Derived.Deep.DrawnRows
namespace Go.Proofs.Qxb6615619aR
open Go.RowKit
attribute [local go_sem ↓] Go.wp_at_zero Go.wp_at_succ

def strA (ss : List ByteArray) : Array Value := (ss.map Value.string).toArray
/-- The clone's row after k rounds. -/
def clA (ss : List ByteArray) (k : Nat) : Array Value := ((ss.take k).map Value.string ++ List.replicate (ss.length - k) (Value.string ⟨#[]⟩)).toArray
theorem clA_zero (ss : List ByteArray) : madeCells #[.string ⟨#[]⟩] ss.length = clA ss 0 := by
  apply Array.ext'
  apply List.ext_getElem?
  intro i
  simp only [madeCells, clA, List.take_zero, List.map_nil, List.nil_append, Nat.sub_zero, List.getElem?_replicate]
  by_cases h : i < ss.length
  · have h2 : i % 1 = 0 := Nat.mod_one i
    simp [h, h2]
  · simp [h]
theorem clA_step (ss : List ByteArray) (k : Nat) (h : k < ss.length) : (clA ss k).setIfInBounds k (.string ss[k]) = clA ss (k + 1) := by
  apply Array.ext'
  simp only [clA, Array.toList_setIfInBounds]
  apply List.ext_getElem?
  intro i
  have hm : min k ss.length = k := by omega
  have hm1 : min (k + 1) ss.length = k + 1 := by omega
  simp only [List.getElem?_set, List.getElem?_append, List.length_append, List.length_map, List.length_take, List.length_replicate, List.getElem?_map, List.getElem?_take, List.getElem?_replicate, hm, hm1]
  by_cases h1 : k = i
  · subst h1
    have : k < k + (ss.length - k) := by omega
    simp [this, h]
  · by_cases h2 : i < k
    · have h3 : i < k + 1 := by omega
      simp [h1, h2, h3]
    · have h3 : ¬ i < k + 1 := by omega
      simp only [h1, h2, h3, if_false]
      have h4 : (i - k < ss.length - k) = (i - (k + 1) < ss.length - (k + 1)) := propext (by omega)
      simp [h4]
theorem clA_full (ss : List ByteArray) : clA ss ss.length = strA ss := by simp [clA, strA]
theorem clA_size (ss : List ByteArray) (k : Nat) (h : k ≤ ss.length) : (clA ss k).size = ss.length := by simp [clA]; omega
theorem clA_at (ss : List ByteArray) (k : Nat) (h : k < ss.length) : ∃ v, (clA ss k)[k]? = some v := by
  refine ⟨(clA ss k)[k]'(by rw [clA_size _ _ (by omega)]; exact h), ?_⟩
  simp
theorem Try.info9 : (Try.prog.info? 9).map (fun i => (i.zero, i.size, i.bytes)) = some (some (.string ⟨#[]⟩), 1, 16) := by kernel_rfl

theorem heap_new (w : World) (o : Obj) : (w.alloc o).heap[w.heap.size]? = some o := by
  show (w.heap.push o)[w.heap.size]? = some o
  simp

set_option maxHeartbeats 400000 in
theorem cloneStrs (bv : Value) (d : Option (List ByteArray)) (w : World) (hB : ByAt w bv d) (hs : lenBy d) :
    Calls Try.prog 17 #[bv] w fun e w' => (∃ a n c, e = .returned (.slice a n c) ∧ ByAt w' (.slice a n c) d ∧ ∀ x, a = some x → 0 < n → w.heap.size ≤ x.block) ∧ Below w.heap.size w w' := by
  cases d with
  | none =>
    obtain rfl := hB
    have hq := fun w => Lib.run_eql_slice_nil (P := Try.prog) w 38 9 none 0 0 0 0 Try.underlying38
    go_enter Try.func17, Try.ntmps17
    go_wp2
    go_ret
    exact ⟨⟨_, _, _, rfl, rfl, fun x h => by cases h⟩, Below.refl _ _⟩
  | some ss =>
    obtain ⟨a, c, rfl, hc⟩ := hB
    obtain ⟨hl, hs⟩ := hs ss rfl
    have hq := fun w => Lib.run_eql_slice_nil (P := Try.prog) w 38 9 (some a) ss.length c 0 0 Try.underlying38
    have hmk := run_make_row' (P := Try.prog) 38 9 (.string ⟨#[]⟩) 16 Try.underlying38 Try.info9 rfl .i64 .i64 ss.length (by omega) (by omega)
    rw [clA_zero] at hmk
    refine Calls.mono (R := fun e w' => e = .returned (.slice (some ⟨w.heap.size, 0, none⟩) ss.length ss.length) ∧ w' = w.alloc (.cells (strA ss) 9)) ?_ ?_
    · go_enter Try.func17, Try.ntmps17
      go_wp2
      go_loopw [4] (fun i wr => ∃ k : Nat, k ≤ ss.length ∧ i = .int .i64 k ∧ wr = w.alloc (.cells (clA ss k) 9)) (fun i _ => ss.length - (intOf i).toNat)
      case atStart => exact ⟨0, Nat.zero_le _, rfl, rfl⟩
      case round =>
        obtain ⟨k, hk, rfl, rfl⟩ := hrel
        by_cases hlt : k < ss.length
        · obtain ⟨b, off, rfl, hb, hg⟩ := hc (by omega)
          have hc1 := hg k hlt
          obtain ⟨v, hv⟩ := clA_at ss k hlt
          have hst : Hid (_ = _) := clA_step ss k hlt
          clear hg hc
          go_wp2
          exact ⟨⟨k + 1, by omega, by go_num, by rw [hst.out]⟩, by simp [intOf]; omega⟩
        · have : k = ss.length := by omega
          subst this
          go_wp2
          go_ret
          rw [clA_full]
          exact ⟨rfl, rfl⟩
    · rintro e w' ⟨rfl, rfl⟩
      refine ⟨⟨_, _, _, rfl, ⟨_, _, rfl, fun hp => ⟨w.heap.size, 0, rfl, by simp, fun k hk => ?_⟩⟩, fun x h _ => by cases h; exact Nat.le_refl _⟩, (Below.refl _ _).alloc (Nat.le_refl _) _⟩
      rw [World.cell?_alloc_at _ _ _ _ rfl]
      simp [strA, hk]

/-! ### rows of three cells an element -/
abbrev T3 := Value × Value × Value
def c3 (l : List T3) : List Value := l.flatMap fun t => [t.1, t.2.1, t.2.2]
theorem c3_cons (t : T3) (l : List T3) : c3 (t :: l) = t.1 :: t.2.1 :: t.2.2 :: c3 l := rfl
theorem c3_length (l : List T3) : (c3 l).length = l.length * 3 := by
  induction l with
  | nil => rfl
  | cons g l ih => rw [c3_cons]; simp only [List.length_cons, ih]; omega
theorem c3_at (l : List T3) (i : Nat) (h : i < l.length) : (c3 l)[i * 3]? = some l[i].1 ∧ (c3 l)[i * 3 + 1]? = some l[i].2.1 ∧ (c3 l)[i * 3 + 2]? = some l[i].2.2 := by
  induction l generalizing i with
  | nil => simp at h
  | cons g l ih =>
    rw [c3_cons]
    cases i with
    | zero => simp
    | succ i =>
      have := ih i (by simpa using h)
      rw [show (i + 1) * 3 = i * 3 + 1 + 1 + 1 by omega]
      simpa using this
theorem c3_set (l : List T3) (i : Nat) (h : i < l.length) (t : T3) : (((c3 l).set (i * 3) t.1).set (i * 3 + 1) t.2.1).set (i * 3 + 2) t.2.2 = c3 (l.set i t) := by
  induction l generalizing i with
  | nil => simp at h
  | cons x l ih =>
    cases i with
    | zero => simp [c3_cons]
    | succ i =>
      have := ih i (by simpa using h)
      rw [show (i + 1) * 3 = i * 3 + 1 + 1 + 1 by omega, List.set_cons_succ, c3_cons, c3_cons, ← this]
      rfl
theorem c3_made (a b c : Value) (n : Nat) : madeCells #[a, b, c] (n * 3) = (c3 (List.replicate n (a, b, c))).toArray := by
  apply Array.ext'
  apply List.ext_getElem?
  intro i
  by_cases h : i < n * 3
  · have hr : i / 3 < (List.replicate n ((a, b, c) : T3)).length := by simp; omega
    obtain ⟨h0, h1, h2⟩ := c3_at (List.replicate n (a, b, c)) (i / 3) hr
    have hl : (madeCells #[a, b, c] (n * 3)).toList[i]? = some (#[a, b, c][i % 3]!) := by simp [madeCells, h]
    rw [hl]
    have h3 : i % 3 = 0 ∨ i % 3 = 1 ∨ i % 3 = 2 := by omega
    rcases h3 with h3 | h3 | h3
    · rw [show i = i / 3 * 3 by omega, h0]
      simp
    · rw [show i = i / 3 * 3 + 1 by omega, h1]
      simp [show (i / 3 * 3 + 1) % 3 = 1 by omega]
    · rw [show i = i / 3 * 3 + 2 by omega, h2]
      simp [show (i / 3 * 3 + 2) % 3 = 2 by omega]
  · rw [List.getElem?_eq_none (by simp [madeCells]; omega), List.getElem?_eq_none (by simp [c3_length]; omega)]

/-- The first k of G are laid, the rest are zero. -/
def fill (G : List T3) (z : T3) (k : Nat) : List T3 := G.take k ++ List.replicate (G.length - k) z
theorem fill_length (G : List T3) (z : T3) (k : Nat) (h : k ≤ G.length) : (fill G z k).length = G.length := by simp [fill]; omega
theorem fill_zero (G : List T3) (z : T3) : fill G z 0 = List.replicate G.length z := by simp [fill]
theorem fill_full (G : List T3) (z : T3) : fill G z G.length = G := by simp [fill]
theorem fill_step (G : List T3) (z : T3) (k : Nat) (h : k < G.length) : (fill G z k).set k G[k] = fill G z (k + 1) := by
  apply List.ext_getElem?
  intro i
  have hm : min k G.length = k := by omega
  have hm1 : min (k + 1) G.length = k + 1 := by omega
  simp only [fill, List.getElem?_set, List.getElem?_append, List.length_append, List.length_take, List.length_replicate, List.getElem?_take, List.getElem?_replicate, hm, hm1]
  by_cases h1 : k = i
  · subst h1
    have : k < k + (G.length - k) := by omega
    simp [this, h]
  · by_cases h2 : i < k
    · have h3 : i < k + 1 := by omega
      simp [h1, h2, h3]
    · have h3 : ¬ i < k + 1 := by omega
      simp only [h1, h2, h3, if_false]
      have h4 : (i - k < G.length - k) = (i - (k + 1) < G.length - (k + 1)) := propext (by omega)
      simp [h4]
/-- The row in memory. -/
def rowA (l : List T3) : Array Value := (c3 l).toArray
theorem rowA_set (l : List T3) (i : Nat) (h : i < l.length) (a b c : Value) : (((rowA l).setIfInBounds (i * 3) a).setIfInBounds (i * 3 + 1) b).setIfInBounds (i * 3 + 2) c = rowA (l.set i (a, b, c)) := by
  apply Array.ext'
  simp only [rowA, Array.toList_setIfInBounds]
  exact c3_set l i h (a, b, c)
theorem rowA_at (l : List T3) (i : Nat) (h : i < l.length) : (rowA l)[i * 3]? = some l[i].1 ∧ (rowA l)[i * 3 + 1]? = some l[i].2.1 ∧ (rowA l)[i * 3 + 2]? = some l[i].2.2 := by
  have := c3_at l i h
  simpa [rowA] using this
theorem rowA_some (l : List T3) (i : Nat) (h : i < l.length) : ∃ a b c, (rowA l)[i * 3]? = some a ∧ (rowA l)[i * 3 + 1]? = some b ∧ (rowA l)[i * 3 + 2]? = some c := ⟨_, _, _, rowA_at l i h⟩
theorem row_cell {w : World} {b : Nat} {l : List T3} {t : TypeId} (h : w.heap[b]? = some (.cells (rowA l) t (0, 0))) (i : Nat) (hi : i < l.length) :
    w.cell? ⟨b, i * 3, none⟩ = some l[i].1 ∧ w.cell? ⟨b, i * 3 + 1, none⟩ = some l[i].2.1 ∧ w.cell? ⟨b, i * 3 + 2, none⟩ = some l[i].2.2 := by
  have := rowA_at l i hi
  simpa [World.cell?, h] using this

/-- 'make([]T, n)', T of three cells. -/
theorem run_make3 (t e : TypeId) (a b c : Value) (bytes : Nat) (ht : Try.prog.underlying t = some (.slice e)) (hinfo : (Try.prog.info? e).map (fun i => (i.zero, i.size, i.bytes)) = some (some (.agg #[a, b, c]), 3, bytes))
    (kl kc : IntKind) (n : Nat) (hbytes : bytes * n ≤ 281474976710656) (h63 : n ≤ 9223372036854775807) (w : World) :
    (Instr.makeSlice t (.int kl (n : Int)) (.int kc (n : Int))).run Try.prog w = .ok (.slice (some ⟨w.heap.size, 0, none⟩) n n) (w.alloc (.cells (rowA (List.replicate n (a, b, c))) e)) := by
  obtain ⟨i, hi, hzz⟩ := Option.map_eq_some_iff.1 hinfo
  simp only [Prod.mk.injEq] at hzz
  obtain ⟨hz, hs, hb⟩ := hzz
  have hb' : (i.bytes : Int) * (n : Int) ≤ 281474976710656 := by
    have h : ((i.bytes * n : Nat) : Int) ≤ 281474976710656 := by rw [hb]; omega
    rwa [Int.natCast_mul] at h
  have hr := run_make (P := Try.prog) w t e i _ ht hi hz kl kc n n (by omega) (by omega) hb' (by omega)
  rw [hr, hs]
  simp only [Int.toNat_natCast]
  rw [show (Value.agg #[a, b, c]).cells = #[a, b, c] from rfl, c3_made]
  rfl

/-! ### toGranteesB1 -/
def gT (g : Gr) : T3 := (.string g.name, .bool g.grp, .string g.ing)
def gZ : T3 := (.string ⟨#[]⟩, .bool false, .string ⟨#[]⟩)
theorem Try.info47 : (Try.prog.info? 47).map (fun i => (i.zero, i.size, i.bytes)) = some (some (.agg #[.string ⟨#[]⟩, .bool false, .string ⟨#[]⟩]), 3, 40) := by kernel_rfl

theorem set3 (W : World) (R : Array Value) (t : TypeId) (q i : Nat) (a b c : Value) :
    ((((W.alloc (.cells R t)).drewN q).setCell ⟨W.heap.size, i, none⟩ a).setCell ⟨W.heap.size, i + 1, none⟩ b).setCell ⟨W.heap.size, i + 2, none⟩ c = (W.alloc (.cells (((R.setIfInBounds i a).setIfInBounds (i + 1) b).setIfInBounds (i + 2) c) t)).drewN q := by
  show ((((W.alloc (.cells R t)).setCell ⟨W.heap.size, i, none⟩ a).setCell ⟨W.heap.size, i + 1, none⟩ b).setCell ⟨W.heap.size, i + 2, none⟩ c).drewN q = _
  rw [World.setCell_alloc_at _ _ _ _ _ rfl, World.setCell_alloc_at _ _ _ _ _ rfl, World.setCell_alloc_at _ _ _ _ _ rfl]

set_option maxHeartbeats 1000000 in
theorem toGrantees_at (sa sb : Option Addr) (ca cb : Nat) (ga gb : List Gr) (G : List T3) (w : World) (hA : Gl w sa ga) (hB : Gl w sb gb) (la : ga.length ≤ 1048576) (lb : gb.length ≤ 1048576) (HG : Hid (G = (ga ++ gb).map gT)) :
    Calls Try.prog 10 #[.slice sa ga.length ca, .slice sb gb.length cb] w fun e w' => e = .returned (.slice (some ⟨w.heap.size, 0, none⟩) (ga.length + gb.length) (ga.length + gb.length)) ∧ ∃ q, w' = (w.alloc (.cells (rowA G) 47)).drewN q := by
  have HL : Hid (G.length = ga.length + gb.length) := by rw [HG.out]; simp [Hid]
  have hmk := run_make3 31 47 _ _ _ 40 Try.underlying31 Try.info47 .i64 .i64 (ga.length + gb.length) (by omega) (by omega)
  rw [show List.replicate (ga.length + gb.length) ((.string ⟨#[]⟩, .bool false, .string ⟨#[]⟩) : T3) = fill G gZ 0 by rw [fill_zero, HL.out]; rfl] at hmk
  rw [Int.natCast_add] at hmk
  go_enter Try.func10, Try.ntmps10
  go_wp2
  go_loopw [6] (fun i wr => ∃ k q : Nat, k ≤ ga.length ∧ i = .int .i64 k ∧ wr = (w.alloc (.cells (rowA (fill G gZ k)) 47)).drewN q) (fun i _ => ga.length - (intOf i).toNat)
  case atStart => exact ⟨0, 0, Nat.zero_le _, rfl, rfl⟩
  case round =>
    obtain ⟨k, q, hk, rfl, rfl⟩ := hrel
    by_cases hlt : k < ga.length
    · obtain ⟨b, off, rfl, hb, hg⟩ := hA.pos (by omega)
      obtain ⟨c0, c1, c2⟩ := hg k hlt
      have hkl : k < G.length := by rw [HL.out]; omega
      obtain ⟨v0, v1, v2, e0, e1, e2⟩ := rowA_some (fill G gZ k) k (by rw [fill_length _ _ _ (by omega)]; exact hkl)
      have hst := fill_step G gZ k hkl
      have hst2 := rowA_set (fill G gZ k) k (by rw [fill_length _ _ _ (by omega)]; exact hkl) (.string ga[k].name) (.bool ga[k].grp) (.string ga[k].ing)
      have hel : G[k] = (.string ga[k].name, .bool ga[k].grp, .string ga[k].ing) := by simp [HG.out, gT, hlt]
      rw [hel] at hst
      rw [hst] at hst2
      have ST := hid hst2
      clear hg hA hst hst2 hel hkl
      generalize rowA (fill G gZ k) = R at e0 e1 e2 ST ⊢
      have hI : (k : Int) < (ga.length : Int) := by omega
      have hI2 : (k : Int) < (ga.length : Int) + (gb.length : Int) := by omega
      go_wp2
      go_region
      go_wp2
      exact ⟨⟨k + 1, q + 1, by omega, by go_num, by rw [set3, ST.out]⟩, by simp [intOf]; omega⟩
    · obtain rfl : k = ga.length := by omega
      go_wp2
      go_loopw [7] (fun i wr => ∃ k q : Nat, k ≤ gb.length ∧ i = .int .i64 k ∧ wr = (w.alloc (.cells (rowA (fill G gZ (ga.length + k))) 47)).drewN q) (fun i _ => gb.length - (intOf i).toNat)
      case atStart => exact ⟨0, q, Nat.zero_le _, rfl, rfl⟩
      case round =>
        obtain ⟨k, q, hk, rfl, rfl⟩ := hrel
        by_cases hlt : k < gb.length
        · obtain ⟨b, off, rfl, hb, hg⟩ := hB.pos (by omega)
          obtain ⟨c0, c1, c2⟩ := hg k hlt
          have hkl : ga.length + k < G.length := by rw [HL.out]; omega
          obtain ⟨v0, v1, v2, e0, e1, e2⟩ := rowA_some (fill G gZ (ga.length + k)) (ga.length + k) (by rw [fill_length _ _ _ (by omega)]; exact hkl)
          have hst := fill_step G gZ (ga.length + k) hkl
          have hst2 := rowA_set (fill G gZ (ga.length + k)) (ga.length + k) (by rw [fill_length _ _ _ (by omega)]; exact hkl) (.string gb[k].name) (.bool gb[k].grp) (.string gb[k].ing)
          have hel : G[ga.length + k] = (.string gb[k].name, .bool gb[k].grp, .string gb[k].ing) := by simp [HG.out, gT]
          rw [hel] at hst
          rw [hst] at hst2
          have ST := hid hst2
          clear hg hB hst hst2 hel hkl
          generalize rowA (fill G gZ (ga.length + k)) = R at e0 e1 e2 ST ⊢
          have hI : (k : Int) < (gb.length : Int) := by omega
          have hI2 : (ga.length : Int) + (k : Int) < (ga.length : Int) + (gb.length : Int) := by omega
          go_wp2
          go_region
          go_wp2
          exact ⟨⟨k + 1, q + 1, by omega, by go_num, by rw [set3, ST.out]; rfl⟩, by simp [intOf]; omega⟩
        · obtain rfl : k = gb.length := by omega
          have hf : Hid (fill G gZ (ga.length + gb.length) = G) := by rw [← HL.out]; exact fill_full G gZ
          go_wp2
          go_ret
          exact ⟨rfl, q, by rw [hf.out]⟩

theorem toGr (sa sb : Option Addr) (ca cb : Nat) (ga gb : List Gr) (w : World) (hA : Gl w sa ga) (hB : Gl w sb gb) (la : ga.length ≤ 1048576) (lb : gb.length ≤ 1048576) :
    Calls Try.prog 10 #[.slice sa ga.length ca, .slice sb gb.length cb] w fun e w' => e = .returned (.slice (some ⟨w.heap.size, 0, none⟩) (ga ++ gb).length (ga ++ gb).length) ∧ GrAt w' w.heap.size 0 (ga ++ gb) ∧ Below w.heap.size w w' ∧ w.heap.size < w'.heap.size := by
  refine (toGrantees_at sa sb ca cb ga gb _ w hA hB la lb (hid rfl)).mono ?_
  rintro e w' ⟨rfl, q, rfl⟩
  refine ⟨by rw [List.length_append], fun i hi => ?_, ?_, ?_⟩
  · have := row_cell (w := (w.alloc (.cells (rowA ((ga ++ gb).map gT)) 47)).drewN q) (b := w.heap.size) (l := (ga ++ gb).map gT) (t := 47) (heap_new _ _) i (by simpa using hi)
    rw [Nat.zero_add]
    rw [List.getElem_map] at this
    exact this
  · exact ((Below.refl _ _).alloc (Nat.le_refl _) _).trans ⟨rfl, rfl, rfl, Nat.le_refl _, fun _ _ => rfl⟩
  · show w.heap.size < (w.alloc _).heap.size
    simp
end Go.Proofs.Qxb6615619aR
