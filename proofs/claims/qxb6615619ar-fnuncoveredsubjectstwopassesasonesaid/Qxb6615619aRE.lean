/-
  Seat b6615619a. slices.Index, slices.Contains, the closure 'held'; Covering; slices.IndexFunc, slices.ContainsFunc; the closures 'covered' and the two predicates of DeleteFunc.
-/
import Derived.Test.Qxb6615619aRD
namespace Go.Proofs.Qxb6615619aR
open Go.RowKit
attribute [local go_sem ↓] Go.wp_at_zero Go.wp_at_succ

/-- '==' on two grantees. -/
def eqG (a b : Gr) : Bool := a.name.toList == b.name.toList && (a.grp == b.grp && a.ing.toList == b.ing.toList)
theorem fields47 : (Try.prog.fieldsOf 47).toList = [{ name := "Name", type := 9, offset := 0, embedded := false, tag := "", pkgPath := "", byteOffset := 0 }, { name := "Group", type := 4, offset := 1, embedded := false, tag := "", pkgPath := "", byteOffset := 16 }, { name := "InGroup", type := 9, offset := 2, embedded := false, tag := "", pkgPath := "", byteOffset := 24 }] := by
  unfold Program.fieldsOf
  rw [Try.underlying47]
theorem eql47 (a b : Gr) (w : World) : (binOp .eql 47 (.agg #[.string a.name, .bool a.grp, .string a.ing]) (.agg #[.string b.name, .bool b.grp, .string b.ing])).run Try.prog w = .ok (.bool (eqG a b)) w := by
  have ht : Try.prog.underlying 47 = some (.struct (Try.prog.fieldsOf 47)) := by unfold Program.fieldsOf; rw [Try.underlying47]
  have hp : Try.prog.stoodInHeld 47 = false := by kernel_rfl
  rw [run_eql_struct, run_equalIn_agg w 9999 47 _ _ ht hp, fields47]
  have hu9 := Try.underlying9
  have hu4 := Try.underlying4
  go_simp
  unfold eqG
  by_cases h1 : a.name.toList = b.name.toList <;> by_cases h2 : a.grp = b.grp <;> by_cases h3 : a.ing.toList = b.ing.toList <;> simp [h1, h2, h3]

/-- None of the first k is v. -/
def NoneUpto (gs : List Gr) (v : Gr) (k : Nat) : Prop := ∀ i, (h : i < gs.length) → i < k → eqG v gs[i] = false
theorem NoneUpto.next {gs : List Gr} {v : Gr} {k : Nat} (h : NoneUpto gs v k) (hk : k < gs.length) (ho : eqG v gs[k] = false) : NoneUpto gs v (k + 1) := fun i hi hlt => by
  by_cases e : i = k
  · subst e; exact ho
  · exact h i hi (by omega)
def has (gs : List Gr) (v : Gr) : Bool := gs.any (eqG v)
theorem has_no {gs : List Gr} {v : Gr} (h : NoneUpto gs v gs.length) : has gs v = false := by
  unfold has
  rw [List.any_eq_false]
  intro x hx
  obtain ⟨i, hi, rfl⟩ := List.mem_iff_getElem.1 hx
  simp [h i hi hi]
theorem has_yes {gs : List Gr} {v : Gr} {k : Nat} (hk : k < gs.length) (h : eqG v gs[k] = true) : has gs v = true := by
  unfold has
  rw [List.any_eq_true]
  exact ⟨_, List.getElem_mem hk, h⟩

def IR (e : Ending) (b : Bool) : Prop := ∃ r : Int, -1 ≤ r ∧ r ≤ 3000000 ∧ e = .returned (.int .i64 r) ∧ decide (0 ≤ r) = b

set_option maxHeartbeats 1000000 in
theorem index_any (b : Nat) (c : Nat) (gs : List Gr) (v : Gr) (w : World) (hG : GrAt w b 0 gs) (hb : b < w.heap.size) (hl : gs.length ≤ 3000000) :
    Calls Try.prog 31 #[.slice (some ⟨b, 0, none⟩) gs.length c, .agg #[.string v.name, .bool v.grp, .string v.ing]] w fun e w' => IR e (has gs v) ∧ Below w.heap.size w w' := by
  have heq := fun x w => eql47 v x w
  have hB : Below w.heap.size w (w.alloc (.cells #[.string v.name, .bool v.grp, .string v.ing] 47)) := (Below.refl _ _).alloc (Nat.le_refl _) _
  go_enter Try.func31, Try.ntmps31
  go_wp2
  go_loopw [8] (fun i wr => ∃ (k q : Nat), k ≤ gs.length ∧ i = .int .i64 k ∧ wr = (w.alloc (.cells #[.string v.name, .bool v.grp, .string v.ing] 47)).drewN q ∧ NoneUpto gs v k) (fun i _ => gs.length - (intOf i).toNat)
  case atStart => exact ⟨0, 0, Nat.zero_le _, rfl, rfl, fun _ _ h => absurd h (Nat.not_lt_zero _)⟩
  case round =>
    obtain ⟨k, q, hk, rfl, rfl, hno⟩ := hrel
    have NO := hid hno
    clear hno
    by_cases hlt : k < gs.length
    · obtain ⟨c0, c1, c2⟩ := hG k hlt
      rw [Nat.zero_add] at c0 c1 c2
      have hI : (k : Int) < (gs.length : Int) := by omega
      have hq := fun w => eql47 v gs[k] w
      clear hG heq
      cases hx : eqG v gs[k] with
      | true =>
        have HX := hid hx
        rw [hx] at hq
        clear hx
        go_wp2
        go_quiet (fail)
        go_wp2
        go_ret
        exact ⟨⟨(k : Int), by omega, by omega, rfl, by rw [has_yes hlt HX.out]; simp⟩, hB.trans ⟨rfl, rfl, rfl, Nat.le_refl _, fun _ _ => rfl⟩⟩
      | false =>
        have HX := hid hx
        rw [hx] at hq
        clear hx
        go_wp2
        go_quiet (fail)
        go_wp2
        exact ⟨⟨k + 1, _, by omega, by go_num, rfl, NO.out.next hlt HX.out⟩, by simp [intOf]; omega⟩
    · obtain rfl : k = gs.length := by omega
      go_wp2
      go_ret
      exact ⟨⟨-1, by omega, by omega, rfl, by rw [has_no NO.out]; rfl⟩, hB.trans ⟨rfl, rfl, rfl, Nat.le_refl _, fun _ _ => rfl⟩⟩

set_option maxHeartbeats 1000000 in
theorem contains_any (b : Nat) (c : Nat) (gs : List Gr) (v : Gr) (w : World) (hG : GrAt w b 0 gs) (hb : b < w.heap.size) (hl : gs.length ≤ 3000000) :
    Calls Try.prog 20 #[.slice (some ⟨b, 0, none⟩) gs.length c, .agg #[.string v.name, .bool v.grp, .string v.ing]] w fun e w' => e = .returned (.bool (has gs v)) ∧ Below w.heap.size w w' := by
  have hB : Below w.heap.size w (w.alloc (.cells #[.string v.name, .bool v.grp, .string v.ing] 47)) := (Below.refl _ _).alloc (Nat.le_refl _) _
  have HB := hid hB
  have HI := hid (index_any b c gs v (w.alloc (.cells #[.string v.name, .bool v.grp, .string v.ing] 47)) (fun i hi => by
    have := hG i hi
    rw [hB.cell (p := ⟨b, 0 + i * 3, none⟩) hb, hB.cell (p := ⟨b, 0 + i * 3 + 1, none⟩) hb, hB.cell (p := ⟨b, 0 + i * 3 + 2, none⟩) hb]; exact this) (by simp; omega) hl)
  clear hG hB
  go_enter Try.func20, Try.ntmps20
  go_wp2_with fail
  refine HI.out.mono ?_
  rintro e w' ⟨⟨r, r0, r1, rfl, hr⟩, hb'⟩
  have HR := hid hr
  clear hr
  go_wp2
  go_ret
  refine ⟨?_, HB.out.trans (hb'.mono (by simp))⟩
  rw [← HR.out]
  rfl

/-- The three boxes of the closures, and the list of grantees that is held. -/
structure Env (w : World) (p8 p5 ph : Nat) (hb c : Nat) (gs : List Gr) : Prop where
  c8 : w.cell? ⟨p8, 0, none⟩ = some (.func (.func 25) #[] #[.pointer (some ⟨p5, 0, none⟩)])
  c5 : w.cell? ⟨p5, 0, none⟩ = some (.func (.func 19) #[] #[.pointer (some ⟨ph, 0, none⟩)])
  ch : w.cell? ⟨ph, 0, none⟩ = some (.slice (some ⟨hb, 0, none⟩) gs.length c)
  g : GrAt w hb 0 gs
  l8 : p8 < w.heap.size
  l5 : p5 < w.heap.size
  lh : ph < w.heap.size
  lb : hb < w.heap.size
  len : gs.length ≤ 3000000

theorem GrAt.kb {w w' : World} {b off : Nat} {gs : List Gr} (h : GrAt w b off gs) {B r : Nat} (hk : Kb B r w w') (hb : b < B) (hr : b ≠ r) : GrAt w' b off gs := fun i hi => by
  obtain ⟨h0, h1, h2⟩ := h i hi
  exact ⟨(hk.cell (p := ⟨b, off + i * 3, none⟩) hb hr).trans h0, (hk.cell (p := ⟨b, off + i * 3 + 1, none⟩) hb hr).trans h1, (hk.cell (p := ⟨b, off + i * 3 + 2, none⟩) hb hr).trans h2⟩
theorem GrAt.below {w w' : World} {b off : Nat} {gs : List Gr} (h : GrAt w b off gs) {B : Nat} (hk : Below B w w') (hb : b < B) : GrAt w' b off gs := h.kb (r := B) (Kb.ofBelow hk) hb (by omega)
theorem Env.kb {w w' : World} {p8 p5 ph hb c : Nat} {gs : List Gr} (h : Env w p8 p5 ph hb c gs) {B r : Nat} (hk : Kb B r w w') (hB : w.heap.size ≤ B) (h8 : p8 ≠ r) (h5 : p5 ≠ r) (hh : ph ≠ r) (hbr : hb ≠ r) : Env w' p8 p5 ph hb c gs :=
  ⟨(hk.cell (p := ⟨p8, 0, none⟩) (Nat.lt_of_lt_of_le h.l8 hB) h8).trans h.c8, (hk.cell (p := ⟨p5, 0, none⟩) (Nat.lt_of_lt_of_le h.l5 hB) h5).trans h.c5, (hk.cell (p := ⟨ph, 0, none⟩) (Nat.lt_of_lt_of_le h.lh hB) hh).trans h.ch, h.g.kb hk (Nat.lt_of_lt_of_le h.lb hB) hbr,
    Nat.lt_of_lt_of_le h.l8 hk.size, Nat.lt_of_lt_of_le h.l5 hk.size, Nat.lt_of_lt_of_le h.lh hk.size, Nat.lt_of_lt_of_le h.lb hk.size, h.len⟩
theorem Env.below {w w' : World} {p8 p5 ph hb c : Nat} {gs : List Gr} (h : Env w p8 p5 ph hb c gs) {B : Nat} (hk : Below B w w') (hB : w.heap.size ≤ B) : Env w' p8 p5 ph hb c gs :=
  h.kb (r := B) (Kb.ofBelow hk) hB (by have := h.l8; omega) (by have := h.l5; omega) (by have := h.lh; omega) (by have := h.lb; omega)

set_option maxHeartbeats 1000000 in
/-- The closure 'held'. -/
theorem held_any (p8 p5 ph hb c : Nat) (gs : List Gr) (v : Gr) (w : World) (hE : Env w p8 p5 ph hb c gs) :
    Calls Try.prog 19 #[.agg #[.string v.name, .bool v.grp, .string v.ing], .pointer (some ⟨ph, 0, none⟩)] w fun e w' => e = .returned (.bool (has gs v)) ∧ Below w.heap.size w w' := by
  have hB : Below w.heap.size w (w.alloc (.cells #[.string v.name, .bool v.grp, .string v.ing] 47)) := (Below.refl _ _).alloc (Nat.le_refl _) _
  have hE1 := hE.below hB (Nat.le_refl _)
  have HB := hid hB
  have HC := hid (contains_any hb c gs v _ hE1.g hE1.lb hE.len)
  have ch := hE.ch
  have lh := hE.lh
  clear hE hE1 hB
  go_enter Try.func19, Try.ntmps19
  go_wp2_with fail
  refine HC.out.mono ?_
  rintro e w' ⟨rfl, hb'⟩
  go_wp2
  go_ret
  exact ⟨rfl, HB.out.trans (hb'.mono (by simp))⟩

/-- The grantees that cover v. -/
def cover (v : Gr) : List Gr := if v.ing.toList.isEmpty then [v] else [v, ⟨v.name, false, ⟨#[]⟩⟩, ⟨v.ing, true, ⟨#[]⟩⟩]

theorem grAt_new (W : World) (L : List Gr) (t : TypeId) : GrAt (W.alloc (.cells (rowA (L.map gT)) t)) W.heap.size 0 L := fun i hi => by
  have := row_cell (w := W.alloc (.cells (rowA (L.map gT)) t)) (heap_new _ _) i (by simpa using hi)
  rw [Nat.zero_add]
  rw [List.getElem_map] at this
  exact this

set_option maxHeartbeats 1000000 in
theorem covering_any (v : Gr) (w : World) :
    Calls Try.prog 27 #[.agg #[.string v.name, .bool v.grp, .string v.ing]] w fun e w' => (∃ lb c, e = .returned (.slice (some ⟨lb, 0, none⟩) (cover v).length c) ∧ lb < w'.heap.size ∧ GrAt w' lb 0 (cover v)) ∧ Below w.heap.size w w' := by
  have hs : (w.alloc (.cells #[.string v.name, .bool v.grp, .string v.ing] 47)).heap.size = w.heap.size + 1 := by simp
  have HS := hid hs
  have HB := hid ((Below.refl w.heap.size w).alloc (Nat.le_refl _) (.cells #[.string v.name, .bool v.grp, .string v.ing] 47))
  clear hs
  by_cases h : v.ing.toList.isEmpty = true
  · have HC : Hid (cover v = [v]) := by unfold cover; rw [if_pos h]; exact rfl
    go_enter Try.func27, Try.ntmps27
    go_wp2
    go_ret
    rw [HC.out]
    refine ⟨⟨w.heap.size + 1, 1, rfl, by simp, ?_⟩, HB.out.alloc (by simp) _⟩
    have := grAt_new (w.alloc (.cells #[.string v.name, .bool v.grp, .string v.ing] 47)) [v] 47
    rw [HS.out] at this
    exact this
  · have h' : v.ing.toList.isEmpty = false := by simpa using h
    have HC : Hid (cover v = [v, ⟨v.name, false, ⟨#[]⟩⟩, ⟨v.ing, true, ⟨#[]⟩⟩]) := by unfold cover; rw [if_neg h]; exact rfl
    go_enter Try.func27, Try.ntmps27
    go_wp2
    go_ret
    rw [HC.out]
    refine ⟨⟨w.heap.size + 1, 3, rfl, by simp, ?_⟩, HB.out.alloc (by simp) _⟩
    have := grAt_new (w.alloc (.cells #[.string v.name, .bool v.grp, .string v.ing] 47)) [v, ⟨v.name, false, ⟨#[]⟩⟩, ⟨v.ing, true, ⟨#[]⟩⟩] 47
    rw [HS.out] at this
    exact this

def NoUpto (gs L : List Gr) (k : Nat) : Prop := ∀ i, (h : i < L.length) → i < k → has gs L[i] = false
theorem NoUpto.next {gs L : List Gr} {k : Nat} (h : NoUpto gs L k) (hk : k < L.length) (ho : has gs L[k] = false) : NoUpto gs L (k + 1) := fun i hi hlt => by
  by_cases e : i = k
  · subst e; exact ho
  · exact h i hi (by omega)
def hasAny (gs L : List Gr) : Bool := L.any (has gs)
theorem hasAny_no {gs L : List Gr} (h : NoUpto gs L L.length) : hasAny gs L = false := by
  unfold hasAny
  rw [List.any_eq_false]
  intro x hx
  obtain ⟨i, hi, rfl⟩ := List.mem_iff_getElem.1 hx
  simp [h i hi hi]
theorem hasAny_yes {gs L : List Gr} {k : Nat} (hk : k < L.length) (h : has gs L[k] = true) : hasAny gs L = true := by
  unfold hasAny
  rw [List.any_eq_true]
  exact ⟨_, List.getElem_mem hk, h⟩

set_option maxHeartbeats 1000000 in
theorem indexFunc_any (p8 p5 ph hb c : Nat) (gs L : List Gr) (lb cl : Nat) (w : World) (hE : Env w p8 p5 ph hb c gs) (hL : GrAt w lb 0 L) (hlb : lb < w.heap.size) (hl : L.length ≤ 3000000) :
    Calls Try.prog 33 #[.slice (some ⟨lb, 0, none⟩) L.length cl, .func (.func 19) #[] #[.pointer (some ⟨ph, 0, none⟩)]] w fun e w' => IR e (hasAny gs L) ∧ Below w.heap.size w w' := by
  have HE := hid hE
  have HL := hid hL
  clear hE hL
  go_enter Try.func33, Try.ntmps33
  go_wp2
  go_loopw [8] (fun i wr => ∃ (k : Nat), k ≤ L.length ∧ i = .int .i64 k ∧ Below w.heap.size w wr ∧ NoUpto gs L k) (fun i _ => L.length - (intOf i).toNat)
  case atStart => exact ⟨0, Nat.zero_le _, rfl, Below.refl _ _, fun _ _ h => absurd h (Nat.not_lt_zero _)⟩
  case round =>
    obtain ⟨k, hk, rfl, hbel, hno⟩ := hrel
    have NO := hid hno
    have HB := hid hbel
    clear hno
    by_cases hlt : k < L.length
    · obtain ⟨c0, c1, c2⟩ := (HL.out.below hbel hlb) k hlt
      rw [Nat.zero_add] at c0 c1 c2
      have hI : (k : Int) < (L.length : Int) := by omega
      have HC := hid (held_any p8 p5 ph hb c gs L[k] wr (HE.out.below hbel (Nat.le_refl _)))
      clear hbel
      cases hx : has gs L[k] with
      | true =>
        have HX := hid hx
        rw [hx] at HC
        clear hx
        go_wp2_with (go_at_call 19; refine HC.out.mono ?_; rintro e w1 ⟨rfl, hb1⟩)
        go_ret
        exact ⟨⟨(k : Int), by omega, by omega, rfl, by rw [hasAny_yes hlt HX.out]; simp⟩, HB.out.trans (hb1.mono HB.out.size)⟩
      | false =>
        have HX := hid hx
        rw [hx] at HC
        clear hx
        go_wp2_with (go_at_call 19; refine HC.out.mono ?_; rintro e w1 ⟨rfl, hb1⟩)
        exact ⟨⟨k + 1, by omega, by go_num, HB.out.trans (hb1.mono HB.out.size), NO.out.next hlt HX.out⟩, by simp [intOf]; omega⟩
    · obtain rfl : k = L.length := by omega
      go_wp2
      go_ret
      exact ⟨⟨-1, by omega, by omega, rfl, by rw [hasAny_no NO.out]; rfl⟩, HB.out⟩

set_option maxHeartbeats 1000000 in
theorem containsFunc_any (p8 p5 ph hb c : Nat) (gs L : List Gr) (lb cl : Nat) (w : World) (hE : Env w p8 p5 ph hb c gs) (hL : GrAt w lb 0 L) (hlb : lb < w.heap.size) (hl : L.length ≤ 3000000) :
    Calls Try.prog 26 #[.slice (some ⟨lb, 0, none⟩) L.length cl, .func (.func 19) #[] #[.pointer (some ⟨ph, 0, none⟩)]] w fun e w' => e = .returned (.bool (hasAny gs L)) ∧ Below w.heap.size w w' := by
  have HI := hid (indexFunc_any p8 p5 ph hb c gs L lb cl w hE hL hlb hl)
  clear hE hL
  go_enter Try.func26, Try.ntmps26
  go_wp2_with fail
  refine HI.out.mono ?_
  rintro e w' ⟨⟨r, r0, r1, rfl, hr⟩, hb'⟩
  have HR := hid hr
  clear hr
  go_wp2
  go_ret
  refine ⟨?_, hb'⟩
  rw [← HR.out]
  rfl

theorem chain3 {w wa w1 w2 : World} (h : Below w.heap.size w wa) (h1 : Below wa.heap.size wa w1) (h2 : Below w1.heap.size w1 w2) : Below w.heap.size w w2 := (h.trans (h1.mono h.size)).trans (h2.mono (Nat.le_trans h.size h1.size))
theorem cover_len (v : Gr) : (cover v).length ≤ 3 := by unfold cover; split <;> simp
/-- Is v covered by what is held? -/
def covB (gs : List Gr) (v : Gr) : Bool := hasAny gs (cover v)

set_option maxHeartbeats 1000000 in
/-- The closure 'covered'. -/
theorem covered_any (p8 p5 ph hb c : Nat) (gs : List Gr) (v : Gr) (w : World) (hE : Env w p8 p5 ph hb c gs) :
    Calls Try.prog 25 #[.agg #[.string v.name, .bool v.grp, .string v.ing], .pointer (some ⟨p5, 0, none⟩)] w fun e w' => e = .returned (.bool (covB gs v)) ∧ Below w.heap.size w w' := by
  have hB : Below w.heap.size w (w.alloc (.cells #[.string v.name, .bool v.grp, .string v.ing] 47)) := (Below.refl _ _).alloc (Nat.le_refl _) _
  have hE1 := hE.below hB (Nat.le_refl _)
  have HB := hid hB
  have HE1 := hid hE1
  have c5 := hE.c5
  have l5 := hE.l5
  have hcl := cover_len v
  clear hE hE1 hB
  have HS : Hid ((w.alloc (.cells #[.string v.name, .bool v.grp, .string v.ing] 47)).heap.size = w.heap.size + 1) := by simp [Hid]
  go_enter Try.func25, Try.ntmps25
  go_wp2
  go_region_with (first | (go_at_call 27; refine (covering_any v _).mono ?_; rintro e w1 ⟨⟨lb, cl, rfl, hlb, hL⟩, hb1⟩; have k5 := (hb1.cell (p := ⟨p5, 0, none⟩) (by simp; omega)).trans HE1.out.c5; have LL := hid hL; have HB1 := hid hb1; clear hL hb1) | (go_at_call 26; refine (containsFunc_any p8 p5 ph hb c gs (cover v) lb cl _ ?_ ?_ ?_ ?_).mono ?_; exact HE1.out.below (undrew HB1.out) (Nat.le_refl _); exact LL.out; exact hlb; omega; rintro e w2 ⟨rfl, hb2⟩))
  all_goals
    go_wp2
    go_ret
    exact ⟨rfl, chain3 HB.out (undrew HB1.out) hb2⟩

theorem cellsEl (n g : ByteArray) (ba : Option Addr) (bn bc : Nat) (w : World) : Below w.heap.size w (w.alloc (.cells #[.string n, .string g, .slice ba bn bc] 45)) := (Below.refl _ _).alloc (Nat.le_refl _) _

set_option maxHeartbeats 1000000 in
/-- The predicate of the users. -/
theorem del_user (p8 p5 ph hb c : Nat) (gs : List Gr) (n g : ByteArray) (ba : Option Addr) (bn bc : Nat) (w : World) (hE : Env w p8 p5 ph hb c gs) :
    Calls Try.prog 29 #[.agg #[.string n, .string g, .slice ba bn bc], .pointer (some ⟨p8, 0, none⟩)] w fun e w' => e = .returned (.bool (covB gs ⟨n, false, g⟩)) ∧ Below w.heap.size w w' := by
  have hB := cellsEl n g ba bn bc w
  have HC := hid (covered_any p8 p5 ph hb c gs ⟨n, false, g⟩ _ (hE.below hB (Nat.le_refl _)))
  have HB := hid hB
  have c8 := hE.c8
  have l8 := hE.l8
  clear hE hB
  go_enter Try.func29, Try.ntmps29
  go_wp2_with fail
  refine HC.out.mono ?_
  rintro e w' ⟨rfl, hb'⟩
  go_wp2
  go_ret
  exact ⟨rfl, HB.out.trans (hb'.mono (by simp))⟩

set_option maxHeartbeats 1000000 in
/-- The predicate of the groups. -/
theorem del_group (p8 p5 ph hb c : Nat) (gs : List Gr) (n g : ByteArray) (ba : Option Addr) (bn bc : Nat) (w : World) (hE : Env w p8 p5 ph hb c gs) :
    Calls Try.prog 30 #[.agg #[.string n, .string g, .slice ba bn bc], .pointer (some ⟨p8, 0, none⟩)] w fun e w' => e = .returned (.bool (covB gs ⟨n, true, ⟨#[]⟩⟩)) ∧ Below w.heap.size w w' := by
  have hB := cellsEl n g ba bn bc w
  have HC := hid (covered_any p8 p5 ph hb c gs ⟨n, true, ⟨#[]⟩⟩ _ (hE.below hB (Nat.le_refl _)))
  have HB := hid hB
  have c8 := hE.c8
  have l8 := hE.l8
  clear hE hB
  go_enter Try.func30, Try.ntmps30
  go_wp2_with fail
  refine HC.out.mono ?_
  rintro e w' ⟨rfl, hb'⟩
  go_wp2
  go_ret
  exact ⟨rfl, HB.out.trans (hb'.mono (by simp))⟩
end Go.Proofs.Qxb6615619aR
