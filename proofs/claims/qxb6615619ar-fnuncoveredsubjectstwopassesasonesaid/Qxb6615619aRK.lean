/-
  Seat b6615619a. The plain law of coverage; the two calls in the form that the laws take.
-/
import Derived.Test.Qxb6615619aRH
import Derived.Test.Qxb6615619aRJ
namespace Go.Proofs.Qxb6615619aR
open Go.RowKit

theorem empty_toList : (⟨#[]⟩ : ByteArray).toList = [] := by rw [ByteArray.toList_eq]
theorem beq_nil_left (l : List UInt8) : (([] : List UInt8) == l) = l.isEmpty := by cases l <;> rfl
theorem beq_swap (a b : List UInt8) : (a == b) = (b == a) := by
  rw [Bool.eq_iff_iff, beq_iff_eq, beq_iff_eq]
  exact eq_comm
theorem any_or {α : Type} (p q : α → Bool) (l : List α) : (l.any p || l.any q) = l.any (fun x => p x || q x) := by
  induction l with
  | nil => rfl
  | cons x l ih => simp only [List.any_cons, ← ih]; cases p x <;> cases q x <;> simp
theorem any_congr {α : Type} (p q : α → Bool) (h : ∀ x, p x = q x) (l : List α) : l.any p = l.any q := by
  have : p = q := funext h
  rw [this]

/-- THE PLAIN LAW: a user is covered as Covering says just where the model says so. -/
theorem pU_eq (gs : List Gr) (e : El) : pU gs e = gs.any (hitU e.name e.ing) := by
  unfold pU covB hasAny cover has
  dsimp only
  cases he : e.ing.toList.isEmpty with
  | true =>
    have hnil : e.ing.toList = [] := by simpa using he
    simp only [if_true, List.any_cons, List.any_nil, Bool.or_false]
    refine any_congr _ _ (fun h => ?_) gs
    unfold eqG hitU
    dsimp only
    rw [he, hnil, beq_nil_left, beq_swap e.name.toList]
    cases h.grp <;> cases hn : h.ing.toList <;> simp
  | false =>
    simp only [Bool.false_eq_true, if_false, List.any_cons, List.any_nil, Bool.or_false, any_or]
    refine any_congr _ _ (fun h => ?_) gs
    unfold eqG hitU
    dsimp only
    rw [he, empty_toList, beq_nil_left, beq_swap e.name.toList, beq_swap e.ing.toList h.ing.toList, beq_swap e.ing.toList h.name.toList]
    cases h.grp <;> cases h.ing.toList.isEmpty <;> cases (h.name.toList == e.name.toList) <;> cases (h.ing.toList == e.ing.toList) <;> cases (h.name.toList == e.ing.toList) <;> rfl
theorem pG_eq (gs : List Gr) (e : El) : pG gs e = gs.any (hitG e.name) := by
  unfold pG covB hasAny cover has
  dsimp only
  rw [empty_toList]
  simp only [List.isEmpty_nil, if_true, List.any_cons, List.any_nil, Bool.or_false]
  refine any_congr _ _ (fun h => ?_) gs
  unfold eqG hitG
  dsimp only
  rw [empty_toList, beq_nil_left, beq_swap e.name.toList]
  cases h.grp <;> cases h.ing.toList.isEmpty <;> cases (h.name.toList == e.name.toList) <;> rfl
theorem qU_eq (g1 g2 : List Gr) (e : El) : qU g1 g2 e = !pU (g1 ++ g2) e := by
  unfold qU; rw [pU_eq, List.any_append]
theorem qG_eq (g1 g2 : List Gr) (e : El) : qG g1 g2 e = !pG (g1 ++ g2) e := by
  unfold qG; rw [pG_eq, List.any_append]
theorem pU_con {gs : List Gr} {a b : El} (h : con a = con b) : pU gs a = pU gs b := by
  simp only [con, Prod.mk.injEq] at h
  unfold pU; rw [h.1, h.2.1]
theorem pG_con {gs : List Gr} {a b : El} (h : con a = con b) : pG gs a = pG gs b := by
  simp only [con, Prod.mk.injEq] at h
  unfold pG; rw [h.1]
/-- What is kept reads alike where the lists read alike. -/
theorem filter_con (q : El → Bool) (hq : ∀ a b, con a = con b → q a = q b) : ∀ (ds us : List El), ds.map con = us.map con → (ds.filter q).map con = (us.filter q).map con
  | [], [], _ => rfl
  | [], _ :: _, h => by simp at h
  | _ :: _, [], h => by simp at h
  | d :: ds, u :: us, h => by
    simp only [List.map_cons, List.cons.injEq] at h
    have ih := filter_con q hq ds us h.2
    have hd := hq d u h.1
    cases hu : q u with
    | true => rw [List.filter_cons_of_pos (by rw [hd, hu]), List.filter_cons_of_pos hu, List.map_cons, List.map_cons, h.1, ih]
    | false => rw [List.filter_cons_of_neg (by rw [hd, hu]; simp), List.filter_cons_of_neg (by rw [hu]; simp), ih]

/-- A copied list: its block, and where its lists lie. -/
structure Cp (w : World) (so : Option Addr) (db hi : Nat) (els : List El) (rest : List T3) : Prop where
  blk : Blk w so db els rest
  by_ : ∀ e ∈ els, ByAt w (.slice e.ba e.bn e.bc) e.by_
  rng : ∀ e ∈ els, ∀ x, e.ba = some x → 0 < e.bn → db < x.block ∧ x.block < hi

theorem ByAt.lt {w : World} {a : Option Addr} {n c : Nat} {d : Option (List ByteArray)} (h : ByAt w (.slice a n c) d) : ∀ x, a = some x → 0 < n → x.block < w.heap.size := by
  intro x hx hn
  cases d with
  | none => cases h; cases hx
  | some ss =>
    obtain ⟨a, c, e, hc⟩ := h
    cases e
    cases hx
    obtain ⟨b, off, rfl, hlt, _⟩ := hc hn
    exact hlt

theorem toSubsC (so : Option Addr) (c : Nat) (els : List El) (w : World) (hS : Sl w so els) (hm : Small els) (hn : so = none → els = [] ∧ c = 0) :
    Calls Try.prog 8 #[.slice so els.length c] w fun e w' => (∃ ds so', e = .returned (.slice so' els.length els.length) ∧ so'.isNone = so.isNone ∧ ds.map con = els.map con ∧ Cp w' so' w.heap.size w'.heap.size ds []) ∧ Below w.heap.size w w' := by
  refine (toSubs so c els w hS hm hn).mono ?_
  rintro e w' ⟨⟨ds, so', rfl, h1, h2, h3, h4⟩, h5⟩
  exact ⟨⟨ds, so', rfl, h1, h2, ⟨h4, fun e he => (h3 e he).1, fun e he x hx hn => ⟨(h3 e he).2 x hx hn, (h3 e he).1.lt x hx hn⟩⟩⟩, h5⟩

theorem Cp.sl {w : World} {so : Option Addr} {db hi : Nat} {els : List El} {rest : List T3} (h : Cp w so db hi els rest) : Sl w so els :=
  ⟨fun hp => by
    cases hso : so with
    | none => have := (h.blk.nil hso).1; rw [this] at hp; simp at hp
    | some a =>
      obtain ⟨rfl, h2⟩ := h.blk.some a hso
      refine ⟨db, 0, rfl, (Array.getElem?_eq_some_iff.1 h2).1, fun i hi => ?_⟩
      have := row_cell h2 i (by simp; omega)
      rw [Nat.zero_add]
      rw [List.getElem_append_left (by simpa using hi), List.getElem_map] at this
      exact this, h.by_⟩

theorem Cp.below {w w' : World} {so : Option Addr} {db hi : Nat} {els : List El} {rest : List T3} (h : Cp w so db hi els rest) {B : Nat} (hb : Below B w w') (hB : w.heap.size ≤ B) : Cp w' so db hi els rest :=
  ⟨h.blk.keep fun e => hb.block db (Nat.lt_of_lt_of_le (h.blk.lt e) hB), fun e he => (h.by_ e he).below hb hB, h.rng⟩

theorem uncC (hb c : Nat) (gs : List Gr) (su sg : Option Addr) (ub gb hiU hiG nu ng cu cg : Nat) (eu eg : List El) (ru rg : List T3) (w : World)
    (hG : GrAt w hb 0 gs) (lb : hb < w.heap.size) (hlen : gs.length ≤ 3000000)
    (CU : Cp w su ub hiU eu ru) (CV : Cp w sg gb hiG eg rg) (hnu : eu.length = nu) (hng : eg.length = ng) (hcu : cu = eu.length + ru.length) (hcg : cg = eg.length + rg.length) (lu : eu.length ≤ 1048576) (lg : eg.length ≤ 1048576) (lru : ru.length ≤ 1048576) (lrg : rg.length ≤ 1048576)
    (du : su.isSome = true → hb ≠ ub) (dg : sg.isSome = true → hb ≠ gb) (h1 : hiU ≤ gb) (h2 : ub ≤ gb) (h3 : su.isSome = true → ub < gb) :
    Calls Try.prog 9 #[.slice su nu cu, .slice sg ng cg, .slice (some ⟨hb, 0, none⟩) gs.length c] w fun e w' => e = .returned (.tuple #[.slice su (eu.filter fun e => !pU gs e).length cu, .slice sg (eg.filter fun e => !pG gs e).length cg]) ∧
      Cp w' su ub hiU (eu.filter fun e => !pU gs e) (List.replicate (eu.length - (eu.filter fun e => !pU gs e).length) eZ ++ ru) ∧ Cp w' sg gb hiG (eg.filter fun e => !pG gs e) (List.replicate (eg.length - (eg.filter fun e => !pG gs e).length) eZ ++ rg) ∧ Kp2 su ub sg gb w w' := by
  subst hnu
  subst hng
  refine (unc hb c gs su sg ub gb cu cg eu eg ru rg w hG lb hlen CU.blk CV.blk hcu hcg lu lg lru lrg du dg (fun e _ => by have := h3 e; omega)).mono ?_
  rintro e w' ⟨rfl, r1, r2, k⟩
  have keepBy : ∀ (x : El) (d : Option (List ByteArray)), ByAt w (.slice x.ba x.bn x.bc) d → (∀ y, x.ba = some y → 0 < x.bn → (su.isSome = true → y.block ≠ ub) ∧ (sg.isSome = true → y.block ≠ gb)) → ByAt w' (.slice x.ba x.bn x.bc) d := by
    intro x d hx hy
    cases d with
    | none => exact hx
    | some ss =>
      obtain ⟨a, c, e, hc⟩ := hx
      simp only [Value.slice.injEq] at e
      obtain ⟨e1, e2, e3⟩ := e
      refine ⟨a, c, by rw [e1, e2, e3], fun hp => ?_⟩
      obtain ⟨b, off, rfl, hlt, hk⟩ := hc hp
      obtain ⟨y1, y2⟩ := hy _ e1 (by omega)
      exact ⟨b, off, rfl, Nat.lt_of_lt_of_le hlt k.size, fun i hi => (World.cell?_of_block (w := w) (k.block b hlt y1 y2)).trans (hk i hi)⟩
  refine ⟨rfl, ⟨⟨fun hs => ?_, fun a ha => ⟨(CU.blk.some a ha).1, r1 a ha⟩⟩, fun x hx => ?_, fun x hx => CU.rng x (List.mem_filter.1 hx).1⟩, ⟨⟨fun hs => ?_, fun a ha => ⟨(CV.blk.some a ha).1, r2 a ha⟩⟩, fun x hx => ?_, fun x hx => CV.rng x (List.mem_filter.1 hx).1⟩, k⟩
  · obtain ⟨rfl, rfl⟩ := CU.blk.nil hs; exact ⟨rfl, rfl⟩
  · have hm := (List.mem_filter.1 hx).1
    exact keepBy x _ (CU.by_ x hm) (fun y hy hn => by have := CU.rng x hm y hy hn; exact ⟨fun _ => by omega, fun _ => by omega⟩)
  · obtain ⟨rfl, rfl⟩ := CV.blk.nil hs; exact ⟨rfl, rfl⟩
  · have hm := (List.mem_filter.1 hx).1
    exact keepBy x _ (CV.by_ x hm) (fun y hy hn => by have := CV.rng x hm y hy hn; exact ⟨fun _ => by omega, fun _ => by omega⟩)

theorem Kp2.below {su sg : Option Addr} {ub gb : Nat} {w w' : World} (h : Kp2 su ub sg gb w w') {B : Nat} (hB : B ≤ w.heap.size) (hu : B ≤ ub) (hg : B ≤ gb) : Below B w w' :=
  ⟨h.os, h.tape, h.output, h.size, fun k hk => h.block k (by omega) (fun _ => by omega) (fun _ => by omega)⟩
end Go.Proofs.Qxb6615619aR
