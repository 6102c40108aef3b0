/-
  Seat b6615619a. UncoveredSubjects, ZZUncoveredSubjectsHeld.
-/
import Derived.Test.Qxb6615619aRG
import Derived.Laws.EntriesVeiled
namespace Go.Proofs.Qxb6615619aR
open Go.RowKit

/-- But for block db, if the slice is not nil, all that was there is as it was. -/
structure Kp (so : Option Addr) (db : Nat) (w w' : World) : Prop where
  os : w'.os = w.os
  tape : w'.tape = w.tape
  output : w'.output = w.output
  size : w.heap.size ≤ w'.heap.size
  block : ∀ k, k < w.heap.size → (so.isSome = true → k ≠ db) → w'.heap[k]? = w.heap[k]?
theorem Kp.cell {so : Option Addr} {db : Nat} {w w' : World} (h : Kp so db w w') {p : Addr} (hp : p.block < w.heap.size) (hr : so.isSome = true → p.block ≠ db) : w'.cell? p = w.cell? p := World.cell?_of_block (w := w) (h.block p.block hp hr)
theorem Kp.lt {so : Option Addr} {db : Nat} {w w' : World} (h : Kp so db w w') {k : Nat} (hk : k < w.heap.size) : k < w'.heap.size := Nat.lt_of_lt_of_le hk h.size
theorem GrAt.kp {w w' : World} {b off : Nat} {gs : List Gr} (h : GrAt w b off gs) {so : Option Addr} {db : Nat} (hk : Kp so db w w') (hb : b < w.heap.size) (hr : so.isSome = true → b ≠ db) : GrAt w' b off gs := fun i hi => by
  obtain ⟨h0, h1, h2⟩ := h i hi
  exact ⟨(hk.cell (p := ⟨b, off + i * 3, none⟩) hb hr).trans h0, (hk.cell (p := ⟨b, off + i * 3 + 1, none⟩) hb hr).trans h1, (hk.cell (p := ⟨b, off + i * 3 + 2, none⟩) hb hr).trans h2⟩
theorem Env.kp {w w' : World} {p8 p5 ph hb c : Nat} {gs : List Gr} (h : Env w p8 p5 ph hb c gs) {so : Option Addr} {db : Nat} (hk : Kp so db w w') (hd : so.isSome = true → p8 ≠ db ∧ p5 ≠ db ∧ ph ≠ db ∧ hb ≠ db) : Env w' p8 p5 ph hb c gs :=
  ⟨(hk.cell (p := ⟨p8, 0, none⟩) h.l8 (fun e => (hd e).1)).trans h.c8, (hk.cell (p := ⟨p5, 0, none⟩) h.l5 (fun e => (hd e).2.1)).trans h.c5, (hk.cell (p := ⟨ph, 0, none⟩) h.lh (fun e => (hd e).2.2.1)).trans h.ch, h.g.kp hk h.lb (fun e => (hd e).2.2.2), hk.lt h.l8, hk.lt h.l5, hk.lt h.lh, hk.lt h.lb, h.len⟩
theorem Blk.keep {w w' : World} {so : Option Addr} {db : Nat} {els : List El} {rest : List T3} (h : Blk w so db els rest) (hk : so.isSome = true → w'.heap[db]? = w.heap[db]?) : Blk w' so db els rest :=
  ⟨h.nil, fun a ha => ⟨(h.some a ha).1, by rw [hk (by rw [ha]; rfl)]; exact (h.some a ha).2⟩⟩
theorem Blk.lt {w : World} {so : Option Addr} {db : Nat} {els : List El} {rest : List T3} (h : Blk w so db els rest) (hs : so.isSome = true) : db < w.heap.size := by
  obtain ⟨a, ha⟩ := Option.isSome_iff_exists.1 hs
  exact (Array.getElem?_eq_some_iff.1 (h.some a ha).2).1

theorem delU (p8 p5 ph hb c : Nat) (gs : List Gr) (so : Option Addr) (db cl : Nat) (els : List El) (rest : List T3) (w : World) (hE : Env w p8 p5 ph hb c gs) (hBl : Blk w so db els rest) (hcl : cl = els.length + rest.length)
    (hd : so.isSome = true → p8 ≠ db ∧ p5 ≠ db ∧ ph ≠ db ∧ hb ≠ db) (hl : els.length ≤ 1048576) (hr : rest.length ≤ 1048576) :
    Calls Try.prog 28 #[.slice so els.length cl, .func (.func 29) #[] #[.pointer (some ⟨p8, 0, none⟩)]] w fun e w' => e = .returned (.slice so (els.filter fun e => !pU gs e).length cl) ∧
      (∀ a, so = some a → w'.heap[db]? = some (.cells (rowA (rowE els (pU gs) rest)) 45 (0, 0))) ∧ Kp so db w w' := by
  cases so with
  | some a =>
    obtain ⟨h1, h2, h3, h4⟩ := hd rfl
    refine (delSubU p8 p5 ph hb c gs (some a) db cl els rest w hE hBl hcl h1 h2 h3 h4 hl hr).mono ?_
    rintro e w' ⟨rfl, h5, h6⟩
    exact ⟨rfl, h5, ⟨h6.os, h6.tape, h6.output, h6.size, fun k hk hne => h6.block k hk (hne rfl)⟩⟩
  | none =>
    have hB : Blk w none (p8 + p5 + ph + hb + w.heap.size + 1) els rest := ⟨hBl.nil, fun a h => by cases h⟩
    refine (delSubU p8 p5 ph hb c gs none (p8 + p5 + ph + hb + w.heap.size + 1) cl els rest w hE hB hcl (by omega) (by omega) (by omega) (by omega) hl hr).mono ?_
    rintro e w' ⟨rfl, h5, h6⟩
    exact ⟨rfl, (fun a h => by cases h), ⟨h6.os, h6.tape, h6.output, h6.size, fun k hk _ => h6.block k hk (by omega)⟩⟩

theorem delG (p8 p5 ph hb c : Nat) (gs : List Gr) (so : Option Addr) (db cl : Nat) (els : List El) (rest : List T3) (w : World) (hE : Env w p8 p5 ph hb c gs) (hBl : Blk w so db els rest) (hcl : cl = els.length + rest.length)
    (hd : so.isSome = true → p8 ≠ db ∧ p5 ≠ db ∧ ph ≠ db ∧ hb ≠ db) (hl : els.length ≤ 1048576) (hr : rest.length ≤ 1048576) :
    Calls Try.prog 28 #[.slice so els.length cl, .func (.func 30) #[] #[.pointer (some ⟨p8, 0, none⟩)]] w fun e w' => e = .returned (.slice so (els.filter fun e => !pG gs e).length cl) ∧
      (∀ a, so = some a → w'.heap[db]? = some (.cells (rowA (rowE els (pG gs) rest)) 45 (0, 0))) ∧ Kp so db w w' := by
  cases so with
  | some a =>
    obtain ⟨h1, h2, h3, h4⟩ := hd rfl
    refine (delSubG p8 p5 ph hb c gs (some a) db cl els rest w hE hBl hcl h1 h2 h3 h4 hl hr).mono ?_
    rintro e w' ⟨rfl, h5, h6⟩
    exact ⟨rfl, h5, ⟨h6.os, h6.tape, h6.output, h6.size, fun k hk hne => h6.block k hk (hne rfl)⟩⟩
  | none =>
    have hB : Blk w none (p8 + p5 + ph + hb + w.heap.size + 1) els rest := ⟨hBl.nil, fun a h => by cases h⟩
    refine (delSubG p8 p5 ph hb c gs none (p8 + p5 + ph + hb + w.heap.size + 1) cl els rest w hE hB hcl (by omega) (by omega) (by omega) (by omega) hl hr).mono ?_
    rintro e w' ⟨rfl, h5, h6⟩
    exact ⟨rfl, (fun a h => by cases h), ⟨h6.os, h6.tape, h6.output, h6.size, fun k hk _ => h6.block k hk (by omega)⟩⟩

/-- But for two blocks. -/
structure Kp2 (su : Option Addr) (ub : Nat) (sg : Option Addr) (gb : Nat) (w w' : World) : Prop where
  os : w'.os = w.os
  tape : w'.tape = w.tape
  output : w'.output = w.output
  size : w.heap.size ≤ w'.heap.size
  block : ∀ k, k < w.heap.size → (su.isSome = true → k ≠ ub) → (sg.isSome = true → k ≠ gb) → w'.heap[k]? = w.heap[k]?

set_option maxHeartbeats 1000000 in
theorem uncovered (ph hb c : Nat) (gs : List Gr) (su sg : Option Addr) (ub gb cu cg : Nat) (eu eg : List El) (ru rg : List T3) (w : World)
    (ch : w.cell? ⟨ph, 0, none⟩ = some (.slice (some ⟨hb, 0, none⟩) gs.length c)) (hG : GrAt w hb 0 gs) (lh : ph < w.heap.size) (lb : hb < w.heap.size) (hlen : gs.length ≤ 3000000)
    (hU : Blk w su ub eu ru) (hV : Blk w sg gb eg rg) (hcu : cu = eu.length + ru.length) (hcg : cg = eg.length + rg.length) (lu : eu.length ≤ 1048576) (lg : eg.length ≤ 1048576) (lru : ru.length ≤ 1048576) (lrg : rg.length ≤ 1048576)
    (du : su.isSome = true → ph ≠ ub ∧ hb ≠ ub) (dg : sg.isSome = true → ph ≠ gb ∧ hb ≠ gb) (dd : su.isSome = true → sg.isSome = true → ub ≠ gb) :
    Calls Try.prog 18 #[.slice su eu.length cu, .slice sg eg.length cg, .func (.func 19) #[] #[.pointer (some ⟨ph, 0, none⟩)]] w fun e w' => e = .returned (.tuple #[.slice su (eu.filter fun e => !pU gs e).length cu, .slice sg (eg.filter fun e => !pG gs e).length cg]) ∧
      (∀ a, su = some a → w'.heap[ub]? = some (.cells (rowA (rowE eu (pU gs) ru)) 45 (0, 0))) ∧ (∀ a, sg = some a → w'.heap[gb]? = some (.cells (rowA (rowE eg (pG gs) rg)) 45 (0, 0))) ∧ Kp2 su ub sg gb w w' := by
  have hB2 : Below w.heap.size w ((w.alloc (.cells #[.func (.func 19) #[] #[.pointer (some ⟨ph, 0, none⟩)]] 49)).alloc (.cells #[.func (.func 25) #[] #[.pointer (some ⟨w.heap.size, 0, none⟩)]] 49)) := ((Below.refl _ _).alloc (Nat.le_refl _) _).alloc (by simp) _
  have hE2 : Env ((w.alloc (.cells #[.func (.func 19) #[] #[.pointer (some ⟨ph, 0, none⟩)]] 49)).alloc (.cells #[.func (.func 25) #[] #[.pointer (some ⟨w.heap.size, 0, none⟩)]] 49)) (w.heap.size + 1) w.heap.size ph hb c gs := by
    refine ⟨?_, ?_, (hB2.cell (p := ⟨ph, 0, none⟩) lh).trans ch, hG.below hB2 lb, by simp, by simp; omega, by simp; omega, by simp; omega, hlen⟩
    · rw [World.cell?_alloc_at _ _ _ _ (by simp)]; rfl
    · rw [World.cell?_alloc_past _ _ _ (by simp), World.cell?_alloc_at _ _ _ _ rfl]; rfl
  have hU2 := hU.keep (w' := ((w.alloc (.cells #[.func (.func 19) #[] #[.pointer (some ⟨ph, 0, none⟩)]] 49)).alloc (.cells #[.func (.func 25) #[] #[.pointer (some ⟨w.heap.size, 0, none⟩)]] 49))) (fun e => hB2.block ub (hU.lt e))
  have hV2 := hV.keep (w' := ((w.alloc (.cells #[.func (.func 19) #[] #[.pointer (some ⟨ph, 0, none⟩)]] 49)).alloc (.cells #[.func (.func 25) #[] #[.pointer (some ⟨w.heap.size, 0, none⟩)]] 49))) (fun e => hB2.block gb (hV.lt e))
  have hdu : su.isSome = true → w.heap.size + 1 ≠ ub ∧ w.heap.size ≠ ub ∧ ph ≠ ub ∧ hb ≠ ub := fun e => ⟨by have := hU.lt e; omega, by have := hU.lt e; omega, (du e).1, (du e).2⟩
  have hdg : sg.isSome = true → w.heap.size + 1 ≠ gb ∧ w.heap.size ≠ gb ∧ ph ≠ gb ∧ hb ≠ gb := fun e => ⟨by have := hV.lt e; omega, by have := hV.lt e; omega, (dg e).1, (dg e).2⟩
  have HD1 := hid (delU (w.heap.size + 1) w.heap.size ph hb c gs su ub cu eu ru _ hE2 hU2 hcu hdu lu lru)
  have HU := hid hU
  have HV := hid hV
  have HV2 := hid hV2
  have HE2 := hid hE2
  have HB2 := hid hB2
  have HCG := hid hcg
  have HDU := hid hdu
  have HDG := hid hdg
  have DD := hid dd
  clear hU hV hcu hcg ch hG du dg dd hdu hdg hU2 hV2 hE2 hB2
  go_enter Try.func18, Try.ntmps18
  go_wp2_with fail
  refine HD1.out.mono ?_
  rintro e w3 ⟨rfl, hr3, hk3⟩
  have R3 := hid hr3
  have K3 := hid hk3
  have HD2 := hid (delG (w.heap.size + 1) w.heap.size ph hb c gs sg gb cg eg rg w3 (HE2.out.kp hk3 HDU.out) (HV2.out.keep fun e => hk3.block gb (HV2.out.lt e) (fun e2 => (DD.out e2 e).symm)) HCG.out HDG.out lg lrg)
  clear hr3 hk3 HD1
  go_wp2_with fail
  refine HD2.out.mono ?_
  rintro e w4 ⟨rfl, hr4, hk4⟩
  have R4 := hid hr4
  have K4 := hid hk4
  clear hr4 hk4 HD2
  go_wp2
  go_ret2
  refine ⟨rfl, fun a ha => ?_, R4.out, ?_⟩
  · have hs : su.isSome = true := by rw [ha]; rfl
    have hl3 : ub < w3.heap.size := (Array.getElem?_eq_some_iff.1 (R3.out a ha)).1
    rw [K4.out.block ub hl3 (fun e => DD.out hs e)]
    exact R3.out a ha
  · have k3 := K3.out
    have k4 := K4.out
    have b2 := HB2.out
    refine ⟨(k4.os.trans k3.os).trans b2.os, (k4.tape.trans k3.tape).trans b2.tape, (k4.output.trans k3.output).trans b2.output, Nat.le_trans b2.size (Nat.le_trans k3.size k4.size), fun k hk h1 h2 => ?_⟩
    have hk2 := Nat.lt_of_lt_of_le hk b2.size
    rw [k4.block k (Nat.lt_of_lt_of_le hk2 k3.size) h2, k3.block k hk2 h1, b2.block k hk]

set_option maxHeartbeats 1000000 in
theorem unc (hb c : Nat) (gs : List Gr) (su sg : Option Addr) (ub gb cu cg : Nat) (eu eg : List El) (ru rg : List T3) (w : World)
    (hG : GrAt w hb 0 gs) (lb : hb < w.heap.size) (hlen : gs.length ≤ 3000000)
    (hU : Blk w su ub eu ru) (hV : Blk w sg gb eg rg) (hcu : cu = eu.length + ru.length) (hcg : cg = eg.length + rg.length) (lu : eu.length ≤ 1048576) (lg : eg.length ≤ 1048576) (lru : ru.length ≤ 1048576) (lrg : rg.length ≤ 1048576)
    (du : su.isSome = true → hb ≠ ub) (dg : sg.isSome = true → hb ≠ gb) (dd : su.isSome = true → sg.isSome = true → ub ≠ gb) :
    Calls Try.prog 9 #[.slice su eu.length cu, .slice sg eg.length cg, .slice (some ⟨hb, 0, none⟩) gs.length c] w fun e w' => e = .returned (.tuple #[.slice su (eu.filter fun e => !pU gs e).length cu, .slice sg (eg.filter fun e => !pG gs e).length cg]) ∧
      (∀ a, su = some a → w'.heap[ub]? = some (.cells (rowA (rowE eu (pU gs) ru)) 45 (0, 0))) ∧ (∀ a, sg = some a → w'.heap[gb]? = some (.cells (rowA (rowE eg (pG gs) rg)) 45 (0, 0))) ∧ Kp2 su ub sg gb w w' := by
  have hB : Below w.heap.size w (w.alloc (.cells #[.slice (some ⟨hb, 0, none⟩) gs.length c] 31)) := (Below.refl _ _).alloc (Nat.le_refl _) _
  have HC := hid (uncovered w.heap.size hb c gs su sg ub gb cu cg eu eg ru rg (w.alloc (.cells #[.slice (some ⟨hb, 0, none⟩) gs.length c] 31)) (by rw [World.cell?_alloc_at _ _ _ _ rfl]; rfl) (hG.below hB lb) (by simp) (by simp; omega) hlen
    (hU.keep fun e => hB.block ub (hU.lt e)) (hV.keep fun e => hB.block gb (hV.lt e)) hcu hcg lu lg lru lrg (fun e => ⟨by have := hU.lt e; omega, du e⟩) (fun e => ⟨by have := hV.lt e; omega, dg e⟩) dd)
  have HB := hid hB
  clear hU hV hcu hcg hG du dg dd hB
  go_enter Try.func9, Try.ntmps9
  go_wp2_with fail
  refine HC.out.mono ?_
  rintro e w1 ⟨rfl, h1, h2, h3⟩
  have H1 := hid h1
  have H2 := hid h2
  have H3 := hid h3
  clear h1 h2 h3 HC
  go_wp2
  go_ret2
  refine ⟨rfl, H1.out, H2.out, ?_⟩
  have k3 := H3.out
  have b2 := HB.out
  refine ⟨k3.os.trans b2.os, k3.tape.trans b2.tape, k3.output.trans b2.output, Nat.le_trans b2.size k3.size, fun k hk e1 e2 => ?_⟩
  rw [k3.block k (Nat.lt_of_lt_of_le hk b2.size) e1 e2, b2.block k hk]
end Go.Proofs.Qxb6615619aR
