/-
  Seat b6615591aD. The contracts in the form that the laws take: worlds as letters.
-/
import Derived.Test.Qxb6615591aDoorF
import Derived.Lib.Builder
namespace Go.Proofs.Qxb6615591aDoor
open Go.RowKit

/-- A slice value that reads zs, wherever it lies. -/
structure Src (w : World) (so : Option Addr) (c : Nat) (zs : List Int) : Prop where
  len : zs.length ≤ 1048576
  nil : so = none → zs = [] ∧ c = 0
  pos : 0 < zs.length → ∃ b off, so = some ⟨b, off, none⟩ ∧ b < w.heap.size ∧ ∀ k, k < zs.length → w.cell? ⟨b, off + k, none⟩ = some (.int .u8 (zs.getD k 0))

/-- A slice over a whole block db of the call's own that reads zs. -/
structure Own (B : Nat) (w : World) (so : Option Addr) (db : Nat) (zs : List Int) : Prop where
  len : zs.length ≤ 1048576
  nil : so = none → zs = []
  base : B ≤ db
  pos : 0 < zs.length → so = some ⟨db, 0, none⟩ ∧ w.heap[db]? = some (.cells (bytesA zs) 5 (0, 0))

theorem own_cell {w : World} {db : Nat} {zs : List Int} {t : TypeId} (h : w.heap[db]? = some (.cells (bytesA zs) t (0, 0))) (k : Nat) (hk : k < zs.length) : w.cell? ⟨db, k, none⟩ = some (.int .u8 (zs.getD k 0)) := by
  rw [bytes_cell h]; simp [hk]

theorem Own.src {B : Nat} {w : World} {so : Option Addr} {db : Nat} {zs : List Int} (h : Own B w so db zs) : Src w so zs.length zs :=
  ⟨h.len, fun e => ⟨h.nil e, by rw [h.nil e]; rfl⟩, fun hp => by
    obtain ⟨h1, h2⟩ := h.pos hp
    exact ⟨db, 0, h1, (Array.getElem?_eq_some_iff.1 h2).1, fun k hk => by rw [Nat.zero_add]; exact own_cell h2 k hk⟩⟩

theorem Own.keep {B : Nat} {w w' : World} {so : Option Addr} {db : Nat} {zs : List Int} (h : Own B w so db zs) (hk : w'.heap[db]? = w.heap[db]?) : Own B w' so db zs :=
  ⟨h.len, h.nil, h.base, fun hp => ⟨(h.pos hp).1, hk.trans (h.pos hp).2⟩⟩

theorem clone_gen (so : Option Addr) (c : Nat) (zs : List Int) (w : World) (h : Src w so c zs) :
    Calls Tryd.prog 7 #[.slice so zs.length c] w fun e w' => ∃ ds, e = .returned (.slice ds zs.length zs.length) ∧ Own w.heap.size w' ds w.heap.size zs ∧ Below w.heap.size w w' ∧ w'.heap.size ≤ w.heap.size + 1 := by
  cases so with
  | none =>
    obtain ⟨rfl, rfl⟩ := h.nil rfl
    refine (clone_nil w).mono ?_
    rintro e w' ⟨rfl, rfl⟩
    exact ⟨none, rfl, ⟨by simp, fun _ => rfl, Nat.le_refl _, fun hp => by simp at hp⟩, Below.refl _ _, by omega⟩
  | some a =>
    refine (clone_any a c zs w h.len (fun hp => ?_)).mono ?_
    · obtain ⟨b, off, e, h1, h2⟩ := h.pos hp
      exact ⟨b, off, Option.some.inj e, h1, h2⟩
    · rintro e w' ⟨rfl, rfl⟩
      exact ⟨_, rfl, ⟨h.len, (fun e => by cases e), Nat.le_refl _, fun _ => ⟨rfl, heap_new _ _⟩⟩, (Below.refl _ _).alloc (Nat.le_refl _) _, by simp⟩

theorem newInc_gen (B : Nat) (typ sz : Int) (so : Option Addr) (fb : Nat) (zs : List Int) (w : World) (h : Own B w so fb zs) :
    Calls Tryd.prog 8 #[.int .u8 typ, .int .i64 sz, .slice so zs.length zs.length] w fun e w' => e = .returned (.pointer (some ⟨w.heap.size + 1, 0, none⟩)) ∧
      w'.heap[w.heap.size + 1]? = some (.cells (inc typ sz w.heap.size (.slice none 0 0) .nilIface false) 36 (0, 0)) ∧ Feed w' w.heap.size so fb zs 0 ∧ Below w.heap.size w w' ∧ w.heap.size + 1 < w'.heap.size := by
  refine (newIncoming_any typ sz so zs.length zs.length w).mono ?_
  rintro e w' ⟨rfl, rfl⟩
  have hb1 : Below w.heap.size w (w.alloc (.cells #[.slice so zs.length zs.length, .int .i64 0, .int .i64 (-1)] 47)) := (Below.refl _ _).alloc (Nat.le_refl _) _
  have hb2 := hb1.alloc (by simp) (.cells (inc typ sz w.heap.size (.slice none 0 0) .nilIface false) 36)
  refine ⟨rfl, ?_, ?_, hb2, by simp⟩
  · have := heap_new (w.alloc (.cells #[.slice so zs.length zs.length, .int .i64 0, .int .i64 (-1)] 47)) (.cells (inc typ sz w.heap.size (.slice none 0 0) .nilIface false) 36)
    simpa using this
  · refine ⟨⟨-1, ?_⟩, Nat.zero_le _, h.len, fun hp => ?_⟩
    · rw [Below.heap_alloc _ _ _ (by simp)]
      exact heap_new _ _
    · obtain ⟨h1, h2⟩ := h.pos hp
      have hl := (Array.getElem?_eq_some_iff.1 h2).1
      exact ⟨h1, by omega, (hb2.block _ hl).trans h2⟩

/-- The two slices of one row. -/
theorem same_gen (n : Nat) (s1 s2 : Option Addr) (c1 c2 : Nat) (zs : List Int) (w : World) (hn : zs.length = n) (hz : n ≤ 1048576)
    (h : 0 < n → ∃ b1 o1 b2 o2, s1 = some ⟨b1, o1, none⟩ ∧ s2 = some ⟨b2, o2, none⟩ ∧ (∀ k, k < n → w.cell? ⟨b1, o1 + k, none⟩ = some (.int .u8 (zs.getD k 0))) ∧ ∀ k, k < n → w.cell? ⟨b2, o2 + k, none⟩ = some (.int .u8 (zs.getD k 0))) :
    Calls Tryd.prog 11 #[.slice s1 n c1, .slice s2 n c2] w fun e w' => e = .returned (.bool true) ∧ ∃ q, w' = w.drewN q := by
  subst hn
  by_cases h0 : zs.length = 0
  · obtain rfl := List.eq_nil_of_length_eq_zero h0
    exact same_zero s1 s2 c1 c2 w
  · obtain ⟨b1, o1, b2, o2, rfl, rfl, h1, h2⟩ := h (by omega)
    exact same_pos b1 o1 b2 o2 c1 c2 zs w hz h1 h2

theorem Own.keep' {B : Nat} {w w' : World} {so : Option Addr} {db : Nat} {zs : List Int} (h : Own B w so db zs) (hk : db < w.heap.size → w'.heap[db]? = w.heap[db]?) : Own B w' so db zs :=
  ⟨h.len, h.nil, h.base, fun hp => ⟨(h.pos hp).1, (hk (Array.getElem?_eq_some_iff.1 (h.pos hp).2).1).trans (h.pos hp).2⟩⟩
theorem take_getD (zs : List Int) (i sz k : Nat) (h : k < sz) : ((zs.drop i).take sz).getD k 0 = zs.getD (i + k) 0 := by
  simp [List.getD_eq_getElem?_getD, h]
theorem part_cell {w : World} {bb : Nat} {zs : List Int} {i sz : Nat} (h : w.heap[bb]? = some (.cells (bytesA ((zs.drop i).take sz)) 5 (0, 0))) (hs : i + sz ≤ zs.length) (k : Nat) (hk : k < sz) : w.cell? ⟨bb, 0 + k, none⟩ = some (.int .u8 (((zs.drop i).take sz).getD k 0)) := by
  rw [Nat.zero_add]
  exact own_cell h k (by simp; omega)
/-- The body and the part of the data that it must be. -/
theorem same_part (B bb db : Nat) (ds : Option Addr) (c : Nat) (zs : List Int) (i sz : Nat) (w : World) (hb : w.heap[bb]? = some (.cells (bytesA ((zs.drop i).take sz)) 5 (0, 0))) (hD : Own B w ds db zs) (hs : i + sz ≤ zs.length)
    (c1 : Nat) (da : Option Addr) (hda : 0 < sz → ds = some ⟨db, 0, none⟩ → da = some ⟨db, i, none⟩) :
    Calls Tryd.prog 11 #[.slice (some ⟨bb, 0, none⟩) sz c1, .slice da sz c] w fun e w' => e = .returned (.bool true) ∧ ∃ q, w' = w.drewN q := by
  have hl := hD.len
  refine same_gen sz _ da c1 c ((zs.drop i).take sz) w (by simp; omega) (by omega) (fun hp => ?_)
  obtain ⟨h1, h2⟩ := hD.pos (by omega)
  refine ⟨bb, 0, db, i, rfl, hda hp h1, part_cell hb hs, fun k hk => ?_⟩
  rw [take_getD _ _ _ _ hk]
  exact own_cell h2 (i + k) (by omega)

theorem info5s : ∃ j, Tryd.prog.info? 5 = some j := by
  have h : (Tryd.prog.info? 5).map (·.size) = some 1 := by kernel_rfl
  obtain ⟨i, h1, h2⟩ := Option.map_eq_some_iff.1 h
  exact ⟨i, h1⟩
theorem neq_ptr (a : Addr) (w : World) : (binOp .neq 38 (.pointer (some a)) (.pointer (some a))).run Tryd.prog w = .ok (.bool false) w := by
  obtain ⟨j, hj⟩ := info5s
  exact Lib.run_neq_ptr_same w a Tryd.underlying38 hj
end Go.Proofs.Qxb6615591aDoor
