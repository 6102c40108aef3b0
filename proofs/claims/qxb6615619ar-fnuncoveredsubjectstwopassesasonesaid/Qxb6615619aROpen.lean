/-
  Seat b6615619a. The arguments opened: a slice of subjects, a slice of grantees.
-/
import Derived.Test.Qxb6615619aRLaw4
import Derived.Deep.Slices
import Derived.Deep.Strs
import Derived.OpenShut
namespace Go.Proofs.Qxb6615619aR
open Go.RowKit Go.ChangeShapes Go.WideShapes

theorem cell_lt {w : World} {a : Addr} {v : Value} (h : w.cell? a = some v) : a.block < w.heap.size := by
  unfold World.cell? at h
  by_cases hl : a.block < w.heap.size
  · exact hl
  · rw [Array.getElem?_eq_none (by omega)] at h
    simp at h

instance : Inhabited El := ⟨⟨⟨#[]⟩, ⟨#[]⟩, none, 0, 0, none⟩⟩
instance : Inhabited Gr := ⟨⟨⟨#[]⟩, false, ⟨#[]⟩⟩⟩

theorem size9 : Try.prog.cellsOf 9 = 1 := by kernel_rfl
theorem size38 : Try.prog.cellsOf 38 = 1 := by kernel_rfl
theorem size4 : Try.prog.cellsOf 4 = 1 := by kernel_rfl
theorem cells40 : Try.prog.cellsOf 40 = 3 := by kernel_rfl
theorem cells42 : Try.prog.cellsOf 42 = 3 := by kernel_rfl

section
variable {H : Type} {enc : TypeId × Value → H} {w : World} {spare : Nat → Bool} {held : Bool}

theorem by_open {fuel : Nat} {v : Value} {x : DataW H × List MemPlace} (h : DataW.trod enc Try.prog w 0 spare held fuel 38 [v] = some x) :
    ∃ ba bn bc d, v = .slice ba bn bc ∧ ByAt w (.slice ba bn bc) d := by
  rcases Go.Deep.open_strs Try.underlying38 Try.underlying9 size9 h with ⟨hc, _⟩ | ⟨a, len, cap, m, Sx, hc, _, hl, hm, hmm, _, hx⟩
  · obtain rfl : v = .slice none 0 0 := by simpa using hc
    exact ⟨_, _, _, none, rfl, rfl⟩
  · obtain rfl : v = .slice (some a) len cap := by simpa using hc
    have hlm : len ≤ m := by rw [hmm]; split <;> omega
    refine ⟨_, _, _, some ((List.range len).map Sx), rfl, a, cap, by simp, fun hp => ?_⟩
    simp at hp
    obtain ⟨b, off, spot⟩ := a
    have h0 := (hx 0 (by omega)).1
    have hspot : spot = none := by simpa [Addr.add] using World.cell?_spot h0
    subst hspot
    refine ⟨b, off, rfl, cell_lt h0, fun k hk => ?_⟩
    simp at hk
    have := (hx k (by omega)).1
    rw [add_plain] at this
    simpa using this

/-- One subject's three cells. -/
theorem el_open {fuel : Nat} {cs : List Value} {a : Addr} {x : DataW H × List MemPlace} (hc : w.cells? 0 a 3 = some cs) (h : DataW.trod enc Try.prog w 0 spare held fuel 40 cs = some x) :
    ∃ e : El, w.cell? a = some (.string e.name) ∧ w.cell? (a.add 1) = some (.string e.ing) ∧ w.cell? (a.add 2) = some (.slice e.ba e.bn e.bc) ∧ ByAt w (.slice e.ba e.bn e.bc) e.by_ := by
  obtain ⟨_, hl, hcs⟩ := World.cells?_some hc
  obtain ⟨y0, y1, y2, n, _, _, h0, h1, h2⟩ := Go.Deep.trod_struct3 Try.underlying40 h
  match cs, hl with
  | [v0, v1, v2], _ =>
    simp [size9, size38] at h0 h1 h2
    obtain ⟨s0, e0, _⟩ := DataW.trod_string Try.underlying9 h0
    obtain ⟨s1, e1, _⟩ := DataW.trod_string Try.underlying9 h1
    obtain ⟨ba, bn, bc, d, rfl, hb⟩ := by_open h2
    obtain rfl : v0 = .string s0 := by simpa using e0
    obtain rfl : v1 = .string s1 := by simpa using e1
    refine ⟨⟨s0, s1, ba, bn, bc, d⟩, ?_, by simpa using hcs 1 (by omega), by simpa using hcs 2 (by omega), hb⟩
    have := hcs 0 (by omega)
    simpa [Addr.add] using this

theorem gr_open {fuel : Nat} {cs : List Value} {a : Addr} {x : DataW H × List MemPlace} (hc : w.cells? 0 a 3 = some cs) (h : DataW.trod enc Try.prog w 0 spare held fuel 42 cs = some x) :
    ∃ e : Gr, w.cell? a = some (.string e.name) ∧ w.cell? (a.add 1) = some (.bool e.grp) ∧ w.cell? (a.add 2) = some (.string e.ing) := by
  obtain ⟨_, hl, hcs⟩ := World.cells?_some hc
  obtain ⟨y0, y1, y2, n, _, _, h0, h1, h2⟩ := Go.Deep.trod_struct3 Try.underlying42 h
  match cs, hl with
  | [v0, v1, v2], _ =>
    simp [size9, size4] at h0 h1 h2
    obtain ⟨s0, e0, _⟩ := DataW.trod_string Try.underlying9 h0
    obtain ⟨b1, e1, _⟩ := DataW.trod_bool Try.underlying4 h1
    obtain ⟨s2, e2, _⟩ := DataW.trod_string Try.underlying9 h2
    obtain rfl : v0 = .string s0 := by simpa using e0
    obtain rfl : v1 = .bool b1 := by simpa using e1
    obtain rfl : v2 = .string s2 := by simpa using e2
    refine ⟨⟨s0, b1, s2⟩, ?_, by simpa using hcs 1 (by omega), by simpa using hcs 2 (by omega)⟩
    have := hcs 0 (by omega)
    simpa [Addr.add] using this

theorem subs_open {a : Option Addr} {len cap : Nat} {d : DataW H} {p : List MemPlace} (h : DataW.Trod enc Try.prog w 0 spare held 22 (.slice a len cap) d p) :
    ∃ els : List El, els.length = len ∧ Sl w a els ∧ (a = none → els = [] ∧ cap = 0) ∧ len ≤ cap ∧ len ≤ maxLen := by
  obtain ⟨fuel, hf⟩ := h
  rcases Go.Deep.open_slice Try.underlying22 hf with ⟨hc, _⟩ | ⟨x, l, c, m, n, D, Pl, hc, _, hl, hm, hmm, _, hx⟩
  · simp [Value.cells] at hc
    obtain ⟨rfl, rfl, rfl⟩ := hc
    exact ⟨[], rfl, ⟨fun hp => by simp at hp, fun e he => by simp at he⟩, fun _ => ⟨rfl, rfl⟩, Nat.le_refl _, Nat.zero_le _⟩
  · simp [Value.cells] at hc
    obtain ⟨rfl, rfl, rfl⟩ := hc
    have hlm : len ≤ m := by rw [hmm]; split <;> omega
    obtain ⟨f, hF⟩ := Go.Deep.choose_lt (α := El) (n := len) (p := fun i e => w.cell? (x.add (i * 3)) = some (.string e.name) ∧ w.cell? ((x.add (i * 3)).add 1) = some (.string e.ing) ∧ w.cell? ((x.add (i * 3)).add 2) = some (.slice e.ba e.bn e.bc) ∧ ByAt w (.slice e.ba e.bn e.bc) e.by_) (fun i hi => by
      obtain ⟨cs, h1, h2⟩ := hx i (by omega)
      rw [cells40] at h1
      exact el_open h1 h2)
    refine ⟨(List.range len).map f, by simp, ⟨fun hp => ?_, fun e he => ?_⟩, fun hn => by simp at hn, hl, by omega⟩
    · simp at hp
      obtain ⟨b, off, spot⟩ := x
      have h0 := (hF 0 hp).1
      have hspot : spot = none := by simpa [Addr.add] using World.cell?_spot h0
      subst hspot
      refine ⟨b, off, rfl, by simpa [Addr.add] using cell_lt h0, fun k hk => ?_⟩
      simp at hk
      obtain ⟨c0, c1, c2, _⟩ := hF k hk
      simp only [add_plain] at c0 c1 c2
      simpa using ⟨c0, c1, c2⟩
    · obtain ⟨i, hi, rfl⟩ := List.mem_map.1 he
      exact (hF i (List.mem_range.1 hi)).2.2.2

theorem grs_open {a : Option Addr} {len cap : Nat} {d : DataW H} {p : List MemPlace} (h : DataW.Trod enc Try.prog w 0 spare held 23 (.slice a len cap) d p) :
    ∃ els : List Gr, els.length = len ∧ Gl w a els ∧ len ≤ maxLen := by
  obtain ⟨fuel, hf⟩ := h
  rcases Go.Deep.open_slice Try.underlying23 hf with ⟨hc, _⟩ | ⟨x, l, c, m, n, D, Pl, hc, _, hl, hm, hmm, _, hx⟩
  · simp [Value.cells] at hc
    obtain ⟨rfl, rfl, rfl⟩ := hc
    exact ⟨[], rfl, ⟨fun hp => by simp at hp⟩, Nat.zero_le _⟩
  · simp [Value.cells] at hc
    obtain ⟨rfl, rfl, rfl⟩ := hc
    have hlm : len ≤ m := by rw [hmm]; split <;> omega
    obtain ⟨f, hF⟩ := Go.Deep.choose_lt (α := Gr) (n := len) (p := fun i e => w.cell? (x.add (i * 3)) = some (.string e.name) ∧ w.cell? ((x.add (i * 3)).add 1) = some (.bool e.grp) ∧ w.cell? ((x.add (i * 3)).add 2) = some (.string e.ing)) (fun i hi => by
      obtain ⟨cs, h1, h2⟩ := hx i (by omega)
      rw [cells42] at h1
      exact gr_open h1 h2)
    refine ⟨(List.range len).map f, by simp, ⟨fun hp => ?_⟩, by omega⟩
    simp at hp
    obtain ⟨b, off, spot⟩ := x
    have h0 := (hF 0 hp).1
    have hspot : spot = none := by simpa [Addr.add] using World.cell?_spot h0
    subst hspot
    refine ⟨b, off, rfl, by simpa [Addr.add] using cell_lt h0, fun k hk => ?_⟩
    simp at hk
    obtain ⟨c0, c1, c2⟩ := hF k hk
    simp only [add_plain] at c0 c1 c2
    simpa using ⟨c0, c1, c2⟩
end
end Go.Proofs.Qxb6615619aR
