/-
  Seat b6615752aF. fmt's facts for this dump; isDigit; the decoder in memory; syntaxError.
-/
import Derived.Test.Qxb6615752aFmtCards
import Derived.WalkKit
import Derived.WalkSpells
import Derived.WalkLawsBesides
import Derived.Deep.OwnRows
import Derived.Deep.QuietTactic
import Derived.BigQuiet
import Derived.Below
import Derived.Stop.CallBack
import Derived.Stop.IfaceNil
import Derived.Stop.Texts
namespace Go.Proofs.Qxb6615752aFmt
open Go.RowKit Go.Extern.Stop Go.Stop Go.Extern

theorem hid {p : Prop} (h : p) : Hid p := h

-- fmt.Sprintf: function 12: a plain stop
@[go_sem] theorem Tryf.call12 (args : Array Value) (w : World) : (callFunc 12 args).run Tryf.prog w = ((FmtStop.sprintf #[9, 56] #[9] args).run Tryf.prog w).andThen fun v w' => .ok (.value v) w' :=
  run_callFunc_extern Tryf.func12 (by kernel_rfl) (by kernel_rfl) (by kernel_rfl) (by kernel_rfl) args w
@[go_sem] theorem Tryf.guard (name : String) (w : World) : (FmtStop.guard name).run Tryf.prog w = .ok () w := by kernel_rfl
-- "invalid character %q", 1 operand
@[go_sem] theorem Tryf.fmt0 : FmtStop.printed? ⟨#[105, 110, 118, 97, 108, 105, 100, 32, 99, 104, 97, 114, 97, 99, 116, 101, 114, 32, 37, 113]⟩ 1 = some [(0, 113, false)] := by kernel_rfl
@[go_sem] theorem Tryf.fmt0r (w : World) : (FmtDoors.printed ⟨#[105, 110, 118, 97, 108, 105, 100, 32, 99, 104, 97, 114, 97, 99, 116, 101, 114, 32, 37, 113]⟩ 1).run Tryf.prog w = .ok [(0, 113, false)] w := by kernel_rfl
-- type 5: uint8
def Tryf.shape5 : List UInt8 := [6, 5, 0, 0, 0, 0, 0, 0, 0, 117, 105, 110, 116, 56]
@[go_sem] theorem Tryf.op5_113 (name : String) (x : Int) (w : World) : (FmtStop.operand name false 113 false (.iface 5 (.int .u8 x))).run Tryf.prog w = .ok (Tryf.shape5, Go.Extern.Stop.digits 8 (x % 2 ^ 64).toNat) w := by kernel_rfl

/-- What fmt.Sprintf is asked. -/
def reading (c : Int) : List (List UInt8) :=
  [[105, 110, 118, 97, 108, 105, 100, 32, 99, 104, 97, 114, 97, 99, 116, 101, 114, 32, 37, 113], Tryf.shape5, digits 8 (c % 18446744073709551616).toNat]
/-- What fmt says of a byte is short. -/
def Short (F : Interp) : Prop := ∀ c : Int, 0 ≤ c → c ≤ 255 → (FmtStop.textOf (F "fmt.Sprintf" (reading c) 0)).size ≤ 1000

def digitB (z : Int) : Bool := decide (48 ≤ z) && decide (z ≤ 57)
theorem isDigit (c : Int) (w : World) : Calls Tryf.prog 9 #[.int .u8 c] w fun e w' => e = .returned (.bool (digitB c)) ∧ w' = w := by
  unfold digitB
  go_enter Tryf.func9, Tryf.ntmps9
  go_wp2
  all_goals
    go_ret
    exact ⟨by simp; omega, rfl⟩
theorem zzIsDigit (c : Int) (w : World) : Calls Tryf.prog 6 #[.int .u8 c] w fun e w' => e = .returned (.bool (digitB c)) ∧ w' = w := by
  go_enter Tryf.func6, Tryf.ntmps6
  go_wp2_with fail
  refine (isDigit c w).mono ?_
  rintro e w' ⟨rfl, hw⟩
  obtain rfl := hw.symm
  go_wp2
  go_ret
  exact ⟨rfl, rfl⟩

def bytesA (zs : List Int) : Array Value := (zs.map (Value.int .u8)).toArray
theorem bytes_cell {w : World} {b : Nat} {zs : List Int} {t : TypeId} (h : w.heap[b]? = some (.cells (bytesA zs) t (0, 0))) (k : Nat) (hk : k < zs.length) : w.cell? ⟨b, k, none⟩ = some (.int .u8 zs[k]) := by
  simp [World.cell?, h, bytesA, hk]

/-- A decoder in block D over the bytes zs in block db, at place p; block pb holds the pointer to it. -/
structure Dec (w : World) (pb D db : Nat) (zs : List Int) (p : Nat) : Prop where
  hp : w.heap[pb]? = some (.cells #[.pointer (some ⟨D, 0, none⟩)] 27 (0, 0))
  hd : w.heap[D]? = some (.cells #[.slice (some ⟨db, 0, none⟩) zs.length zs.length, .int .i64 p] 29 (0, 0))
  hb : w.heap[db]? = some (.cells (bytesA zs) 5 (0, 0))
  ne1 : pb ≠ D
  ne2 : db ≠ D
theorem Dec.cells {w : World} {pb D db : Nat} {zs : List Int} {p : Nat} (h : Dec w pb D db zs p) :
    w.cell? ⟨pb, 0, none⟩ = some (.pointer (some ⟨D, 0, none⟩)) ∧ w.cell? ⟨D, 0, none⟩ = some (.slice (some ⟨db, 0, none⟩) zs.length zs.length) ∧ w.cell? ⟨D, 1, none⟩ = some (.int .i64 p) ∧ ∀ o, w.frozen? ⟨D, o, none⟩ = false := by
  have h1 := h.hp
  have h2 := h.hd
  simp [World.cell?, World.frozen?, h1, h2]
theorem Dec.byte {w : World} {pb D db : Nat} {zs : List Int} {p : Nat} (h : Dec w pb D db zs p) (k : Nat) (hk : k < zs.length) : w.cell? ⟨db, k, none⟩ = some (.int .u8 zs[k]) := bytes_cell h.hb k hk
theorem heap_lt {w : World} {b : Nat} {o : Obj} (h : w.heap[b]? = some o) : b < w.heap.size := (Array.getElem?_eq_some_iff.1 h).1
theorem Dec.below {w w' : World} {pb D db : Nat} {zs : List Int} {p : Nat} (h : Dec w pb D db zs p) {B : Nat} (hb : Below B w w') (hB : w.heap.size ≤ B) : Dec w' pb D db zs p :=
  ⟨(hb.block pb (Nat.lt_of_lt_of_le (heap_lt h.hp) hB)).trans h.hp, (hb.block D (Nat.lt_of_lt_of_le (heap_lt h.hd) hB)).trans h.hd, (hb.block db (Nat.lt_of_lt_of_le (heap_lt h.hb) hB)).trans h.hb, h.ne1, h.ne2⟩
theorem Dec.draw {w : World} {pb D db : Nat} {zs : List Int} {p : Nat} (h : Dec w pb D db zs p) (q : Nat) : Dec (w.drewN q) pb D db zs p := ⟨h.hp, h.hd, h.hb, h.ne1, h.ne2⟩
theorem heap_set_same {w : World} {b o : Nat} {C : Array Value} {t : TypeId} {f : Nat × Nat} (h : w.heap[b]? = some (.cells C t f)) (v : Value) : (w.setCell ⟨b, o, none⟩ v).heap[b]? = some (.cells (C.setIfInBounds o v) t f) := by
  simp [World.setCell, Array.getElem?_modify, h]
/-- 'd.pos = q'. -/
theorem Dec.set {w : World} {pb D db : Nat} {zs : List Int} {p : Nat} (h : Dec w pb D db zs p) (q : Nat) : Dec (w.setCell ⟨D, 1, none⟩ (.int .i64 q)) pb D db zs q := by
  refine ⟨?_, ?_, ?_, h.ne1, h.ne2⟩
  · rw [Below.heap_setCell _ _ _ _ (by simpa using h.ne1)]; exact h.hp
  · have := heap_set_same (o := 1) h.hd (.int .i64 q)
    rw [this]; simp
  · rw [Below.heap_setCell _ _ _ _ (by simpa using h.ne2)]; exact h.hb

theorem below_drewN {B : Nat} (w : World) (q : Nat) : Below B w (w.drewN q) := ⟨rfl, rfl, rfl, Nat.le_refl _, fun _ _ => rfl⟩
theorem cell_new (w : World) (q : Nat) (v : Value) (t : TypeId) : ((w.drewN q).alloc (.cells #[v] t)).cell? ⟨w.heap.size, 0, none⟩ = some v := by
  have : ((w.drewN q).alloc (.cells #[v] t)).heap[w.heap.size]? = some (.cells #[v] t) := by
    show (w.heap.push _)[w.heap.size]? = _
    simp
  unfold World.cell?
  rw [this]
  rfl
/-- An error of this package. -/
def ER (e : Ending) : Prop := ∃ a, e = .returned (.iface 36 (.pointer (some a)))

set_option maxHeartbeats 1000000 in
theorem synErr_end (D : Nat) (so : Option Addr) (n c p : Nat) (ctx : ByteArray) (w : World) (d0 : w.cell? ⟨D, 0, none⟩ = some (.slice so n c)) (d1 : w.cell? ⟨D, 1, none⟩ = some (.int .i64 p)) (hp : n ≤ p) :
    Calls Tryf.prog 11 #[.pointer (some ⟨D, 0, none⟩), .string ctx] w fun e w' => ER e ∧ Below w.heap.size w w' := by
  have hI : (n : Int) ≤ (p : Int) := by omega
  go_enter Tryf.func11, Tryf.ntmps11
  go_wp2
  go_quiet (fail)
  go_wp2
  go_ret
  exact ⟨⟨_, rfl⟩, (below_drewN w nq).alloc (Nat.le_refl _) _⟩

set_option maxHeartbeats 1000000 in
theorem synErr_byte (F : Interp) (D db : Nat) (zs : List Int) (p : Nat) (w : World) (d0 : w.cell? ⟨D, 0, none⟩ = some (.slice (some ⟨db, 0, none⟩) zs.length zs.length)) (d1 : w.cell? ⟨D, 1, none⟩ = some (.int .i64 p)) (hp : p < zs.length)
    (hb : w.cell? ⟨db, p, none⟩ = some (.int .u8 zs[p])) (h0 : 0 ≤ zs[p]) (h1 : zs[p] ≤ 255) (hD : D < w.heap.size) (hF : F.answers w.tape) (hS : Short F) :
    Calls Tryf.prog 11 #[.pointer (some ⟨D, 0, none⟩), .string ⟨#[105, 110, 32, 97, 32, 110, 117, 109, 98, 101, 114, 44, 32, 108, 111, 111, 107, 105, 110, 103, 32, 102, 111, 114, 32, 97, 32, 100, 105, 103, 105, 116]⟩] w fun e w' => ER e ∧ Below w.heap.size w w' := by
  have hI : (p : Int) < (zs.length : Int) := by omega
  have hF' := answers_open hF
  have hs := hS zs[p] h0 h1
  unfold reading at hs
  have hcx := fun q => cell_new w q (.iface 5 (.int .u8 zs[p])) 20
  go_enter Tryf.func11, Tryf.ntmps11
  go_wp2
  go_quiet (fail)
  go_wp2
  go_region
  all_goals
    generalize FmtStop.textOf (F "fmt.Sprintf" _ 0) = tx at hs ⊢
    have d3 := ((((below_drewN w (nq + 1)).alloc (Nat.le_refl _) (.cells #[.iface 5 (.int .u8 zs[p])] 20)).drew).cell (p := ⟨D, 1, none⟩) hD).trans d1
    go_wp2
    go_ret
    exact ⟨⟨_, rfl⟩, (((below_drewN w (nq + 1)).alloc (Nat.le_refl _) _).drew).alloc (by simp) _⟩

def Bytes (zs : List Int) : Prop := ∀ z ∈ zs, 0 ≤ z ∧ z ≤ 255
theorem synErr (F : Interp) (pb D db : Nat) (zs : List Int) (p : Nat) (w : World) (h : Dec w pb D db zs p) (hz : Bytes zs) (hF : F.answers w.tape) (hS : Short F) :
    Calls Tryf.prog 11 #[.pointer (some ⟨D, 0, none⟩), .string ⟨#[105, 110, 32, 97, 32, 110, 117, 109, 98, 101, 114, 44, 32, 108, 111, 111, 107, 105, 110, 103, 32, 102, 111, 114, 32, 97, 32, 100, 105, 103, 105, 116]⟩] w fun e w' => ER e ∧ Below w.heap.size w w' := by
  obtain ⟨c0, c1, c2, cf⟩ := h.cells
  by_cases hp : p < zs.length
  · obtain ⟨h0, h1⟩ := hz zs[p] (List.getElem_mem hp)
    exact synErr_byte F D db zs p w c1 c2 hp (h.byte p hp) h0 h1 (heap_lt h.hd) hF hS
  · exact synErr_end D _ _ _ p _ w c1 c2 (by omega)
end Go.Proofs.Qxb6615752aFmt
