/-
  THE DATA: types and members as the argument holds them.
  CONTRACTS: what the specification says of kinds.
  THE CALCULUS: an operation under a guard that was itself passed over; bytes of names.
-/
import Derived.Test.YtoibhfpagkdleaaGreatDoorSo
namespace Go.Proofs.YtoibhfpagkdleaaGreatDoor
section
open Go
open Tryz
set_option maxRecDepth 100000

structure Mb where
  name : ByteArray
  of_ : Int
  off : Int
  bits : Int
  val : Int

structure Tp where
  kind : Int
  name : ByteArray
  size : Int
  enc : Int
  flag : Int
  of_ : Int
  index : Int
  mems : List Mb

def cellsM (m : Mb) : List Value := [.string m.name, .int .i64 m.of_, .int .i64 m.off, .int .i64 m.bits, .int .i64 m.val]
def cellsT (t : Tp) (mv : Value) : List Value := [.int .i64 t.kind, .string t.name, .int .i64 t.size, .int .i64 t.enc, .int .i64 t.flag, .int .i64 t.of_, .int .i64 t.index, mv]

/-- cells from a place on -/
def CellsAt (w : World) (b off : Nat) (vs : List Value) : Prop := ∀ j u, vs[j]? = some u → w.cell? ⟨b, off + j, none⟩ = some u
/-- a slice's members -/
def MemsAt (w : World) (p : Option Addr) (ms : List Mb) : Prop :=
  ∀ i m, ms[i]? = some m → ∃ b off, p = some ⟨b, off, none⟩ ∧ CellsAt w b (off + i * 5) (cellsM m)
/-- a slice's types -/
def TysAt (w : World) (p : Option Addr) (ts : List Tp) : Prop :=
  ∀ i t, ts[i]? = some t → ∃ b off, p = some ⟨b, off, none⟩ ∧ ∃ mp mc, CellsAt w b (off + i * 8) (cellsT t (.slice mp t.mems.length mc)) ∧ t.mems.length ≤ mc ∧ MemsAt w mp t.mems

theorem CellsAt.ext {w w' : World} {b off : Nat} {vs : List Value} (h : CellsAt w b off vs) (he : Ext noS w w') : CellsAt w' b off vs := fun j u hj => by
  have h1 := h j u hj
  have hlt := World.block_lt_of_cell? _ _ h1
  unfold World.cell? at h1 ⊢
  rw [he.block b hlt id]
  exact h1
theorem MemsAt.ext {w w' : World} {p : Option Addr} {ms : List Mb} (h : MemsAt w p ms) (he : Ext noS w w') : MemsAt w' p ms := fun i m hi => by
  obtain ⟨b, off, h1, h2⟩ := h i m hi
  exact ⟨b, off, h1, h2.ext he⟩
theorem TysAt.ext {w w' : World} {p : Option Addr} {ts : List Tp} (h : TysAt w p ts) (he : Ext noS w w') : TysAt w' p ts := fun i t hi => by
  obtain ⟨b, off, h1, mp, mc, h2, h3, h4⟩ := h i t hi
  exact ⟨b, off, h1, mp, mc, h2.ext he, h3, h4.ext he⟩

/-- nothing longer than the statement speaks of -/
def FitT (t : Tp) : Prop := t.name.size ≤ 2147483647 ∧ t.mems.length ≤ 2147483647 ∧ ∀ i q, i < t.mems.length → t.mems[i]? = some q → q.name.size ≤ 2147483647

/-- the kind of a number -/
def kindAt (ts : List Tp) (n : Int) : Int := if n < 1 ∨ n > ts.length then 0 else ((ts[(n - 1).toNat]?).map (·.kind)).getD 0

/-! ### tests -/
theorem bne_t {a b : Int} (h : (a != b) = true) : a ≠ b := by simpa using h
theorem bne_f {a b : Int} (h : (a != b) = false) : a = b := by simpa using h
theorem of_not_true {b : Bool} (h : (!b) = true) : b = false := by cases b <;> simp_all

/-! ### what is asked of data -/
/-- no byte of a text is nought -/
def NoZero (s : ByteArray) (k : Nat) : Prop := ∀ i (h : i < s.size), i < k → 0 < s[i].toNat
def sizedB (k : Int) : Bool := decide (k = 1 ∨ k = 4 ∨ k = 5 ∨ k = 6 ∨ k = 15 ∨ k = 16 ∨ k = 19)
def refersB (k : Int) : Bool := decide (k = 2 ∨ k = 8 ∨ k = 9 ∨ k = 10 ∨ k = 11 ∨ k = 18)
def composedB (k : Int) : Bool := decide (k = 4 ∨ k = 5 ∨ k = 6 ∨ k = 13 ∨ k = 15 ∨ k = 19)
def peeledB (k : Int) : Bool := decide (k = 8 ∨ k = 9 ∨ k = 10 ∨ k = 11 ∨ k = 18)
def namedI (k : Int) : Int := if k = 1 ∨ k = 7 ∨ k = 8 ∨ k = 12 ∨ k = 14 ∨ k = 15 ∨ k = 16 ∨ k = 18 then 1 else if k = 4 ∨ k = 5 ∨ k = 6 ∨ k = 19 then 0 else -1
/-- what is asked of a member -/
def MOk (kind flag : Int) (len : Nat) (m : Mb) : Prop :=
  (0 ≤ m.of_ ∧ m.of_ ≤ len ∧ 0 ≤ m.off ∧ m.off < 16777216 ∧ 0 ≤ m.bits) ∧ (NoZero m.name m.name.size ∧ m.name.size ≤ 12) ∧
  ((kind = 4 ∨ kind = 5) → m.val = 0 ∧ m.bits < 256) ∧ (kind = 13 → m.val = 0 ∧ m.bits = 0 ∧ m.off = 0) ∧ (kind = 15 → m.val = 0 ∧ m.name.size = 0 ∧ m.bits < 16777216) ∧
  (kind ≠ 4 → kind ≠ 5 → kind ≠ 13 → kind ≠ 15 → m.of_ = 0 ∧ m.off = 0 ∧ m.bits = 0 ∧ (kind ≠ 19 → ((flag = 1 → -2147483648 ≤ m.val ∧ m.val < 2147483648) ∧ (flag ≠ 1 → 0 ≤ m.val ∧ m.val < 4294967296))))
/-- what the kinds have of their own -/
def DOk (k size enc flag : Int) : Prop :=
 (k = 1 → (size = 1 ∨ size = 2 ∨ size = 4 ∨ size = 8 ∨ size = 16) ∧ (enc = 0 ∨ enc = 1 ∨ enc = 2 ∨ enc = 4) ∧ flag = 0) ∧ (k = 16 → (size = 2 ∨ size = 4 ∨ size = 8 ∨ size = 16) ∧ flag = 0) ∧
 (k = 6 → 0 ≤ flag ∧ flag ≤ 1 ∧ (size = 1 ∨ size = 2 ∨ size = 4)) ∧ (k = 19 → 0 ≤ flag ∧ flag ≤ 1 ∧ size = 8) ∧ (k = 7 → 0 ≤ flag ∧ flag ≤ 1) ∧ (k = 12 ∨ k = 14 → 0 ≤ flag ∧ flag ≤ 2) ∧
 (k ≠ 1 ∧ k ≠ 16 ∧ k ≠ 6 ∧ k ≠ 19 ∧ k ≠ 7 ∧ k ≠ 12 ∧ k ≠ 14 → flag = 0)
/-- what is asked of a type -/
def TOk (len : Nat) (t : Tp) : Prop :=
 ((1 ≤ t.kind ∧ t.kind ≤ 19 ∧ t.kind ≠ 17) ∧ NoZero t.name t.name.size ∧ t.name.size ≤ 12 ∧ (namedI t.kind < 0 → t.name.size = 0)) ∧ (0 ≤ t.of_ ∧ t.of_ ≤ len ∧ 0 ≤ t.index ∧ t.index ≤ len ∧ t.mems.length ≤ 8 ∧ (composedB t.kind = false → t.mems.length = 0) ∧ (t.kind ≠ 3 → t.index = 0) ∧ (t.kind ≠ 1 → t.enc = 0)) ∧ (refersB t.kind = false → t.kind ≠ 3 → t.kind ≠ 12 → t.kind ≠ 13 → t.kind ≠ 14 → t.of_ = 0) ∧ ((sizedB t.kind = false → t.kind ≠ 3 → t.size = 0) ∧ 0 ≤ t.size ∧ t.size ≤ 1048576) ∧ (∀ (i : Nat) (q : Mb), t.mems[i]? = some q → MOk t.kind t.flag len q) ∧ DOk t.kind t.size t.enc t.flag
end

section
open Go
open Tryz
set_option maxRecDepth 100000

theorem f28_ok (k : Int) (w : World) : Calls Tryz.prog 28 #[.int .i64 k] w (fun r w' => r = .returned (.bool (sizedB k)) ∧ Ext noS w w') := by
 refine sw_calls (S := noS) func28 rfl ntmps28 (sees1 _ _ rfl) (Holds.start _ _) ?_
 refine SR fun _ k1 => ?_
 refine Ac ?_
 refine SN k1 ?_
 refine Sq fun _ k2 => ?_
 refine SR fun _ k3 => ?_
 refine Mo ?_
 refine SN k3 ?_
 refine Bl ?_
 refine Ek [3, 2] ?_
 refine Sq fun _ k4 => ?_
 refine SR fun _ k5 => ?_
 refine Sc Obe ?_
 refine Ah ?_
 refine Sb ?_ ?_
 ·
  refine Ci fun hs4 => ?_
  refine SN k5 ?_
  refine Th ?_
  refine SS k4 ?_
  refine Th ?_
  refine Ek [2] ?_
  refine SR fun _ k6 => ?_
  refine Ac ?_
  refine SN k6 ?_
  refine Rt ?_
  refine Pl0 ?_
  refine Pl3 ?_
  exact SK_ret1 rfl .hit (fun w hw => ⟨by first | rw [show sizedB k = true from decide_eq_true om] | rw [show sizedB k = false from decide_eq_false om], hw.ext⟩)
 refine Ci fun hs4 => ?_
 refine SN k5 ?_
 refine Fh ?_
 refine Ek [4, 3, 2] ?_
 refine SR fun _ k7 => ?_
 refine Sc Obe ?_
 refine Ah ?_
 refine Sb ?_ ?_
 ·
  refine Ci fun hs4 => ?_
  refine SN k7 ?_
  refine Th ?_
  refine SS k4 ?_
  refine Th ?_
  refine Ek [2] ?_
  refine SR fun _ k8 => ?_
  refine Ac ?_
  refine SN k8 ?_
  refine Rt ?_
  refine Pl0 ?_
  refine Pl3 ?_
  exact SK_ret1 rfl .hit (fun w hw => ⟨by first | rw [show sizedB k = true from decide_eq_true om] | rw [show sizedB k = false from decide_eq_false om], hw.ext⟩)
 refine Ci fun hs4 => ?_
 refine SN k7 ?_
 refine Fh ?_
 refine Ek [4, 3, 2] ?_
 refine SR fun _ k9 => ?_
 refine Sc Obe ?_
 refine Ah ?_
 refine Sb ?_ ?_
 ·
  refine Ci fun hs4 => ?_
  refine SN k9 ?_
  refine Th ?_
  refine SS k4 ?_
  refine Th ?_
  refine Ek [2] ?_
  refine SR fun _ k10 => ?_
  refine Ac ?_
  refine SN k10 ?_
  refine Rt ?_
  refine Pl0 ?_
  refine Pl3 ?_
  exact SK_ret1 rfl .hit (fun w hw => ⟨by first | rw [show sizedB k = true from decide_eq_true om] | rw [show sizedB k = false from decide_eq_false om], hw.ext⟩)
 refine Ci fun hs4 => ?_
 refine SN k9 ?_
 refine Fh ?_
 refine Ek [4, 3, 2] ?_
 refine SR fun _ k11 => ?_
 refine Sc Obe ?_
 refine Ah ?_
 refine Sb ?_ ?_
 ·
  refine Ci fun hs4 => ?_
  refine SN k11 ?_
  refine Th ?_
  refine SS k4 ?_
  refine Th ?_
  refine Ek [2] ?_
  refine SR fun _ k12 => ?_
  refine Ac ?_
  refine SN k12 ?_
  refine Rt ?_
  refine Pl0 ?_
  refine Pl3 ?_
  exact SK_ret1 rfl .hit (fun w hw => ⟨by first | rw [show sizedB k = true from decide_eq_true om] | rw [show sizedB k = false from decide_eq_false om], hw.ext⟩)
 refine Ci fun hs4 => ?_
 refine SN k11 ?_
 refine Fh ?_
 refine Ek [4, 3, 2] ?_
 refine SR fun _ k13 => ?_
 refine Sc Obe ?_
 refine Ah ?_
 refine Sb ?_ ?_
 ·
  refine Ci fun hs4 => ?_
  refine SN k13 ?_
  refine Th ?_
  refine SS k4 ?_
  refine Th ?_
  refine Ek [2] ?_
  refine SR fun _ k14 => ?_
  refine Ac ?_
  refine SN k14 ?_
  refine Rt ?_
  refine Pl0 ?_
  refine Pl3 ?_
  exact SK_ret1 rfl .hit (fun w hw => ⟨by first | rw [show sizedB k = true from decide_eq_true om] | rw [show sizedB k = false from decide_eq_false om], hw.ext⟩)
 refine Ci fun hs4 => ?_
 refine SN k13 ?_
 refine Fh ?_
 refine Ek [4, 3, 2] ?_
 refine SR fun _ k15 => ?_
 refine Sc Obe ?_
 refine Ah ?_
 refine Sb ?_ ?_
 ·
  refine Ci fun hs4 => ?_
  refine SN k15 ?_
  refine Th ?_
  refine SS k4 ?_
  refine Th ?_
  refine Ek [2] ?_
  refine SR fun _ k16 => ?_
  refine Ac ?_
  refine SN k16 ?_
  refine Rt ?_
  refine Pl0 ?_
  refine Pl3 ?_
  exact SK_ret1 rfl .hit (fun w hw => ⟨by first | rw [show sizedB k = true from decide_eq_true om] | rw [show sizedB k = false from decide_eq_false om], hw.ext⟩)
 refine Ci fun hs4 => ?_
 refine SN k15 ?_
 refine Fh ?_
 refine Sr ?_
 refine Sc Obe ?_
 refine Ah ?_
 refine Sb ?_ ?_
 ·
  refine Ci fun hs4 => ?_
  refine SN k4 ?_
  refine Th ?_
  refine Ek [2] ?_
  refine SR fun _ k17 => ?_
  refine Ac ?_
  refine SN k17 ?_
  refine Rt ?_
  refine Pl0 ?_
  refine Pl3 ?_
  exact SK_ret1 rfl .hit (fun w hw => ⟨by first | rw [show sizedB k = true from decide_eq_true om] | rw [show sizedB k = false from decide_eq_false om], hw.ext⟩)
 refine Ci fun hs4 => ?_
 refine SN k4 ?_
 refine Fh ?_
 refine SS k2 ?_
 refine Ek [2] ?_
 refine SR fun _ k18 => ?_
 refine Ac ?_
 refine SN k18 ?_
 refine Rt ?_
 refine Pl3 ?_
 exact SK_ret1 rfl .hit (fun w hw => ⟨by first | rw [show sizedB k = true from decide_eq_true om] | rw [show sizedB k = false from decide_eq_false om], hw.ext⟩)

theorem f27_ok (k : Int) (w : World) : Calls Tryz.prog 27 #[.int .i64 k] w (fun r w' => r = .returned (.bool (refersB k)) ∧ Ext noS w w') := by
 refine sw_calls (S := noS) func27 rfl ntmps27 (sees1 _ _ rfl) (Holds.start _ _) ?_
 refine SR fun _ k1 => ?_
 refine Ac ?_
 refine SN k1 ?_
 refine Sq fun _ k2 => ?_
 refine SR fun _ k3 => ?_
 refine Mo ?_
 refine SN k3 ?_
 refine Bl ?_
 refine Ek [3, 2] ?_
 refine Sq fun _ k4 => ?_
 refine SR fun _ k5 => ?_
 refine Sc Obe ?_
 refine Ah ?_
 refine Sb ?_ ?_
 ·
  refine Ci fun hs4 => ?_
  refine SN k5 ?_
  refine Th ?_
  refine SS k4 ?_
  refine Th ?_
  refine Ek [2] ?_
  refine SR fun _ k6 => ?_
  refine Ac ?_
  refine SN k6 ?_
  refine Rt ?_
  refine Pl0 ?_
  refine Pl3 ?_
  exact SK_ret1 rfl .hit (fun w hw => ⟨by first | rw [show refersB k = true from decide_eq_true om] | rw [show refersB k = false from decide_eq_false om], hw.ext⟩)
 refine Ci fun hs4 => ?_
 refine SN k5 ?_
 refine Fh ?_
 refine Ek [4, 3, 2] ?_
 refine SR fun _ k7 => ?_
 refine Sc Obe ?_
 refine Ah ?_
 refine Sb ?_ ?_
 ·
  refine Ci fun hs4 => ?_
  refine SN k7 ?_
  refine Th ?_
  refine SS k4 ?_
  refine Th ?_
  refine Ek [2] ?_
  refine SR fun _ k8 => ?_
  refine Ac ?_
  refine SN k8 ?_
  refine Rt ?_
  refine Pl0 ?_
  refine Pl3 ?_
  exact SK_ret1 rfl .hit (fun w hw => ⟨by first | rw [show refersB k = true from decide_eq_true om] | rw [show refersB k = false from decide_eq_false om], hw.ext⟩)
 refine Ci fun hs4 => ?_
 refine SN k7 ?_
 refine Fh ?_
 refine Ek [4, 3, 2] ?_
 refine SR fun _ k9 => ?_
 refine Sc Obe ?_
 refine Ah ?_
 refine Sb ?_ ?_
 ·
  refine Ci fun hs4 => ?_
  refine SN k9 ?_
  refine Th ?_
  refine SS k4 ?_
  refine Th ?_
  refine Ek [2] ?_
  refine SR fun _ k10 => ?_
  refine Ac ?_
  refine SN k10 ?_
  refine Rt ?_
  refine Pl0 ?_
  refine Pl3 ?_
  exact SK_ret1 rfl .hit (fun w hw => ⟨by first | rw [show refersB k = true from decide_eq_true om] | rw [show refersB k = false from decide_eq_false om], hw.ext⟩)
 refine Ci fun hs4 => ?_
 refine SN k9 ?_
 refine Fh ?_
 refine Ek [4, 3, 2] ?_
 refine SR fun _ k11 => ?_
 refine Sc Obe ?_
 refine Ah ?_
 refine Sb ?_ ?_
 ·
  refine Ci fun hs4 => ?_
  refine SN k11 ?_
  refine Th ?_
  refine SS k4 ?_
  refine Th ?_
  refine Ek [2] ?_
  refine SR fun _ k12 => ?_
  refine Ac ?_
  refine SN k12 ?_
  refine Rt ?_
  refine Pl0 ?_
  refine Pl3 ?_
  exact SK_ret1 rfl .hit (fun w hw => ⟨by first | rw [show refersB k = true from decide_eq_true om] | rw [show refersB k = false from decide_eq_false om], hw.ext⟩)
 refine Ci fun hs4 => ?_
 refine SN k11 ?_
 refine Fh ?_
 refine Ek [4, 3, 2] ?_
 refine SR fun _ k13 => ?_
 refine Sc Obe ?_
 refine Ah ?_
 refine Sb ?_ ?_
 ·
  refine Ci fun hs4 => ?_
  refine SN k13 ?_
  refine Th ?_
  refine SS k4 ?_
  refine Th ?_
  refine Ek [2] ?_
  refine SR fun _ k14 => ?_
  refine Ac ?_
  refine SN k14 ?_
  refine Rt ?_
  refine Pl0 ?_
  refine Pl3 ?_
  exact SK_ret1 rfl .hit (fun w hw => ⟨by first | rw [show refersB k = true from decide_eq_true om] | rw [show refersB k = false from decide_eq_false om], hw.ext⟩)
 refine Ci fun hs4 => ?_
 refine SN k13 ?_
 refine Fh ?_
 refine Sr ?_
 refine Sc Obe ?_
 refine Ah ?_
 refine Sb ?_ ?_
 ·
  refine Ci fun hs4 => ?_
  refine SN k4 ?_
  refine Th ?_
  refine Ek [2] ?_
  refine SR fun _ k15 => ?_
  refine Ac ?_
  refine SN k15 ?_
  refine Rt ?_
  refine Pl0 ?_
  refine Pl3 ?_
  exact SK_ret1 rfl .hit (fun w hw => ⟨by first | rw [show refersB k = true from decide_eq_true om] | rw [show refersB k = false from decide_eq_false om], hw.ext⟩)
 refine Ci fun hs4 => ?_
 refine SN k4 ?_
 refine Fh ?_
 refine SS k2 ?_
 refine Ek [2] ?_
 refine SR fun _ k16 => ?_
 refine Ac ?_
 refine SN k16 ?_
 refine Rt ?_
 refine Pl3 ?_
 exact SK_ret1 rfl .hit (fun w hw => ⟨by first | rw [show refersB k = true from decide_eq_true om] | rw [show refersB k = false from decide_eq_false om], hw.ext⟩)

theorem f26_ok (k : Int) (w : World) : Calls Tryz.prog 26 #[.int .i64 k] w (fun r w' => r = .returned (.bool (composedB k)) ∧ Ext noS w w') := by
 refine sw_calls (S := noS) func26 rfl ntmps26 (sees1 _ _ rfl) (Holds.start _ _) ?_
 refine SR fun _ k1 => ?_
 refine Ac ?_
 refine SN k1 ?_
 refine Sq fun _ k2 => ?_
 refine SR fun _ k3 => ?_
 refine Mo ?_
 refine SN k3 ?_
 refine Bl ?_
 refine Ek [3, 2] ?_
 refine Sq fun _ k4 => ?_
 refine SR fun _ k5 => ?_
 refine Sc Obe ?_
 refine Ah ?_
 refine Sb ?_ ?_
 ·
  refine Ci fun hs4 => ?_
  refine SN k5 ?_
  refine Th ?_
  refine SS k4 ?_
  refine Th ?_
  refine Ek [2] ?_
  refine SR fun _ k6 => ?_
  refine Ac ?_
  refine SN k6 ?_
  refine Rt ?_
  refine Pl0 ?_
  refine Pl3 ?_
  exact SK_ret1 rfl .hit (fun w hw => ⟨by first | rw [show composedB k = true from decide_eq_true om] | rw [show composedB k = false from decide_eq_false om], hw.ext⟩)
 refine Ci fun hs4 => ?_
 refine SN k5 ?_
 refine Fh ?_
 refine Ek [4, 3, 2] ?_
 refine SR fun _ k7 => ?_
 refine Sc Obe ?_
 refine Ah ?_
 refine Sb ?_ ?_
 ·
  refine Ci fun hs4 => ?_
  refine SN k7 ?_
  refine Th ?_
  refine SS k4 ?_
  refine Th ?_
  refine Ek [2] ?_
  refine SR fun _ k8 => ?_
  refine Ac ?_
  refine SN k8 ?_
  refine Rt ?_
  refine Pl0 ?_
  refine Pl3 ?_
  exact SK_ret1 rfl .hit (fun w hw => ⟨by first | rw [show composedB k = true from decide_eq_true om] | rw [show composedB k = false from decide_eq_false om], hw.ext⟩)
 refine Ci fun hs4 => ?_
 refine SN k7 ?_
 refine Fh ?_
 refine Ek [4, 3, 2] ?_
 refine SR fun _ k9 => ?_
 refine Sc Obe ?_
 refine Ah ?_
 refine Sb ?_ ?_
 ·
  refine Ci fun hs4 => ?_
  refine SN k9 ?_
  refine Th ?_
  refine SS k4 ?_
  refine Th ?_
  refine Ek [2] ?_
  refine SR fun _ k10 => ?_
  refine Ac ?_
  refine SN k10 ?_
  refine Rt ?_
  refine Pl0 ?_
  refine Pl3 ?_
  exact SK_ret1 rfl .hit (fun w hw => ⟨by first | rw [show composedB k = true from decide_eq_true om] | rw [show composedB k = false from decide_eq_false om], hw.ext⟩)
 refine Ci fun hs4 => ?_
 refine SN k9 ?_
 refine Fh ?_
 refine Ek [4, 3, 2] ?_
 refine SR fun _ k11 => ?_
 refine Sc Obe ?_
 refine Ah ?_
 refine Sb ?_ ?_
 ·
  refine Ci fun hs4 => ?_
  refine SN k11 ?_
  refine Th ?_
  refine SS k4 ?_
  refine Th ?_
  refine Ek [2] ?_
  refine SR fun _ k12 => ?_
  refine Ac ?_
  refine SN k12 ?_
  refine Rt ?_
  refine Pl0 ?_
  refine Pl3 ?_
  exact SK_ret1 rfl .hit (fun w hw => ⟨by first | rw [show composedB k = true from decide_eq_true om] | rw [show composedB k = false from decide_eq_false om], hw.ext⟩)
 refine Ci fun hs4 => ?_
 refine SN k11 ?_
 refine Fh ?_
 refine Ek [4, 3, 2] ?_
 refine SR fun _ k13 => ?_
 refine Sc Obe ?_
 refine Ah ?_
 refine Sb ?_ ?_
 ·
  refine Ci fun hs4 => ?_
  refine SN k13 ?_
  refine Th ?_
  refine SS k4 ?_
  refine Th ?_
  refine Ek [2] ?_
  refine SR fun _ k14 => ?_
  refine Ac ?_
  refine SN k14 ?_
  refine Rt ?_
  refine Pl0 ?_
  refine Pl3 ?_
  exact SK_ret1 rfl .hit (fun w hw => ⟨by first | rw [show composedB k = true from decide_eq_true om] | rw [show composedB k = false from decide_eq_false om], hw.ext⟩)
 refine Ci fun hs4 => ?_
 refine SN k13 ?_
 refine Fh ?_
 refine Sr ?_
 refine Sc Obe ?_
 refine Ah ?_
 refine Sb ?_ ?_
 ·
  refine Ci fun hs4 => ?_
  refine SN k4 ?_
  refine Th ?_
  refine Ek [2] ?_
  refine SR fun _ k15 => ?_
  refine Ac ?_
  refine SN k15 ?_
  refine Rt ?_
  refine Pl0 ?_
  refine Pl3 ?_
  exact SK_ret1 rfl .hit (fun w hw => ⟨by first | rw [show composedB k = true from decide_eq_true om] | rw [show composedB k = false from decide_eq_false om], hw.ext⟩)
 refine Ci fun hs4 => ?_
 refine SN k4 ?_
 refine Fh ?_
 refine SS k2 ?_
 refine Ek [2] ?_
 refine SR fun _ k16 => ?_
 refine Ac ?_
 refine SN k16 ?_
 refine Rt ?_
 refine Pl3 ?_
 exact SK_ret1 rfl .hit (fun w hw => ⟨by first | rw [show composedB k = true from decide_eq_true om] | rw [show composedB k = false from decide_eq_false om], hw.ext⟩)

theorem f53_ok (k : Int) (w : World) : Calls Tryz.prog 53 #[.int .i64 k] w (fun r w' => r = .returned (.bool (peeledB k)) ∧ Ext noS w w') := by
 refine sw_calls (S := noS) func53 rfl ntmps53 (sees1 _ _ rfl) (Holds.start _ _) ?_
 refine SR fun _ k1 => ?_
 refine Ac ?_
 refine SN k1 ?_
 refine Sq fun _ k2 => ?_
 refine SR fun _ k3 => ?_
 refine Mo ?_
 refine SN k3 ?_
 refine Bl ?_
 refine Ek [3, 2] ?_
 refine Sq fun _ k4 => ?_
 refine SR fun _ k5 => ?_
 refine Sc Obe ?_
 refine Ah ?_
 refine Sb ?_ ?_
 ·
  refine Ci fun hs4 => ?_
  refine SN k5 ?_
  refine Th ?_
  refine SS k4 ?_
  refine Th ?_
  refine Ek [2] ?_
  refine SR fun _ k6 => ?_
  refine Ac ?_
  refine SN k6 ?_
  refine Rt ?_
  refine Pl0 ?_
  refine Pl3 ?_
  exact SK_ret1 rfl .hit (fun w hw => ⟨by first | rw [show peeledB k = true from decide_eq_true om] | rw [show peeledB k = false from decide_eq_false om], hw.ext⟩)
 refine Ci fun hs4 => ?_
 refine SN k5 ?_
 refine Fh ?_
 refine Ek [4, 3, 2] ?_
 refine SR fun _ k7 => ?_
 refine Sc Obe ?_
 refine Ah ?_
 refine Sb ?_ ?_
 ·
  refine Ci fun hs4 => ?_
  refine SN k7 ?_
  refine Th ?_
  refine SS k4 ?_
  refine Th ?_
  refine Ek [2] ?_
  refine SR fun _ k8 => ?_
  refine Ac ?_
  refine SN k8 ?_
  refine Rt ?_
  refine Pl0 ?_
  refine Pl3 ?_
  exact SK_ret1 rfl .hit (fun w hw => ⟨by first | rw [show peeledB k = true from decide_eq_true om] | rw [show peeledB k = false from decide_eq_false om], hw.ext⟩)
 refine Ci fun hs4 => ?_
 refine SN k7 ?_
 refine Fh ?_
 refine Ek [4, 3, 2] ?_
 refine SR fun _ k9 => ?_
 refine Sc Obe ?_
 refine Ah ?_
 refine Sb ?_ ?_
 ·
  refine Ci fun hs4 => ?_
  refine SN k9 ?_
  refine Th ?_
  refine SS k4 ?_
  refine Th ?_
  refine Ek [2] ?_
  refine SR fun _ k10 => ?_
  refine Ac ?_
  refine SN k10 ?_
  refine Rt ?_
  refine Pl0 ?_
  refine Pl3 ?_
  exact SK_ret1 rfl .hit (fun w hw => ⟨by first | rw [show peeledB k = true from decide_eq_true om] | rw [show peeledB k = false from decide_eq_false om], hw.ext⟩)
 refine Ci fun hs4 => ?_
 refine SN k9 ?_
 refine Fh ?_
 refine Ek [4, 3, 2] ?_
 refine SR fun _ k11 => ?_
 refine Sc Obe ?_
 refine Ah ?_
 refine Sb ?_ ?_
 ·
  refine Ci fun hs4 => ?_
  refine SN k11 ?_
  refine Th ?_
  refine SS k4 ?_
  refine Th ?_
  refine Ek [2] ?_
  refine SR fun _ k12 => ?_
  refine Ac ?_
  refine SN k12 ?_
  refine Rt ?_
  refine Pl0 ?_
  refine Pl3 ?_
  exact SK_ret1 rfl .hit (fun w hw => ⟨by first | rw [show peeledB k = true from decide_eq_true om] | rw [show peeledB k = false from decide_eq_false om], hw.ext⟩)
 refine Ci fun hs4 => ?_
 refine SN k11 ?_
 refine Fh ?_
 refine Sr ?_
 refine Sc Obe ?_
 refine Ah ?_
 refine Sb ?_ ?_
 ·
  refine Ci fun hs4 => ?_
  refine SN k4 ?_
  refine Th ?_
  refine Ek [2] ?_
  refine SR fun _ k13 => ?_
  refine Ac ?_
  refine SN k13 ?_
  refine Rt ?_
  refine Pl0 ?_
  refine Pl3 ?_
  exact SK_ret1 rfl .hit (fun w hw => ⟨by first | rw [show peeledB k = true from decide_eq_true om] | rw [show peeledB k = false from decide_eq_false om], hw.ext⟩)
 refine Ci fun hs4 => ?_
 refine SN k4 ?_
 refine Fh ?_
 refine SS k2 ?_
 refine Ek [2] ?_
 refine SR fun _ k14 => ?_
 refine Ac ?_
 refine SN k14 ?_
 refine Rt ?_
 refine Pl3 ?_
 exact SK_ret1 rfl .hit (fun w hw => ⟨by first | rw [show peeledB k = true from decide_eq_true om] | rw [show peeledB k = false from decide_eq_false om], hw.ext⟩)
end

section
open Go
open Tryz
set_option maxRecDepth 100000

section
variable {ro : Option Nat} {P : Program} {S : Nat → Prop} {w0 : World} {n : Nat} {ds : List Deferred} {H : Hp} {e : Env} {Q : Exit → Act → World → Prop} {ops : Array Oper} {l : List Oper}
variable {d : Nat} {op : Op} {ty : TypeId} {pos : String} {aft : Array Edge}
theorem SL_unguardU {j g : Nat} {b : Bool} (hj : (ops[j]?).bind (·.dst) = some g) (hg : Get e g undef) (hd : Nat.blt d n = true) (h : SL ro P S w0 n ds ops H ((d, undef) :: e) l Q) :
    SL ro P S w0 n ds ops H e (⟨some d, op, ty, pos, aft, some (j, b)⟩ :: l) Q := by
  intro a w ha hw
  have hy : yielded ops a.tmps j = none := by
    have h := ha.slot _ _ hg
    unfold yielded
    rw [hj]
    simp only [Option.bind_some]
    rw [Array.getD_eq_getD_getElem?] at h
    cases hh : a.tmps[g]? with
    | none => rfl
    | some v => rw [hh] at h; simp at h; subst h; rfl
  have : (yielded ops a.tmps j == some b) = false := by rw [hy]; rfl
  simp only [wpListIn, Region.wanted, this]
  exact ⟨fun f _ => trivial, h _ _ (ha.put hd _) hw⟩
end

theorem of_not_false {b : Bool} (h : (!b) = false) : b = true := by cases b <;> simp_all

section
variable {ro : Option Nat} {P : Program} {S : Nat → Prop} {w0 : World} {n : Nat} {ds : List Deferred} {H : Hp} {e e' : Env} {Q : Exit → Act → World → Prop} {x y c : Code} {ops : Array Oper} {l : List Oper}
variable {d t : Nat} {op : Op} {ty : TypeId} {pos : String} {aft : Array Edge} {u v : Value}

theorem Vo {j g : Nat} {b : Bool} (h : SL ro P S w0 n ds ops H ((d, undef) :: e) l Q) (hj : (ops[j]?).bind (·.dst) = some g := by exact rfl) (hg : lk e g = some undef := by exact rfl) (hd : Nat.blt d n = true := by exact rfl) : SL ro P S w0 n ds ops H e (⟨some d, op, ty, pos, aft, some (j, b)⟩ :: l) Q := SL_unguardU hj (.o hg) hd h
end
end
end Go.Proofs.YtoibhfpagkdleaaGreatDoor
