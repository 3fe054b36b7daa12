/-
  THE CALCULUS, PART 3: one lemma an operation.
-/
import Derived.Test.YtoibhfpagkdleaaGreatDoorSz
namespace Go.Proofs.YtoibhfpagkdleaaGreatDoor
section
open Go
open Tryz
set_option maxRecDepth 100000

def cellOf : Obj → Nat → Option Value
  | .cells cs _ _, i => cs.toList[i]?
  | _, _ => none

theorem cell_of_obj {w : World} {b i : Nat} {o : Obj} {v : Value} (h : w.heap[b]? = some o) (hc : cellOf o i = some v) : w.cell? ⟨b, i, none⟩ = some v := by
  unfold World.cell?
  rw [h]
  cases o <;> simp [cellOf] at hc ⊢
  exact hc

/-- The cells from a place on. -/
def cellsOf : Obj → Nat → Nat → Option (List Value)
  | _, _, 0 => some []
  | o, i, k + 1 => match cellOf o i, cellsOf o (i + 1) k with
    | some v, some vs => some (v :: vs)
    | _, _ => none

inductive LSet : List Value → Nat → Value → List Value → Prop
  | hit {u v : Value} {l : List Value} : LSet (u :: l) 0 v (v :: l)
  | skip {u v : Value} {i : Nat} {l l' : List Value} (h : LSet l i v l') : LSet (u :: l) (i + 1) v (u :: l')

theorem LSet.a {l l' : List Value} {i : Nat} {v : Value} (h : LSet l i v l' := by repeat (first | apply LSet.hit | apply LSet.skip)) : LSet l i v l' := h
theorem LSet.eq {l l' : List Value} {i : Nat} {v : Value} (h : LSet l i v l') : l' = l.set i v ∧ i < l.length := by
  induction h with
  | hit => simp
  | skip _ ih => exact ⟨by simp [ih.1], by simp [ih.2]⟩

/-- A type whose values take one cell. -/
def OneC (P : Program) (t : TypeId) : Prop := ∃ D, P.underlying t = some D ∧ (match D with | .struct _ | .array _ _ => false | _ => true) = true
/-- A type's number of cells. -/
def Sz (P : Program) (t : TypeId) (k : Nat) : Prop := ∃ i, P.info? t = some i ∧ i.size = k
/-- A type's zero value. -/
def Zr (P : Program) (t : TypeId) (v : Value) : Prop := ∃ i, P.info? t = some i ∧ i.zero = some v

theorem Sz.of {P : Program} {t : TypeId} {k : Nat} (h : (P.info? t).map (·.size) = some k) : Sz P t k := by
  obtain ⟨i, hi, hk⟩ := Option.map_eq_some_iff.1 h
  exact ⟨i, hi, hk⟩
theorem Zr.of {P : Program} {t : TypeId} {v : Value} (h : (P.info? t).bind (·.zero) = some v) : Zr P t v := by
  obtain ⟨i, hi, hk⟩ := Option.bind_eq_some_iff.1 h
  exact ⟨i, hi, hk⟩

section
variable {P : Program} {w : World}
theorem run_isAgg_no {t : TypeId} (h : OneC P t) : (isAgg t).run P w = .ok false w := by
  obtain ⟨D, hD, hn⟩ := h
  simp only [isAgg, Sem.run_bind, run_underlying hD, Result.andThen_ok]
  cases D <;> simp_all
theorem run_isAgg_struct {t : TypeId} {fs : Array Field} (h : P.underlying t = some (.struct fs)) : (isAgg t).run P w = .ok true w := by
  simp [isAgg, run_underlying h]
theorem run_size {t : TypeId} {k : Nat} (h : Sz P t k) : (sizeOf t).run P w = .ok k w := by
  obtain ⟨i, hi, rfl⟩ := h
  simp [sizeOf, typeInfo, hi]
theorem run_zero {t : TypeId} {v : Value} (h : Zr P t v) : (zeroValue t).run P w = .ok v w := by
  obtain ⟨i, hi, hz⟩ := h
  simp [zeroValue, typeInfo, hi, hz]
theorem run_loadVar1 {t : TypeId} (h : OneC P t) {b i : Nat} {o : Obj} {v : Value} (hb : w.heap[b]? = some o) (hc : cellOf o i = some v) :
    (loadVar t ⟨b, i, none⟩).run P w = .ok v w := by
  simp [loadVar, run_isAgg_no h, cell_of_obj hb hc]

theorem add_none (b i k : Nat) : Addr.add ⟨b, i, none⟩ k = ⟨b, i + k, none⟩ := by
  unfold Addr.add
  split
  · subst_vars; rfl
  rfl

theorem run_loadCells {b : Nat} {o : Obj} (hb : w.heap[b]? = some o) : ∀ (k i j : Nat) (acc : Array Value) (vs : List Value), cellsOf o (i + j) k = some vs →
    (loadCellsFrom ⟨b, i, none⟩ j k acc).run P w = .ok (acc ++ vs.toArray) w := by
  intro k
  induction k with
  | zero => intro i j acc vs h; simp [cellsOf] at h; subst h; simp [loadCellsFrom]
  | succ k ih =>
    intro i j acc vs h
    simp only [cellsOf] at h
    cases hc : cellOf o (i + j) with
    | none => simp [hc] at h
    | some v =>
      cases hr : cellsOf o (i + j + 1) k with
      | none => simp [hc, hr] at h
      | some us =>
        simp only [hc, hr, Option.some.injEq] at h
        subst h
        have := ih i (j + 1) (acc.push v) us (by rw [← Nat.add_assoc]; exact hr)
        simp [loadCellsFrom, add_none, cell_of_obj hb hc, this]

theorem run_loadVarA {t : TypeId} {fs : Array Field} (h : P.underlying t = some (.struct fs)) {k : Nat} (hk : Sz P t k) {b i : Nat} {o : Obj} {vs : List Value}
    (hb : w.heap[b]? = some o) (hc : cellsOf o i k = some vs) : (loadVar t ⟨b, i, none⟩).run P w = .ok (.agg vs.toArray) w := by
  have := run_loadCells (P := P) hb k i 0 #[] vs hc
  simp [loadVar, run_isAgg_struct h, run_size hk, loadCells, this]

theorem frozen_no {b i : Nat} {cs : Array Value} {T : TypeId} (hb : w.heap[b]? = some (.cells cs T (0, 0))) : w.frozen? ⟨b, i, none⟩ = false := by
  simp [World.frozen?, hb]

theorem run_store1 {b i : Nat} {cs : Array Value} {T : TypeId} {v u : Value} (hb : w.heap[b]? = some (.cells cs T (0, 0))) (hu : cs.toList[i]? = some u) (h1 : v.oneCell' = true) :
    (store ⟨b, i, none⟩ v).run P w = .ok () (w.setCell ⟨b, i, none⟩ v) := by
  rw [run_store P w _ v _ h1]
  rw [cell_of_obj hb (show cellOf _ i = some u from hu)]
  simp [frozen_no hb]

theorem setCell_heap {b i : Nat} {cs : Array Value} {T : TypeId} {fr : Nat × Nat} {v : Value} (hb : w.heap[b]? = some (.cells cs T fr)) :
    (w.setCell ⟨b, i, none⟩ v).heap[b]? = some (.cells (cs.setIfInBounds i v) T fr) := by
  simp [World.setCell, Array.getElem?_modify, hb]

theorem setCell_ext (w : World) (b i : Nat) (v : Value) : Ext (· = b) w (w.setCell ⟨b, i, none⟩ v) :=
  ⟨rfl, rfl, rfl, by simp [World.setCell], fun k _ hn => by
    simp only [World.setCell, Array.getElem?_modify]
    rw [if_neg (fun e => hn e.symm)]⟩

theorem setIfInBounds_toArray (l : List Value) (i : Nat) (v : Value) : l.toArray.setIfInBounds i v = (l.set i v).toArray := by simp

/-- Several cells stored, one behind the other. -/
theorem run_storeCells {b : Nat} {T : TypeId} : ∀ (vs l : List Value) (w : World) (i j : Nat), w.heap[b]? = some (.cells l.toArray T (0, 0)) → i + j + vs.length ≤ l.length → (∀ v ∈ vs, v.oneCell' = true) →
    ∃ w', (storeCells ⟨b, i, none⟩ vs j).run P w = .ok () w' ∧ Ext (· = b) w w' ∧ w'.heap[b]? = some (.cells (l.take (i + j) ++ vs ++ l.drop (i + j + vs.length)).toArray T (0, 0)) := by
  intro vs
  induction vs with
  | nil =>
    intro l w i j hb hl _
    refine ⟨w, rfl, Ext.refl _ _, ?_⟩
    simp [hb]
  | cons v vs ih =>
    intro l w i j hb hl h1
    have hlt : i + j < l.length := by simp at hl; omega
    have hu : l.toArray.toList[i + j]? = some l[i + j] := by simp [hlt]
    have hs := run_store1 (P := P) hb hu (h1 v List.mem_cons_self)
    have hb' := setCell_heap (v := v) (i := i + j) hb
    rw [setIfInBounds_toArray] at hb'
    obtain ⟨w', hr, he, hh⟩ := ih (l.set (i + j) v) (w.setCell ⟨b, i + j, none⟩ v) i (j + 1) hb' (by simp at hl ⊢; omega) (fun u hu => h1 u (List.mem_cons_of_mem _ hu))
    refine ⟨w', by simp [storeCells, add_none, hs, hr], (setCell_ext w b (i + j) v).trans he (fun _ _ h => h), ?_⟩
    rw [hh]
    have e1 : (l.set (i + j) v).take (i + (j + 1)) = l.take (i + j) ++ [v] := by
      rw [← Nat.add_assoc, List.take_succ_eq_append_getElem (by simpa using hlt), List.take_set_of_le (Nat.le_refl _)]
      simp
    have e2 : (l.set (i + j) v).drop (i + (j + 1) + vs.length) = l.drop (i + j + (v :: vs).length) := by
      rw [List.drop_set_of_lt om]
      congr 1
      simp; omega
    rw [e1, e2]
    simp
end

section
variable {ro : Option Nat} {P : Program} {S : Nat → Prop} {w0 : World} {n : Nat} {ds : List Deferred} {H H' : Hp} {e e' : Env} {Q : Exit → Act → World → Prop}
variable {d : Nat} {ty : TypeId} {pos : String} {aft : Array Edge}

/-- THE CORE: an operation that yields a value. -/
theorem OT_run {α : Type} {op : Op} {val : α → Value} {Hf : α → Hp} {good : α → Prop} (hd : Nat.blt d n = true) (hdef : ∀ c, op ≠ .defer c)
    (h : ∀ a w, Sees n ds e a → Holds S w0 H w → ∃ x w', (execOp a.eval ⟨some d, op, ty, pos, aft, none⟩).run P w = .ok (.value (val x)) w' ∧ good x ∧ Holds S w0 (Hf x) w') :
    OT ro P S w0 n ds H e ⟨some d, op, ty, pos, aft, none⟩ (fun X => ∀ x, good x → X ((d, val x) :: e) (Hf x)) := by
  intro K Q hC a w ha hw
  refine ⟨fun f _ => trivial, ?_⟩
  rw [Oper.semAt_eq _ _ _ hdef]
  obtain ⟨x, w', hr, hg, hw'⟩ := h a w ha hw
  rw [hr, Oper.uponIn_value]
  exact hC x hg _ _ (ha.put hd _) hw'

theorem OT_pure {op : Op} {v : Value} (hd : Nat.blt d n = true) (hdef : ∀ c, op ≠ .defer c)
    (h : ∀ a w, Sees n ds e a → Holds S w0 H w → (execOp a.eval ⟨some d, op, ty, pos, aft, none⟩).run P w = .ok (.value v) w) :
    OT ro P S w0 n ds H e ⟨some d, op, ty, pos, aft, none⟩ (fun X => X ((d, v) :: e) H) := by
  intro K Q hC
  exact OT_run (α := Unit) (val := fun _ => v) (Hf := fun _ => H) (good := fun _ => True) hd hdef (fun a w ha hw => ⟨(), w, h a w ha hw, trivial, hw⟩) K Q (fun _ _ => hC)

/-- The core of an operation without a value. -/
theorem OT_do {op : Op} (hdef : ∀ c, op ≠ .defer c)
    (h : ∀ a w, Sees n ds e a → Holds S w0 H w → ∃ w', (execOp a.eval ⟨none, op, ty, pos, aft, none⟩).run P w = .ok .skip w' ∧ Holds S w0 H' w') :
    OT ro P S w0 n ds H e ⟨none, op, ty, pos, aft, none⟩ (fun X => X e H') := by
  intro K Q hC a w ha hw
  refine ⟨fun f _ => trivial, ?_⟩
  rw [Oper.semAt_eq _ _ _ hdef]
  obtain ⟨w', hr, hw'⟩ := h a w ha hw
  rw [hr, Oper.uponIn_skip]
  exact hC _ _ (ha.putNone _) hw'

variable {x y : Operand} {v u : Value}

theorem O_move (hd : Nat.blt d n = true) (hx : Ev e x v) : OT ro P S w0 n ds H e ⟨some d, .move x, ty, pos, aft, none⟩ (fun X => X ((d, v) :: e) H) :=
  OT_pure hd (fun _ h => by cases h) fun a w ha _ => by simp [execOp, ha.ev hx]
theorem O_assign (hd : Nat.blt d n = true) (hx : Ev e x v) : OT ro P S w0 n ds H e ⟨some d, .assign x, ty, pos, aft, none⟩ (fun X => X ((d, v) :: e) H) :=
  OT_pure hd (fun _ h => by cases h) fun a w ha _ => by simp [execOp, ha.ev hx]
theorem O_pick {c : Operand} {t : Bool} (hd : Nat.blt d n = true) (hc : Ev e c (.bool t)) (hx : Ev e x v) (hy : Ev e y u) :
    OT ro P S w0 n ds H e ⟨some d, .pick c x y, ty, pos, aft, none⟩ (fun X => X ((d, if t then v else u) :: e) H) :=
  OT_pure hd (fun _ h => by cases h) fun a w ha _ => by simp [execOp, ha.ev hc, ha.ev hx, ha.ev hy, asBool]

/-- any operation whose run is known -/
theorem O_binOp {op : BinOp} {T T' : TypeId} {r : Value} (hd : Nat.blt d n = true) (hx : Ev e x v) (hy : Ev e y u)
    (hr : ∀ w, (do eqGuard op T x y v u; binOp op T v u : Sem Value).run P w = .ok r w) :
    OT ro P S w0 n ds H e ⟨some d, .binOp op T x y T', ty, pos, aft, none⟩ (fun X => X ((d, r) :: e) H) :=
  OT_pure hd (fun _ h => by cases h) fun a w ha _ => by
    have := hr w
    simp only [execOp, ha.ev hx, ha.ev hy]
    rw [Sem.run_bind, this]
    rfl
theorem O_unOp {op : UnOp} {T : TypeId} {r : Value} (hd : Nat.blt d n = true) (hx : Ev e x v) (hr : ∀ w, (Op.unary op v).run P w = .ok r w) :
    OT ro P S w0 n ds H e ⟨some d, .unOp op T x, ty, pos, aft, none⟩ (fun X => X ((d, r) :: e) H) :=
  OT_pure hd (fun _ h => by cases h) fun a w ha _ => by simp [execOp, ha.ev hx, hr w]
theorem O_convert {s t : TypeId} {r : Value} (hd : Nat.blt d n = true) (hx : Ev e x v) (hr : ∀ w, (convert s t v).run P w = .ok r w) :
    OT ro P S w0 n ds H e ⟨some d, .convert s t x, ty, pos, aft, none⟩ (fun X => X ((d, r) :: e) H) :=
  OT_pure hd (fun _ h => by cases h) fun a w ha _ => by simp [execOp, ha.ev hx, hr w]
theorem O_nilCheck {b off : Nat} {sp : Option Nat} (hd : Nat.blt d n = true) (hx : Ev e x (.pointer (some ⟨b, off, sp⟩))) :
    OT ro P S w0 n ds H e ⟨some d, .nilCheck x, ty, pos, aft, none⟩ (fun X => X ((d, .pointer (some ⟨b, off, sp⟩)) :: e) H) :=
  OT_pure hd (fun _ h => by cases h) fun a w ha _ => by simp [execOp, ha.ev hx]
theorem O_makeFunc {fn : Fn} {fs cs : List Operand} {fv cv : List Value} (hd : Nat.blt d n = true) (hf : Evs e fs fv) (hc : Evs e cs cv) :
    OT ro P S w0 n ds H e ⟨some d, .makeFunc fn fs.toArray cs.toArray, ty, pos, aft, none⟩ (fun X => X ((d, .func fn fv.toArray cv.toArray) :: e) H) :=
  OT_pure hd (fun _ h => by cases h) fun a w ha _ => by
    have h1 := ha.evs hf; have h2 := ha.evs hc
    simp [execOp, Instr.makeFunc, h1, h2]
theorem O_makeInterface {T : TypeId} (hd : Nat.blt d n = true) (hx : Ev e x v) (hT : ∃ D, P.underlying T = some D ∧ (match D with | .interface _ => false | _ => true) = true) :
    OT ro P S w0 n ds H e ⟨some d, .makeInterface T x, ty, pos, aft, none⟩ (fun X => X ((d, .iface T v) :: e) H) :=
  OT_pure hd (fun _ h => by cases h) fun a w ha _ => by
    obtain ⟨D, hD, hn⟩ := hT
    simp only [execOp, ha.ev hx, Instr.makeInterface, Sem.run_bind, run_underlying hD, Result.andThen_ok]
    cases D <;> simp_all
theorem O_extract {i : Nat} {vs : Array Value} (hd : Nat.blt d n = true) (hx : Ev e x (.tuple vs)) (hv : vs.toList[i]? = some v) :
    OT ro P S w0 n ds H e ⟨some d, .extract x i, ty, pos, aft, none⟩ (fun X => X ((d, v) :: e) H) :=
  OT_pure hd (fun _ h => by cases h) fun a w ha _ => by
    have : vs[i]? = some v := by simpa using hv
    simp [execOp, ha.ev hx, Instr.extract, this]
theorem O_fieldAddr {T : TypeId} {fs : Array Field} {k : Nat} {f : Field} {s b off : Nat} (hd : Nat.blt d n = true) (hx : Ev e x (.pointer (some ⟨b, off, none⟩)))
    (hT : P.underlying T = some (.struct fs)) (hf : fs.toList[k]? = some f) (hs : Sz P f.type (s + 1)) :
    OT ro P S w0 n ds H e ⟨some d, .fieldAddr T x k, ty, pos, aft, none⟩ (fun X => X ((d, .pointer (some ⟨b, off + f.offset, none⟩)) :: e) H) :=
  OT_pure hd (fun _ h => by cases h) fun a w ha _ => by
    have hf' : fs[k]? = some f := by simpa using hf
    simp [execOp, ha.ev hx, Instr.fieldAt, run_underlying hT, hf', Instr.sureAddr, fieldPlace, run_size hs, add_none]
theorem O_field1 {T : TypeId} {fs : Array Field} {k : Nat} {f : Field} {cs : Array Value} (hd : Nat.blt d n = true) (hx : Ev e x (.agg cs))
    (hT : P.underlying T = some (.struct fs)) (hf : fs.toList[k]? = some f) (h1 : OneC P f.type) (hv : cs.toList[f.offset]? = some v) :
    OT ro P S w0 n ds H e ⟨some d, .field T x k, ty, pos, aft, none⟩ (fun X => X ((d, v) :: e) H) :=
  OT_pure hd (fun _ h => by cases h) fun a w ha _ => by
    have hf' : fs[k]? = some f := by simpa using hf
    have hv' : cs[f.offset]? = some v := by simpa using hv
    simp [execOp, ha.ev hx, Instr.field, run_underlying hT, hf', asAgg, part, run_isAgg_no h1, hv']
theorem O_indexAddr {T E : TypeId} {b off len cap s : Nat} {k : IntKind} {i : Int} (hd : Nat.blt d n = true) (hx : Ev e x (.slice (some ⟨b, off, none⟩) len cap)) (hy : Ev e y (.int k i))
    (hT : P.underlying T = some (.slice E)) (hs : Sz P E s) (h0 : 0 ≤ i) (h1 : i < len) :
    OT ro P S w0 n ds H e ⟨some d, .indexAddr T x y, ty, pos, aft, none⟩ (fun X => X ((d, .pointer (some ⟨b, off + i.toNat * s, none⟩)) :: e) H) :=
  OT_pure hd (fun _ h => by cases h) fun a w ha _ => by
    simp [execOp, ha.ev hx, ha.ev hy, Instr.indexAt, asIntOf, run_underlying hT, h0, h1, run_size hs, add_none]
theorem O_indexStr {T : TypeId} {s : ByteArray} {k : IntKind} {i : Int} {c : UInt8} (hd : Nat.blt d n = true) (hx : Ev e x (.string s)) (hy : Ev e y (.int k i))
    (hT : P.underlying T = some .string) (h0 : 0 ≤ i) (h1 : s[i.toNat]? = some c) :
    OT ro P S w0 n ds H e ⟨some d, .index T x y, ty, pos, aft, none⟩ (fun X => X ((d, .int .u8 c.toNat) :: e) H) :=
  OT_pure hd (fun _ h => by cases h) fun a w ha _ => by
    simp [execOp, ha.ev hx, ha.ev hy, Instr.index, asIntOf, run_underlying hT, h0, h1]
theorem O_build {T : TypeId} {ps : List (Nat × Operand)} {pv : List (Nat × Value)} {r : Value} (hd : Nat.blt d n = true) (hp : Parts e ps pv) (hr : ∀ w, (Instr.build T pv.toArray).run P w = .ok r w) :
    OT ro P S w0 n ds H e ⟨some d, .build T ps.toArray, ty, pos, aft, none⟩ (fun X => X ((d, r) :: e) H) :=
  OT_pure hd (fun _ h => by cases h) fun a w ha _ => by
    have h1 := ha.parts hp
    simp only [execOp]
    have : (ps.toArray.map fun (i, x) => (i, a.eval x)) = pv.toArray := by
      rw [List.map_toArray]; exact congrArg List.toArray h1
    rw [this]
    simp [hr w]

/-- loads -/
theorem O_load {T : TypeId} {b off : Nat} {f : Bool} {o : Obj} (hd : Nat.blt d n = true) (hx : Ev e x (.pointer (some ⟨b, off, none⟩))) (hT : OneC P T) (hm : HMem H b f o) (hc : cellOf o off = some v) :
    OT ro P S w0 n ds H e ⟨some d, .load T x, ty, pos, aft, none⟩ (fun X => X ((d, v) :: e) H) :=
  OT_pure hd (fun _ h => by cases h) fun a w ha hw => by
    simp [execOp, ha.ev hx, Instr.loadAt, Instr.sureAddr, run_loadVar1 hT (hw.at_ hm) hc]
theorem O_loadA {T : TypeId} {fs : Array Field} {k b off : Nat} {f : Bool} {o : Obj} {vs : List Value} (hd : Nat.blt d n = true) (hx : Ev e x (.pointer (some ⟨b, off, none⟩)))
    (hT : P.underlying T = some (.struct fs)) (hk : Sz P T k) (hm : HMem H b f o) (hc : cellsOf o off k = some vs) :
    OT ro P S w0 n ds H e ⟨some d, .load T x, ty, pos, aft, none⟩ (fun X => X ((d, .agg vs.toArray) :: e) H) :=
  OT_pure hd (fun _ h => by cases h) fun a w ha hw => by
    simp [execOp, ha.ev hx, Instr.loadAt, Instr.sureAddr, run_loadVarA hT hk (hw.at_ hm) hc]

/-- stores -/
theorem O_store {T T' : TypeId} {b off : Nat} {l l' : List Value} (hx : Ev e x (.pointer (some ⟨b, off, none⟩))) (hy : Ev e y v) (h1 : v.oneCell' = true) (hT : Sz P T 1)
    (hs : HSet H b (.cells l.toArray T' (0, 0)) (.cells l'.toArray T' (0, 0)) H') (hl : LSet l off v l') :
    OT ro P S w0 n ds H e ⟨none, .store T x y, ty, pos, aft, none⟩ (fun X => X e H') :=
  OT_do (fun _ h => by cases h) fun a w ha hw => by
    obtain ⟨rfl, hlt⟩ := hl.eq
    have hb : w.heap[b]? = some (.cells l.toArray T' (0, 0)) := (hw.has _ hs.mem).1
    have hu : l.toArray.toList[off]? = some l[off] := by simp [hlt]
    have hc : v.cells = #[v] := by cases v <;> simp_all [Value.cells, Value.oneCell']
    refine ⟨w.setCell ⟨b, off, none⟩ v, ?_, hw.turn hs (setCell_ext _ _ _ _) (by rw [setCell_heap hb, setIfInBounds_toArray])⟩
    simp [execOp, ha.ev hx, ha.ev hy, Instr.storeAt, Instr.sureAddr, storeVar, run_size hT, hc, storeCells, add_none, run_store1 hb hu h1]
theorem O_storeA {T T' : TypeId} {k b off : Nat} {vs l l' : List Value} (hx : Ev e x (.pointer (some ⟨b, off, none⟩))) (hy : Ev e y (.agg vs.toArray)) (h1 : vs.all (·.oneCell') = true) (hT : Sz P T k) (hk : vs.length = k)
    (hs : HSet H b (.cells l.toArray T' (0, 0)) (.cells l'.toArray T' (0, 0)) H') (hl : off + k ≤ l.length) (hl' : l' = l.take off ++ vs ++ l.drop (off + k)) :
    OT ro P S w0 n ds H e ⟨none, .store T x y, ty, pos, aft, none⟩ (fun X => X e H') :=
  OT_do (fun _ h => by cases h) fun a w ha hw => by
    subst hl' hk
    have hb : w.heap[b]? = some (.cells l.toArray T' (0, 0)) := (hw.has _ hs.mem).1
    obtain ⟨w', hr, he, hh⟩ := run_storeCells (P := P) vs l w off 0 hb om (fun v hv => by simpa using List.all_eq_true.1 h1 v hv)
    refine ⟨w', ?_, hw.turn hs he (by simpa using hh)⟩
    simp [execOp, ha.ev hx, ha.ev hy, Instr.storeAt, Instr.sureAddr, storeVar, run_size hT, Value.cells, hr]

/-- new blocks -/
theorem O_box {E : TypeId} {cs : Array Value} (hd : Nat.blt d n = true) (hx : Ev e x v) (hc : v.cells = cs) :
    OT ro P S w0 n ds H e ⟨some d, .box E x, ty, pos, aft, none⟩ (fun X => ∀ b : Nat, True → X ((d, .pointer (some ⟨b, 0, none⟩)) :: e) ((b, true, .cells cs E (0, 0)) :: H)) :=
  OT_run (val := fun b : Nat => .pointer (some ⟨b, 0, none⟩)) (Hf := fun b => (b, true, .cells cs E (0, 0)) :: H) (good := fun _ => True) hd (fun _ h => by cases h) fun a w ha hw =>
    ⟨w.heap.size, _, by simp [execOp, ha.ev hx, Instr.box, newVar, newRow, hc], trivial, hw.new _⟩
theorem O_alloc {E : TypeId} {z : Value} {cs : Array Value} (hd : Nat.blt d n = true) (hz : Zr P E z) (hc : z.cells = cs) :
    OT ro P S w0 n ds H e ⟨some d, .alloc E, ty, pos, aft, none⟩ (fun X => ∀ b : Nat, True → X ((d, .pointer (some ⟨b, 0, none⟩)) :: e) ((b, true, .cells cs E (0, 0)) :: H)) :=
  OT_run (val := fun b : Nat => .pointer (some ⟨b, 0, none⟩)) (Hf := fun b => (b, true, .cells cs E (0, 0)) :: H) (good := fun _ => True) hd (fun _ h => by cases h) fun a w _ hw =>
    ⟨w.heap.size, _, by simp [execOp, Instr.alloc, newVar, newRow, run_zero hz, hc], trivial, hw.new _⟩
theorem O_buildSlice {T E : TypeId} {m s : Nat} {ps : List (Nat × Operand)} {pv : List (Nat × Value)} {z : Value} {cs : Array Value} (hd : Nat.blt d n = true) (hp : Parts e ps pv) (hT : P.underlying T = some (.slice E)) (hs : Sz P E s)
    (hz : Zr P E z) (hle : m * s ≤ 2 ^ 24) (hne : m * s ≠ 0) (hc : Instr.fill (fun i => some (i * s, s)) ((Array.range (m * s)).map (z.cells[· % z.cells.size]!)) pv = some cs) :
    OT ro P S w0 n ds H e ⟨some d, .buildSlice T m ps.toArray, ty, pos, aft, none⟩ (fun X => ∀ b : Nat, True → X ((d, .slice (some ⟨b, 0, none⟩) m m) :: e) ((b, true, .cells cs E (0, 0)) :: H)) :=
  OT_run (val := fun b : Nat => .slice (some ⟨b, 0, none⟩) m m) (Hf := fun b => (b, true, .cells cs E (0, 0)) :: H) (good := fun _ => True) hd (fun _ h => by cases h) fun a w ha hw => by
    have h1 := ha.parts hp
    have h2 : (ps.toArray.map fun (i, x) => (i, a.eval x)) = pv.toArray := by
      rw [List.map_toArray]; exact congrArg List.toArray h1
    refine ⟨w.heap.size, _, ?_, trivial, hw.new _⟩
    simp only [execOp, h2, Instr.buildSlice, Sem.run_bind, run_underlying hT, Result.andThen_ok, run_size hs, Sem.run_ite, if_neg (Nat.not_lt.2 hle), if_neg hne, Sem.run_pure, run_zero hz, hc, newRow, run_newObj]
theorem O_makeMap {T : TypeId} {r : Option Operand} (hd : Nat.blt d n = true) (hr : r = none) :
    OT ro P S w0 n ds H e ⟨some d, .makeMap T r, ty, pos, aft, none⟩ (fun X => ∀ b : Nat, True → X ((d, .map (some b)) :: e) ((b, true, .map #[] 0) :: H)) :=
  OT_run (val := fun b : Nat => .map (some b)) (Hf := fun b => (b, true, .map #[] 0) :: H) (good := fun _ => True) hd (fun _ h => by cases h) fun a w _ hw => by
    subst hr
    exact ⟨w.heap.size, _, by simp [execOp, Instr.makeMap], trivial, hw.new _⟩

/-- lengths -/
theorem O_lenSlice {T E : TypeId} {p : Option Addr} {len cap : Nat} {ats : Array TypeId} (hd : Nat.blt d n = true) (hx : Ev e x (.slice p len cap)) (hT : P.underlying T = some (.slice E)) (ha : ats = #[T]) :
    OT ro P S w0 n ds H e ⟨some d, .call ⟨.builtin .len, #[x], ats⟩, ty, pos, aft, none⟩ (fun X => X ((d, .int .i64 len) :: e) H) :=
  OT_pure hd (fun _ h => by cases h) fun a w hs _ => by
    subst ha
    simp [execOp, resolve, invoke, builtin, hs.ev hx, Builtin.len_, run_underlying hT, goInt]
theorem O_lenStr {T : TypeId} {s : ByteArray} {ats : Array TypeId} (hd : Nat.blt d n = true) (hx : Ev e x (.string s)) (hT : P.underlying T = some .string) (ha : ats = #[T]) :
    OT ro P S w0 n ds H e ⟨some d, .call ⟨.builtin .len, #[x], ats⟩, ty, pos, aft, none⟩ (fun X => X ((d, .int .i64 s.size) :: e) H) :=
  OT_pure hd (fun _ h => by cases h) fun a w hs _ => by
    subst ha
    simp [execOp, resolve, invoke, builtin, hs.ev hx, Builtin.len_, run_underlying hT, goInt]

/-- calls -/
theorem O_call {α : Type} {f : FuncId} {g : Operand} {xs : List Operand} {vs cap : List Value} {ats : Array TypeId} {val : α → Value} {Hf : α → Hp} {good : α → Prop} (hd : Nat.blt d n = true)
    (hg : Ev e g (.func (.func f) #[] cap.toArray)) (hx : Evs e xs vs) {fn : Func} (hf : P.funcs[f]? = some fn) (hb : fn.body.isNone = false) (hnm : (fn.name == "runtime.NumGoroutine") = false)
    (h : ∀ w, Holds S w0 H w → Calls P f (vs ++ cap).toArray w fun r w' => ∃ z, r = .returned (val z) ∧ good z ∧ Holds S w0 (Hf z) w') :
    OT ro P S w0 n ds H e ⟨some d, .call ⟨.value g, xs.toArray, ats⟩, ty, pos, aft, none⟩ (fun X => ∀ z, good z → X ((d, val z) :: e) (Hf z)) := by
  intro K Q hC a w ha hw
  refine ⟨fun f _ => trivial, ?_⟩
  rw [Oper.semAt_eq _ _ _ (fun _ h => by cases h)]
  have h2 : (xs.toArray.map a.eval) = vs.toArray := by rw [List.map_toArray, ha.evs hx]
  have hrun : (execOp a.eval ⟨some d, .call ⟨.value g, xs.toArray, ats⟩, ty, pos, aft, none⟩).run P w = .ok (.enter f (vs ++ cap).toArray) w := by
    have hb' : fn.body ≠ none := fun e => by simp [e] at hb
    have hnm' : fn.name ≠ "runtime.NumGoroutine" := fun e => by simp [e] at hnm
    simp [execOp, resolve, h2, ha.ev hg, Deferred.ofValue, invoke, callFunc, hf, hb', hnm']
  rw [hrun, Oper.uponIn_enter]
  refine ⟨fun h => by simp at h, callsIn_FW ((h w hw).mono ?_)⟩
  rintro r w' ⟨z, rfl, hz, hw'⟩
  exact hC z hz _ _ (ha.put hd _) hw'

/-- a call behind which nothing old has turned, its value known -/
theorem O_callE {f : FuncId} {g : Operand} {xs : List Operand} {vs cap : List Value} {ats : Array TypeId} (hd : Nat.blt d n = true)
    (hg : Ev e g (.func (.func f) #[] cap.toArray)) (hx : Evs e xs vs) {fn : Func} (hf : P.funcs[f]? = some fn) (hb : fn.body.isNone = false) (hnm : (fn.name == "runtime.NumGoroutine") = false)
    (h : ∀ w, Holds S w0 H w → Calls P f (vs ++ cap).toArray w fun r w' => r = .returned v ∧ Ext noS w w') :
    OT ro P S w0 n ds H e ⟨some d, .call ⟨.value g, xs.toArray, ats⟩, ty, pos, aft, none⟩ (fun X => X ((d, v) :: e) H) := by
  intro K Q hC
  refine O_call (α := Unit) (val := fun _ => v) (Hf := fun _ => H) (good := fun _ => True) hd hg hx hf hb hnm (fun w hw => (h w hw).mono ?_) K Q (fun _ _ => hC)
  rintro r w' ⟨rfl, he⟩
  exact ⟨(), rfl, trivial, hw.step he⟩

/-- Blocks that are new. -/
structure Fresh (w : World) (N : Hp) (w' : World) : Prop where
  ext : Ext noS w w'
  nodup : (N.map (·.1)).Nodup
  has : ∀ x ∈ N, w'.heap[x.1]? = some x.2.2 ∧ w.heap.size ≤ x.1

theorem Holds.fresh {w w' : World} {N : Hp} (hw : Holds S w0 H w) (hf : Fresh w N w') : Holds S w0 (N ++ H) w' := by
  have h' := hw.step hf.ext
  refine ⟨h'.ext, ?_, fun x hx => ?_⟩
  · rw [List.map_append, List.nodup_append]
    refine ⟨hf.nodup, hw.nodup, fun a ha b hb => ?_⟩
    obtain ⟨x, hx, rfl⟩ := List.mem_map.1 ha
    obtain ⟨y, hy, rfl⟩ := List.mem_map.1 hb
    have h1 := (hf.has x hx).2
    have h2 := hw.lt hy
    intro e
    omega
  rcases List.mem_append.1 hx with hx | hx
  · exact ⟨(hf.has x hx).1, fun _ => Or.inl (Nat.le_trans hw.ext.size (hf.has x hx).2)⟩
  exact h'.has x hx

/-- The new blocks of a call that began in w. -/
theorem Holds.made {w w' : World} {N : Hp} (hw : Holds noS w H w') (hs : HSub N H) (hn : N.all (·.2.1) = true) : Fresh w N w' := by
  have h' := hw.weaken hs
  refine ⟨h'.ext, h'.nodup, fun x hx => ⟨(h'.has x hx).1, ?_⟩⟩
  rcases (h'.has x hx).2 (List.all_eq_true.1 hn x hx) with h | h
  · exact h
  exact h.elim

/-- a call that hands back new blocks -/
theorem O_callN {α : Type} {f : FuncId} {g : Operand} {xs : List Operand} {vs cap : List Value} {ats : Array TypeId} {val : α → Value} {N : α → Hp} {good : α → Prop} (hd : Nat.blt d n = true)
    (hg : Ev e g (.func (.func f) #[] cap.toArray)) (hx : Evs e xs vs) {fn : Func} (hf : P.funcs[f]? = some fn) (hb : fn.body.isNone = false) (hnm : (fn.name == "runtime.NumGoroutine") = false)
    (h : ∀ w, Holds S w0 H w → Calls P f (vs ++ cap).toArray w fun r w' => ∃ z, r = .returned (val z) ∧ good z ∧ Fresh w (N z) w') :
    OT ro P S w0 n ds H e ⟨some d, .call ⟨.value g, xs.toArray, ats⟩, ty, pos, aft, none⟩ (fun X => ∀ z, good z → X ((d, val z) :: e) (N z ++ H)) := by
  refine O_call hd hg hx hf hb hnm (fun w hw => (h w hw).mono ?_)
  rintro r w' ⟨z, rfl, hz, hn⟩
  exact ⟨z, rfl, hz, hw.fresh hn⟩
end
section
variable {ro : Option Nat} {P : Program} {S : Nat → Prop} {w0 : World} {n : Nat} {ds : List Deferred} {H : Hp} {e e' : Env} {Q : Exit → Act → World → Prop} {x y c : Code} {ops : Array Oper} {l : List Oper}
variable {d t : Nat} {op : Op} {ty : TypeId} {pos : String} {aft : Array Edge} {u v : Value}
theorem Mh (h : SL ro P S w0 n ds ops H ((d, v) :: (t, v) :: e) l Q) (hd : Nat.blt d n = true := by exact rfl) : SL ro P S w0 n ds ops H ((t, v) :: e) (⟨some d, .move (.tmp t), ty, pos, aft, none⟩ :: l) Q := SL_cons (O_move hd (.tmp .hit)) h
theorem Mo (h : SL ro P S w0 n ds ops H ((d, v) :: e) l Q) (g : lk e t = some v := by exact rfl) (hd : Nat.blt d n = true := by exact rfl) : SL ro P S w0 n ds ops H e (⟨some d, .move (.tmp t), ty, pos, aft, none⟩ :: l) Q := SL_cons (O_move hd (.tmp (.o g))) h
theorem Mc (h : SL ro P S w0 n ds ops H ((d, v) :: e) l Q) (hd : Nat.blt d n = true := by exact rfl) : SL ro P S w0 n ds ops H e (⟨some d, .move (.const v), ty, pos, aft, none⟩ :: l) Q := SL_cons (O_move hd .const) h
theorem Ah (h : SL ro P S w0 n ds ops H ((d, v) :: (t, v) :: e) l Q) (hd : Nat.blt d n = true := by exact rfl) : SL ro P S w0 n ds ops H ((t, v) :: e) (⟨some d, .assign (.tmp t), ty, pos, aft, none⟩ :: l) Q := SL_cons (O_assign hd (.tmp .hit)) h
theorem Ao (h : SL ro P S w0 n ds ops H ((d, v) :: e) l Q) (g : lk e t = some v := by exact rfl) (hd : Nat.blt d n = true := by exact rfl) : SL ro P S w0 n ds ops H e (⟨some d, .assign (.tmp t), ty, pos, aft, none⟩ :: l) Q := SL_cons (O_assign hd (.tmp (.o g))) h
theorem Ac (h : SL ro P S w0 n ds ops H ((d, v) :: e) l Q) (hd : Nat.blt d n = true := by exact rfl) : SL ro P S w0 n ds ops H e (⟨some d, .assign (.const v), ty, pos, aft, none⟩ :: l) Q := SL_cons (O_assign hd .const) h
theorem Sc {dst : Option Tmp} {C : (Env → Hp → Prop) → Prop} (ho : OT ro P S w0 n ds H e ⟨dst, op, ty, pos, aft, none⟩ C) (h : C (fun e' H' => SL ro P S w0 n ds ops H' e' l Q)) : SL ro P S w0 n ds ops H e (⟨dst, op, ty, pos, aft, none⟩ :: l) Q := SL_cons ho h
theorem Omo (g : lk e t = some v := by exact rfl) (hd : Nat.blt d n = true := by exact rfl) : OT ro P S w0 n ds H e ⟨some d, .move (.tmp t), ty, pos, aft, none⟩ (fun X => X ((d, v) :: e) H) := O_move hd (.tmp (.o g))
theorem Oex {i : Nat} {vs : Array Value} (g : lk e t = some (.tuple vs) := by exact rfl) (hv : vs.toList[i]? = some v := by exact rfl) (hd : Nat.blt d n = true := by exact rfl) : OT ro P S w0 n ds H e ⟨some d, .extract (.tmp t) i, ty, pos, aft, none⟩ (fun X => X ((d, v) :: e) H) := O_extract hd (.tmp (.o g)) hv
theorem Ofa {T ft : TypeId} {fs : Array Field} {k s b off : Nat} {f : Field} (hT : P.underlying T = some (.struct fs)) (hs : Sz P ft (s + 1)) (g : lk e t = some (.pointer (some ⟨b, off, none⟩)) := by exact rfl) (hf : fs.toList[k]? = some f := by exact rfl) (hft : f.type = ft := by exact rfl) (hd : Nat.blt d n = true := by exact rfl) :
    OT ro P S w0 n ds H e ⟨some d, .fieldAddr T (.tmp t) k, ty, pos, aft, none⟩ (fun X => X ((d, .pointer (some ⟨b, off + f.offset, none⟩)) :: e) H) := O_fieldAddr hd (.tmp (.o g)) hT hf (by rw [hft]; exact hs)
theorem Ola {T : TypeId} {b off : Nat} {f : Bool} {o : Obj} (hT : OneC P T) (g : lk e t = some (.pointer (some ⟨b, off, none⟩)) := by exact rfl) (hm : HMem H b f o := by repeat (first | apply HMem.hit | apply HMem.skip)) (hc : cellOf o off = some v := by exact rfl) (hd : Nat.blt d n = true := by exact rfl) :
    OT ro P S w0 n ds H e ⟨some d, .load T (.tmp t), ty, pos, aft, none⟩ (fun X => X ((d, v) :: e) H) := O_load hd (.tmp (.o g)) hT hm hc
end
end
end Go.Proofs.YtoibhfpagkdleaaGreatDoor
