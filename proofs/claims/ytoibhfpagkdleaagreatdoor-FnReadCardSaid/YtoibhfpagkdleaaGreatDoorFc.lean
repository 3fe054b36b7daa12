/-
  THE CALCULUS, PART 4: slices, methods through an interface, calls that turn a block, cells of the world in which the call began.
  CONTRACTS: records of 32-bit words.
-/
import Derived.Test.YtoibhfpagkdleaaGreatDoorFb
namespace Go.Proofs.YtoibhfpagkdleaaGreatDoor
section
open Go
open Tryz
set_option maxRecDepth 100000

/-- an order of bytes, as the interface value that the program hands on -/
def boV (big : Bool) : Value := if big then .iface 182 (.agg #[]) else .iface 196 (.agg #[])

/-- a number of 32 bits at a place of a block -/
def W4 (o : Obj) (off : Nat) (big : Bool) (x : Nat) : Prop :=
  ∃ b0 b1 b2 b3 : Nat, b0 < 256 ∧ b1 < 256 ∧ b2 < 256 ∧ b3 < 256 ∧ cellOf o (off + 0) = some (.int .u8 (b0 : Nat)) ∧ cellOf o (off + 1) = some (.int .u8 (b1 : Nat)) ∧
    cellOf o (off + 2) = some (.int .u8 (b2 : Nat)) ∧ cellOf o (off + 3) = some (.int .u8 (b3 : Nat)) ∧
    x = if big then b3 + b2 * 2 ^ 8 + b1 * 2 ^ 16 + b0 * 2 ^ 24 else b0 + b1 * 2 ^ 8 + b2 * 2 ^ 16 + b3 * 2 ^ 24
def W2 (o : Obj) (off : Nat) (big : Bool) (x : Nat) : Prop :=
  ∃ b0 b1 : Nat, b0 < 256 ∧ b1 < 256 ∧ cellOf o (off + 0) = some (.int .u8 (b0 : Nat)) ∧ cellOf o (off + 1) = some (.int .u8 (b1 : Nat)) ∧
    x = if big then b1 + b0 * 2 ^ 8 else b0 + b1 * 2 ^ 8

theorem W4.lt {o : Obj} {off : Nat} {big : Bool} {x : Nat} (h : W4 o off big x) : x < 4294967296 := by
  obtain ⟨b0, b1, b2, b3, l0, l1, l2, l3, _, _, _, _, rfl⟩ := h
  cases big <;> simp <;> omega

theorem nilAhead_be4 (w : World) : (nilAhead (Tryz.prog.types.size + Made.depth) 182 (.agg #[]) "Uint32").run Tryz.prog w = .ok (some false) w := by kernel_rfl
theorem nilAhead_le4 (w : World) : (nilAhead (Tryz.prog.types.size + Made.depth) 196 (.agg #[]) "Uint32").run Tryz.prog w = .ok (some false) w := by kernel_rfl
theorem nilAhead_be2 (w : World) : (nilAhead (Tryz.prog.types.size + Made.depth) 182 (.agg #[]) "Uint16").run Tryz.prog w = .ok (some false) w := by kernel_rfl
theorem nilAhead_le2 (w : World) : (nilAhead (Tryz.prog.types.size + Made.depth) 196 (.agg #[]) "Uint16").run Tryz.prog w = .ok (some false) w := by kernel_rfl
theorem method_be4 (w : World) : (method (Tryz.prog.types.size + Made.depth) 182 (.agg #[]) "Uint32").run Tryz.prog w = .ok (187, .agg #[]) w := by kernel_rfl
theorem method_le4 (w : World) : (method (Tryz.prog.types.size + Made.depth) 196 (.agg #[]) "Uint32").run Tryz.prog w = .ok (195, .agg #[]) w := by kernel_rfl
theorem method_be2 (w : World) : (method (Tryz.prog.types.size + Made.depth) 182 (.agg #[]) "Uint16").run Tryz.prog w = .ok (186, .agg #[]) w := by kernel_rfl
theorem method_le2 (w : World) : (method (Tryz.prog.types.size + Made.depth) 196 (.agg #[]) "Uint16").run Tryz.prog w = .ok (194, .agg #[]) w := by kernel_rfl

section
variable {ro : Option Nat} {P : Program} {S : Nat → Prop} {w0 : World} {n : Nat} {ds : List Deferred} {H H' : Hp} {e e' : Env} {Q : Exit → Act → World → Prop}
variable {d : Nat} {ty : TypeId} {pos : String} {aft : Array Edge} {x y : Operand} {v u : Value}

theorem O_nilCheckM {nm : String} {T : TypeId} {cap : Array Value} (hd : Nat.blt d n = true) (hx : Ev e x (.func (.method nm) #[.iface T v] cap))
    (hn : ∀ w, (nilAhead (P.types.size + Made.depth) T v nm).run P w = .ok (some false) w) :
    OT ro P S w0 n ds H e ⟨some d, .nilCheck x, ty, pos, aft, none⟩ (fun X => X ((d, .func (.method nm) #[.iface T v] cap) :: e) H) :=
  OT_pure hd (fun _ h => by cases h) fun a w ha _ => by
    simp [execOp, ha.ev hx, hn w]

theorem O_invokeE {f : FuncId} {nm : String} {T : TypeId} {r rv res : Value} {recv : Operand} {xs : List Operand} {vs : List Value} {ats : Array TypeId} (hd : Nat.blt d n = true)
    (hr : Ev e recv (.iface T r)) (hx : Evs e xs vs) (hm : ∀ w, (method (P.types.size + Made.depth) T r nm).run P w = .ok (f, rv) w)
    {fn : Func} (hf : P.funcs[f]? = some fn) (hb : fn.body.isNone = false) (hnm : (fn.name == "runtime.NumGoroutine") = false)
    (h : ∀ w, Holds S w0 H w → Calls P f (rv :: vs).toArray w fun q w' => q = .returned res ∧ Ext noS w w') :
    OT ro P S w0 n ds H e ⟨some d, .call ⟨.invoke recv nm, xs.toArray, ats⟩, ty, pos, aft, none⟩ (fun X => X ((d, res) :: e) H) := by
  intro K Q hC a w ha hw
  refine ⟨fun f _ => trivial, ?_⟩
  rw [Oper.semAt_eq _ _ _ (fun _ h => by cases h)]
  have h2 : (xs.toArray.map a.eval) = vs.toArray := by rw [List.map_toArray, ha.evs hx]
  have hb' : fn.body ≠ none := fun e => by simp [e] at hb
  have hnm' : fn.name ≠ "runtime.NumGoroutine" := fun e => by simp [e] at hnm
  have h3 : (#[Value.iface T r] ++ vs.toArray).extract 1 (#[Value.iface T r] ++ vs.toArray).size = vs.toArray := by
    apply Array.ext'
    simp
  have h4 : (#[Value.iface T r] ++ vs.toArray)[0]? = some (.iface T r) := by simp
  have h5 : #[rv] ++ vs.toArray = (rv :: vs).toArray := by simp
  have hrun : (execOp a.eval ⟨some d, .call ⟨.invoke recv nm, xs.toArray, ats⟩, ty, pos, aft, none⟩).run P w = .ok (.enter f (rv :: vs).toArray) w := by
    simp only [execOp, resolve, h2, ha.ev hr, pure, Sem.run_bind, Sem.run_pure', Result.andThen_ok, invoke, h4, h3, callMethod, Sem.run_bind, run_program, hm w, callFunc, hf, h5]
    simp [hb', hnm']
  rw [hrun, Oper.uponIn_enter]
  refine ⟨fun h => by simp at h, callsIn_FW ((h w hw).mono ?_)⟩
  rintro q w' ⟨rfl, he⟩
  exact hC _ _ (ha.put hd _) (hw.step he)

/-- slices of slices -/
theorem run_slice {w : World} {T E : TypeId} {b off len cap l h s : Nat} {lo hi : Option Value} (hT : P.underlying T = some (.slice E)) (hs : Sz P E s) (hlc : len ≤ cap)
    (hlo : (lo = none ∧ l = 0) ∨ (∃ k i, lo = some (.int k i) ∧ i = (l : Int))) (hhi : (hi = none ∧ h = len) ∨ (∃ k i, hi = some (.int k i) ∧ i = (h : Int))) (h1 : l ≤ h) (h2 : h ≤ cap) (h3 : l < cap) :
    (Instr.sliceAt T (.slice (some ⟨b, off, none⟩) len cap) lo hi none).run P w = .ok (.slice (some ⟨b, off + l * s, none⟩) (h - l) (cap - l)) w := by
  have hne : ¬ cap = l := by omega
  rcases hlo with ⟨rfl, rfl⟩ | ⟨k, i, rfl, rfl⟩ <;> rcases hhi with ⟨rfl, rfl⟩ | ⟨k', i', rfl, rfl⟩
  · simp [Instr.sliceAt, Instr.slice, run_underlying hT, Instr.sliceBounds, run_size hs, hne, add_none]
  · simp [Instr.sliceAt, Instr.slice, run_underlying hT, Instr.sliceBounds, Instr.sliceBound, asIntOf, run_size hs, hne, add_none, h2]
  · simp [Instr.sliceAt, Instr.slice, run_underlying hT, Instr.sliceBounds, Instr.sliceBound, asIntOf, run_size hs, hne, add_none, h1]
  simp [Instr.sliceAt, Instr.slice, run_underlying hT, Instr.sliceBounds, Instr.sliceBound, asIntOf, run_size hs, hne, add_none, h1, h2]

theorem O_sliceLo {T E : TypeId} {b off len cap s : Nat} {k : IntKind} {i : Int} (l : Nat) (hd : Nat.blt d n = true) (hx : Ev e x (.slice (some ⟨b, off, none⟩) len cap)) (hy : Ev e y (.int k i)) (hi : i = (l : Int))
    (hT : P.underlying T = some (.slice E)) (hs : Sz P E s) (hlc : len ≤ cap) (h1 : l ≤ len) (h3 : l < cap) :
    OT ro P S w0 n ds H e ⟨some d, .slice T x (some y) none none, ty, pos, aft, none⟩ (fun X => X ((d, .slice (some ⟨b, off + l * s, none⟩) (len - l) (cap - l)) :: e) H) :=
  OT_pure hd (fun _ h => by cases h) fun a w ha _ => by
    simp only [execOp, ha.ev hx, Option.map_some, Option.map_none, ha.ev hy]
    rw [Sem.run_bind, run_slice (P := P) (w := w) (l := l) (h := len) hT hs hlc (Or.inr ⟨k, i, rfl, hi⟩) (Or.inl ⟨rfl, rfl⟩) h1 hlc h3]
    rfl
theorem O_sliceHi {T E : TypeId} {b off len cap s : Nat} {k : IntKind} {i : Int} (h : Nat) (hd : Nat.blt d n = true) (hx : Ev e x (.slice (some ⟨b, off, none⟩) len cap)) (hy : Ev e y (.int k i)) (hi : i = (h : Int))
    (hT : P.underlying T = some (.slice E)) (hs : Sz P E s) (hlc : len ≤ cap) (h2 : h ≤ cap) (h3 : 0 < cap) :
    OT ro P S w0 n ds H e ⟨some d, .slice T x none (some y) none, ty, pos, aft, none⟩ (fun X => X ((d, .slice (some ⟨b, off + 0 * s, none⟩) (h - 0) (cap - 0)) :: e) H) :=
  OT_pure hd (fun _ h => by cases h) fun a w ha _ => by
    simp only [execOp, ha.ev hx, Option.map_some, Option.map_none, ha.ev hy]
    rw [Sem.run_bind, run_slice (P := P) (w := w) (l := 0) (h := h) hT hs hlc (Or.inl ⟨rfl, rfl⟩) (Or.inr ⟨k, i, rfl, hi⟩) (Nat.zero_le _) h2 h3]
    rfl
theorem O_sliceLoHi {T E : TypeId} {b off len cap s : Nat} {k k' : IntKind} {i i' : Int} {z : Operand} (l h : Nat) (hd : Nat.blt d n = true) (hx : Ev e x (.slice (some ⟨b, off, none⟩) len cap)) (hy : Ev e y (.int k i)) (hz : Ev e z (.int k' i')) (hi : i = (l : Int)) (hi' : i' = (h : Int))
    (hT : P.underlying T = some (.slice E)) (hs : Sz P E s) (hlc : len ≤ cap) (h1 : l ≤ h) (h2 : h ≤ cap) (h3 : l < cap) :
    OT ro P S w0 n ds H e ⟨some d, .slice T x (some y) (some z) none, ty, pos, aft, none⟩ (fun X => X ((d, .slice (some ⟨b, off + l * s, none⟩) (h - l) (cap - l)) :: e) H) :=
  OT_pure hd (fun _ h => by cases h) fun a w ha _ => by
    simp only [execOp, ha.ev hx, Option.map_some, Option.map_none, ha.ev hy, ha.ev hz]
    rw [Sem.run_bind, run_slice (P := P) (w := w) (l := l) (h := h) hT hs hlc (Or.inr ⟨k, i, rfl, hi⟩) (Or.inr ⟨k', i', rfl, hi'⟩) h1 h2 h3]
    rfl

/-- a call that turns one block of the list -/
theorem O_callM {f : FuncId} {g : Operand} {xs : List Operand} {vs cap : List Value} {ats : Array TypeId} {b : Nat} {o o' : Obj} (hd : Nat.blt d n = true)
    (hg : Ev e g (.func (.func f) #[] cap.toArray)) (hx : Evs e xs vs) {fn : Func} (hf : P.funcs[f]? = some fn) (hb : fn.body.isNone = false) (hnm : (fn.name == "runtime.NumGoroutine") = false)
    (hs : HSet H b o o' H')
    (h : ∀ w, Holds S w0 H w → Calls P f (vs ++ cap).toArray w fun r w' => r = .returned v ∧ Ext (· = b) w w' ∧ w'.heap[b]? = some o') :
    OT ro P S w0 n ds H e ⟨some d, .call ⟨.value g, xs.toArray, ats⟩, ty, pos, aft, none⟩ (fun X => X ((d, v) :: e) H') := by
  intro K Q hC
  refine O_call (α := Unit) (val := fun _ => v) (Hf := fun _ => H') (good := fun _ => True) hd hg hx hf hb hnm (fun w hw => (h w hw).mono ?_) K Q (fun _ _ => hC)
  rintro r w' ⟨rfl, he, ho⟩
  exact ⟨(), rfl, trivial, hw.turn hs he ho⟩

theorem Holds.start1w (w : World) {b : Nat} {o : Obj} (hb : w.heap[b]? = some o) : Holds (· = b) w [(b, true, o)] w :=
  ⟨Ext.refl _ _, by simp, fun x hx => by simp at hx; subst hx; exact ⟨hb, fun _ => Or.inr rfl⟩⟩

/-- cells of the world in which the call began -/
theorem Holds.cell0 {w : World} (hw : Holds S w0 H w) {p : Addr} (hS : ¬ S p.block) (hc : w0.cell? p = some v) : w.cell? p = some v := by
  have hlt := World.block_lt_of_cell? _ _ hc
  unfold World.cell? at hc ⊢
  rw [hw.ext.block p.block hlt hS]
  exact hc
theorem O_load0 {T : TypeId} {p : Addr} (hd : Nat.blt d n = true) (hx : Ev e x (.pointer (some p))) (hT : OneC P T) (hS : ¬ S p.block) (hc : w0.cell? p = some v) :
    OT ro P S w0 n ds H e ⟨some d, .load T x, ty, pos, aft, none⟩ (fun X => X ((d, v) :: e) H) :=
  OT_pure hd (fun _ h => by cases h) fun a w ha hw => by
    simp [execOp, ha.ev hx, Instr.loadAt, Instr.sureAddr, loadVar, run_isAgg_no hT, hw.cell0 hS hc]

theorem run_loadCells0 {w : World} {b off : Nat} : ∀ (vs : List Value) (j : Nat) (acc : Array Value), (∀ i u, vs[i]? = some u → w.cell? ⟨b, off + (j + i), none⟩ = some u) →
    (loadCellsFrom ⟨b, off, none⟩ j vs.length acc).run P w = .ok (acc ++ vs.toArray) w := by
  intro vs
  induction vs with
  | nil => intro j acc _; simp [loadCellsFrom]
  | cons v vs ih =>
    intro j acc h
    have h0 := h 0 v rfl
    have := ih (j + 1) (acc.push v) (fun i u hu => by have := h (i + 1) u (by simpa using hu); rw [show j + 1 + i = j + (i + 1) by omega]; exact this)
    simp only [List.length_cons, loadCellsFrom, Sem.run_bind, add_none, run_load]
    rw [show off + j = off + (j + 0) by omega, h0]
    simp [this]
theorem O_loadA0 {T : TypeId} {fs : Array Field} {k b off : Nat} {vs : List Value} (hd : Nat.blt d n = true) (hx : Ev e x (.pointer (some ⟨b, off, none⟩))) (hT : P.underlying T = some (.struct fs)) (hk : Sz P T k) (hvk : vs.length = k)
    (hS : ¬ S b) (hc : ∀ i u, vs[i]? = some u → w0.cell? ⟨b, off + i, none⟩ = some u) :
    OT ro P S w0 n ds H e ⟨some d, .load T x, ty, pos, aft, none⟩ (fun X => X ((d, .agg vs.toArray) :: e) H) :=
  OT_pure hd (fun _ h => by cases h) fun a w ha hw => by
    subst hvk
    have := run_loadCells0 (P := P) (w := w) (b := b) (off := off) vs 0 #[] (fun i u hu => by rw [Nat.zero_add]; exact hw.cell0 hS (hc i u hu))
    simp [execOp, ha.ev hx, Instr.loadAt, Instr.sureAddr, loadVar, run_isAgg_struct hT, run_size hk, loadCells, this]
end

section
variable {ro : Option Nat} {S : Nat → Prop} {w0 : World} {n : Nat} {ds : List Deferred} {H H' : Hp} {e e' : Env} {Q : Exit → Act → World → Prop}
variable {d : Nat} {ty : TypeId} {pos : String} {aft : Array Edge} {x y : Operand} {v u : Value}
theorem O_nilCheckBo {big : Bool} (hd : Nat.blt d n = true) (hx : Ev e x (.func (.method "Uint32") #[boV big] #[])) :
    OT ro Tryz.prog S w0 n ds H e ⟨some d, .nilCheck x, ty, pos, aft, none⟩ (fun X => X ((d, .func (.method "Uint32") #[boV big] #[]) :: e) H) := by
  cases big
  · exact O_nilCheckM hd hx nilAhead_le4
  exact O_nilCheckM hd hx nilAhead_be4
theorem O_nilCheckBo2 {big : Bool} (hd : Nat.blt d n = true) (hx : Ev e x (.func (.method "Uint16") #[boV big] #[])) :
    OT ro Tryz.prog S w0 n ds H e ⟨some d, .nilCheck x, ty, pos, aft, none⟩ (fun X => X ((d, .func (.method "Uint16") #[boV big] #[]) :: e) H) := by
  cases big
  · exact O_nilCheckM hd hx nilAhead_le2
  exact O_nilCheckM hd hx nilAhead_be2
theorem O_u32 {big f : Bool} {recv : Operand} {b off len cap q : Nat} {o : Obj} {ats : Array TypeId} (hd : Nat.blt d n = true) (hr : Ev e recv (boV big)) (hx : Ev e x (.slice (some ⟨b, off, none⟩) len cap))
    (hm : HMem H b f o) (hl : 4 ≤ len) (hw4 : W4 o off big q) :
    OT ro Tryz.prog S w0 n ds H e ⟨some d, .call ⟨.invoke recv "Uint32", #[x], ats⟩, ty, pos, aft, none⟩ (fun X => X ((d, .int .u32 q) :: e) H) := by
  obtain ⟨b0, b1, b2, b3, l0, l1, l2, l3, h0, h1, h2, h3, rfl⟩ := hw4
  cases big
  · exact O_invokeE (xs := [x]) hd hr (.cons hx .nil) method_le4 func195 rfl rfl fun w hw => f195_ok _ b off len cap o b0 b1 b2 b3 hl l0 l1 l2 l3 h0 h1 h2 h3 w (hw.at_ hm)
  exact O_invokeE (xs := [x]) hd hr (.cons hx .nil) method_be4 func187 rfl rfl fun w hw => f187_ok _ b off len cap o b0 b1 b2 b3 hl l0 l1 l2 l3 h0 h1 h2 h3 w (hw.at_ hm)
theorem O_u16 {big f : Bool} {recv : Operand} {b off len cap q : Nat} {o : Obj} {ats : Array TypeId} (hd : Nat.blt d n = true) (hr : Ev e recv (boV big)) (hx : Ev e x (.slice (some ⟨b, off, none⟩) len cap))
    (hm : HMem H b f o) (hl : 2 ≤ len) (hw2 : W2 o off big q) :
    OT ro Tryz.prog S w0 n ds H e ⟨some d, .call ⟨.invoke recv "Uint16", #[x], ats⟩, ty, pos, aft, none⟩ (fun X => X ((d, .int .u16 q) :: e) H) := by
  obtain ⟨b0, b1, l0, l1, h0, h1, rfl⟩ := hw2
  cases big
  · exact O_invokeE (xs := [x]) hd hr (.cons hx .nil) method_le2 func194 rfl rfl fun w hw => f194_ok _ b off len cap o b0 b1 hl l0 l1 h0 h1 w (hw.at_ hm)
  exact O_invokeE (xs := [x]) hd hr (.cons hx .nil) method_be2 func186 rfl rfl fun w hw => f186_ok _ b off len cap o b0 b1 hl l0 l1 h0 h1 w (hw.at_ hm)
end
end

section
open Go
open Tryz
set_option maxRecDepth 100000

theorem f65_ok (big : Bool) (bt b off len cap : Nat) (o : Obj) (T : TypeId) (u0 u1 u2 : Value) (x0 x1 x2 : Nat) (hne : bt ≠ b) (hl : 12 ≤ len) (hc : len ≤ cap) (hw0 : W4 o (off + 0) big x0) (hw1 : W4 o (off + 4) big x1) (hw2 : W4 o (off + 8) big x2) (w : World) (hb : w.heap[b]? = some o) (ht : w.heap[bt]? = some (.cells [u0, u1, u2].toArray T (0, 0))) :
 Calls Tryz.prog 65 #[.pointer (some ⟨bt, 0, none⟩), .slice (some ⟨b, off, none⟩) len cap, boV big] w (fun r w' => r = .returned (.tuple #[.int .i64 12, .nilIface]) ∧ Ext (· = bt) w w' ∧ w'.heap[bt]? = some (.cells [.int .u32 (x0 : Nat), .int .u32 (x1 : Nat), .int .u32 (x2 : Nat)].toArray T (0, 0))) := by
 refine sw_calls (S := (· = bt)) func65 rfl ntmps65 (sees3 _ _ _ _ rfl) ((Holds.start1w _ ht).old hb Q39) ?_
 refine SR fun _ k1 => ?_
 refine Ac ?_
 refine Ac ?_
 refine SN k1 ?_
 refine Sq fun _ k2 => ?_
 refine SR fun _ k3 => ?_
 refine Mo ?_
 refine Sc (O_lenSlice rfl (.tmp .hit) underlying26 rfl) ?_
 refine Sc (O_binOp rfl (.tmp .hit) .const (fun _ => by first | exact b_lss _ _ _ false (decide_eq_false om) | exact b_gtr _ _ _ false (decide_eq_false om))) ?_
 refine SN k3 ?_
 refine Fh ?_
 refine SS k2 ?_
 refine Ek [7, 6, 0, 1, 2] ?_
 refine Sq fun _ k4 => ?_
 refine Zw (Zm rfl (Zm rfl (Zm rfl (Z1 14 rfl (fun e he => O_sliceLo 0 rfl (Eh he) .const rfl underlying26 sz5 hc om om) (Z1 13 rfl (fun e he => O_makeFunc (fs := [.tmp 13]) (cs := []) rfl (.cons (Eh he) .nil) .nil) (Z1 16 rfl (fun e he => O_nilCheckBo rfl (Eh he)) (Zm rfl (Z2 15 18 rfl rfl (fun e he => O_u32 rfl (Eo he) (Eh he) .a om hw0) .done)))))))) ?_
 refine Sc (O_nilCheck rfl (.tmp (.o rfl))) ?_
 refine Sc (Ofa underlying209 sz73) ?_
 refine Sc (O_store (.tmp .hit) (.tmp (.o rfl)) rfl sz73 .a .a) ?_
 refine SN k4 ?_
 refine Ek [7, 6, 0, 1, 2] ?_
 refine Sq fun _ k5 => ?_
 refine Zw (Zm rfl (Zm rfl (Zm rfl (Z1 24 rfl (fun e he => O_sliceLo 4 rfl (Eh he) .const rfl underlying26 sz5 hc om om) (Z1 23 rfl (fun e he => O_makeFunc (fs := [.tmp 23]) (cs := []) rfl (.cons (Eh he) .nil) .nil) (Z1 26 rfl (fun e he => O_nilCheckBo rfl (Eh he)) (Zm rfl (Z2 25 28 rfl rfl (fun e he => O_u32 rfl (Eo he) (Eh he) .a om hw1) .done)))))))) ?_
 refine Sc (O_nilCheck rfl (.tmp (.o rfl))) ?_
 refine Sc (Ofa underlying209 sz73) ?_
 refine Sc (O_store (.tmp .hit) (.tmp (.o rfl)) rfl sz73 .a .a) ?_
 refine SN k5 ?_
 refine Ek [7, 6, 0, 1, 2] ?_
 refine Sq fun _ k6 => ?_
 refine Zw (Zm rfl (Zm rfl (Zm rfl (Z1 34 rfl (fun e he => O_sliceLo 8 rfl (Eh he) .const rfl underlying26 sz5 hc om om) (Z1 33 rfl (fun e he => O_makeFunc (fs := [.tmp 33]) (cs := []) rfl (.cons (Eh he) .nil) .nil) (Z1 36 rfl (fun e he => O_nilCheckBo rfl (Eh he)) (Zm rfl (Z2 35 38 rfl rfl (fun e he => O_u32 rfl (Eo he) (Eh he) .a om hw2) .done)))))))) ?_
 refine Sc (O_nilCheck rfl (.tmp (.o rfl))) ?_
 refine Sc (Ofa underlying209 sz73) ?_
 refine Sc (O_store (.tmp .hit) (.tmp (.o rfl)) rfl sz73 .a .a) ?_
 refine SN k6 ?_
 refine Ek [7, 6] ?_
 refine SR fun _ k7 => ?_
 refine Ac ?_
 refine Ac ?_
 refine SN k7 ?_
 refine Rt ?_
 exact SK_ret2 rfl (.o rfl) .hit (fun w hw => ⟨rfl, hw.ext, hw.at_ (.skip .hit)⟩)

theorem f76_ok (big : Bool) (bt b off len cap : Nat) (o : Obj) (T : TypeId) (u0 u1 u2 : Value) (x0 x1 x2 : Nat) (hne : bt ≠ b) (hl : 12 ≤ len) (hc : len ≤ cap) (hw0 : W4 o (off + 0) big x0) (hw1 : W4 o (off + 4) big x1) (hw2 : W4 o (off + 8) big x2) (w : World) (hb : w.heap[b]? = some o) (ht : w.heap[bt]? = some (.cells [u0, u1, u2].toArray T (0, 0))) :
 Calls Tryz.prog 76 #[.pointer (some ⟨bt, 0, none⟩), .slice (some ⟨b, off, none⟩) len cap, boV big] w (fun r w' => r = .returned (.tuple #[.int .i64 12, .nilIface]) ∧ Ext (· = bt) w w' ∧ w'.heap[bt]? = some (.cells [.int .u32 (x0 : Nat), .int .u32 (x1 : Nat), .int .u32 (x2 : Nat)].toArray T (0, 0))) := by
 refine sw_calls (S := (· = bt)) func76 rfl ntmps76 (sees3 _ _ _ _ rfl) ((Holds.start1w _ ht).old hb Q39) ?_
 refine SR fun _ k1 => ?_
 refine Ac ?_
 refine Ac ?_
 refine SN k1 ?_
 refine Sq fun _ k2 => ?_
 refine SR fun _ k3 => ?_
 refine Mo ?_
 refine Sc (O_lenSlice rfl (.tmp .hit) underlying26 rfl) ?_
 refine Sc (O_binOp rfl .const (.tmp .hit) (fun _ => by first | exact b_lss _ _ _ false (decide_eq_false om) | exact b_gtr _ _ _ false (decide_eq_false om))) ?_
 refine SN k3 ?_
 refine Fh ?_
 refine SS k2 ?_
 refine Ek [7, 6, 0, 1, 2] ?_
 refine Sq fun _ k4 => ?_
 refine Zw (Zm rfl (Zm rfl (Zm rfl (Z1 14 rfl (fun e he => O_sliceLo 0 rfl (Eh he) .const rfl underlying26 sz5 hc om om) (Z1 13 rfl (fun e he => O_makeFunc (fs := [.tmp 13]) (cs := []) rfl (.cons (Eh he) .nil) .nil) (Z1 16 rfl (fun e he => O_nilCheckBo rfl (Eh he)) (Zm rfl (Z2 15 18 rfl rfl (fun e he => O_u32 rfl (Eo he) (Eh he) .a om hw0) .done)))))))) ?_
 refine Sc (O_nilCheck rfl (.tmp (.o rfl))) ?_
 refine Sc (Ofa underlying253 sz73) ?_
 refine Sc (O_store (.tmp .hit) (.tmp (.o rfl)) rfl sz73 .a .a) ?_
 refine SN k4 ?_
 refine Ek [7, 6, 0, 1, 2] ?_
 refine Sq fun _ k5 => ?_
 refine Zw (Zm rfl (Zm rfl (Zm rfl (Z1 24 rfl (fun e he => O_sliceLo 4 rfl (Eh he) .const rfl underlying26 sz5 hc om om) (Z1 23 rfl (fun e he => O_makeFunc (fs := [.tmp 23]) (cs := []) rfl (.cons (Eh he) .nil) .nil) (Z1 26 rfl (fun e he => O_nilCheckBo rfl (Eh he)) (Zm rfl (Z2 25 28 rfl rfl (fun e he => O_u32 rfl (Eo he) (Eh he) .a om hw1) .done)))))))) ?_
 refine Sc (O_nilCheck rfl (.tmp (.o rfl))) ?_
 refine Sc (Ofa underlying253 sz83) ?_
 refine Sc (O_store (.tmp .hit) (.tmp (.o rfl)) rfl sz83 .a .a) ?_
 refine SN k5 ?_
 refine Ek [7, 6, 0, 1, 2] ?_
 refine Sq fun _ k6 => ?_
 refine Zw (Zm rfl (Zm rfl (Zm rfl (Z1 34 rfl (fun e he => O_sliceLo 8 rfl (Eh he) .const rfl underlying26 sz5 hc om om) (Z1 33 rfl (fun e he => O_makeFunc (fs := [.tmp 33]) (cs := []) rfl (.cons (Eh he) .nil) .nil) (Z1 36 rfl (fun e he => O_nilCheckBo rfl (Eh he)) (Zm rfl (Z2 35 38 rfl rfl (fun e he => O_u32 rfl (Eo he) (Eh he) .a om hw2) .done)))))))) ?_
 refine Sc (O_nilCheck rfl (.tmp (.o rfl))) ?_
 refine Sc (Ofa underlying253 sz73) ?_
 refine Sc (O_store (.tmp .hit) (.tmp (.o rfl)) rfl sz73 .a .a) ?_
 refine SN k6 ?_
 refine Ek [7, 6] ?_
 refine SR fun _ k7 => ?_
 refine Ac ?_
 refine Ac ?_
 refine SN k7 ?_
 refine Rt ?_
 exact SK_ret2 rfl (.o rfl) .hit (fun w hw => ⟨rfl, hw.ext, hw.at_ (.skip .hit)⟩)

theorem f80_ok (big : Bool) (bt b off len cap : Nat) (o : Obj) (T : TypeId) (u0 : Value) (x0 : Nat) (hne : bt ≠ b) (hl : 4 ≤ len) (hc : len ≤ cap) (hw0 : W4 o (off + 0) big x0) (w : World) (hb : w.heap[b]? = some o) (ht : w.heap[bt]? = some (.cells [u0].toArray T (0, 0))) :
 Calls Tryz.prog 80 #[.pointer (some ⟨bt, 0, none⟩), .slice (some ⟨b, off, none⟩) len cap, boV big] w (fun r w' => r = .returned (.tuple #[.int .i64 4, .nilIface]) ∧ Ext (· = bt) w w' ∧ w'.heap[bt]? = some (.cells [.int .u32 (x0 : Nat)].toArray T (0, 0))) := by
 refine sw_calls (S := (· = bt)) func80 rfl ntmps80 (sees3 _ _ _ _ rfl) ((Holds.start1w _ ht).old hb Q39) ?_
 refine SR fun _ k1 => ?_
 refine Ac ?_
 refine Ac ?_
 refine SN k1 ?_
 refine Sq fun _ k2 => ?_
 refine SR fun _ k3 => ?_
 refine Mo ?_
 refine Sc (O_lenSlice rfl (.tmp .hit) underlying26 rfl) ?_
 refine Sc (O_binOp rfl (.tmp .hit) .const (fun _ => by first | exact b_lss _ _ _ false (decide_eq_false om) | exact b_gtr _ _ _ false (decide_eq_false om))) ?_
 refine SN k3 ?_
 refine Fh ?_
 refine SS k2 ?_
 refine Ek [7, 6, 0, 1, 2] ?_
 refine Sq fun _ k4 => ?_
 refine Zw (Zm rfl (Zm rfl (Zm rfl (Z1 14 rfl (fun e he => O_sliceLo 0 rfl (Eh he) .const rfl underlying26 sz5 hc om om) (Z1 13 rfl (fun e he => O_makeFunc (fs := [.tmp 13]) (cs := []) rfl (.cons (Eh he) .nil) .nil) (Z1 16 rfl (fun e he => O_nilCheckBo rfl (Eh he)) (Zm rfl (Z2 15 18 rfl rfl (fun e he => O_u32 rfl (Eo he) (Eh he) .a om hw0) .done)))))))) ?_
 refine Sc (O_nilCheck rfl (.tmp (.o rfl))) ?_
 refine Sc (Ofa underlying264 sz73) ?_
 refine Sc (O_store (.tmp .hit) (.tmp (.o rfl)) rfl sz73 .a .a) ?_
 refine SN k4 ?_
 refine Ek [7, 6] ?_
 refine SR fun _ k5 => ?_
 refine Ac ?_
 refine Ac ?_
 refine SN k5 ?_
 refine Rt ?_
 exact SK_ret2 rfl (.o rfl) .hit (fun w hw => ⟨rfl, hw.ext, hw.at_ (.skip .hit)⟩)

theorem f85_ok (big : Bool) (bt b off len cap : Nat) (o : Obj) (T : TypeId) (u0 u1 u2 : Value) (x0 x1 x2 : Nat) (hne : bt ≠ b) (hl : 12 ≤ len) (hc : len ≤ cap) (hw0 : W4 o (off + 0) big x0) (hw1 : W4 o (off + 4) big x1) (hw2 : W4 o (off + 8) big x2) (w : World) (hb : w.heap[b]? = some o) (ht : w.heap[bt]? = some (.cells [u0, u1, u2].toArray T (0, 0))) :
 Calls Tryz.prog 85 #[.pointer (some ⟨bt, 0, none⟩), .slice (some ⟨b, off, none⟩) len cap, boV big] w (fun r w' => r = .returned (.tuple #[.int .i64 12, .nilIface]) ∧ Ext (· = bt) w w' ∧ w'.heap[bt]? = some (.cells [.int .u32 (x0 : Nat), .int .u32 (x1 : Nat), .int .u32 (x2 : Nat)].toArray T (0, 0))) := by
 refine sw_calls (S := (· = bt)) func85 rfl ntmps85 (sees3 _ _ _ _ rfl) ((Holds.start1w _ ht).old hb Q39) ?_
 refine SR fun _ k1 => ?_
 refine Ac ?_
 refine Ac ?_
 refine SN k1 ?_
 refine Sq fun _ k2 => ?_
 refine SR fun _ k3 => ?_
 refine Mo ?_
 refine Sc (O_lenSlice rfl (.tmp .hit) underlying26 rfl) ?_
 refine Sc (O_binOp rfl (.tmp .hit) .const (fun _ => by first | exact b_lss _ _ _ false (decide_eq_false om) | exact b_gtr _ _ _ false (decide_eq_false om))) ?_
 refine SN k3 ?_
 refine Fh ?_
 refine SS k2 ?_
 refine Ek [7, 6, 0, 1, 2] ?_
 refine Sq fun _ k4 => ?_
 refine Zw (Zm rfl (Zm rfl (Zm rfl (Z1 14 rfl (fun e he => O_sliceLo 0 rfl (Eh he) .const rfl underlying26 sz5 hc om om) (Z1 13 rfl (fun e he => O_makeFunc (fs := [.tmp 13]) (cs := []) rfl (.cons (Eh he) .nil) .nil) (Z1 16 rfl (fun e he => O_nilCheckBo rfl (Eh he)) (Zm rfl (Z2 15 18 rfl rfl (fun e he => O_u32 rfl (Eo he) (Eh he) .a om hw0) .done)))))))) ?_
 refine Sc (O_nilCheck rfl (.tmp (.o rfl))) ?_
 refine Sc (Ofa underlying266 sz83) ?_
 refine Sc (O_store (.tmp .hit) (.tmp (.o rfl)) rfl sz83 .a .a) ?_
 refine SN k4 ?_
 refine Ek [7, 6, 0, 1, 2] ?_
 refine Sq fun _ k5 => ?_
 refine Zw (Zm rfl (Zm rfl (Zm rfl (Z1 24 rfl (fun e he => O_sliceLo 4 rfl (Eh he) .const rfl underlying26 sz5 hc om om) (Z1 23 rfl (fun e he => O_makeFunc (fs := [.tmp 23]) (cs := []) rfl (.cons (Eh he) .nil) .nil) (Z1 26 rfl (fun e he => O_nilCheckBo rfl (Eh he)) (Zm rfl (Z2 25 28 rfl rfl (fun e he => O_u32 rfl (Eo he) (Eh he) .a om hw1) .done)))))))) ?_
 refine Sc (O_nilCheck rfl (.tmp (.o rfl))) ?_
 refine Sc (Ofa underlying266 sz83) ?_
 refine Sc (O_store (.tmp .hit) (.tmp (.o rfl)) rfl sz83 .a .a) ?_
 refine SN k5 ?_
 refine Ek [7, 6, 0, 1, 2] ?_
 refine Sq fun _ k6 => ?_
 refine Zw (Zm rfl (Zm rfl (Zm rfl (Z1 34 rfl (fun e he => O_sliceLo 8 rfl (Eh he) .const rfl underlying26 sz5 hc om om) (Z1 33 rfl (fun e he => O_makeFunc (fs := [.tmp 33]) (cs := []) rfl (.cons (Eh he) .nil) .nil) (Z1 36 rfl (fun e he => O_nilCheckBo rfl (Eh he)) (Zm rfl (Z2 35 38 rfl rfl (fun e he => O_u32 rfl (Eo he) (Eh he) .a om hw2) .done)))))))) ?_
 refine Sc (O_nilCheck rfl (.tmp (.o rfl))) ?_
 refine Sc (Ofa underlying266 sz73) ?_
 refine Sc (O_store (.tmp .hit) (.tmp (.o rfl)) rfl sz73 .a .a) ?_
 refine SN k6 ?_
 refine Ek [7, 6] ?_
 refine SR fun _ k7 => ?_
 refine Ac ?_
 refine Ac ?_
 refine SN k7 ?_
 refine Rt ?_
 exact SK_ret2 rfl (.o rfl) .hit (fun w hw => ⟨rfl, hw.ext, hw.at_ (.skip .hit)⟩)

theorem f87_ok (big : Bool) (bt b off len cap : Nat) (o : Obj) (T : TypeId) (u0 u1 : Value) (x0 x1 : Nat) (hne : bt ≠ b) (hl : 8 ≤ len) (hc : len ≤ cap) (hw0 : W4 o (off + 0) big x0) (hw1 : W4 o (off + 4) big x1) (w : World) (hb : w.heap[b]? = some o) (ht : w.heap[bt]? = some (.cells [u0, u1].toArray T (0, 0))) :
 Calls Tryz.prog 87 #[.pointer (some ⟨bt, 0, none⟩), .slice (some ⟨b, off, none⟩) len cap, boV big] w (fun r w' => r = .returned (.tuple #[.int .i64 8, .nilIface]) ∧ Ext (· = bt) w w' ∧ w'.heap[bt]? = some (.cells [.int .u32 (x0 : Nat), .int .u32 (x1 : Nat)].toArray T (0, 0))) := by
 refine sw_calls (S := (· = bt)) func87 rfl ntmps87 (sees3 _ _ _ _ rfl) ((Holds.start1w _ ht).old hb Q39) ?_
 refine SR fun _ k1 => ?_
 refine Ac ?_
 refine Ac ?_
 refine SN k1 ?_
 refine Sq fun _ k2 => ?_
 refine SR fun _ k3 => ?_
 refine Mo ?_
 refine Sc (O_lenSlice rfl (.tmp .hit) underlying26 rfl) ?_
 refine Sc (O_binOp rfl .const (.tmp .hit) (fun _ => by first | exact b_lss _ _ _ false (decide_eq_false om) | exact b_gtr _ _ _ false (decide_eq_false om))) ?_
 refine SN k3 ?_
 refine Fh ?_
 refine SS k2 ?_
 refine Ek [7, 6, 0, 1, 2] ?_
 refine Sq fun _ k4 => ?_
 refine Zw (Zm rfl (Zm rfl (Zm rfl (Z1 14 rfl (fun e he => O_sliceLo 0 rfl (Eh he) .const rfl underlying26 sz5 hc om om) (Z1 13 rfl (fun e he => O_makeFunc (fs := [.tmp 13]) (cs := []) rfl (.cons (Eh he) .nil) .nil) (Z1 16 rfl (fun e he => O_nilCheckBo rfl (Eh he)) (Zm rfl (Z2 15 18 rfl rfl (fun e he => O_u32 rfl (Eo he) (Eh he) .a om hw0) .done)))))))) ?_
 refine Sc (O_nilCheck rfl (.tmp (.o rfl))) ?_
 refine Sc (Ofa underlying280 sz73) ?_
 refine Sc (O_store (.tmp .hit) (.tmp (.o rfl)) rfl sz73 .a .a) ?_
 refine SN k4 ?_
 refine Ek [7, 6, 0, 1, 2] ?_
 refine Sq fun _ k5 => ?_
 refine Zw (Zm rfl (Zm rfl (Zm rfl (Z1 24 rfl (fun e he => O_sliceLo 4 rfl (Eh he) .const rfl underlying26 sz5 hc om om) (Z1 23 rfl (fun e he => O_makeFunc (fs := [.tmp 23]) (cs := []) rfl (.cons (Eh he) .nil) .nil) (Z1 26 rfl (fun e he => O_nilCheckBo rfl (Eh he)) (Zm rfl (Z2 25 28 rfl rfl (fun e he => O_u32 rfl (Eo he) (Eh he) .a om hw1) .done)))))))) ?_
 refine Sc (O_nilCheck rfl (.tmp (.o rfl))) ?_
 refine Sc (Ofa underlying280 sz73) ?_
 refine Sc (O_store (.tmp .hit) (.tmp (.o rfl)) rfl sz73 .a .a) ?_
 refine SN k5 ?_
 refine Ek [7, 6] ?_
 refine SR fun _ k6 => ?_
 refine Ac ?_
 refine Ac ?_
 refine SN k6 ?_
 refine Rt ?_
 exact SK_ret2 rfl (.o rfl) .hit (fun w hw => ⟨rfl, hw.ext, hw.at_ (.skip .hit)⟩)

theorem f90_ok (big : Bool) (bt b off len cap : Nat) (o : Obj) (T : TypeId) (u0 u1 : Value) (x0 x1 : Nat) (hne : bt ≠ b) (hl : 8 ≤ len) (hc : len ≤ cap) (hw0 : W4 o (off + 0) big x0) (hw1 : W4 o (off + 4) big x1) (w : World) (hb : w.heap[b]? = some o) (ht : w.heap[bt]? = some (.cells [u0, u1].toArray T (0, 0))) :
 Calls Tryz.prog 90 #[.pointer (some ⟨bt, 0, none⟩), .slice (some ⟨b, off, none⟩) len cap, boV big] w (fun r w' => r = .returned (.tuple #[.int .i64 8, .nilIface]) ∧ Ext (· = bt) w w' ∧ w'.heap[bt]? = some (.cells [.int .u32 (x0 : Nat), .int .u32 (x1 : Nat)].toArray T (0, 0))) := by
 refine sw_calls (S := (· = bt)) func90 rfl ntmps90 (sees3 _ _ _ _ rfl) ((Holds.start1w _ ht).old hb Q39) ?_
 refine SR fun _ k1 => ?_
 refine Ac ?_
 refine Ac ?_
 refine SN k1 ?_
 refine Sq fun _ k2 => ?_
 refine SR fun _ k3 => ?_
 refine Mo ?_
 refine Sc (O_lenSlice rfl (.tmp .hit) underlying26 rfl) ?_
 refine Sc (O_binOp rfl (.tmp .hit) .const (fun _ => by first | exact b_lss _ _ _ false (decide_eq_false om) | exact b_gtr _ _ _ false (decide_eq_false om))) ?_
 refine SN k3 ?_
 refine Fh ?_
 refine SS k2 ?_
 refine Ek [7, 6, 0, 1, 2] ?_
 refine Sq fun _ k4 => ?_
 refine Zw (Zm rfl (Zm rfl (Zm rfl (Z1 14 rfl (fun e he => O_sliceLo 0 rfl (Eh he) .const rfl underlying26 sz5 hc om om) (Z1 13 rfl (fun e he => O_makeFunc (fs := [.tmp 13]) (cs := []) rfl (.cons (Eh he) .nil) .nil) (Z1 16 rfl (fun e he => O_nilCheckBo rfl (Eh he)) (Zm rfl (Z2 15 18 rfl rfl (fun e he => O_u32 rfl (Eo he) (Eh he) .a om hw0) .done)))))))) ?_
 refine Sc (O_nilCheck rfl (.tmp (.o rfl))) ?_
 refine Sc (Ofa underlying286 sz73) ?_
 refine Sc (O_store (.tmp .hit) (.tmp (.o rfl)) rfl sz73 .a .a) ?_
 refine SN k4 ?_
 refine Ek [7, 6, 0, 1, 2] ?_
 refine Sq fun _ k5 => ?_
 refine Zw (Zm rfl (Zm rfl (Zm rfl (Z1 24 rfl (fun e he => O_sliceLo 4 rfl (Eh he) .const rfl underlying26 sz5 hc om om) (Z1 23 rfl (fun e he => O_makeFunc (fs := [.tmp 23]) (cs := []) rfl (.cons (Eh he) .nil) .nil) (Z1 26 rfl (fun e he => O_nilCheckBo rfl (Eh he)) (Zm rfl (Z2 25 28 rfl rfl (fun e he => O_u32 rfl (Eo he) (Eh he) .a om hw1) .done)))))))) ?_
 refine Sc (O_nilCheck rfl (.tmp (.o rfl))) ?_
 refine Sc (Ofa underlying286 sz83) ?_
 refine Sc (O_store (.tmp .hit) (.tmp (.o rfl)) rfl sz83 .a .a) ?_
 refine SN k5 ?_
 refine Ek [7, 6] ?_
 refine SR fun _ k6 => ?_
 refine Ac ?_
 refine Ac ?_
 refine SN k6 ?_
 refine Rt ?_
 exact SK_ret2 rfl (.o rfl) .hit (fun w hw => ⟨rfl, hw.ext, hw.at_ (.skip .hit)⟩)

theorem f91_ok (big : Bool) (bt b off len cap : Nat) (o : Obj) (T : TypeId) (u0 : Value) (x0 : Nat) (hne : bt ≠ b) (hl : 4 ≤ len) (hc : len ≤ cap) (hw0 : W4 o (off + 0) big x0) (w : World) (hb : w.heap[b]? = some o) (ht : w.heap[bt]? = some (.cells [u0].toArray T (0, 0))) :
 Calls Tryz.prog 91 #[.pointer (some ⟨bt, 0, none⟩), .slice (some ⟨b, off, none⟩) len cap, boV big] w (fun r w' => r = .returned (.tuple #[.int .i64 4, .nilIface]) ∧ Ext (· = bt) w w' ∧ w'.heap[bt]? = some (.cells [.int .u32 (x0 : Nat)].toArray T (0, 0))) := by
 refine sw_calls (S := (· = bt)) func91 rfl ntmps91 (sees3 _ _ _ _ rfl) ((Holds.start1w _ ht).old hb Q39) ?_
 refine SR fun _ k1 => ?_
 refine Ac ?_
 refine Ac ?_
 refine SN k1 ?_
 refine Sq fun _ k2 => ?_
 refine SR fun _ k3 => ?_
 refine Mo ?_
 refine Sc (O_lenSlice rfl (.tmp .hit) underlying26 rfl) ?_
 refine Sc (O_binOp rfl (.tmp .hit) .const (fun _ => by first | exact b_lss _ _ _ false (decide_eq_false om) | exact b_gtr _ _ _ false (decide_eq_false om))) ?_
 refine SN k3 ?_
 refine Fh ?_
 refine SS k2 ?_
 refine Ek [7, 6, 0, 1, 2] ?_
 refine Sq fun _ k4 => ?_
 refine Zw (Zm rfl (Zm rfl (Zm rfl (Z1 14 rfl (fun e he => O_sliceLo 0 rfl (Eh he) .const rfl underlying26 sz5 hc om om) (Z1 13 rfl (fun e he => O_makeFunc (fs := [.tmp 13]) (cs := []) rfl (.cons (Eh he) .nil) .nil) (Z1 16 rfl (fun e he => O_nilCheckBo rfl (Eh he)) (Zm rfl (Z2 15 18 rfl rfl (fun e he => O_u32 rfl (Eo he) (Eh he) .a om hw0) .done)))))))) ?_
 refine Sc (O_nilCheck rfl (.tmp (.o rfl))) ?_
 refine Sc (Ofa underlying268 sz73) ?_
 refine Sc (O_store (.tmp .hit) (.tmp (.o rfl)) rfl sz73 .a .a) ?_
 refine SN k4 ?_
 refine Ek [7, 6] ?_
 refine SR fun _ k5 => ?_
 refine Ac ?_
 refine Ac ?_
 refine SN k5 ?_
 refine Rt ?_
 exact SK_ret2 rfl (.o rfl) .hit (fun w hw => ⟨rfl, hw.ext, hw.at_ (.skip .hit)⟩)

theorem f92_ok (big : Bool) (bt b off len cap : Nat) (o : Obj) (T : TypeId) (u0 u1 u2 : Value) (x0 x1 x2 : Nat) (hne : bt ≠ b) (hl : 12 ≤ len) (hc : len ≤ cap) (hw0 : W4 o (off + 0) big x0) (hw1 : W4 o (off + 4) big x1) (hw2 : W4 o (off + 8) big x2) (w : World) (hb : w.heap[b]? = some o) (ht : w.heap[bt]? = some (.cells [u0, u1, u2].toArray T (0, 0))) :
 Calls Tryz.prog 92 #[.pointer (some ⟨bt, 0, none⟩), .slice (some ⟨b, off, none⟩) len cap, boV big] w (fun r w' => r = .returned (.tuple #[.int .i64 12, .nilIface]) ∧ Ext (· = bt) w w' ∧ w'.heap[bt]? = some (.cells [.int .u32 (x0 : Nat), .int .u32 (x1 : Nat), .int .u32 (x2 : Nat)].toArray T (0, 0))) := by
 refine sw_calls (S := (· = bt)) func92 rfl ntmps92 (sees3 _ _ _ _ rfl) ((Holds.start1w _ ht).old hb Q39) ?_
 refine SR fun _ k1 => ?_
 refine Ac ?_
 refine Ac ?_
 refine SN k1 ?_
 refine Sq fun _ k2 => ?_
 refine SR fun _ k3 => ?_
 refine Mo ?_
 refine Sc (O_lenSlice rfl (.tmp .hit) underlying26 rfl) ?_
 refine Sc (O_binOp rfl (.tmp .hit) .const (fun _ => by first | exact b_lss _ _ _ false (decide_eq_false om) | exact b_gtr _ _ _ false (decide_eq_false om))) ?_
 refine SN k3 ?_
 refine Fh ?_
 refine SS k2 ?_
 refine Ek [7, 6, 0, 1, 2] ?_
 refine Sq fun _ k4 => ?_
 refine Zw (Zm rfl (Zm rfl (Zm rfl (Z1 14 rfl (fun e he => O_sliceLo 0 rfl (Eh he) .const rfl underlying26 sz5 hc om om) (Z1 13 rfl (fun e he => O_makeFunc (fs := [.tmp 13]) (cs := []) rfl (.cons (Eh he) .nil) .nil) (Z1 16 rfl (fun e he => O_nilCheckBo rfl (Eh he)) (Zm rfl (Z2 15 18 rfl rfl (fun e he => O_u32 rfl (Eo he) (Eh he) .a om hw0) .done)))))))) ?_
 refine Sc (O_nilCheck rfl (.tmp (.o rfl))) ?_
 refine Sc (Ofa underlying292 sz83) ?_
 refine Sc (O_store (.tmp .hit) (.tmp (.o rfl)) rfl sz83 .a .a) ?_
 refine SN k4 ?_
 refine Ek [7, 6, 0, 1, 2] ?_
 refine Sq fun _ k5 => ?_
 refine Zw (Zm rfl (Zm rfl (Zm rfl (Z1 24 rfl (fun e he => O_sliceLo 4 rfl (Eh he) .const rfl underlying26 sz5 hc om om) (Z1 23 rfl (fun e he => O_makeFunc (fs := [.tmp 23]) (cs := []) rfl (.cons (Eh he) .nil) .nil) (Z1 26 rfl (fun e he => O_nilCheckBo rfl (Eh he)) (Zm rfl (Z2 25 28 rfl rfl (fun e he => O_u32 rfl (Eo he) (Eh he) .a om hw1) .done)))))))) ?_
 refine Sc (O_nilCheck rfl (.tmp (.o rfl))) ?_
 refine Sc (Ofa underlying292 sz73) ?_
 refine Sc (O_store (.tmp .hit) (.tmp (.o rfl)) rfl sz73 .a .a) ?_
 refine SN k5 ?_
 refine Ek [7, 6, 0, 1, 2] ?_
 refine Sq fun _ k6 => ?_
 refine Zw (Zm rfl (Zm rfl (Zm rfl (Z1 34 rfl (fun e he => O_sliceLo 8 rfl (Eh he) .const rfl underlying26 sz5 hc om om) (Z1 33 rfl (fun e he => O_makeFunc (fs := [.tmp 33]) (cs := []) rfl (.cons (Eh he) .nil) .nil) (Z1 36 rfl (fun e he => O_nilCheckBo rfl (Eh he)) (Zm rfl (Z2 35 38 rfl rfl (fun e he => O_u32 rfl (Eo he) (Eh he) .a om hw2) .done)))))))) ?_
 refine Sc (O_nilCheck rfl (.tmp (.o rfl))) ?_
 refine Sc (Ofa underlying292 sz73) ?_
 refine Sc (O_store (.tmp .hit) (.tmp (.o rfl)) rfl sz73 .a .a) ?_
 refine SN k6 ?_
 refine Ek [7, 6] ?_
 refine SR fun _ k7 => ?_
 refine Ac ?_
 refine Ac ?_
 refine SN k7 ?_
 refine Rt ?_
 exact SK_ret2 rfl (.o rfl) .hit (fun w hw => ⟨rfl, hw.ext, hw.at_ (.skip .hit)⟩)

theorem f94_ok (big : Bool) (bt b off len cap : Nat) (o : Obj) (T : TypeId) (u0 u1 u2 : Value) (x0 x1 x2 : Nat) (hne : bt ≠ b) (hl : 12 ≤ len) (hc : len ≤ cap) (hw0 : W4 o (off + 0) big x0) (hw1 : W4 o (off + 4) big x1) (hw2 : W4 o (off + 8) big x2) (w : World) (hb : w.heap[b]? = some o) (ht : w.heap[bt]? = some (.cells [u0, u1, u2].toArray T (0, 0))) :
 Calls Tryz.prog 94 #[.pointer (some ⟨bt, 0, none⟩), .slice (some ⟨b, off, none⟩) len cap, boV big] w (fun r w' => r = .returned (.tuple #[.int .i64 12, .nilIface]) ∧ Ext (· = bt) w w' ∧ w'.heap[bt]? = some (.cells [.int .u32 (x0 : Nat), .int .u32 (x1 : Nat), .int .u32 (x2 : Nat)].toArray T (0, 0))) := by
 refine sw_calls (S := (· = bt)) func94 rfl ntmps94 (sees3 _ _ _ _ rfl) ((Holds.start1w _ ht).old hb Q39) ?_
 refine SR fun _ k1 => ?_
 refine Ac ?_
 refine Ac ?_
 refine SN k1 ?_
 refine Sq fun _ k2 => ?_
 refine SR fun _ k3 => ?_
 refine Mo ?_
 refine Sc (O_lenSlice rfl (.tmp .hit) underlying26 rfl) ?_
 refine Sc (O_binOp rfl (.tmp .hit) .const (fun _ => by first | exact b_lss _ _ _ false (decide_eq_false om) | exact b_gtr _ _ _ false (decide_eq_false om))) ?_
 refine SN k3 ?_
 refine Fh ?_
 refine SS k2 ?_
 refine Ek [7, 6, 0, 1, 2] ?_
 refine Sq fun _ k4 => ?_
 refine Zw (Zm rfl (Zm rfl (Zm rfl (Z1 14 rfl (fun e he => O_sliceLo 0 rfl (Eh he) .const rfl underlying26 sz5 hc om om) (Z1 13 rfl (fun e he => O_makeFunc (fs := [.tmp 13]) (cs := []) rfl (.cons (Eh he) .nil) .nil) (Z1 16 rfl (fun e he => O_nilCheckBo rfl (Eh he)) (Zm rfl (Z2 15 18 rfl rfl (fun e he => O_u32 rfl (Eo he) (Eh he) .a om hw0) .done)))))))) ?_
 refine Sc (O_nilCheck rfl (.tmp (.o rfl))) ?_
 refine Sc (Ofa underlying298 sz73) ?_
 refine Sc (O_store (.tmp .hit) (.tmp (.o rfl)) rfl sz73 .a .a) ?_
 refine SN k4 ?_
 refine Ek [7, 6, 0, 1, 2] ?_
 refine Sq fun _ k5 => ?_
 refine Zw (Zm rfl (Zm rfl (Zm rfl (Z1 24 rfl (fun e he => O_sliceLo 4 rfl (Eh he) .const rfl underlying26 sz5 hc om om) (Z1 23 rfl (fun e he => O_makeFunc (fs := [.tmp 23]) (cs := []) rfl (.cons (Eh he) .nil) .nil) (Z1 26 rfl (fun e he => O_nilCheckBo rfl (Eh he)) (Zm rfl (Z2 25 28 rfl rfl (fun e he => O_u32 rfl (Eo he) (Eh he) .a om hw1) .done)))))))) ?_
 refine Sc (O_nilCheck rfl (.tmp (.o rfl))) ?_
 refine Sc (Ofa underlying298 sz73) ?_
 refine Sc (O_store (.tmp .hit) (.tmp (.o rfl)) rfl sz73 .a .a) ?_
 refine SN k5 ?_
 refine Ek [7, 6, 0, 1, 2] ?_
 refine Sq fun _ k6 => ?_
 refine Zw (Zm rfl (Zm rfl (Zm rfl (Z1 34 rfl (fun e he => O_sliceLo 8 rfl (Eh he) .const rfl underlying26 sz5 hc om om) (Z1 33 rfl (fun e he => O_makeFunc (fs := [.tmp 33]) (cs := []) rfl (.cons (Eh he) .nil) .nil) (Z1 36 rfl (fun e he => O_nilCheckBo rfl (Eh he)) (Zm rfl (Z2 35 38 rfl rfl (fun e he => O_u32 rfl (Eo he) (Eh he) .a om hw2) .done)))))))) ?_
 refine Sc (O_nilCheck rfl (.tmp (.o rfl))) ?_
 refine Sc (Ofa underlying298 sz73) ?_
 refine Sc (O_store (.tmp .hit) (.tmp (.o rfl)) rfl sz73 .a .a) ?_
 refine SN k6 ?_
 refine Ek [7, 6] ?_
 refine SR fun _ k7 => ?_
 refine Ac ?_
 refine Ac ?_
 refine SN k7 ?_
 refine Rt ?_
 exact SK_ret2 rfl (.o rfl) .hit (fun w hw => ⟨rfl, hw.ext, hw.at_ (.skip .hit)⟩)
end
end Go.Proofs.YtoibhfpagkdleaaGreatDoor
