/-
  THE CALCULUS, PART 15: deferred calls; the end of a function that defers one.
  THE READER OF TYPES: what it has before it, its ghost state, and what it leaves behind.
-/
import Derived.Test.YtoibhfpagkdleaaGreatDoorSi
namespace Go.Proofs.YtoibhfpagkdleaaGreatDoor
section
open Go
open Tryz
set_option maxRecDepth 100000

section
variable {P : Program} {S : Nat → Prop} {w0 : World} {n : Nat} {ds : List Deferred} {H H' : Hp} {e e' : Env} {Q : Exit → Act → World → Prop} {ops : Array Oper} {l : List Oper}
/-- a closure is deferred -/
theorem SL_defer {f : FuncId} {cap : List Value} {ty : TypeId} {pos : String} {aft : Array Edge} {x : Operand} {ats : Array TypeId} (hx : Ev e x (.func (.func f) #[] cap.toArray))
    (h : SL none P S w0 n ({ target := .fn (.func f) cap.toArray, args := #[] } :: ds) ops H e l Q) : SL none P S w0 n ds ops H e (⟨none, .defer ⟨.value x, #[], ats⟩, ty, pos, aft, none⟩ :: l) Q := by
  intro a w ha hw
  simp only [wpListIn, Region.wanted, if_true]
  refine ⟨fun f _ => trivial, ?_⟩
  have hrun : (Oper.semAt none a.eval ⟨none, .defer ⟨.value x, #[], ats⟩, ty, pos, aft, none⟩).run P w = .ok (.defer { target := .fn (.func f) cap.toArray, args := #[] }) w := by
    rw [Oper.semAt_none]
    simp [execOp, resolve, ha.ev hx, Deferred.ofValue]
  rw [hrun, Oper.uponIn_defer]
  exact h _ _ ⟨ha.size, by simp [Act.put, ha.defers], ha.slot⟩ hw

/-- a call of a function that defers -/
theorem sw_callsD {f : FuncId} {fn : Func} {c : Code} {args : Array Value} {w : World} {R : Ending → World → Prop}
    (hf : P.funcs[f]? = some fn) (hb : fn.body = some c) (hn : fn.ntmps = n)
    (ha : Sees n [] e { tmps := args ++ Array.replicate (n - args.size) undef, defers := [] }) (hw : Holds S w0 H w)
    (h : SW none P S w0 n [] H e c (bodyPostD P fn R)) : Calls P f args w R :=
  calls_of_wp_defers hf hb (wpIn_wide.1 (by rw [hn]; exact h _ _ ha hw))

/-- what a deferred closure must achieve on the way out -/
def Parting (P : Program) (f : FuncId) (args : Array Value) (w : World) (R : World → Prop) : Prop := CallsD P f args .returning w (fun r u' w' => (∃ v, r = .returned v) ∧ u' = .returning ∧ R w')

theorem SK_retD2 {fn gn : Func} {R : Ending → World → Prop} {t u b c : Nat} {T U : TypeId} {v x : Value} {f : FuncId} {cap : List Value} (hr : fn.results = #[.cell t T, .cell u U]) (g : Get e t (.pointer (some ⟨b, 0, none⟩))) (g' : Get e u (.pointer (some ⟨c, 0, none⟩)))
    (hf : P.funcs[f]? = some gn) (hbn : gn.body.isNone = false) (hnm : (gn.name == "runtime.NumGoroutine") = false)
    (hcall : ∀ w, Holds S w0 H w → Parting P f cap.toArray w (Holds S w0 H'))
    (hT : OneC P T) (hU : OneC P U) {q q' : Bool} {o o' : Obj} (m : HMem H' b q o) (m' : HMem H' c q' o') (hc : cellOf o 0 = some v) (hc' : cellOf o' 0 = some x)
    (h : ∀ w, Holds S w0 H' w → R (.returned (.tuple #[v, x])) w) : SK S w0 n [{ target := .fn (.func f) cap.toArray, args := #[] }] H e (bodyPostD P fn R .ret) := by
  intro a w ha hw
  have hd := ha.defers
  show Leaves P fn a.tmps R a.defers .returning w
  rw [hd]
  have hi : (invoke (.fn (.func f) cap.toArray) #[]).run P w = .ok (.enter f cap.toArray) w := by
    have hb' : gn.body ≠ none := fun e => by simp [e] at hbn
    have hnm' : gn.name ≠ "runtime.NumGoroutine" := fun e => by simp [e] at hnm
    simp [invoke, callFunc, hf, hb', hnm']
  refine leaves_cons Q22 hi ((hcall w hw).mono ?_)
  rintro r u' w' ⟨⟨v', rfl⟩, rfl, hw'⟩
  refine ⟨.tuple #[v, x], ?_, h w' hw'⟩
  have e1 := ha.slot _ _ g
  have e2 := ha.slot _ _ g'
  rw [Array.getD_eq_getD_getElem?] at e1 e2
  have l1 := run_loadVar1 (P := P) (w := w') hT (hw'.at_ m) hc
  have l2 := run_loadVar1 (P := P) (w := w') hU (hw'.at_ m') hc'
  simp only [results, hr]
  simp [Sem.run_bind, e1, e2, asAddr, l1, l2]
/-- the end of a deferred closure without results -/
theorem SK_endD {fn : Func} {R : World → Prop} {c0 : Frame} {cs : List Frame} (hc0 : c0.mode = .returning) (hr : fn.results = #[]) (h : ∀ w, Holds S w0 H w → R w) :
    SK S w0 n [] H e (fun a w => bodyPostS P fn c0 cs (fun r u' w' => (∃ v, r = .returned v) ∧ u' = .returning ∧ R w') .normal a (c0 :: cs) w) := by
  intro a w ha hw
  refine ⟨ha.defers, .returning, ?_, .tuple #[], by rw [results_none hr], ⟨_, rfl⟩, rfl, h w hw⟩
  rw [← hc0]
end
section
variable {P : Program} {Q : Exit → Act → List Frame → World → Prop} {a : Act} {cs : List Frame} {w : World} {ops : Array Oper} {rest : List Nat} {i d : Nat} {ty : TypeId} {pos : String} {aft : Array Edge}
theorem opsS_recover {ats : Array TypeId} (h0 : ops[i]? = some ⟨some d, .call ⟨.builtin .recover, #[], ats⟩, ty, pos, aft, none⟩) (hr : recoverD cs = none) (h : wpOpsS P ops Q rest (a.put (some d) .nilIface) cs w) : wpOpsS P ops Q (i :: rest) a cs w := by
  have he : (execOp a.eval ⟨some d, .call ⟨.builtin .recover, #[], ats⟩, ty, pos, aft, none⟩).run P w = .ok .recover w := by simp [execOp, resolve, invoke, builtin]
  simp only [wpOpsS, h0, Region.wanted, if_true, he, hr]
  exact h
theorem opsS_assign {x : Operand} (h0 : ops[i]? = some ⟨some d, .assign x, ty, pos, aft, none⟩) (h : wpOpsS P ops Q rest (a.put (some d) (a.eval x)) cs w) : wpOpsS P ops Q (i :: rest) a cs w := by
  have he : (execOp a.eval ⟨some d, .assign x, ty, pos, aft, none⟩).run P w = .ok (.value (a.eval x)) w := by simp [execOp]
  simp only [wpOpsS, h0, Region.wanted, if_true, he, Oper.upon]
  exact h
end
end

section
open Go
open Tryz
set_option maxRecDepth 100000

/-- what the reader of types has before it -/
structure Cx where
  big : Bool
  b : Nat
  off : Nat
  len : Nat
  cap : Nat
  o : Obj
  st : Nat
  toff : Nat
  sl : Nat
  tcap : Nat
  N : Nat
  z : Dec
  pos : Nat → Nat
  nm : Nat → Nat
  inf : Nat → Nat
  sz : Nat → Nat
  ex : Nat → Nat → Nat
  str : Nat → List Nat
namespace Cx
variable (C : Cx)
abbrev kd (i : Nat) : Nat := C.inf i / 2 ^ 24 % 2 ^ 5
abbrev vl (i : Nat) : Nat := C.inf i / 2 ^ 0 % 2 ^ 16
abbrev fl (i : Nat) : Nat := C.inf i / 2 ^ 31 % 2 ^ 1
end Cx
/-- the Go type of a kind's pointer -/
def goT : Nat → Nat
  | 1 => 101 | 2 => 105 | 3 => 108 | 4 => 111 | 5 => 114 | 6 => 116 | 7 => 122 | 8 => 126 | 9 => 129 | 10 => 132 | 11 => 134 | 12 => 136 | 13 => 141 | 14 => 147 | 15 => 151 | 16 => 157 | 18 => 160 | 19 => 116
  | _ => 101
/-- how many words stand before a member -/
def stride : Nat → Nat
  | 4 => 3 | 5 => 3 | 6 => 2 | 13 => 2 | 15 => 3 | 19 => 3
  | _ => 0
structure CxOk (C : Cx) : Prop where
  rec_ : ∀ k, k < C.N → C.pos k + 12 + dlen (C.kd k) (C.vl k) = C.pos (k + 1) ∧ C.pos (k + 1) ≤ C.len ∧ W4 C.o (C.off + C.pos k + 0) C.big (C.nm k) ∧ W4 C.o (C.off + C.pos k + 4) C.big (C.inf k) ∧ W4 C.o (C.off + C.pos k + 8) C.big (C.sz k) ∧ C.kd k ≠ 0 ∧ C.kd k ≤ 19
  k17 : ∀ k, k < C.N → C.kd k ≠ 17
  hlc : C.len < C.cap
  h31 : C.len < 2147483648
  hne : C.st ≠ C.b
  hst : C.sl ≤ C.tcap
  h32 : C.sl < 4294967296
  hN : C.N ≤ 30
  ro : RowOk 1 (some C.z.ro) (C.N + 1) (offV C.pos C.N)
  v8 : ∀ k, k < C.N → C.vl k ≤ 8
  ex : ∀ k, k < C.N → ∀ j, 4 * j + 4 ≤ dlen (C.kd k) (C.vl k) → W4 C.o (C.off + C.pos k + 12 + 4 * j) C.big (C.ex k j)
  txt : ∀ k, k < C.N → TextAt C.o C.toff C.sl (C.nm k) (C.str (C.nm k))
  mtxt : ∀ k, k < C.N → C.kd k ≠ 15 → ∀ j, j < C.vl k → TextAt C.o C.toff C.sl (C.ex k (stride (C.kd k) * j)) (C.str (C.ex k (stride (C.kd k) * j)))
  ref : ∀ k, k < C.N → (C.kd k = 2 ∨ C.kd k = 8 ∨ C.kd k = 9 ∨ C.kd k = 10 ∨ C.kd k = 11 ∨ C.kd k = 12 ∨ C.kd k = 13 ∨ C.kd k = 14 ∨ C.kd k = 18) → C.sz k ≤ C.N
  ref3 : ∀ k, k < C.N → C.kd k = 3 → C.ex k 0 ≤ C.N ∧ C.ex k 1 ≤ C.N
  refm : ∀ k, k < C.N → C.kd k = 4 ∨ C.kd k = 5 → ∀ j, j < C.vl k → C.ex k (3 * j + 1) ≤ C.N
  refp : ∀ k, k < C.N → C.kd k = 13 → ∀ j, j < C.vl k → C.ex k (2 * j + 1) ≤ C.N
  refv : ∀ k, k < C.N → C.kd k = 15 → ∀ j, j < C.vl k → C.ex k (3 * j) ≤ C.N
  int : ∀ k, k < C.N → C.kd k = 1 → C.ex k 0 / 2 ^ 16 % 2 ^ 8 = 0 ∧ C.ex k 0 / 2 ^ 0 % 2 ^ 8 = 8 * C.sz k

/-! ### the state -/
structure St where
  M : List (Nat × Nat)
  K : List (Nat × Value)
  U : List (Nat × List Value × Nat)
def oldH (U : List (Nat × List Value × Nat)) : Hp := U.map fun u => (u.1, false, .cells u.2.1.toArray u.2.2 (0, 0))
def voidV : Value := .iface 48 (.pointer none)
namespace Cx
variable (C : Cx)
/-- the value of type number r in block b -/
def iv (r b : Nat) : Value := .iface (goT (C.kd (r - 1))) (.pointer (some ⟨b, 0, none⟩))
/-- v is the value of type number r -/
def Ref (M : List (Nat × Nat)) (r : Nat) (v : Value) : Prop := (r = 0 ∧ v = voidV) ∨ ∃ b, (r, b) ∈ M ∧ v = C.iv r b
def tysO (M : List (Nat × Nat)) : List (Value × Value) := M.map fun p => (.int .u32 (p.1 : Nat), C.iv p.1 p.2)
def idsO (K : List (Nat × Value)) : List (Value × Value) := K.map fun p => (p.2, .int .u32 (p.1 : Nat))
/-- a name -/
def sv (x : Nat) : Value := .string (strOf (C.str x))
/-- the blocks -/
def H (x : St) (T : Hp) : Hp := (C.z.tm, true, mapO (C.tysO x.M)) :: (C.z.im, true, mapO (idsO x.K)) :: (C.z.d, false, .cells (decC C.big C.st (C.N + 1) C.z).toArray 90 (0, 0)) :: (C.z.sb, false, .cells [.slice (some ⟨C.b, C.off, none⟩) C.len C.cap].toArray 224 (0, 0)) ::
  (C.st, false, .cells #[.pointer none, .slice (some ⟨C.b, C.toff, none⟩) C.sl C.tcap, .map none] 207 (0, 0)) :: (C.z.ro.g, false, .cells C.z.ro.cur.toArray 3 (0, 0)) :: (C.z.dt, false, .map #[] 0) :: (C.z.lm, false, .map #[] 0) :: (C.b, false, C.o) :: (T ++ oldH x.U)
end Cx
/-- the blocks of cells of a list -/
def cbs : Hp → List Nat
  | [] => []
  | (b, _, .cells _ _ (0, 0)) :: H => b :: cbs H
  | _ :: H => cbs H
theorem cbs_cells {b : Nat} {f : Bool} {cs : Array Value} {E : TypeId} {H : Hp} : cbs ((b, f, .cells cs E (0, 0)) :: H) = b :: cbs H := rfl
theorem cbs_mem : ∀ {H : Hp} {b : Nat}, b ∈ cbs H → ∃ f cs E, (b, f, Obj.cells cs E (0, 0)) ∈ H
  | (c, f, o) :: H, b, h => by
    unfold cbs at h
    split at h
    · rename_i h0; cases h0
    · rename_i c' f' cs E H' heq
      injection heq with e1 e2
      rcases List.mem_cons.1 h with h | h
      · subst h; exact ⟨f', cs, E, by rw [e1]; exact List.mem_cons_self⟩
      subst e2
      obtain ⟨f1, cs1, E1, h1⟩ := cbs_mem h
      exact ⟨f1, cs1, E1, List.mem_cons_of_mem _ h1⟩
    rename_i x H' _ heq
    injection heq with e1 e2
    subst e2
    obtain ⟨f1, cs1, E1, h1⟩ := cbs_mem h
    exact ⟨f1, cs1, E1, List.mem_cons_of_mem _ h1⟩

/-- a type that is read -/
inductive Cx.DoneC (C : Cx) (M : List (Nat × Nat)) (U : List (Nat × List Value × Nat)) (i : Nat) (cs : List Value) : Prop
  | int (h : C.kd i = 1) (e : cs = [C.sv (C.nm i), .int .u32 (C.sz i : Nat), .int .u8 (C.ex i 0 / 2 ^ 24 % 2 ^ 4 : Nat)])
  | ptr (h : C.kd i = 2 ∨ C.kd i = 9 ∨ C.kd i = 10 ∨ C.kd i = 11) {v : Value} (r : C.Ref M (C.sz i) v) (e : cs = [v])
  | arr (h : C.kd i = 3) {u v : Value} (ru : C.Ref M (C.ex i 1) u) (rv : C.Ref M (C.ex i 0) v) (e : cs = [u, v, .int .u32 (C.ex i 2 : Nat)])
  | comp (h : C.kd i = 4 ∨ C.kd i = 5) {g cap : Nat} {cur : List Value} {vs : List Value} (hr : RowOk 5 (some ⟨g, cap, cur⟩) (C.vl i) ((List.range (C.vl i)).flatMap fun j => [C.sv (C.ex i (3 * j)), vs.getD j undef, .int .u32 ((if C.fl i = 1 then C.ex i (3 * j + 2) % 2 ^ 24 else C.ex i (3 * j + 2) : Nat) : Int), .int .u32 ((if C.fl i = 1 then C.ex i (3 * j + 2) / 2 ^ 24 else 0 : Nat) : Int), .slice none 0 0]))
      (rs : vs.length = C.vl i) (rv : ∀ j v, vs[j]? = some v → C.Ref M (C.ex i (3 * j + 1)) v) (hu : (g, cur, 99) ∈ U) (e : cs = [C.sv (C.nm i), .int .u32 (C.sz i : Nat), .slice (some ⟨g, 0, none⟩) (C.vl i) cap, .slice none 0 0])
  | enum (h : C.kd i = 6 ∨ C.kd i = 19) {g cap : Nat} {cur : List Value} (hr : RowOk 2 (some ⟨g, cap, cur⟩) (C.vl i) ((List.range (C.vl i)).flatMap fun j => [C.sv (C.ex i (stride (C.kd i) * j)), .int .u64 ((if C.kd i = 19 then C.ex i (3 * j + 2) * 4294967296 + C.ex i (3 * j + 1) else if C.fl i = 1 ∧ 2147483648 ≤ C.ex i (2 * j + 1) then C.ex i (2 * j + 1) + 18446744069414584320 else C.ex i (2 * j + 1) : Nat) : Int)]))
      (hu : (g, cur, 121) ∈ U) (e : cs = [C.sv (C.nm i), .int .u32 (C.sz i : Nat), .bool (((C.fl i : Nat) : Int) == 1), .slice (some ⟨g, 0, none⟩) (C.vl i) cap])
  | fwd (h : C.kd i = 7) (e : cs = [C.sv (C.nm i), .int .i64 (C.fl i : Nat)])
  | tdef (h : C.kd i = 8) {v : Value} (r : C.Ref M (C.sz i) v) (e : cs = [C.sv (C.nm i), v, .slice none 0 0])
  | func (h : C.kd i = 12) {v : Value} (r : C.Ref M (C.sz i) v) (e : cs = [C.sv (C.nm i), v, .int .i64 (C.vl i : Nat), .slice none 0 0, .slice none 0 0])
  | proto (h : C.kd i = 13) {u : Value} (ru : C.Ref M (C.sz i) u) {g cap : Nat} {cur : List Value} {vs : List Value} (hr : RowOk 2 (some ⟨g, cap, cur⟩) (C.vl i) ((List.range (C.vl i)).flatMap fun j => [C.sv (C.ex i (2 * j)), vs.getD j undef]))
      (rs : vs.length = C.vl i) (rv : ∀ j v, vs[j]? = some v → C.Ref M (C.ex i (2 * j + 1)) v) (hu : (g, cur, 146) ∈ U) (e : cs = [u, .slice (some ⟨g, 0, none⟩) (C.vl i) cap])
  | var (h : C.kd i = 14) {v : Value} (r : C.Ref M (C.sz i) v) (e : cs = [C.sv (C.nm i), v, .int .i64 (C.ex i 0 : Nat), .slice none 0 0])
  | sec (h : C.kd i = 15) {g cap : Nat} {cur : List Value} {vs : List Value} (hr : RowOk 3 (some ⟨g, cap, cur⟩) (C.vl i) ((List.range (C.vl i)).flatMap fun j => [vs.getD j undef, .int .u32 (C.ex i (3 * j + 1) : Nat), .int .u32 (C.ex i (3 * j + 2) : Nat)]))
      (rs : vs.length = C.vl i) (rv : ∀ j v, vs[j]? = some v → C.Ref M (C.ex i (3 * j)) v) (hu : (g, cur, 156) ∈ U) (e : cs = [C.sv (C.nm i), .int .u32 (C.sz i : Nat), .slice (some ⟨g, 0, none⟩) (C.vl i) cap])
  | float (h : C.kd i = 16) (e : cs = [C.sv (C.nm i), .int .u32 (C.sz i : Nat)])
  | tag (h : C.kd i = 18) {v : Value} (r : C.Ref M (C.sz i) v) (e : cs = [v, C.sv (C.nm i)])

theorem mem_app {α : Type} {l m : List α} {x : α} (h : ∃ A, m = l ++ A) (hx : x ∈ l) : x ∈ m := by obtain ⟨A, rfl⟩ := h; exact List.mem_append_left _ hx
theorem app_trans {α : Type} {l m k : List α} (h : ∃ A, m = l ++ A) (g : ∃ A, k = m ++ A) : ∃ A, k = l ++ A := by obtain ⟨A, rfl⟩ := h; obtain ⟨B, rfl⟩ := g; exact ⟨A ++ B, by simp⟩
theorem app_refl {α : Type} (l : List α) : ∃ A, l = l ++ A := ⟨[], by simp⟩
namespace Cx
variable {C : Cx}
theorem Ref.mono {M M' : List (Nat × Nat)} {r : Nat} {v : Value} (h : C.Ref M r v) (g : ∃ A, M' = M ++ A) : C.Ref M' r v := by
  rcases h with h | ⟨b, h, e⟩
  · exact .inl h
  exact .inr ⟨b, mem_app g h, e⟩
theorem DoneC.mono {M M' : List (Nat × Nat)} {U U' : List (Nat × List Value × Nat)} {i : Nat} {cs : List Value} (h : C.DoneC M U i cs) (g : ∃ A, M' = M ++ A) (gu : ∃ A, U' = U ++ A) : C.DoneC M' U' i cs := by
  cases h with
  | int h e => exact .int h e
  | ptr h r e => exact .ptr h (r.mono g) e
  | arr h ru rv e => exact .arr h (ru.mono g) (rv.mono g) e
  | comp h hr rs rv hu e => exact .comp h hr rs (fun j v hv => (rv j v hv).mono g) (mem_app gu hu) e
  | enum h hr hu e => exact .enum h hr (mem_app gu hu) e
  | fwd h e => exact .fwd h e
  | tdef h r e => exact .tdef h (r.mono g) e
  | func h r e => exact .func h (r.mono g) e
  | proto h ru hr rs rv hu e => exact .proto h (ru.mono g) hr rs (fun j v hv => (rv j v hv).mono g) (mem_app gu hu) e
  | var h r e => exact .var h (r.mono g) e
  | sec h hr rs rv hu e => exact .sec h hr rs (fun j v hv => (rv j v hv).mono g) (mem_app gu hu) e
  | float h e => exact .float h e
  | tag h r e => exact .tag h (r.mono g) e
/-- type p is read and known by its number -/
def Fin (C : Cx) (x : St) (p : Nat × Nat) : Prop := (∃ cs E, (p.2, cs, E) ∈ x.U ∧ C.DoneC x.M x.U (p.1 - 1) cs) ∧ ∃ v, (p.1, v) ∈ x.K
structure Grew (C : Cx) (x y : St) : Prop where
  m : ∃ A, y.M = x.M ++ A
  k : ∃ A, y.K = x.K ++ A
  u : ∃ A, y.U = x.U ++ A
  fin : ∀ p ∈ y.M, p ∈ x.M ∨ C.Fin y p
theorem Fin.mono {x y : St} {p : Nat × Nat} (h : C.Fin x p) (g : C.Grew x y) : C.Fin y p := by
  obtain ⟨⟨cs, E, h1, h2⟩, v, h3⟩ := h
  exact ⟨⟨cs, E, mem_app g.u h1, h2.mono g.m g.u⟩, v, mem_app g.k h3⟩
theorem Grew.refl (x : St) : C.Grew x x := ⟨app_refl _, app_refl _, app_refl _, fun _ h => .inl h⟩
theorem Grew.trans {x y z : St} (h : C.Grew x y) (g : C.Grew y z) : C.Grew x z :=
  ⟨app_trans h.m g.m, app_trans h.k g.k, app_trans h.u g.u, fun p hp => by
    rcases g.fin p hp with h1 | h1
    · rcases h.fin p h1 with h2 | h2
      · exact .inl h2
      exact .inr (h2.mono g)
    exact .inr h1⟩
structure Inv (C : Cx) (B : List Nat) (x : St) : Prop where
  m1 : ∀ p ∈ x.M, 1 ≤ p.1 ∧ p.1 ≤ C.N
  m2 : (x.M.map (·.1)).Nodup
  m3 : (x.M.map (·.2)).Nodup
  k : ∀ p ∈ x.K, C.Ref x.M p.1 p.2
  has : ∀ p ∈ x.M, p.2 ∈ B ∨ p.2 ∈ x.U.map (·.1)
/-- numbers of types that are not yet begun -/
def miss (C : Cx) (M : List (Nat × Nat)) : Nat := ((List.range C.N).filter fun i => !(M.any fun p => p.1 == i + 1)).length
theorem miss_le {M M' : List (Nat × Nat)} (g : ∃ A, M' = M ++ A) : C.miss M' ≤ C.miss M := by
  obtain ⟨A, rfl⟩ := g
  unfold miss
  refine List.Sublist.length_le ?_
  rw [show (List.range C.N).filter (fun i => !((M ++ A).any fun p => p.1 == i + 1)) = ((List.range C.N).filter fun i => !(M.any fun p => p.1 == i + 1)).filter (fun i => !(A.any fun p => p.1 == i + 1)) by
    rw [List.filter_filter]; congr 1; funext i; simp [List.any_append, Bool.and_comm]]
  exact List.filter_sublist
theorem miss_lt {M : List (Nat × Nat)} {id b : Nat} (h1 : 1 ≤ id) (h2 : id ≤ C.N) (hn : ∀ p ∈ M, p.1 ≠ id) : C.miss (M ++ [(id, b)]) < C.miss M := by
  unfold miss
  rw [show (List.range C.N).filter (fun i => !((M ++ [(id, b)]).any fun p => p.1 == i + 1)) = ((List.range C.N).filter fun i => !(M.any fun p => p.1 == i + 1)).filter (fun i => !(id == i + 1)) by
    rw [List.filter_filter]; congr 1; funext i; simp [List.any_append, Bool.and_comm]]
  refine List.length_filter_lt_length_iff_exists.2 ⟨id - 1, ?_, ?_⟩
  · rw [List.mem_filter]
    refine ⟨List.mem_range.2 om, ?_⟩
    simp only [Bool.not_eq_true', List.any_eq_false, beq_iff_eq]
    intro p hp
    have := hn p hp
    omega
  have : id - 1 + 1 = id := by omega
  simp [this]

/-! ### keys -/
theorem cmp_of {P : Program} {t : TypeId} (h : (P.info? t).map (·.comparable) = some true) : ∃ i, P.info? t = some i ∧ i.comparable = true := by
  cases hi : P.info? t with
  | none => rw [hi] at h; cases h
  | some i => rw [hi] at h; simp only [Option.map_some, Option.some.injEq] at h; exact ⟨i, rfl, h⟩
theorem ptrT_of {P : Program} {a e k : Nat} (hu : P.underlying a = some (.pointer e)) (hc : (P.info? a).map (·.comparable) = some true) (hs : (P.info? e).map (·.size) = some (k + 1)) : PtrT P a := by
  obtain ⟨i, h1, h2⟩ := cmp_of hc
  obtain ⟨j, h3, h4⟩ := Sz.of hs
  exact ⟨e, i, j, hu, h1, h2, h3, by rw [h4]; omega⟩
theorem ptrT (k : Nat) : goT k ≠ 48 ∧ PtrT Tryz.prog (goT k) := by
  unfold goT
  split
  · exact ⟨by decide, ptrT_of (k := 2) underlying101 kr kr⟩
  · exact ⟨by decide, ptrT_of (k := 0) underlying105 kr kr⟩
  · exact ⟨by decide, ptrT_of (k := 2) underlying108 kr kr⟩
  · exact ⟨by decide, ptrT_of (k := 3) underlying111 kr kr⟩
  · exact ⟨by decide, ptrT_of (k := 3) underlying114 kr kr⟩
  · exact ⟨by decide, ptrT_of (k := 3) underlying116 kr kr⟩
  · exact ⟨by decide, ptrT_of (k := 1) underlying122 kr kr⟩
  · exact ⟨by decide, ptrT_of (k := 2) underlying126 kr kr⟩
  · exact ⟨by decide, ptrT_of (k := 0) underlying129 kr kr⟩
  · exact ⟨by decide, ptrT_of (k := 0) underlying132 kr kr⟩
  · exact ⟨by decide, ptrT_of (k := 0) underlying134 kr kr⟩
  · exact ⟨by decide, ptrT_of (k := 4) underlying136 kr kr⟩
  · exact ⟨by decide, ptrT_of (k := 1) underlying141 kr kr⟩
  · exact ⟨by decide, ptrT_of (k := 3) underlying147 kr kr⟩
  · exact ⟨by decide, ptrT_of (k := 2) underlying151 kr kr⟩
  · exact ⟨by decide, ptrT_of (k := 1) underlying157 kr kr⟩
  · exact ⟨by decide, ptrT_of (k := 1) underlying160 kr kr⟩
  · exact ⟨by decide, ptrT_of (k := 3) underlying116 kr kr⟩
  exact ⟨by decide, ptrT_of (k := 2) underlying101 kr kr⟩
theorem nilT : NilT Tryz.prog 48 := by
  obtain ⟨i, h1, h2⟩ := cmp_of (P := Tryz.prog) (t := 48) kr
  exact ⟨_, i, underlying48, h1, h2⟩
theorem Ref.inj {x : St} {B : List Nat} (hI : C.Inv B x) {r r' : Nat} {v : Value} (h : C.Ref x.M r v) (h' : C.Ref x.M r' v) : r = r' := by
  rcases h with ⟨rfl, rfl⟩ | ⟨b, h, rfl⟩ <;> rcases h' with ⟨rfl, e⟩ | ⟨b', h', e⟩
  · rfl
  · simp [voidV, iv] at e
  · simp [voidV, iv] at e
  have hb : b = b' := by simp only [iv, Value.iface.injEq, Value.pointer.injEq, Option.some.injEq, Addr.mk.injEq] at e; exact e.2.1
  subst hb
  have hn := hI.m3
  obtain ⟨i, hi⟩ := List.mem_iff_getElem?.1 h
  obtain ⟨j, hj⟩ := List.mem_iff_getElem?.1 h'
  have hij : i = j := by
    have h1 : (x.M.map (·.2))[i]? = some b := by simp [hi]
    have h2 : (x.M.map (·.2))[j]? = some b := by simp [hj]
    have hl : i < (x.M.map (·.2)).length := by
      rcases Nat.lt_or_ge i (x.M.map (·.2)).length with h | h
      · exact h
      rw [List.getElem?_eq_none h] at h1; cases h1
    exact (List.getElem?_inj hl hn).1 (h1.trans h2.symm)
  subst hij
  rw [hi] at hj
  simpa using hj
theorem Ref.uniq {x : St} {B : List Nat} (hI : C.Inv B x) {r : Nat} {v v' : Value} (h : C.Ref x.M r v) (h' : C.Ref x.M r v') : v = v' := by
  rcases h with ⟨rfl, rfl⟩ | ⟨b, h, rfl⟩ <;> rcases h' with ⟨h0, rfl⟩ | ⟨b', h', rfl⟩
  · rfl
  · have := (hI.m1 _ h').1; simp at this
  · subst h0; have := (hI.m1 _ h).1; simp at this
  have hn := hI.m2
  obtain ⟨i, hi⟩ := List.mem_iff_getElem?.1 h
  obtain ⟨j, hj⟩ := List.mem_iff_getElem?.1 h'
  have hij : i = j := by
    have h1 : (x.M.map (·.1))[i]? = some r := by simp [hi]
    have h2 : (x.M.map (·.1))[j]? = some r := by simp [hj]
    have hl : i < (x.M.map (·.1)).length := by
      rcases Nat.lt_or_ge i (x.M.map (·.1)).length with h | h
      · exact h
      rw [List.getElem?_eq_none h] at h1; cases h1
    exact (List.getElem?_inj hl hn).1 (h1.trans h2.symm)
  subst hij
  rw [hi] at hj
  simp only [Option.some.injEq, Prod.mk.injEq, true_and] at hj
  rw [hj]
theorem Ref.key {S : Nat → Prop} {w0 w : World} {x : St} {T H : Hp} {B : List Nat} (hI : C.Inv B x) (hB : ∀ b ∈ B, b ∈ cbs T) (hw : Holds S w0 H w) (hT : ∀ y ∈ T ++ oldH x.U, y ∈ H) {r : Nat} {v : Value} (h : C.Ref x.M r v) : KeyOk Tryz.prog 48 w v := by
  rcases h with ⟨rfl, rfl⟩ | ⟨b, h, rfl⟩
  · exact .inl rfl
  obtain ⟨p1, p2⟩ := ptrT (C.kd (r - 1))
  rcases hI.has _ h with h1 | h1
  · obtain ⟨f, cs, E, h2⟩ := cbs_mem (hB _ h1)
    exact .inr ⟨_, b, cs, E, rfl, p1, p2, (hw.has _ (hT _ (List.mem_append_left _ h2))).1⟩
  obtain ⟨u, h2, h3⟩ := List.mem_map.1 h1
  have h4 : (u.1, false, Obj.cells u.2.1.toArray u.2.2 (0, 0)) ∈ oldH x.U := List.mem_map.2 ⟨u, h2, rfl⟩
  refine .inr ⟨_, b, u.2.1.toArray, u.2.2, rfl, p1, p2, ?_⟩
  have := (hw.has _ (hT _ (List.mem_append_right _ h4))).1
  simp only at h3
  rw [← h3]
  exact this
/-- number id of value v is noted -/
def reg (x : St) (id : Nat) (v : Value) : St := { x with K := if (idsO x.K).any (fun p => sameK v p.1) then x.K else x.K ++ [(id, v)] }
theorem reg_ids {x : St} {id : Nat} {v : Value} : idsO (reg x id v).K = putK (idsO x.K) v (.int .u32 (id : Nat)) := by
  unfold reg putK
  dsimp only
  split
  · rfl
  simp [idsO]
theorem reg_grew (x : St) (id : Nat) (v : Value) : C.Grew x (reg x id v) := ⟨app_refl _, by
    unfold reg; dsimp only; split
    · exact app_refl _
    exact ⟨_, rfl⟩, app_refl _, fun _ h => .inl h⟩
theorem reg_inv {T : List Nat} {x : St} (hI : C.Inv T x) {id : Nat} {v : Value} (hv : C.Ref x.M id v) : C.Inv T (reg x id v) :=
  ⟨hI.m1, hI.m2, hI.m3, by
    unfold reg; dsimp only; split
    · exact hI.k
    intro p hp
    rcases List.mem_append.1 hp with h | h
    · exact hI.k p h
    rw [List.mem_singleton.1 h]; exact hv, hI.has⟩
theorem ids_mem {K : List (Nat × Value)} {p : Value × Value} (h : p ∈ idsO K) : ∃ q ∈ K, p = (q.2, .int .u32 (q.1 : Nat)) := by
  obtain ⟨q, h1, h2⟩ := List.mem_map.1 h
  exact ⟨q, h1, h2.symm⟩
theorem ref_iface {M : List (Nat × Nat)} {r : Nat} {v : Value} (h : C.Ref M r v) : ∃ t p, v = .iface t (.pointer p) := by
  rcases h with ⟨_, rfl⟩ | ⟨b, _, rfl⟩
  · exact ⟨_, _, rfl⟩
  exact ⟨_, _, rfl⟩
theorem reg_mem {T : List Nat} {x : St} (hI : C.Inv T x) {id : Nat} {v : Value} (hv : C.Ref x.M id v) : ∃ u, (id, u) ∈ (reg x id v).K := by
  unfold reg; dsimp only; split
  · rename_i h
    obtain ⟨p, h1, h2⟩ := List.any_eq_true.1 h
    obtain ⟨q, h3, rfl⟩ := ids_mem h1
    have hq := hI.k q h3
    obtain ⟨t, a, rfl⟩ := ref_iface hv
    obtain ⟨t', a', e⟩ := ref_iface hq
    dsimp only at h2
    rw [e] at h2
    simp only [sameK, decide_eq_true_eq] at h2
    obtain ⟨rfl, rfl⟩ := h2
    have : q.1 = id := Ref.inj hI (e ▸ hq) hv
    subst this
    exact ⟨q.2, h3⟩
  exact ⟨v, by simp⟩
theorem Inv.sub {T T' : List Nat} {x : St} (h : C.Inv T x) (hc : ∀ b ∈ T, b ∈ T') : C.Inv T' x := ⟨h.m1, h.m2, h.m3, h.k, fun p hp => (h.has p hp).imp_left (hc _)⟩
/-- a type is begun -/
theorem Inv.push {T : List Nat} {x : St} (h : C.Inv T x) {id b : Nat} (h1 : 1 ≤ id) (h2 : id ≤ C.N) (hn : ∀ p ∈ x.M, p.1 ≠ id) (hb : ∀ p ∈ x.M, p.2 ≠ b) (hT : b ∈ T) : C.Inv T { x with M := x.M ++ [(id, b)] } := by
  refine ⟨fun p hp => ?_, ?_, ?_, fun p hp => (h.k p hp).mono ⟨_, rfl⟩, fun p hp => ?_⟩
  · rcases List.mem_append.1 hp with hp | hp
    · exact h.m1 p hp
    rw [List.mem_singleton.1 hp]; exact ⟨h1, h2⟩
  · simp only [List.map_append, List.map_cons, List.map_nil]
    rw [List.nodup_append]
    refine ⟨h.m2, by simp, fun a ha c hc => ?_⟩
    obtain ⟨p, hp, rfl⟩ := List.mem_map.1 ha
    rw [List.mem_singleton.1 hc]
    exact hn p hp
  · simp only [List.map_append, List.map_cons, List.map_nil]
    rw [List.nodup_append]
    refine ⟨h.m3, by simp, fun a ha c hc => ?_⟩
    obtain ⟨p, hp, rfl⟩ := List.mem_map.1 ha
    rw [List.mem_singleton.1 hc]
    exact hb p hp
  rcases List.mem_append.1 hp with hp | hp
  · exact h.has p hp
  rw [List.mem_singleton.1 hp]; exact .inl hT
/-- a block that is new is none of the blocks before -/
theorem Inv.fresh {S : Nat → Prop} {w0 w : World} {T H H1 : Hp} {B : List Nat} {x : St} (h : C.Inv B x) (hB : ∀ b ∈ B, b ∈ cbs T) (hw : Holds S w0 H w) {b : Nat} {f : Bool} {o : Obj} (hp : HPick H (b, f, o) H1) (hT : ∀ y ∈ T ++ oldH x.U, y ∈ H1) : ∀ p ∈ x.M, p.2 ≠ b := by
  intro p hpm e
  have hn := (hp.perm.map (·.1)).nodup_iff.1 hw.nodup
  rw [List.map_cons, List.nodup_cons] at hn
  refine hn.1 ?_
  rcases h.has p hpm with h1 | h1
  · obtain ⟨f1, cs, E, h2⟩ := cbs_mem (hB _ h1)
    exact List.mem_map.2 ⟨_, hT _ (List.mem_append_left _ h2), e⟩
  obtain ⟨u, h2, h3⟩ := List.mem_map.1 h1
  have h4 : (u.1, false, Obj.cells u.2.1.toArray u.2.2 (0, 0)) ∈ oldH x.U := List.mem_map.2 ⟨u, h2, rfl⟩
  exact List.mem_map.2 ⟨_, hT _ (List.mem_append_right _ h4), by dsimp only; rw [← e, ← h3]⟩
/-- look-ups of numbers -/
theorem tys_int {M : List (Nat × Nat)} : ∀ p ∈ C.tysO M, ∃ b, p.1 = .int .u32 b := fun p hp => by
  obtain ⟨q, _, rfl⟩ := List.mem_map.1 hp
  exact ⟨_, rfl⟩
theorem tys_in {T : List Nat} {x : St} (h : C.Inv T x) {id b : Nat} (hm : (id, b) ∈ x.M) : (Value.int .u32 (id : Nat), C.iv id b) ∈ C.tysO x.M ∧ ∀ p ∈ C.tysO x.M, p.1 = .int .u32 (id : Nat) → p = (.int .u32 (id : Nat), C.iv id b) := by
  refine ⟨List.mem_map.2 ⟨_, hm, rfl⟩, fun p hp e => ?_⟩
  obtain ⟨q, hq, rfl⟩ := List.mem_map.1 hp
  simp only [Value.int.injEq, true_and, Int.natCast_inj] at e
  obtain ⟨q1, q2⟩ := q
  dsimp only at e
  subst e
  have := Ref.uniq h (.inr ⟨q2, hq, rfl⟩) (.inr ⟨b, hm, rfl⟩)
  dsimp only
  rw [this]
theorem tys_out {M : List (Nat × Nat)} {id : Nat} (hn : ∀ p ∈ M, p.1 ≠ id) : ∀ p ∈ C.tysO M, p.1 ≠ .int .u32 (id : Nat) := fun p hp e => by
  obtain ⟨q, hq, rfl⟩ := List.mem_map.1 hp
  simp only [Value.int.injEq, true_and, Int.natCast_inj] at e
  exact hn q hq e
theorem tys_push (M : List (Nat × Nat)) (id b : Nat) : C.tysO M ++ [(.int .u32 (id : Nat), C.iv id b)] = C.tysO (M ++ [(id, b)]) := by simp [tysO]
end Cx

/-! ### parts of a function's code -/
def sub : List Nat → Code → Code
  | [], c => c
  | 0 :: p, .seq x _ => sub p x
  | _ :: p, .seq _ y => sub p y
  | 0 :: p, .cond _ x _ => sub p x
  | _ :: p, .cond _ _ y => sub p y
  | _ :: p, .block _ x => sub p x
  | _ :: p, .loop x => sub p x
  | _, c => c
abbrev cd (f : Func) : Code := f.body.getD .skip
end
end Go.Proofs.YtoibhfpagkdleaaGreatDoor
