/-
  THE CALCULUS, PART 5: guarded operations, joins, functions without a body, texts.
  CONTRACTS: the table of texts.
-/
import Derived.Test.YtoibhfpagkdleaaGreatDoorFc
import Derived.Lib.BytesEntry
import Derived.Laws.BytesArg
import Derived.Laws.Externs
import Derived.Laws.Tables
namespace Go.Proofs.YtoibhfpagkdleaaGreatDoor
section
open Go
open Tryz
set_option maxRecDepth 100000

section
variable {ro : Option Nat} {P : Program} {S : Nat → Prop} {w0 : World} {n : Nat} {ds : List Deferred} {H H' : Hp} {e e' : Env} {Q : Exit → Act → World → Prop} {x y c : Code} {ops : Array Oper} {l : List Oper}
variable {d : Nat} {op : Op} {ty : TypeId} {pos : String} {aft : Array Edge}

theorem SL.env (h : SL ro P S w0 n ds ops H e' l Q) (he : EnvSub e' e) : SL ro P S w0 n ds ops H e l Q :=
  fun a w ha hw => h a w (ha.weaken he) hw

theorem yielded_of {ops : Array Oper} {a : Act} {j g : Nat} {b : Bool} (hj : (ops[j]?).bind (·.dst) = some g) (ha : Sees n ds e a) (hg : Get e g (.bool b)) : yielded ops a.tmps j = some b := by
  have h := ha.slot _ _ hg
  unfold yielded
  rw [hj]
  simp only [Option.bind_some]
  rw [Array.getD_eq_getD_getElem?] at h
  cases hh : a.tmps[g]? with
  | none => rw [hh] at h; simp [undef] at h
  | some v => rw [hh] at h; simp at h; subst h; rfl

/-- an operation under a guard that is met -/
theorem SL_guard {dst : Option Tmp} {C : (Env → Hp → Prop) → Prop} {j g : Nat} {b : Bool} (hj : (ops[j]?).bind (·.dst) = some g) (hg : Get e g (.bool b)) (ho : OT ro P S w0 n ds H e ⟨dst, op, ty, pos, aft, none⟩ C)
    (h : C (fun e' H' => SL ro P S w0 n ds ops H' e' l Q)) : SL ro P S w0 n ds ops H e (⟨dst, op, ty, pos, aft, some (j, b)⟩ :: l) Q := by
  intro a w ha hw
  have h1 := ho (wpListIn (FW ro) 0 P ops Q l) Q h a w ha hw
  have hy := yielded_of hj ha hg
  simp only [wpListIn, Region.wanted, hy, beq_self_eq_true, if_true]
  exact h1
/-- .. that is not met -/
theorem SL_unguard {j g : Nat} {b : Bool} (hj : (ops[j]?).bind (·.dst) = some g) (hg : Get e g (.bool (!b))) (hd : Nat.blt d n = true) (h : SL ro P S w0 n ds ops H ((d, undef) :: e) l Q) :
    SL ro P S w0 n ds ops H e (⟨some d, op, ty, pos, aft, some (j, b)⟩ :: l) Q := by
  intro a w ha hw
  have hy := yielded_of hj ha hg
  have : (yielded ops a.tmps j == some b) = false := by rw [hy]; cases b <;> rfl
  simp only [wpListIn, Region.wanted, this]
  exact ⟨fun f _ => trivial, h _ _ (ha.put hd _) hw⟩
theorem SL.known {v : Value} {g : Nat} (h : SL ro P S w0 n ds ops H ((g, v) :: e) l Q) (hg : Get e g v) : SL ro P S w0 n ds ops H e l Q := fun a w ha hw =>
  h a w ⟨ha.size, ha.defers, fun t v g => by
    cases g with
    | hit => exact ha.slot _ _ hg
    | skip _ g => exact ha.slot _ _ g⟩ hw
theorem SL_bool {t : Bool} {g : Nat} (hg : Get e g (.bool t)) (h1 : t = true → SL ro P S w0 n ds ops H ((g, .bool true) :: e) l Q) (h2 : t = false → SL ro P S w0 n ds ops H ((g, .bool false) :: e) l Q) :
    SL ro P S w0 n ds ops H e l Q := by
  cases t
  · exact (h2 rfl).known hg
  exact (h1 rfl).known hg

theorem SK_then {K : Act → World → Prop} (h : SK S w0 n ds H e (Q .ret)) : SK S w0 n ds H e (Exit.then K Q .ret) := h
theorem SK_inBlock {id : Nat} (h : SK S w0 n ds H e (Q .ret)) : SK S w0 n ds H e (Exit.inBlock id Q .ret) := h

theorem SK_thenN {K : Act → World → Prop} (h : SK S w0 n ds H e K) : SK S w0 n ds H e (Exit.then K Q .normal) := h
theorem SK_inBlockN {id : Nat} (h : SK S w0 n ds H e (Q .normal)) : SK S w0 n ds H e (Exit.inBlock id Q .normal) := h
theorem SK_thenX {K : Act → World → Prop} {i : Nat} (h : SK S w0 n ds H e (Q (.exit i))) : SK S w0 n ds H e (Exit.then K Q (.exit i)) := h
theorem SK_inBlockX {i : Nat} (h : SK S w0 n ds H e (Q .normal)) : SK S w0 n ds H e (Exit.inBlock i Q (.exit i)) := fun a w ha hw => by
  have := h a w ha hw
  simpa [Exit.inBlock] using this
theorem SK_inBlockO {i j : Nat} (hij : Nat.beq j i = false) (h : SK S w0 n ds H e (Q (.exit j))) : SK S w0 n ds H e (Exit.inBlock i Q (.exit j)) := fun a w ha hw => by
  have := h a w ha hw
  have hne : j ≠ i := fun e => by simp [e] at hij
  simpa [Exit.inBlock, hne] using this

/-- several roads to one place of a list of operations -/
theorem SL_join {α : Type} (m : Nat) (d : Nat) (val : α → Value) (good : α → Prop) (h2 : ∀ t, good t → SL ro P S w0 n ds ops H ((d, val t) :: e) (l.drop m) Q)
    (h1 : (∀ t, good t → SL ro P S w0 n ds ops H ((d, val t) :: e) (l.drop m) Q) → SL ro P S w0 n ds ops H e l Q) : SL ro P S w0 n ds ops H e l Q := h1 h2

variable {a b : Operand} {v u : Value}
theorem O_pickT {cnd : Operand} (hd : Nat.blt d n = true) (hc : Ev e cnd (.bool true)) (hx : Ev e a v) :
    OT ro P S w0 n ds H e ⟨some d, .pick cnd a b, ty, pos, aft, none⟩ (fun X => X ((d, v) :: e) H) :=
  OT_pure hd (fun _ h => by cases h) fun a w ha _ => by simp [execOp, ha.ev hc, ha.ev hx, asBool]
theorem O_pickF {cnd : Operand} (hd : Nat.blt d n = true) (hc : Ev e cnd (.bool false)) (hx : Ev e b v) :
    OT ro P S w0 n ds H e ⟨some d, .pick cnd a b, ty, pos, aft, none⟩ (fun X => X ((d, v) :: e) H) :=
  OT_pure hd (fun _ h => by cases h) fun a w ha _ => by simp [execOp, ha.ev hc, ha.ev hx, asBool]

/-- a call of a function without a body -/
theorem O_callX {f : FuncId} {xs : List Operand} {vs : List Value} {ats : Array TypeId} {r : Value} {fn : Func} {ex : Array Value → Sem Value} (hd : Nat.blt d n = true) (hx : Evs e xs vs)
    (hf : P.funcs[f]? = some fn) (hname : (fn.name == "runtime.NumGoroutine") = false) (hb : fn.body.isNone = true) (hn : Extern.findNext fn = none) (he : Extern.find fn = some ex)
    (h : ∀ w, Holds S w0 H w → (ex vs.toArray).run P w = .ok r w) :
    OT ro P S w0 n ds H e ⟨some d, .call ⟨.value (.func f), xs.toArray, ats⟩, ty, pos, aft, none⟩ (fun X => X ((d, r) :: e) H) :=
  OT_pure hd (fun _ h => by cases h) fun a w ha hw => by
    have h2 : (xs.toArray.map a.eval) = vs.toArray := by rw [List.map_toArray, ha.evs hx]
    have h3 : a.eval (.func f) = .func (.func f) #[] #[] := rfl
    simp [execOp, resolve, h2, h3, Deferred.ofValue, invoke, run_callFunc_extern hf hname hb hn he, h w hw, Result.andThen]
end

/-! ### bytes -/
/-- the bytes of a block from a place on -/
def Bytes (o : Obj) (off : Nat) (bs : List Nat) : Prop := ∀ i x, bs[i]? = some x → x < 256 ∧ cellOf o (off + i) = some (.int .u8 (x : Nat))

theorem Bytes.lt {o : Obj} {off : Nat} {bs : List Nat} (h : Bytes o off bs) : ∀ x ∈ bs, x < 256 := fun x hx => by
  obtain ⟨i, hi, rfl⟩ := List.getElem_of_mem hx
  exact (h i _ (List.getElem?_eq_getElem hi)).1
theorem Bytes.app {o : Obj} {off : Nat} {xs bs : List Nat} (h : Bytes o off (xs ++ bs)) : Bytes o off xs ∧ Bytes o (off + xs.length) bs := by
  refine ⟨fun i x hi => h i x ?_, fun i x hi => ?_⟩
  · rw [List.getElem?_append_left]
    · exact hi
    exact (List.getElem?_eq_some_iff.1 hi).1
  have := h (xs.length + i) x (by rw [List.getElem?_append_right om]; simpa using hi)
  rw [Nat.add_assoc]
  exact this
theorem Bytes.cell {o : Obj} {off : Nat} {bs : List Nat} (h : Bytes o off bs) {w : World} {b : Nat} (hb : w.heap[b]? = some o) : ∀ i, i < bs.length →
    w.cell? ⟨b, off + i, none⟩ = some (.int .u8 ((bs.map (fun n : Nat => (n : Int))).getD i 0)) := by
  intro i hi
  rw [cell_of_obj hb (h i _ (List.getElem?_eq_getElem hi)).2]
  simp [List.getD, List.getElem?_eq_getElem hi]

/-- a text's bytes -/
def strOf (bs : List Nat) : ByteArray := ⟨(bs.map fun n => UInt8.ofNat n).toArray⟩

theorem strOf_eq (bs : List Nat) : strOfNums (bs.map (fun n : Nat => (n : Int))) = strOf bs := by
  simp [strOfNums, strOf]

theorem indexByte_at (s : List Nat) (rest : List Nat) (h0 : ∀ x ∈ s, 0 < x ∧ x < 256) : Lib.indexByte (Lib.bytesOf ((s ++ 0 :: rest).map (fun n : Nat => (n : Int)))) 0 = (s.length : Int) := by
  induction s with
  | nil => simp [Lib.bytesOf, Lib.indexByte]
  | cons x s ih =>
    have hx := h0 x List.mem_cons_self
    have ih' := ih (fun y hy => h0 y (List.mem_cons_of_mem _ hy))
    have hne : (UInt8.ofNat x == 0) = false := by
      rw [beq_eq_false_iff_ne]
      intro e
      have := congrArg UInt8.toNat e
      simp at this
      omega
    simp only [List.cons_append, List.map_cons, Lib.bytesOf, Lib.indexByte] at ih' ⊢
    simp [hne]
    simp at ih'
    rw [ih']
    split
    · rename_i h
      simp at h
    simp
section
variable {ro : Option Nat} {P : Program} {S : Nat → Prop} {w0 : World} {n : Nat} {ds : List Deferred} {H : Hp} {e e' : Env} {Q : Exit → Act → World → Prop} {x y c : Code} {ops : Array Oper} {l : List Oper}
variable {d t : Nat} {op : Op} {ty : TypeId} {pos : String} {aft : Array Edge} {u v : Value}

theorem Uo {j g : Nat} {b : Bool} (h : SL ro P S w0 n ds ops H ((d, undef) :: e) l Q) (hj : (ops[j]?).bind (·.dst) = some g := by exact rfl) (hg : lk e g = some (.bool (!b)) := by exact rfl) (hd : Nat.blt d n = true := by exact rfl) : SL ro P S w0 n ds ops H e (⟨some d, op, ty, pos, aft, some (j, b)⟩ :: l) Q := SL_unguard hj (.o hg) hd h
theorem Wo {dst : Option Tmp} {C : (Env → Hp → Prop) → Prop} {j g : Nat} {b : Bool} (ho : OT ro P S w0 n ds H e ⟨dst, op, ty, pos, aft, none⟩ C) (h : C (fun e' H' => SL ro P S w0 n ds ops H' e' l Q)) (hj : (ops[j]?).bind (·.dst) = some g := by exact rfl) (hg : lk e g = some (.bool b) := by exact rfl) : SL ro P S w0 n ds ops H e (⟨dst, op, ty, pos, aft, some (j, b)⟩ :: l) Q := SL_guard hj (.o hg) ho h
theorem Sb {b : Bool} {g : Nat} (h1 : b = true → SL ro P S w0 n ds ops H ((g, .bool true) :: (g, .bool b) :: e) l Q) (h2 : b = false → SL ro P S w0 n ds ops H ((g, .bool false) :: (g, .bool b) :: e) l Q) : SL ro P S w0 n ds ops H ((g, .bool b) :: e) l Q := SL_bool .hit h1 h2
theorem Opt {y : Operand} {s : Nat} (g : lk e t = some (.bool true) := by exact rfl) (hx : lk e s = some v := by exact rfl) (hd : Nat.blt d n = true := by exact rfl) : OT ro P S w0 n ds H e ⟨some d, .pick (.tmp t) (.tmp s) y, ty, pos, aft, none⟩ (fun X => X ((d, v) :: e) H) := O_pickT hd (.tmp (.o g)) (.tmp (.o hx))
theorem Opu {y : Operand} (g : lk e t = some (.bool true) := by exact rfl) (hd : Nat.blt d n = true := by exact rfl) : OT ro P S w0 n ds H e ⟨some d, .pick (.tmp t) (.const v) y, ty, pos, aft, none⟩ (fun X => X ((d, v) :: e) H) := O_pickT hd (.tmp (.o g)) .const
theorem Opf {x : Operand} {s : Nat} (g : lk e t = some (.bool false) := by exact rfl) (hx : lk e s = some v := by exact rfl) (hd : Nat.blt d n = true := by exact rfl) : OT ro P S w0 n ds H e ⟨some d, .pick (.tmp t) x (.tmp s), ty, pos, aft, none⟩ (fun X => X ((d, v) :: e) H) := O_pickF hd (.tmp (.o g)) (.tmp (.o hx))
theorem Opg {x : Operand} (g : lk e t = some (.bool false) := by exact rfl) (hd : Nat.blt d n = true := by exact rfl) : OT ro P S w0 n ds H e ⟨some d, .pick (.tmp t) x (.const v), ty, pos, aft, none⟩ (fun X => X ((d, v) :: e) H) := O_pickF hd (.tmp (.o g)) .const
end
theorem Pl0 {G G' : Prop} (h : G') (f : G' → G := by intro h; (repeat (first | refine SK_then ?_ | refine SK_inBlock ?_)); exact h) : G := f h
theorem Pl1 {G G' : Prop} (h : G') (f : G' → G := by intro h; (repeat (first | refine SK_thenN ?_ | refine SK_inBlockN ?_ | refine SK_inBlockX ?_ | refine SK_thenX ?_)); exact h) : G := f h
theorem Pl2 {G G' : Prop} (h : G') (f : G' → G := by intro h; (repeat (first | refine SK_thenX ?_ | refine SK_inBlockX ?_)); exact h) : G := f h
theorem Pl3 {G G' : Prop} (h : G') (f : G' → G := by intro h; (repeat (first | refine SK_thenX ?_ | refine SK_inBlockX ?_ | refine SK_inBlockO rfl ?_ | refine SK_then ?_ | refine SK_inBlock ?_ | refine SK_thenN ?_ | refine SK_inBlockN ?_)); exact h) : G := f h
theorem Pl4 {G G' : Prop} (h : G') (f : G' → G := by intro h; (repeat (first | refine SK_thenX ?_ | refine SK_inBlockX ?_ | refine SK_inBlockO rfl ?_)); exact h) : G := f h
theorem Pl5 {G G' : Prop} (h : G') (f : G' → G := by intro h; (repeat (first | refine SK_thenN ?_ | refine SK_inBlockN ?_ | refine SK_inBlockX ?_ | refine SK_thenX ?_ | refine SK_inBlockO rfl ?_)); exact h) : G := f h
end

section
open Go
open Tryz
set_option maxRecDepth 100000

section
variable {ro : Option Nat} {S : Nat → Prop} {w0 : World} {n : Nat} {ds : List Deferred} {H : Hp} {e : Env} {d : Nat} {ty : TypeId} {pos : String} {aft : Array Edge} {x : Operand}
theorem O_bytesStr {b off len cap : Nat} {f : Bool} {o : Obj} {s : List Nat} (hd : Nat.blt d n = true) (hx : Ev e x (.slice (some ⟨b, off, none⟩) len cap)) (hm : HMem H b f o) (hs : Bytes o off s) (hl : s.length = len) :
 OT ro Tryz.prog S w0 n ds H e ⟨some d, .convert 26 9 x, ty, pos, aft, none⟩ (fun X => X ((d, .string (strOf s)) :: e) H) :=
 OT_pure hd (fun _ h => by cases h) fun a w ha hw => by
  have := run_convert_bytes_arg w 26 5 underlying26 underlying5 b off len cap (s.map (fun n : Nat => (n : Int))) (by simpa using hl) (fun i hi => hs.cell (hw.at_ hm) i om) 9 underlying9
  simp [execOp, ha.ev hx, this, strOf_eq]
end

theorem f96_ok (b off len cap : Nat) (o : Obj) (s rest : List Nat) (hb : Bytes o off (s ++ 0 :: rest)) (hl : (s ++ 0 :: rest).length = len) (h0 : ∀ x ∈ s, 0 < x) (w : World) (ho : w.heap[b]? = some o) :
 Calls Tryz.prog 96 #[.slice (some ⟨b, off, none⟩) len cap, .int .u8 0] w (fun r w' => r = .returned (.int .i64 (s.length : Nat)) ∧ Ext noS w w') := by
 refine sw_calls (S := noS) func96 rfl ntmps96 (sees2 _ _ _ rfl) (Holds.start1 _ _ ho) ?_
 refine SR fun _ k1 => ?_
 refine Ac ?_
 refine SN k1 ?_
 refine SR fun _ k2 => ?_
 refine Mo ?_
 refine Mo ?_
 refine Sc (O_callX (r := .int .i64 (s.length : Nat)) rfl (.cons (.tmp (.o rfl)) (.cons (.tmp .hit) .nil)) func101 rfl rfl kr kr (fun w hw => by rw [Lib.run_indexByteSlice w b off len cap ((s ++ 0 :: rest).map (fun n : Nat => (n : Int))) (by simpa using hl) (fun i hi => hb.cell (hw.at_ .hit) i om) 0]; rw [show (0 : Int).toNat.toUInt8 = 0 from rfl, indexByte_at s rest (fun x hx => ⟨h0 x hx, hb.lt x (by simp [hx])⟩)])) ?_
 refine Ah ?_
 refine SN k2 ?_
 refine Rt ?_
 exact SK_ret1 rfl .hit (fun w hw => ⟨rfl, hw.ext⟩)

theorem f68_ok (b st off len cap : Nat) (o : Obj) (pre s rest : List Nat) (x : Nat) (hne : st ≠ b) (hb : Bytes o off (pre ++ (s ++ 0 :: rest))) (hl : (pre ++ (s ++ 0 :: rest)).length = len) (hc : len ≤ cap) (h32 : len < 4294967296) (hx : pre.length = x) (hp : pre = [] ∨ ∃ p, pre = p ++ [0]) (h0 : ∀ x ∈ s, 0 < x) (w : World) (hs : w.heap[st]? = some (.cells #[.pointer none, .slice (some ⟨b, off, none⟩) len cap, .map none] 207 (0, 0))) (ho : w.heap[b]? = some o) :
 Calls Tryz.prog 68 #[.pointer (some ⟨st, 0, none⟩), .int .u32 x] w (fun r w' => r = .returned (.tuple #[.slice (some ⟨b, off + x * 1, none⟩) (x + s.length - x) (cap - x), .nilIface]) ∧ Ext noS w w') := by
 have hll := hl
 simp only [List.length_append, List.length_cons] at hll
 refine sw_calls (S := noS) func68 rfl ntmps68 (sees2 _ _ _ rfl) ((Holds.start1 _ _ ho).old hs (by simp; exact fun h => hne h.symm)) ?_
 refine SR fun _ k1 => ?_
 refine Ac ?_
 refine Ac ?_
 refine SN k1 ?_
 refine Sq fun _ k2 => ?_
 refine SR fun _ k3 => ?_
 refine Mo ?_
 refine Sc (O_nilCheck rfl (.tmp .hit)) ?_
 refine Sc (Ofa underlying207 sz82) ?_
 refine Sc (Ola oc82) ?_
 refine Sc (O_binOp rfl (.tmp .hit) .const (r := .bool false) (fun _ => rfl)) ?_
 refine SN k3 ?_
 refine Fh ?_
 refine SS k2 ?_
 refine Ek [5, 4, 0, 1] ?_
 refine Sq fun _ k4 => ?_
 refine SR fun _ k5 => ?_
 refine Mo ?_
 refine Mo ?_
 refine Sc (O_nilCheck rfl (.tmp .hit)) ?_
 refine Sc (Ofa underlying207 sz26) ?_
 refine Sc (Ola oc26) ?_
 refine Sc (O_lenSlice rfl (.tmp .hit) underlying26 rfl) ?_
 refine Sc (O_convert rfl (.tmp .hit) (fun _ => c_int ⟨_, underlying3⟩ underlying73 (wrap_u32 _ om))) ?_
 refine Sc (O_binOp rfl (.tmp (.o rfl)) (.tmp .hit) (fun _ => b_gtr _ _ _ false (decide_eq_false om))) ?_
 refine SN k5 ?_
 refine Fh ?_
 refine SS k4 ?_
 refine Ek [5, 4, 0, 1] ?_
 refine Sq fun _ k6 => ?_
 refine SR fun _ k7 => ?_
 refine SL_join 13 57 (fun _ : Unit => .bool false) (fun _ => True) (fun tJ hJ => ?_) (fun J => ?_)
 ·
  refine SN k7 ?_
  refine Fh ?_
  refine SS k6 ?_
  refine Ek [5, 4, 0, 1] ?_
  refine SR fun _ k8 => ?_
  refine Mo ?_
  refine Sc (O_nilCheck rfl (.tmp .hit)) ?_
  refine Sc (Ofa underlying207 sz26) ?_
  refine Sc (Ola oc26) ?_
  refine Mo ?_
  refine Sc (O_sliceLo (x) rfl (.tmp (.o rfl)) (.tmp .hit) rfl underlying26 sz5 om om om) ?_
  refine Sc (O_callE (xs := [.tmp 64, .const _]) (cap := []) rfl .func (.cons (.tmp .hit) (.cons .const .nil)) func96 rfl rfl (fun w hw => f96_ok b _ _ _ o s rest (by simpa [hx] using hb.app.2) Q47 h0 w (hw.at_ (.skip .hit)))) ?_
  refine Ah ?_
  refine SN k8 ?_
  refine Ek [7, 5, 4, 0, 1] ?_
  refine Sq fun _ k9 => ?_
  refine SR fun _ k10 => ?_
  refine Mh ?_
  refine Sc (O_binOp rfl (.tmp .hit) .const (fun _ => b_eql _ _ _ false (decide_eq_false om))) ?_
  refine SN k10 ?_
  refine Fh ?_
  refine SS k9 ?_
  refine Ek [7, 5, 4, 0, 1] ?_
  refine SR fun _ k11 => ?_
  refine Mo ?_
  refine Sc (O_nilCheck rfl (.tmp .hit)) ?_
  refine Sc (Ofa underlying207 sz26) ?_
  refine Sc (Ola oc26) ?_
  refine Mo ?_
  refine Mo ?_
  refine Mo ?_
  refine Sc (O_convert rfl (.tmp .hit) (fun _ => c_int ⟨_, underlying3⟩ underlying73 (wrap_u32 _ om))) ?_
  refine Sc (O_binOp rfl (.tmp (.o rfl)) (.tmp .hit) (fun _ => b_add_u32 x s.length om)) ?_
  refine Sc (O_sliceLoHi (x) (x + s.length) rfl (.tmp (.o rfl)) (.tmp (.o rfl)) (.tmp .hit) rfl rfl underlying26 sz5 om om om om) ?_
  refine Ah ?_
  refine Ac ?_
  refine SN k11 ?_
  refine Rt ?_
  exact SK_ret2 rfl (.o rfl) .hit (fun w hw => ⟨rfl, hw.ext⟩)
 refine Mo ?_
 refine Sc (O_binOp rfl (.tmp .hit) .const (fun _ => b_gtr _ _ _ _ rfl)) ?_
 refine Mh ?_
 refine SL_bool .hit (fun hs47 => ?_) (fun hs47 => ?_)
 ·
  have hx0 : 0 < x := by have := of_decide_eq_true hs47; omega
  have hz : cellOf o (off + (x - 1)) = some (.int .u8 0) := by
   rcases hp with rfl | ⟨p, rfl⟩
   · simp at hx; omega
   have := (hb (x - 1) 0 (by simp at hx; subst hx; simp)).2; simpa using this
  refine Wo Omo ?_
  refine Wo (O_nilCheck rfl (.tmp .hit)) ?_
  refine Wo (Ofa underlying207 sz26) ?_
  refine Wo (Ola oc26) ?_
  refine Wo Omo ?_
  refine Wo (O_binOp rfl (.tmp .hit) .const (fun _ => b_sub_u32 x 1 om om)) ?_
  refine Wo (O_indexAddr rfl (.tmp (.o rfl)) (.tmp .hit) underlying26 sz5 om om) ?_
  refine Wo (O_load rfl (.tmp .hit) oc5 .a (by simpa using hz)) ?_
  refine Wo (O_binOp rfl (.tmp .hit) .const (r := .bool false) (fun _ => rfl)) ?_
  refine Sc Opt ?_
  exact (J () trivial).env .a
 refine Uo (Uo (Uo (Uo (Uo (Uo (Uo (Uo (Uo ?_))))))))
 refine Sc Opg ?_
 exact (J () trivial).env .a

theorem f77_ok (b st off len cap : Nat) (o : Obj) (pre s rest : List Nat) (x : Nat) (hne : st ≠ b) (hb : Bytes o off (pre ++ (s ++ 0 :: rest))) (hl : (pre ++ (s ++ 0 :: rest)).length = len) (hc : len ≤ cap) (h32 : len < 4294967296) (hx : pre.length = x) (hp : pre = [] ∨ ∃ p, pre = p ++ [0]) (h0 : ∀ x ∈ s, 0 < x) (hs0 : x = 0 → s = []) (w : World) (hs : w.heap[st]? = some (.cells #[.pointer none, .slice (some ⟨b, off, none⟩) len cap, .map none] 207 (0, 0))) (ho : w.heap[b]? = some o) :
 Calls Tryz.prog 77 #[.pointer (some ⟨st, 0, none⟩), .int .u32 x] w (fun r w' => r = .returned (.tuple #[.string (strOf s), .nilIface]) ∧ Ext noS w w') := by
 refine sw_calls (S := noS) func77 rfl ntmps77 (sees2 _ _ _ rfl) ((Holds.start1 _ _ ho).old hs (by simp; exact fun h => hne h.symm)) ?_
 refine SR fun _ k1 => ?_
 refine Ac ?_
 refine Ac ?_
 refine SN k1 ?_
 refine Sq fun _ k2 => ?_
 refine SR fun _ k3 => ?_
 refine Mo ?_
 refine Sc Obe ?_
 refine SN k3 ?_
 refine SW_cond (.tmp .hit) (fun ht9 => ?_) (fun ht9 => ?_)
 ·
  have hx0 : x = 0 := by have := of_decide_eq_true ht9; omega
  refine Ek [5, 4, 0, 1] ?_
  refine SR fun _ k4 => ?_
  refine Ac ?_
  refine Ac ?_
  refine SN k4 ?_
  refine Rt ?_
  refine Pl0 ?_
  exact SK_ret2 rfl (.o rfl) .hit (fun w hw => ⟨by first | rfl | (rw [hs0 hx0]; rfl), hw.ext⟩)
 refine SS k2 ?_
 refine Ek [5, 4, 0, 1] ?_
 refine SR fun _ k5 => ?_
 refine Mo ?_
 refine Mo ?_
 refine Sc (O_callE (xs := [.tmp 11, .tmp 12]) (cap := []) rfl .func (.cons (.tmp (.o rfl)) (.cons (.tmp .hit) .nil)) func68 rfl rfl (fun w hw => f68_ok b st off len cap o pre s rest x hne hb hl hc h32 hx hp h0 w (hw.at_ .hit) (hw.at_ (.skip .hit)))) ?_
 refine Mh ?_
 refine Sc Oex ?_
 refine Sc Oex ?_
 refine Ao ?_
 refine Ao ?_
 refine SN k5 ?_
 refine Ek [7, 6, 5, 4] ?_
 refine SR fun _ k6 => ?_
 refine Mo ?_
 refine Sc (O_bytesStr rfl (.tmp .hit) (HMem.skip .hit) (by simpa [hx] using hb.app.2.app.1) om) ?_
 refine Mo ?_
 refine Ao ?_
 refine Ao ?_
 refine SN k6 ?_
 refine Rt ?_
 exact SK_ret2 rfl (.o rfl) .hit (fun w hw => ⟨by first | rfl | (rw [hs0 hx0]; rfl), hw.ext⟩)

theorem f59_ok (b st off len cap : Nat) (o : Obj) (pre s rest : List Nat) (x : Nat) (hne : st ≠ b) (hb : Bytes o off (pre ++ (s ++ 0 :: rest))) (hl : (pre ++ (s ++ 0 :: rest)).length = len) (hc : len ≤ cap) (h32 : len < 4294967296) (hx : pre.length = x) (hp : pre = [] ∨ ∃ p, pre = p ++ [0]) (h0 : ∀ x ∈ s, 0 < x) (w : World) (hs : w.heap[st]? = some (.cells #[.pointer none, .slice (some ⟨b, off, none⟩) len cap, .map none] 207 (0, 0))) (ho : w.heap[b]? = some o) :
 Calls Tryz.prog 59 #[.pointer (some ⟨st, 0, none⟩), .int .u32 x] w (fun r w' => r = .returned (.tuple #[if x = 0 then .slice none 0 0 else .slice (some ⟨b, off + x * 1, none⟩) (x + s.length - x) (cap - x), .nilIface]) ∧ Ext noS w w') := by
 refine sw_calls (S := noS) func59 rfl ntmps59 (sees2 _ _ _ rfl) ((Holds.start1 _ _ ho).old hs (by simp; exact fun h => hne h.symm)) ?_
 refine SR fun _ k1 => ?_
 refine Ac ?_
 refine Ac ?_
 refine SN k1 ?_
 refine Sq fun _ k2 => ?_
 refine SR fun _ k3 => ?_
 refine Mo ?_
 refine Sc Obe ?_
 refine SN k3 ?_
 refine SW_cond (.tmp .hit) (fun ht7 => ?_) (fun ht7 => ?_)
 ·
  have hx0 : x = 0 := by have := of_decide_eq_true ht7; omega
  refine Ek [5, 4, 0, 1] ?_
  refine SR fun _ k4 => ?_
  refine Ac ?_
  refine Ac ?_
  refine SN k4 ?_
  refine Rt ?_
  refine Pl0 ?_
  exact SK_ret2 rfl (.o rfl) .hit (fun w hw => ⟨by first | rw [if_pos hx0] | rw [if_neg hx0], hw.ext⟩)
 have hx0 : ¬ x = 0 := by have := of_decide_eq_false ht7; omega
 refine SS k2 ?_
 refine Ek [5, 4, 0, 1] ?_
 refine SR fun _ k5 => ?_
 refine Mo ?_
 refine Mo ?_
 refine Sc (O_callE (xs := [.tmp 8, .tmp 9]) (cap := []) rfl .func (.cons (.tmp (.o rfl)) (.cons (.tmp .hit) .nil)) func68 rfl rfl (fun w hw => f68_ok b st off len cap o pre s rest x hne hb hl hc h32 hx hp h0 w (hw.at_ .hit) (hw.at_ (.skip .hit)))) ?_
 refine Sc Oex ?_
 refine Sc Oex ?_
 refine Ao ?_
 refine Ao ?_
 refine SN k5 ?_
 refine Rt ?_
 exact SK_ret2 rfl (.o rfl) .hit (fun w hw => ⟨by first | rw [if_pos hx0] | rw [if_neg hx0], hw.ext⟩)

theorem f47_ok (b off len cap : Nat) (o : Obj) (s : List Nat) (hb : Bytes o off (0 :: s)) (hl : (0 :: s).length = len) (hlast : (0 :: s).getLast? = some 0) (h32 : len < 4294967296) (w : World) (ho : w.heap[b]? = some o) :
 Calls Tryz.prog 47 #[.slice (some ⟨b, off, none⟩) len cap, .pointer none] w (fun r w' => ∃ z : Nat, r = .returned (.tuple #[.pointer (some ⟨z, 0, none⟩), .nilIface]) ∧ Fresh w [(z, true, .cells #[.pointer none, .slice (some ⟨b, off, none⟩) len cap, .map none] 207 (0, 0))] w') := by
 have hll : s.length + 1 = len := by simpa using hl
 have hz : cellOf o (off + (len - 1)) = some (.int .u8 0) := by
  have := (hb (len - 1) 0 (by rw [← hl, ← List.getLast?_eq_getElem?]; exact hlast)).2
  simpa using this
 have hz0 : cellOf o (off + 0) = some (.int .u8 0) := by simpa using (hb 0 0 rfl).2
 refine sw_calls (S := noS) func47 rfl ntmps47 (sees2 _ _ _ rfl) (Holds.start1 _ _ ho) ?_
 refine SR fun _ k1 => ?_
 refine Ac ?_
 refine Ac ?_
 refine SN k1 ?_
 refine SR fun _ k2 => ?_
 refine Ac ?_
 refine SN k2 ?_
 refine Sq fun _ k3 => ?_
 refine SR fun _ k4 => ?_
 refine Mo ?_
 refine Sc (O_binOp rfl (.tmp .hit) .const (r := .bool false) (fun _ => rfl)) ?_
 refine SN k4 ?_
 refine Fh ?_
 refine SS k3 ?_
 refine Ek [6, 5, 4, 0, 1] ?_
 refine Sq fun _ k5 => ?_
 refine SR fun _ k6 => ?_
 refine Mo ?_
 refine Sc (O_lenSlice rfl (.tmp .hit) underlying26 rfl) ?_
 refine Sc (O_binOp rfl (.tmp .hit) .const (fun _ => b_gtr _ _ _ true (decide_eq_true om))) ?_
 refine SN k6 ?_
 refine Th ?_
 refine Ek [6, 5, 4, 0, 1] ?_
 refine Sq fun _ k7 => ?_
 refine SR fun _ k8 => ?_
 refine Mo ?_
 refine Mo ?_
 refine Sc (O_lenSlice rfl (.tmp .hit) underlying26 rfl) ?_
 refine Sc (O_binOp rfl (.tmp .hit) .const (r := .int .i64 ((len - 1 : Nat) : Int)) (fun _ => by exact b_sub (len : Nat) 1 _ om om om)) ?_
 refine Sc (O_indexAddr rfl (.tmp (.o rfl)) (.tmp .hit) underlying26 sz5 om om) ?_
 refine Sc (O_load rfl (.tmp .hit) oc5 .a (by simpa using hz)) ?_
 refine Sc (O_binOp rfl (.tmp .hit) .const (r := .bool false) (fun _ => rfl)) ?_
 refine SN k8 ?_
 refine Fh ?_
 refine SS k7 ?_
 refine Ek [6, 5, 4, 0, 1] ?_
 refine SR fun _ k9 => ?_
 refine Mh ?_
 refine Sc (O_binOp rfl (.tmp .hit) .const (r := .bool true) (fun _ => rfl)) ?_
 refine Mh ?_
 refine Wo Omo ?_
 refine Wo (O_indexAddr rfl (.tmp .hit) .const underlying26 sz5 dc om) ?_
 refine Wo (O_load rfl (.tmp .hit) oc5 .a (by simpa using hz0)) ?_
 refine Wo (O_binOp rfl (.tmp .hit) .const (r := .bool false) (fun _ => rfl)) ?_
 refine Sc Opt ?_
 refine SN k9 ?_
 refine Fh ?_
 refine SS k5 ?_
 refine Ek [5, 4, 0, 1] ?_
 refine SR fun _ k10 => ?_
 refine Mo ?_
 refine Mo ?_
 refine Sc (O_build (pv := [(0, _), (1, _)]) (r := .agg #[.pointer none, .slice (some ⟨b, off, none⟩) len cap, .map none]) rfl (.cons (.tmp (.o rfl)) (.cons (.tmp .hit) .nil)) (fun w => run_build w _ _ _ Q13)) ?_
 refine Sc (O_box rfl (.tmp .hit) rfl) ?_
 intro bk38 _
 refine Ah ?_
 refine Ac ?_
 refine SN k10 ?_
 refine Rt ?_
 exact SK_ret2 rfl (.o rfl) .hit (fun w hw => ⟨_, rfl, hw.made (.keep (.drop .nil)) rfl⟩)
end
end Go.Proofs.YtoibhfpagkdleaaGreatDoor
