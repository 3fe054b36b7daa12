/-
  THE CALCULUS, PART 13: a range over the types of a blob.
  CONTRACT: a decoder is made.
-/
import Derived.Test.YtoibhfpagkdleaaGreatDoorFg
import Derived.Test.YtoibhfpagkdleaaGreatDoorFj
import Derived.Test.YtoibhfpagkdleaaGreatDoorGd
namespace Go.Proofs.YtoibhfpagkdleaaGreatDoor
section
open Go
open Tryz
set_option maxRecDepth 100000

/-- a text of a table of texts -/
def TextAt (o : Obj) (toff sl x : Nat) (s : List Nat) : Prop := ∃ pre rest, Bytes o toff (pre ++ (s ++ 0 :: rest)) ∧ (pre ++ (s ++ 0 :: rest)).length = sl ∧ pre.length = x ∧ (pre = [] ∨ ∃ p, pre = p ++ [0]) ∧ (∀ y ∈ s, 0 < y) ∧ (x = 0 → s = [])
theorem TextAt.bytes {o : Obj} {toff sl x : Nat} {s : List Nat} (h : TextAt o toff sl x s) : Bytes o (toff + x * 1) s := by
  obtain ⟨pre, rest, h1, h2, rfl, h4, h5, h6⟩ := h
  rw [Nat.mul_one]
  exact h1.app.2.app.1
theorem TextAt.len {o : Obj} {toff sl x : Nat} {s : List Nat} (h : TextAt o toff sl x s) : x + s.length < sl := by
  obtain ⟨pre, rest, h1, rfl, rfl, h4, h5, h6⟩ := h
  simp
theorem size_strOf (s : List Nat) : (strOf s).size = s.length := by simp [strOf, ByteArray.size]
theorem f59_w {b st toff sl tcap : Nat} {o : Obj} {x : Nat} {s : List Nat} (h : TextAt o toff sl x s) (hne : st ≠ b) (hc : sl ≤ tcap) (h32 : sl < 4294967296) (w : World) (hs : w.heap[st]? = some (.cells #[.pointer none, .slice (some ⟨b, toff, none⟩) sl tcap, .map none] 207 (0, 0))) (ho : w.heap[b]? = some o) :
    Calls Tryz.prog 59 #[.pointer (some ⟨st, 0, none⟩), .int .u32 x] w (fun r w' => ∃ z : Option Addr × Nat × Nat, r = .returned (.tuple #[.slice z.1 z.2.1 z.2.2, .nilIface]) ∧ (0 < z.2.1 → z.1 = some ⟨b, toff + x * 1, none⟩ ∧ z.2.1 = s.length ∧ z.2.1 ≤ z.2.2) ∧ Fresh w [] w') := by
  have hl := h.len
  obtain ⟨pre, rest, h1, h2, h3, h4, h5, h6⟩ := h
  refine (f59_ok b st toff sl tcap o pre s rest x hne h1 h2 hc h32 h3 h4 h5 w hs ho).mono ?_
  rintro r w' ⟨rfl, he⟩
  by_cases hx : x = 0
  · exact ⟨(none, 0, 0), by rw [if_pos hx], fun h => absurd h (Nat.lt_irrefl 0), Fresh.of_ext he⟩
  exact ⟨(some ⟨b, toff + x * 1, none⟩, x + s.length - x, tcap - x), by rw [if_neg hx], fun _ => ⟨rfl, by simp, by simp; omega⟩, Fresh.of_ext he⟩
theorem f77_w {b st toff sl tcap : Nat} {o : Obj} {x : Nat} {s : List Nat} (h : TextAt o toff sl x s) (hne : st ≠ b) (hc : sl ≤ tcap) (h32 : sl < 4294967296) (w : World) (hs : w.heap[st]? = some (.cells #[.pointer none, .slice (some ⟨b, toff, none⟩) sl tcap, .map none] 207 (0, 0))) (ho : w.heap[b]? = some o) :
    Calls Tryz.prog 77 #[.pointer (some ⟨st, 0, none⟩), .int .u32 x] w (fun r w' => r = .returned (.tuple #[.string (strOf s), .nilIface]) ∧ Ext noS w w') := by
  obtain ⟨pre, rest, h1, h2, h3, h4, h5, h6⟩ := h
  exact f77_ok b st toff sl tcap o pre s rest x hne h1 h2 hc h32 h3 h4 h5 h6 w hs ho

/-- the values of a round -/
theorem sees_yield2 {n : Nat} {ds : List Deferred} {e : Env} {tm : Array Value} {p1 p2 : Nat} {v1 v2 : Value} (h : Sees n ds e { tmps := tm, defers := ds }) (h1 : Nat.blt p1 n = true) (h2 : Nat.blt p2 n = true) :
    Sees n [] ((p2, v2) :: (p1, v1) :: e) { tmps := ((#[p1, p2] : Array Tmp).zip [v1, v2].toArray).foldl (fun tmps (t, a) => tmps.setIfInBounds t a) tm, defers := [] } := by
  have h' := (h.put h1 v1).put h2 v2
  have e1 : ((#[p1, p2] : Array Tmp).zip [v1, v2].toArray).foldl (fun tmps (t, a) => tmps.setIfInBounds t a) tm = (tm.setIfInBounds p1 v1).setIfInBounds p2 v2 := by simp
  rw [e1]
  exact ⟨h'.size, rfl, h'.slot⟩

section
variable {P : Program} {S : Nat → Prop} {w0 : World} {n : Nat} {ds : List Deferred} {H H' : Hp} {e e' : Env} {Q : Exit → Act → World → Prop}
/-- for offset, err := range allBtfTypeOffsets(..) -/
theorem SW_range64 {α : Type} (rest : α → Hp) (I : Nat → α → Prop) (x0 : α) {big : Bool} {bb bh bo hd blob off len cap : Nat} {o : Obj} {N : Nat} {pos nm inf sz : Nat → Nat} {u0 u1 u2 : Value} {g : Operand} {p1 p2 : Nat} {assign body : Code}
    (hg : Ev e g (.func (.func 64) #[] [.pointer (some ⟨bb, 0, none⟩), .pointer (some ⟨bh, 0, none⟩), .pointer (some ⟨bo, 0, none⟩)].toArray)) (h1 : Nat.blt p1 n = true) (h2 : Nat.blt p2 n = true)
    (hlc : len ≤ cap) (h62 : len < 4611686018427387904)
    (hrec : ∀ k, k < N → pos k + 12 + dlen (inf k / 2 ^ 24 % 2 ^ 5) (inf k / 2 ^ 0 % 2 ^ 16) = pos (k + 1) ∧ pos (k + 1) ≤ len ∧ W4 o (off + pos k + 0) big (nm k) ∧ W4 o (off + pos k + 4) big (inf k) ∧ W4 o (off + pos k + 8) big (sz k) ∧ inf k / 2 ^ 24 % 2 ^ 5 ≠ 0 ∧ inf k / 2 ^ 24 % 2 ^ 5 ≤ 19)
    (hp0 : pos 0 = 0) (hpN : pos N = len)
    (hp : HSub ([(bb, true, .cells #[.slice (some ⟨blob, off, none⟩) len cap] 26 (0, 0)), (bh, true, .cells #[.pointer (some ⟨hd, 0, none⟩)] 213 (0, 0)), (bo, true, .cells #[boV big] 80 (0, 0)), (hd, true, .cells [u0, u1, u2].toArray 209 (0, 0)), (blob, false, o)] ++ rest x0) H)
    (hI : I 0 x0)
    (round : ∀ (l D fn : Nat) (tm : Array Value) (k : Nat) (x : α), k < N → I k x → ∀ (K : Act → World → Prop), (∀ a w, (∃ w2, (Instr.beginRound l).run Tryz.prog w = .ok () w2 ∧ body.wpIn (FW (some l)) 0 Tryz.prog (roundPost Tryz.prog l fun r w' => r = .returned (.bool true) ∧ ∃ y, I (k + 1) y ∧
        Holds S w0 ([(bb, true, .cells #[.slice (some ⟨blob, off, none⟩) len cap] 26 (0, 0)), (bh, true, .cells #[.pointer (some ⟨hd, 0, none⟩)] 213 (0, 0)), (bo, true, .cells #[boV big] 80 (0, 0)), (hd, true, .cells [.int .u32 (nm k), .int .u32 (inf k), .int .u32 (sz k)].toArray 209 (0, 0)), (blob, false, o)] ++ ((l, true, .loop (mkRec fn tm #[p1, p2] assign body D .ready)) :: (D, true, .deferred (some [])) :: rest y)) w') a w2) → K a w) →
      SW (some l) Tryz.prog S w0 n [] ([(bb, true, .cells #[.slice (some ⟨blob, off, none⟩) len cap] 26 (0, 0)), (bh, true, .cells #[.pointer (some ⟨hd, 0, none⟩)] 213 (0, 0)), (bo, true, .cells #[boV big] 80 (0, 0)), (hd, true, .cells [.int .u32 (nm k), .int .u32 (inf k), .int .u32 (sz k)].toArray 209 (0, 0)), (blob, false, o)] ++ ((l, true, .loop (mkRec fn tm #[p1, p2] assign body D .ready)) :: (D, true, .deferred (some [])) :: rest x))
        ((p2, .nilIface) :: (p1, .int .i64 (pos k)) :: e) assign (Exit.then K (fun _ _ _ => False)))
    (k : ∀ (D : Nat) (x : α) (v0 v1 v2 : Value), I N x → SK S w0 n ({ target := .collected D, args := #[] } :: ds) ((D, true, .deferred (some [])) :: ([(bb, true, .cells #[.slice (some ⟨blob, off, none⟩) len cap] 26 (0, 0)), (bh, true, .cells #[.pointer (some ⟨hd, 0, none⟩)] 213 (0, 0)), (bo, true, .cells #[boV big] 80 (0, 0)), (hd, true, .cells [v0, v1, v2].toArray 209 (0, 0)), (blob, false, o)] ++ rest x)) e (Q .normal)) :
    SW none Tryz.prog S w0 n ds H e (.rangeFunc g #[p1, p2] assign body) Q := by
  refine SW_range (α := α × Value × Value × Value) (Iend := fun y => I N y.1) (Hend := fun y => [(bb, true, .cells #[.slice (some ⟨blob, off, none⟩) len cap] 26 (0, 0)), (bh, true, .cells #[.pointer (some ⟨hd, 0, none⟩)] 213 (0, 0)), (bo, true, .cells #[boV big] 80 (0, 0)), (hd, true, .cells [y.2.1, y.2.2.1, y.2.2.2].toArray 209 (0, 0)), (blob, false, o)] ++ rest y.1)
    hg func64 rfl rfl (fun l D fn tm hs w hw => ?_) (fun D y hy => k D y.1 y.2.1 y.2.2.1 y.2.2.2 hy)
  have hw1 := (hw.weaken (.keep (.keep hp))).perm perm_two
  have hne : hd ≠ blob := by
    have hn := hw1.nodup
    simp only [List.map_cons, List.cons_append, List.nodup_cons, List.mem_cons, not_or] at hn
    exact hn.2.2.2.1.1
  refine (f64_ok (fun x => (l, true, .loop (mkRec fn tm #[p1, p2] assign body D .ready)) :: (D, true, .deferred (some [])) :: rest x) I big bb bh bo hd blob off len cap l o N pos nm inf sz hne hlc h62 hrec hp0 hpN (fun k x hk hx w hw => ?_) x0 hI u0 u1 u2 w hw1).mono ?_
  · refine yield_ok (vs := [.int .i64 (pos k), .nilIface]) rfl (by repeat (first | apply HMem.hit | apply HMem.skip)) (sees_yield2 hs h1 h2) (fun K hK => round l D fn tm k x hk hx K hK) w hw
  rintro r w' ⟨rfl, y, v0, v1, v2, hy, hw'⟩
  refine ⟨_, rfl, (y, v0, v1, v2), hy, ?_⟩
  exact hw'.perm (perm_two (A := [(bb, true, .cells #[.slice (some ⟨blob, off, none⟩) len cap] 26 (0, 0)), (bh, true, .cells #[.pointer (some ⟨hd, 0, none⟩)] 213 (0, 0)), (bo, true, .cells #[boV big] 80 (0, 0)), (hd, true, .cells [v0, v1, v2].toArray 209 (0, 0)), (blob, false, o)])).symm

/-- a name is put to the index of names -/
theorem O_xfz {ro : Option Nat} {d : Nat} {ty : TypeId} {pos : String} {aft : Array Edge} {o1 o2 o3 : Operand} {ix g cap m b off len cp : Nat} {fb : Bool} {o : Obj} {cur xs : List Value} {name : List Nat} {id : Int} {T : Hp} {ats : Array TypeId} (hd : Nat.blt d n = true)
    (h1 : Ev e o1 (.pointer (some ⟨ix, 0, none⟩))) (h2 : Ev e o2 (.slice (some ⟨b, off, none⟩) len cp)) (h3 : Ev e o3 (.int .u32 id))
    (hp : HPicks H [(ix, true, .cells #[.slice (some ⟨g, 0, none⟩) m cap] 244 (0, 0)), (g, true, .cells cur.toArray 246 (0, 0)), (b, fb, o)] T)
    (hb : Bytes o off name) (hl : name.length = len) (hlen : len < 4611686018427387904) (hok : RowOk 1 (some ⟨g, cap, cur⟩) m xs) (hk : m < 1000) :
    OT ro Tryz.prog S w0 n ds H e ⟨some d, .call ⟨.value (.func 61), #[o1, o2, o3], ats⟩, ty, pos, aft, none⟩
      (fun X => ∀ z : Row × Int, RowOk 1 (some z.1) (m + 1) (xs ++ [.int .u64 z.2]) → X ((d, .tuple #[]) :: e) ((ix, true, .cells #[.slice (some ⟨z.1.g, 0, none⟩) (m + 1) z.1.cap] 244 (0, 0)) :: (z.1.g, true, .cells z.1.cur.toArray 246 (0, 0)) :: (b, fb, o) :: T)) := by
  refine O_call (xs := [o1, o2, o3]) (cap := []) (val := fun _ => .tuple #[]) (good := fun z : Row × Int => RowOk 1 (some z.1) (m + 1) (xs ++ [.int .u64 z.2])) (Hf := fun z => (ix, true, .cells #[.slice (some ⟨z.1.g, 0, none⟩) (m + 1) z.1.cap] 244 (0, 0)) :: (z.1.g, true, .cells z.1.cur.toArray 246 (0, 0)) :: (b, fb, o) :: T)
    hd .func (.cons h1 (.cons h2 (.cons h3 .nil))) func61 rfl rfl fun w hw => ?_
  exact f61_ok T ix g cap m cur xs b off len cp fb o name hb hl hlen id hok hk w (hw.perm hp.perm)

theorem O_xmakeMapR {ro : Option Nat} {d : Nat} {ty T a b : TypeId} {pos : String} {aft : Array Edge} {x : Operand} {kd : IntKind} {i : Int} (hd : Nat.blt d n = true) (hx : Ev e x (.int kd i)) (hT : P.underlying T = some (.map a b)) :
    OT ro P S w0 n ds H e ⟨some d, .makeMap T (some x), ty, pos, aft, none⟩ (fun X => ∀ b : Nat, True → X ((d, .map (some b)) :: e) ((b, true, .map #[] 0) :: H)) :=
  OT_run (val := fun b : Nat => .map (some b)) (Hf := fun b => (b, true, .map #[] 0) :: H) (good := fun _ => True) hd (fun _ h => by cases h) fun a w ha hw =>
    ⟨w.heap.size, _, by simp [execOp, Instr.makeMap, ha.ev hx, run_underlying hT, asInt, asIntOf], trivial, hw.new _⟩

/-- the end of a function with two results in cells, behind ranges -/
theorem SK_retM2 {fn : Func} {R : Ending → World → Prop} {t u b c : Nat} {T U : TypeId} {v x : Value} {Ds : List Nat} (hr : fn.results = #[.cell t T, .cell u U]) (g : Get e t (.pointer (some ⟨b, 0, none⟩))) (g' : Get e u (.pointer (some ⟨c, 0, none⟩)))
    (hds : ds = Ds.map fun D => { target := .collected D, args := #[] }) (hm : MarksShut H Ds H') (hT : OneC P T) (hU : OneC P U) {f f' : Bool} {o o' : Obj} (m : HMem H' b f o) (m' : HMem H' c f' o') (hc : cellOf o 0 = some v) (hc' : cellOf o' 0 = some x)
    (h : ∀ w, Holds S w0 H' w → R (.returned (.tuple #[v, x])) w) : SK S w0 n ds H e (bodyPostM (FW none) 0 P fn R .ret) := by
  intro a w ha hw
  subst hds
  have hd := ha.defers
  show LeavesInM (FW none) 0 P fn a.tmps R a.defers .returning w
  rw [hd]
  refine leaves_marks Ds H H' w hw hm fun w hw => ⟨?_, h w hw⟩
  have e1 := ha.slot _ _ g
  have e2 := ha.slot _ _ g'
  rw [Array.getD_eq_getD_getElem?] at e1 e2
  have l1 := run_loadVar1 (P := P) (w := w) hT (hw.at_ m) hc
  have l2 := run_loadVar1 (P := P) (w := w) hU (hw.at_ m') hc'
  simp only [results, hr]
  simp [Sem.run_bind, e1, e2, asAddr, l1, l2]
end
end

section
open Go
open Tryz
set_option maxRecDepth 100000

/-- what the table of types' places holds -/
def offV (pos : Nat → Nat) (k : Nat) : List Value := .int .i64 9223372036854775807 :: (List.range k).map fun j => Value.int .i64 (pos j : Nat)
theorem offV_snoc (pos : Nat → Nat) (k : Nat) : offV pos (k + 1) = offV pos k ++ [.int .i64 (pos k : Nat)] := by simp [offV, List.range_succ]
theorem Holds.ne_at {S : Nat → Prop} {w0 w : World} {H : Hp} (hw : Holds S w0 H w) {b c : Nat} {f g : Bool} {cs : Array Value} {cs' : Array Value} {E E' : TypeId} (h : HMem H b f (.cells cs E (0, 0))) (h' : HMem H c g (.cells cs' E' (0, 0))) (hE : Nat.beq E E' = false := by rfl) : b ≠ c := fun e => by
  subst e
  have h1 := hw.at_ h
  rw [hw.at_ h'] at h1
  simp only [Option.some.injEq, Obj.cells.injEq] at h1
  rw [h1.2.1] at hE
  simp at hE
/-- a decoder's blocks -/
structure Dec where
  d : Nat
  sb : Nat
  ro : Row
  dt : Nat
  ix : Nat
  tm : Nat
  im : Nat
  lm : Nat
theorem build90 (big : Bool) (a2 a3 a5 a7 : Option Addr) (n5 c5 : Nat) (m6 m8 m9 m10 : Option Nat) (w : World) : (Instr.build 90 [(0, .pointer none), (1, boV big), (2, .pointer a2), (3, .pointer a3), (4, .int .u32 0), (5, .slice a5 n5 c5), (6, .map m6), (7, .pointer a7), (8, .map m8), (9, .map m9), (10, .map m10)].toArray).run Tryz.prog w =
    .ok (.agg [.pointer none, boV big, .pointer a2, .pointer a3, .int .u32 0, .slice a5 n5 c5, .map m6, .pointer a7, .map m8, .map m9, .map m10].toArray) w := by
  cases big
  · exact run_build w _ _ _ kr
  exact run_build w _ _ _ kr
def decC (big : Bool) (st n : Nat) (z : Dec) : List Value := [.pointer none, boV big, .pointer (some ⟨z.sb, 0, none⟩), .pointer (some ⟨st, 0, none⟩), .int .u32 0, .slice (some ⟨z.ro.g, 0, none⟩) n z.ro.cap, .map (some z.dt), .pointer (some ⟨z.ix, 0, none⟩), .map (some z.tm), .map (some z.im), .map (some z.lm)]

theorem f48_ok (big : Bool) (b off len cap st toff sl tcap : Nat) (o : Obj) (N : Nat) (pos nm inf sz : Nat → Nat) (hlc : len ≤ cap) (h62 : len < 4611686018427387904) (hN : N ≤ 30)
    (hrec : ∀ k, k < N → pos k + 12 + dlen (inf k / 2 ^ 24 % 2 ^ 5) (inf k / 2 ^ 0 % 2 ^ 16) = pos (k + 1) ∧ pos (k + 1) ≤ len ∧ W4 o (off + pos k + 0) big (nm k) ∧ W4 o (off + pos k + 4) big (inf k) ∧ W4 o (off + pos k + 8) big (sz k) ∧ inf k / 2 ^ 24 % 2 ^ 5 ≠ 0 ∧ inf k / 2 ^ 24 % 2 ^ 5 ≤ 19)
    (hk17 : ∀ k, k < N → inf k / 2 ^ 24 % 2 ^ 5 ≠ 17) (hp0 : pos 0 = 0) (hpN : pos N = len) (hstr : ∀ k, k < N → ∃ s, TextAt o toff sl (nm k) s) (hst : sl ≤ tcap) (h32 : sl < 4294967296) (hne2 : st ≠ b)
    (w : World) (hb : w.heap[b]? = some o) (hsb : w.heap[st]? = some (.cells #[.pointer none, .slice (some ⟨b, toff, none⟩) sl tcap, .map none] 207 (0, 0))) :
    Calls Tryz.prog 48 #[.slice (some ⟨b, off, none⟩) len cap, boV big, .pointer (some ⟨st, 0, none⟩), .pointer none] w (fun r w' => ∃ z : Dec, r = .returned (.tuple #[.pointer (some ⟨z.d, 0, none⟩), .nilIface]) ∧ RowOk 1 (some z.ro) (N + 1) (offV pos N) ∧
      Fresh w [(z.d, true, .cells (decC big st (N + 1) z).toArray 90 (0, 0)), (z.sb, true, .cells [.slice (some ⟨b, off, none⟩) len cap].toArray 224 (0, 0)), (z.ro.g, true, .cells z.ro.cur.toArray 3 (0, 0)), (z.dt, true, .map #[] 0), (z.tm, true, .map #[] 0), (z.im, true, .map #[] 0), (z.lm, true, .map #[] 0)] w') := by
 refine sw_callsM (S := noS) func48 rfl ntmps48 (sees4 _ _ _ _ _ rfl) ((Holds.start1 _ _ hb).old hsb (by simp; exact fun h => hne2 h.symm)) ?_
 refine SR fun _ k1 => ?_
 refine Sc (O_box rfl (.tmp (.o rfl)) rfl) ?_
 intro bk6 _
 refine Sc (O_alloc rfl zr76 rfl) ?_
 intro bk8 _
 refine Sc (O_alloc rfl zr40 rfl) ?_
 intro bk9 _
 refine SN k1 ?_
 refine Ek [9, 8, 6, 0, 1, 3] ?_
 refine SR fun _ k2 => ?_
 refine Sc (O_alloc rfl zr83 rfl) ?_
 intro bk10 _
 refine Sc (O_store (.tmp .hit) .const rfl sz83 .a .a) ?_
 refine SN k2 ?_
 refine Sq fun _ k3 => ?_
 refine SR fun _ k4 => ?_
 refine Mo ?_
 refine Sc (O_binOp rfl (.tmp .hit) .const (r := .bool false) (fun _ => rfl)) ?_
 refine SN k4 ?_
 refine Fh ?_
 refine SS k3 ?_
 refine Ek [10, 9, 8, 6, 0, 1, 3] ?_
 refine SR fun _ k5 => ?_
 refine Sc (O_alloc rfl zr209 rfl) ?_
 intro bk11 _
 refine SN k5 ?_
 refine SR fun _ k6 => ?_
 refine Sc (O_alloc rfl zr3 rfl) ?_
 intro bk12 _
 refine Sc (O_alloc rfl zr3 rfl) ?_
 intro bk13 _
 refine Sc (O_alloc rfl zr3 rfl) ?_
 intro bk14 _
 refine SN k6 ?_
 refine Sq fun _ k7 => ?_
 refine SR fun _ k8 => ?_
 refine Mo ?_
 refine Mo ?_
 refine Sc (O_callN (xs := [.tmp 46, .tmp 47, .tmp 11]) (cap := []) rfl .func (.cons (.tmp (.o rfl)) (.cons (.tmp .hit) (.cons (.tmp (.o rfl)) .nil))) func55 rfl rfl (fun w1 hw => f55_ok b off len cap bk11 big w1)) ?_
 rintro z48 hz48
 refine SN k8 ?_
 refine Bl ?_
 refine SW_range64 (fun x => [(bk14, true, .cells [.int .i64 (x.2 : Nat)].toArray 3 (0, 0)), (bk13, true, .cells [.int .i64 0].toArray 3 (0, 0)), (bk12, true, .cells [.int .i64 (x.1 : Nat)].toArray 3 (0, 0)), (bk10, true, .cells [.int .u32 0].toArray 83 (0, 0)), (bk9, true, .cells [.nilIface].toArray 40 (0, 0)), (bk8, true, .cells [.pointer none].toArray 76 (0, 0)), (bk6, true, .cells #[.pointer (some ⟨st, 0, none⟩)] 82 (0, 0)), (st, false, .cells #[.pointer none, .slice (some ⟨b, toff, none⟩) sl tcap, .map none] 207 (0, 0))]) (fun k x => x.1 = k ∧ x.2 ≤ k) ((0, 0) : Nat × Nat) (big := big) (bb := z48.1) (bh := z48.2.1) (bo := z48.2.2) (.tmp .hit) rfl rfl hlc h62 hrec hp0 hpN HSub.a ⟨rfl, Nat.le_refl _⟩ (fun l D fn tm k x hk hx K hK => ?_) (fun D1 x v0 v1 v2 hy => ?_)
 ·
  obtain ⟨c1, c2⟩ := x
  obtain ⟨hx1, hx2⟩ := hx
  dsimp only at hx1 hx2 ⊢
  subst hx1
  obtain ⟨r1, r2, r3, r4, r5, r6, r7⟩ := hrec c1 hk
  have h17 := hk17 c1 hk
  refine Sr ?_
  refine Ah ?_
  refine Sn ?_
  refine SK_thenN ?_
  refine SK_begin hK rfl .a ?_
  refine Bl ?_
  refine Ek [16, 14, 13, 12, 11, 9, 8] ?_
  refine Sq fun _ k9 => ?_
  refine SR fun _ k10 => ?_
  refine Mh ?_
  refine Sc (O_binOp rfl (.tmp .hit) .const (r := .bool false) (fun _ => rfl)) ?_
  refine SN k10 ?_
  refine Fh ?_
  refine SS k9 ?_
  refine Ek [14, 13, 12, 11, 9, 8] ?_
  refine SR fun _ k11 => ?_
  refine Sc (Ola oc3) ?_
  refine Sc (O_binOp rfl (.tmp .hit) .const (fun _ => b_add _ _ ((c1 + 1 : Nat) : Int) om om om)) ?_
  refine Sc (O_store (.tmp (.o rfl)) (.tmp .hit) rfl sz3 .a .a) ?_
  refine SN k11 ?_
  refine Ek [14, 13, 11, 9, 8] ?_
  refine Sq fun _ k12 => ?_
  refine SR fun _ k13 => ?_
  refine Sc (O_callE (xs := [.tmp 11]) (cap := []) rfl .func (.cons (.tmp (.o rfl)) .nil) func56 rfl rfl (fun w1 hw => f56_ok bk11 _ _ _ r4.lt w1 (hw.at_ .a))) ?_
  refine Sc (O_binOp rfl (.tmp .hit) .const (r := .bool false) (fun _ => b_eql _ _ _ false (beq_eq_false_iff_ne.2 om))) ?_
  refine SN k13 ?_
  refine Fh ?_
  refine SS k12 ?_
  refine Ek [14, 11, 9, 8] ?_
  refine SR fun _ k14 => ?_
  refine Sc (Ofa underlying209 sz73) ?_
  refine Sc (Ola oc73) ?_
  refine Sc (O_binOp rfl (.tmp .hit) .const (fun _ => b_neq _ _ _ _ rfl)) ?_
  refine SN k14 ?_
  refine Sd ?_ ?_
  ·
   refine Cj fun ht62 => ?_
   refine Sr ?_
   refine Sc (Ola oc3) ?_
   refine Sc (O_binOp rfl (.tmp .hit) .const (fun _ => b_add _ _ ((c2 + 1 : Nat) : Int) om om om)) ?_
   refine Sc (O_store (.tmp (.o rfl)) (.tmp .hit) rfl sz3 .a .a) ?_
   refine Sn ?_
   refine Pl3 ?_
   exact SK_roundEnd .a (fun w hw => ⟨rfl, (c1 + 1, c2 + 1), ⟨rfl, by dsimp only; omega⟩, hw.weaken .a⟩)
  refine Cj fun ht62 => ?_
  refine Ss ?_
  refine Pl3 ?_
  exact SK_roundEnd .a (fun w hw => ⟨rfl, (c1 + 1, c2), ⟨rfl, by dsimp only; omega⟩, hw.weaken .a⟩)
 obtain ⟨c1, c2⟩ := x
 obtain ⟨hx1, hx2⟩ := hy
 dsimp only at hx1 hx2 ⊢
 subst hx1
 refine So k7 ?_
 refine Ek [14, 13, 12, 11, 10, 9, 8, 6, 0, 1, 3] ?_
 refine Sq fun _ k15 => ?_
 refine SR fun _ k16 => ?_
 refine Sc (Ola oc83) ?_
 refine Sc (O_binOp rfl (.tmp .hit) .const (r := .bool true) (fun _ => rfl)) ?_
 refine SN k16 ?_
 refine Th ?_
 refine Sr ?_
 refine Sc (Ola oc3) ?_
 refine Sc (O_binOp rfl (.tmp .hit) .const (fun _ => b_add _ _ ((c1 + 1 : Nat) : Int) om om om)) ?_
 refine Sc (O_store (.tmp (.o rfl)) (.tmp .hit) rfl sz3 .a .a) ?_
 refine SN k15 ?_
 refine Ek [14, 13, 12, 11, 10, 9, 8, 6, 0, 1, 3] ?_
 refine SR fun _ k17 => ?_
 refine Sc (Ola oc3) ?_
 refine Sc (O_makeSlice0 (c := c1 + 1) rfl .const (.tmp .hit) rfl underlying35 inf3 om om) ?_
 intro bk70 hk70
 refine Sc (O_alloc rfl zr35 rfl) ?_
 intro bk17 _
 refine Sc (O_store (.tmp .hit) (.tmp (.o rfl)) rfl sz35 .a .a) ?_
 refine SN k17 ?_
 refine Ek [17, 14, 13, 11, 10, 9, 8, 6, 0, 1, 3] ?_
 refine SR fun _ k18 => ?_
 refine Sc (Ola oc3) ?_
 refine Sc (O_xmakeMapR rfl (.tmp .hit) underlying84) ?_
 intro bk72 _
 refine Sc (O_alloc rfl zr84 rfl) ?_
 intro bk18 _
 refine Sc (O_store (.tmp .hit) (.tmp (.o rfl)) rfl sz84 .a .a) ?_
 refine SN k18 ?_
 refine Ek [18, 17, 14, 11, 10, 9, 8, 6, 0, 1, 3] ?_
 refine SR fun _ k19 => ?_
 refine Sc (Ola oc3) ?_
 refine Sc (O_callN (xs := [.tmp 73]) (cap := []) rfl .func (.cons (.tmp .hit) .nil) func57 rfl rfl (fun w1 hw => (f57_ok c2 om w1).mono (fun {r w2} h => by obtain ⟨z, h1, h2, h3⟩ := h; exact ⟨z, h1, h2, h3⟩))) ?_
 rintro ⟨ix, fg, fc⟩ hfz
 dsimp only at hfz ⊢
 refine Sc (O_alloc rfl zr85 rfl) ?_
 intro bk19 _
 refine Sc (O_store (.tmp .hit) (.tmp (.o rfl)) rfl sz85 .a .a) ?_
 refine SN k19 ?_
 refine Ek [19, 18, 17, 11, 10, 9, 8, 6, 0, 1, 3] ?_
 refine Sq fun _ k20 => ?_
 refine SR fun _ k21 => ?_
 refine Sc (Ola oc83) ?_
 refine Sc (O_binOp rfl (.tmp .hit) .const (r := .bool true) (fun _ => rfl)) ?_
 refine SN k21 ?_
 refine Th ?_
 refine Sr ?_
 refine Sc (Ola oc35) ?_
 refine Sc (O_buildSlice1 rfl .const underlying35 sz3 zr3 rfl rfl dc dc) ?_
 intro bk78 _
 refine Sc (O_append  rfl (.tmp (.o rfl)) (.tmp .hit) rfl underlying35 inf3 rfl dc .a1 hk70 .a rfl rfl om Q16 om) ?_
 intro r79 h79
 refine Sc (O_store (.tmp (.o rfl)) (.tmp .hit) rfl sz35 .a .a) ?_
 refine SN k20 ?_
 refine Ek [19, 18, 17, 11, 10, 9, 8, 6, 0, 1, 3] ?_
 refine SR fun _ k22 => ?_
 refine Sc (Ola oc83) ?_
 refine Sc (Ola oc35) ?_
 refine Sc (O_lenSlice rfl (.tmp .hit) underlying35 rfl) ?_
 refine Sc (O_convert rfl (.tmp .hit) (r := .int .u32 1) (fun _ => c_int ⟨_, underlying3⟩ underlying83 rfl)) ?_
 refine Sc (O_binOp rfl (.tmp (.o rfl)) (.tmp .hit) (r := .int .u32 ((0 + 1 : Nat) : Int)) (fun _ => rfl)) ?_
 refine Sc (O_alloc rfl zr83 rfl) ?_
 intro bk20 _
 refine Sc (O_store (.tmp .hit) (.tmp (.o rfl)) rfl sz83 .a .a) ?_
 refine SN k22 ?_
 refine Ek [20, 19, 18, 17, 11, 10, 9, 8, 6, 0, 1, 3] ?_
 refine Sq fun _ k23 => ?_
 refine SR fun _ k24 => ?_
 refine Mo ?_
 refine Mo ?_
 refine Sc (O_callN (xs := [.tmp 85, .tmp 86, .tmp 11]) (cap := []) rfl .func (.cons (.tmp (.o rfl)) (.cons (.tmp .hit) (.cons (.tmp (.o rfl)) .nil))) func55 rfl rfl (fun w1 hw => f55_ok b off len cap bk11 big w1)) ?_
 rintro z87 hz87
 refine SN k24 ?_
 refine Bl ?_
 refine SW_range64 (fun x => [(bk20, true, .cells [.int .u32 ((x.1 + 1 : Nat) : Int)].toArray 83 (0, 0)), (bk17, true, .cells [.slice (some ⟨x.2.1.g, 0, none⟩) (x.1 + 1) x.2.1.cap].toArray 35 (0, 0)), (x.2.1.g, true, .cells x.2.1.cur.toArray 3 (0, 0)), (bk18, true, .cells [.map (some bk72)].toArray 84 (0, 0)), (bk72, true, .map #[] 0), (bk19, true, .cells [.pointer (some ⟨ix, 0, none⟩)].toArray 85 (0, 0)), (ix, true, .cells #[.slice (some ⟨x.2.2.1.g, 0, none⟩) x.2.2.2 x.2.2.1.cap] 244 (0, 0)), (x.2.2.1.g, true, .cells x.2.2.1.cur.toArray 246 (0, 0)), (D1, true, .deferred (some [])), (bk10, true, .cells [.int .u32 0].toArray 83 (0, 0)), (bk9, true, .cells [.nilIface].toArray 40 (0, 0)), (bk8, true, .cells [.pointer none].toArray 76 (0, 0)), (bk6, true, .cells #[.pointer (some ⟨st, 0, none⟩)] 82 (0, 0)), (st, false, .cells #[.pointer none, .slice (some ⟨b, toff, none⟩) sl tcap, .map none] 207 (0, 0))]) (fun k x => x.1 = k ∧ RowOk 1 (some x.2.1) (k + 1) (offV pos k) ∧ ∃ ls : List Int, ls.length = x.2.2.2 ∧ RowOk 1 (some x.2.2.1) x.2.2.2 (ls.map fun z : Int => Value.int .u64 z) ∧ x.2.2.2 ≤ k) ((0, r79, ⟨fg, c2, fc⟩, 0) : Nat × Row × Row × Nat) (big := big) (bb := z87.1) (bh := z87.2.1) (bo := z87.2.2) (.tmp .hit) rfl rfl hlc h62 hrec hp0 hpN HSub.a ⟨rfl, h79, [], rfl, hfz, Nat.le_refl _⟩ (fun l D fn tm k x hk hx K hK => ?_) (fun D2 x v0 v1 v2 hy => ?_)
 ·
  obtain ⟨c, ro, rn, m⟩ := x
  obtain ⟨hx1, hro, ls, hlm, hrn, hls⟩ := hx
  dsimp only at hx1 hro hlm hrn hls ⊢
  subst hx1
  obtain ⟨r1, r2, r3, r4, r5, r6, r7⟩ := hrec c hk
  have h17 := hk17 c hk
  obtain ⟨s, hs⟩ := hstr c hk
  have hsl := hs.len
  refine Sr ?_
  refine Ao ?_
  refine Sn ?_
  refine SK_thenN ?_
  refine SK_begin hK rfl .a ?_
  refine Bl ?_
  refine Ek [21, 20, 19, 18, 17, 11, 10, 9, 8, 6] ?_
  refine Sq fun _ k25 => ?_
  refine SR fun _ k26 => ?_
  refine Sc (Ola oc83) ?_
  refine Sc (Ola oc83) ?_
  refine Sc (O_binOp rfl (.tmp (.o rfl)) (.tmp .hit) (r := .bool false) (fun _ => b_lss _ _ _ false (decide_eq_false om))) ?_
  refine SN k26 ?_
  refine Fh ?_
  refine SS k25 ?_
  refine Ek [21, 20, 19, 18, 17, 11, 9, 8, 6] ?_
  refine SR fun _ k27 => ?_
  refine Sc (Ola oc35) ?_
  refine Mo ?_
  refine Sc (O_buildSlice1 rfl (.tmp .hit) underlying35 sz3 zr3 rfl rfl dc dc) ?_
  intro bk96 _
  refine Sc (O_append  rfl (.tmp (.o rfl)) (.tmp .hit) rfl underlying35 inf3 rfl dc .a1 hro .a rfl rfl om Q16 om) ?_
  intro r97 h97
  have hr97 : RowOk 1 (some r97) (c + 1 + 1) (offV pos (c + 1)) := h97.eq rfl (offV_snoc pos c).symm
  refine Sc (O_store (.tmp (.o rfl)) (.tmp .hit) rfl sz35 .a .a) ?_
  refine SN k27 ?_
  refine Ek [20, 19, 18, 11, 9, 8, 6] ?_
  refine Sq fun _ k28 => ?_
  refine SR fun _ k29 => ?_
  refine Sc (O_callE (xs := [.tmp 11]) (cap := []) rfl .func (.cons (.tmp (.o rfl)) .nil) func56 rfl rfl (fun w1 hw => f56_ok bk11 _ _ _ r4.lt w1 (hw.at_ .a))) ?_
  refine Sc (O_binOp rfl (.tmp .hit) .const (r := .bool false) (fun _ => b_eql _ _ _ false (beq_eq_false_iff_ne.2 om))) ?_
  refine SN k29 ?_
  refine Fh ?_
  refine SS k28 ?_
  refine Ek [20, 19, 11, 9, 8, 6] ?_
  refine SR fun _ k30 => ?_
  refine Sc (Ola oc82) ?_
  refine Sc (Ofa underlying209 sz73) ?_
  refine Sc (Ola oc73) ?_
  refine Sc (O_callN (val := fun z : Option Addr × Nat × Nat => .tuple #[.slice z.1 z.2.1 z.2.2, .nilIface]) (N := fun _ => []) (xs := [.tmp 109, .tmp 111]) (cap := []) rfl .func (.cons (.tmp (.o rfl)) (.cons (.tmp .hit) .nil)) func59 rfl rfl (fun w1 hw => f59_w hs hne2 hst h32 w1 (hw.at_ .a) (hw.at_ .a))) ?_
  rintro ⟨p, L, C⟩ hz112
  dsimp only at hz112 ⊢
  rw [List.nil_append]
  refine Mh ?_
  refine Sc Oex ?_
  refine Sc Oex ?_
  refine Ao ?_
  refine Ao ?_
  refine SN k30 ?_
  refine Ek [23, 22, 20, 19, 9, 8] ?_
  refine Sq fun _ k31 => ?_
  refine SR fun _ k32 => ?_
  refine Mh ?_
  refine Sc (O_binOp rfl (.tmp .hit) .const (r := .bool false) (fun _ => rfl)) ?_
  refine SN k32 ?_
  refine Fh ?_
  refine SS k31 ?_
  refine Ek [22, 20, 19, 9, 8] ?_
  refine Sq fun _ k33 => ?_
  refine SR fun _ k34 => ?_
  refine Mh ?_
  refine Sc (O_lenSlice rfl (.tmp .hit) underlying26 rfl) ?_
  refine Sc (O_binOp rfl (.tmp .hit) .const (fun _ => b_gtr _ _ _ _ rfl)) ?_
  refine SN k34 ?_
  refine Sd ?_ ?_
  ·
   refine Cj fun ht120 => ?_
   have hL : 0 < L := by omega
   obtain ⟨e1, e2, e3⟩ := hz112 hL
   subst e1 e2
   refine Ek [22, 20, 19, 9, 8] ?_
   refine Sq fun _ k35 => ?_
   refine SR fun _ k36 => ?_
   refine Mh ?_
   refine Sc (O_bytesStr rfl (.tmp .hit) .a hs.bytes rfl) ?_
   refine Sc (O_callN (val := fun z : Int => .int .i64 z) (N := fun _ => []) (good := fun z : Int => -1 ≤ z ∧ z ≤ (strOf s).size) (xs := [.tmp 122, .const _]) (cap := []) rfl .func (.cons (.tmp .hit) (.cons .const .nil)) func60 rfl rfl (fun w1 hw => (f60_ok (strOf s) _ (by rw [size_strOf]; omega) dc w1).mono (by rintro r w2 ⟨z, q1, q2, rfl, he⟩; exact ⟨z, rfl, ⟨q1, q2⟩, Fresh.of_ext he⟩))) ?_
   rintro z123 ⟨hz1, hz2⟩
   rw [size_strOf] at hz2
   rw [List.nil_append]
   refine Ah ?_
   refine SN k36 ?_
   refine Ek [24, 22, 20, 19, 9, 8] ?_
   refine SR fun _ k37 => ?_
   refine Mh ?_
   refine Sc (O_binOp rfl (.tmp .hit) .const (fun _ => b_neq _ _ _ _ rfl)) ?_
   refine SN k37 ?_
   refine Sd ?_ ?_
   ·
    refine Cj fun ht125 => ?_
    refine Sr ?_
    refine Mo ?_
    refine Mo ?_
    refine Sc (O_sliceHi z123.toNat rfl (.tmp (.o rfl)) (.tmp .hit) om underlying26 sz5 om om om) ?_
    refine Ah ?_
    refine SN k35 ?_
    refine Sr ?_
    refine Sc (Ola oc85) ?_
    refine Mo ?_
    refine Sc (Ola oc83) ?_
    refine Sc (O_xfz rfl (.tmp (.o rfl)) (.tmp (.o rfl)) (.tmp .hit) (.cons HPick.a (.cons HPick.a (.cons HPick.a .nil))) (name := s.take z123.toNat) (fun i x hi => by have := hs.bytes i x (by rw [List.getElem?_take] at hi; split at hi; exact hi; cases hi); simpa using this) Q47 om hrn om) ?_
    rintro z132 hz132
    have hrn2 : RowOk 1 (some z132.1) (m + 1) ((ls ++ [z132.2]).map fun z : Int => Value.int .u64 z) := hz132.eq rfl Q22
    refine SN k33 ?_
    refine Sr ?_
    refine Sc (Ola oc83) ?_
    refine Sc (O_binOp rfl (.tmp .hit) .const (r := .int .u32 ((c + 1 + 1 : Nat) : Int)) (fun _ => b_add_u32 (c + 1) 1 om)) ?_
    refine Sc (O_store (.tmp (.o rfl)) (.tmp .hit) rfl sz83 .a .a) ?_
    refine Sn ?_
    refine Pl3 ?_
    exact SK_roundEnd .a (fun w hw => ⟨rfl, (c + 1, r97, z132.1, m + 1), ⟨rfl, hr97, ls ++ [z132.2], by simp [hlm], hrn2, by dsimp only; omega⟩, hw.weaken .a⟩)
   refine Cj fun ht125 => ?_
   refine SS k35 ?_
   refine Sr ?_
   refine Sc (Ola oc85) ?_
   refine Mo ?_
   refine Sc (Ola oc83) ?_
   refine Sc (O_xfz rfl (.tmp (.o rfl)) (.tmp (.o rfl)) (.tmp .hit) (.cons HPick.a (.cons HPick.a (.cons HPick.a .nil))) hs.bytes rfl om hrn om) ?_
   rintro z132 hz132
   have hrn2 : RowOk 1 (some z132.1) (m + 1) ((ls ++ [z132.2]).map fun z : Int => Value.int .u64 z) := hz132.eq rfl Q22
   refine SN k33 ?_
   refine Sr ?_
   refine Sc (Ola oc83) ?_
   refine Sc (O_binOp rfl (.tmp .hit) .const (r := .int .u32 ((c + 1 + 1 : Nat) : Int)) (fun _ => b_add_u32 (c + 1) 1 om)) ?_
   refine Sc (O_store (.tmp (.o rfl)) (.tmp .hit) rfl sz83 .a .a) ?_
   refine Sn ?_
   refine Pl3 ?_
   exact SK_roundEnd .a (fun w hw => ⟨rfl, (c + 1, r97, z132.1, m + 1), ⟨rfl, hr97, ls ++ [z132.2], by simp [hlm], hrn2, by dsimp only; omega⟩, hw.weaken .a⟩)
  refine Cj fun ht120 => ?_
  refine SS k33 ?_
  refine Sr ?_
  refine Sc (Ola oc83) ?_
  refine Sc (O_binOp rfl (.tmp .hit) .const (r := .int .u32 ((c + 1 + 1 : Nat) : Int)) (fun _ => b_add_u32 (c + 1) 1 om)) ?_
  refine Sc (O_store (.tmp (.o rfl)) (.tmp .hit) rfl sz83 .a .a) ?_
  refine Sn ?_
  refine Pl3 ?_
  exact SK_roundEnd .a (fun w hw => ⟨rfl, (c + 1, r97, rn, m), ⟨rfl, hr97, ls, hlm, hrn, by dsimp only; omega⟩, hw.weaken .a⟩)
 obtain ⟨c, ro, rn, m⟩ := x
 obtain ⟨hx1, hro, ls, hlm, hrn, hls⟩ := hy
 dsimp only at hx1 hro hlm hrn hls ⊢
 subst hx1
 have hobj : u64o ls (rn.cur.drop m) = .cells rn.cur.toArray 246 (0, 0) := by
   obtain ⟨q0, q1, q2, q3, q4⟩ := hrn
   simp only [Nat.mul_one] at q4
   unfold u64o
   rw [← q4, List.take_append_drop]
 refine So k23 ?_
 refine Ek [19, 18, 17, 10, 9, 8, 6, 0, 1, 3] ?_
 refine SR fun _ k38 => ?_
 refine Sc (Ola oc85) ?_
 refine Sc (O_callG (xs := [.tmp 135]) (cap := []) (val := fun _ : List Int => .tuple #[]) (obj := fun z => u64o z (rn.cur.drop m)) (good := fun z => z.length = m) rfl .func (.cons (.tmp .hit) .nil) func62 rfl rfl (fun o' => HAt.set .a o') (fun w1 hw => f62_ok ix rn.g m rn.cap (rn.cur.drop m) ls w1 (by rw [show u64o ls (rn.cur.drop m) = .cells rn.cur.toArray 246 (0, 0) from hobj]; exact hw.at_ .a) hlm om (hw.at_ .a) (hw.ne_at .a .a))) ?_
 rintro z136 hz136
 refine SN k38 ?_
 refine Ek [19, 18, 17, 10, 9, 8, 6, 0, 1, 3] ?_
 refine SR fun _ k39 => ?_
 refine Mo ?_
 refine Mo ?_
 refine Mo ?_
 refine Sc (O_build (pv := [(0, _)]) (r := .agg #[.slice (some ⟨b, off, none⟩) len cap]) rfl (.cons (.tmp .hit) .nil) (fun w => run_build w _ _ _ Q13)) ?_
 refine Sc (O_box rfl (.tmp .hit) rfl) ?_
 intro bk141 _
 refine Sc (Ola oc82) ?_
 refine Sc (Ola oc83) ?_
 refine Sc (Ola oc35) ?_
 refine Sc (Ola oc84) ?_
 refine Sc (Ola oc85) ?_
 refine Sc (O_makeMap rfl rfl) ?_
 intro bk147 _
 refine Sc (O_makeMap rfl rfl) ?_
 intro bk148 _
 refine Sc (O_makeMap rfl rfl) ?_
 intro bk149 _
 refine Sc (O_build (pv := [(0, _), (1, _), (2, _), (3, _), (4, _), (5, _), (6, _), (7, _), (8, _), (9, _), (10, _)]) rfl (.cons (.tmp (.o rfl)) (.cons (.tmp (.o rfl)) (.cons (.tmp (.o rfl)) (.cons (.tmp (.o rfl)) (.cons (.tmp (.o rfl)) (.cons (.tmp (.o rfl)) (.cons (.tmp (.o rfl)) (.cons (.tmp (.o rfl)) (.cons (.tmp (.o rfl)) (.cons (.tmp (.o rfl)) (.cons (.tmp .hit) .nil))))))))))) (fun w1 => build90 big _ _ _ _ _ _ _ _ _ _ w1)) ?_
 refine Sc (O_box rfl (.tmp .hit) rfl) ?_
 intro bk151 _
 refine Sc (O_store (.tmp (.o rfl)) (.tmp .hit) rfl sz76 .a .a) ?_
 refine Sc (O_store (.tmp (.o rfl)) .const rfl sz40 .a .a) ?_
 refine SN k39 ?_
 refine Rt ?_
 refine Pl3 ?_
 exact SK_retM2 (Ds := [D2, D1]) rfl (.o rfl) (.o rfl) rfl (.cons .a (.cons .a .nil)) oc76 oc40 .a .a rfl rfl (fun w hw => ⟨⟨bk151, bk141, ro, bk72, ix, bk147, bk148, bk149⟩, rfl, hro, hw.made .a rfl⟩)
end
end Go.Proofs.YtoibhfpagkdleaaGreatDoor
