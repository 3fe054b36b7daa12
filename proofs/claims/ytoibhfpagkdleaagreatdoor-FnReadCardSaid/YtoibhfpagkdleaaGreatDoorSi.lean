/-
  CONTRACTS: a blob is loaded.
  THE CALCULUS, PART 14: maps whose keys are numbers or pointers in interfaces.
-/
import Derived.Test.YtoibhfpagkdleaaGreatDoorGj
import Derived.LaidEqlPtr
namespace Go.Proofs.YtoibhfpagkdleaaGreatDoor
section
open Go
open Tryz
set_option maxRecDepth 100000

section
variable {P : Program} {w : World} {T : TypeId} {x y : Operand}
theorem b_add_u64 (a b : Nat) (h : a + b < 18446744073709551616) :
    (do eqGuard .add T x y (.int .u64 a) (.int .u64 b); binOp .add T (.int .u64 a) (.int .u64 b) : Sem Value).run P w = .ok (.int .u64 ((a + b : Nat) : Int)) w := by
  rw [eqGuard_add, binOp_add]
  have e : IntKind.u64.wrap ((a : Int) + b) = ((a + b : Nat) : Int) := by
    rw [show ((a : Int) + b) = ((a + b : Nat) : Int) by omega]
    exact wrap_u64 _ om
  simp only [Op.intArith, e]
  rfl
end
theorem Holds.ne_pick {S : Nat → Prop} {w0 w : World} {H H1 : Hp} (hw : Holds S w0 H w) {b c : Nat} {f g : Bool} {o p : Obj} (h : HPick H (b, f, o) H1) (h' : HMem H1 c g p) : b ≠ c := fun e => by
  have hn := (h.perm.map (·.1)).nodup_iff.1 hw.nodup
  rw [List.map_cons, List.nodup_cons] at hn
  exact hn.1 (List.mem_map.2 ⟨_, h'.mem, e.symm⟩)
/-- what a blob's records say, as the reader needs it -/
structure RecAt (o : Obj) (big : Bool) (off len toff sl N : Nat) (pos nm inf sz : Nat → Nat) : Prop where
  rec_ : ∀ k, k < N → pos k + 12 + dlen (inf k / 2 ^ 24 % 2 ^ 5) (inf k / 2 ^ 0 % 2 ^ 16) = pos (k + 1) ∧ pos (k + 1) ≤ len ∧ W4 o (off + pos k + 0) big (nm k) ∧ W4 o (off + pos k + 4) big (inf k) ∧ W4 o (off + pos k + 8) big (sz k) ∧ inf k / 2 ^ 24 % 2 ^ 5 ≠ 0 ∧ inf k / 2 ^ 24 % 2 ^ 5 ≤ 19
  k17 : ∀ k, k < N → inf k / 2 ^ 24 % 2 ^ 5 ≠ 17
  p0 : pos 0 = 0
  pN : pos N = len
  str : ∀ k, k < N → ∃ s, TextAt o toff sl (nm k) s
/-- a specification's blocks -/
def specH (big : Bool) (b sp st toff sl tcap tl bcap n : Nat) (z : Dec) : Hp := [(sp, true, .cells [.pointer (some ⟨z.d, 0, none⟩)].toArray 78 (0, 0)), (z.d, true, .cells (decC big st n z).toArray 90 (0, 0)), (z.sb, true, .cells [.slice (some ⟨b, 24, none⟩) tl bcap].toArray 224 (0, 0)), (st, true, .cells #[.pointer none, .slice (some ⟨b, toff, none⟩) sl tcap, .map none] 207 (0, 0)),
  (z.ro.g, true, .cells z.ro.cur.toArray 3 (0, 0)), (z.dt, true, .map #[] 0), (z.tm, true, .map #[] 0), (z.im, true, .map #[] 0), (z.lm, true, .map #[] 0)]

theorem f31_ok (big : Bool) (b len cap tl sl : Nat) (o : Obj) (N : Nat) (pos nm inf sz : Nat → Nat) (txs : List Nat) (hW : HeadAt o big tl sl) (hlen : len = 24 + tl + sl) (hlc : len ≤ cap) (h31 : len < 2147483648) (htp : 0 < tl) (hsp : 0 < sl) (hN : N ≤ 30) (hR : RecAt o big 24 tl (24 + tl) sl N pos nm inf sz) (htx : Bytes o (24 + tl) (0 :: txs)) (hxl : (0 :: txs).length = sl) (htl : (0 :: txs).getLast? = some 0) (w : World) (hb : w.heap[b]? = some o) :
    Calls Tryz.prog 31 #[.slice (some ⟨b, 0, none⟩) len cap, .pointer none] w (fun r w' => ∃ z : Nat × Nat × Dec, r = .returned (.tuple #[.pointer (some ⟨z.1, 0, none⟩), .nilIface]) ∧ RowOk 1 (some z.2.2.ro) (N + 1) (offV pos N) ∧ Fresh w (specH big b z.1 z.2.1 (24 + tl) sl (cap - 24 - tl) tl (cap - 24) (N + 1) z.2.2) w') := by
 refine sw_calls (S := noS) func31 rfl ntmps31 (sees2 _ _ _ rfl) (Holds.start1 _ _ hb) ?_
 refine SR fun _ k1 => ?_
 refine Ac ?_
 refine Ac ?_
 refine SN k1 ?_
 refine SR fun _ k2 => ?_
 refine Ac ?_
 refine SN k2 ?_
 refine SR fun _ k3 => ?_
 refine Ac ?_
 refine SN k3 ?_
 refine SR fun _ k4 => ?_
 refine Ac ?_
 refine SN k4 ?_
 refine Sq fun _ k5 => ?_
 refine SR fun _ k6 => ?_
 refine Mo ?_
 refine Sc (O_binOp rfl (.tmp .hit) .const (r := .bool false) (fun _ => rfl)) ?_
 refine SN k6 ?_
 refine Fh ?_
 refine SS k5 ?_
 refine Ek [8, 7, 6, 5, 4, 0] ?_
 refine SR fun _ k7 => ?_
 refine Mo ?_
 refine Sc (O_callN (val := fun z : Nat × Nat => .tuple #[.pointer (some ⟨z.1, 0, none⟩), .pointer (some ⟨z.2, 0, none⟩), boV big, .nilIface]) (N := fun z => [(z.1, true, .cells (headV 60319 24 0 tl tl sl).toArray 180 (0, 0))]) (good := fun _ => True) (xs := [.tmp 30]) (cap := []) rfl .func (.cons (.tmp .hit) .nil) func45 rfl rfl (fun w1 hw => f45_ok big b len cap o tl sl hW om hlc om w1 (hw.at_ .a))) ?_
 rintro ⟨hd, ly⟩ -
 dsimp only
 refine Mh ?_
 refine Sc Oex ?_
 refine Sc Oex ?_
 refine Sc Oex ?_
 refine Sc Oex ?_
 refine Ao ?_
 refine Ao ?_
 refine Ao ?_
 refine Ao ?_
 refine SN k7 ?_
 refine Ek [8, 11, 9, 7, 6, 5, 4, 0] ?_
 refine Sq fun _ k8 => ?_
 refine SR fun _ k9 => ?_
 refine Mh ?_
 refine Sc (O_binOp rfl (.tmp .hit) .const (r := .bool false) (fun _ => rfl)) ?_
 refine SN k9 ?_
 refine Fh ?_
 refine SS k8 ?_
 refine Ek [8, 11, 9, 7, 6, 5, 4, 0] ?_
 refine Sq fun _ k10 => ?_
 refine SR fun _ k11 => ?_
 refine Mo ?_
 refine Sc (O_nilCheck rfl (.tmp .hit)) ?_
 refine Sc (Ofa underlying180 sz73) ?_
 refine Sc (Ola oc73) ?_
 refine Mo ?_
 refine Sc (O_lenSlice rfl (.tmp .hit) underlying26 rfl) ?_
 refine Sc (O_convert rfl (.tmp .hit) (r := .int .u32 (len : Nat)) (fun _ => c_int ⟨_, underlying3⟩ underlying73 (wrap_u32 _ om))) ?_
 refine Sc (O_binOp rfl (.tmp (.o rfl)) (.tmp .hit) (r := .bool false) (fun _ => b_gtr _ _ _ false (decide_eq_false om))) ?_
 refine SN k11 ?_
 refine Fh ?_
 refine SS k10 ?_
 refine Ek [8, 11, 9, 7, 6, 5, 4, 0] ?_
 refine SR fun _ k12 => ?_
 refine Mo ?_
 refine Mo ?_
 refine Sc (O_nilCheck rfl (.tmp .hit)) ?_
 refine Sc (Ofa underlying180 sz73) ?_
 refine Sc (Ola oc73) ?_
 refine Sc (O_sliceLo 24 rfl (.tmp (.o rfl)) (.tmp .hit) rfl underlying26 sz5 hlc om om) ?_
 refine Ah ?_
 refine SN k12 ?_
 refine Ek [0, 8, 11, 9, 7, 6, 5, 4] ?_
 refine Sq fun _ k13 => ?_
 refine Sq fun _ k14 => ?_
 refine SW_da mixed ?_
 refine Ym 0 ?_
 refine Yn 1 ?_
 refine Yf 2 underlying180 sz73 ?_
 refine Yl 3 oc73 ?_
 refine Y1 4 57 rfl rfl (fun e H he hH => O_convert rfl (Eh he) (r := .int .u64 (tl : Nat)) (fun _ => c_int ⟨_, underlying73⟩ underlying57 (wrap_u64 _ om))) ?_
 refine Ym 5 ?_
 refine Yn 6 ?_
 refine Yf 7 underlying180 sz73 ?_
 refine Yl 8 oc73 ?_
 refine Y1 9 62 rfl rfl (fun e H he hH => O_convert rfl (Eh he) (r := .int .u64 (sl : Nat)) (fun _ => c_int ⟨_, underlying73⟩ underlying57 (wrap_u64 _ om))) ?_
 refine Y2 10 58 63 rfl rfl rfl (fun e H he hH => O_binOp rfl (Eh he) (Eo he) (fun _ => b_add_u64 tl sl om)) ?_
 refine Ym 11 ?_
 refine Y1 12 65 rfl rfl (fun e H he hH => O_lenSlice rfl (Eh he) underlying26 rfl) ?_
 refine Y1 13 66 rfl rfl (fun e H he hH => O_convert rfl (Eh he) (r := .int .u64 (len - 24 : Nat)) (fun _ => c_int ⟨_, underlying3⟩ underlying57 (wrap_u64 _ om))) ?_
 refine Y2 14 64 67 rfl rfl rfl (fun e H he hH => O_binOp rfl (Eh he) (Eo he) (r := .bool false) (fun _ => b_gtr _ _ _ false (decide_eq_false om))) ?_
 refine Ye ?_
 refine So k14 ?_
 refine Fh ?_
 refine SS k13 ?_
 refine Ek [0, 8, 11, 9, 7, 6, 5, 4] ?_
 refine Sq fun _ k15 => ?_
 refine SW_da mixed ?_
 refine Ym 0 ?_
 refine Ym 1 ?_
 refine Yn 2 ?_
 refine Yf 3 underlying180 sz73 ?_
 refine Yl 4 oc73 ?_
 refine Ym 5 ?_
 refine Yn 6 ?_
 refine Yf 7 underlying180 sz73 ?_
 refine Yl 8 oc73 ?_
 refine Ym 9 ?_
 refine Yn 10 ?_
 refine Yf 11 underlying180 sz73 ?_
 refine Yl 12 oc73 ?_
 refine Y2 13 78 82 rfl rfl rfl (fun e H he hH => O_binOp rfl (Eh he) (Eo he) (fun _ => b_add_u32 tl sl om)) ?_
 refine Y3 14 70 74 83 rfl rfl rfl rfl (fun e H he hH => O_sliceLoHi tl (tl + sl) rfl (Eh he) (Eo he) (Eo he) rfl rfl underlying26 sz5 om om om om) ?_
 refine Y1 15 84 rfl rfl (fun e H he hH => O_assign rfl (Eh he)) ?_
 refine Ye ?_
 refine So k15 ?_
 refine Ek [12, 0, 8, 11, 9, 7, 6, 5, 4] ?_
 refine SR fun _ k16 => ?_
 refine Mh ?_
 refine Mo ?_
 refine Sc (O_callN (val := fun z : Nat => .tuple #[.pointer (some ⟨z, 0, none⟩), .nilIface]) (good := fun _ => True) (xs := [.tmp 86, .tmp 87]) (cap := []) rfl .func (.cons (.tmp (.o rfl)) (.cons (.tmp .hit) .nil)) func47 rfl rfl (fun w1 hw => (f47_ok b _ _ _ o txs (by simpa using htx) om htl om w1 (hw.at_ .a)).mono (fun {r w2} q => by obtain ⟨z, q1, q2⟩ := q; exact ⟨z, q1, trivial, q2⟩))) ?_
 intro st _
 refine Mh ?_
 refine Sc Oex ?_
 refine Sc Oex ?_
 refine Ao ?_
 refine Ao ?_
 refine SN k16 ?_
 refine Ek [8, 13, 0, 11, 9, 6, 5, 4] ?_
 refine Sq fun _ k17 => ?_
 refine SR fun _ k18 => ?_
 refine Mh ?_
 refine Sc (O_binOp rfl (.tmp .hit) .const (r := .bool false) (fun _ => rfl)) ?_
 refine SN k18 ?_
 refine Fh ?_
 refine SS k17 ?_
 refine Ek [8, 13, 0, 11, 9, 6, 5, 4] ?_
 refine Sq fun _ k19 => ?_
 refine Sq fun _ k20 => ?_
 refine SW_da mixed ?_
 refine Ym 0 ?_
 refine Yn 1 ?_
 refine Yf 2 underlying180 sz73 ?_
 refine Yl 3 oc73 ?_
 refine Y1 4 97 rfl rfl (fun e H he hH => O_convert rfl (Eh he) (r := .int .u64 ((0 : Nat) : Int)) (fun _ => c_int ⟨_, underlying73⟩ underlying57 rfl)) ?_
 refine Ym 5 ?_
 refine Yn 6 ?_
 refine Yf 7 underlying180 sz73 ?_
 refine Yl 8 oc73 ?_
 refine Y1 9 102 rfl rfl (fun e H he hH => O_convert rfl (Eh he) (r := .int .u64 (tl : Nat)) (fun _ => c_int ⟨_, underlying73⟩ underlying57 (wrap_u64 _ om))) ?_
 refine Y2 10 98 103 rfl rfl rfl (fun e H he hH => O_binOp rfl (Eh he) (Eo he) (fun _ => b_add_u64 0 tl om)) ?_
 refine Ym 11 ?_
 refine Y1 12 105 rfl rfl (fun e H he hH => O_lenSlice rfl (Eh he) underlying26 rfl) ?_
 refine Y1 13 106 rfl rfl (fun e H he hH => O_convert rfl (Eh he) (r := .int .u64 (len - 24 : Nat)) (fun _ => c_int ⟨_, underlying3⟩ underlying57 (wrap_u64 _ om))) ?_
 refine Y2 14 104 107 rfl rfl rfl (fun e H he hH => O_binOp rfl (Eh he) (Eo he) (r := .bool false) (fun _ => b_gtr _ _ _ false (decide_eq_false om))) ?_
 refine Ye ?_
 refine So k20 ?_
 refine Fh ?_
 refine SS k19 ?_
 refine Ek [8, 13, 0, 11, 9, 6, 5, 4] ?_
 refine Sq fun _ k21 => ?_
 refine SW_da mixed ?_
 refine Ym 0 ?_
 refine Ym 1 ?_
 refine Yn 2 ?_
 refine Yf 3 underlying180 sz73 ?_
 refine Yl 4 oc73 ?_
 refine Ym 5 ?_
 refine Yn 6 ?_
 refine Yf 7 underlying180 sz73 ?_
 refine Yl 8 oc73 ?_
 refine Ym 9 ?_
 refine Yn 10 ?_
 refine Yf 11 underlying180 sz73 ?_
 refine Yl 12 oc73 ?_
 refine Y2 13 118 122 rfl rfl rfl (fun e H he hH => O_binOp rfl (Eh he) (Eo he) (r := .int .u32 ((0 + tl : Nat) : Int)) (fun _ => b_add_u32 0 tl om)) ?_
 refine Y3 14 110 114 123 rfl rfl rfl rfl (fun e H he hH => O_sliceLoHi 0 (0 + tl) rfl (Eh he) (Eo he) (Eo he) rfl rfl underlying26 sz5 om om om om) ?_
 refine Y1 15 124 rfl rfl (fun e H he hH => O_assign rfl (Eh he)) ?_
 refine Ye ?_
 refine So k21 ?_
 refine Ek [14, 8, 13, 11, 6, 5, 4] ?_
 refine SR fun _ k22 => ?_
 refine Mh ?_
 refine Mo ?_
 refine Mo ?_
 refine Mo ?_
 refine Sc (O_callN (xs := [.tmp 126, .tmp 127, .tmp 128, .tmp 129]) (cap := []) rfl .func (.cons (.tmp (.o rfl)) (.cons (.tmp (.o rfl)) (.cons (.tmp (.o rfl)) (.cons (.tmp .hit) .nil)))) func48 rfl rfl (fun w1 hw => f48_ok big b (0 + 24 * 1 + 0 * 1) (0 + tl - 0) (cap - 24 - 0) st (0 + 24 * 1 + tl * 1) (tl + sl - tl) (cap - 24 - tl) o N pos nm inf sz om om hN (by simpa using hR.rec_) hR.k17 hR.p0 (by simpa using hR.pN) (by simpa using hR.str) om om (hw.ne_pick HPick.a .a) w1 (hw.at_ .a) (hw.at_ .a))) ?_
 rintro z hz
 refine Mh ?_
 refine Sc Oex ?_
 refine Sc Oex ?_
 refine Ao ?_
 refine Ao ?_
 refine SN k22 ?_
 refine Ek [8, 15, 5, 4] ?_
 refine Sq fun _ k23 => ?_
 refine SR fun _ k24 => ?_
 refine Mh ?_
 refine Sc (O_binOp rfl (.tmp .hit) .const (r := .bool false) (fun _ => rfl)) ?_
 refine SN k24 ?_
 refine Fh ?_
 refine SS k23 ?_
 refine Ek [15, 5, 4] ?_
 refine SR fun _ k25 => ?_
 refine Mh ?_
 refine Sc (O_build (pv := [(0, _)]) (r := .agg #[.pointer (some ⟨z.d, 0, none⟩)]) rfl (.cons (.tmp .hit) .nil) (fun w => run_build w _ _ _ Q13)) ?_
 refine Sc (O_box rfl (.tmp .hit) rfl) ?_
 intro bk138 _
 refine Ah ?_
 refine Ac ?_
 refine SN k25 ?_
 refine Rt ?_
 refine Pl3 ?_
 exact SK_ret2 rfl (.o rfl) .hit (fun w hw => ⟨(bk138, st, z), rfl, hz, (by
   have q := hw.made (N := specH big b bk138 st (0 + 24 * 1 + tl * 1) (tl + sl - tl) (cap - 24 - tl) (0 + tl - 0) (cap - 24 - 0) (N + 1) z) .a rfl
   simpa [specH] using q)⟩)

theorem f12_ok (big : Bool) (b len cap tl sl : Nat) (o : Obj) (N : Nat) (pos nm inf sz : Nat → Nat) (txs : List Nat) (hW : HeadAt o big tl sl) (hlen : len = 24 + tl + sl) (hlc : len ≤ cap) (h31 : len < 2147483648) (htp : 0 < tl) (hsp : 0 < sl) (hN : N ≤ 30) (hR : RecAt o big 24 tl (24 + tl) sl N pos nm inf sz) (htx : Bytes o (24 + tl) (0 :: txs)) (hxl : (0 :: txs).length = sl) (htl : (0 :: txs).getLast? = some 0) (w : World) (hb : w.heap[b]? = some o) :
    Calls Tryz.prog 12 #[.slice (some ⟨b, 0, none⟩) len cap] w (fun r w' => ∃ z : Nat × Nat × Dec, r = .returned (.tuple #[.pointer (some ⟨z.1, 0, none⟩), .nilIface]) ∧ RowOk 1 (some z.2.2.ro) (N + 1) (offV pos N) ∧ Fresh w (specH big b z.1 z.2.1 (24 + tl) sl (cap - 24 - tl) tl (cap - 24) (N + 1) z.2.2) w') := by
 refine sw_calls (S := noS) func12 rfl ntmps12 (sees1 _ _ rfl) (Holds.start1 _ _ hb) ?_
 refine SR fun _ k1 => ?_
 refine Ac ?_
 refine Ac ?_
 refine SN k1 ?_
 refine SR fun _ k2 => ?_
 refine Mo ?_
 refine Sc (O_callN (xs := [.tmp 4, .const _]) (cap := []) rfl .func (.cons (.tmp .hit) (.cons .const .nil)) func31 rfl rfl (fun w1 hw => f31_ok big b len cap tl sl o N pos nm inf sz txs hW hlen hlc h31 htp hsp hN hR htx hxl htl w1 (hw.at_ .a))) ?_
 rintro ⟨sp, st, z⟩ hz
 refine Sc Oex ?_
 refine Sc Oex ?_
 refine Ao ?_
 refine Ao ?_
 refine SN k2 ?_
 refine Rt ?_
 refine Pl3 ?_
 exact SK_ret2 rfl (.o rfl) .hit (fun w hw => ⟨(sp, st, z), rfl, hz, hw.made .a rfl⟩)
end

section
open Go
open Tryz
set_option maxRecDepth 100000

/-! ### the object -/
def entsFrom : Nat → List (Value × Value) → List MapEntry
  | _, [] => []
  | i, (k, v) :: L => { key := k, val := v, born := i } :: entsFrom (i + 1) L
def mapO (L : List (Value × Value)) : Obj := .map (entsFrom 0 L).toArray L.length
theorem entsFrom_append (L M : List (Value × Value)) : ∀ i, entsFrom i (L ++ M) = entsFrom i L ++ entsFrom (i + L.length) M := by
  induction L with
  | nil => intro i; simp [entsFrom]
  | cons x L ih => intro i; simp only [List.cons_append, entsFrom, ih, List.length_cons]; rw [show i + 1 + L.length = i + (L.length + 1) by omega]
theorem mapO_nil : mapO [] = .map #[] 0 := rfl
theorem mapO_push (L : List (Value × Value)) (k v : Value) : Obj.map ((entsFrom 0 L).toArray.push { key := k, val := v, born := L.length }) (L.length + 1) = mapO (L ++ [(k, v)]) := by
  rw [mapO, entsFrom_append]; simp [entsFrom]

/-- the first entry of a key, by a test -/
def firstOf (q : Value → Bool) : Nat → List (Value × Value) → Option (Nat × Value)
  | _, [] => none
  | i, (k, v) :: L => if q k then some (i, v) else firstOf q (i + 1) L

theorem firstOf_none {q : Value → Bool} : ∀ {L : List (Value × Value)} {i : Nat}, (∀ p ∈ L, q p.1 = false) → firstOf q i L = none
  | [], _, _ => rfl
  | (k, v) :: L, i, h => by
    have h0 : q k = false := h (k, v) List.mem_cons_self
    rw [firstOf, h0]
    exact firstOf_none fun p hp => h p (List.mem_cons_of_mem _ hp)
theorem firstOf_some {q : Value → Bool} : ∀ {L : List (Value × Value)} {i : Nat} {k v : Value}, (k, v) ∈ L → q k = true → (∀ p ∈ L, q p.1 = true → p = (k, v)) → ∃ j, firstOf q i L = some (i + j, v) ∧ L[j]? = some (k, v)
  | (k', v') :: L, i, k, v, hm, hq, hu => by
    by_cases h0 : q k' = true
    · have := hu (k', v') List.mem_cons_self h0
      injection this with e1 e2
      subst e1 e2
      exact ⟨0, by simp [firstOf, h0], rfl⟩
    have hm' : (k, v) ∈ L := by
      rcases List.mem_cons.1 hm with h | h
      · injection h with e1 e2; subst e1; exact absurd hq h0
      exact h
    obtain ⟨j, h1, h2⟩ := firstOf_some (i := i + 1) hm' hq fun p hp => hu p (List.mem_cons_of_mem _ hp)
    refine ⟨j + 1, ?_, by simpa using h2⟩
    simp only [Bool.not_eq_true] at h0
    rw [firstOf, h0]
    simp only [Bool.false_eq_true, if_false]
    rw [h1]
    congr 2
    omega

section
variable {P : Program} {w : World}
/-! ### keys that are numbers -/
theorem findNow_int {kd : IntKind} {a : Int} {q : IntKind} : ∀ (L : List (Value × Value)) (i j : Nat), (∀ p ∈ L, ∃ b, p.1 = .int kd b) → Instr.findNow (.int q) (.int kd a) (entsFrom j L) i = some (firstOf (fun k => match k with | .int _ b => a == b | _ => false) i L)
  | [], _, _, _ => rfl
  | (k, v) :: L, i, j, h => by
    obtain ⟨b, hb⟩ := h (k, v) List.mem_cons_self
    simp only at hb
    subst hb
    simp only [entsFrom, Instr.findNow, Instr.sameNow, if_true, firstOf]
    by_cases hab : a = b
    · simp [hab]
    simp only [beq_eq_false_iff_ne.2 hab]
    exact findNow_int L (i + 1) (j + 1) fun p hp => h p (List.mem_cons_of_mem _ hp)

/-! ### keys that are pointers in interfaces -/
/-- a pointer's type, to something that has a cell -/
def PtrT (P : Program) (a : TypeId) : Prop := ∃ e i j, P.underlying a = some (.pointer e) ∧ P.info? a = some i ∧ i.comparable = true ∧ P.info? e = some j ∧ j.size ≠ 0
/-- a key: a pointer to the first cell of a block of cells; or the pointer of type v that leads nowhere -/
def KeyOk (P : Program) (vt : TypeId) (w : World) (k : Value) : Prop :=
  (k = .iface vt (.pointer none)) ∨ ∃ a b cs E, k = .iface a (.pointer (some ⟨b, 0, none⟩)) ∧ a ≠ vt ∧ PtrT P a ∧ w.heap[b]? = some (.cells cs E (0, 0))
/-- the type of the pointer that leads nowhere -/
def NilT (P : Program) (vt : TypeId) : Prop := ∃ e i, P.underlying vt = some (.pointer e) ∧ P.info? vt = some i ∧ i.comparable = true

/-- are two keys the same? -/
def sameK : Value → Value → Bool
  | .iface a (.pointer p), .iface b (.pointer q) => decide (a = b ∧ p = q)
  | _, _ => false
theorem sameK_iff {vt : TypeId} {k l : Value} (hk : KeyOk P vt w k) (hl : KeyOk P vt w l) : sameK k l = true ↔ k = l := by
  rcases hk with rfl | ⟨a, b, cs, E, rfl, _⟩ <;> rcases hl with rfl | ⟨a', b', cs', E', rfl, _⟩ <;> simp [sameK]

theorem eq_iface_ne {T : TypeId} {ms : Array (String × TypeId)} (hT : P.underlying T = some (.interface ms)) {a b : TypeId} {v u : Value} (hab : a ≠ b) (d : Nat) : (Op.equalIn (d + 1) T (.iface a v) (.iface b u)).run P w = .ok false w := by
  rw [Op.equalIn]
  simp only [Sem.run_bind, run_underlying hT, Result.andThen_ok, ne_eq, hab, not_false_eq_true, if_true, Sem.run_pure]
theorem eq_iface_eq {T : TypeId} {ms : Array (String × TypeId)} (hT : P.underlying T = some (.interface ms)) {a : TypeId} {i : TypeInfo} (hi : P.info? a = some i) (hc : i.comparable = true) {v u : Value} (d : Nat) :
    (Op.equalIn (d + 1) T (.iface a v) (.iface a u)).run P w = (Op.equalIn d a v u).run P w := by
  rw [Op.equalIn]
  have hti : (typeInfo a).run P w = .ok i w := by simp [typeInfo, hi]
  simp only [Sem.run_bind, run_underlying hT, Result.andThen_ok, ne_eq, not_true_eq_false, if_false, hti, hc, Bool.not_true, Bool.false_eq_true]
theorem run_equal_key {T vt : TypeId} {ms : Array (String × TypeId)} (hT : P.underlying T = some (.interface ms)) (hv : NilT P vt) {k l : Value} (hk : KeyOk P vt w k) (hl : KeyOk P vt w l) :
    (Op.equal T k l).run P w = .ok (sameK k l) w := by
  have key : ∀ d : Nat, (Op.equalIn (d + 1 + 1) T k l).run P w = .ok (sameK k l) w := fun d => by
    obtain ⟨ve, vi, hv1, hv2, hv3⟩ := hv
    rcases hk with rfl | ⟨a, b, cs, E, rfl, hna, ⟨e, i, j, h1, h2, h3, h4, h5⟩, hb⟩ <;> rcases hl with rfl | ⟨a', b', cs', E', rfl, hna', ⟨e', i', j', h1', h2', h3', h4', h5'⟩, hb'⟩
    · rw [eq_iface_eq hT hv2 hv3, Op.equalIn]
      simp only [Sem.run_bind, run_underlying hv1, Result.andThen_ok, Sem.run_pure, sameK]
      rfl
    · have hne : vt ≠ a' := fun h => hna' h.symm
      rw [eq_iface_ne hT hne]
      simp only [sameK, hne, false_and, decide_false]
    · rw [eq_iface_ne hT hna]
      simp only [sameK, hna, false_and, decide_false]
    by_cases haa : a = a'
    · subst haa
      have hsz : (sizeOf e).run P w = .ok j.size w := by simp [sizeOf, typeInfo, h4]
      rw [eq_iface_eq hT h2 h3, Op.equalIn]
      simp only [Sem.run_bind, run_underlying h1, Result.andThen_ok, hsz, ne_eq, h5, not_false_eq_true, if_true]
      by_cases hbb : b = b'
      · subst hbb
        rw [run_sameAddr_same]
        simp [sameK]
      have hne : (⟨b, 0, none⟩ : Addr) ≠ ⟨b', 0, none⟩ := fun h => by injection h with h; exact hbb h
      rw [run_sameAddr_other (P := P) w hne hb hb']
      simp [sameK]
    rw [eq_iface_ne hT haa]
    simp only [sameK, haa, false_and, decide_false]
  exact key 9998

theorem run_findAsking {T vt : TypeId} {ms : Array (String × TypeId)} (hT : P.underlying T = some (.interface ms)) (hv : NilT P vt) {k : Value} (hk : KeyOk P vt w k) : ∀ (L : List (Value × Value)) (i j : Nat), (∀ p ∈ L, KeyOk P vt w p.1) →
    (Instr.findAsking T k (entsFrom j L) i).run P w = .ok (firstOf (sameK k) i L) w
  | [], _, _, _ => rfl
  | (l, v) :: L, i, j, h => by
    have he := run_equal_key hT hv hk (h (l, v) List.mem_cons_self)
    have ih := run_findAsking hT hv hk L (i + 1) (j + 1) fun p hp => h p (List.mem_cons_of_mem _ hp)
    simp only at he
    simp only [entsFrom, Instr.findAsking, Sem.run_bind, he, Result.andThen_ok, firstOf]
    cases sameK k l
    · simp only [Bool.false_eq_true, if_false]; exact ih
    rfl
theorem run_findKey_iface {T vt : TypeId} {ms : Array (String × TypeId)} (hT : P.underlying T = some (.interface ms)) (hv : NilT P vt) {k : Value} (hk : KeyOk P vt w k) (L : List (Value × Value)) (h : ∀ p ∈ L, KeyOk P vt w p.1) :
    (Instr.findKey T k (entsFrom 0 L)).run P w = .ok (firstOf (sameK k) 0 L) w := by
  cases L with
  | nil => simp [Instr.findKey, run_underlying hT, entsFrom, Instr.findNow, firstOf]
  | cons p L =>
    have hn : Instr.findNow (.interface ms) k (entsFrom 0 (p :: L)) 0 = none := by
      obtain ⟨l, v⟩ := p
      simp only [entsFrom, Instr.findNow, Instr.sameNow]
    simp only [Instr.findKey, Sem.run_bind, run_underlying hT, Result.andThen_ok, hn]
    exact run_findAsking hT hv hk (p :: L) 0 0 h
theorem run_findKey_int {T : TypeId} {q kd : IntKind} {a : Int} (hT : P.underlying T = some (.int q)) (L : List (Value × Value)) (h : ∀ p ∈ L, ∃ b, p.1 = .int kd b) :
    (Instr.findKey T (.int kd a) (entsFrom 0 L)).run P w = .ok (firstOf (fun k => match k with | .int _ b => a == b | _ => false) 0 L) w := by
  simp [Instr.findKey, run_underlying hT, findNow_int L 0 0 h]
theorem run_checkKey_int {e : Bool} {T : TypeId} {q kd : IntKind} {a : Int} (hT : P.underlying T = some (.int q)) : (Instr.checkKey e 10000 T (.int kd a)).run P w = .ok () w := by
  have key : ∀ d : Nat, (Instr.checkKey e (d + 1) T (.int kd a)).run P w = .ok () w := fun d => by simp [Instr.checkKey, run_underlying hT]
  exact key 9999
theorem run_checkKey_iface {e : Bool} {T vt : TypeId} {ms : Array (String × TypeId)} (hT : P.underlying T = some (.interface ms)) (hv : NilT P vt) {k : Value} (hk : KeyOk P vt w k) : (Instr.checkKey e 10000 T k).run P w = .ok () w := by
  have key : ∀ d : Nat, (Instr.checkKey e (d + 1 + 1) T k).run P w = .ok () w := fun d => by
    obtain ⟨ve, vi, hv1, hv2, hv3⟩ := hv
    rcases hk with rfl | ⟨a, b, cs, E, rfl, hna, ⟨e', i, j, h1, h2, h3, h4, h5⟩, hb⟩
    · simp [Instr.checkKey, run_underlying hT, typeInfo, hv2, hv3, run_underlying hv1]
    simp [Instr.checkKey, run_underlying hT, typeInfo, h2, h3, run_underlying h1]
  exact key 9998
end

/-! ### the operations -/
section
variable {P : Program} {w : World}
theorem run_getO {b : Nat} {L : List (Value × Value)} (hb : w.heap[b]? = some (mapO L)) : (getObj b).run P w = .ok (mapO L) w := by simp [getObj, Sem.run, hb, mapO]
theorem run_setO {b : Nat} {L : List (Value × Value)} (o' : Obj) (hb : w.heap[b]? = some (mapO L)) : (setObj b o').run P w = .ok () (w.putObj b o') := by simp [setObj, Sem.run, hb, World.putObj, mapO]
/-- what a look-up yields -/
def lookRes (c : Bool) (z : Value) : Option (Nat × Value) → Value
  | some (_, v) => if c then .tuple #[v, .bool true] else v
  | none => if c then .tuple #[z, .bool false] else z
theorem run_lookup {T K E : TypeId} {b : Nat} {L : List (Value × Value)} {k z : Value} {c : Bool} {r : Option (Nat × Value)} (hT : P.underlying T = some (.map K E)) (hb : w.heap[b]? = some (mapO L)) (hck : ∀ e, (Instr.checkKey e 10000 K k).run P w = .ok () w)
    (hfk : (Instr.findKey K k (entsFrom 0 L)).run P w = .ok r w) (hz : Zr P E z) :
    (Instr.lookup T (.map (some b)) k c).run P w = .ok (lookRes c z r) w := by
  have hg : (getObj b).run P w = .ok (.map (entsFrom 0 L).toArray L.length) w := run_getO hb
  simp only [Instr.lookup, Sem.run_bind, run_underlying hT, Result.andThen_ok, hg, Sem.run_pure, hck, hfk]
  cases r with
  | none => simp [run_zero hz, lookRes]
  | some p => obtain ⟨i, v⟩ := p; simp [lookRes]
theorem run_update_new {T K E : TypeId} {b : Nat} {L : List (Value × Value)} {k v : Value} (hT : P.underlying T = some (.map K E)) (hb : w.heap[b]? = some (mapO L)) (hck : ∀ e, (Instr.checkKey e 10000 K k).run P w = .ok () w)
    (hfk : (Instr.findKey K k (entsFrom 0 L)).run P w = .ok none w) :
    (Instr.mapUpdate T (.map (some b)) k v).run P w = .ok () (w.putObj b (mapO (L ++ [(k, v)]))) := by
  have hg : (getObj b).run P w = .ok (.map (entsFrom 0 L).toArray L.length) w := run_getO hb
  have hs := run_setO (P := P) (mapO (L ++ [(k, v)])) hb
  simp only [Instr.mapUpdate, Sem.run_bind, run_underlying hT, Result.andThen_ok, hg, hck, hfk, mapO_push, hs]
theorem entsFrom_get : ∀ {L : List (Value × Value)} {i j : Nat} {k v : Value}, L[j]? = some (k, v) → (entsFrom i L)[j]? = some { key := k, val := v, born := i + j }
  | (k', v') :: L, i, 0, k, v, h => by simp at h; simp [entsFrom, h.1, h.2]
  | (k', v') :: L, i, j + 1, k, v, h => by
    have := entsFrom_get (i := i + 1) (j := j) (k := k) (v := v) Q48
    simp only [entsFrom, List.getElem?_cons_succ, this]
    congr 2; omega
theorem sameBits_iface {a : TypeId} {p : Option Addr} : Instr.sameBits 10000 (.iface a (.pointer p)) (.iface a (.pointer p)) = true := by
  have key : ∀ d : Nat, Instr.sameBits (d + 1 + 1) (.iface a (.pointer p)) (.iface a (.pointer p)) = true := fun d => by simp [Instr.sameBits]
  exact key 9998
theorem run_update_same {T K E : TypeId} {b i : Nat} {L : List (Value × Value)} {k v : Value} (hT : P.underlying T = some (.map K E)) (hb : w.heap[b]? = some (mapO L)) (hck : ∀ e, (Instr.checkKey e 10000 K k).run P w = .ok () w)
    (hfk : (Instr.findKey K k (entsFrom 0 L)).run P w = .ok (some (i, v)) w) (hi : L[i]? = some (k, v)) (hsb : Instr.sameBits 10000 k k = true) :
    (Instr.mapUpdate T (.map (some b)) k v).run P w = .ok () (w.putObj b (mapO L)) := by
  have hg : (getObj b).run P w = .ok (.map (entsFrom 0 L).toArray L.length) w := run_getO hb
  have he : (entsFrom 0 L)[i]? = some { key := k, val := v, born := 0 + i } := entsFrom_get hi
  have hm : ((entsFrom 0 L).toArray.modify i fun e => { e with key := k, val := v }) = (entsFrom 0 L).toArray := by
    apply Array.ext_getElem?
    intro j
    rw [Array.getElem?_modify]
    split
    · rename_i hij
      subst hij
      rw [List.getElem?_toArray, he]
      rfl
    rfl
  have hs := run_setO (P := P) (mapO L) hb
  have hke : ((((entsFrom 0 L).toArray[i]?).map (·.key)).getD k) = k := by rw [List.getElem?_toArray, he]; rfl
  simp only [Instr.mapUpdate, Sem.run_bind, run_underlying hT, Result.andThen_ok, hg, hck, hfk, hke, Instr.keyThatStays, hsb, if_true, Sem.run_pure, hm]
  exact hs
end

section
variable {ro : Option Nat} {P : Program} {S : Nat → Prop} {w0 : World} {n : Nat} {ds : List Deferred} {H H' : Hp} {e e' : Env} {Q : Exit → Act → World → Prop}
variable {d : Nat} {ty : TypeId} {pos : String} {aft : Array Edge} {x y z : Operand} {v u : Value}
/-- a number is looked up -/
theorem O_lookI {T K E : TypeId} {b : Nat} {L : List (Value × Value)} {q kd : IntKind} {a : Int} {f : Bool} {zv r : Value} {c : Bool} (hd : Nat.blt d n = true) (hx : Ev e x (.map (some b))) (hy : Ev e y (.int kd a)) (hm : HMem H b f (mapO L)) (hT : P.underlying T = some (.map K E)) (hK : P.underlying K = some (.int q)) (hz : Zr P E zv)
    (hL : ∀ p ∈ L, ∃ b, p.1 = .int kd b)
    (hr : (((.int kd a, v) ∈ L ∧ ∀ p ∈ L, p.1 = .int kd a → p = (.int kd a, v)) ∧ r = (if c then .tuple #[v, .bool true] else v)) ∨ ((∀ p ∈ L, p.1 ≠ .int kd a) ∧ r = (if c then .tuple #[zv, .bool false] else zv))) :
    OT ro P S w0 n ds H e ⟨some d, .lookup T x y c, ty, pos, aft, none⟩ (fun X => X ((d, r) :: e) H) :=
  OT_pure hd (fun _ h => by cases h) fun a' w ha hw => by
    have hfk := run_findKey_int (P := P) (w := w) (a := a) hK L hL
    have hlk := run_lookup (P := P) (w := w) (c := c) hT (hw.at_ hm) (fun e => run_checkKey_int (e := e) (a := a) (kd := kd) hK) hfk hz
    have hres : lookRes c zv (firstOf (fun k => match k with | .int _ b => a == b | _ => false) 0 L) = r := by
      rcases hr with ⟨⟨h1, h2⟩, rfl⟩ | ⟨h1, rfl⟩
      · obtain ⟨j, h3, _⟩ := firstOf_some (q := fun k => match k with | .int _ b => a == b | _ => false) (i := 0) h1 Q22 (fun p hp hq => by
          obtain ⟨b', hb'⟩ := hL p hp
          rw [hb'] at hq
          simp only [beq_iff_eq] at hq
          exact h2 p hp (by rw [hb', hq]))
        rw [h3]; rfl
      rw [firstOf_none (fun p hp => by
        obtain ⟨b', hb'⟩ := hL p hp
        have := h1 p hp
        rw [hb'] at this ⊢
        simp only [beq_eq_false_iff_ne, ne_eq]
        intro h; exact this (by rw [h]))]
      rfl
    rw [hres] at hlk
    simp only [execOp, ha.ev hx, ha.ev hy, Sem.run_bind, hlk, Result.andThen_ok, Sem.run_pure]
/-- a number is put that is not there -/
theorem O_putI {T K E : TypeId} {b : Nat} {L : List (Value × Value)} {q kd : IntKind} {a : Int} (hx : Ev e x (.map (some b))) (hy : Ev e y (.int kd a)) (hz : Ev e z v) (hT : P.underlying T = some (.map K E)) (hK : P.underlying K = some (.int q))
    (hL : ∀ p ∈ L, ∃ b, p.1 = .int kd b) (hn : ∀ p ∈ L, p.1 ≠ .int kd a) (hs : HSet H b (mapO L) (mapO (L ++ [(.int kd a, v)])) H') :
    OT ro P S w0 n ds H e ⟨none, .mapUpdate T x y z, ty, pos, aft, none⟩ (fun X => X e H') :=
  OT_do (fun _ h => by cases h) fun a' w ha hw => by
    have hb : w.heap[b]? = some (mapO L) := (hw.has _ hs.mem).1
    have hfk := run_findKey_int (P := P) (w := w) (a := a) hK L hL
    rw [firstOf_none (fun p hp => by
          obtain ⟨b', hb'⟩ := hL p hp
          have := hn p hp
          rw [hb'] at this ⊢
          simp only [beq_eq_false_iff_ne, ne_eq]
          intro h; exact this (by rw [h]))] at hfk
    have hr := run_update_new (P := P) (v := v) hT hb (fun e => run_checkKey_int (e := e) (a := a) (kd := kd) hK) hfk
    refine ⟨_, by simp only [execOp, ha.ev hx, ha.ev hy, ha.ev hz, Sem.run_bind, hr, Result.andThen_ok, Sem.run_pure], hw.put hs⟩
/-- a pointer is looked up that is there -/
theorem O_lookK {T K E vt : TypeId} {b : Nat} {L : List (Value × Value)} {ms : Array (String × TypeId)} {k : Value} {f : Bool} {zv : Value} (hd : Nat.blt d n = true) (hx : Ev e x (.map (some b))) (hy : Ev e y k) (hm : HMem H b f (mapO L)) (hT : P.underlying T = some (.map K E)) (hK : P.underlying K = some (.interface ms)) (hv : NilT P vt) (hz : Zr P E zv)
    (hL : ∀ w, Holds S w0 H w → KeyOk P vt w k ∧ ∀ p ∈ L, KeyOk P vt w p.1) (h1 : (k, v) ∈ L) (h2 : ∀ p ∈ L, p.1 = k → p = (k, v)) :
    OT ro P S w0 n ds H e ⟨some d, .lookup T x y true, ty, pos, aft, none⟩ (fun X => X ((d, .tuple #[v, .bool true]) :: e) H) :=
  OT_pure hd (fun _ h => by cases h) fun a' w ha hw => by
    obtain ⟨hk, hLk⟩ := hL w hw
    have hfk := run_findKey_iface (P := P) (w := w) hK hv hk L hLk
    obtain ⟨j, h3, _⟩ := firstOf_some (q := sameK k) (i := 0) h1 ((sameK_iff hk hk).2 rfl) (fun p hp hq => h2 p hp ((sameK_iff hk (hLk p hp)).1 hq).symm)
    rw [h3] at hfk
    have hlk := run_lookup (P := P) (w := w) (c := true) hT (hw.at_ hm) (fun e => run_checkKey_iface (e := e) hK hv hk) hfk hz
    simp only [execOp, ha.ev hx, ha.ev hy, Sem.run_bind, hlk, Result.andThen_ok, Sem.run_pure, lookRes, if_true]
/-- a pointer is put: the list grows by it, or it was there -/
def putK (L : List (Value × Value)) (k v : Value) : List (Value × Value) := if L.any (fun p => sameK k p.1) then L else L ++ [(k, v)]
theorem O_putK {T K E vt : TypeId} {b : Nat} {L : List (Value × Value)} {ms : Array (String × TypeId)} {k : Value} (hx : Ev e x (.map (some b))) (hy : Ev e y k) (hz : Ev e z v) (hT : P.underlying T = some (.map K E)) (hK : P.underlying K = some (.interface ms)) (hv : NilT P vt)
    (hL : ∀ w, Holds S w0 H w → KeyOk P vt w k ∧ ∀ p ∈ L, KeyOk P vt w p.1) (h2 : ∀ p ∈ L, p.1 = k → p = (k, v)) (hs : HSet H b (mapO L) (mapO (putK L k v)) H') :
    OT ro P S w0 n ds H e ⟨none, .mapUpdate T x y z, ty, pos, aft, none⟩ (fun X => X e H') :=
  OT_do (fun _ h => by cases h) fun a' w ha hw => by
    obtain ⟨hk, hLk⟩ := hL w hw
    have hb : w.heap[b]? = some (mapO L) := (hw.has _ hs.mem).1
    have hfk := run_findKey_iface (P := P) (w := w) hK hv hk L hLk
    have hr : (Instr.mapUpdate T (.map (some b)) k v).run P w = .ok () (w.putObj b (mapO (putK L k v))) := by
      by_cases hany : L.any (fun p => sameK k p.1) = true
      · obtain ⟨p, hp, hq⟩ := List.any_eq_true.1 hany
        have hpk := ((sameK_iff hk (hLk p hp)).1 hq).symm
        have hpe := h2 p hp hpk
        subst hpe
        obtain ⟨j, h3, h4⟩ := firstOf_some (q := sameK k) (i := 0) hp ((sameK_iff hk hk).2 rfl) (fun p hp hq => h2 p hp ((sameK_iff hk (hLk p hp)).1 hq).symm)
        rw [h3] at hfk
        rw [putK, if_pos hany]
        refine run_update_same hT hb (fun e => run_checkKey_iface (e := e) hK hv hk) hfk (by simpa using h4) ?_
        rcases hk with rfl | ⟨a, b, cs, E, rfl, _⟩ <;> exact sameBits_iface
      have hall : ∀ p ∈ L, sameK k p.1 = false := fun p hp => by
        cases hh : sameK k p.1 with
        | false => rfl
        | true => exact absurd (List.any_eq_true.2 ⟨p, hp, hh⟩) hany
      rw [firstOf_none hall] at hfk
      rw [putK, if_neg hany]
      exact run_update_new hT hb (fun e => run_checkKey_iface (e := e) hK hv hk) hfk
    refine ⟨_, by simp only [execOp, ha.ev hx, ha.ev hy, ha.ev hz, Sem.run_bind, hr, Result.andThen_ok, Sem.run_pure], hw.put hs⟩
/-- is it of this type? -/
theorem O_isT {tx t T : TypeId} {zv : Value} {D : TypeDesc} (hd : Nat.blt d n = true) (hx : Ev e x (.iface t v)) (hT : P.underlying T = some D) (hD : (match D with | .interface _ => false | _ => true) = true) (hz : Zr P T zv) :
    OT ro P S w0 n ds H e ⟨some d, .typeAssert x tx T true, ty, pos, aft, none⟩ (fun X => X ((d, if t = T then .tuple #[v, .bool true] else .tuple #[zv, .bool false]) :: e) H) :=
  OT_pure hd (fun _ h => by cases h) fun a w ha _ => by
    have hr : (Instr.typeAssert (.iface t v) tx T true).run P w = .ok (if t = T then .tuple #[v, .bool true] else .tuple #[zv, .bool false]) w := by
      simp only [Instr.typeAssert, Sem.run_bind, run_underlying hT, Result.andThen_ok]
      cases D <;> first | (simp at hD; done) | (by_cases h : t = T <;> simp [h, run_zero hz])
    simp only [execOp, ha.ev hx, Sem.run_bind, hr, Result.andThen_ok, Sem.run_pure]
theorem O_isTt {tx T : TypeId} {D : TypeDesc} {zv : Value} (hd : Nat.blt d n = true) (hx : Ev e x (.iface T v)) (hT : P.underlying T = some D) (hD : (match D with | .interface _ => false | _ => true) = true) (hz : Zr P T zv) :
    OT ro P S w0 n ds H e ⟨some d, .typeAssert x tx T true, ty, pos, aft, none⟩ (fun X => X ((d, .tuple #[v, .bool true]) :: e) H) := by
  have h := O_isT (ro := ro) (S := S) (w0 := w0) (n := n) (ds := ds) (H := H) (e := e) (d := d) (ty := ty) (pos := pos) (aft := aft) (tx := tx) hd hx hT hD hz
  rw [if_pos rfl] at h
  exact h
theorem O_isTf {tx t T : TypeId} {D : TypeDesc} {zv : Value} (hd : Nat.blt d n = true) (hx : Ev e x (.iface t v)) (hT : P.underlying T = some D) (hD : (match D with | .interface _ => false | _ => true) = true) (hz : Zr P T zv) (hne : Nat.beq t T = false := by rfl) :
    OT ro P S w0 n ds H e ⟨some d, .typeAssert x tx T true, ty, pos, aft, none⟩ (fun X => X ((d, .tuple #[zv, .bool false]) :: e) H) := by
  have h := O_isT (ro := ro) (S := S) (w0 := w0) (n := n) (ds := ds) (H := H) (e := e) (d := d) (ty := ty) (pos := pos) (aft := aft) (tx := tx) hd hx hT hD hz
  rw [if_neg (fun e => by subst e; simp at hne)] at h
  exact h
theorem HMem.of_mem {b : Nat} {f : Bool} {o : Obj} : ∀ {H : Hp}, (b, f, o) ∈ H → HMem H b f o
  | x :: H, h => by
    by_cases hx : (b, f, o) = x
    · subst hx; exact .hit
    exact .skip (HMem.of_mem (by rcases List.mem_cons.1 h with h | h; exact absurd h hx; exact h))
end
end
end Go.Proofs.YtoibhfpagkdleaaGreatDoor
