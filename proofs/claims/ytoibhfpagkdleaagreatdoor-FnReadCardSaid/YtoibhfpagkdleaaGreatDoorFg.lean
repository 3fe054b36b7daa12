/-
  CONTRACT: the header of a blob is read.
  CONTRACTS: hashes, places of texts, the index of names.
-/
import Derived.Test.YtoibhfpagkdleaaGreatDoorSk
import Derived.Test.YtoibhfpagkdleaaGreatDoorSo
namespace Go.Proofs.YtoibhfpagkdleaaGreatDoor
section
open Go
open Tryz
set_option maxRecDepth 100000

section
variable {ro : Option Nat} {P : Program} {S : Nat → Prop} {w0 : World} {n : Nat} {ds : List Deferred} {H : Hp} {e : Env} {d : Nat} {ty : TypeId} {pos : String} {aft : Array Edge} {x : Operand}
theorem O_loadZ {T : TypeId} {fs : Array Field} {p : Addr} (hd : Nat.blt d n = true) (hx : Ev e x (.pointer (some p))) (hT : P.underlying T = some (.struct fs)) (hk : Sz P T 0) :
    OT ro P S w0 n ds H e ⟨some d, .load T x, ty, pos, aft, none⟩ (fun X => X ((d, .agg #[]) :: e) H) :=
  OT_pure hd (fun _ h => by cases h) fun a w ha _ => by
    simp [execOp, ha.ev hx, Instr.loadAt, Instr.sureAddr, loadVar, run_isAgg_struct hT, run_size hk, loadCells, loadCellsFrom]
end
/-- what a header says, read in an order of bytes -/
def HeadAt (o : Obj) (big : Bool) (tl sl : Nat) : Prop := ∀ ob : Bool, ∃ m x1 x2 x3 x4 x5 : Nat, W2 o 0 ob m ∧ cellOf o 2 = some (.int .u8 1) ∧ cellOf o 3 = some (.int .u8 0) ∧ W4 o 4 ob x1 ∧ W4 o 8 ob x2 ∧ W4 o 12 ob x3 ∧ W4 o 16 ob x4 ∧ W4 o 20 ob x5 ∧
  (ob = big → m = 60319 ∧ x1 = 24 ∧ x2 = 0 ∧ x3 = tl ∧ x4 = tl ∧ x5 = sl) ∧ (ob ≠ big → m ≠ 60319)
abbrev headV (m x1 x2 x3 x4 x5 : Nat) : List Value := [.int .u16 (m : Nat), .int .u8 1, .int .u8 0, .int .u32 (x1 : Nat), .int .u32 (x2 : Nat), .int .u32 (x3 : Nat), .int .u32 (x4 : Nat), .int .u32 (x5 : Nat)]

set_option maxHeartbeats 4000000 in
theorem f45_ok (big : Bool) (b len cap : Nat) (o : Obj) (tl sl : Nat) (hW : HeadAt o big tl sl) (hl : 25 ≤ len) (hc : len ≤ cap) (h62 : len < 4611686018427387904) (w : World) (hb : w.heap[b]? = some o) :
    Calls Tryz.prog 45 #[.slice (some ⟨b, 0, none⟩) len cap] w (fun r w' => ∃ z : Nat × Nat, r = .returned (.tuple #[.pointer (some ⟨z.1, 0, none⟩), .pointer (some ⟨z.2, 0, none⟩), boV big, .nilIface]) ∧ True ∧ Fresh w [(z.1, true, .cells (headV 60319 24 0 tl tl sl).toArray 180 (0, 0))] w') := by
 refine sw_calls (S := noS) func45 rfl ntmps45 (sees1 _ _ rfl) (Holds.start1 _ _ hb) ?_
 refine SR fun _ k1 => ?_
 refine Ac ?_
 refine Ac ?_
 refine Ac ?_
 refine Ac ?_
 refine SN k1 ?_
 refine SR fun _ k2 => ?_
 refine Sc (O_alloc rfl zr180 rfl) ?_
 intro bk6 _
 refine SN k2 ?_
 refine SR fun _ k3 => ?_
 refine Ac ?_
 refine SN k3 ?_
 refine Sq fun _ k4 => ?_
 refine SR fun _ k5 => ?_
 refine Sc (O_loadZ rfl .global underlying196 sz196) ?_
 refine Sc (O_makeInterface rfl (.tmp .hit) ⟨_, underlying196, rfl⟩) ?_
 refine Sc (O_loadZ rfl .global underlying182 sz182) ?_
 refine Sc (O_makeInterface rfl (.tmp .hit) ⟨_, underlying182, rfl⟩) ?_
 refine Sc (O_buildSlice (cs := #[boV false, boV true]) (pv := [(0, boV false), (1, boV true)]) rfl (.cons (.tmp (.o rfl)) (.cons (.tmp .hit) .nil)) underlying197 sz80 zr80 dc dc kr) ?_
 intro bk20 _
 refine Sc (O_lenSlice rfl (.tmp .hit) underlying197 rfl) ?_
 refine Mc ?_
 refine SN k5 ?_
 refine Bl ?_
 refine SW_loop (α := Nat × List Value) (fun x => x.1 ≤ 1 ∧ (x.1 = 1 → big = true) ∧ x.2.length = 8) (fun x => 2 - x.1) (fun x => (bk20, true, .cells #[boV false, boV true] 80 (0, 0)) :: (bk6, true, .cells x.2.toArray 180 (0, 0)) :: (b, false, o) :: []) (fun x => [(22, .int .i64 (x.1 : Nat)), (21, .int .i64 ((2 : Nat) : Int)), (20, .slice (some ⟨bk20, 0, none⟩) 2 2), (6, .pointer (some ⟨bk6, 0, none⟩)), (0, .slice (some ⟨b, 0, none⟩) len cap), (7, .nilIface)]) (0, [.int .u16 0, .int .u8 0, .int .u8 0, .int .u32 0, .int .u32 0, .int .u32 0, .int .u32 0, .int .u32 0]) ⟨Nat.zero_le _, fun h => absurd h dc, rfl⟩ (Ek6 rfl rfl rfl rfl rfl rfl) (SW_range.HSub.all _) ?_
 rintro ⟨i, hv⟩ ⟨hi, hib, hvl⟩
 dsimp only at hi hib hvl ⊢
 obtain ⟨ob, hob⟩ : ∃ ob : Bool, ob = decide (i = 1) := ⟨_, rfl⟩
 obtain ⟨m, x1, x2, x3, x4, x5, w0, c2, c3, w1, w2, w3, w4, w5, hbig, hnb⟩ := hW ob
 refine SR fun _ k6 => ?_
 refine Sc (O_binOp rfl (.tmp .hit) (.tmp (.o rfl)) (r := .bool true) (fun _ => b_lss _ _ _ true (decide_eq_true om))) ?_
 refine SN k6 ?_
 refine Sq fun _ k7 => ?_
 refine Th ?_
 refine SS k7 ?_
 refine Ek [22, 21, 20, 6, 0, 7] ?_
 refine Sq fun _ k8 => ?_
 refine Bl ?_
 refine SR fun _ k9 => ?_
 refine Sc (O_indexAddr rfl (.tmp (.o rfl)) (.tmp .hit) underlying197 sz80 oz oz) ?_
 refine Sc (O_load rfl (.tmp .hit) oc80 .a (v := boV ob) (by rcases (show i = 0 ∨ i = 1 by omega) with h | h <;> (rw [hob, h]; rfl))) ?_
 refine Ah ?_
 refine SN k9 ?_
 refine Ek [9, 22, 21, 20, 6, 0, 7] ?_
 refine SR fun _ k10 => ?_
 refine Ac ?_
 refine SN k10 ?_
 refine Sq fun _ k11 => ?_
 refine SR fun _ k12 => ?_
 refine Mo ?_
 refine Sc (O_lenSlice rfl (.tmp .hit) underlying26 rfl) ?_
 refine Mo ?_
 refine Sc (O_binOp rfl (.tmp (.o rfl)) (.tmp .hit) (r := .bool false) (fun _ => b_lss _ _ _ false (decide_eq_false om))) ?_
 refine SN k12 ?_
 refine Fh ?_
 refine SS k11 ?_
 refine Ek [10, 9, 22, 21, 20, 6, 0, 7] ?_
 refine Sq fun _ k13 => ?_
 refine Zw (Zm rfl (Zm rfl (Z2 31 32 rfl rfl (fun e he => O_u16 rfl (Eh he) (Eo he) .a om w0) (Zm rfl (Z1 34 rfl (fun e he => O_indexAddr rfl (Eh he) .const underlying26 sz5 dc om) (Z1 35 rfl (fun e he => O_load rfl (Eh he) oc5 .a c2) (Zm rfl (Z1 37 rfl (fun e he => O_indexAddr rfl (Eh he) .const underlying26 sz5 dc om) (Z1 38 rfl (fun e he => O_load rfl (Eh he) oc5 .a c3) (Zm rfl (Zm rfl (Z1 41 rfl (fun e he => O_sliceLo 4 rfl (Eh he) .const rfl underlying26 sz5 hc om om) (Z1 40 rfl (fun e he => O_makeFunc (fs := [.tmp 40]) (cs := []) rfl (.cons (Eh he) .nil) .nil) (Z1 43 rfl (fun e he => O_nilCheckBo rfl (Eh he)) (Zm rfl (Z2 42 45 rfl rfl (fun e he => O_u32 rfl (Eo he) (Eh he) .a om (by simpa using w1)) (Zm rfl (Zm rfl (Z1 48 rfl (fun e he => O_sliceLo 8 rfl (Eh he) .const rfl underlying26 sz5 hc om om) (Z1 47 rfl (fun e he => O_makeFunc (fs := [.tmp 47]) (cs := []) rfl (.cons (Eh he) .nil) .nil) (Z1 50 rfl (fun e he => O_nilCheckBo rfl (Eh he)) (Zm rfl (Z2 49 52 rfl rfl (fun e he => O_u32 rfl (Eo he) (Eh he) .a om (by simpa using w2)) (Zm rfl (Zm rfl (Z1 55 rfl (fun e he => O_sliceLo 12 rfl (Eh he) .const rfl underlying26 sz5 hc om om) (Z1 54 rfl (fun e he => O_makeFunc (fs := [.tmp 54]) (cs := []) rfl (.cons (Eh he) .nil) .nil) (Z1 57 rfl (fun e he => O_nilCheckBo rfl (Eh he)) (Zm rfl (Z2 56 59 rfl rfl (fun e he => O_u32 rfl (Eo he) (Eh he) .a om (by simpa using w3)) (Zm rfl (Zm rfl (Z1 62 rfl (fun e he => O_sliceLo 16 rfl (Eh he) .const rfl underlying26 sz5 hc om om) (Z1 61 rfl (fun e he => O_makeFunc (fs := [.tmp 61]) (cs := []) rfl (.cons (Eh he) .nil) .nil) (Z1 64 rfl (fun e he => O_nilCheckBo rfl (Eh he)) (Zm rfl (Z2 63 66 rfl rfl (fun e he => O_u32 rfl (Eo he) (Eh he) .a om (by simpa using w4)) (Zm rfl (Zm rfl (Z1 69 rfl (fun e he => O_sliceLo 20 rfl (Eh he) .const rfl underlying26 sz5 hc om om) (Z1 68 rfl (fun e he => O_makeFunc (fs := [.tmp 68]) (cs := []) rfl (.cons (Eh he) .nil) .nil) (Z1 71 rfl (fun e he => O_nilCheckBo rfl (Eh he)) (Zm rfl (Z2 70 73 rfl rfl (fun e he => O_u32 rfl (Eo he) (Eh he) .a om (by simpa using w5)) .done)))))))))))))))))))))))))))))))))))))))))))) ?_
 refine Sc (O_build (pv := [(0, _), (1, _), (2, _), (3, _), (4, _), (5, _), (6, _), (7, _)]) (r := .agg #[.int .u16 (m : Nat), .int .u8 1, .int .u8 0, .int .u32 (x1 : Nat), .int .u32 (x2 : Nat), .int .u32 (x3 : Nat), .int .u32 (x4 : Nat), .int .u32 (x5 : Nat)]) rfl (.cons (.tmp (.o rfl)) (.cons (.tmp (.o rfl)) (.cons (.tmp (.o rfl)) (.cons (.tmp (.o rfl)) (.cons (.tmp (.o rfl)) (.cons (.tmp (.o rfl)) (.cons (.tmp (.o rfl)) (.cons (.tmp .hit) .nil)))))))) (fun w => run_build w _ _ _ Q13)) ?_
 refine Sc (O_storeA (vs := headV m x1 x2 x3 x4 x5) (l' := headV m x1 x2 x3 x4 x5) (.tmp (.o rfl)) (.tmp .hit) rfl sz180 rfl .a om (by simp [hvl])) ?_
 refine SN k13 ?_
 refine Ek [10, 9, 22, 21, 20, 6, 0, 7] ?_
 refine Sq fun _ k14 => ?_
 refine SR fun _ k15 => ?_
 refine Sc (Ofa underlying180 sz178) ?_
 refine Sc (Ola oc178) ?_
 refine Sc (O_binOp rfl (.tmp .hit) .const (fun _ => b_neq _ _ _ _ rfl)) ?_
 refine SN k15 ?_
 refine Sd ?_ ?_
 ·
  refine Cj fun ht78 => ?_
  have hne2 : ob ≠ big := fun hh => ht78 (by rw [(hbig hh).1]; rfl)
  have hbt : big = true := by
    cases big with
    | true => rfl
    | false =>
      cases ob with
      | false => exact absurd rfl hne2
      | true => exact hib (by have := hob.symm; simpa using this)
  have hi0 : i = 0 := by
    have : i = 0 ∨ i = 1 := by omega
    rcases this with h | h
    · exact h
    exfalso; apply hne2; rw [hob, hbt]; simp [h]
  refine Xt ?_
  refine So k8 ?_
  refine Sr ?_
  refine Sc (O_binOp rfl (.tmp (.o rfl)) .const (fun _ => b_add _ _ _ rfl oz oz)) ?_
  refine Mh ?_
  refine Sn ?_
  refine Pl1 ?_
  exact fun _ _ ha hw => ⟨(i + 1, headV m x1 x2 x3 x4 x5), (by show 2 - (i + 1) < 2 - i; omega), ⟨by omega, fun _ => hbt, rfl⟩, ha.weaken (Ek6 rfl rfl rfl rfl rfl rfl), hw.weaken (SW_range.HSub.all _)⟩
 refine Cj fun ht78 => ?_
 have hb2 : big = ob := by
   apply Classical.byContradiction
   intro hh
   exact hnb (fun e => hh e.symm) om
 obtain ⟨e0, e1, e2, e3, e4, e5⟩ := hbig hb2.symm
 replace e0 := e0.symm; replace e1 := e1.symm; replace e2 := e2.symm; replace e3 := e3.symm; replace e4 := e4.symm; replace e5 := e5.symm
 subst e0 e1 e2 e3 e4 e5 hb2
 refine SS k14 ?_
 refine Ek [10, 9, 22, 21, 20, 6, 0, 7] ?_
 refine SR fun _ k16 => ?_
 refine Mo ?_
 refine Mo ?_
 refine Sc (O_sliceLo 24 rfl (.tmp (.o rfl)) (.tmp .hit) rfl underlying26 sz5 hc om om) ?_
 refine Ah ?_
 refine SN k16 ?_
 refine Ek [0, 9, 22, 21, 20, 6, 7] ?_
 refine SR fun _ k17 => ?_
 refine Mo ?_
 refine Ah ?_
 refine SN k17 ?_
 refine Xt ?_
 refine So k4 ?_
 refine Ek [7, 0, 6] ?_
 refine Sq fun _ k18 => ?_
 refine SR fun _ k19 => ?_
 refine Mh ?_
 refine Sc (O_binOp rfl (.tmp .hit) .const (r := .bool false) (fun _ => by cases big <;> rfl)) ?_
 refine SN k19 ?_
 refine Fh ?_
 refine SS k18 ?_
 refine Ek [7, 0, 6] ?_
 refine Sq fun _ k20 => ?_
 refine SR fun _ k21 => ?_
 refine Sc (Ofa underlying180 sz5) ?_
 refine Sc (Ola oc5) ?_
 refine Sc (O_binOp rfl (.tmp .hit) .const (r := .bool false) (fun _ => rfl)) ?_
 refine SN k21 ?_
 refine Fh ?_
 refine SS k20 ?_
 refine Ek [7, 0, 6] ?_
 refine Sq fun _ k22 => ?_
 refine SR fun _ k23 => ?_
 refine Sc (Ofa underlying180 sz5) ?_
 refine Sc (Ola oc5) ?_
 refine Sc (O_binOp rfl (.tmp .hit) .const (r := .bool false) (fun _ => rfl)) ?_
 refine SN k23 ?_
 refine Fh ?_
 refine SS k22 ?_
 refine Ek [7, 0, 6] ?_
 refine SR fun _ k24 => ?_
 refine Sc (Ofa underlying180 sz73) ?_
 refine Sc (Ola oc73) ?_
 refine Sc (O_convert rfl (.tmp .hit) (r := .int .i64 24) (fun _ => c_int ⟨_, underlying73⟩ underlying2 rfl)) ?_
 refine Sc (O_binOp rfl (.tmp .hit) .const (r := .int .i64 0) (fun _ => rfl)) ?_
 refine Ah ?_
 refine SN k24 ?_
 refine Ek [11, 7, 0, 6] ?_
 refine Sq fun _ k25 => ?_
 refine SR fun _ k26 => ?_
 refine Mh ?_
 refine Sc (O_binOp rfl (.tmp .hit) .const (r := .bool false) (fun _ => rfl)) ?_
 refine SN k26 ?_
 refine Fh ?_
 refine SS k25 ?_
 refine Ek [11, 7, 0, 6] ?_
 refine Sq fun _ k27 => ?_
 refine SR fun _ k28 => ?_
 refine Mo ?_
 refine Sc (O_lenSlice rfl (.tmp .hit) underlying26 rfl) ?_
 refine Mo ?_
 refine Sc (O_binOp rfl (.tmp (.o rfl)) (.tmp .hit) (r := .bool false) (fun _ => b_lss _ _ _ false (decide_eq_false om))) ?_
 refine SN k28 ?_
 refine Fh ?_
 refine SS k27 ?_
 refine Ek [11, 7, 0, 6] ?_
 refine SR fun _ k29 => ?_
 refine Sc (O_alloc rfl zr201 rfl) ?_
 intro bk12 _
 refine SN k29 ?_
 refine Sq fun _ k30 => ?_
 refine SR fun _ k31 => ?_
 refine Mo ?_
 refine Sc (O_binOp rfl (.tmp .hit) .const (r := .bool false) (fun _ => rfl)) ?_
 refine SN k31 ?_
 refine Fh ?_
 refine SS k30 ?_
 refine Ek [12, 11, 7, 0, 6] ?_
 refine Sq fun _ k32 => ?_
 refine SR fun _ k33 => ?_
 refine Mo ?_
 refine Mo ?_
 refine Sc (O_sliceHi 0 rfl (.tmp (.o rfl)) (.tmp .hit) rfl underlying26 sz5 om om om) ?_
 refine Sc (O_lenSlice rfl (.tmp .hit) underlying26 rfl) ?_
 refine Mc ?_
 refine SN k33 ?_
 refine Bl ?_
 refine SW_loop (α := Unit) (fun x => True) (fun x => 0) (fun x => (bk6, true, .cells (headV 60319 24 0 tl tl sl).toArray 180 (0, 0)) :: (b, false, o) :: []) (fun x => [(130, .int .i64 ((0 : Nat) : Int)), (129, .int .i64 ((0 : Nat) : Int)), (6, .pointer (some ⟨bk6, 0, none⟩)), (12, .pointer (some ⟨bk12, 0, none⟩)), (7, boV big)]) () trivial .a (by repeat (first | exact HSub.nil | apply HSub.keep | apply HSub.drop)) ?_
 rintro - -
 refine SR fun _ k34 => ?_
 refine Sc (O_binOp rfl (.tmp .hit) (.tmp (.o rfl)) (r := .bool false) (fun _ => rfl)) ?_
 refine SN k34 ?_
 refine Sq fun _ k35 => ?_
 refine Fh ?_
 refine Xt ?_
 refine So k32 ?_
 refine Ek [6, 12, 7] ?_
 refine SR fun _ k36 => ?_
 refine Mo ?_
 refine Ao ?_
 refine Ao ?_
 refine Ao ?_
 refine Ac ?_
 refine SN k36 ?_
 refine Rt ?_
 refine Pl3 ?_
 exact SK_ret4 rfl (.o rfl) (.o rfl) (.o rfl) .hit (fun w hw => ⟨(bk6, bk12), rfl, trivial, hw.made (.keep (.drop .nil)) rfl⟩)
end

section
open Go
open Tryz
set_option maxRecDepth 100000

theorem f70_ok (h i : Int) (w : World) : Calls Tryz.prog 70 #[.int .u32 h, .int .u32 i] w (fun r w' => ∃ z : Int, r = .returned (.int .u64 z) ∧ Ext noS w w') := by
 refine sw_calls (S := noS) func70 rfl ntmps70 (sees2 _ _ _ rfl) (Holds.start _ _) ?_
 refine SR fun _ k1 => ?_
 refine Ac ?_
 refine SN k1 ?_
 refine SR fun _ k2 => ?_
 refine Mo ?_
 refine Sc (O_convert rfl (.tmp .hit) (fun _ => c_int ⟨_, underlying73⟩ underlying246 rfl)) ?_
 refine Sc (O_binOp rfl (.tmp .hit) .const (fun _ => rfl)) ?_
 refine Mo ?_
 refine Sc (O_convert rfl (.tmp .hit) (fun _ => c_int ⟨_, underlying83⟩ underlying246 rfl)) ?_
 refine Sc (O_binOp rfl (.tmp (.o rfl)) (.tmp .hit) (fun _ => rfl)) ?_
 refine Ah ?_
 refine SN k2 ?_
 refine Rt ?_
 exact SK_ret1 rfl .hit (fun w hw => ⟨_, rfl, hw.ext⟩)

theorem f69_ok (s : ByteArray) (hs : s.size < 4611686018427387904) (w : World) : Calls Tryz.prog 69 #[.string s] w (fun r w' => ∃ z : Int, r = .returned (.int .u32 z) ∧ Ext noS w w') := by
 refine sw_calls (S := noS) func69 rfl ntmps69 (sees1 _ _ rfl) (Holds.start _ _) ?_
 refine SR fun _ k1 => ?_
 refine Ac ?_
 refine SN k1 ?_
 refine SR fun _ k2 => ?_
 refine Ac ?_
 refine SN k2 ?_
 refine Sq fun _ k3 => ?_
 refine SR fun _ k4 => ?_
 refine Ac ?_
 refine SN k4 ?_
 refine Bl ?_
 refine SW_loop (α := Nat × Int) (fun x => x.1 ≤ s.size) (fun x => s.size - x.1) (fun x => []) (fun x => [(3, .int .u32 x.2), (4, .int .i64 (x.1 : Nat)), (0, .string s)]) (0, 2166136261) (Nat.zero_le _) (Ek3 rfl rfl rfl) (SW_range.HSub.all _) ?_
 rintro ⟨i, h⟩ hi
 dsimp only at hi
 dsimp only
 refine Sq fun _ k5 => ?_
 refine SR fun _ k6 => ?_
 refine Mo ?_
 refine Mo ?_
 refine Sc (O_lenStr rfl (.tmp .hit) underlying9 rfl) ?_
 refine Sc (O_binOp rfl (.tmp (.o rfl)) (.tmp .hit) (fun _ => b_lss _ _ _ _ rfl)) ?_
 refine SN k6 ?_
 refine SW_cond (.tmp .hit) (fun ht8 => ?_) (fun ht8 => ?_)
 ·
  have hlt : i < s.size := by have := of_decide_eq_true ht8; omega
  refine SS k5 ?_
  refine Ek [3, 4, 0] ?_
  refine Sq fun _ k7 => ?_
  refine Bl ?_
  refine Sr ?_
  refine Mh ?_
  refine Mo ?_
  refine Mo ?_
  refine Sc (O_indexStr (c := s[i]) rfl (.tmp (.o rfl)) (.tmp .hit) underlying9 om (by simp [getElem?_pos s i hlt])) ?_
  refine Sc (O_convert rfl (.tmp .hit) (fun _ => c_int ⟨_, underlying5⟩ underlying73 rfl)) ?_
  refine Sc (O_binOp rfl (.tmp (.o rfl)) (.tmp .hit) (fun _ => rfl)) ?_
  refine Sc (O_binOp rfl (.tmp .hit) .const (fun _ => rfl)) ?_
  refine Ah ?_
  refine SN k7 ?_
  refine Sr ?_
  refine Mo ?_
  refine Sc (O_binOp rfl (.tmp .hit) .const (fun _ => b_add _ _ ((i + 1 : Nat) : Int) om om om)) ?_
  refine Ah ?_
  refine Sn ?_
  refine Pl1 ?_
  exact fun _ _ ha hw => ⟨(i + 1, _), (by show s.size - (i + 1) < s.size - i; omega), hlt, ha.weaken (Ek3 rfl rfl rfl), hw.weaken (SW_range.HSub.all _)⟩
 refine Xt ?_
 refine So k3 ?_
 refine Ek [3] ?_
 refine SR fun _ k8 => ?_
 refine Mh ?_
 refine Ah ?_
 refine SN k8 ?_
 refine Rt ?_
 exact SK_ret1 rfl .hit (fun w hw => ⟨_, rfl, hw.ext⟩)

theorem f60_ok (s p : ByteArray) (hs : s.size < 4611686018427387904) (hp : p.size < 4611686018427387904) (w : World) : Calls Tryz.prog 60 #[.string s, .string p] w (fun r w' => ∃ z : Int, -1 ≤ z ∧ z ≤ s.size ∧ r = .returned (.int .i64 z) ∧ Ext noS w w') := by
 refine sw_calls (S := noS) func60 rfl ntmps60 (sees2 _ _ _ rfl) (Holds.start _ _) ?_
 refine SR fun _ k1 => ?_
 refine Ac ?_
 refine SN k1 ?_
 refine Sq fun _ k2 => ?_
 refine SR fun _ k3 => ?_
 refine Mo ?_
 refine Sc (O_lenStr rfl (.tmp .hit) underlying9 rfl) ?_
 refine Mo ?_
 refine Sc (O_lenStr rfl (.tmp .hit) underlying9 rfl) ?_
 refine Sc (O_binOp rfl (.tmp (.o rfl)) (.tmp .hit) (fun _ => b_sub _ _ ((s.size : Int) - p.size) rfl om om)) ?_
 refine Ah ?_
 refine SN k3 ?_
 refine Bl ?_
 refine SW_loop (α := Int) (fun x => -(p.size : Int) - 1 ≤ x ∧ x + p.size ≤ s.size) (fun x => (x + 1).toNat) (fun x => []) (fun x => [(5, .int .i64 x), (0, .string s), (1, .string p)]) ((s.size : Int) - p.size) om .a (SW_range.HSub.all _) ?_
 rintro i hi
 refine Sq fun _ k4 => ?_
 refine SR fun _ k5 => ?_
 refine Mh ?_
 refine Sc (O_binOp rfl (.tmp .hit) .const (fun _ => b_geq _ _ _ _ rfl)) ?_
 refine SN k5 ?_
 refine SW_cond (.tmp .hit) (fun ht12 => ?_) (fun ht12 => ?_)
 ·
  have hge : 0 ≤ i := of_decide_eq_true ht12
  refine SS k4 ?_
  refine Ek [5, 0, 1] ?_
  refine Sq fun _ k6 => ?_
  refine Bl ?_
  refine SR fun _ k7 => ?_
  refine Mo ?_
  refine Mo ?_
  refine Mo ?_
  refine Mo ?_
  refine Sc (O_lenStr rfl (.tmp .hit) underlying9 rfl) ?_
  refine Sc (O_binOp rfl (.tmp (.o rfl)) (.tmp .hit) (fun _ => b_add _ _ (i + p.size) rfl om om)) ?_
  refine Sc (O_sliceStr i.toNat (i + p.size).toNat rfl (.tmp (.o rfl)) (.tmp (.o rfl)) (.tmp .hit) om om om om) ?_
  refine Mo ?_
  refine Sc (O_binOp rfl (.tmp (.o rfl)) (.tmp .hit) (fun _ => b_eqlStr _ _ _ rfl)) ?_
  refine SN k7 ?_
  refine SW_cond (.tmp .hit) (fun ht23 => ?_) (fun ht23 => ?_)
  ·
   refine Ek [5, 0, 1] ?_
   refine SR fun _ k8 => ?_
   refine Mh ?_
   refine Ah ?_
   refine SN k8 ?_
   refine Rt ?_
   refine Pl0 ?_
   exact SK_ret1 rfl .hit (fun w hw => ⟨_, by omega, by omega, rfl, hw.ext⟩)
  refine SS k6 ?_
  refine Sr ?_
  refine Mo ?_
  refine Sc (O_binOp rfl (.tmp .hit) .const (fun _ => b_sub _ _ (i - 1) rfl om om)) ?_
  refine Ah ?_
  refine Sn ?_
  refine Pl1 ?_
  exact fun _ _ ha hw => ⟨(i - 1), (by show (i - 1 + 1).toNat < (i + 1).toNat; omega), (by show -(p.size : Int) - 1 ≤ i - 1 ∧ i - 1 + p.size ≤ s.size; omega), ha.weaken .a, hw.weaken (SW_range.HSub.all _)⟩
 refine Xt ?_
 refine So k2 ?_
 refine Ek [] ?_
 refine SR fun _ k9 => ?_
 refine Ac ?_
 refine SN k9 ?_
 refine Rt ?_
 exact SK_ret1 rfl .hit (fun w hw => ⟨_, by omega, by omega, rfl, hw.ext⟩)

theorem f57_ok (k : Nat) (hk : k < 1000) (w : World) : Calls Tryz.prog 57 #[.int .i64 k] w (fun r w' => ∃ z : Nat × Nat × List Value, r = .returned (.pointer (some ⟨z.1, 0, none⟩)) ∧ RowOk 1 (some ⟨z.2.1, k, z.2.2⟩) 0 [] ∧
    Fresh w [(z.1, true, .cells #[.slice (some ⟨z.2.1, 0, none⟩) 0 k] 244 (0, 0)), (z.2.1, true, .cells z.2.2.toArray 246 (0, 0))] w') := by
 refine sw_calls (S := noS) func57 rfl ntmps57 (sees1 _ _ rfl) (Holds.start _ _) ?_
 refine SR fun _ k1 => ?_
 refine Ac ?_
 refine SN k1 ?_
 refine SR fun _ k2 => ?_
 refine Mo ?_
 refine Sc (O_makeSlice0 (z := .int .u64 0) (size := 1) (bytes := 8) rfl .const (.tmp .hit) rfl underlying242 kr om om) ?_
 intro zM4 hr4
 refine Sc (O_build (pv := [(0, _)]) (r := .agg #[.slice (some ⟨zM4, 0, none⟩) 0 k]) rfl (.cons (.tmp .hit) .nil) (fun w => run_build w _ _ _ Q13)) ?_
 refine Sc (O_box rfl (.tmp .hit) rfl) ?_
 intro bk6 _
 refine Ah ?_
 refine SN k2 ?_
 refine Rt ?_
 exact SK_ret1 rfl .hit (fun w hw => ⟨(bk6, zM4, _), rfl, hr4, hw.made (.keep (.keep .nil)) rfl⟩)

theorem f61_ok {S : Nat → Prop} {w0 : World} (T : Hp) (ix g cap k : Nat) (cur xs : List Value) (b off len cp : Nat) (fb : Bool) (o : Obj) (name : List Nat) (hb : Bytes o off name) (hl : name.length = len) (hlen : len < 4611686018427387904) (id : Int) (hok : RowOk 1 (some ⟨g, cap, cur⟩) k xs) (hk : k < 1000) (w : World)
    (hw : Holds S w0 ((ix, true, .cells #[.slice (some ⟨g, 0, none⟩) k cap] 244 (0, 0)) :: (g, true, .cells cur.toArray 246 (0, 0)) :: (b, fb, o) :: T) w) :
    Calls Tryz.prog 61 #[.pointer (some ⟨ix, 0, none⟩), .slice (some ⟨b, off, none⟩) len cp, .int .u32 id] w (fun r w' => ∃ z : Row × Int, r = .returned (.tuple #[]) ∧ RowOk 1 (some z.1) (k + 1) (xs ++ [.int .u64 z.2]) ∧
      Holds S w0 ((ix, true, .cells #[.slice (some ⟨z.1.g, 0, none⟩) (k + 1) z.1.cap] 244 (0, 0)) :: (z.1.g, true, .cells z.1.cur.toArray 246 (0, 0)) :: (b, fb, o) :: T) w') := by
 refine sw_calls0 func61 rfl ntmps61 (sees3 _ _ _ _ rfl) hw ?_
 refine SR fun _ k1 => ?_
 refine Mo ?_
 refine Sc (O_bytesStr rfl (.tmp .hit) .a hb hl) ?_
 refine Sc (O_callN (val := fun z : Int => .int .u32 z) (N := fun _ => []) (good := fun _ => True) (xs := [.tmp 8]) (cap := []) rfl .func (.cons (.tmp .hit) .nil) func69 rfl rfl (fun w hw => (f69_ok (strOf name) (by simp [strOf, ByteArray.size]; omega) w).mono (by rintro r w1 ⟨z, rfl, he⟩; exact ⟨z, rfl, trivial, Fresh.of_ext he⟩))) ?_
 intro z9 _
 dsimp only [List.nil_append]
 refine Ah ?_
 refine SN k1 ?_
 refine SW_da mixed ?_
 refine Ym 0 ?_
 refine Ym 1 ?_
 refine Yn 2 ?_
 refine Yf 3 underlying244 sz242 ?_
 refine Yl 4 oc242 ?_
 refine Ym 5 ?_
 refine Ym 6 ?_
 refine Ys 7 ?_
 refine Cand.mk (j := 7) [(15, _), (16, _)] rfl (.cons (t := 15) (.o rfl) (.cons (t := 16) .hit .nil)) (fun e he => O_callN (val := fun z : Int => .int .u64 z) (N := fun _ => []) (good := fun _ => True) (xs := [.tmp 15, .tmp 16]) (cap := []) rfl .func (.cons (.tmp (he.get .hit)) (.cons (.tmp (he.get (.o rfl))) .nil)) func70 rfl rfl (fun w hw => (f70_ok _ id w).mono (by rintro r w1 ⟨z, rfl, he⟩; exact ⟨z, rfl, trivial, Fresh.of_ext he⟩))) (fun _ _ h => h) kr ?_
 intro z17 _
 refine ⟨⟨.inl kr, .inl kr, .inr (.cons .a .nil), .inr .nil, .inr .nil, .inr .nil, .inr .nil, trivial⟩, ?_⟩
 refine Ys 8 ?_
 refine Cand.mk (j := 8) [(17, _)] rfl (.cons (t := 17) .hit .nil) (fun e he => O_buildSlice1 rfl (.tmp (he.get .hit)) underlying242 sz246 zr246 rfl rfl dc dc) (fun _ _ h => h) kr ?_
 intro bk18 _
 refine ⟨⟨.inr (.cons .a .nil), .inr .nil, .inr .nil, .inr .nil, .inr .nil, trivial⟩, ?_⟩
 refine Ys 9 ?_
 refine Cand.mk (j := 9) [(14, _), (18, _)] rfl (.cons (t := 14) (.o rfl) (.cons (t := 18) .hit .nil)) (fun e he => O_append  rfl (.tmp (he.get .hit)) (.tmp (he.get (.o rfl))) rfl underlying242 inf246 rfl dc .a1 hok .a rfl rfl om Q16 om) (fun _ _ h => h) kr ?_
 intro r19 hr19
 refine ⟨⟨.inl kr, .inr .nil, .inr .nil, .inr .nil, .inr .nil, trivial⟩, ?_⟩
 refine Yn 10 ?_
 refine Yf 11 underlying244 sz242 ?_
 refine Ys 12 ?_
 refine Cand.mk (j := 12) [(19, _), (21, _)] (β := Unit) (good := fun _ => True) (val := fun _ => undef) (Hf := fun _ => _) rfl (.cons (t := 19) (.o rfl) (.cons (t := 21) .hit .nil)) (fun e he => O_store (.tmp (he.get (.o rfl))) (.tmp (he.get .hit)) rfl sz242 .a .a) (fun _ _ h => h () trivial) kr (fun _ _ => ⟨⟨.inl kr, .inr .nil, .inl kr, .inl kr, .inl kr, .inl kr, trivial⟩, ?_⟩)
 refine Ye ?_
 exact SK_end0 (fn := Tryz.f61) rfl (fun w hw => ⟨(r19, z17), rfl, hr19, (hw.weaken (.drop (SW_range.HSub.all _)))⟩)
end
end Go.Proofs.YtoibhfpagkdleaaGreatDoor
