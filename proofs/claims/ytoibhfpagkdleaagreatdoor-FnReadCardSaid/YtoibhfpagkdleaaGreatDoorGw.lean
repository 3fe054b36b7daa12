/-
  CONTRACTS: a header is told.
  CONTRACT: a blob is read.
-/
import Derived.Test.YtoibhfpagkdleaaGreatDoorFg
import Derived.Test.YtoibhfpagkdleaaGreatDoorGd
import Derived.Test.YtoibhfpagkdleaaGreatDoorGv
import Derived.Test.YtoibhfpagkdleaaGreatDoorGt
namespace Go.Proofs.YtoibhfpagkdleaaGreatDoor
section
open Go
open Tryz
set_option maxRecDepth 100000

theorem HRowAt.nn {H : Hp} {E : TypeId} : HRowAt H E none [] H := HRowAt.tail (E := E) (r := none) (T := H)
abbrev hdV (tl sl : Nat) : List Value := [.int .u32 60319, .int .u32 1, .int .u32 0, .int .u32 24, .int .u32 0, .int .u32 (tl : Nat), .int .u32 (tl : Nat), .int .u32 (sl : Nat)]
theorem eql_bo (big : Bool) (x y : Operand) (w : World) : (do eqGuard .eql 80 x y (boV big) (.iface 182 (.agg #[])); binOp .eql 80 (boV big) (.iface 182 (.agg #[])) : Sem Value).run Tryz.prog w = .ok (.bool big) w := by
  cases big <;> kernel_rfl

theorem f30_ok (big : Bool) (b len cap tl sl : Nat) (o : Obj) (hW : HeadAt o big tl sl) (hl : 25 ≤ len) (hc : len ≤ cap) (h62 : len < 4611686018427387904) (w : World) (hb : w.heap[b]? = some o) :
    Calls Tryz.prog 30 #[.slice (some ⟨b, 0, none⟩) len cap] w (fun r w' => ∃ z : Nat, r = .returned (.tuple #[.slice (some ⟨z, 0, none⟩) 8 8, .bool big, .nilIface]) ∧ True ∧ Fresh w [(z, true, .cells (hdV tl sl).toArray 73 (0, 0))] w') := by
 refine sw_calls (S := noS) func30 rfl ntmps30 (sees1 _ _ rfl) (Holds.start1 _ _ hb) ?_
 refine SR fun _ k1 => ?_
 refine Ac ?_
 refine Ac ?_
 refine Ac ?_
 refine SN k1 ?_
 refine SR fun _ k2 => ?_
 refine Mo ?_
 refine Sc (O_callN (val := fun z : Nat × Nat => .tuple #[.pointer (some ⟨z.1, 0, none⟩), .pointer (some ⟨z.2, 0, none⟩), boV big, .nilIface]) (N := fun z => [(z.1, true, .cells (headV 60319 24 0 tl tl sl).toArray 180 (0, 0))]) (good := fun _ => True) (xs := [.tmp 10]) (cap := []) rfl .func (.cons (.tmp .hit) .nil) func45 rfl rfl (fun w1 hw => f45_ok big b len cap o tl sl hW hl hc h62 w1 (hw.at_ .a))) ?_
 rintro ⟨hd, ly⟩ -
 dsimp only
 refine Mh ?_
 refine Sc Oex ?_
 refine Sc Oex ?_
 refine Sc Oex ?_
 refine Sc Oex ?_
 refine Ao ?_
 refine Ao ?_
 refine Ao ?_
 refine Ao ?_
 refine SN k2 ?_
 refine Ek [8, 7, 5, 4, 3, 2] ?_
 refine Sq fun _ k3 => ?_
 refine SR fun _ k4 => ?_
 refine Mh ?_
 refine Sc (O_binOp rfl (.tmp .hit) .const (r := .bool false) (fun _ => rfl)) ?_
 refine SN k4 ?_
 refine Fh ?_
 refine SS k3 ?_
 refine Ek [7, 5, 4, 3, 2] ?_
 refine Sq fun _ k5 => ?_
 refine SW_da mixed ?_
 refine Ym 0 ?_
 refine Yn 1 ?_
 refine Yf 2 underlying180 sz178 ?_
 refine Yl 3 oc178 ?_
 refine Y1 4 22 rfl rfl (fun e H he hH => O_convert rfl (Eh he) (r := .int .u32 60319) (fun _ => c_int ⟨_, underlying178⟩ underlying73 rfl)) ?_
 refine Ym 5 ?_
 refine Yn 6 ?_
 refine Yf 7 underlying180 sz5 ?_
 refine Yl 8 oc5 ?_
 refine Y1 9 27 rfl rfl (fun e H he hH => O_convert rfl (Eh he) (r := .int .u32 1) (fun _ => c_int ⟨_, underlying5⟩ underlying73 rfl)) ?_
 refine Ym 10 ?_
 refine Yn 11 ?_
 refine Yf 12 underlying180 sz5 ?_
 refine Yl 13 oc5 ?_
 refine Y1 14 32 rfl rfl (fun e H he hH => O_convert rfl (Eh he) (r := .int .u32 0) (fun _ => c_int ⟨_, underlying5⟩ underlying73 rfl)) ?_
 refine Ym 15 ?_
 refine Yn 16 ?_
 refine Yf 17 underlying180 sz73 ?_
 refine Yl 18 oc73 ?_
 refine Ym 19 ?_
 refine Yn 20 ?_
 refine Yf 21 underlying180 sz73 ?_
 refine Yl 22 oc73 ?_
 refine Ym 23 ?_
 refine Yn 24 ?_
 refine Yf 25 underlying180 sz73 ?_
 refine Yl 26 oc73 ?_
 refine Ym 27 ?_
 refine Yn 28 ?_
 refine Yf 29 underlying180 sz73 ?_
 refine Yl 30 oc73 ?_
 refine Ym 31 ?_
 refine Yn 32 ?_
 refine Yf 33 underlying180 sz73 ?_
 refine Yl 34 oc73 ?_
 refine Ym 36 ?_
 refine Y0 37 rfl (fun e H he hH => O_loadZ rfl .global underlying182 sz182) ?_
 refine Y1 38 56 rfl rfl (fun e H he hH => O_makeInterface rfl (Eh he) ⟨_, underlying182, rfl⟩) ?_
 refine Y2 39 55 57 rfl rfl rfl (fun e H he hH => O_binOp rfl (Eh he) (Eo he) (fun _ => eql_bo big _ _ _)) ?_
 refine Ys 35 ?_
 refine Cand.mk (j := 35) [(23, _), (28, _), (33, _), (37, _), (41, _), (45, _), (49, _), (53, _)] rfl (.cons (t := 23) (.o rfl) (.cons (t := 28) (.o rfl) (.cons (t := 33) (.o rfl) (.cons (t := 37) (.o rfl) (.cons (t := 41) (.o rfl) (.cons (t := 45) (.o rfl) (.cons (t := 49) (.o rfl) (.cons (t := 53) (.o rfl) .nil)))))))) (fun e he => O_buildSlice (cs := (hdV tl sl).toArray) (pv := [(0, .int .u32 60319), (1, .int .u32 1), (2, .int .u32 0), (3, .int .u32 24), (4, .int .u32 0), (5, .int .u32 (tl : Nat)), (6, .int .u32 (tl : Nat)), (7, .int .u32 (sl : Nat))]) rfl (.cons (.tmp (he.get .hit)) (.cons (.tmp (he.get (.o rfl))) (.cons (.tmp (he.get (.o rfl))) (.cons (.tmp (he.get (.o rfl))) (.cons (.tmp (he.get (.o rfl))) (.cons (.tmp (he.get (.o rfl))) (.cons (.tmp (he.get (.o rfl))) (.cons (.tmp (he.get (.o rfl))) .nil)))))))) underlying70 sz73 zr73 dc dc kr) (fun _ _ h => h) kr ?_
 intro bk54 _
 refine ⟨⟨.inr .nil, .inr .nil, .inr .nil, .inr .nil, .inl kr, .inr .nil, .inr .nil, .inr .nil, .inl kr, .inr .nil, .inr .nil, .inr .nil, .inl kr, .inr .nil, .inr .nil, .inr .nil, .inl kr, .inr .nil, .inr .nil, .inr .nil, .inl kr, .inr .nil, .inr .nil, .inr .nil, .inl kr, .inr (.cons .a .nil), .inr .nil, .inr .nil, .inr .nil, .inl kr, .inr (.cons .a .nil), .inr .nil, .inr .nil, .inr .nil, .inl kr, .inr (.cons .a .nil), .inr .nil, .inr .nil, .inr .nil, trivial⟩, ?_⟩
 refine Y1 40 54 rfl rfl (fun e H he hH => O_assign rfl (Eh he)) ?_
 refine Y1 41 58 rfl rfl (fun e H he hH => O_assign rfl (Eh he)) ?_
 refine Y0 42 rfl (fun e H he hH => O_assign rfl .const) ?_
 refine Ye ?_
 refine So k5 ?_
 refine Rt ?_
 refine Pl3 ?_
 exact SK_ret3 rfl (.o rfl) (.o rfl) .hit (fun w hw => ⟨bk54, rfl, trivial, hw.made .a rfl⟩)

theorem hd_get (tl sl i : Nat) (h : i < 8) : ∃ q : Nat, (hdV tl sl)[i]? = some (.int .u32 q) := by
  match i, h with
  | 0, _ => exact ⟨60319, rfl⟩
  | 1, _ => exact ⟨1, rfl⟩
  | 2, _ => exact ⟨0, rfl⟩
  | 3, _ => exact ⟨24, rfl⟩
  | 4, _ => exact ⟨0, rfl⟩
  | 5, _ => exact ⟨tl, rfl⟩
  | 6, _ => exact ⟨tl, rfl⟩
  | 7, _ => exact ⟨sl, rfl⟩

theorem f11_ok (big : Bool) (b len cap tl sl : Nat) (o : Obj) (xs : List Value) (hcs : cellsOf o 0 (len * 1) = some xs) (hc1 : xs.all (·.oneCell') = true) (hW : ∀ r : Row, RowOk 1 (some r) (0 + len) ([] ++ xs) → HeadAt (.cells r.cur.toArray 5 (0, 0)) big tl sl) (hl : 25 ≤ len) (h62 : len < 1099511627776) (w : World) (hb : w.heap[b]? = some o) :
    Calls Tryz.prog 11 #[.slice (some ⟨b, 0, none⟩) len cap] w (fun r w' => ∃ v : Value, r = .returned (.tuple #[v, .bool big, .bool true]) ∧ Ext noS w w') := by
 refine sw_calls (S := noS) func11 rfl ntmps11 (sees1 _ _ rfl) (Holds.start1 _ _ hb) ?_
 refine SR fun _ k1 => ?_
 refine Ac ?_
 refine Ac ?_
 refine Ac ?_
 refine SN k1 ?_
 refine SR fun _ k2 => ?_
 refine Mo ?_
 refine Sc (O_appendO (r := none) (k := 0) rfl .const (.tmp .hit) rfl underlying26 inf5 rfl dc .nn (show RowOk 1 none 0 [] from ⟨rfl, rfl⟩) .a hcs hc1 om Q16 om) ?_
 intro r13 h13
 refine Sc (O_callN (val := fun z : Nat => .tuple #[.slice (some ⟨z, 0, none⟩) 8 8, .bool big, .nilIface]) (good := fun _ => True) (xs := [.tmp 13]) (cap := []) rfl .func (.cons (.tmp .hit) .nil) func30 rfl rfl (fun w1 hw => f30_ok big r13.g _ r13.cap tl sl _ (hW r13 h13) om h13.2.1 om w1 (hw.at_ .a))) ?_
 intro z14 _
 rw [List.singleton_append]
 refine Mh ?_
 refine Sc Oex ?_
 refine Sc Oex ?_
 refine Sc Oex ?_
 refine Ao ?_
 refine Ao ?_
 refine Ao ?_
 refine SN k2 ?_
 refine Ek [7, 6, 5, 4, 3, 2] ?_
 refine Sq fun _ k3 => ?_
 refine SR fun _ k4 => ?_
 refine Mh ?_
 refine Sc (O_binOp rfl (.tmp .hit) .const (r := .bool false) (fun _ => rfl)) ?_
 refine SN k4 ?_
 refine Fh ?_
 refine SS k3 ?_
 refine Ek [6, 5, 4, 3, 2] ?_
 refine SR fun _ k5 => ?_
 refine Ac ?_
 refine SN k5 ?_
 refine Sq fun _ k6 => ?_
 refine SR fun _ k7 => ?_
 refine Mo ?_
 refine Sc (O_lenSlice rfl (.tmp .hit) underlying70 rfl) ?_
 refine Mc ?_
 refine SN k7 ?_
 refine Bl ?_
 refine SW_loop (α := Nat × Option Row × List Value) (fun x => x.1 ≤ 8 ∧ RowOk 1 x.2.1 x.1 x.2.2) (fun x => 8 - x.1) (fun x => (z14, true, .cells (hdV tl sl).toArray 73 (0, 0)) :: (rowH 3 x.2.1 ++ [])) (fun x => [(22, .int .i64 (x.1 : Nat)), (21, .int .i64 ((8 : Nat) : Int)), (20, .slice (some ⟨z14, 0, none⟩) 8 8), (8, rowV x.2.1 x.1), (6, .bool big)]) (0, none, []) ⟨Nat.zero_le _, rfl, rfl⟩ (Ek5 rfl rfl rfl rfl rfl) .a ?_
 rintro ⟨i, r, xs⟩ ⟨hi, hr⟩
 dsimp only at hi hr ⊢
 refine SR fun _ k8 => ?_
 refine Sc (O_binOp rfl (.tmp .hit) (.tmp (.o rfl)) (fun _ => b_lss _ _ _ _ rfl)) ?_
 refine SN k8 ?_
 refine Sq fun _ k9 => ?_
 refine Sd ?_ ?_
 ·
  refine Ci fun ht23 => ?_
  have hlt : i < 8 := by omega
  obtain ⟨q, hq⟩ : ∃ q : Nat, (hdV tl sl)[i]? = some (.int .u32 q) := hd_get tl sl i hlt
  refine SS k9 ?_
  refine Ek [22, 21, 20, 8, 6] ?_
  refine Sq fun _ k10 => ?_
  refine Bl ?_
  refine SR fun _ k11 => ?_
  refine Sc (O_indexAddr rfl (.tmp (.o rfl)) (.tmp .hit) underlying70 sz73 oz oz) ?_
  refine Sc (O_load rfl (.tmp .hit) oc73 .a (v := .int .u32 (q : Nat)) (by simp only [cellOf]; rw [show 0 + (((i : Nat) : Int)).toNat * 1 = i by omega]; exact hq)) ?_
  refine Ah ?_
  refine SN k11 ?_
  refine Sr ?_
  refine Mo ?_
  refine Mo ?_
  refine Sc (O_convert rfl (.tmp .hit) (r := .int .i64 (IntKind.i64.wrap (q : Nat))) (fun _ => c_int ⟨_, underlying73⟩ underlying3 rfl)) ?_
  refine Sc (O_buildSlice1 rfl (.tmp .hit) underlying35 sz3 zr3 rfl rfl dc dc) ?_
  intro bk29 _
  refine Sc (O_appendO (r := r) (k := i) rfl (.tmp (.o rfl)) (.tmp .hit) rfl underlying35 inf3 rfl dc .a hr .a rfl rfl om Q16 om) ?_
  intro r30 hr30
  refine Ah ?_
  refine SN k10 ?_
  refine Sr ?_
  refine Sc (O_binOp rfl (.tmp (.o rfl)) .const (fun _ => b_add _ _ _ rfl oz oz)) ?_
  refine Mh ?_
  refine Sn ?_
  refine Pl1 ?_
  exact fun _ _ ha hw => ⟨(i + 1, some r30, _), (by show 8 - (i + 1) < 8 - i; omega), ⟨by dsimp only; omega, hr30⟩, ha.weaken (Ek5 rfl rfl rfl rfl rfl), hw.weaken .a⟩
 refine Ci fun ht23 => ?_
 refine Xt ?_
 refine So k6 ?_
 refine Ek [8, 6] ?_
 refine SR fun _ k12 => ?_
 refine Mh ?_
 refine Mo ?_
 refine Ao ?_
 refine Ao ?_
 refine Ac ?_
 refine SN k12 ?_
 refine Rt ?_
 refine Pl3 ?_
 exact SK_ret3 rfl (.o rfl) (.o rfl) .hit (fun w hw => ⟨(rowV r i), rfl, hw.ext⟩)
end

section
open Go
open Tryz
set_option maxRecDepth 100000

/-- part of the list, in any order, where what is known of its age may be forgotten -/
inductive HLow : Hp → Hp → Prop
  | nil {H : Hp} : HLow [] H
  | same {x : Nat × Bool × Obj} {H H1 A : Hp} (h : HPick H x H1) (t : HLow A H1) : HLow (x :: A) H
  | low {b : Nat} {f : Bool} {o : Obj} {H H1 A : Hp} (h : HPick H (b, f, o) H1) (t : HLow A H1) : HLow ((b, false, o) :: A) H
theorem HLow.a {A H : Hp} (h : HLow A H := by repeat (first | exact HLow.nil | refine HLow.low HPick.a ?_ | refine HLow.same HPick.a ?_)) : HLow A H := h
theorem HLow.spec {φ : Nat × Bool × Obj → Prop} (hφ : ∀ b f o, φ (b, f, o) → φ (b, false, o)) {A H : Hp} (h : HLow A H) : (H.map (·.1)).Nodup → (∀ x ∈ H, φ x) → (A.map (·.1)).Nodup ∧ (∀ x ∈ A, φ x) ∧ ∀ x ∈ A, x.1 ∈ H.map (·.1) := by
  induction h with
  | nil => intro _ _; exact ⟨by simp, fun x hx => (by cases hx), fun x hx => (by cases hx)⟩
  | same hq _ ih =>
    intro hn hh
    have hp := hq.perm
    have hn1 := (hp.map (·.1)).nodup_iff.1 hn
    rw [List.map_cons, List.nodup_cons] at hn1
    obtain ⟨i1, i2, i3⟩ := ih hn1.2 (fun y hy => hh y (hp.mem_iff.2 (List.mem_cons_of_mem _ hy)))
    refine ⟨?_, fun y hy => ?_, fun y hy => ?_⟩
    · rw [List.map_cons, List.nodup_cons]
      refine ⟨fun hm => hn1.1 ?_, i1⟩
      obtain ⟨z, hz, he⟩ := List.mem_map.1 hm
      rw [← he]; exact i3 z hz
    · rcases List.mem_cons.1 hy with rfl | hy
      · exact hh _ (hp.mem_iff.2 List.mem_cons_self)
      exact i2 y hy
    rcases List.mem_cons.1 hy with rfl | hy
    · exact (hp.map (·.1)).mem_iff.2 List.mem_cons_self
    exact (hp.map (·.1)).mem_iff.2 (List.mem_cons_of_mem _ (i3 y hy))
  | low hq _ ih =>
    intro hn hh
    have hp := hq.perm
    have hn1 := (hp.map (·.1)).nodup_iff.1 hn
    rw [List.map_cons, List.nodup_cons] at hn1
    obtain ⟨i1, i2, i3⟩ := ih hn1.2 (fun y hy => hh y (hp.mem_iff.2 (List.mem_cons_of_mem _ hy)))
    refine ⟨?_, fun y hy => ?_, fun y hy => ?_⟩
    · rw [List.map_cons, List.nodup_cons]
      refine ⟨fun hm => hn1.1 ?_, i1⟩
      obtain ⟨z, hz, he⟩ := List.mem_map.1 hm
      simp only at he
      rw [← he]; exact i3 z hz
    · rcases List.mem_cons.1 hy with rfl | hy
      · exact hφ _ _ _ (hh _ (hp.mem_iff.2 List.mem_cons_self))
      exact i2 y hy
    rcases List.mem_cons.1 hy with rfl | hy
    · exact (hp.map (·.1)).mem_iff.2 List.mem_cons_self
    exact (hp.map (·.1)).mem_iff.2 (List.mem_cons_of_mem _ (i3 y hy))
theorem Holds.low {S : Nat → Prop} {w0 w : World} {A H : Hp} (hw : Holds S w0 H w) (h : HLow A H) : Holds S w0 A w := by
  obtain ⟨h1, h2, _⟩ := h.spec (φ := fun x => w.heap[x.1]? = some x.2.2 ∧ (x.2.1 = true → w0.heap.size ≤ x.1 ∨ S x.1)) (fun b f o h => ⟨h.1, fun h => by cases h⟩) hw.nodup hw.has
  exact ⟨hw.ext, h1, h2⟩
/-- the types told so far -/
structure Tr where
  n : Nat
  row : Option Row
  f : Nat → Option Row
def rsH (f : Nat → Option Row) : Nat → Hp
  | 0 => []
  | n + 1 => rowH 64 (f n) ++ rsH f n
theorem rsH_congr {f g : Nat → Option Row} : ∀ {n : Nat}, (∀ j, j < n → f j = g j) → rsH f n = rsH g n
  | 0, _ => rfl
  | n + 1, h => by rw [rsH, rsH, h n (Nat.lt_succ_self n), rsH_congr fun j hj => h j (Nat.lt_succ_of_lt hj)]
theorem rsH_mem {f : Nat → Option Row} : ∀ {n j : Nat}, j < n → ∀ y ∈ rowH 64 (f j), y ∈ rsH f n
  | n + 1, j, h, y, hy => by
    rcases Nat.lt_or_ge j n with h1 | h1
    · exact List.mem_append_right _ (rsH_mem h1 y hy)
    obtain rfl : j = n := by omega
    exact List.mem_append_left _ hy
namespace Cx
def tpsV (C : Cx) (f : Nat → Option Row) (n : Nat) : List Value := (List.range n).flatMap fun j => cellsT (C.tp j) (rowV (f j) (C.tp j).mems.length)
structure TrOk (C : Cx) (k : Nat) (a : Tr) : Prop where
  n : a.n = k - 1
  row : RowOk 8 a.row a.n (C.tpsV a.f a.n)
  f : ∀ j, j < a.n → RowOk 5 (a.f j) (C.tp j).mems.length ((C.tp j).mems.flatMap cellsM)
theorem tpsV_snoc (C : Cx) (f : Nat → Option Row) (n : Nat) (r : Option Row) : C.tpsV (fun j => if j = n then r else f j) (n + 1) = C.tpsV f n ++ cellsT (C.tp n) (rowV r (C.tp n).mems.length) := by
  unfold tpsV
  rw [List.range_succ, List.flatMap_append, List.flatMap_cons, List.flatMap_nil, List.append_nil]
  congr 1
  · rw [List.flatMap_def, List.flatMap_def]
    congr 1
    apply List.map_congr_left
    intro j hj
    have hj := List.mem_range.1 hj
    dsimp only
    rw [if_neg om]
  dsimp only
  rw [if_pos rfl]
theorem Full.num {C : Cx} {S : Nat → Prop} {w0 w : World} {y : St} {T : Hp} {sp sc : Nat} {f f' : Bool} (h : C.Full y) (hw : Holds S w0 (C.H y T) w) (hsp : HMem (C.H y T) sp f (.cells #[.pointer (some ⟨C.z.d, 0, none⟩)] 78 (0, 0))) (hsc : HMem (C.H y T) sc f' (.cells #[.pointer (some ⟨sp, 0, none⟩)] 38 (0, 0))) : C.Num [] y sp sc w := by
  have hT : ∀ z ∈ T ++ oldH y.U, z ∈ C.H y T := fun z hz => by
    unfold Cx.H
    repeat (first | exact hz | apply mem_skip)
  refine ⟨h.inv, ?_, ?_, hw.at_ hsp, hw.at_ hsc, fun p hp => (h.inv.k p hp).key h.inv (fun b hb => by cases hb) hw hT, fun u hu => ?_, fun r v hv hr => ?_⟩
  · exact hw.at_ (show HMem (C.H y T) C.z.d false _ from .skip (.skip .hit))
  · exact hw.at_ (show HMem (C.H y T) C.z.im true _ from .skip .hit)
  · exact (hw.has _ (hT _ (List.mem_append_right _ (List.mem_map.2 ⟨u, hu, rfl⟩)))).1
  rcases hv with ⟨h0, _⟩ | ⟨b, hb, rfl⟩
  · exact absurd h0 hr
  obtain ⟨u, hu⟩ := (h.fin _ hb).2
  have := Ref.uniq h.inv (h.inv.k _ hu) (.inr ⟨b, hb, rfl⟩)
  simp only at this
  rw [← this]; exact hu
end Cx

theorem f13_ok (sp : Nat) (w : World) : Calls Tryz.prog 13 #[.pointer (some ⟨sp, 0, none⟩)] w (fun r w' => ∃ b1 : Nat, r = .returned (.func (.func 32) #[] #[.pointer (some ⟨b1, 0, none⟩)]) ∧ Fresh w [(b1, true, .cells #[.pointer (some ⟨sp, 0, none⟩)] 38 (0, 0))] w') := by
 refine sw_calls (S := noS) func13 rfl ntmps13 (sees1 _ _ rfl) (Holds.start _ _) ?_
 refine SR fun _ k1 => ?_
 refine Sc (O_box (cs := [.pointer (some ⟨sp, 0, none⟩)].toArray) rfl (.tmp .hit) rfl) ?_
 intro bk1 _
 refine Ac ?_
 refine SN k1 ?_
 refine Ek [2, 1] ?_
 refine SR fun _ k2 => ?_
 refine Sc (O_makeFunc (fs := []) (cs := [.tmp 1]) rfl .nil (.cons (.tmp (.o rfl)) .nil)) ?_
 refine Ah ?_
 refine SN k2 ?_
 refine Rt ?_
 refine Pl3 ?_
 exact SK_ret1 rfl .hit (fun w hw => ⟨bk1, rfl, hw.made .a rfl⟩)

abbrev dataC (C0 : Cx) (r : Row) : Cx := { C0 with o := .cells r.cur.toArray 5 (0, 0), off := 24, toff := 24 + C0.len }
abbrev mkC (C0 : Cx) (r : Row) (st : Nat) (z : Dec) : Cx := { C0 with b := r.g, o := .cells r.cur.toArray 5 (0, 0), off := 24, toff := 24 + C0.len, cap := r.cap - 24, st := st, tcap := r.cap - 24 - C0.len, z := z }
theorem flatL {α : Type} {f : α → List Value} {s : Nat} (hs : ∀ a, (f a).length = s) : ∀ {l : List α} {k : Nat} {a : α} {q : Nat}, l[k]? = some a → q < s → (l.flatMap f)[k * s + q]? = (f a)[q]?
  | x :: l, 0, a, q, h, hq => by
    simp only [List.getElem?_cons_zero, Option.some.injEq] at h
    subst h
    rw [List.flatMap_cons, List.getElem?_append_left (by rw [hs]; omega)]
    simp
  | x :: l, k + 1, a, q, h, hq => by
    rw [List.flatMap_cons, List.getElem?_append_right (by rw [hs, Nat.succ_mul]; omega), hs, show (k + 1) * s + q - s = k * s + q by rw [Nat.succ_mul]; omega]
    exact flatL hs Q48 hq
theorem Cx.tysAt {C : Cx} {w : World} {row : Option Row} {n : Nat} {f : Nat → Option Row} (h1 : RowOk 8 row n (C.tpsV f n)) (h2 : ∀ j, j < n → RowOk 5 (f j) (C.tp j).mems.length ((C.tp j).mems.flatMap cellsM)) (hr : ∀ y ∈ rowH 32 row, w.heap[y.1]? = some y.2.2) (hf : ∀ y ∈ rsH f n, w.heap[y.1]? = some y.2.2) :
    ∃ p c, rowV row n = .slice p n c ∧ TysAt w p ((List.range n).map C.tp) := by
  cases row with
  | none =>
    obtain rfl : n = 0 := h1.2
    exact ⟨none, 0, rfl, fun i t ht => by simp at ht⟩
  | some r =>
    refine ⟨some ⟨r.g, 0, none⟩, r.cap, rfl, fun i t ht => ?_⟩
    have hi : i < n := by
      rcases Nat.lt_or_ge i n with h | h
      · exact h
      rw [List.getElem?_eq_none Q48] at ht; cases ht
    obtain rfl : C.tp i = t := by simpa [hi] using ht
    refine ⟨r.g, 0, rfl, ?_⟩
    have hc := row_at (f := fun j => cellsT (C.tp j) (rowV (f j) (C.tp j).mems.length)) (E := 32) h1 (fun _ => rfl) (hr _ List.mem_cons_self) hi (o := 0 + i * 8) om
    have hfi := h2 i hi
    have hbl := fun y hy => hf y (rsH_mem hi y hy)
    generalize f i = q at hc hfi hbl
    cases q with
    | none =>
      have h0 : (C.tp i).mems.length = 0 := hfi.2
      refine ⟨none, 0, ?_, by omega, fun k m hk => ?_⟩
      · have e : rowV none (C.tp i).mems.length = .slice none (C.tp i).mems.length 0 := by rw [h0]; rfl
        rw [e] at hc
        exact hc
      rw [List.getElem?_eq_none om] at hk; cases hk
    | some q =>
      refine ⟨some ⟨q.g, 0, none⟩, q.cap, hc, hfi.2.1, fun k m hk => ⟨q.g, 0, rfl, fun j u hu => ?_⟩⟩
      have hj : j < 5 := by
        rcases Nat.lt_or_ge j (cellsM m).length with h | h
        · exact h
        rw [List.getElem?_eq_none h] at hu; cases hu
      rw [show 0 + k * 5 + j = k * 5 + j by omega]
      exact hfi.cell (E := 64) (hbl _ List.mem_cons_self) ((flatL (f := cellsM) (s := 5) (fun _ => rfl) hk hj).trans hu)
theorem full0 (C : Cx) : C.Full ⟨[], [], []⟩ := ⟨⟨fun p hp => (by cases hp), List.nodup_nil, List.nodup_nil, fun p hp => (by cases hp), fun p hp => (by cases hp)⟩, fun p hp => (by cases hp)⟩
theorem eq_bool (b : Bool) {x y : Operand} (w : World) : (do eqGuard .neq 4 x y (.bool b) (.bool b); binOp .neq 4 (.bool b) (.bool b) : Sem Value).run Tryz.prog w = .ok (.bool false) w := by cases b <;> kernel_rfl

theorem f6_ok (C0 : Cx) (txs : List Nat) (b len cap : Nat) (o : Obj) (xs : List Value) (hcs : cellsOf o 0 (len * 1) = some xs) (hc1 : xs.all (·.oneCell') = true) (hD : ∀ r : Row, RowOk 1 (some r) (0 + len) ([] ++ xs) → DataOk (dataC C0 r) txs) (hlen : len = 24 + C0.len + C0.sl) (h31l : len < 2147483648) (hl25 : 25 ≤ len) (g0 : Obj) (ea : Addr) (hg : cellOf g0 0 = some (.iface 202 (.pointer (some ea)))) (hb0 : 0 ≠ b) (w : World) (hb : w.heap[b]? = some o) (hg0 : w.heap[0]? = some g0) :
    Calls Tryz.prog 6 #[.slice (some ⟨b, 0, none⟩) len cap, .bool C0.big] w (fun q w' => ∃ p c, q = .returned (.tuple #[.slice p C0.N c, .bool true]) ∧ TysAt w' p ((List.range C0.N).map C0.tp) ∧ Ext noS w w') := by
 refine sw_callsM (S := noS) func6 rfl ntmps6 (sees2 _ _ _ rfl) ((Holds.start1 _ _ hb).old hg0 (by simp; exact fun h => hb0 h.symm)) ?_
 refine SR fun _ k1 => ?_
 refine Sc (O_alloc rfl zr22 rfl) ?_
 intro bk4 _
 refine Sc (O_alloc rfl zr4 rfl) ?_
 intro bk5 _
 refine SN k1 ?_
 refine SR fun _ k2 => ?_
 refine Mo ?_
 refine Sc (O_callN (val := fun v : Value => .tuple #[v, .bool C0.big, .bool true]) (N := fun _ => []) (good := fun _ => True) (xs := [.tmp 17]) (cap := []) rfl .func (.cons (.tmp .hit) .nil) func11 rfl rfl (fun w1 hw => (f11_ok C0.big b len cap C0.len C0.sl o xs hcs hc1 (fun r hr => (hD r hr).head) om om w1 (hw.at_ .a)).mono (fun {r w2} h => by obtain ⟨v, h1, h2⟩ := h; exact ⟨v, h1, trivial, Fresh.of_ext h2⟩))) ?_
 intro v18 _
 dsimp only [List.nil_append]
 refine Mh ?_
 refine Sc Oex ?_
 refine Sc Oex ?_
 refine Sc Oex ?_
 refine Ao ?_
 refine Ao ?_
 refine Ao ?_
 refine SN k2 ?_
 refine Ek [8, 7, 5, 4, 0, 1] ?_
 refine Sq fun _ k3 => ?_
 refine SR fun _ k4 => ?_
 refine Mh ?_
 refine Sc (O_unOp rfl (.tmp .hit) (r := .bool false) (fun _ => rfl)) ?_
 refine Mh ?_
 refine Wo Omo ?_
 refine Wo Omo ?_
 refine Wo (O_binOp rfl (.tmp (.o rfl)) (.tmp .hit) (r := .bool false) (fun _ => eq_bool _ _)) ?_
 refine Sc Opf ?_
 refine SN k4 ?_
 refine Fh ?_
 refine SS k3 ?_
 refine Ek [5, 4, 0] ?_
 refine SR fun _ k5 => ?_
 refine Mo ?_
 refine Sc (O_appendO (r := none) (k := 0) rfl .const (.tmp .hit) rfl underlying26 inf5 rfl dc .nn (show RowOk 1 none 0 [] from ⟨rfl, rfl⟩) .a hcs hc1 om Q16 om) ?_
 intro r31 h31
 have hDr := hD r31 h31
 have hcap := h31.2.1
 refine SL_cons (O_call (val := fun z : Nat × Nat × Dec => .tuple #[.pointer (some ⟨z.1, 0, none⟩), .nilIface]) (Hf := fun z => (mkC C0 r31 z.2.1 z.2.2).H ⟨[], [], []⟩ ((z.1, false, .cells #[.pointer (some ⟨z.2.2.d, 0, none⟩)] 78 (0, 0)) :: (0, false, g0) :: (bk4, true, .cells #[.slice none 0 0] 22 (0, 0)) :: (bk5, true, .cells #[.bool false] 4 (0, 0)) :: [])) (good := fun z => z.2.1 ≠ r31.g ∧ RowOk 1 (some z.2.2.ro) (C0.N + 1) (offV C0.pos C0.N)) (xs := [.tmp 31]) (cap := []) rfl .func (.cons (.tmp .hit) .nil) func12 rfl rfl (fun w1 hw => (f12_ok C0.big r31.g (0 + len) r31.cap C0.len C0.sl _ C0.N C0.pos C0.nm C0.inf C0.sz txs hDr.head om om om hDr.lp (by have := hDr.tabl; simp at this; omega) hDr.hN hDr.recs hDr.tab hDr.tabl hDr.tabz w1 (hw.at_ .a)).mono (fun {r w2} h => by
   obtain ⟨⟨sp, st, z⟩, h1, h2, h3⟩ := h
   have hf := hw.fresh h3
   exact ⟨(sp, st, z), h1, ⟨hf.ne_pick (show HPick _ _ _ from HPick.a) .a, h2⟩, hf.low (by unfold Cx.H specH; exact HLow.a)⟩))) ?_
 rintro ⟨sp, st, z⟩ ⟨hne, hro⟩
 dsimp only [Cx.H, List.cons_append] at hne hro ⊢
 have hO : CxOk (mkC C0 r31 st z) := DataOk.cx (C := mkC C0 r31 st z) (txs := txs) ⟨hDr.head, rfl, rfl, hDr.p0, hDr.pN, hDr.tab, hDr.tabl, hDr.tabz, hDr.lp, hDr.rec_, hDr.k17, hDr.h31, hDr.h32, hDr.hN, hDr.v8, hDr.ex, hDr.txt, hDr.mtxt, hDr.ref, hDr.ref3, hDr.refm, hDr.refp, hDr.refv, hDr.int⟩ (by have := hDr.tabl; simp at this; show C0.len < r31.cap - 24; omega) hne (by show C0.sl ≤ r31.cap - 24 - C0.len; omega) hro
 refine Mh ?_
 refine Sc Oex ?_
 refine Sc Oex ?_
 refine Sc (O_alloc rfl zr38 rfl) ?_
 intro bk9 _
 refine Sc (O_store (.tmp .hit) (.tmp (.o rfl)) rfl sz38 .a .a) ?_
 refine Ao ?_
 refine SN k5 ?_
 refine Ek [10, 9, 5, 4] ?_
 refine Sq fun _ k6 => ?_
 refine SR fun _ k7 => ?_
 refine Mh ?_
 refine Sc (O_binOp rfl (.tmp .hit) .const (r := .bool false) (fun _ => rfl)) ?_
 refine SN k7 ?_
 refine Fh ?_
 refine SS k6 ?_
 refine Ek [9, 5, 4] ?_
 refine SR fun _ k8 => ?_
 refine Sc (O_alloc rfl zr22 rfl) ?_
 intro bk11 _
 refine SN k8 ?_
 refine Sq fun _ k9 => ?_
 refine SR fun _ k10 => ?_
 refine Sc (Ola oc38) ?_
 refine Sc (O_callN (val := fun b1 : Nat => .func (.func 32) #[] #[.pointer (some ⟨b1, 0, none⟩)]) (N := fun b1 => [(b1, true, .cells #[.pointer (some ⟨sp, 0, none⟩)] 38 (0, 0))]) (good := fun _ => True) (xs := [.tmp 37]) (cap := []) rfl .func (.cons (.tmp .hit) .nil) func13 rfl rfl (fun w1 hw => (f13_ok sp w1).mono (fun {r w2} h => by obtain ⟨b1, h1, h2⟩ := h; exact ⟨b1, h1, trivial, h2⟩))) ?_
 intro b1 _
 refine SN k10 ?_
 refine Bl ?_
 refine SW_range32 (C := mkC C0 r31 st z) (fun a => (bk11, true, .cells #[rowV a.row a.n] 22 (0, 0)) :: (bk9, true, .cells #[.pointer (some ⟨sp, 0, none⟩)] 38 (0, 0)) :: (bk4, true, .cells #[.slice none 0 0] 22 (0, 0)) :: (bk5, true, .cells #[.bool false] 4 (0, 0)) :: (rowH 32 a.row ++ rsH a.f a.n)) (mkC C0 r31 st z).TrOk hO hg ⟨[], [], []⟩ ⟨0, none, fun _ => none⟩ (full0 _) ⟨rfl, ⟨rfl, rfl⟩, fun j h => absurd h (Nat.not_lt_zero _)⟩ (.tmp .hit) rfl rfl .a (fun l D fn tm k x y a v hk ha hx hz K hK => ?_) (fun D y a hy ha => ?_)
 ·
  obtain ⟨n, row, f⟩ := a
  obtain ⟨a1, a2, a3⟩ := ha
  dsimp only at a1 a2 a3 ⊢
  have hy := hx.post hz
  dsimp only at hy
  dsimp only [Cx.H, List.cons_append]
  refine Ek [40, 39, 11, 9, 5, 4] ?_
  refine SR fun _ k11 => ?_
  refine Ao ?_
  refine SN k11 ?_
  refine Sr ?_
  refine Ao ?_
  refine Sn ?_
  refine SK_thenN ?_
  refine SK_begin hK rfl .a ?_
  refine Bl ?_
  refine Ek [13, 12, 11, 9, 5, 4] ?_
  refine Sq fun _ k12 => ?_
  refine SR fun _ k13 => ?_
  refine Mh ?_
  refine Sc (O_binOp rfl (.tmp .hit) .const (r := .bool false) (fun _ => rfl)) ?_
  refine SN k13 ?_
  refine Fh ?_
  refine SS k12 ?_
  refine Ek [12, 11, 9, 5, 4] ?_
  refine Sq fun _ k14 => ?_
  refine Sq fun _ k15 => ?_
  rcases Nat.eq_zero_or_pos k with hk0 | hk0
  ·
   subst hk0
   obtain rfl : v = voidV := by
     rcases hz.ref with ⟨_, h⟩ | ⟨b, h, _⟩
     · exact h
     exact (Nat.not_succ_le_zero 0 (hy.inv.m1 _ h).1).elim
   refine Sr ?_
   refine Mh ?_
   refine Sc (O_isTt rfl (.tmp .hit) underlying48 rfl zr48) ?_
   refine Mh ?_
   refine Sc Oex ?_
   refine Sc Oex ?_
   refine Ao ?_
   refine Ao ?_
   refine SN k15 ?_
   refine Ek [15, 12, 11, 9, 5, 4] ?_
   refine SR fun _ k16 => ?_
   refine Mh ?_
   refine SN k16 ?_
   refine Th ?_
   refine Xt ?_
   refine Pl3 ?_
   exact SK_roundEnd .a (fun w hw => ⟨rfl, ⟨n, row, f⟩, ⟨by show n = 0 + 1 - 1; omega, a2, a3⟩, hw.weaken .a⟩)
  obtain ⟨i, rfl⟩ : ∃ i, k = i + 1 := ⟨k - 1, by omega⟩
  obtain ⟨bt, hbt, rfl⟩ : ∃ b, (i + 1, b) ∈ y.M ∧ v = Cx.iv (mkC C0 r31 st z) (i + 1) b := by
    rcases hz.ref with ⟨h, _⟩ | ⟨b, h, e⟩
    · exact absurd h (Nat.succ_ne_zero _)
    exact ⟨b, h, e⟩
  obtain ⟨⟨cs, E, hu, hd⟩, _⟩ := hy.fin _ hbt
  obtain rfl : n = i := a1
  have hi : n < C0.N := by have : n + 1 ≤ C0.N := hk; omega
  have hN30 : C0.N ≤ 30 := hDr.hN
  refine Sr ?_
  refine Mh ?_
  refine Sc (O_isTv rfl (.tmp .hit) (Cx.ptrT _).1) ?_
  refine Mh ?_
  refine Sc Oex ?_
  refine Sc Oex ?_
  refine Ao ?_
  refine Ao ?_
  refine SN k15 ?_
  refine Ek [15, 12, 11, 9, 5, 4] ?_
  refine SR fun _ k17 => ?_
  refine Mh ?_
  refine SN k17 ?_
  refine Fh ?_
  refine SS k14 ?_
  refine SW_da mixed ?_
  refine Yl 0 oc22 ?_
  refine Ym 1 ?_
  refine Y1 2 9 rfl rfl (fun e H he hH => O_makeFunc (fs := []) (cs := [.tmp 9]) rfl .nil (.cons (Eh he) .nil)) ?_
  refine Ys 3 ?_
  refine Cand.mk (j := 3) [(50, _), (51, _)] rfl (.cons (t := 50) (.o rfl) (.cons (t := 51) .hit .nil)) (fun e he => O_call (xs := [.tmp 50, .tmp 51]) (cap := []) (val := fun r : Option Row => .agg (cellsT (Cx.tp (mkC C0 r31 st z) n) (rowV r (Cx.tp (mkC C0 r31 st z) n).mems.length)).toArray) (Hf := fun r => (z.tm, true, mapO (Cx.tysO (mkC C0 r31 st z) y.M)) :: (z.im, true, mapO (Cx.idsO y.K)) :: (z.d, false, .cells (decC C0.big st (C0.N + 1) z).toArray 90 (0, 0)) :: (z.sb, false, .cells [.slice (some ⟨r31.g, 24, none⟩) C0.len (r31.cap - 24)].toArray 224 (0, 0)) :: (st, false, .cells #[.pointer none, .slice (some ⟨r31.g, 24 + C0.len, none⟩) C0.sl (r31.cap - 24 - C0.len), .map none] 207 (0, 0)) :: (z.ro.g, false, .cells z.ro.cur.toArray 3 (0, 0)) :: (z.dt, false, .map #[] 0) :: (z.lm, false, .map #[] 0) :: (r31.g, false, .cells r31.cur.toArray 5 (0, 0)) :: (sp, false, .cells #[.pointer (some ⟨z.d, 0, none⟩)] 78 (0, 0)) :: (0, false, g0) :: (b1, true, .cells #[.pointer (some ⟨sp, 0, none⟩)] 38 (0, 0)) :: (l, true, .loop _) :: (D, true, .deferred (some [])) :: (bk11, true, .cells #[rowV row n] 22 (0, 0)) :: (bk9, true, .cells #[.pointer (some ⟨sp, 0, none⟩)] 38 (0, 0)) :: (bk4, true, .cells #[.slice none 0 0] 22 (0, 0)) :: (bk5, true, .cells #[.bool false] 4 (0, 0)) :: (rowH 32 row ++ (rowH 64 r ++ (rsH f n ++ oldH y.U)))) (good := fun r => RowOk 5 r (Cx.tp (mkC C0 r31 st z) n).mems.length ((Cx.tp (mkC C0 r31 st z) n).mems.flatMap cellsM)) rfl .func (.cons (.tmp (he.get .hit)) (.cons (.tmp (he.get (.o rfl))) .nil)) func14 rfl rfl (fun w1 hw => (f14_ok (Cx.Full.num (C := mkC C0 r31 st z) (T := ((sp, false, .cells #[.pointer (some ⟨z.d, 0, none⟩)] 78 (0, 0)) :: (0, false, g0) :: (b1, true, .cells #[.pointer (some ⟨sp, 0, none⟩)] 38 (0, 0)) :: (l, true, .loop _) :: (D, true, .deferred (some [])) :: (bk11, true, .cells #[rowV row n] 22 (0, 0)) :: (bk9, true, .cells #[.pointer (some ⟨sp, 0, none⟩)] 38 (0, 0)) :: (bk4, true, .cells #[.slice none 0 0] 22 (0, 0)) :: (bk5, true, .cells #[.bool false] 4 (0, 0)) :: (rowH 32 row ++ rsH f n))) hy hw .a .a) hDr.hN hO (i := n) hi hu hd).mono (fun {q w2} h => by
    obtain ⟨r, h1, h2, h3⟩ := h
    exact ⟨r, h1, h2, (hw.fresh h3).weaken (by cases r <;> cases row <;> exact HSub.a)⟩))) (fun _ _ h => h) kr ?_
  intro r hr
  refine ⟨⟨.inl kr, .inl kr, .inr (.cons .a .nil), trivial⟩, ?_⟩
  refine Ys 4 ?_
  refine Cand.mk (j := 4) [(52, _)] rfl (.cons (t := 52) .hit .nil) (fun e he => O_buildSlice1 (cs := (cellsT (Cx.tp (mkC C0 r31 st z) n) (rowV r (Cx.tp (mkC C0 r31 st z) n).mems.length)).toArray) rfl (.tmp (he.get .hit)) underlying22 sz32 zr32 (by cases r <;> rfl) rfl dc dc) (fun _ _ h => h) kr ?_
  intro bk53 _
  refine ⟨⟨.inr (.cons .a .nil), trivial⟩, ?_⟩
  refine Ys 5 ?_
  refine Cand.mk (j := 5) [(49, _), (53, _)] rfl (.cons (t := 49) (.o rfl) (.cons (t := 53) .hit .nil)) (fun e he => O_appendO (r := row) (k := n) rfl (.tmp (he.get .hit)) (.tmp (he.get (.o rfl))) rfl underlying22 inf32 rfl dc .a a2 .a rfl (by cases r <;> rfl) om Q16 om) (fun _ _ h => h) kr ?_
  intro r54 h54
  refine ⟨⟨.inl kr, trivial⟩, ?_⟩
  refine Ys 6 ?_
  refine Cand.mk (j := 6) [(11, _), (54, _)] (β := Unit) (good := fun _ => True) (val := fun _ => undef) (Hf := fun _ => _) rfl (.cons (t := 11) (.o rfl) (.cons (t := 54) .hit .nil)) (fun e he => O_store (.tmp (he.get .hit)) (.tmp (he.get (.o rfl))) rfl sz22 .a .a) (fun _ _ h => h () trivial) kr (fun _ _ => ⟨trivial, ?_⟩)
  refine Ye ?_
  refine Pl3 ?_
  exact SK_roundEnd .a (fun w hw => ⟨rfl, ⟨n + 1, some r54, fun j => if j = n then r else f j⟩, ⟨rfl, h54.eq rfl (Cx.tpsV_snoc _ f n r).symm, fun j hj => by
    have hj : j < n + 1 := hj
    show RowOk 5 (if j = n then r else f j) _ _
    by_cases hj2 : j = n
    · subst hj2; rw [if_pos rfl]; exact hr
    · rw [if_neg hj2]; exact a3 j om⟩, by
    have e : rsH (fun j => if j = n then r else f j) (n + 1) = rowH 64 r ++ rsH f n := by
      show rowH 64 (if n = n then r else f n) ++ rsH _ n = _
      rw [if_pos rfl]
      congr 1
      exact rsH_congr fun j hj => if_neg om
    dsimp only
    rw [e]
    exact hw.weaken (by cases r <;> exact HSub.a)⟩)
 obtain ⟨n, row, f⟩ := a
 obtain ⟨a1, a2, a3⟩ := ha
 dsimp only at a1 a2 a3 ⊢
 obtain rfl : n = C0.N := a1
 dsimp only [Cx.H, List.cons_append]
 refine So k9 ?_
 refine Ek [11, 5, 4] ?_
 refine SR fun _ k18 => ?_
 refine Sc (Ola oc22) ?_
 refine Sc (O_store (.tmp (.o rfl)) (.tmp .hit) (by first | rfl | (cases row <;> rfl)) sz22 .a .a) ?_
 refine Sc (O_store (.tmp (.o rfl)) .const rfl sz4 .a .a) ?_
 refine SN k18 ?_
 refine Rt ?_
 refine Pl3 ?_
 refine SK_retM2 (Ds := [D]) rfl (.o rfl) (.o rfl) rfl (.cons .hit .nil) oc22 oc4 .a .a rfl rfl (fun w hw => ?_)
 obtain ⟨p, c, e1, e2⟩ := Cx.tysAt (w := w) (C := mkC C0 r31 st z) a2 a3 (fun y hy => (hw.has y (by repeat (first | exact List.mem_append_left _ (List.mem_append_left _ hy) | apply mem_skip))).1) (fun y hy => (hw.has y (by repeat (first | exact List.mem_append_left _ (List.mem_append_right _ hy) | apply mem_skip))).1)
 exact ⟨p, c, by rw [← e1], e2, hw.ext⟩
end
end Go.Proofs.YtoibhfpagkdleaaGreatDoor
