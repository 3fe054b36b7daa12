/-
  CONTRACT: a type is read.
  CONTRACTS: errors.Is at the sentinel that the reader of types returns, and at nil.
-/
import Derived.Test.YtoibhfpagkdleaaGreatDoorGp
import Derived.Test.YtoibhfpagkdleaaGreatDoorSy
import Derived.WalkKit
import Derived.LaidEql
import Derived.Stop.Asserts
import Derived.RowKitTokens
namespace Go.Proofs.YtoibhfpagkdleaaGreatDoor
section
open Go
open Tryz
set_option maxRecDepth 100000

theorem offV_get {pos : Nat → Nat} {n i : Nat} (h : i < n) : (offV pos n)[i + 1]? = some (.int .i64 (pos i : Nat)) := by simp [offV, h]
namespace Cx
theorem KPost.grew {C : Cx} {B : List Nat} {x : St} {id : Nat} {z : St × Nat} (h : C.KPost B x id z) : C.Grew x (reg z.1 id (C.iv id z.2)) := by
  have g := reg_grew (C := C) z.1 id (C.iv id z.2)
  refine ⟨app_trans h.m g.m, app_trans h.k g.k, app_trans h.u g.u, fun p hp => ?_⟩
  rcases h.fin p hp with h1 | h1 | h1
  · exact .inl h1
  · subst h1
    obtain ⟨cs, E, h2, h3⟩ := h.done
    exact .inr ⟨⟨cs, E, h2, h3⟩, reg_mem h.inv (.inr ⟨z.2, h.mem, rfl⟩)⟩
  exact .inr (h1.mono g)
theorem found (M : List (Nat × Nat)) (id : Nat) : (∃ b, (id, b) ∈ M) ∨ ∀ p ∈ M, p.1 ≠ id := by
  rcases Classical.em (∃ b, (id, b) ∈ M) with h | h
  · exact .inl h
  exact .inr fun p hp e => h ⟨p.2, by rw [← e]; exact hp⟩
end Cx

theorem f63_step {C : Cx} (hO : CxOk C) {m : Nat} (hC : InflOk C m) : InflOk C (m + 1) := by
 intro S w0 T B xs id w hm hid hB hI hw
 have h31 := hO.h31
 have hlc := hO.hlc
 have hN := hO.hN
 refine sw_callsD func63 rfl ntmps63 (sees2 _ _ _ rfl) hw ?_
 unfold Cx.H
 refine SR fun _ k1 => ?_
 refine Sc (O_box (cs := [.pointer (some ⟨C.z.d, 0, none⟩)].toArray) rfl (.tmp .hit) rfl) ?_
 intro bk2 _
 refine Sc (O_box (cs := [.int .u32 (id : Nat)].toArray) rfl (.tmp (.o rfl)) rfl) ?_
 intro bk3 _
 refine Sc (O_alloc rfl zr47 rfl) ?_
 intro bk4 _
 refine Sc (O_alloc rfl zr40 rfl) ?_
 intro bk5 _
 refine SN k1 ?_
 refine Ek [5, 4, 3, 2] ?_
 refine SR fun _ k2 => ?_
 refine Sc (O_makeFunc (fs := []) (cs := [.tmp 5, .tmp 2, .tmp 3, .tmp 4]) rfl .nil (.cons (.tmp .hit) (.cons (.tmp (.o rfl)) (.cons (.tmp (.o rfl)) (.cons (.tmp (.o rfl)) .nil))))) ?_
 refine SL_defer (cap := [.pointer (some ⟨bk5, 0, none⟩), .pointer (some ⟨bk2, 0, none⟩), .pointer (some ⟨bk3, 0, none⟩), .pointer (some ⟨bk4, 0, none⟩)]) (.tmp .hit) ?_
 refine SN k2 ?_
 refine Ek [5, 4, 3, 2] ?_
 refine Sq fun _ k3 => ?_
 refine Sq fun _ k4 => ?_
 refine Zw (Zl rfl oc83 .a rfl (Zl rfl oc76 .a rfl (Zn rfl (Zf rfl underlying90 rfl sz83 (Zl rfl oc83 .a rfl .done))))) ?_
 refine Sc (O_binOp rfl (.tmp (.o rfl)) (.tmp .hit) (r := .bool false) (fun _ => b_lss _ _ _ false (decide_eq_false om))) ?_
 refine SN k4 ?_
 refine Fh ?_
 refine SS k3 ?_
 refine Ek [5, 4, 3, 2] ?_
 refine Sq fun _ k5 => ?_
 refine SR fun _ k6 => ?_
 refine Sc (Ola oc83) ?_
 refine Sc Obe ?_
 refine SN k6 ?_
 refine Sd ?_ ?_
 ·
  refine Ci fun ht102 => ?_
  have hid0 : id = 0 := by omega
  refine Ek [5, 4, 3, 2] ?_
  refine SR fun _ k7 => ?_
  refine Sc (O_makeInterface rfl .const ⟨_, underlying48, rfl⟩) ?_
  refine Sc (O_store (.tmp (.o rfl)) (.tmp .hit) rfl sz47 .a .a) ?_
  refine Sc (O_store (.tmp (.o rfl)) .const rfl sz40 .a .a) ?_
  refine SN k7 ?_
  refine Rt ?_
  refine Pl0 ?_
  refine Pl3 ?_
  exact SK_retD2 (cap := [.pointer (some ⟨bk5, 0, none⟩), .pointer (some ⟨bk2, 0, none⟩), .pointer (some ⟨bk3, 0, none⟩), .pointer (some ⟨bk4, 0, none⟩)]) rfl (.o rfl) (.o rfl) func72 rfl rfl (fun w hw => f72_ok T xs id (v := (voidV)) (B := B) hI (fun b h => cbs_skip (cbs_skip (cbs_skip (cbs_skip (hB b h))))) (.inl ⟨hid0, rfl⟩) w (hw.weaken .a)) oc47 oc40 .a .a rfl rfl (fun w hw => ⟨(Cx.reg xs id (voidV), voidV), rfl, ⟨Cx.reg_grew _ _ _, Cx.reg_inv hI (.inl ⟨hid0, rfl⟩), (.inl ⟨hid0, rfl⟩), Cx.reg_mem hI (.inl ⟨hid0, rfl⟩)⟩, hw.weaken .a⟩)
 refine Ci fun ht102 => ?_
 have hid1 : id ≠ 0 := by omega
 refine SS k5 ?_
 refine Ek [5, 4, 3, 2] ?_
 refine Sq fun _ k8 => ?_
 refine Sq fun _ k9 => ?_
 rcases Cx.found xs.M id with ⟨bb, hbb⟩ | hnf
 ·
  refine Zw (Zl rfl oc76 .a rfl (Zn rfl (Zf rfl underlying90 rfl sz86 (Zl rfl oc86 .a rfl (Zl rfl oc83 .a rfl (Z2 108 109 rfl rfl (fun e he => O_lookI rfl (Eh he) (Eo he) .a underlying86 underlying83 zr47 Cx.tys_int (.inl ⟨Cx.tys_in hI hbb, rfl⟩)) (Zm rfl (Z1 104 rfl (fun e he => O_extract rfl (Eh he) rfl) (Z1 104 rfl (fun e he => O_extract rfl (Eh he) rfl) (Z1 111 rfl (fun e he => O_assign rfl (Eh he)) .done)))))))))) ?_
  refine Ao ?_
  refine SN k9 ?_
  refine Ek [7, 6, 5, 4, 3, 2] ?_
  refine SR fun _ k10 => ?_
  refine Mh ?_
  refine SN k10 ?_
  refine Th ?_
  refine Ek [6, 5, 4, 3, 2] ?_
  refine SR fun _ k11 => ?_
  refine Mh ?_
  refine Sc (O_store (.tmp (.o rfl)) (.tmp .hit) rfl sz47 .a .a) ?_
  refine Sc (O_store (.tmp (.o rfl)) .const rfl sz40 .a .a) ?_
  refine SN k11 ?_
  refine Rt ?_
  refine Pl0 ?_
  refine Pl3 ?_
  exact SK_retD2 (cap := [.pointer (some ⟨bk5, 0, none⟩), .pointer (some ⟨bk2, 0, none⟩), .pointer (some ⟨bk3, 0, none⟩), .pointer (some ⟨bk4, 0, none⟩)]) rfl (.o rfl) (.o rfl) func72 rfl rfl (fun w hw => f72_ok T xs id (v := (C.iv id bb)) (B := B) hI (fun b h => cbs_skip (cbs_skip (cbs_skip (cbs_skip (hB b h))))) (.inr ⟨bb, hbb, rfl⟩) w (hw.weaken .a)) oc47 oc40 .a .a rfl rfl (fun w hw => ⟨(Cx.reg xs id (C.iv id bb), C.iv id bb), rfl, ⟨Cx.reg_grew _ _ _, Cx.reg_inv hI (.inr ⟨bb, hbb, rfl⟩), (.inr ⟨bb, hbb, rfl⟩), Cx.reg_mem hI (.inr ⟨bb, hbb, rfl⟩)⟩, hw.weaken .a⟩)
 obtain ⟨i, rfl⟩ : ∃ i, id = i + 1 := ⟨id - 1, by omega⟩
 have hi : i < C.N := by omega
 obtain ⟨r1, r2, r3, r4, r5, r6, r7⟩ := hO.rec_ i hi
 have k6 : C.inf i / 2 ^ 24 % 2 ^ 5 ≠ 0 := r6
 have k7 : C.inf i / 2 ^ 24 % 2 ^ 5 ≤ 19 := r7
 have k17 : C.inf i / 2 ^ 24 % 2 ^ 5 ≠ 17 := hO.k17 i hi
 refine Zw (Zl rfl oc76 .a rfl (Zn rfl (Zf rfl underlying90 rfl sz86 (Zl rfl oc86 .a rfl (Zl rfl oc83 .a rfl (Z2 108 109 rfl rfl (fun e he => O_lookI (v := .nilIface) rfl (Eh he) (Eo he) .a underlying86 underlying83 zr47 Cx.tys_int (.inr ⟨Cx.tys_out hnf, rfl⟩)) (Zm rfl (Z1 104 rfl (fun e he => O_extract rfl (Eh he) rfl) (Z1 104 rfl (fun e he => O_extract rfl (Eh he) rfl) (Z1 111 rfl (fun e he => O_assign rfl (Eh he)) .done)))))))))) ?_
 refine Ao ?_
 refine SN k9 ?_
 refine Ek [7, 6, 5, 4, 3, 2] ?_
 refine SR fun _ k12 => ?_
 refine Mh ?_
 refine SN k12 ?_
 refine Fh ?_
 refine SS k8 ?_
 refine Ek [5, 4, 3, 2] ?_
 refine SR fun _ k13 => ?_
 refine Sc (O_makeFunc (fs := []) (cs := [.tmp 2]) rfl .nil (.cons (.tmp (.o rfl)) .nil)) ?_
 refine Sc (O_alloc rfl zr251 rfl) ?_
 intro bk8 _
 refine Sc (O_store (.tmp .hit) (.tmp (.o rfl)) rfl sz251 .a .a) ?_
 refine SN k13 ?_
 refine Ek [8, 5, 4, 3, 2] ?_
 refine SR fun _ k14 => ?_
 refine Sc (O_makeFunc (fs := []) (cs := [.tmp 2, .tmp 8]) rfl .nil (.cons (.tmp (.o rfl)) (.cons (.tmp .hit) .nil))) ?_
 refine Ah ?_
 refine SN k14 ?_
 refine Ek [9, 8, 5, 4, 3, 2] ?_
 refine Sq fun _ k15 => ?_
 refine Zw (Zl rfl oc83 .a rfl (Zl rfl oc76 .a rfl (Zn rfl (Zf rfl underlying90 rfl sz83 (Zl rfl oc83 .a rfl .done))))) ?_
 refine Sc (O_binOp rfl (.tmp (.o rfl)) (.tmp .hit) (fun _ => b_sub_u32 (i + 1) 0 om om)) ?_
 refine Sc (O_convert rfl (.tmp .hit) (r := .int .i64 ((i + 1 : Nat) : Int)) (fun _ => c_int ⟨_, underlying83⟩ underlying3 (wrap_i64n _ om))) ?_
 refine Ah ?_
 refine SN k15 ?_
 refine Ek [10, 9, 8, 5, 4, 3, 2] ?_
 refine Sq fun _ k16 => ?_
 refine SR fun _ k17 => ?_
 refine Mh ?_
 refine Sc (Ola oc76) ?_
 refine Sc (O_nilCheck rfl (.tmp .hit)) ?_
 refine Sc (Ofa underlying90 sz35) ?_
 refine Sc (Ola oc35) ?_
 refine Sc (O_lenSlice rfl (.tmp .hit) underlying35 rfl) ?_
 refine Sc (O_binOp rfl (.tmp (.o rfl)) (.tmp .hit) (r := .bool false) (fun _ => b_geq _ _ _ false (decide_eq_false om))) ?_
 refine SN k17 ?_
 refine Fh ?_
 refine SS k16 ?_
 refine Ek [10, 9, 8, 5, 4, 3, 2] ?_
 refine SR fun _ k18 => ?_
 refine Sc (Ola oc76) ?_
 refine Sc (O_nilCheck rfl (.tmp .hit)) ?_
 refine Sc (Ofa underlying90 sz35) ?_
 refine Sc (Ola oc35) ?_
 refine Mo ?_
 refine Sc (O_indexAddr rfl (.tmp (.o rfl)) (.tmp .hit) underlying35 sz3 om om) ?_
 refine Sc (O_load rfl (.tmp .hit) oc3 .a (by rw [show 0 + ((i + 1 : Nat) : Int).toNat * 1 = i + 1 by omega]; exact hO.ro.get (offV_get hi))) ?_
 refine Ah ?_
 refine SN k18 ?_
 refine Ek [11, 9, 8, 5, 4, 3, 2] ?_
 refine Sq fun _ k19 => ?_
 refine SR fun _ k20 => ?_
 refine Mh ?_
 refine Sc (Ola oc76) ?_
 refine Sc (O_nilCheck rfl (.tmp .hit)) ?_
 refine Sc (Ofa underlying90 sz81) ?_
 refine Sc (Ola oc81) ?_
 refine Sc (O_nilCheck rfl (.tmp .hit)) ?_
 refine Sc (Ofa underlying224 sz26) ?_
 refine Sc (Ola oc26) ?_
 refine Sc (O_lenSlice rfl (.tmp .hit) underlying26 rfl) ?_
 refine Sc (O_binOp rfl (.tmp (.o rfl)) (.tmp .hit) (r := .bool false) (fun _ => b_geq _ _ _ false (decide_eq_false om))) ?_
 refine SN k20 ?_
 refine Fh ?_
 refine SS k19 ?_
 refine Ek [11, 9, 8, 5, 4, 3, 2] ?_
 refine SR fun _ k21 => ?_
 refine Sc (O_alloc rfl zr209 rfl) ?_
 intro bk12 _
 refine SN k21 ?_
 refine SR fun _ k22 => ?_
 refine Sc (O_alloc rfl zr264 rfl) ?_
 intro bk13 _
 refine SN k22 ?_
 refine SR fun _ k23 => ?_
 refine Sc (O_alloc rfl zr266 rfl) ?_
 intro bk14 _
 refine SN k23 ?_
 refine SR fun _ k24 => ?_
 refine Sc (O_alloc rfl zr268 rfl) ?_
 intro bk15 _
 refine SN k24 ?_
 refine SR fun _ k25 => ?_
 refine Sc (O_alloc rfl zr270 rfl) ?_
 intro bk16 _
 refine SN k25 ?_
 refine SR fun _ k26 => ?_
 refine Sc (Ola oc76) ?_
 refine Sc (O_nilCheck rfl (.tmp .hit)) ?_
 refine Sc (Ofa underlying90 sz81) ?_
 refine Sc (Ola oc81) ?_
 refine Sc (O_nilCheck rfl (.tmp .hit)) ?_
 refine Sc (Ofa underlying224 sz26) ?_
 refine Sc (Ola oc26) ?_
 refine Mo ?_
 refine Sc (O_sliceLo (C.pos i) rfl (.tmp (.o rfl)) (.tmp .hit) rfl underlying26 sz5 om om om) ?_
 refine Ah ?_
 refine SN k26 ?_
 refine Ek [17, 16, 15, 14, 13, 12, 9, 8, 5, 4, 3, 2] ?_
 refine Sq fun _ k27 => ?_
 refine Sq fun _ k28 => ?_
 refine SR fun _ k29 => ?_
 refine Mh ?_
 refine Sc (Ola oc76) ?_
 refine Sc (O_nilCheck rfl (.tmp .hit)) ?_
 refine Sc (Ofa underlying90 sz80) ?_
 refine Sc (Ola oc80) ?_
 refine Sc (O_callM (xs := [.tmp 12, .tmp 160, .tmp 164]) (cap := []) rfl .func (.cons (.tmp (.o rfl)) (.cons (.tmp (.o rfl)) (.cons (.tmp .hit) .nil))) func65 rfl rfl .a (fun w1 hw => f65_ok C.big bk12 C.b (C.off + C.pos i * 1) (C.len - C.pos i) (C.cap - C.pos i) C.o 209 _ _ _ (C.nm i) (C.inf i) (C.sz i) (hw.ne_pick HPick.a .a) om om (by simpa using r3) (by simpa using r4) (by simpa using r5) w1 (hw.at_ .a) (hw.at_ .a))) ?_
 refine Mh ?_
 refine Sc Oex ?_
 refine Sc Oex ?_
 refine Ao ?_
 refine Ao ?_
 refine SN k29 ?_
 refine Ek [19, 18, 17, 16, 15, 14, 13, 12, 9, 8, 5, 4, 3, 2] ?_
 refine SR fun _ k30 => ?_
 refine Mh ?_
 refine Sc (O_binOp rfl (.tmp .hit) .const (r := .bool false) (fun _ => rfl)) ?_
 refine SN k30 ?_
 refine Fh ?_
 refine Sr ?_
 refine Mo ?_
 refine Mo ?_
 refine Sc (O_sliceLo 12 rfl (.tmp (.o rfl)) (.tmp .hit) rfl underlying26 sz5 om om om) ?_
 refine Ah ?_
 refine SN k28 ?_
 refine Ek [17, 16, 15, 14, 13, 12, 9, 8, 5, 4, 3, 2] ?_
 refine Sq fun _ k31 => ?_
 refine Zw (Zl rfl oc76 .a rfl (Zn rfl (Zf rfl underlying90 rfl sz82 (Zl rfl oc82 .a rfl (Zf rfl underlying209 rfl sz73 (Zl rfl oc73 .a rfl (Z2 178 180 rfl rfl (fun e he => O_callE (xs := [.tmp 178, .tmp 180]) (cap := []) rfl .func (.cons (Eh he) (.cons (Eo he) .nil)) func77 rfl rfl (fun w1 hw => f77_w (hO.txt i hi) hO.hne hO.hst hO.h32 w1 (hw.at_ .a) (hw.at_ .a))) (Zm rfl (Z1 174 rfl (fun e he => O_extract rfl (Eh he) rfl) (Z1 174 rfl (fun e he => O_extract rfl (Eh he) rfl) (Z1 182 rfl (fun e he => O_assign rfl (Eh he)) .done))))))))))) ?_
 refine Ao ?_
 refine SN k31 ?_
 refine Ek [21, 20, 17, 16, 15, 14, 13, 12, 9, 8, 5, 4, 3, 2] ?_
 refine Sq fun _ k32 => ?_
 refine SR fun _ k33 => ?_
 refine Mh ?_
 refine Sc (O_binOp rfl (.tmp .hit) .const (r := .bool false) (fun _ => rfl)) ?_
 refine SN k33 ?_
 refine Fh ?_
 refine SS k32 ?_
 refine Ek [21, 20, 17, 16, 15, 14, 13, 12, 9, 8, 5, 4, 3, 2] ?_
 refine SR fun _ k34 => ?_
 refine Sc (O_callE (xs := [.tmp 12]) (cap := []) rfl .func (.cons (.tmp (.o rfl)) .nil) func56 rfl rfl (fun w1 hw => f56_ok _ _ _ _ r4.lt w1 (hw.at_ .a))) ?_
 refine SN k34 ?_
 refine SW_join (α := St × Nat) (fun x => C.KPost B xs (i + 1) x) (fun x =>  (C.z.tm, true, mapO (C.tysO x.1.M)) :: (C.z.im, true, mapO (Cx.idsO x.1.K)) :: (C.z.d, false, .cells (decC C.big C.st (C.N + 1) C.z).toArray 90 (0, 0)) :: (C.z.sb, false, .cells [.slice (some ⟨C.b, C.off, none⟩) C.len C.cap].toArray 224 (0, 0)) :: (C.st, false, .cells #[.pointer none, .slice (some ⟨C.b, C.toff, none⟩) C.sl C.tcap, .map none] 207 (0, 0)) :: (C.z.ro.g, false, .cells C.z.ro.cur.toArray 3 (0, 0)) :: (C.z.dt, false, .map #[] 0) :: (C.z.lm, false, .map #[] 0) :: (C.b, false, C.o) :: ((bk5, true, .cells #[.nilIface] 40 (0, 0)) :: (bk2, true, .cells #[.pointer (some ⟨C.z.d, 0, none⟩)] 76 (0, 0)) :: (bk3, true, .cells #[.int .u32 ((i + 1 : Nat) : Int)] 83 (0, 0)) :: (bk4, true, .cells #[C.iv (i + 1) x.2] 47 (0, 0)) :: T ++ oldH x.1.U)) (fun x => [(2, .pointer (some ⟨bk2, 0, none⟩)), (3, .pointer (some ⟨bk3, 0, none⟩)), (4, .pointer (some ⟨bk4, 0, none⟩)), (5, .pointer (some ⟨bk5, 0, none⟩))]) (fun x hx => ?_) (fun J0 => ?_)
 ·
  obtain ⟨y, bk⟩ := x
  dsimp only at hx ⊢
  refine So k27 ?_
  refine Sq fun _ k35 => ?_
  refine Sq fun _ k36 => ?_
  refine Zw (Zl rfl oc76 .a rfl (Zn rfl (Zf rfl underlying90 rfl sz84 (Zl rfl oc84 .a rfl (Zl rfl oc83 .a rfl (Z2 846 847 rfl rfl (fun e he => O_lookI (L := []) (v := .nilIface) rfl (Eh he) (Eo he) .a underlying84 underlying83 zr217 Q22 (.inr ⟨by simp, rfl⟩)) (Z1 848 rfl (fun e he => O_lenSlice rfl (Eh he) underlying217 rfl) (Z0 (fun e he => O_move rfl .const) .done)))))))) ?_
  refine SN k36 ?_
  refine Bl ?_
  refine SW_loop (α := Unit) (fun x => True) (fun x => 0) (fun x =>  (C.z.tm, true, mapO (C.tysO y.M)) :: (C.z.im, true, mapO (Cx.idsO y.K)) :: (C.z.d, false, .cells (decC C.big C.st (C.N + 1) C.z).toArray 90 (0, 0)) :: (C.z.sb, false, .cells [.slice (some ⟨C.b, C.off, none⟩) C.len C.cap].toArray 224 (0, 0)) :: (C.st, false, .cells #[.pointer none, .slice (some ⟨C.b, C.toff, none⟩) C.sl C.tcap, .map none] 207 (0, 0)) :: (C.z.ro.g, false, .cells C.z.ro.cur.toArray 3 (0, 0)) :: (C.z.dt, false, .map #[] 0) :: (C.z.lm, false, .map #[] 0) :: (C.b, false, C.o) :: ((bk5, true, .cells #[.nilIface] 40 (0, 0)) :: (bk2, true, .cells #[.pointer (some ⟨C.z.d, 0, none⟩)] 76 (0, 0)) :: (bk3, true, .cells #[.int .u32 ((i + 1 : Nat) : Int)] 83 (0, 0)) :: (bk4, true, .cells #[C.iv (i + 1) bk] 47 (0, 0)) :: T ++ oldH y.U)) (fun x => [(850, .int .i64 0), (849, .int .i64 0), (2, .pointer (some ⟨bk2, 0, none⟩)), (3, .pointer (some ⟨bk3, 0, none⟩)), (4, .pointer (some ⟨bk4, 0, none⟩)), (5, .pointer (some ⟨bk5, 0, none⟩))]) () trivial .a .a ?_
  rintro ⟨⟩ -
  refine SR fun _ k37 => ?_
  refine Sc (O_binOp rfl (.tmp .hit) (.tmp (.o rfl)) (r := .bool false) (fun _ => rfl)) ?_
  refine SN k37 ?_
  refine Sq fun _ k38 => ?_
  refine Fh ?_
  refine Xt ?_
  refine So k35 ?_
  refine Ek [4, 5] ?_
  refine SR fun _ k39 => ?_
  refine Sc (Ola oc47) ?_
  refine Sc (O_store (.tmp (.o rfl)) (.tmp .hit) rfl sz47 .a .a) ?_
  refine Sc (O_store (.tmp (.o rfl)) .const rfl sz40 .a .a) ?_
  refine SN k39 ?_
  refine Rt ?_
  refine Pl3 ?_
  exact SK_retD2 (cap := [.pointer (some ⟨bk5, 0, none⟩), .pointer (some ⟨bk2, 0, none⟩), .pointer (some ⟨bk3, 0, none⟩), .pointer (some ⟨bk4, 0, none⟩)]) rfl (.o rfl) (.o rfl) func72 rfl rfl (fun w hw => f72_ok T y (i + 1) (v := (C.iv (i + 1) bk)) (B := B) hx.inv (fun b h => cbs_skip (cbs_skip (cbs_skip (cbs_skip (hB b h))))) (.inr ⟨bk, hx.mem, rfl⟩) w (hw.weaken .a)) oc47 oc40 .a .a rfl rfl (fun w hw => ⟨(Cx.reg y (i + 1) (C.iv (i + 1) bk), C.iv (i + 1) bk), rfl, ⟨hx.grew, Cx.reg_inv hx.inv (.inr ⟨bk, hx.mem, rfl⟩), (.inr ⟨bk, hx.mem, rfl⟩), Cx.reg_mem hx.inv (.inr ⟨bk, hx.mem, rfl⟩)⟩, hw.weaken .a⟩)
 refine Bl ?_
 refine SR fun _ k40 => ?_
 refine Sc Obe ?_
 refine Ah ?_
 refine SN k40 ?_
 refine Sd ?_ ?_
 ·
  refine Ci fun ht189 => ?_
  exact (kd1_ok hO T B xs i bk2 bk3 bk4 bk5 bk12 bk13 (C.off + C.pos i * 1 + 12 * 1) (C.len - C.pos i - 12) (C.cap - C.pos i - 12) .nilIface hi (by show C.inf i / 2 ^ 24 % 2 ^ 5 = 1; omega) hnf hm hB hI om rfl rfl (fun z hz => SK_inBlockN (J0 z hz))).weaken (Ek8 rfl rfl rfl rfl rfl rfl rfl rfl) .a
 refine Ci fun ht189 => ?_
 refine Ek [187, 21, 20, 17, 16, 15, 14, 12, 9, 8, 5, 4, 3, 2] ?_
 refine SR fun _ k41 => ?_
 refine Sc Obe ?_
 refine Ah ?_
 refine SN k41 ?_
 refine Sd ?_ ?_
 ·
  refine Ci fun ht237 => ?_
  exact (kd2_ok hO hC T B xs i bk2 bk3 bk4 bk5 bk8 bk12 .nilIface hi (by show C.inf i / 2 ^ 24 % 2 ^ 5 = 2; omega) hnf hm hB hI (fun z hz => SK_inBlockN (J0 z hz))).weaken (Ek6 rfl rfl rfl rfl rfl rfl) .a
 refine Ci fun ht237 => ?_
 refine Ek [187, 21, 20, 17, 16, 15, 14, 12, 9, 8, 5, 4, 3, 2] ?_
 refine SR fun _ k42 => ?_
 refine Sc Obe ?_
 refine Ah ?_
 refine SN k42 ?_
 refine Sd ?_ ?_
 ·
  refine Ci fun ht256 => ?_
  exact (kd3_ok hO hC T B xs i bk2 bk3 bk4 bk5 bk8 bk12 bk14 (C.off + C.pos i * 1 + 12 * 1) (C.len - C.pos i - 12) (C.cap - C.pos i - 12) .nilIface hi (by show C.inf i / 2 ^ 24 % 2 ^ 5 = 3; omega) hnf hm hB hI om rfl rfl (fun z hz => SK_inBlockN (J0 z hz))).weaken (Ek7 rfl rfl rfl rfl rfl rfl rfl) .a
 refine Ci fun ht256 => ?_
 refine Ek [187, 21, 20, 17, 16, 15, 12, 9, 8, 5, 4, 3, 2] ?_
 refine SR fun _ k43 => ?_
 refine Sc Obe ?_
 refine Ah ?_
 refine SN k43 ?_
 refine Sd ?_ ?_
 ·
  refine Ci fun ht297 => ?_
  exact (kd4_ok hO hC T B xs i bk2 bk3 bk4 bk5 bk8 bk12 (C.off + C.pos i * 1 + 12 * 1) (C.len - C.pos i - 12) (C.cap - C.pos i - 12) .nilIface hi (by show C.inf i / 2 ^ 24 % 2 ^ 5 = 4; omega) hnf hm hB hI om rfl rfl (fun z hz => SK_inBlockN (J0 z hz))).weaken (Ek8 rfl rfl rfl rfl rfl rfl rfl rfl) .a
 refine Ci fun ht297 => ?_
 refine Ek [187, 21, 20, 17, 16, 15, 12, 9, 8, 5, 4, 3, 2] ?_
 refine SR fun _ k44 => ?_
 refine Sc Obe ?_
 refine Ah ?_
 refine SN k44 ?_
 refine Sd ?_ ?_
 ·
  refine Ci fun ht324 => ?_
  exact (kd5_ok hO hC T B xs i bk2 bk3 bk4 bk5 bk8 bk12 (C.off + C.pos i * 1 + 12 * 1) (C.len - C.pos i - 12) (C.cap - C.pos i - 12) .nilIface hi (by show C.inf i / 2 ^ 24 % 2 ^ 5 = 5; omega) hnf hm hB hI om rfl rfl (fun z hz => SK_inBlockN (J0 z hz))).weaken (Ek8 rfl rfl rfl rfl rfl rfl rfl rfl) .a
 refine Ci fun ht324 => ?_
 refine Ek [187, 20, 17, 16, 15, 12, 8, 5, 4, 3, 2] ?_
 refine SR fun _ k45 => ?_
 refine Sc Obe ?_
 refine Ah ?_
 refine SN k45 ?_
 refine Sd ?_ ?_
 ·
  refine Ci fun ht351 => ?_
  exact (kd6_ok hO T B xs i bk2 bk3 bk4 bk5 bk12 (C.off + C.pos i * 1 + 12 * 1) (C.len - C.pos i - 12) (C.cap - C.pos i - 12) .nilIface hi (by show C.inf i / 2 ^ 24 % 2 ^ 5 = 6; omega) hnf hm hB hI om rfl rfl (fun z hz => SK_inBlockN (J0 z hz))).weaken (Ek7 rfl rfl rfl rfl rfl rfl rfl) .a
 refine Ci fun ht351 => ?_
 refine Ek [187, 20, 17, 16, 15, 12, 8, 5, 4, 3, 2] ?_
 refine SR fun _ k46 => ?_
 refine Sc Obe ?_
 refine Ah ?_
 refine SN k46 ?_
 refine Sd ?_ ?_
 ·
  refine Ci fun ht427 => ?_
  exact (kd7_ok hO T B xs i bk2 bk3 bk4 bk5 bk12 .nilIface hi (by show C.inf i / 2 ^ 24 % 2 ^ 5 = 7; omega) hnf hm hB hI (fun z hz => SK_inBlockN (J0 z hz))).weaken (Ek6 rfl rfl rfl rfl rfl rfl) .a
 refine Ci fun ht427 => ?_
 refine Ek [187, 20, 17, 16, 15, 12, 8, 5, 4, 3, 2] ?_
 refine SR fun _ k47 => ?_
 refine Sc Obe ?_
 refine Ah ?_
 refine SN k47 ?_
 refine Sd ?_ ?_
 ·
  refine Ci fun ht440 => ?_
  exact (kd8_ok hO hC T B xs i bk2 bk3 bk4 bk5 bk8 bk12 .nilIface hi (by show C.inf i / 2 ^ 24 % 2 ^ 5 = 8; omega) hnf hm hB hI (fun z hz => SK_inBlockN (J0 z hz))).weaken (Ek7 rfl rfl rfl rfl rfl rfl rfl) .a
 refine Ci fun ht440 => ?_
 refine Ek [187, 20, 17, 16, 15, 12, 8, 5, 4, 3, 2] ?_
 refine SR fun _ k48 => ?_
 refine Sc Obe ?_
 refine Ah ?_
 refine SN k48 ?_
 refine Sd ?_ ?_
 ·
  refine Ci fun ht460 => ?_
  exact (kd9_ok hO hC T B xs i bk2 bk3 bk4 bk5 bk8 bk12 .nilIface hi (by show C.inf i / 2 ^ 24 % 2 ^ 5 = 9; omega) hnf hm hB hI (fun z hz => SK_inBlockN (J0 z hz))).weaken (Ek6 rfl rfl rfl rfl rfl rfl) .a
 refine Ci fun ht460 => ?_
 refine Ek [187, 20, 17, 16, 15, 12, 8, 5, 4, 3, 2] ?_
 refine SR fun _ k49 => ?_
 refine Sc Obe ?_
 refine Ah ?_
 refine SN k49 ?_
 refine Sd ?_ ?_
 ·
  refine Ci fun ht479 => ?_
  exact (kd10_ok hO hC T B xs i bk2 bk3 bk4 bk5 bk8 bk12 .nilIface hi (by show C.inf i / 2 ^ 24 % 2 ^ 5 = 10; omega) hnf hm hB hI (fun z hz => SK_inBlockN (J0 z hz))).weaken (Ek6 rfl rfl rfl rfl rfl rfl) .a
 refine Ci fun ht479 => ?_
 refine Ek [187, 20, 17, 16, 15, 12, 8, 5, 4, 3, 2] ?_
 refine SR fun _ k50 => ?_
 refine Sc Obe ?_
 refine Ah ?_
 refine SN k50 ?_
 refine Sd ?_ ?_
 ·
  refine Ci fun ht498 => ?_
  exact (kd11_ok hO hC T B xs i bk2 bk3 bk4 bk5 bk8 bk12 .nilIface hi (by show C.inf i / 2 ^ 24 % 2 ^ 5 = 11; omega) hnf hm hB hI (fun z hz => SK_inBlockN (J0 z hz))).weaken (Ek6 rfl rfl rfl rfl rfl rfl) .a
 refine Ci fun ht498 => ?_
 refine Ek [187, 20, 17, 16, 15, 12, 8, 5, 4, 3, 2] ?_
 refine SR fun _ k51 => ?_
 refine Sc Obe ?_
 refine Ah ?_
 refine SN k51 ?_
 refine Sd ?_ ?_
 ·
  refine Ci fun ht517 => ?_
  exact (kd12_ok hO hC T B xs i bk2 bk3 bk4 bk5 bk8 bk12 .nilIface hi (by show C.inf i / 2 ^ 24 % 2 ^ 5 = 12; omega) hnf hm hB hI (fun z hz => SK_inBlockN (J0 z hz))).weaken (Ek7 rfl rfl rfl rfl rfl rfl rfl) .a
 refine Ci fun ht517 => ?_
 refine Ek [187, 20, 17, 16, 15, 12, 8, 5, 4, 3, 2] ?_
 refine SR fun _ k52 => ?_
 refine Sc Obe ?_
 refine Ah ?_
 refine SN k52 ?_
 refine Sd ?_ ?_
 ·
  refine Ci fun ht538 => ?_
  exact (kd13_ok hO hC T B xs i bk2 bk3 bk4 bk5 bk8 bk12 (C.off + C.pos i * 1 + 12 * 1) (C.len - C.pos i - 12) (C.cap - C.pos i - 12) .nilIface hi (by show C.inf i / 2 ^ 24 % 2 ^ 5 = 13; omega) hnf hm hB hI om rfl rfl (fun z hz => SK_inBlockN (J0 z hz))).weaken (Ek7 rfl rfl rfl rfl rfl rfl rfl) .a
 refine Ci fun ht538 => ?_
 refine Ek [187, 20, 17, 16, 15, 12, 8, 5, 4, 3, 2] ?_
 refine SR fun _ k53 => ?_
 refine Sc Obe ?_
 refine Ah ?_
 refine SN k53 ?_
 refine Sd ?_ ?_
 ·
  refine Ci fun ht606 => ?_
  exact (kd14_ok hO hC T B xs i bk2 bk3 bk4 bk5 bk8 bk12 bk15 (C.off + C.pos i * 1 + 12 * 1) (C.len - C.pos i - 12) (C.cap - C.pos i - 12) .nilIface hi (by show C.inf i / 2 ^ 24 % 2 ^ 5 = 14; omega) hnf hm hB hI om rfl rfl (fun z hz => SK_inBlockN (J0 z hz))).weaken (Ek9 rfl rfl rfl rfl rfl rfl rfl rfl rfl) .a
 refine Ci fun ht606 => ?_
 refine Ek [187, 20, 17, 16, 12, 8, 5, 4, 3, 2] ?_
 refine SR fun _ k54 => ?_
 refine Sc Obe ?_
 refine Ah ?_
 refine SN k54 ?_
 refine Sd ?_ ?_
 ·
  refine Ci fun ht641 => ?_
  exact (kd15_ok hO hC T B xs i bk2 bk3 bk4 bk5 bk8 bk12 (C.off + C.pos i * 1 + 12 * 1) (C.len - C.pos i - 12) (C.cap - C.pos i - 12) .nilIface hi (by show C.inf i / 2 ^ 24 % 2 ^ 5 = 15; omega) hnf hm hB hI om rfl rfl (fun z hz => SK_inBlockN (J0 z hz))).weaken (Ek8 rfl rfl rfl rfl rfl rfl rfl rfl) .a
 refine Ci fun ht641 => ?_
 refine Ek [187, 20, 17, 16, 12, 8, 5, 4, 3, 2] ?_
 refine SR fun _ k55 => ?_
 refine Sc Obe ?_
 refine Ah ?_
 refine SN k55 ?_
 refine Sd ?_ ?_
 ·
  refine Ci fun ht696 => ?_
  exact (kd16_ok hO T B xs i bk2 bk3 bk4 bk5 bk12 .nilIface hi (by show C.inf i / 2 ^ 24 % 2 ^ 5 = 16; omega) hnf hm hB hI (fun z hz => SK_inBlockN (J0 z hz))).weaken (Ek6 rfl rfl rfl rfl rfl rfl) .a
 refine Ci fun ht696 => ?_
 refine Ek [187, 20, 17, 16, 12, 8, 5, 4, 3, 2] ?_
 refine SR fun _ k56 => ?_
 refine Sc Obe ?_
 refine Ah ?_
 refine SN k56 ?_
 refine Sd ?_ ?_
 ·
  refine Ci fun ht709 => ?_
  exfalso
  omega
 refine Ci fun ht709 => ?_
 refine Ek [187, 20, 17, 12, 8, 5, 4, 3, 2] ?_
 refine SR fun _ k57 => ?_
 refine Sc Obe ?_
 refine Ah ?_
 refine SN k57 ?_
 refine Sd ?_ ?_
 ·
  refine Ci fun ht750 => ?_
  exact (kd18_ok hO hC T B xs i bk2 bk3 bk4 bk5 bk8 bk12 .nilIface hi (by show C.inf i / 2 ^ 24 % 2 ^ 5 = 18; omega) hnf hm hB hI (fun z hz => SK_inBlockN (J0 z hz))).weaken (Ek7 rfl rfl rfl rfl rfl rfl rfl) .a
 refine Ci fun ht750 => ?_
 refine Ek [187, 20, 17, 12, 5, 4, 3, 2] ?_
 refine SR fun _ k58 => ?_
 refine Sc Obe ?_
 refine Ah ?_
 refine SN k58 ?_
 refine Sd ?_ ?_
 ·
  refine Ci fun ht770 => ?_
  exact (kd19_ok hO T B xs i bk2 bk3 bk4 bk5 bk12 (C.off + C.pos i * 1 + 12 * 1) (C.len - C.pos i - 12) (C.cap - C.pos i - 12) .nilIface hi (by show C.inf i / 2 ^ 24 % 2 ^ 5 = 19; omega) hnf hm hB hI om rfl rfl (fun z hz => SK_inBlockN (J0 z hz))).weaken (Ek7 rfl rfl rfl rfl rfl rfl rfl) .a
 refine Ci fun ht770 => ?_
 exfalso
 omega

theorem f63_ok {C : Cx} (hO : CxOk C) : ∀ m, InflOk C m
  | 0 => fun _ _ _ _ _ _ _ hm => absurd hm (Nat.not_lt_zero _)
  | m + 1 => f63_step hO (f63_ok hO m)
end

section
open Go.RowKit Go.Extern.Stop Go.Stop Go.Extern Go
open Tryz
set_option maxRecDepth 100000

theorem isTypeOf (v : Value) (w : World) : (Extern.ReflectliteType.typeOf #[.iface 202 v]).run Tryz.prog w = .ok (.iface 226 (.agg #[.pointer (some ⟨5, 202, none⟩)])) w := by kernel_rfl
theorem isComparable (w : World) : ((Extern.ReflectliteType.method fun t => do Extern.Rtype.noPackHeld "Comparable" t; (fun a => Value.bool a.comparable) <$> typeInfo t) #[.agg #[.pointer (some ⟨5, 202, none⟩)]]).run Tryz.prog w = .ok (.bool true) w := by kernel_rfl
theorem isMethodComparable (v : Value) (w : World) : (Go.method 472 226 v "Comparable").run Tryz.prog w = .ok (202, v) w := by kernel_rfl
theorem isComp : (Tryz.prog.info? 202).map (·.comparable) = some true := by kernel_rfl
theorem isSize : (Tryz.prog.info? 204).map (·.size) = some 1 := by kernel_rfl
theorem noIsE (v : Value) (xT : TypeId) (w : World) : (Instr.typeAssert (.iface 202 v) xT 228 true).run Tryz.prog w = .ok (.tuple #[.nilIface, .bool false]) w := run_typeAssert_lacksB underlying228 kr kr v xT w
/-- errors.Is(x, x), x a pointer to an errors.errorString. -/
theorem is_same (a : Addr) (w : World) :
    Calls Tryz.prog 34 #[.iface 202 (.pointer (some a)), .iface 202 (.pointer (some a))] w fun e w' => e = .returned (.bool true) ∧ w' = w := by
  obtain ⟨i, hi, hcmp⟩ := Option.map_eq_some_iff.1 isComp
  obtain ⟨j, hj, hjs⟩ := Option.map_eq_some_iff.1 isSize
  have h8 := @run_callFunc_extern Tryz.prog 50 _ Extern.ReflectliteType.typeOf func50 kr kr kr kr
  have h32 := @run_callFunc_extern Tryz.prog 202 _ (Extern.ReflectliteType.method fun t => do Extern.Rtype.noPackHeld "Comparable" t; pure (.bool (← typeInfo t).comparable)) func202 kr kr kr kr
  have tT := isTypeOf
  have cT := isComparable
  have mR := isMethodComparable
  have heq := run_eql_iface_ptr_same (P := Tryz.prog) w a underlying40 underlying202 hi hcmp hj
  go_enter func34, ntmps34
  go_wp2
  refine wp_loop_rounds 1 ?_
  rw [rounds_succ]
  go_wp2
  go_ret
  exact ⟨rfl, rfl⟩
/-- errors.Is(nil, x). -/
theorem is_nil (b : Addr) (w : World) :
    Calls Tryz.prog 34 #[.nilIface, .iface 202 (.pointer (some b))] w fun e w' => e = .returned (.bool false) ∧ w' = w := by
  have hn := run_eql_iface_nil_left (P := Tryz.prog) w 202 (.pointer (some b)) underlying40
  go_enter func34, ntmps34
  go_wp2
  go_ret
  exact ⟨rfl, rfl⟩
end
end Go.Proofs.YtoibhfpagkdleaaGreatDoor
