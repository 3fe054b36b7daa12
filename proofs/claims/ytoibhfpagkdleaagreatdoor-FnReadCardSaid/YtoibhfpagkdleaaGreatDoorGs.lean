/-
  CONTRACTS: the end of the types; types by number and numbers by type.
  CONTRACTS: the iterator over all types.
-/
import Derived.Test.YtoibhfpagkdleaaGreatDoorEr
import Derived.Test.YtoibhfpagkdleaaGreatDoorGj
namespace Go.Proofs.YtoibhfpagkdleaaGreatDoor
section
open Go
open Tryz
set_option maxRecDepth 100000

theorem O_delete {ro : Option Nat} {P : Program} {S : Nat → Prop} {w0 : World} {n : Nat} {ds : List Deferred} {H H' : Hp} {e : Env} {d : Option Nat} {ty : TypeId} {pos : String} {aft : Array Edge} {x y : Operand} {T K E : TypeId} {b : Nat} {L : List (Value × Value)} {q kd : IntKind} {a : Int}
    (hx : Ev e x (.map (some b))) (hy : Ev e y (.int kd a)) (hT : P.underlying T = some (.map K E)) (hK : P.underlying K = some (.int q)) (hL : ∀ p ∈ L, ∃ b, p.1 = .int kd b) (hn : ∀ p ∈ L, p.1 ≠ .int kd a) (hs : HSet H b (mapO L) (mapO L) H') (hd : d = none := by rfl) :
    OT ro P S w0 n ds H e ⟨d, .call ⟨.builtin .delete, #[x, y], #[T, K]⟩, ty, pos, aft, none⟩ (fun X => X e H') := by
  subst hd
  intro K' Q hC a' w ha hw
  refine ⟨fun f _ => trivial, ?_⟩
  rw [Oper.semAt_eq _ _ _ (fun _ h => by cases h)]
  have hb : w.heap[b]? = some (mapO L) := (hw.has _ hs.mem).1
  have hfk := run_findKey_int (P := P) (w := w) (a := a) hK L hL
  rw [firstOf_none (fun p hp => by
        obtain ⟨b', hb'⟩ := hL p hp
        have := hn p hp
        rw [hb'] at this ⊢
        simp only [beq_eq_false_iff_ne, ne_eq]
        intro h; exact this (by rw [h]))] at hfk
  have hck := fun e => run_checkKey_int (P := P) (w := w) (e := e) (a := a) (kd := kd) hK
  have hg : (getObj b).run P w = .ok (.map (entsFrom 0 L).toArray L.length) w := run_getO hb
  have hset := run_setO (P := P) (mapO L) hb
  have hdl : (Builtin.delete_ #[T, K] ty #[.map (some b), .int kd a]).run P w = .ok (.tuple #[]) (w.putObj b (mapO L)) := by
    simp only [Builtin.delete_, List.getElem?_toArray, List.getElem?_cons_zero, List.getElem?_cons_succ, Sem.run_bind, Sem.run_pure, run_underlying hT, Result.andThen_ok, hg, hck, hfk]
    rw [show (Obj.map (entsFrom 0 L).toArray L.length) = mapO L from rfl, hset]
    rfl
  have hrun : (execOp a'.eval ⟨none, .call ⟨.builtin .delete, #[x, y], #[T, K]⟩, ty, pos, aft, none⟩).run P w = .ok (.value (.tuple #[])) (w.putObj b (mapO L)) := by simp only [execOp, resolve, invoke, builtin, List.map_toArray, List.map_cons, List.map_nil, ha.ev hx, ha.ev hy, Sem.run_bind, Sem.run_pure, hdl, Result.andThen_ok]
  rw [hrun, Oper.uponIn_value]
  exact hC _ _ ha (hw.put hs)
theorem neq_err (ea : Addr) {x y : Operand} (w : World) : (do eqGuard .neq 40 x y (.iface 202 (.pointer (some ea))) .nilIface; binOp .neq 40 (.iface 202 (.pointer (some ea))) .nilIface : Sem Value).run Tryz.prog w = .ok (.bool true) w := by kernel_rfl

theorem f72_be {C : Cx} {S : Nat → Prop} {w0 : World} (T : Hp) (x : St) (id : Nat) {b5 b2 b3 b4 : Nat} {ea : Addr} (hM : ∀ p ∈ x.M, p.1 ≠ id) (Q : Exit → Act → World → Prop) (h : SK S w0 23 [] (C.H x ((b5, true, .cells #[.iface 202 (.pointer (some ea))] 40 (0, 0)) :: (b2, true, .cells #[.pointer (some ⟨C.z.d, 0, none⟩)] 76 (0, 0)) :: (b3, true, .cells #[.int .u32 (id : Nat)] 83 (0, 0)) :: (b4, true, .cells #[.nilIface] 47 (0, 0)) :: T)) [] (Q .normal)) :
 SW none Tryz.prog S w0 23 [] (C.H x ((b5, true, .cells #[.iface 202 (.pointer (some ea))] 40 (0, 0)) :: (b2, true, .cells #[.pointer (some ⟨C.z.d, 0, none⟩)] 76 (0, 0)) :: (b3, true, .cells #[.int .u32 (id : Nat)] 83 (0, 0)) :: (b4, true, .cells #[.nilIface] 47 (0, 0)) :: T)) [(0, .pointer (some ⟨b5, 0, none⟩)), (1, .pointer (some ⟨b2, 0, none⟩)), (2, .pointer (some ⟨b3, 0, none⟩)), (3, .pointer (some ⟨b4, 0, none⟩))] (sub [1] (cd Tryz.f72)) Q := by
 unfold Cx.H at h ⊢
 refine SR fun _ k1 => ?_
 refine Sc (Ola oc40) ?_
 refine Sc (O_binOp rfl (.tmp .hit) .const (r := .bool true) (fun _ => neq_err _ _)) ?_
 refine SN k1 ?_
 refine Th ?_
 refine Zw (Zl rfl oc76 .a rfl (Zn rfl (Zf rfl underlying90 rfl sz86 (Zl rfl oc86 .a rfl (Zl rfl oc83 .a rfl .done))))) ?_
 refine Sc (O_delete (.tmp (.o rfl)) (.tmp .hit) underlying86 underlying83 Cx.tys_int (Cx.tys_out hM) .a) ?_
 refine Sn ?_
 refine Pl3 ?_
 exact h.weaken .nil .all

theorem f63_err {C : Cx} (hO : CxOk C) {S : Nat → Prop} {w0 : World} (T : Hp) (B : List Nat) (xs : St) (g0 : Obj) (ea : Addr) (hg : cellOf g0 0 = some (.iface 202 (.pointer (some ea)))) (w : World) (hI : C.Inv B xs) (hw : Holds S w0 (C.H xs ((0, false, g0) :: T)) w) :
    Calls Tryz.prog 63 #[.pointer (some ⟨C.z.d, 0, none⟩), .int .u32 ((C.N + 1 : Nat) : Int)] w (fun r w' => r = .returned (.tuple #[.nilIface, .iface 202 (.pointer (some ea))]) ∧ Holds S w0 (C.H xs ((0, false, g0) :: T)) w') := by
 have hN := hO.hN
 have hM : ∀ p ∈ xs.M, p.1 ≠ C.N + 1 := fun p hp => by have := (hI.m1 p hp).2; omega
 refine sw_callsD func63 rfl ntmps63 (sees2 _ _ _ rfl) hw ?_
 unfold Cx.H
 refine SR fun _ k1 => ?_
 refine Sc (O_box (cs := [.pointer (some ⟨C.z.d, 0, none⟩)].toArray) rfl (.tmp .hit) rfl) ?_
 intro bk2 _
 refine Sc (O_box (cs := [.int .u32 ((C.N + 1 : Nat) : Int)].toArray) rfl (.tmp (.o rfl)) rfl) ?_
 intro bk3 _
 refine Sc (O_alloc rfl zr47 rfl) ?_
 intro bk4 _
 refine Sc (O_alloc rfl zr40 rfl) ?_
 intro bk5 _
 refine SN k1 ?_
 refine Ek [5, 4, 3, 2] ?_
 refine SR fun _ k2 => ?_
 refine Sc (O_makeFunc (fs := []) (cs := [.tmp 5, .tmp 2, .tmp 3, .tmp 4]) rfl .nil (.cons (.tmp .hit) (.cons (.tmp (.o rfl)) (.cons (.tmp (.o rfl)) (.cons (.tmp (.o rfl)) .nil))))) ?_
 refine SL_defer (cap := [.pointer (some ⟨bk5, 0, none⟩), .pointer (some ⟨bk2, 0, none⟩), .pointer (some ⟨bk3, 0, none⟩), .pointer (some ⟨bk4, 0, none⟩)]) (.tmp .hit) ?_
 refine SN k2 ?_
 refine Ek [5, 4, 3, 2] ?_
 refine Sq fun _ k3 => ?_
 refine Sq fun _ k4 => ?_
 refine Zw (Zl rfl oc83 .a rfl (Zl rfl oc76 .a rfl (Zn rfl (Zf rfl underlying90 rfl sz83 (Zl rfl oc83 .a rfl .done))))) ?_
 refine Sc (O_binOp rfl (.tmp (.o rfl)) (.tmp .hit) (r := .bool false) (fun _ => b_lss _ _ _ false (decide_eq_false om))) ?_
 refine SN k4 ?_
 refine Fh ?_
 refine SS k3 ?_
 refine Ek [5, 4, 3, 2] ?_
 refine Sq fun _ k5 => ?_
 refine SR fun _ k6 => ?_
 refine Sc (Ola oc83) ?_
 refine Sc (O_binOp rfl (.tmp .hit) .const (r := .bool false) (fun _ => b_eql _ _ _ false (beq_eq_false_iff_ne.2 om))) ?_
 refine SN k6 ?_
 refine Fh ?_
 refine SS k5 ?_
 refine Ek [5, 4, 3, 2] ?_
 refine Sq fun _ k7 => ?_
 refine Sq fun _ k8 => ?_
 refine Zw (Zl rfl oc76 .a rfl (Zn rfl (Zf rfl underlying90 rfl sz86 (Zl rfl oc86 .a rfl (Zl rfl oc83 .a rfl (Z2 108 109 rfl rfl (fun e he => O_lookI (v := .nilIface) rfl (Eh he) (Eo he) .a underlying86 underlying83 zr47 Cx.tys_int (.inr ⟨Cx.tys_out hM, rfl⟩)) (Zm rfl (Z1 104 rfl (fun e he => O_extract rfl (Eh he) rfl) (Z1 104 rfl (fun e he => O_extract rfl (Eh he) rfl) (Z1 111 rfl (fun e he => O_assign rfl (Eh he)) .done)))))))))) ?_
 refine Ao ?_
 refine SN k8 ?_
 refine Ek [7, 6, 5, 4, 3, 2] ?_
 refine SR fun _ k9 => ?_
 refine Mh ?_
 refine SN k9 ?_
 refine Fh ?_
 refine SS k7 ?_
 refine Ek [5, 4, 3, 2] ?_
 refine SR fun _ k10 => ?_
 refine Sc (O_makeFunc (fs := []) (cs := [.tmp 2]) rfl .nil (.cons (.tmp (.o rfl)) .nil)) ?_
 refine Sc (O_alloc rfl zr251 rfl) ?_
 intro bk8 _
 refine Sc (O_store (.tmp .hit) (.tmp (.o rfl)) rfl sz251 .a .a) ?_
 refine SN k10 ?_
 refine Ek [8, 5, 4, 3, 2] ?_
 refine SR fun _ k11 => ?_
 refine Sc (O_makeFunc (fs := []) (cs := [.tmp 2, .tmp 8]) rfl .nil (.cons (.tmp (.o rfl)) (.cons (.tmp .hit) .nil))) ?_
 refine Ah ?_
 refine SN k11 ?_
 refine Ek [9, 8, 5, 4, 3, 2] ?_
 refine Sq fun _ k12 => ?_
 refine Zw (Zl rfl oc83 .a rfl (Zl rfl oc76 .a rfl (Zn rfl (Zf rfl underlying90 rfl sz83 (Zl rfl oc83 .a rfl .done))))) ?_
 refine Sc (O_binOp rfl (.tmp (.o rfl)) (.tmp .hit) (fun _ => b_sub_u32 (C.N + 1) 0 om om)) ?_
 refine Sc (O_convert rfl (.tmp .hit) (r := .int .i64 ((C.N + 1 : Nat) : Int)) (fun _ => c_int ⟨_, underlying83⟩ underlying3 (wrap_i64n _ om))) ?_
 refine Ah ?_
 refine SN k12 ?_
 refine Ek [10, 9, 8, 5, 4, 3, 2] ?_
 refine Sq fun _ k13 => ?_
 refine SR fun _ k14 => ?_
 refine Mh ?_
 refine Sc (Ola oc76) ?_
 refine Sc (O_nilCheck rfl (.tmp .hit)) ?_
 refine Sc (Ofa underlying90 sz35) ?_
 refine Sc (Ola oc35) ?_
 refine Sc (O_lenSlice rfl (.tmp .hit) underlying35 rfl) ?_
 refine Sc (O_binOp rfl (.tmp (.o rfl)) (.tmp .hit) (r := .bool true) (fun _ => b_geq _ _ _ true (decide_eq_true om))) ?_
 refine SN k14 ?_
 refine Th ?_
 refine Ek [10, 9, 8, 5, 4, 3, 2] ?_
 refine Sq fun _ k15 => ?_
 refine SW_da mixed ?_
 refine Y0f 0 rfl .a (fun e H he hH => O_load rfl .global oc40 (hH.get .hit) hg) ?_
 refine Ys 1 ?_
 refine Cand.mk (j := 1) [(4, _)] (β := Unit) (good := fun _ => True) (val := fun _ => undef) (Hf := fun _ => _) rfl (.cons (t := 4) (.o rfl) .nil) (fun e he => O_store (.tmp (he.get .hit)) .const rfl sz47 .a .a) (fun _ _ h => h () trivial) kr (fun _ _ => ⟨⟨.inr (.cons .a .nil), trivial⟩, ?_⟩)
 refine Ys 2 ?_
 refine Cand.mk (j := 2) [(5, _), (131, _)] (β := Unit) (good := fun _ => True) (val := fun _ => undef) (Hf := fun _ => _) rfl (.cons (t := 5) (.o rfl) (.cons (t := 131) .hit .nil)) (fun e he => O_store (.tmp (he.get .hit)) (.tmp (he.get (.o rfl))) rfl sz40 .a .a) (fun _ _ h => h () trivial) kr (fun _ _ => ⟨⟨.inl kr, trivial⟩, ?_⟩)
 refine Ye ?_
 refine So k15 ?_
 refine Rt ?_
 refine Pl0 ?_
 refine Pl3 ?_
 exact SK_retD2 (cap := [.pointer (some ⟨bk5, 0, none⟩), .pointer (some ⟨bk2, 0, none⟩), .pointer (some ⟨bk3, 0, none⟩), .pointer (some ⟨bk4, 0, none⟩)]) rfl (.o rfl) (.o rfl) func72 rfl rfl (fun w hw => f72_of (fun Q h => f72_be ((0, false, g0) :: T) xs (C.N + 1) hM Q h) w (hw.weaken .a)) oc47 oc40 .a .a rfl rfl (fun w hw => ⟨rfl, hw.weaken .a⟩)

theorem f49_ok {C : Cx} (hO : CxOk C) {S : Nat → Prop} {w0 : World} (T : Hp) (B : List Nat) (x : St) (id : Nat) (w : World) (hid : id ≤ C.N) (hB : ∀ b ∈ B, b ∈ cbs T) (hI : C.Inv B x) (hw : Holds S w0 (C.H x T) w) :
    Calls Tryz.prog 49 #[.pointer (some ⟨C.z.d, 0, none⟩), .int .u32 (id : Nat)] w (fun r w' => ∃ z : St × Value, r = .returned (.tuple #[z.2, .nilIface]) ∧ C.Post B x id z ∧ Holds S w0 (C.H z.1 T) w') := by
 refine sw_calls0 func49 rfl ntmps49 (sees2 _ _ _ rfl) hw ?_
 refine SR fun _ k1 => ?_
 refine Ac ?_
 refine Ac ?_
 refine SN k1 ?_
 refine SR fun _ k2 => ?_
 refine Mo ?_
 refine Mo ?_
 refine Sc (O_call (val := fun z : St × Value => .tuple #[z.2, .nilIface]) (Hf := fun z => C.H z.1 T) (good := fun z => C.Post B x id z) (xs := [.tmp 6, .tmp 7]) (cap := []) rfl .func (.cons (.tmp (.o rfl)) (.cons (.tmp .hit) .nil)) func63 rfl rfl (fun w hw => f63_ok hO (C.miss x.M + 1) S w0 T B x id w (Nat.lt_succ_self _) hid hB hI hw)) ?_
 rintro z hz
 refine Sc Oex ?_
 refine Sc Oex ?_
 refine Ao ?_
 refine Ao ?_
 refine SN k2 ?_
 refine Rt ?_
 refine Pl3 ?_
 exact SK_ret2 rfl (.o rfl) .hit (fun w hw => ⟨z, rfl, hz, hw⟩)

theorem f33_ok {C : Cx} (hO : CxOk C) {S : Nat → Prop} {w0 : World} (T : Hp) (B : List Nat) (x : St) (id : Nat) (w : World) (hid : id ≤ C.N) (hB : ∀ b ∈ B, b ∈ cbs T) (hI : C.Inv B x) (sp : Nat) (hw : Holds S w0 (C.H x ((sp, false, .cells #[.pointer (some ⟨C.z.d, 0, none⟩)] 78 (0, 0)) :: T)) w) :
    Calls Tryz.prog 33 #[.pointer (some ⟨sp, 0, none⟩), .int .u32 (id : Nat)] w (fun r w' => ∃ z : St × Value, r = .returned (.tuple #[z.2, .nilIface]) ∧ C.Post B x id z ∧ Holds S w0 (C.H z.1 ((sp, false, .cells #[.pointer (some ⟨C.z.d, 0, none⟩)] 78 (0, 0)) :: T)) w') := by
 refine sw_calls0 func33 rfl ntmps33 (sees2 _ _ _ rfl) hw ?_
 unfold Cx.H
 refine SR fun _ k1 => ?_
 refine Ac ?_
 refine Ac ?_
 refine SN k1 ?_
 refine SR fun _ k2 => ?_
 refine Mo ?_
 refine Sc (O_nilCheck rfl (.tmp .hit)) ?_
 refine Sc (Ofa underlying78 sz76) ?_
 refine Sc (Ola oc76) ?_
 refine Mo ?_
 refine Sc (O_call (val := fun z : St × Value => .tuple #[z.2, .nilIface]) (Hf := fun z => C.H z.1 ((sp, false, .cells #[.pointer (some ⟨C.z.d, 0, none⟩)] 78 (0, 0)) :: T)) (good := fun z => C.Post B x id z) (xs := [.tmp 12, .tmp 13]) (cap := []) rfl .func (.cons (.tmp (.o rfl)) (.cons (.tmp .hit) .nil)) func49 rfl rfl (fun w hw => f49_ok hO ((sp, false, .cells #[.pointer (some ⟨C.z.d, 0, none⟩)] 78 (0, 0)) :: T) B x id w hid (fun b h => cbs_skip (hB b h)) hI hw)) ?_
 rintro ⟨y, v⟩ hz
 dsimp only [Cx.H]
 refine Mh ?_
 refine Sc Oex ?_
 refine Sc Oex ?_
 refine Ao ?_
 refine Ao ?_
 refine SN k2 ?_
 refine Ek [7, 6, 5, 4] ?_
 refine Sq fun _ k3 => ?_
 refine SR fun _ k4 => ?_
 refine Mh ?_
 refine Sc (O_binOp rfl (.tmp .hit) .const (r := .bool false) (fun _ => rfl)) ?_
 refine SN k4 ?_
 refine Fh ?_
 refine SS k3 ?_
 refine Ek [6, 5, 4] ?_
 refine SR fun _ k5 => ?_
 refine Mh ?_
 refine Ah ?_
 refine Ac ?_
 refine SN k5 ?_
 refine Rt ?_
 refine Pl3 ?_
 exact SK_ret2 rfl (.o rfl) .hit (fun w hw => ⟨(y, v), rfl, hz, hw⟩)

theorem f49_err {C : Cx} (hO : CxOk C) {S : Nat → Prop} {w0 : World} (T : Hp) (B : List Nat) (x : St) (g0 : Obj) (ea : Addr) (hg : cellOf g0 0 = some (.iface 202 (.pointer (some ea)))) (w : World) (hI : C.Inv B x) (hw : Holds S w0 (C.H x ((0, false, g0) :: T)) w) :
    Calls Tryz.prog 49 #[.pointer (some ⟨C.z.d, 0, none⟩), .int .u32 ((C.N + 1 : Nat) : Int)] w (fun r w' => r = .returned (.tuple #[.nilIface, .iface 202 (.pointer (some ea))]) ∧ Holds S w0 (C.H x ((0, false, g0) :: T)) w') := by
 refine sw_calls0 func49 rfl ntmps49 (sees2 _ _ _ rfl) hw ?_
 refine SR fun _ k1 => ?_
 refine Ac ?_
 refine Ac ?_
 refine SN k1 ?_
 refine SR fun _ k2 => ?_
 refine Mo ?_
 refine Mo ?_
 refine Sc (O_call (val := fun _ : Unit => .tuple #[.nilIface, .iface 202 (.pointer (some ea))]) (Hf := fun _ => C.H x ((0, false, g0) :: T)) (good := fun _ => True) (xs := [.tmp 6, .tmp 7]) (cap := []) rfl .func (.cons (.tmp (.o rfl)) (.cons (.tmp .hit) .nil)) func63 rfl rfl (fun w hw => (f63_err hO T B x g0 ea hg w hI hw).mono (fun {r w2} h => ⟨(), h.1, trivial, h.2⟩))) ?_
 rintro - -
 refine Sc Oex ?_
 refine Sc Oex ?_
 refine Ao ?_
 refine Ao ?_
 refine SN k2 ?_
 refine Rt ?_
 refine Pl3 ?_
 exact SK_ret2 rfl (.o rfl) .hit (fun w hw => ⟨rfl, hw⟩)

theorem f33_err {C : Cx} (hO : CxOk C) {S : Nat → Prop} {w0 : World} (T : Hp) (B : List Nat) (x : St) (g0 : Obj) (ea : Addr) (hg : cellOf g0 0 = some (.iface 202 (.pointer (some ea)))) (w : World) (hI : C.Inv B x) (sp : Nat) (hw : Holds S w0 (C.H x ((0, false, g0) :: (sp, false, .cells #[.pointer (some ⟨C.z.d, 0, none⟩)] 78 (0, 0)) :: T)) w) :
    Calls Tryz.prog 33 #[.pointer (some ⟨sp, 0, none⟩), .int .u32 ((C.N + 1 : Nat) : Int)] w (fun r w' => r = .returned (.tuple #[.nilIface, .iface 202 (.pointer (some ea))]) ∧ Holds S w0 (C.H x ((0, false, g0) :: (sp, false, .cells #[.pointer (some ⟨C.z.d, 0, none⟩)] 78 (0, 0)) :: T)) w') := by
 refine sw_calls0 func33 rfl ntmps33 (sees2 _ _ _ rfl) hw ?_
 unfold Cx.H
 refine SR fun _ k1 => ?_
 refine Ac ?_
 refine Ac ?_
 refine SN k1 ?_
 refine SR fun _ k2 => ?_
 refine Mo ?_
 refine Sc (O_nilCheck rfl (.tmp .hit)) ?_
 refine Sc (Ofa underlying78 sz76) ?_
 refine Sc (Ola oc76) ?_
 refine Mo ?_
 refine Sc (O_call (val := fun _ : Unit => .tuple #[.nilIface, .iface 202 (.pointer (some ea))]) (Hf := fun _ => C.H x ((0, false, g0) :: (sp, false, .cells #[.pointer (some ⟨C.z.d, 0, none⟩)] 78 (0, 0)) :: T)) (good := fun _ => True) (xs := [.tmp 12, .tmp 13]) (cap := []) rfl .func (.cons (.tmp (.o rfl)) (.cons (.tmp .hit) .nil)) func49 rfl rfl (fun w hw => (f49_err hO ((sp, false, .cells #[.pointer (some ⟨C.z.d, 0, none⟩)] 78 (0, 0)) :: T) B x g0 ea hg w hI hw).mono (fun {r w2} h => ⟨(), h.1, trivial, h.2⟩))) ?_
 rintro - -
 dsimp only [Cx.H]
 refine Mh ?_
 refine Sc Oex ?_
 refine Sc Oex ?_
 refine Ao ?_
 refine Ao ?_
 refine SN k2 ?_
 refine Ek [7, 6, 5, 4] ?_
 refine Sq fun _ k3 => ?_
 refine SR fun _ k4 => ?_
 refine Mh ?_
 refine Sc (O_binOp rfl (.tmp .hit) .const (r := .bool true) (fun _ => neq_err _ _)) ?_
 refine SN k4 ?_
 refine Th ?_
 refine Ek [7, 6, 5, 4] ?_
 refine SR fun _ k5 => ?_
 refine Mh ?_
 refine Ac ?_
 refine Ao ?_
 refine SN k5 ?_
 refine Rt ?_
 refine Pl0 ?_
 refine Pl3 ?_
 exact SK_ret2 rfl (.o rfl) .hit (fun w hw => ⟨rfl, hw⟩)

theorem KeyOk.ext {P : Program} {vt : TypeId} {w w' : World} {k : Value} (h : KeyOk P vt w k) (he : Ext noS w w') : KeyOk P vt w' k := by
  rcases h with rfl | ⟨a, b, cs, E, rfl, h1, h2, h3⟩
  · exact .inl rfl
  refine .inr ⟨a, b, cs, E, rfl, h1, h2, ?_⟩
  rw [← h3]
  refine he.block b ?_ id
  rcases Nat.lt_or_ge b w.heap.size with h | h
  · exact h
  rw [Array.getElem?_eq_none h] at h3; cases h3
theorem heap_ext {w w' : World} (he : Ext noS w w') {b : Nat} {o : Obj} (h : w.heap[b]? = some o) : w'.heap[b]? = some o := by
  rw [← h]
  refine he.block b ?_ id
  rcases Nat.lt_or_ge b w.heap.size with h1 | h1
  · exact h1
  rw [Array.getElem?_eq_none h1] at h; cases h
/-- the world in which types are told -/
structure Cx.Num (C : Cx) (B : List Nat) (x : St) (sp sc : Nat) (w : World) : Prop where
  inv : C.Inv B x
  d : w.heap[C.z.d]? = some (.cells (decC C.big C.st (C.N + 1) C.z).toArray 90 (0, 0))
  im : w.heap[C.z.im]? = some (mapO (Cx.idsO x.K))
  hsp : w.heap[sp]? = some (.cells #[.pointer (some ⟨C.z.d, 0, none⟩)] 78 (0, 0))
  hsc : w.heap[sc]? = some (.cells #[.pointer (some ⟨sp, 0, none⟩)] 38 (0, 0))
  key : ∀ p ∈ x.K, KeyOk Tryz.prog 48 w p.2
  u : ∀ u ∈ x.U, w.heap[u.1]? = some (.cells u.2.1.toArray u.2.2 (0, 0))
  all : ∀ r v, C.Ref x.M r v → r ≠ 0 → (r, v) ∈ x.K
theorem Cx.Num.ext {C : Cx} {B : List Nat} {x : St} {sp sc : Nat} {w w' : World} (h : C.Num B x sp sc w) (he : Ext noS w w') : C.Num B x sp sc w' :=
  ⟨h.inv, heap_ext he h.d, heap_ext he h.im, heap_ext he h.hsp, heap_ext he h.hsc, fun p hp => (h.key p hp).ext he, fun u hu => heap_ext he (h.u u hu), h.all⟩
theorem heap_ne {w : World} {b c : Nat} {o o' : Obj} (h : w.heap[b]? = some o) (h' : w.heap[c]? = some o') (hne : o ≠ o') : b ≠ c := fun e => by
  subst e
  rw [h] at h'
  exact hne (Option.some.inj h')

theorem O_isTv {ro : Option Nat} {S : Nat → Prop} {w0 : World} {n : Nat} {ds : List Deferred} {H : Hp} {e : Env} {d : Nat} {ty tx t : TypeId} {pos : String} {aft : Array Edge} {x : Operand} {v : Value} (hd : Nat.blt d n = true) (hx : Ev e x (.iface t v)) (hne : t ≠ 48) :
    OT ro Tryz.prog S w0 n ds H e ⟨some d, .typeAssert x tx 48 true, ty, pos, aft, none⟩ (fun X => X ((d, .tuple #[.pointer none, .bool false]) :: e) H) := by
  have h := O_isT (ro := ro) (S := S) (w0 := w0) (n := n) (ds := ds) (H := H) (e := e) (d := d) (ty := ty) (pos := pos) (aft := aft) (tx := tx) hd hx underlying48 rfl zr48
  rw [if_neg hne] at h
  exact h

theorem f52_ok {C : Cx} {B : List Nat} {x : St} {sp sc : Nat} {w : World} (hN : C.Num B x sp sc w) {r : Nat} {v : Value} (hv : C.Ref x.M r v) : Calls Tryz.prog 52 #[.pointer (some ⟨C.z.d, 0, none⟩), v] w (fun q w' => q = .returned (.tuple #[.int .u32 (r : Nat), .nilIface]) ∧ Ext noS w w') := by
 rcases hv with ⟨rfl, rfl⟩ | ⟨b, hb, rfl⟩
 ·
  refine sw_calls (S := noS) (H := [(C.z.d, false, _), (C.z.im, false, _)]) func52 rfl ntmps52 (sees2 _ _ _ rfl) ((Holds.start1 _ _ hN.im).old hN.d (by simp; exact fun h => heap_ne hN.im hN.d (by simp [mapO]) h)) ?_
  refine SR fun _ k1 => ?_
  refine Ac ?_
  refine Ac ?_
  refine SN k1 ?_
  refine Sq fun _ k2 => ?_
  refine SR fun _ k3 => ?_
  refine Mo ?_
  refine Sc (O_isTt rfl (.tmp .hit) underlying48 rfl zr48) ?_
  refine Mh ?_
  refine Sc Oex ?_
  refine Sc Oex ?_
  refine Ao ?_
  refine Ao ?_
  refine SN k3 ?_
  refine Ek [7, 5, 4, 0, 1] ?_
  refine SR fun _ k4 => ?_
  refine Mh ?_
  refine SN k4 ?_
  refine Th ?_
  refine Ek [5, 4, 0, 1] ?_
  refine SR fun _ k5 => ?_
  refine Ac ?_
  refine Ac ?_
  refine SN k5 ?_
  refine Rt ?_
  refine Pl0 ?_
  refine Pl3 ?_
  exact SK_ret2 rfl (.o rfl) .hit (fun w hw => ⟨rfl, hw.ext⟩)
 have hr0 : r ≠ 0 := by have := (hN.inv.m1 _ hb).1; dsimp only at this; omega
 have hk := hN.all r _ (.inr ⟨b, hb, rfl⟩) hr0
 refine sw_calls (S := noS) (H := [(C.z.d, false, _), (C.z.im, false, _)]) func52 rfl ntmps52 (sees2 _ _ _ rfl) ((Holds.start1 _ _ hN.im).old hN.d (by simp; exact fun h => heap_ne hN.im hN.d (by simp [mapO]) h)) ?_
 refine SR fun _ k1 => ?_
 refine Ac ?_
 refine Ac ?_
 refine SN k1 ?_
 refine Sq fun _ k2 => ?_
 refine SR fun _ k3 => ?_
 refine Mo ?_
 refine Sc (O_isTv rfl (.tmp .hit) (Cx.ptrT _).1) ?_
 refine Mh ?_
 refine Sc Oex ?_
 refine Sc Oex ?_
 refine Ao ?_
 refine Ao ?_
 refine SN k3 ?_
 refine Ek [7, 5, 4, 0, 1] ?_
 refine SR fun _ k4 => ?_
 refine Mh ?_
 refine SN k4 ?_
 refine Fh ?_
 refine SS k2 ?_
 refine Ek [5, 4, 0, 1] ?_
 refine SR fun _ k5 => ?_
 refine Mo ?_
 refine Sc (O_nilCheck rfl (.tmp .hit)) ?_
 refine Sc (Ofa underlying90 sz87) ?_
 refine Sc (Ola oc87) ?_
 refine Mo ?_
 refine SL_cons ((O_lookK rfl (.tmp (.o rfl)) (.tmp .hit) .a underlying87 underlying47 Cx.nilT zr83 (fun w hw => ⟨(hN.key _ hk).ext hw.ext, fun p hp => by
   obtain ⟨q, h1, rfl⟩ := Cx.ids_mem hp
   exact (hN.key q h1).ext hw.ext⟩) (List.mem_map.2 ⟨_, hk, rfl⟩) (Cx.ids_uniq hN.inv (.inr ⟨b, hb, rfl⟩)))) ?_
 refine Mh ?_
 refine Sc Oex ?_
 refine Sc Oex ?_
 refine Ao ?_
 refine Ao ?_
 refine SN k5 ?_
 refine Ek [9, 8, 5, 4] ?_
 refine Sq fun _ k6 => ?_
 refine SR fun _ k7 => ?_
 refine Mh ?_
 refine Sc (O_unOp rfl (.tmp .hit) (r := .bool false) (fun _ => rfl)) ?_
 refine SN k7 ?_
 refine Fh ?_
 refine SS k6 ?_
 refine Ek [8, 5, 4] ?_
 refine SR fun _ k8 => ?_
 refine Mh ?_
 refine Ah ?_
 refine Ac ?_
 refine SN k8 ?_
 refine Rt ?_
 refine Pl3 ?_
 exact SK_ret2 rfl (.o rfl) .hit (fun w hw => ⟨rfl, hw.ext⟩)

theorem f37_ok {C : Cx} {B : List Nat} {x : St} {sp sc : Nat} {w : World} (hN : C.Num B x sp sc w) {r : Nat} {v : Value} (hv : C.Ref x.M r v) : Calls Tryz.prog 37 #[.pointer (some ⟨sp, 0, none⟩), v] w (fun q w' => q = .returned (.tuple #[.int .u32 (r : Nat), .nilIface]) ∧ Ext noS w w') := by
 refine sw_calls (S := noS) func37 rfl ntmps37 (sees2 _ _ _ rfl) (Holds.start1 _ _ hN.hsp) ?_
 refine SR fun _ k1 => ?_
 refine Ac ?_
 refine Ac ?_
 refine SN k1 ?_
 refine SR fun _ k2 => ?_
 refine Mo ?_
 refine Sc (O_nilCheck rfl (.tmp .hit)) ?_
 refine Sc (Ofa underlying78 sz76) ?_
 refine Sc (Ola oc76) ?_
 refine Mo ?_
 refine Sc (O_callE (xs := [.tmp 9, .tmp 10]) (cap := []) rfl .func (.cons (.tmp (.o rfl)) (.cons (.tmp .hit) .nil)) func52 rfl rfl (fun w hw => f52_ok (hN.ext hw.ext) hv)) ?_
 refine Sc Oex ?_
 refine Sc Oex ?_
 refine Ao ?_
 refine Ao ?_
 refine SN k2 ?_
 refine Rt ?_
 refine Pl3 ?_
 exact SK_ret2 rfl (.o rfl) .hit (fun w hw => ⟨rfl, hw.ext⟩)

theorem f16_ok {C : Cx} {B : List Nat} {x : St} {sp sc : Nat} {w : World} (hN : C.Num B x sp sc w) {r : Nat} {v : Value} (hv : C.Ref x.M r v) (hb30 : C.N ≤ 30) : Calls Tryz.prog 16 #[.pointer (some ⟨sp, 0, none⟩), v] w (fun q w' => q = .returned (.int .i64 (r : Nat)) ∧ Ext noS w w') := by
 rcases hv with ⟨rfl, rfl⟩ | ⟨b, hb, rfl⟩
 ·
  refine sw_calls (S := noS) func16 rfl ntmps16 (sees2 _ _ _ rfl) (Holds.start _ _) ?_
  refine SR fun _ k1 => ?_
  refine Ac ?_
  refine SN k1 ?_
  refine Sq fun _ k2 => ?_
  refine SR fun _ k3 => ?_
  refine Mo ?_
  refine Sc (O_isTt rfl (.tmp .hit) underlying48 rfl zr48) ?_
  refine Mh ?_
  refine Sc Oex ?_
  refine Sc Oex ?_
  refine Ao ?_
  refine Ao ?_
  refine SN k3 ?_
  refine Ek [6, 4, 0, 1] ?_
  refine SR fun _ k4 => ?_
  refine Mh ?_
  refine SN k4 ?_
  refine Th ?_
  refine Ek [4, 0, 1] ?_
  refine SR fun _ k5 => ?_
  refine Ac ?_
  refine SN k5 ?_
  refine Rt ?_
  refine Pl0 ?_
  refine Pl3 ?_
  exact SK_ret1 rfl .hit (fun w hw => ⟨rfl, hw.ext⟩)
 have hr0 := (hN.inv.m1 _ hb).2
 refine sw_calls (S := noS) func16 rfl ntmps16 (sees2 _ _ _ rfl) (Holds.start _ _) ?_
 refine SR fun _ k1 => ?_
 refine Ac ?_
 refine SN k1 ?_
 refine Sq fun _ k2 => ?_
 refine SR fun _ k3 => ?_
 refine Mo ?_
 refine Sc (O_isTv rfl (.tmp .hit) (Cx.ptrT _).1) ?_
 refine Mh ?_
 refine Sc Oex ?_
 refine Sc Oex ?_
 refine Ao ?_
 refine Ao ?_
 refine SN k3 ?_
 refine Ek [6, 4, 0, 1] ?_
 refine SR fun _ k4 => ?_
 refine Mh ?_
 refine SN k4 ?_
 refine Fh ?_
 refine SS k2 ?_
 refine Ek [4, 0, 1] ?_
 refine SR fun _ k5 => ?_
 refine Mo ?_
 refine Mo ?_
 refine Sc (O_callE (xs := [.tmp 16, .tmp 17]) (cap := []) rfl .func (.cons (.tmp (.o rfl)) (.cons (.tmp .hit) .nil)) func37 rfl rfl (fun w hw => f37_ok (hN.ext hw.ext) (.inr ⟨b, hb, rfl⟩))) ?_
 refine Mh ?_
 refine Sc Oex ?_
 refine Sc Oex ?_
 refine Ao ?_
 refine Ao ?_
 refine SN k5 ?_
 refine Ek [8, 7, 4] ?_
 refine Sq fun _ k6 => ?_
 refine SR fun _ k7 => ?_
 refine Mh ?_
 refine Sc (O_binOp rfl (.tmp .hit) .const (r := .bool false) (fun _ => rfl)) ?_
 refine SN k7 ?_
 refine Fh ?_
 refine SS k6 ?_
 refine Ek [7, 4] ?_
 refine SR fun _ k8 => ?_
 refine Mh ?_
 refine Sc (O_convert rfl (.tmp .hit) (r := .int .i64 (r : Nat)) (fun _ => c_int ⟨_, underlying83⟩ underlying3 (wrap_i64n _ (by dsimp only at hr0; omega)))) ?_
 refine Ah ?_
 refine SN k8 ?_
 refine Rt ?_
 refine Pl3 ?_
 exact SK_ret1 rfl .hit (fun w hw => ⟨rfl, hw.ext⟩)

theorem f15_ok {C : Cx} {B : List Nat} {x : St} {sp sc : Nat} {w : World} (hN : C.Num B x sp sc w) {r : Nat} {v : Value} (hv : C.Ref x.M r v) (hb30 : C.N ≤ 30) : Calls Tryz.prog 15 #[v, .pointer (some ⟨sc, 0, none⟩)] w (fun q w' => q = .returned (.int .i64 (r : Nat)) ∧ Ext noS w w') := by
 refine sw_calls (S := noS) func15 rfl ntmps15 (sees2 _ _ _ rfl) (Holds.start1 _ _ hN.hsc) ?_
 refine SR fun _ k1 => ?_
 refine Ac ?_
 refine SN k1 ?_
 refine SR fun _ k2 => ?_
 refine Sc (Ola oc38) ?_
 refine Mo ?_
 refine Sc (O_callE (xs := [.tmp 4, .tmp 5]) (cap := []) rfl .func (.cons (.tmp (.o rfl)) (.cons (.tmp .hit) .nil)) func16 rfl rfl (fun w hw => f16_ok (hN.ext hw.ext) hv hb30)) ?_
 refine Ah ?_
 refine SN k2 ?_
 refine Rt ?_
 refine Pl3 ?_
 exact SK_ret1 rfl .hit (fun w hw => ⟨rfl, hw.ext⟩)
end

section
open Go
open Tryz
set_option maxRecDepth 100000

theorem O_isTw {ro : Option Nat} {S : Nat → Prop} {w0 : World} {n : Nat} {ds : List Deferred} {H : Hp} {e : Env} {d : Nat} {ty tx : TypeId} {pos : String} {aft : Array Edge} {x : Operand} {v : Value} (hd : Nat.blt d n = true) (hx : Ev e x v) (hne : ∃ t u, v = .iface t u ∧ t ≠ 94) :
    OT ro Tryz.prog S w0 n ds H e ⟨some d, .typeAssert x tx 94 true, ty, pos, aft, none⟩ (fun X => X ((d, .tuple #[.pointer none, .bool false]) :: e) H) := by
  obtain ⟨t, u, rfl, hne⟩ := hne
  have h := O_isT (ro := ro) (S := S) (w0 := w0) (n := n) (ds := ds) (H := H) (e := e) (d := d) (ty := ty) (pos := pos) (aft := aft) (tx := tx) hd hx underlying94 rfl zr94
  rw [if_neg hne] at h
  exact h
theorem goT_ne (k : Nat) : goT k ≠ 94 := by unfold goT; split <;> decide
theorem Cx.Ref.ne94 {C : Cx} {M : List (Nat × Nat)} {r : Nat} {v : Value} (h : C.Ref M r v) : ∃ t u, v = .iface t u ∧ t ≠ 94 := by
  rcases h with ⟨_, rfl⟩ | ⟨b, _, rfl⟩
  · exact ⟨_, _, rfl, by decide⟩
  exact ⟨_, _, rfl, goT_ne _⟩
/-- all that is begun is read -/
structure Cx.Full (C : Cx) (x : St) : Prop where
  inv : C.Inv [] x
  fin : ∀ p ∈ x.M, C.Fin x p
theorem Cx.Full.post {C : Cx} {x : St} (h : C.Full x) {id : Nat} {z : St × Value} (hz : C.Post [] x id z) : C.Full z.1 :=
  ⟨hz.inv, fun p hp => by
    rcases hz.grew.fin p hp with h1 | h1
    · exact (h.fin p h1).mono hz.grew
    exact h1⟩

theorem f32_ok {α : Type} (T : α → Hp) (I : Nat → α → Prop) {C : Cx} (hO : CxOk C) {S : Nat → Prop} {w0 : World} (sp b1 : Nat) (fb1 : Bool) (g0 : Obj) (ea : Addr) (hg : cellOf g0 0 = some (.iface 202 (.pointer (some ea)))) (l : Nat)
    (hyd : ∀ k x y a v, k ≤ C.N → I k a → C.Full x → C.Post [] x k (y, v) → ∀ w, Holds S w0 (C.H y ((sp, false, .cells #[.pointer (some ⟨C.z.d, 0, none⟩)] 78 (0, 0)) :: (0, false, g0) :: (b1, fb1, .cells #[.pointer (some ⟨sp, 0, none⟩)] 38 (0, 0)) :: T a)) w → YieldAt (FW none) 0 Tryz.prog l [v, .nilIface].toArray w fun r w' => r = .returned (.bool true) ∧ ∃ a', I (k + 1) a' ∧ Holds S w0 (C.H y ((sp, false, .cells #[.pointer (some ⟨C.z.d, 0, none⟩)] 78 (0, 0)) :: (0, false, g0) :: (b1, fb1, .cells #[.pointer (some ⟨sp, 0, none⟩)] 38 (0, 0)) :: T a')) w')
    (xs : St) (a0 : α) (hF : C.Full xs) (hI : I 0 a0) (w : World) (hw : Holds S w0 (C.H xs ((sp, false, .cells #[.pointer (some ⟨C.z.d, 0, none⟩)] 78 (0, 0)) :: (0, false, g0) :: (b1, fb1, .cells #[.pointer (some ⟨sp, 0, none⟩)] 38 (0, 0)) :: T a0)) w) :
    Calls Tryz.prog 32 #[.func (.yield l) #[] #[], .pointer (some ⟨b1, 0, none⟩)] w (fun r w' => r = .returned (.tuple #[]) ∧ ∃ y a, C.Full y ∧ I (C.N + 1) a ∧ Holds S w0 (C.H y ((sp, false, .cells #[.pointer (some ⟨C.z.d, 0, none⟩)] 78 (0, 0)) :: (0, false, g0) :: (b1, fb1, .cells #[.pointer (some ⟨sp, 0, none⟩)] 38 (0, 0)) :: T a)) w') := by
 have hN := hO.hN
 refine sw_calls0 func32 rfl ntmps32 (sees2 _ _ _ rfl) hw ?_
 unfold Cx.H
 refine SR fun _ k1 => ?_
 refine Sc (Ola oc38) ?_
 refine Sc (O_nilCheck rfl (.tmp .hit)) ?_
 refine Sc (Ofa underlying78 sz76) ?_
 refine Sc (Ola oc76) ?_
 refine Sc (O_nilCheck rfl (.tmp .hit)) ?_
 refine Sc (Ofa underlying90 sz83) ?_
 refine Sc (Ola oc83) ?_
 refine Ah ?_
 refine SN k1 ?_
 refine Bl ?_
 refine SW_loop (α := Nat × St × α) (fun x => x.1 ≤ C.N + 1 ∧ C.Full x.2.1 ∧ I x.1 x.2.2) (fun x => C.N + 2 - x.1) (fun x => C.H x.2.1 ((sp, false, .cells #[.pointer (some ⟨C.z.d, 0, none⟩)] 78 (0, 0)) :: (0, false, g0) :: (b1, fb1, .cells #[.pointer (some ⟨sp, 0, none⟩)] 38 (0, 0)) :: T x.2.2)) (fun x => [(3, .int .u32 (x.1 : Nat)), (0, .func (.yield l) #[] #[]), (1, .pointer (some ⟨b1, 0, none⟩))]) (0, xs, a0) ⟨Nat.zero_le _, hF, hI⟩ (Ek3 rfl rfl rfl) (SW_range.HSub.all _) ?_
 rintro ⟨k, x, a⟩ ⟨hk, hx, ha⟩
 dsimp only [Cx.H] at hk hx ha ⊢
 refine Sq fun _ k2 => ?_
 refine Bl ?_
 refine Sq fun _ k3 => ?_
 rcases Nat.lt_or_ge C.N k with hkN | hkN
 ·
  obtain rfl : k = C.N + 1 := by omega
  refine Sr ?_
  refine Sc (Ola oc38) ?_
  refine Mo ?_
  refine Sc (O_call (val := fun _ : Unit => .tuple #[.nilIface, .iface 202 (.pointer (some ea))]) (Hf := fun _ => C.H x ((0, false, g0) :: (sp, false, .cells #[.pointer (some ⟨C.z.d, 0, none⟩)] 78 (0, 0)) :: (b1, fb1, .cells #[.pointer (some ⟨sp, 0, none⟩)] 38 (0, 0)) :: T a)) (good := fun _ => True) (xs := [.tmp 18, .tmp 19]) (cap := []) rfl .func (.cons (.tmp (.o rfl)) (.cons (.tmp .hit) .nil)) func33 rfl rfl (fun w hw => (f33_err hO ((b1, fb1, .cells #[.pointer (some ⟨sp, 0, none⟩)] 38 (0, 0)) :: T a) [] x g0 ea hg w hx.inv sp (hw.weaken .a)).mono (fun {r w2} h => ⟨(), h.1, trivial, h.2⟩))) ?_
  rintro - -
  dsimp only [Cx.H]
  refine Mh ?_
  refine Sc Oex ?_
  refine Sc Oex ?_
  refine Ao ?_
  refine Ao ?_
  refine SN k3 ?_
  refine Ek [5, 4, 3, 0, 1] ?_
  refine Sq fun _ k4 => ?_
  refine SR fun _ k5 => ?_
  refine Mh ?_
  refine Sc (O_load rfl .global oc40 .a hg) ?_
  refine Sc (O_callE (xs := [.tmp 23, .tmp 24]) (cap := []) rfl .func (.cons (.tmp (.o rfl)) (.cons (.tmp .hit) .nil)) func34 rfl rfl (fun w hw => (is_same ea w).mono (fun {r w2} h => ⟨h.1, h.2 ▸ Ext.refl _ _⟩))) ?_
  refine SN k5 ?_
  refine Th ?_
  refine Rt ?_
  refine Pl0 ?_
  refine Pl3 ?_
  exact SK_ret0 (fn := Tryz.f32) rfl (fun w hw => ⟨rfl, x, a, hx, ha, hw.weaken .a⟩)
 refine Sr ?_
 refine Sc (Ola oc38) ?_
 refine Mo ?_
 refine Sc (O_call (val := fun z : St × Value => .tuple #[z.2, .nilIface]) (Hf := fun z => C.H z.1 ((sp, false, .cells #[.pointer (some ⟨C.z.d, 0, none⟩)] 78 (0, 0)) :: (0, false, g0) :: (b1, fb1, .cells #[.pointer (some ⟨sp, 0, none⟩)] 38 (0, 0)) :: T a)) (good := fun z => C.Post [] x k z) (xs := [.tmp 18, .tmp 19]) (cap := []) rfl .func (.cons (.tmp (.o rfl)) (.cons (.tmp .hit) .nil)) func33 rfl rfl (fun w hw => f33_ok hO ((0, false, g0) :: (b1, fb1, .cells #[.pointer (some ⟨sp, 0, none⟩)] 38 (0, 0)) :: T a) [] x k w hkN (fun b h => by cases h) hx.inv sp hw)) ?_
 rintro ⟨y, v⟩ hz
 have hy := hx.post hz
 dsimp only [Cx.H] at hy ⊢
 refine Mh ?_
 refine Sc Oex ?_
 refine Sc Oex ?_
 refine Ao ?_
 refine Ao ?_
 refine SN k3 ?_
 refine Ek [5, 4, 3, 0, 1] ?_
 refine Sq fun _ k6 => ?_
 refine SR fun _ k7 => ?_
 refine Mh ?_
 refine Sc (O_load rfl .global oc40 .a hg) ?_
 refine Sc (O_callE (xs := [.tmp 23, .tmp 24]) (cap := []) rfl .func (.cons (.tmp (.o rfl)) (.cons (.tmp .hit) .nil)) func34 rfl rfl (fun w hw => (is_nil ea w).mono (fun {r w2} h => ⟨h.1, h.2 ▸ Ext.refl _ _⟩))) ?_
 refine SN k7 ?_
 refine Fh ?_
 refine Ek [5, 4, 3, 0, 1] ?_
 refine SR fun _ k8 => ?_
 refine Mh ?_
 refine Sc (O_binOp rfl (.tmp .hit) .const (r := .bool false) (fun _ => rfl)) ?_
 refine SN k8 ?_
 refine Fh ?_
 refine SS k6 ?_
 refine Ek [4, 3, 0, 1] ?_
 refine Sq fun _ k9 => ?_
 refine SR fun _ k10 => ?_
 refine Mh ?_
 refine Sc (O_isTw rfl (.tmp .hit) hz.ref.ne94) ?_
 refine Mh ?_
 refine Sc Oex ?_
 refine Sc Oex ?_
 refine Ao ?_
 refine Ao ?_
 refine SN k10 ?_
 refine Ek [7, 4, 3, 0, 1] ?_
 refine SR fun _ k11 => ?_
 refine Mh ?_
 refine SN k11 ?_
 refine Fh ?_
 refine SS k9 ?_
 refine Ek [4, 3, 0, 1] ?_
 refine SR fun _ k12 => ?_
 refine Mo ?_
 refine Mo ?_
 refine Sc (O_yield (good := fun z => I (k + 1) z) (Hf := fun z => C.H y ((sp, false, .cells #[.pointer (some ⟨C.z.d, 0, none⟩)] 78 (0, 0)) :: (0, false, g0) :: (b1, fb1, .cells #[.pointer (some ⟨sp, 0, none⟩)] 38 (0, 0)) :: T z)) (xs := [.tmp 38, .const _]) rfl (.tmp (.o rfl)) (.cons (.tmp .hit) (.cons .const .nil)) (fun w hw => hyd k x y a v hkN ha hx hz w hw)) ?_
 intro z39 hz39
 dsimp only [Cx.H]
 refine Sc (O_unOp rfl (.tmp .hit) (r := .bool false) (fun _ => rfl)) ?_
 refine SN k12 ?_
 refine Fh ?_
 refine SS k2 ?_
 refine Sr ?_
 refine Mo ?_
 refine Sc (O_binOp rfl (.tmp .hit) .const (fun _ => b_add_u32 k 1 om)) ?_
 refine Ah ?_
 refine Sn ?_
 refine Pl1 ?_
 exact fun _ _ ha hw => ⟨(k + 1, y, z39), (by show C.N + 2 - (k + 1) < C.N + 2 - k; omega), ⟨by show k + 1 ≤ C.N + 1; omega, hy, hz39⟩, ha.weaken .a, hw.weaken (SW_range.HSub.all _)⟩
end
end Go.Proofs.YtoibhfpagkdleaaGreatDoor
