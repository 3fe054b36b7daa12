/-
  CONTRACT: what a name is.
-/
import Derived.Test.YtoibhfpagkdleaaGreatDoorSk
namespace Go.Proofs.YtoibhfpagkdleaaGreatDoor
section
open Go
open Tryz
set_option maxRecDepth 100000

theorem f25_ok (s : ByteArray) (hs : s.size < 4611686018427387904) (w : World) : Calls Tryz.prog 25 #[.string s] w (fun r w' => ∃ t : Bool, r = .returned (.bool t) ∧ (t = true → NoZero s s.size ∧ 0 < s.size ∧ s.size ≤ 12) ∧ Ext noS w w') := by
 refine sw_calls (S := noS) func25 rfl ntmps25 (sees1 _ _ rfl) (Holds.start _ _) ?_
 refine SR fun _ k1 => ?_
 refine Ac ?_
 refine SN k1 ?_
 refine SR fun _ k2 => ?_
 refine Ac ?_
 refine SN k2 ?_
 refine Sq fun _ k3 => ?_
 refine SR fun _ k4 => ?_
 refine Ac ?_
 refine SN k4 ?_
 refine Bl ?_
 refine SW_loop (α := Nat × Int) (fun x => x.1 ≤ s.size ∧ 0 ≤ x.2 ∧ x.2 ≤ x.1 ∧ NoZero s x.1) (fun x => s.size - x.1) (fun x => []) (fun x => [(3, .int .i64 x.2), (4, .int .i64 (x.1 : Nat)), (0, .string s), (2, .bool false)]) (0, 0) ⟨Nat.zero_le _, Int.le_refl _, Int.le_refl _, fun i h hk => by dsimp only at hk; omega⟩ (Ek4 rfl rfl rfl rfl) (SW_range.HSub.all _) ?_
 rintro ⟨i, k⟩ ⟨hi, hk, hk2, hz⟩
 dsimp only at hi hk hk2 hz
 dsimp only
 refine Sq fun _ k5 => ?_
 refine SR fun _ k6 => ?_
 refine Mo ?_
 refine Mo ?_
 refine Sc (O_lenStr rfl (.tmp .hit) underlying9 rfl) ?_
 refine Sc (O_binOp rfl (.tmp (.o rfl)) (.tmp .hit) (fun _ => b_lss _ _ _ _ rfl)) ?_
 refine SN k6 ?_
 refine Sd ?_ ?_
 ·
  refine Ci fun ht9 => ?_
  have hlt : i < s.size := by omega
  refine SS k5 ?_
  refine Ek [3, 4, 0, 2] ?_
  refine Sq fun _ k7 => ?_
  refine Bl ?_
  refine SR fun _ k8 => ?_
  refine Mo ?_
  refine Mo ?_
  refine Sc (O_indexStr (c := s[i]) rfl (.tmp (.o rfl)) (.tmp .hit) underlying9 om (by simp [getElem?_pos s i hlt])) ?_
  refine Ah ?_
  refine SN k8 ?_
  refine Ek [5, 3, 4, 0, 2] ?_
  refine Sq fun _ k9 => ?_
  refine SR fun _ k10 => ?_
  refine Mh ?_
  refine Sc Obe ?_
  refine SN k10 ?_
  refine SW_join (α := Int) (fun x => 0 ≤ x ∧ x ≤ i + 1) (fun x => []) (fun x => [(3, .int .i64 x), (5, .int .u8 (s[i].toNat : Nat)), (4, .int .i64 (i : Nat)), (0, .string s), (2, .bool false)]) (fun x hx => ?_) (fun J16 => ?_)
  ·
   have hx1 := hx.1
   have hx2 := hx.2
   refine So k9 ?_
   refine SR fun _ k11 => ?_
   refine SL_join 35 53 (fun t : Bool => .bool t) (fun t => t = false → 0 < s[i].toNat) (fun tJ hJ => ?_) (fun J => ?_)
   ·
    refine SN k11 ?_
    refine SW_cond (.tmp .hit) (fun ht53 => ?_) (fun ht53 => ?_)
    ·
     refine Ek [3, 4, 0, 2] ?_
     refine SR fun _ k12 => ?_
     refine Ac ?_
     refine SN k12 ?_
     refine Rt ?_
     refine Pl0 ?_
     refine Pl3 ?_
     first
     | exact SK_ret1 rfl .hit (fun w hw => ⟨_, rfl, (fun h => by cases h), hw.ext⟩)
     | exact SK_ret1 rfl .hit (fun w hw => ⟨_, rfl, Q30, hw.ext⟩)
    have hz2 : NoZero s (i + 1) := fun q hq hqk => by
     rcases Nat.lt_or_ge q i with h | h
     · exact hz q hq h
     have : q = i := by omega
     subst this; exact hJ ht53
    refine SS k7 ?_
    refine Sr ?_
    refine Mo ?_
    refine Sc (O_binOp rfl (.tmp .hit) .const (fun _ => b_add _ _ _ rfl oz oz)) ?_
    refine Ah ?_
    refine Sn ?_
    refine Pl1 ?_
    exact fun _ _ ha hw => ⟨(i + 1, _), (by show s.size - (i + 1) < s.size - i; omega), ⟨hlt, by dsimp only; omega, by dsimp only; omega, hz2⟩, ha.weaken (Ek4 rfl rfl rfl rfl), hw.weaken (SW_range.HSub.all _)⟩
   refine Mh ?_
   refine Sc Obe ?_
   refine Mh ?_
   refine Sb ?_ ?_
   ·
    refine Ci fun hs21 => ?_
    refine Uo (Uo (Uo (Vo (Vo (Uo (Uo (Vo (Vo (Vo (Vo (Vo (Vo (Uo (Uo (Vo (Vo (Uo (Uo (Vo (Vo (Vo (Vo (Vo (Vo (Vo (Vo (Vo (Vo (Uo (Uo ?_))))))))))))))))))))))))))))))
    refine Sc Opu ?_
    exact (J _ Q4).env (Ek6 rfl rfl rfl rfl rfl rfl)
   refine Ci fun hs21 => ?_
   refine Wo Omo ?_
   refine Wo (O_binOp rfl (.tmp .hit) .const (fun _ => b_geq _ _ _ _ rfl)) ?_
   refine Wo Omo ?_
   refine Sb ?_ ?_
   ·
    refine Ci fun hs24 => ?_
    refine Wo Omo ?_
    refine Wo (O_binOp rfl (.tmp .hit) .const (fun _ => b_leq _ _ _ _ rfl)) ?_
    refine Wo Opt ?_
    refine Wo Omo ?_
    refine Sb ?_ ?_
    ·
     refine Ci fun hs28 => ?_
     refine Uo (Uo (Uo (Vo (Vo (Uo ?_)))))
     refine Wo Opu ?_
     refine Wo Omo ?_
     refine Sb ?_ ?_
     ·
      refine Ci fun hs36 => ?_
      refine Uo (Uo ?_)
      refine Wo Opu ?_
      refine Wo Omo ?_
      refine Sb ?_ ?_
      ·
       refine Ci fun hs40 => ?_
       refine Uo (Uo (Uo (Vo (Vo (Uo (Uo (Vo (Vo (Uo ?_)))))))))
       refine Wo Opu ?_
       refine Wo (O_unOp rfl (.tmp .hit) (fun _ => rfl)) ?_
       refine Sc Opf ?_
       exact (J _ Q4).env (Ek6 rfl rfl rfl rfl rfl rfl)
      refine Ci fun hs40 => ?_
      refine Wo Omo ?_
      refine Wo (O_binOp rfl (.tmp .hit) .const (fun _ => b_geq _ _ _ _ rfl)) ?_
      refine Wo Omo ?_
      refine Sb ?_ ?_
      ·
       refine Ci fun hs43 => ?_
       refine Wo Omo ?_
       refine Wo (O_binOp rfl (.tmp .hit) .const (fun _ => b_leq _ _ _ _ rfl)) ?_
       refine Wo Opt ?_
       refine Wo Omo ?_
       refine Sb ?_ ?_
       ·
        refine Ci fun hs47 => ?_
        refine Wo Omo ?_
        refine Wo (O_binOp rfl (.tmp .hit) .const (fun _ => b_gtr _ _ _ _ rfl)) ?_
        refine Wo Opt ?_
        refine Wo Opf ?_
        refine Wo (O_unOp rfl (.tmp .hit) (fun _ => rfl)) ?_
        refine Sc Opf ?_
        exact (J _ Q4).env (Ek6 rfl rfl rfl rfl rfl rfl)
       refine Ci fun hs47 => ?_
       refine Uo (Uo ?_)
       refine Wo Opg ?_
       refine Wo Opf ?_
       refine Wo (O_unOp rfl (.tmp .hit) (fun _ => rfl)) ?_
       refine Sc Opf ?_
       exact (J _ Q4).env (Ek6 rfl rfl rfl rfl rfl rfl)
      refine Ci fun hs43 => ?_
      refine Uo (Uo ?_)
      refine Wo Opg ?_
      refine Wo Omo ?_
      refine Sb ?_ ?_
      ·
       refine Ci fun hs47 => ?_
       refine Wo Omo ?_
       refine Wo (O_binOp rfl (.tmp .hit) .const (fun _ => b_gtr _ _ _ _ rfl)) ?_
       refine Wo Opt ?_
       refine Wo Opf ?_
       refine Wo (O_unOp rfl (.tmp .hit) (fun _ => rfl)) ?_
       refine Sc Opf ?_
       exact (J _ Q4).env (Ek6 rfl rfl rfl rfl rfl rfl)
      refine Ci fun hs47 => ?_
      refine Uo (Uo ?_)
      refine Wo Opg ?_
      refine Wo Opf ?_
      refine Wo (O_unOp rfl (.tmp .hit) (fun _ => rfl)) ?_
      refine Sc Opf ?_
      exact (J _ Q4).env (Ek6 rfl rfl rfl rfl rfl rfl)
     refine Ci fun hs36 => ?_
     refine Wo Omo ?_
     refine Wo Obe ?_
     refine Wo Opf ?_
     refine Wo Omo ?_
     refine Sb ?_ ?_
     ·
      refine Ci fun hs40 => ?_
      refine Uo (Uo (Uo (Vo (Vo (Uo (Uo (Vo (Vo (Uo ?_)))))))))
      refine Wo Opu ?_
      refine Wo (O_unOp rfl (.tmp .hit) (fun _ => rfl)) ?_
      refine Sc Opf ?_
      exact (J _ Q4).env (Ek6 rfl rfl rfl rfl rfl rfl)
     refine Ci fun hs40 => ?_
     refine Wo Omo ?_
     refine Wo (O_binOp rfl (.tmp .hit) .const (fun _ => b_geq _ _ _ _ rfl)) ?_
     refine Wo Omo ?_
     refine Sb ?_ ?_
     ·
      refine Ci fun hs43 => ?_
      refine Wo Omo ?_
      refine Wo (O_binOp rfl (.tmp .hit) .const (fun _ => b_leq _ _ _ _ rfl)) ?_
      refine Wo Opt ?_
      refine Wo Omo ?_
      refine Sb ?_ ?_
      ·
       refine Ci fun hs47 => ?_
       refine Wo Omo ?_
       refine Wo (O_binOp rfl (.tmp .hit) .const (fun _ => b_gtr _ _ _ _ rfl)) ?_
       refine Wo Opt ?_
       refine Wo Opf ?_
       refine Wo (O_unOp rfl (.tmp .hit) (fun _ => rfl)) ?_
       refine Sc Opf ?_
       exact (J _ Q4).env (Ek6 rfl rfl rfl rfl rfl rfl)
      refine Ci fun hs47 => ?_
      refine Uo (Uo ?_)
      refine Wo Opg ?_
      refine Wo Opf ?_
      refine Wo (O_unOp rfl (.tmp .hit) (fun _ => rfl)) ?_
      refine Sc Opf ?_
      exact (J _ Q4).env (Ek6 rfl rfl rfl rfl rfl rfl)
     refine Ci fun hs43 => ?_
     refine Uo (Uo ?_)
     refine Wo Opg ?_
     refine Wo Omo ?_
     refine Sb ?_ ?_
     ·
      refine Ci fun hs47 => ?_
      refine Wo Omo ?_
      refine Wo (O_binOp rfl (.tmp .hit) .const (fun _ => b_gtr _ _ _ _ rfl)) ?_
      refine Wo Opt ?_
      refine Wo Opf ?_
      refine Wo (O_unOp rfl (.tmp .hit) (fun _ => rfl)) ?_
      refine Sc Opf ?_
      exact (J _ Q4).env (Ek6 rfl rfl rfl rfl rfl rfl)
     refine Ci fun hs47 => ?_
     refine Uo (Uo ?_)
     refine Wo Opg ?_
     refine Wo Opf ?_
     refine Wo (O_unOp rfl (.tmp .hit) (fun _ => rfl)) ?_
     refine Sc Opf ?_
     exact (J _ Q4).env (Ek6 rfl rfl rfl rfl rfl rfl)
    refine Ci fun hs28 => ?_
    refine Wo Omo ?_
    refine Wo (O_binOp rfl (.tmp .hit) .const (fun _ => b_geq _ _ _ _ rfl)) ?_
    refine Wo Omo ?_
    refine Sb ?_ ?_
    ·
     refine Ci fun hs31 => ?_
     refine Wo Omo ?_
     refine Wo (O_binOp rfl (.tmp .hit) .const (fun _ => b_leq _ _ _ _ rfl)) ?_
     refine Wo Opt ?_
     refine Wo Opf ?_
     refine Wo Omo ?_
     refine Sb ?_ ?_
     ·
      refine Ci fun hs36 => ?_
      refine Uo (Uo ?_)
      refine Wo Opu ?_
      refine Wo Omo ?_
      refine Sb ?_ ?_
      ·
       refine Ci fun hs40 => ?_
       refine Uo (Uo (Uo (Vo (Vo (Uo (Uo (Vo (Vo (Uo ?_)))))))))
       refine Wo Opu ?_
       refine Wo (O_unOp rfl (.tmp .hit) (fun _ => rfl)) ?_
       refine Sc Opf ?_
       exact (J _ Q4).env (Ek6 rfl rfl rfl rfl rfl rfl)
      refine Ci fun hs40 => ?_
      refine Wo Omo ?_
      refine Wo (O_binOp rfl (.tmp .hit) .const (fun _ => b_geq _ _ _ _ rfl)) ?_
      refine Wo Omo ?_
      refine Sb ?_ ?_
      ·
       refine Ci fun hs43 => ?_
       refine Wo Omo ?_
       refine Wo (O_binOp rfl (.tmp .hit) .const (fun _ => b_leq _ _ _ _ rfl)) ?_
       refine Wo Opt ?_
       refine Wo Omo ?_
       refine Sb ?_ ?_
       ·
        refine Ci fun hs47 => ?_
        refine Wo Omo ?_
        refine Wo (O_binOp rfl (.tmp .hit) .const (fun _ => b_gtr _ _ _ _ rfl)) ?_
        refine Wo Opt ?_
        refine Wo Opf ?_
        refine Wo (O_unOp rfl (.tmp .hit) (fun _ => rfl)) ?_
        refine Sc Opf ?_
        exact (J _ Q4).env (Ek6 rfl rfl rfl rfl rfl rfl)
       refine Ci fun hs47 => ?_
       refine Uo (Uo ?_)
       refine Wo Opg ?_
       refine Wo Opf ?_
       refine Wo (O_unOp rfl (.tmp .hit) (fun _ => rfl)) ?_
       refine Sc Opf ?_
       exact (J _ Q4).env (Ek6 rfl rfl rfl rfl rfl rfl)
      refine Ci fun hs43 => ?_
      refine Uo (Uo ?_)
      refine Wo Opg ?_
      refine Wo Omo ?_
      refine Sb ?_ ?_
      ·
       refine Ci fun hs47 => ?_
       refine Wo Omo ?_
       refine Wo (O_binOp rfl (.tmp .hit) .const (fun _ => b_gtr _ _ _ _ rfl)) ?_
       refine Wo Opt ?_
       refine Wo Opf ?_
       refine Wo (O_unOp rfl (.tmp .hit) (fun _ => rfl)) ?_
       refine Sc Opf ?_
       exact (J _ Q4).env (Ek6 rfl rfl rfl rfl rfl rfl)
      refine Ci fun hs47 => ?_
      refine Uo (Uo ?_)
      refine Wo Opg ?_
      refine Wo Opf ?_
      refine Wo (O_unOp rfl (.tmp .hit) (fun _ => rfl)) ?_
      refine Sc Opf ?_
      exact (J _ Q4).env (Ek6 rfl rfl rfl rfl rfl rfl)
     refine Ci fun hs36 => ?_
     refine Wo Omo ?_
     refine Wo Obe ?_
     refine Wo Opf ?_
     refine Wo Omo ?_
     refine Sb ?_ ?_
     ·
      refine Ci fun hs40 => ?_
      refine Uo (Uo (Uo (Vo (Vo (Uo (Uo (Vo (Vo (Uo ?_)))))))))
      refine Wo Opu ?_
      refine Wo (O_unOp rfl (.tmp .hit) (fun _ => rfl)) ?_
      refine Sc Opf ?_
      exact (J _ Q4).env (Ek6 rfl rfl rfl rfl rfl rfl)
     refine Ci fun hs40 => ?_
     refine Wo Omo ?_
     refine Wo (O_binOp rfl (.tmp .hit) .const (fun _ => b_geq _ _ _ _ rfl)) ?_
     refine Wo Omo ?_
     refine Sb ?_ ?_
     ·
      refine Ci fun hs43 => ?_
      refine Wo Omo ?_
      refine Wo (O_binOp rfl (.tmp .hit) .const (fun _ => b_leq _ _ _ _ rfl)) ?_
      refine Wo Opt ?_
      refine Wo Omo ?_
      refine Sb ?_ ?_
      ·
       refine Ci fun hs47 => ?_
       refine Wo Omo ?_
       refine Wo (O_binOp rfl (.tmp .hit) .const (fun _ => b_gtr _ _ _ _ rfl)) ?_
       refine Wo Opt ?_
       refine Wo Opf ?_
       refine Wo (O_unOp rfl (.tmp .hit) (fun _ => rfl)) ?_
       refine Sc Opf ?_
       exact (J _ Q4).env (Ek6 rfl rfl rfl rfl rfl rfl)
      refine Ci fun hs47 => ?_
      refine Uo (Uo ?_)
      refine Wo Opg ?_
      refine Wo Opf ?_
      refine Wo (O_unOp rfl (.tmp .hit) (fun _ => rfl)) ?_
      refine Sc Opf ?_
      exact (J _ Q4).env (Ek6 rfl rfl rfl rfl rfl rfl)
     refine Ci fun hs43 => ?_
     refine Uo (Uo ?_)
     refine Wo Opg ?_
     refine Wo Omo ?_
     refine Sb ?_ ?_
     ·
      refine Ci fun hs47 => ?_
      refine Wo Omo ?_
      refine Wo (O_binOp rfl (.tmp .hit) .const (fun _ => b_gtr _ _ _ _ rfl)) ?_
      refine Wo Opt ?_
      refine Wo Opf ?_
      refine Wo (O_unOp rfl (.tmp .hit) (fun _ => rfl)) ?_
      refine Sc Opf ?_
      exact (J _ Q4).env (Ek6 rfl rfl rfl rfl rfl rfl)
     refine Ci fun hs47 => ?_
     refine Uo (Uo ?_)
     refine Wo Opg ?_
     refine Wo Opf ?_
     refine Wo (O_unOp rfl (.tmp .hit) (fun _ => rfl)) ?_
     refine Sc Opf ?_
     exact (J _ Q4).env (Ek6 rfl rfl rfl rfl rfl rfl)
    refine Ci fun hs31 => ?_
    refine Uo (Uo ?_)
    refine Wo Opg ?_
    refine Wo Opf ?_
    refine Wo Omo ?_
    refine Sb ?_ ?_
    ·
     refine Ci fun hs36 => ?_
     refine Uo (Uo ?_)
     refine Wo Opu ?_
     refine Wo Omo ?_
     refine Sb ?_ ?_
     ·
      refine Ci fun hs40 => ?_
      refine Uo (Uo (Uo (Vo (Vo (Uo (Uo (Vo (Vo (Uo ?_)))))))))
      refine Wo Opu ?_
      refine Wo (O_unOp rfl (.tmp .hit) (fun _ => rfl)) ?_
      refine Sc Opf ?_
      exact (J _ Q4).env (Ek6 rfl rfl rfl rfl rfl rfl)
     refine Ci fun hs40 => ?_
     refine Wo Omo ?_
     refine Wo (O_binOp rfl (.tmp .hit) .const (fun _ => b_geq _ _ _ _ rfl)) ?_
     refine Wo Omo ?_
     refine Sb ?_ ?_
     ·
      refine Ci fun hs43 => ?_
      refine Wo Omo ?_
      refine Wo (O_binOp rfl (.tmp .hit) .const (fun _ => b_leq _ _ _ _ rfl)) ?_
      refine Wo Opt ?_
      refine Wo Omo ?_
      refine Sb ?_ ?_
      ·
       refine Ci fun hs47 => ?_
       refine Wo Omo ?_
       refine Wo (O_binOp rfl (.tmp .hit) .const (fun _ => b_gtr _ _ _ _ rfl)) ?_
       refine Wo Opt ?_
       refine Wo Opf ?_
       refine Wo (O_unOp rfl (.tmp .hit) (fun _ => rfl)) ?_
       refine Sc Opf ?_
       exact (J _ Q4).env (Ek6 rfl rfl rfl rfl rfl rfl)
      refine Ci fun hs47 => ?_
      refine Uo (Uo ?_)
      refine Wo Opg ?_
      refine Wo Opf ?_
      refine Wo (O_unOp rfl (.tmp .hit) (fun _ => rfl)) ?_
      refine Sc Opf ?_
      exact (J _ Q4).env (Ek6 rfl rfl rfl rfl rfl rfl)
     refine Ci fun hs43 => ?_
     refine Uo (Uo ?_)
     refine Wo Opg ?_
     refine Wo Omo ?_
     refine Sb ?_ ?_
     ·
      refine Ci fun hs47 => ?_
      refine Wo Omo ?_
      refine Wo (O_binOp rfl (.tmp .hit) .const (fun _ => b_gtr _ _ _ _ rfl)) ?_
      refine Wo Opt ?_
      refine Wo Opf ?_
      refine Wo (O_unOp rfl (.tmp .hit) (fun _ => rfl)) ?_
      refine Sc Opf ?_
      exact (J _ Q4).env (Ek6 rfl rfl rfl rfl rfl rfl)
     refine Ci fun hs47 => ?_
     refine Uo (Uo ?_)
     refine Wo Opg ?_
     refine Wo Opf ?_
     refine Wo (O_unOp rfl (.tmp .hit) (fun _ => rfl)) ?_
     refine Sc Opf ?_
     exact (J _ Q4).env (Ek6 rfl rfl rfl rfl rfl rfl)
    refine Ci fun hs36 => ?_
    refine Wo Omo ?_
    refine Wo Obe ?_
    refine Wo Opf ?_
    refine Wo Omo ?_
    refine Sb ?_ ?_
    ·
     refine Ci fun hs40 => ?_
     refine Uo (Uo (Uo (Vo (Vo (Uo (Uo (Vo (Vo (Uo ?_)))))))))
     refine Wo Opu ?_
     refine Wo (O_unOp rfl (.tmp .hit) (fun _ => rfl)) ?_
     refine Sc Opf ?_
     exact (J _ Q4).env (Ek6 rfl rfl rfl rfl rfl rfl)
    refine Ci fun hs40 => ?_
    refine Wo Omo ?_
    refine Wo (O_binOp rfl (.tmp .hit) .const (fun _ => b_geq _ _ _ _ rfl)) ?_
    refine Wo Omo ?_
    refine Sb ?_ ?_
    ·
     refine Ci fun hs43 => ?_
     refine Wo Omo ?_
     refine Wo (O_binOp rfl (.tmp .hit) .const (fun _ => b_leq _ _ _ _ rfl)) ?_
     refine Wo Opt ?_
     refine Wo Omo ?_
     refine Sb ?_ ?_
     ·
      refine Ci fun hs47 => ?_
      refine Wo Omo ?_
      refine Wo (O_binOp rfl (.tmp .hit) .const (fun _ => b_gtr _ _ _ _ rfl)) ?_
      refine Wo Opt ?_
      refine Wo Opf ?_
      refine Wo (O_unOp rfl (.tmp .hit) (fun _ => rfl)) ?_
      refine Sc Opf ?_
      exact (J _ Q4).env (Ek6 rfl rfl rfl rfl rfl rfl)
     refine Ci fun hs47 => ?_
     refine Uo (Uo ?_)
     refine Wo Opg ?_
     refine Wo Opf ?_
     refine Wo (O_unOp rfl (.tmp .hit) (fun _ => rfl)) ?_
     refine Sc Opf ?_
     exact (J _ Q4).env (Ek6 rfl rfl rfl rfl rfl rfl)
    refine Ci fun hs43 => ?_
    refine Uo (Uo ?_)
    refine Wo Opg ?_
    refine Wo Omo ?_
    refine Sb ?_ ?_
    ·
     refine Ci fun hs47 => ?_
     refine Wo Omo ?_
     refine Wo (O_binOp rfl (.tmp .hit) .const (fun _ => b_gtr _ _ _ _ rfl)) ?_
     refine Wo Opt ?_
     refine Wo Opf ?_
     refine Wo (O_unOp rfl (.tmp .hit) (fun _ => rfl)) ?_
     refine Sc Opf ?_
     exact (J _ Q4).env (Ek6 rfl rfl rfl rfl rfl rfl)
    refine Ci fun hs47 => ?_
    refine Uo (Uo ?_)
    refine Wo Opg ?_
    refine Wo Opf ?_
    refine Wo (O_unOp rfl (.tmp .hit) (fun _ => rfl)) ?_
    refine Sc Opf ?_
    exact (J _ Q4).env (Ek6 rfl rfl rfl rfl rfl rfl)
   refine Ci fun hs24 => ?_
   refine Uo (Uo ?_)
   refine Wo Opg ?_
   refine Wo Omo ?_
   refine Sb ?_ ?_
   ·
    refine Ci fun hs28 => ?_
    refine Uo (Uo (Uo (Vo (Vo (Uo ?_)))))
    refine Wo Opu ?_
    refine Wo Omo ?_
    refine Sb ?_ ?_
    ·
     refine Ci fun hs36 => ?_
     refine Uo (Uo ?_)
     refine Wo Opu ?_
     refine Wo Omo ?_
     refine Sb ?_ ?_
     ·
      refine Ci fun hs40 => ?_
      refine Uo (Uo (Uo (Vo (Vo (Uo (Uo (Vo (Vo (Uo ?_)))))))))
      refine Wo Opu ?_
      refine Wo (O_unOp rfl (.tmp .hit) (fun _ => rfl)) ?_
      refine Sc Opf ?_
      exact (J _ Q4).env (Ek6 rfl rfl rfl rfl rfl rfl)
     refine Ci fun hs40 => ?_
     refine Wo Omo ?_
     refine Wo (O_binOp rfl (.tmp .hit) .const (fun _ => b_geq _ _ _ _ rfl)) ?_
     refine Wo Omo ?_
     refine Sb ?_ ?_
     ·
      refine Ci fun hs43 => ?_
      refine Wo Omo ?_
      refine Wo (O_binOp rfl (.tmp .hit) .const (fun _ => b_leq _ _ _ _ rfl)) ?_
      refine Wo Opt ?_
      refine Wo Omo ?_
      refine Sb ?_ ?_
      ·
       refine Ci fun hs47 => ?_
       refine Wo Omo ?_
       refine Wo (O_binOp rfl (.tmp .hit) .const (fun _ => b_gtr _ _ _ _ rfl)) ?_
       refine Wo Opt ?_
       refine Wo Opf ?_
       refine Wo (O_unOp rfl (.tmp .hit) (fun _ => rfl)) ?_
       refine Sc Opf ?_
       exact (J _ Q4).env (Ek6 rfl rfl rfl rfl rfl rfl)
      refine Ci fun hs47 => ?_
      refine Uo (Uo ?_)
      refine Wo Opg ?_
      refine Wo Opf ?_
      refine Wo (O_unOp rfl (.tmp .hit) (fun _ => rfl)) ?_
      refine Sc Opf ?_
      exact (J _ Q4).env (Ek6 rfl rfl rfl rfl rfl rfl)
     refine Ci fun hs43 => ?_
     refine Uo (Uo ?_)
     refine Wo Opg ?_
     refine Wo Omo ?_
     refine Sb ?_ ?_
     ·
      refine Ci fun hs47 => ?_
      refine Wo Omo ?_
      refine Wo (O_binOp rfl (.tmp .hit) .const (fun _ => b_gtr _ _ _ _ rfl)) ?_
      refine Wo Opt ?_
      refine Wo Opf ?_
      refine Wo (O_unOp rfl (.tmp .hit) (fun _ => rfl)) ?_
      refine Sc Opf ?_
      exact (J _ Q4).env (Ek6 rfl rfl rfl rfl rfl rfl)
     refine Ci fun hs47 => ?_
     refine Uo (Uo ?_)
     refine Wo Opg ?_
     refine Wo Opf ?_
     refine Wo (O_unOp rfl (.tmp .hit) (fun _ => rfl)) ?_
     refine Sc Opf ?_
     exact (J _ Q4).env (Ek6 rfl rfl rfl rfl rfl rfl)
    refine Ci fun hs36 => ?_
    refine Wo Omo ?_
    refine Wo Obe ?_
    refine Wo Opf ?_
    refine Wo Omo ?_
    refine Sb ?_ ?_
    ·
     refine Ci fun hs40 => ?_
     refine Uo (Uo (Uo (Vo (Vo (Uo (Uo (Vo (Vo (Uo ?_)))))))))
     refine Wo Opu ?_
     refine Wo (O_unOp rfl (.tmp .hit) (fun _ => rfl)) ?_
     refine Sc Opf ?_
     exact (J _ Q4).env (Ek6 rfl rfl rfl rfl rfl rfl)
    refine Ci fun hs40 => ?_
    refine Wo Omo ?_
    refine Wo (O_binOp rfl (.tmp .hit) .const (fun _ => b_geq _ _ _ _ rfl)) ?_
    refine Wo Omo ?_
    refine Sb ?_ ?_
    ·
     refine Ci fun hs43 => ?_
     refine Wo Omo ?_
     refine Wo (O_binOp rfl (.tmp .hit) .const (fun _ => b_leq _ _ _ _ rfl)) ?_
     refine Wo Opt ?_
     refine Wo Omo ?_
     refine Sb ?_ ?_
     ·
      refine Ci fun hs47 => ?_
      refine Wo Omo ?_
      refine Wo (O_binOp rfl (.tmp .hit) .const (fun _ => b_gtr _ _ _ _ rfl)) ?_
      refine Wo Opt ?_
      refine Wo Opf ?_
      refine Wo (O_unOp rfl (.tmp .hit) (fun _ => rfl)) ?_
      refine Sc Opf ?_
      exact (J _ Q4).env (Ek6 rfl rfl rfl rfl rfl rfl)
     refine Ci fun hs47 => ?_
     refine Uo (Uo ?_)
     refine Wo Opg ?_
     refine Wo Opf ?_
     refine Wo (O_unOp rfl (.tmp .hit) (fun _ => rfl)) ?_
     refine Sc Opf ?_
     exact (J _ Q4).env (Ek6 rfl rfl rfl rfl rfl rfl)
    refine Ci fun hs43 => ?_
    refine Uo (Uo ?_)
    refine Wo Opg ?_
    refine Wo Omo ?_
    refine Sb ?_ ?_
    ·
     refine Ci fun hs47 => ?_
     refine Wo Omo ?_
     refine Wo (O_binOp rfl (.tmp .hit) .const (fun _ => b_gtr _ _ _ _ rfl)) ?_
     refine Wo Opt ?_
     refine Wo Opf ?_
     refine Wo (O_unOp rfl (.tmp .hit) (fun _ => rfl)) ?_
     refine Sc Opf ?_
     exact (J _ Q4).env (Ek6 rfl rfl rfl rfl rfl rfl)
    refine Ci fun hs47 => ?_
    refine Uo (Uo ?_)
    refine Wo Opg ?_
    refine Wo Opf ?_
    refine Wo (O_unOp rfl (.tmp .hit) (fun _ => rfl)) ?_
    refine Sc Opf ?_
    exact (J _ Q4).env (Ek6 rfl rfl rfl rfl rfl rfl)
   refine Ci fun hs28 => ?_
   refine Wo Omo ?_
   refine Wo (O_binOp rfl (.tmp .hit) .const (fun _ => b_geq _ _ _ _ rfl)) ?_
   refine Wo Omo ?_
   refine Sb ?_ ?_
   ·
    refine Ci fun hs31 => ?_
    refine Wo Omo ?_
    refine Wo (O_binOp rfl (.tmp .hit) .const (fun _ => b_leq _ _ _ _ rfl)) ?_
    refine Wo Opt ?_
    refine Wo Opf ?_
    refine Wo Omo ?_
    refine Sb ?_ ?_
    ·
     refine Ci fun hs36 => ?_
     refine Uo (Uo ?_)
     refine Wo Opu ?_
     refine Wo Omo ?_
     refine Sb ?_ ?_
     ·
      refine Ci fun hs40 => ?_
      refine Uo (Uo (Uo (Vo (Vo (Uo (Uo (Vo (Vo (Uo ?_)))))))))
      refine Wo Opu ?_
      refine Wo (O_unOp rfl (.tmp .hit) (fun _ => rfl)) ?_
      refine Sc Opf ?_
      exact (J _ Q4).env (Ek6 rfl rfl rfl rfl rfl rfl)
     refine Ci fun hs40 => ?_
     refine Wo Omo ?_
     refine Wo (O_binOp rfl (.tmp .hit) .const (fun _ => b_geq _ _ _ _ rfl)) ?_
     refine Wo Omo ?_
     refine Sb ?_ ?_
     ·
      refine Ci fun hs43 => ?_
      refine Wo Omo ?_
      refine Wo (O_binOp rfl (.tmp .hit) .const (fun _ => b_leq _ _ _ _ rfl)) ?_
      refine Wo Opt ?_
      refine Wo Omo ?_
      refine Sb ?_ ?_
      ·
       refine Ci fun hs47 => ?_
       refine Wo Omo ?_
       refine Wo (O_binOp rfl (.tmp .hit) .const (fun _ => b_gtr _ _ _ _ rfl)) ?_
       refine Wo Opt ?_
       refine Wo Opf ?_
       refine Wo (O_unOp rfl (.tmp .hit) (fun _ => rfl)) ?_
       refine Sc Opf ?_
       exact (J _ Q4).env (Ek6 rfl rfl rfl rfl rfl rfl)
      refine Ci fun hs47 => ?_
      refine Uo (Uo ?_)
      refine Wo Opg ?_
      refine Wo Opf ?_
      refine Wo (O_unOp rfl (.tmp .hit) (fun _ => rfl)) ?_
      refine Sc Opf ?_
      exact (J _ Q4).env (Ek6 rfl rfl rfl rfl rfl rfl)
     refine Ci fun hs43 => ?_
     refine Uo (Uo ?_)
     refine Wo Opg ?_
     refine Wo Omo ?_
     refine Sb ?_ ?_
     ·
      refine Ci fun hs47 => ?_
      refine Wo Omo ?_
      refine Wo (O_binOp rfl (.tmp .hit) .const (fun _ => b_gtr _ _ _ _ rfl)) ?_
      refine Wo Opt ?_
      refine Wo Opf ?_
      refine Wo (O_unOp rfl (.tmp .hit) (fun _ => rfl)) ?_
      refine Sc Opf ?_
      exact (J _ Q4).env (Ek6 rfl rfl rfl rfl rfl rfl)
     refine Ci fun hs47 => ?_
     refine Uo (Uo ?_)
     refine Wo Opg ?_
     refine Wo Opf ?_
     refine Wo (O_unOp rfl (.tmp .hit) (fun _ => rfl)) ?_
     refine Sc Opf ?_
     exact (J _ Q4).env (Ek6 rfl rfl rfl rfl rfl rfl)
    refine Ci fun hs36 => ?_
    refine Wo Omo ?_
    refine Wo Obe ?_
    refine Wo Opf ?_
    refine Wo Omo ?_
    refine Sb ?_ ?_
    ·
     refine Ci fun hs40 => ?_
     refine Uo (Uo (Uo (Vo (Vo (Uo (Uo (Vo (Vo (Uo ?_)))))))))
     refine Wo Opu ?_
     refine Wo (O_unOp rfl (.tmp .hit) (fun _ => rfl)) ?_
     refine Sc Opf ?_
     exact (J _ Q4).env (Ek6 rfl rfl rfl rfl rfl rfl)
    refine Ci fun hs40 => ?_
    refine Wo Omo ?_
    refine Wo (O_binOp rfl (.tmp .hit) .const (fun _ => b_geq _ _ _ _ rfl)) ?_
    refine Wo Omo ?_
    refine Sb ?_ ?_
    ·
     refine Ci fun hs43 => ?_
     refine Wo Omo ?_
     refine Wo (O_binOp rfl (.tmp .hit) .const (fun _ => b_leq _ _ _ _ rfl)) ?_
     refine Wo Opt ?_
     refine Wo Omo ?_
     refine Sb ?_ ?_
     ·
      refine Ci fun hs47 => ?_
      refine Wo Omo ?_
      refine Wo (O_binOp rfl (.tmp .hit) .const (fun _ => b_gtr _ _ _ _ rfl)) ?_
      refine Wo Opt ?_
      refine Wo Opf ?_
      refine Wo (O_unOp rfl (.tmp .hit) (fun _ => rfl)) ?_
      refine Sc Opf ?_
      exact (J _ Q4).env (Ek6 rfl rfl rfl rfl rfl rfl)
     refine Ci fun hs47 => ?_
     refine Uo (Uo ?_)
     refine Wo Opg ?_
     refine Wo Opf ?_
     refine Wo (O_unOp rfl (.tmp .hit) (fun _ => rfl)) ?_
     refine Sc Opf ?_
     exact (J _ Q4).env (Ek6 rfl rfl rfl rfl rfl rfl)
    refine Ci fun hs43 => ?_
    refine Uo (Uo ?_)
    refine Wo Opg ?_
    refine Wo Omo ?_
    refine Sb ?_ ?_
    ·
     refine Ci fun hs47 => ?_
     refine Wo Omo ?_
     refine Wo (O_binOp rfl (.tmp .hit) .const (fun _ => b_gtr _ _ _ _ rfl)) ?_
     refine Wo Opt ?_
     refine Wo Opf ?_
     refine Wo (O_unOp rfl (.tmp .hit) (fun _ => rfl)) ?_
     refine Sc Opf ?_
     exact (J _ Q4).env (Ek6 rfl rfl rfl rfl rfl rfl)
    refine Ci fun hs47 => ?_
    refine Uo (Uo ?_)
    refine Wo Opg ?_
    refine Wo Opf ?_
    refine Wo (O_unOp rfl (.tmp .hit) (fun _ => rfl)) ?_
    refine Sc Opf ?_
    exact (J _ Q4).env (Ek6 rfl rfl rfl rfl rfl rfl)
   refine Ci fun hs31 => ?_
   refine Uo (Uo ?_)
   refine Wo Opg ?_
   refine Wo Opf ?_
   refine Wo Omo ?_
   refine Sb ?_ ?_
   ·
    refine Ci fun hs36 => ?_
    refine Uo (Uo ?_)
    refine Wo Opu ?_
    refine Wo Omo ?_
    refine Sb ?_ ?_
    ·
     refine Ci fun hs40 => ?_
     refine Uo (Uo (Uo (Vo (Vo (Uo (Uo (Vo (Vo (Uo ?_)))))))))
     refine Wo Opu ?_
     refine Wo (O_unOp rfl (.tmp .hit) (fun _ => rfl)) ?_
     refine Sc Opf ?_
     exact (J _ Q4).env (Ek6 rfl rfl rfl rfl rfl rfl)
    refine Ci fun hs40 => ?_
    refine Wo Omo ?_
    refine Wo (O_binOp rfl (.tmp .hit) .const (fun _ => b_geq _ _ _ _ rfl)) ?_
    refine Wo Omo ?_
    refine Sb ?_ ?_
    ·
     refine Ci fun hs43 => ?_
     refine Wo Omo ?_
     refine Wo (O_binOp rfl (.tmp .hit) .const (fun _ => b_leq _ _ _ _ rfl)) ?_
     refine Wo Opt ?_
     refine Wo Omo ?_
     refine Sb ?_ ?_
     ·
      refine Ci fun hs47 => ?_
      refine Wo Omo ?_
      refine Wo (O_binOp rfl (.tmp .hit) .const (fun _ => b_gtr _ _ _ _ rfl)) ?_
      refine Wo Opt ?_
      refine Wo Opf ?_
      refine Wo (O_unOp rfl (.tmp .hit) (fun _ => rfl)) ?_
      refine Sc Opf ?_
      exact (J _ Q4).env (Ek6 rfl rfl rfl rfl rfl rfl)
     refine Ci fun hs47 => ?_
     refine Uo (Uo ?_)
     refine Wo Opg ?_
     refine Wo Opf ?_
     refine Wo (O_unOp rfl (.tmp .hit) (fun _ => rfl)) ?_
     refine Sc Opf ?_
     exact (J _ Q4).env (Ek6 rfl rfl rfl rfl rfl rfl)
    refine Ci fun hs43 => ?_
    refine Uo (Uo ?_)
    refine Wo Opg ?_
    refine Wo Omo ?_
    refine Sb ?_ ?_
    ·
     refine Ci fun hs47 => ?_
     refine Wo Omo ?_
     refine Wo (O_binOp rfl (.tmp .hit) .const (fun _ => b_gtr _ _ _ _ rfl)) ?_
     refine Wo Opt ?_
     refine Wo Opf ?_
     refine Wo (O_unOp rfl (.tmp .hit) (fun _ => rfl)) ?_
     refine Sc Opf ?_
     exact (J _ Q4).env (Ek6 rfl rfl rfl rfl rfl rfl)
    refine Ci fun hs47 => ?_
    refine Uo (Uo ?_)
    refine Wo Opg ?_
    refine Wo Opf ?_
    refine Wo (O_unOp rfl (.tmp .hit) (fun _ => rfl)) ?_
    refine Sc Opf ?_
    exact (J _ Q4).env (Ek6 rfl rfl rfl rfl rfl rfl)
   refine Ci fun hs36 => ?_
   refine Wo Omo ?_
   refine Wo Obe ?_
   refine Wo Opf ?_
   refine Wo Omo ?_
   refine Sb ?_ ?_
   ·
    refine Ci fun hs40 => ?_
    refine Uo (Uo (Uo (Vo (Vo (Uo (Uo (Vo (Vo (Uo ?_)))))))))
    refine Wo Opu ?_
    refine Wo (O_unOp rfl (.tmp .hit) (fun _ => rfl)) ?_
    refine Sc Opf ?_
    exact (J _ Q4).env (Ek6 rfl rfl rfl rfl rfl rfl)
   refine Ci fun hs40 => ?_
   refine Wo Omo ?_
   refine Wo (O_binOp rfl (.tmp .hit) .const (fun _ => b_geq _ _ _ _ rfl)) ?_
   refine Wo Omo ?_
   refine Sb ?_ ?_
   ·
    refine Ci fun hs43 => ?_
    refine Wo Omo ?_
    refine Wo (O_binOp rfl (.tmp .hit) .const (fun _ => b_leq _ _ _ _ rfl)) ?_
    refine Wo Opt ?_
    refine Wo Omo ?_
    refine Sb ?_ ?_
    ·
     refine Ci fun hs47 => ?_
     refine Wo Omo ?_
     refine Wo (O_binOp rfl (.tmp .hit) .const (fun _ => b_gtr _ _ _ _ rfl)) ?_
     refine Wo Opt ?_
     refine Wo Opf ?_
     refine Wo (O_unOp rfl (.tmp .hit) (fun _ => rfl)) ?_
     refine Sc Opf ?_
     exact (J _ Q4).env (Ek6 rfl rfl rfl rfl rfl rfl)
    refine Ci fun hs47 => ?_
    refine Uo (Uo ?_)
    refine Wo Opg ?_
    refine Wo Opf ?_
    refine Wo (O_unOp rfl (.tmp .hit) (fun _ => rfl)) ?_
    refine Sc Opf ?_
    exact (J _ Q4).env (Ek6 rfl rfl rfl rfl rfl rfl)
   refine Ci fun hs43 => ?_
   refine Uo (Uo ?_)
   refine Wo Opg ?_
   refine Wo Omo ?_
   refine Sb ?_ ?_
   ·
    refine Ci fun hs47 => ?_
    refine Wo Omo ?_
    refine Wo (O_binOp rfl (.tmp .hit) .const (fun _ => b_gtr _ _ _ _ rfl)) ?_
    refine Wo Opt ?_
    refine Wo Opf ?_
    refine Wo (O_unOp rfl (.tmp .hit) (fun _ => rfl)) ?_
    refine Sc Opf ?_
    exact (J _ Q4).env (Ek6 rfl rfl rfl rfl rfl rfl)
   refine Ci fun hs47 => ?_
   refine Uo (Uo ?_)
   refine Wo Opg ?_
   refine Wo Opf ?_
   refine Wo (O_unOp rfl (.tmp .hit) (fun _ => rfl)) ?_
   refine Sc Opf ?_
   exact (J _ Q4).env (Ek6 rfl rfl rfl rfl rfl rfl)
  refine Sd ?_ ?_
  ·
   refine Ci fun ht16 => ?_
   refine Sr ?_
   refine Mo ?_
   refine Sc (O_binOp rfl (.tmp .hit) .const (fun _ => b_add _ _ _ rfl oz oz)) ?_
   refine Ah ?_
   refine Sn ?_
   exact fun _ _ ha hw => J16 _ ⟨by omega, by omega⟩ _ _ (ha.weaken (Ek5 rfl rfl rfl rfl rfl)) (hw.weaken (SW_range.HSub.all _))
  refine Ci fun ht16 => ?_
  refine Sr ?_
  refine Ac ?_
  refine Sn ?_
  exact fun _ _ ha hw => J16 _ ⟨by omega, by omega⟩ _ _ (ha.weaken (Ek5 rfl rfl rfl rfl rfl)) (hw.weaken (SW_range.HSub.all _))
 refine Ci fun ht9 => ?_
 refine Xt ?_
 refine So k3 ?_
 refine Ek [0, 2] ?_
 refine SR fun _ k13 => ?_
 refine Mh ?_
 refine Sc (O_lenStr rfl (.tmp .hit) underlying9 rfl) ?_
 refine Sc (O_binOp rfl (.tmp .hit) .const (fun _ => b_gtr _ _ _ _ rfl)) ?_
 refine Mh ?_
 refine Sb ?_ ?_
 ·
  refine Ci fun hs57 => ?_
  refine Wo Omo ?_
  refine Wo (O_lenStr rfl (.tmp .hit) underlying9 rfl) ?_
  refine Wo (O_binOp rfl (.tmp .hit) .const (fun _ => b_leq _ _ _ _ rfl)) ?_
  refine Sc Opt ?_
  refine Ah ?_
  refine SN k13 ?_
  refine Rt ?_
  refine Pl3 ?_
  first
  | exact SK_ret1 rfl .hit (fun w hw => ⟨_, rfl, (fun h => by cases h), hw.ext⟩)
  | exact SK_ret1 rfl .hit (fun w hw => ⟨_, rfl, Q30, hw.ext⟩)
 refine Ci fun hs57 => ?_
 refine Uo (Uo (Uo ?_))
 refine Sc Opg ?_
 refine Ah ?_
 refine SN k13 ?_
 refine Rt ?_
 refine Pl3 ?_
 first
 | exact SK_ret1 rfl .hit (fun w hw => ⟨_, rfl, (fun h => by cases h), hw.ext⟩)
 | exact SK_ret1 rfl .hit (fun w hw => ⟨_, rfl, Q30, hw.ext⟩)
end
end Go.Proofs.YtoibhfpagkdleaaGreatDoor
