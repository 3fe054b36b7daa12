/-
  CONTRACTS: what the reader of types defers, and the closures that it calls.
  CONTRACT: the members of a composed type are read.
-/
import Derived.Test.YtoibhfpagkdleaaGreatDoorSt
namespace Go.Proofs.YtoibhfpagkdleaaGreatDoor
section
open Go
open Tryz
set_option maxRecDepth 100000

theorem Cx.ids_uniq {C : Cx} {T : List Nat} {x : St} (hI : C.Inv T x) {id : Nat} {v : Value} (hv : C.Ref x.M id v) : ∀ p ∈ Cx.idsO x.K, p.1 = v → p = (v, .int .u32 (id : Nat)) := fun p hp e => by
  obtain ⟨q, h1, rfl⟩ := Cx.ids_mem hp
  dsimp only at e
  subst e
  rw [Cx.Ref.inj hI (hI.k q h1) hv]
theorem mem_skip {α : Type} {y z : α} {H : List α} (h : y ∈ H) : y ∈ z :: H := List.mem_cons_of_mem _ h

theorem f72_a {S : Nat → Prop} {w0 : World} {b5 b2 b3 b4 : Nat} {H : Hp} {Q : Exit → Act → World → Prop} (h : SK S w0 23 [] H [(0, .pointer (some ⟨b5, 0, none⟩)), (1, .pointer (some ⟨b2, 0, none⟩)), (2, .pointer (some ⟨b3, 0, none⟩)), (3, .pointer (some ⟨b4, 0, none⟩))] (Q .normal)) :
 SW none Tryz.prog S w0 23 [] H ((4, .nilIface) :: [(0, .pointer (some ⟨b5, 0, none⟩)), (1, .pointer (some ⟨b2, 0, none⟩)), (2, .pointer (some ⟨b3, 0, none⟩)), (3, .pointer (some ⟨b4, 0, none⟩))]) (sub [0, 1] (cd Tryz.f72)) Q := by
 refine SR fun _ k1 => ?_
 refine Mh ?_
 refine Sc (O_binOp rfl (.tmp .hit) .const (r := .bool false) (fun _ => rfl)) ?_
 refine SN k1 ?_
 refine Fh ?_
 refine Ss ?_
 refine Pl3 ?_
 exact h.weaken (.cons (.o rfl) (.cons (.o rfl) (.cons (.o rfl) (.cons (.o rfl) .nil)))) .all

theorem f72_b {C : Cx} {S : Nat → Prop} {w0 : World} (T : Hp) (x : St) (id : Nat) {b5 b2 b3 b4 : Nat} {v : Value} {B : List Nat} {Q : Exit → Act → World → Prop} (hI : C.Inv B x) (hB : ∀ b ∈ B, b ∈ cbs ((b5, true, .cells #[.nilIface] 40 (0, 0)) :: (b2, true, .cells #[.pointer (some ⟨C.z.d, 0, none⟩)] 76 (0, 0)) :: (b3, true, .cells #[.int .u32 (id : Nat)] 83 (0, 0)) :: (b4, true, .cells #[v] 47 (0, 0)) :: T)) (hv : C.Ref x.M id v) (h : SK S w0 23 [] (C.H (Cx.reg x id v) ((b5, true, .cells #[.nilIface] 40 (0, 0)) :: (b2, true, .cells #[.pointer (some ⟨C.z.d, 0, none⟩)] 76 (0, 0)) :: (b3, true, .cells #[.int .u32 (id : Nat)] 83 (0, 0)) :: (b4, true, .cells #[v] 47 (0, 0)) :: T)) [] (Q .normal)) :
 SW none Tryz.prog S w0 23 [] (C.H x ((b5, true, .cells #[.nilIface] 40 (0, 0)) :: (b2, true, .cells #[.pointer (some ⟨C.z.d, 0, none⟩)] 76 (0, 0)) :: (b3, true, .cells #[.int .u32 (id : Nat)] 83 (0, 0)) :: (b4, true, .cells #[v] 47 (0, 0)) :: T)) [(0, .pointer (some ⟨b5, 0, none⟩)), (1, .pointer (some ⟨b2, 0, none⟩)), (2, .pointer (some ⟨b3, 0, none⟩)), (3, .pointer (some ⟨b4, 0, none⟩))] (sub [1] (cd Tryz.f72)) Q := by
 unfold Cx.H
 refine SR fun _ k1 => ?_
 refine Sc (Ola oc40) ?_
 refine Sc (O_binOp rfl (.tmp .hit) .const (r := .bool false) (fun _ => rfl)) ?_
 refine SN k1 ?_
 refine Fh ?_
 refine Zw (Zl rfl oc76 .a rfl (Zn rfl (Zf rfl underlying90 rfl sz87 (Zl rfl oc87 .a rfl (Zl rfl oc47 .a rfl (Zl rfl oc83 .a rfl .done)))))) ?_
 refine SL_cons ((O_putK (k := v) (v := .int .u32 (id : Nat)) (.tmp (.o rfl)) (.tmp (.o rfl)) (.tmp .hit) underlying87 underlying47 Cx.nilT (fun w hw => ⟨hv.key hI hB hw Q15, fun p hp => by
   obtain ⟨q, h1, rfl⟩ := Cx.ids_mem hp
   exact (hI.k q h1).key hI hB hw Q15⟩) (Cx.ids_uniq hI hv) .a)) ?_
 refine Sn ?_
 refine Pl3 ?_
 rw [← Cx.reg_ids]
 exact h.weaken .nil .all

theorem f72_of {S : Nat → Prop} {w0 : World} {b5 b2 b3 b4 : Nat} {H H' : Hp} (h : ∀ Q : Exit → Act → World → Prop, SK S w0 23 [] H' [] (Q .normal) → SW none Tryz.prog S w0 23 [] H [(0, .pointer (some ⟨b5, 0, none⟩)), (1, .pointer (some ⟨b2, 0, none⟩)), (2, .pointer (some ⟨b3, 0, none⟩)), (3, .pointer (some ⟨b4, 0, none⟩))] (sub [1] (cd Tryz.f72)) Q) (w : World) (hw : Holds S w0 H w) :
    Parting Tryz.prog 72 [.pointer (some ⟨b5, 0, none⟩), .pointer (some ⟨b2, 0, none⟩), .pointer (some ⟨b3, 0, none⟩), .pointer (some ⟨b4, 0, none⟩)].toArray w (Holds S w0 H') := by
  refine callsD_of_wpS func72 rfl (fun c0 cs hc0 => wpS_seq (wpS_seq (wpS_region ?_)))
  have hs := sees4 (.pointer (some ⟨b5, 0, none⟩)) (.pointer (some ⟨b2, 0, none⟩)) (.pointer (some ⟨b3, 0, none⟩)) (.pointer (some ⟨b4, 0, none⟩)) 23 rfl
  have hr : recoverD (c0 :: cs) = none := by simp [recoverD, hc0]
  have h5 : ∀ {a : Act} {e : Env}, Sees 23 [] e a → (a.put (some 5) .nilIface).eval (.tmp 5) = .nilIface := fun h => (h.put rfl _).ev (.tmp .hit)
  refine opsS_recover (i := 0) (rest := [1]) rfl hr (opsS_assign (i := 1) (rest := []) rfl ?_)
  rw [ntmps72]
  rw [h5 hs]
  refine wpS_of_wp (wpIn_wide.1 (f72_a ?_ _ w (((hs.put rfl _).put rfl _).weaken (.cons .hit (.cons (.o rfl) (.cons (.o rfl) (.cons (.o rfl) (.cons (.o rfl) .nil)))))) hw))
  exact fun a w ha hw => wpS_of_wp (wpIn_wide.1 (h _ (SK_endD hc0 rfl (fun w hw => hw)) a w ha hw))
theorem f72_ok {C : Cx} {S : Nat → Prop} {w0 : World} (T : Hp) (x : St) (id : Nat) {b5 b2 b3 b4 : Nat} {v : Value} {B : List Nat} (hI : C.Inv B x) (hB : ∀ b ∈ B, b ∈ cbs ((b5, true, .cells #[.nilIface] 40 (0, 0)) :: (b2, true, .cells #[.pointer (some ⟨C.z.d, 0, none⟩)] 76 (0, 0)) :: (b3, true, .cells #[.int .u32 (id : Nat)] 83 (0, 0)) :: (b4, true, .cells #[v] 47 (0, 0)) :: T)) (hv : C.Ref x.M id v) (w : World) (hw : Holds S w0 (C.H x ((b5, true, .cells #[.nilIface] 40 (0, 0)) :: (b2, true, .cells #[.pointer (some ⟨C.z.d, 0, none⟩)] 76 (0, 0)) :: (b3, true, .cells #[.int .u32 (id : Nat)] 83 (0, 0)) :: (b4, true, .cells #[v] 47 (0, 0)) :: T)) w) :
    Parting Tryz.prog 72 [.pointer (some ⟨b5, 0, none⟩), .pointer (some ⟨b2, 0, none⟩), .pointer (some ⟨b3, 0, none⟩), .pointer (some ⟨b4, 0, none⟩)].toArray w (Holds S w0 (C.H (Cx.reg x id v) ((b5, true, .cells #[.nilIface] 40 (0, 0)) :: (b2, true, .cells #[.pointer (some ⟨C.z.d, 0, none⟩)] 76 (0, 0)) :: (b3, true, .cells #[.int .u32 (id : Nat)] 83 (0, 0)) :: (b4, true, .cells #[v] 47 (0, 0)) :: T))) :=
  f72_of (fun _ h => f72_b T x id hI hB hv h) w hw

namespace Cx
structure Post (C : Cx) (T : List Nat) (x : St) (id : Nat) (z : St × Value) : Prop where
  grew : C.Grew x z.1
  inv : C.Inv T z.1
  ref : C.Ref z.1.M id z.2
  known : ∃ v, (id, v) ∈ z.1.K
theorem Ref.one {C : Cx} {M : List (Nat × Nat)} {r : Nat} {v : Value} (h : C.Ref M r v) : v.oneCell' = true := by
  obtain ⟨t, p, rfl⟩ := ref_iface h
  rfl
end Cx
theorem LSet.at {l : List Value} {k : Nat} {v : Value} (h : k < l.length) : LSet l k v (l.set k v) := by
  induction l generalizing k with
  | nil => simp at h
  | cons x l ih =>
    cases k with
    | zero => exact .hit
    | succ k => exact .skip (ih Q48)
/-- type number id is read wherever fewer than m types are not yet begun -/
def InflOk (C : Cx) (m : Nat) : Prop := ∀ (S : Nat → Prop) (w0 : World) (T : Hp) (B : List Nat) (x : St) (id : Nat) (w : World), C.miss x.M < m → id ≤ C.N → (∀ b ∈ B, b ∈ cbs T) → C.Inv B x → Holds S w0 (C.H x T) w →
  Calls Tryz.prog 63 #[.pointer (some ⟨C.z.d, 0, none⟩), .int .u32 (id : Nat)] w (fun r w' => ∃ z : St × Value, r = .returned (.tuple #[z.2, .nilIface]) ∧ C.Post B x id z ∧ Holds S w0 (C.H z.1 T) w')

theorem f73_ok {C : Cx} {m : Nat} (hC : InflOk C m) {S : Nat → Prop} {w0 : World} (T : Hp) (B : List Nat) (x : St) (id b2 tb k : Nat) (cs : List Value) (E : TypeId) (w : World) (hm : C.miss x.M < m) (hid : id ≤ C.N) (hk : k < cs.length) (hB : ∀ b ∈ B, b ∈ cbs ((b2, true, .cells #[.pointer (some ⟨C.z.d, 0, none⟩)] 76 (0, 0)) :: (tb, true, .cells cs.toArray E (0, 0)) :: T)) (hI : C.Inv B x) (hw : Holds S w0 (C.H x ((b2, true, .cells #[.pointer (some ⟨C.z.d, 0, none⟩)] 76 (0, 0)) :: (tb, true, .cells cs.toArray E (0, 0)) :: T)) w) :
    Calls Tryz.prog 73 #[.int .u32 (id : Nat), .pointer (some ⟨tb, k, none⟩), .pointer (some ⟨b2, 0, none⟩)] w (fun r w' => ∃ z : St × Value, r = .returned (.tuple #[]) ∧ C.Post B x id z ∧ Holds S w0 (C.H z.1 ((b2, true, .cells #[.pointer (some ⟨C.z.d, 0, none⟩)] 76 (0, 0)) :: (tb, true, .cells (cs.set k z.2).toArray E (0, 0)) :: T)) w') := by
 refine sw_calls0 func73 rfl ntmps73 (sees3 _ _ _ _ rfl) hw ?_
 unfold Cx.H
 refine SR fun _ k1 => ?_
 refine Sc (Ola oc76) ?_
 refine Mo ?_
 refine Sc (O_call (val := fun z : St × Value => .tuple #[z.2, .nilIface]) (Hf := fun z => C.H z.1 ((b2, true, .cells #[.pointer (some ⟨C.z.d, 0, none⟩)] 76 (0, 0)) :: (tb, true, .cells cs.toArray E (0, 0)) :: T)) (good := fun z => C.Post B x id z) (xs := [.tmp 8, .tmp 9]) (cap := []) rfl .func (.cons (.tmp (.o rfl)) (.cons (.tmp .hit) .nil)) func63 rfl rfl (fun w hw => hC S w0 _ B x id w hm hid hB hI hw)) ?_
 rintro ⟨y, v⟩ hz
 dsimp only [Cx.H]
 refine Mh ?_
 refine Sc Oex ?_
 refine Sc Oex ?_
 refine Ao ?_
 refine Ao ?_
 refine SN k1 ?_
 refine Sq fun _ k2 => ?_
 refine SR fun _ k3 => ?_
 refine Mh ?_
 refine Sc (O_binOp rfl (.tmp .hit) .const (r := .bool false) (fun _ => rfl)) ?_
 refine SN k3 ?_
 refine Fh ?_
 refine SS k2 ?_
 refine Sr ?_
 refine Mo ?_
 refine Mo ?_
 refine Sc (O_nilCheck rfl (.tmp (.o rfl))) ?_
 refine Sc (O_store (.tmp .hit) (.tmp (.o rfl)) hz.ref.one sz47 .a (LSet.at hk)) ?_
 refine Sn ?_
 refine Pl3 ?_
 exact SK_end0 rfl (fun w hw => ⟨(y, v), rfl, hz, hw⟩)

/-- a list is an explicit part, then T, then what is done -/
inductive HTail : Hp → List (Nat × List Value × Nat) → Hp → Prop
  | nil {T : Hp} {U : List (Nat × List Value × Nat)} : HTail (T ++ oldH U) U T
  | cons {y : Nat × Bool × Obj} {R T : Hp} {U : List (Nat × List Value × Nat)} (h : HTail R U T) : HTail (y :: R) U (y :: T)
theorem HTail.a {R T : Hp} {U : List (Nat × List Value × Nat)} (h : HTail R U T := by repeat (first | exact HTail.nil | apply HTail.cons)) : HTail R U T := h
theorem HTail.eq {R T : Hp} {U : List (Nat × List Value × Nat)} (h : HTail R U T) : R = T ++ oldH U := by
  induction h with
  | nil => rfl
  | cons _ ih => rw [ih]; rfl
theorem HPicks.a {H A T : Hp} (h : HPicks H A T := by repeat (first | exact HPicks.nil | apply HPicks.cons | apply HPick.hit | apply HPick.skip)) : HPicks H A T := h
theorem cbs_hit {b : Nat} {f : Bool} {cs : Array Value} {E : TypeId} {H : Hp} : b ∈ cbs ((b, f, .cells cs E (0, 0)) :: H) := List.mem_cons_self
theorem cbs_skip {b : Nat} {y : Nat × Bool × Obj} {H : Hp} (h : b ∈ cbs H) : b ∈ cbs (y :: H) := by
  unfold cbs
  split
  · rename_i h0; cases h0
  · rename_i heq
    injection heq with e1 e2
    subst e2
    exact List.mem_cons_of_mem _ h
  rename_i heq
  injection heq with e1 e2
  subst e2
  exact h
theorem cbs_or {b c : Nat} {f : Bool} {cs : Array Value} {E : TypeId} {H : Hp} (h : b ∈ cbs ((c, f, .cells cs E (0, 0)) :: H)) : b = c ∨ b ∈ cbs H := List.mem_cons.1 h
theorem RowOk.set {s n : Nat} {g cap : Nat} {cur xs : List Value} (h : RowOk s (some ⟨g, cap, cur⟩) n xs) (i : Nat) (v : Value) : RowOk s (some ⟨g, cap, cur.set i v⟩) n (xs.set i v) := by
  obtain ⟨h1, h2, h3, h4, h5⟩ := h
  refine ⟨by simpa using h1, h2, h3, by simpa using h4, ?_⟩
  dsimp only at h5 ⊢
  rw [← h5, List.take_set]
theorem RowOk.len {s n : Nat} {r : Row} {xs : List Value} (h : RowOk s (some r) n xs) : n * s ≤ r.cur.length := by
  obtain ⟨h1, h2, h3, h4, h5⟩ := h
  rw [h4]
  exact Nat.mul_le_mul_right _ h2
section
variable {ro : Option Nat} {S : Nat → Prop} {w0 : World} {n : Nat} {ds : List Deferred} {H : Hp} {e : Env}
variable {d : Nat} {ty : TypeId} {pos : String} {aft : Array Edge}
/-- a reference is read into a cell -/
theorem O_fix {C : Cx} {m : Nat} (hC : InflOk C m) {T0 T R : Hp} {B : List Nat} {x : St} {id b2 tb k : Nat} {cs : List Value} {E : TypeId} {g : Operand} {xs : List Operand} {ats : Array TypeId} (hd : Nat.blt d n = true) (hg : Ev e g (.func (.func 73) #[] [.pointer (some ⟨b2, 0, none⟩)].toArray))
    (hx : Evs e xs [.int .u32 (id : Nat), .pointer (some ⟨tb, k, none⟩)]) (hp : HPicks H [(C.z.tm, true, mapO (C.tysO x.M)), (C.z.im, true, mapO (Cx.idsO x.K)), (C.z.d, false, .cells (decC C.big C.st (C.N + 1) C.z).toArray 90 (0, 0)), (C.z.sb, false, .cells [.slice (some ⟨C.b, C.off, none⟩) C.len C.cap].toArray 224 (0, 0)),
      (C.st, false, .cells #[.pointer none, .slice (some ⟨C.b, C.toff, none⟩) C.sl C.tcap, .map none] 207 (0, 0)), (C.z.ro.g, false, .cells C.z.ro.cur.toArray 3 (0, 0)), (C.z.dt, false, .map #[] 0), (C.z.lm, false, .map #[] 0), (C.b, false, C.o), (b2, true, .cells #[.pointer (some ⟨C.z.d, 0, none⟩)] 76 (0, 0)), (tb, true, .cells cs.toArray E (0, 0))] R)
    (ht : HTail R x.U T) (hm : C.miss x.M < m) (hid : id ≤ C.N) (hk : k < cs.length) (hI : C.Inv B x) (hB : ∀ b ∈ B, b ∈ cbs T0) (hc : ∀ b, b ∈ cbs T0 → b ∈ cbs ((b2, true, .cells #[.pointer (some ⟨C.z.d, 0, none⟩)] 76 (0, 0)) :: (tb, true, .cells cs.toArray E (0, 0)) :: T) := by
      intro b h
      repeat' (first | (exact h) | (rcases cbs_or h with rfl | h) | (exact cbs_hit) | (apply cbs_skip))) :
    OT ro Tryz.prog S w0 n ds H e ⟨some d, .call ⟨.value g, xs.toArray, ats⟩, ty, pos, aft, none⟩ (fun X => ∀ z : St × Value, C.Post B x id z →
      X ((d, .tuple #[]) :: e) (C.H z.1 ((b2, true, .cells #[.pointer (some ⟨C.z.d, 0, none⟩)] 76 (0, 0)) :: (tb, true, .cells (cs.set k z.2).toArray E (0, 0)) :: T))) := by
  refine O_call (val := fun _ => .tuple #[]) hd hg hx func73 rfl rfl (fun w hw => (f73_ok (S := S) (w0 := w0) hC T B x id b2 tb k cs E w hm hid hk (fun b h => hc b (hB b h)) hI ?_).mono ?_)
  · have h1 := ht.eq
    subst h1
    exact hw.perm hp.perm
  rintro r w' ⟨z, rfl, h1, h2⟩
  exact ⟨z, rfl, h1, h2⟩
end
end

section
open Go
open Tryz
set_option maxRecDepth 100000

theorem sz260 : Sz Tryz.prog 260 2 := Sz.of kr
theorem zr260 : Zr Tryz.prog 260 (.agg #[.int .u32 0, .int .u32 0]) := Zr.of kr
theorem flatMap_snoc (f : Nat → Value → List Value) {vs : List Value} {k : Nat} (h : vs.length = k) (v : Value) : ((List.range (k + 1)).flatMap fun j => f j ((vs ++ [v]).getD j undef)) = ((List.range k).flatMap fun j => f j (vs.getD j undef)) ++ f k v := by
  rw [List.range_succ, List.flatMap_append, List.flatMap_cons, List.flatMap_nil, List.append_nil]
  congr 1
  · rw [List.flatMap_def, List.flatMap_def]
    congr 1
    apply List.map_congr_left
    intro j hj
    have hj := List.mem_range.1 hj
    rw [List.getD_eq_getElem?_getD, List.getD_eq_getElem?_getD, List.getElem?_append_left om]
  rw [List.getD_eq_getElem?_getD, List.getElem?_append_right om, h]
  simp
theorem set_app {l m : List Value} {n j : Nat} {v : Value} (h : l.length = n) : (l ++ m).set (n + j) v = l ++ m.set j v := by
  rw [List.set_append_right _ _ om]
  congr 2
  omega
/-- a reader's round -/
structure Rd where
  k : Nat
  y : St
  r : Row
  vs : List Value
  u0 : Value
  u1 : Value
  u2 : Value
  o : Nat
  l : Nat
  c : Nat
/-- the cells of member j -/
def Cx.memD (C : Cx) (i j : Nat) (v : Value) : List Value := [C.sv (C.ex i (3 * j)), v, .int .u32 ((if C.fl i = 1 then C.ex i (3 * j + 2) % 2 ^ 24 else C.ex i (3 * j + 2) : Nat) : Int), .int .u32 ((if C.fl i = 1 then C.ex i (3 * j + 2) / 2 ^ 24 else 0 : Nat) : Int), .slice none 0 0]
def Cx.memsD (C : Cx) (i n : Nat) (vs : List Value) : List Value := (List.range n).flatMap fun j => C.memD i j (vs.getD j undef)
theorem Cx.memsD_snoc (C : Cx) (i : Nat) {n : Nat} {vs : List Value} (h : vs.length = n) (v : Value) : C.memsD i (n + 1) (vs ++ [v]) = C.memsD i n vs ++ C.memD i n v := flatMap_snoc (C.memD i) h v
/-- what a reader of references keeps -/
structure Cx.RdOk (C : Cx) (T : List Nat) (x : St) (m n p L cap : Nat) (ref : Nat → Nat) (st : Nat) (z : Rd) : Prop where
  kn : z.k ≤ n
  grew : C.Grew x z.y
  inv : C.Inv T z.y
  ms : C.miss z.y.M < m
  vl : z.vs.length = z.k
  rv : ∀ j v, z.vs[j]? = some v → C.Ref z.y.M (ref j) v
  ho : z.o = p + st * z.k
  hl : z.l = L - st * z.k
  hc : z.c = cap - st * z.k
theorem Cx.refs_snoc {C : Cx} {M M' : List (Nat × Nat)} {vs : List Value} {k : Nat} {ref : Nat → Nat} {v : Value} (hl : vs.length = k) (h : ∀ j v, vs[j]? = some v → C.Ref M (ref j) v) (g : ∃ A, M' = M ++ A) (hv : C.Ref M' (ref k) v) : ∀ j u, (vs ++ [v])[j]? = some u → C.Ref M' (ref j) u := by
  intro j u hu
  rcases Nat.lt_or_ge j vs.length with h1 | h1
  · rw [List.getElem?_append_left h1] at hu
    exact (h j u hu).mono g
  rw [List.getElem?_append_right h1] at hu
  have : j = k := by
    rcases Nat.lt_or_ge (j - vs.length) 1 with h2 | h2
    · omega
    rw [List.getElem?_eq_none (by simpa using h2)] at hu; cases hu
  subst this
  rw [← hl] at hu
  simp only [Nat.sub_self, List.getElem?_cons_zero, Option.some.injEq] at hu
  rw [← hu]
  exact hv

theorem f74_ok {C : Cx} (hO : CxOk C) {m : Nat} (hC : InflOk C m) {S : Nat → Prop} {w0 : World} (T : Hp) (B : List Nat) (xs : St) (i b12 b2 b8 p L cap : Nat) (hi : i < C.N) (hkd : C.kd i = 4 ∨ C.kd i = 5) (hp : p = C.off + C.pos i + 12) (hL : 12 * C.vl i ≤ L) (hLc : L ≤ cap) (hLk : 12 * C.vl i < cap) (w : World) (hm : C.miss xs.M < m) (hB : ∀ b ∈ B, b ∈ cbs T) (hI : C.Inv B xs) (hw : Holds S w0 (C.H xs ((b12, true, .cells #[.int .u32 (C.nm i : Nat), .int .u32 (C.inf i : Nat), .int .u32 (C.sz i : Nat)] 209 (0, 0)) :: (b2, true, .cells #[.pointer (some ⟨C.z.d, 0, none⟩)] 76 (0, 0)) :: (b8, true, .cells #[.func (.func 73) #[] #[.pointer (some ⟨b2, 0, none⟩)]] 251 (0, 0)) :: T)) w) :
    Calls Tryz.prog 74 #[.pointer (some ⟨b12, 0, none⟩), .slice (some ⟨C.b, p, none⟩) L cap, .pointer (some ⟨b2, 0, none⟩), .pointer (some ⟨b8, 0, none⟩)] w (fun r w' => ∃ z : St × Row × List Value, r = .returned (.tuple #[.slice (some ⟨z.2.1.g, 0, none⟩) (C.vl i) z.2.1.cap, .nilIface]) ∧ C.Grew xs z.1 ∧ C.Inv B z.1 ∧ RowOk 5 (some z.2.1) (C.vl i) (C.memsD i (C.vl i) z.2.2) ∧ z.2.2.length = C.vl i ∧ (∀ j v, z.2.2[j]? = some v → C.Ref z.1.M (C.ex i (3 * j + 1)) v) ∧ Holds S w0 ((z.2.1.g, true, .cells z.2.1.cur.toArray 99 (0, 0)) :: C.H z.1 ((b12, true, .cells #[.int .u32 (C.nm i : Nat), .int .u32 (C.inf i : Nat), .int .u32 (C.sz i : Nat)] 209 (0, 0)) :: (b2, true, .cells #[.pointer (some ⟨C.z.d, 0, none⟩)] 76 (0, 0)) :: (b8, true, .cells #[.func (.func 73) #[] #[.pointer (some ⟨b2, 0, none⟩)]] 251 (0, 0)) :: T)) w') := by
 obtain ⟨r1, r2, r3, r4, r5, r6, r7⟩ := hO.rec_ i hi
 have hinf := r4.lt
 have hv8 := hO.v8 i hi
 have h31 := hO.h31
 have hdl : dlen (C.kd i) (C.vl i) = 12 * C.vl i := by unfold dlen; rw [if_neg om, if_neg om, if_pos om]
 have hmt : ∀ j, j < C.vl i → TextAt C.o C.toff C.sl (C.ex i (3 * j)) (C.str (C.ex i (3 * j))) := fun j hj => by
   have q := hO.mtxt i hi om j hj
   rcases hkd with e | e <;> (rw [e] at q; exact q)
 have href := hO.refm i hi hkd
 refine sw_calls0 func74 rfl ntmps74 (sees4 _ _ _ _ _ rfl) hw ?_
 unfold Cx.H
 refine SR fun _ k1 => ?_
 refine Ac ?_
 refine Ac ?_
 refine SN k1 ?_
 refine SR fun _ k2 => ?_
 refine Sc (O_alloc rfl zr253 rfl) ?_
 intro bk8 _
 refine SN k2 ?_
 refine SR fun _ k3 => ?_
 refine Mo ?_
 refine Sc (O_callE (xs := [.tmp 17]) (cap := []) rfl .func (.cons (.tmp .hit) .nil) func75 rfl rfl (fun w1 hw => f75_ok _ _ _ _ hinf w1 (hw.at_ .a))) ?_
 refine Sc (O_makeSlice0 (c := C.vl i) rfl .const (.tmp .hit) rfl underlying96 inf99 om om) ?_
 intro bk19 hk19
 refine Ah ?_
 refine SN k3 ?_
 refine Ek [9, 8, 7, 6, 0, 1, 2, 3] ?_
 refine Sq fun _ k4 => ?_
 refine SR fun _ k5 => ?_
 refine Mo ?_
 refine Sc (O_callE (xs := [.tmp 20]) (cap := []) rfl .func (.cons (.tmp .hit) .nil) func75 rfl rfl (fun w1 hw => f75_ok _ _ _ _ hinf w1 (hw.at_ .a))) ?_
 refine Mc ?_
 refine SN k5 ?_
 refine Bl ?_
 refine SW_loop (α := Rd) (fun x => C.RdOk B xs m (C.vl i) p L cap (fun j => C.ex i (3 * j + 1)) 12 x ∧ RowOk 5 (some x.r) x.k (C.memsD i x.k x.vs)) (fun x => C.vl i - x.k) (fun x => (bk8, true, .cells [x.u0, x.u1, x.u2].toArray 253 (0, 0)) :: (x.r.g, true, .cells x.r.cur.toArray 99 (0, 0)) :: (C.z.tm, true, mapO (C.tysO x.y.M)) :: (C.z.im, true, mapO (Cx.idsO x.y.K)) :: (C.z.d, false, .cells (decC C.big C.st (C.N + 1) C.z).toArray 90 (0, 0)) :: (C.z.sb, false, .cells [.slice (some ⟨C.b, C.off, none⟩) C.len C.cap].toArray 224 (0, 0)) :: (C.st, false, .cells #[.pointer none, .slice (some ⟨C.b, C.toff, none⟩) C.sl C.tcap, .map none] 207 (0, 0)) :: (C.z.ro.g, false, .cells C.z.ro.cur.toArray 3 (0, 0)) :: (C.z.dt, false, .map #[] 0) :: (C.z.lm, false, .map #[] 0) :: (C.b, false, C.o) :: ((b12, true, .cells #[.int .u32 (C.nm i : Nat), .int .u32 (C.inf i : Nat), .int .u32 (C.sz i : Nat)] 209 (0, 0)) :: (b2, true, .cells #[.pointer (some ⟨C.z.d, 0, none⟩)] 76 (0, 0)) :: (b8, true, .cells #[.func (.func 73) #[] #[.pointer (some ⟨b2, 0, none⟩)]] 251 (0, 0)) :: T ++ oldH x.y.U)) (fun x => [(22, .int .i64 (x.k : Nat)), (21, .int .i64 (C.vl i : Nat)), (9, .slice (some ⟨x.r.g, 0, none⟩) x.k x.r.cap), (1, .slice (some ⟨C.b, x.o, none⟩) x.l x.c), (0, .pointer (some ⟨b12, 0, none⟩)), (2, .pointer (some ⟨b2, 0, none⟩)), (3, .pointer (some ⟨b8, 0, none⟩)), (8, .pointer (some ⟨bk8, 0, none⟩))]) ⟨0, xs, ⟨_, _, _⟩, [], _, _, _, p, L, cap⟩ ⟨⟨Nat.zero_le _, .refl _, hI, hm, rfl, fun j v h => by simp at h, by simp, by simp, by simp⟩, hk19⟩ (Ek8 rfl rfl rfl rfl rfl rfl rfl rfl) .a ?_
 rintro ⟨k, y, r, vs, u0, u1, u2, o, l, c⟩ ⟨⟨h1, h2, h3, h4, h5, h6, h7, h8, h9⟩, hr⟩
 dsimp only at h1 h2 h3 h4 h5 h6 h7 h8 h9 hr ⊢
 refine SR fun _ k6 => ?_
 refine Sc (O_binOp rfl (.tmp .hit) (.tmp (.o rfl)) (fun _ => b_lss _ _ _ _ rfl)) ?_
 refine SN k6 ?_
 refine Sq fun _ k7 => ?_
 refine Sd ?_ ?_
 ·
  refine Ci fun ht23 => ?_
  have hlt : k < C.vl i := by omega
  have hw0 : W4 C.o (o + 0) C.big (C.ex i (3 * k)) := by
    have q := hO.ex i hi (3 * k) Q31
    rw [show o + 0 = C.off + C.pos i + 12 + 4 * (3 * k) by omega]
    exact q
  have hw1 : W4 C.o (o + 4) C.big (C.ex i (3 * k + 1)) := by
    have q := hO.ex i hi (3 * k + 1) Q31
    rw [show o + 4 = C.off + C.pos i + 12 + 4 * (3 * k + 1) by omega]
    exact q
  have hw2 : W4 C.o (o + 8) C.big (C.ex i (3 * k + 2)) := by
    have q := hO.ex i hi (3 * k + 2) Q31
    rw [show o + 8 = C.off + C.pos i + 12 + 4 * (3 * k + 2) by omega]
    exact q
  refine SS k7 ?_
  refine Ek [22, 21, 9, 1, 0, 2, 3, 8] ?_
  refine Sq fun _ k8 => ?_
  refine Bl ?_
  refine SR fun _ k9 => ?_
  refine Mh ?_
  refine Ah ?_
  refine SN k9 ?_
  refine Ek [10, 22, 21, 9, 1, 0, 2, 3, 8] ?_
  refine SR fun _ k10 => ?_
  refine Mo ?_
  refine Sc (Ola oc76) ?_
  refine Sc (O_nilCheck rfl (.tmp .hit)) ?_
  refine Sc (Ofa underlying90 sz80) ?_
  refine Sc (Ola oc80) ?_
  refine Sc (O_callM (xs := [.tmp 8, .tmp 26, .tmp 30]) (cap := []) rfl .func (.cons (.tmp (.o rfl)) (.cons (.tmp (.o rfl)) (.cons (.tmp .hit) .nil))) func76 rfl rfl .a (fun w1 hw => f76_ok C.big bk8 C.b o l c C.o 253 _ _ _ (C.ex i (3 * k)) (C.ex i (3 * k + 1)) (C.ex i (3 * k + 2)) (hw.ne_pick HPick.a .a) om om hw0 hw1 hw2 w1 (hw.at_ .a) (hw.at_ .a))) ?_
  refine Mh ?_
  refine Sc Oex ?_
  refine Sc Oex ?_
  refine Ao ?_
  refine Ao ?_
  refine SN k10 ?_
  refine Ek [12, 11, 10, 22, 21, 9, 1, 0, 2, 3, 8] ?_
  refine Sq fun _ k11 => ?_
  refine SR fun _ k12 => ?_
  refine Mh ?_
  refine Sc (O_binOp rfl (.tmp .hit) .const (r := .bool false) (fun _ => rfl)) ?_
  refine SN k12 ?_
  refine Fh ?_
  refine SS k11 ?_
  refine Ek [12, 11, 10, 22, 21, 9, 1, 0, 2, 3, 8] ?_
  refine SR fun _ k13 => ?_
  refine Mo ?_
  refine Mo ?_
  refine Sc (O_sliceLo 12 rfl (.tmp (.o rfl)) (.tmp .hit) rfl underlying26 sz5 om om om) ?_
  refine Ah ?_
  refine SN k13 ?_
  refine Ek [1, 12, 10, 22, 21, 9, 0, 2, 3, 8] ?_
  refine Sq fun _ k14 => ?_
  refine Zw (Zl rfl oc76 .a rfl (Zn rfl (Zf rfl underlying90 rfl sz82 (Zl rfl oc82 .a rfl (Zf rfl underlying253 rfl sz73 (Zl rfl oc73 .a rfl (Z2 44 46 rfl rfl (fun e he => O_callE (xs := [.tmp 44, .tmp 46]) (cap := []) rfl .func (.cons (Eh he) (.cons (Eo he) .nil)) func77 rfl rfl (fun w1 hw => f77_w (hmt k hlt) hO.hne hO.hst hO.h32 w1 (hw.at_ .a) (hw.at_ .a))) (Zm rfl (Z1 40 rfl (fun e he => O_extract rfl (Eh he) rfl) (Z1 40 rfl (fun e he => O_extract rfl (Eh he) rfl) (Z1 48 rfl (fun e he => O_assign rfl (Eh he)) .done))))))))))) ?_
  refine Ao ?_
  refine SN k14 ?_
  refine Ek [12, 13, 1, 10, 22, 21, 9, 0, 2, 3, 8] ?_
  refine Sq fun _ k15 => ?_
  refine SR fun _ k16 => ?_
  refine Mh ?_
  refine Sc (O_binOp rfl (.tmp .hit) .const (r := .bool false) (fun _ => rfl)) ?_
  refine SN k16 ?_
  refine Fh ?_
  refine SS k15 ?_
  refine Ek [13, 1, 10, 22, 21, 9, 0, 2, 3, 8] ?_
  refine SR fun _ k17 => ?_
  refine Mo ?_
  refine Mo ?_
  refine Sc (Ofa underlying253 sz73) ?_
  refine Sc (Ola oc73) ?_
  refine Sc (O_build (pv := [(0, _), (2, _)]) (r := .agg #[_, .nilIface, _, .int .u32 0, .slice none 0 0]) rfl (.cons (.tmp (.o rfl)) (.cons (.tmp .hit) .nil)) (fun w => run_build w _ _ _ Q13)) ?_
  refine Sc (O_buildSlice1 rfl (.tmp .hit) underlying96 sz99 zr99 rfl rfl dc dc) ?_
  intro bk58 _
  refine Sc (O_append  rfl (.tmp (.o rfl)) (.tmp .hit) rfl underlying96 inf99 rfl dc .a1 hr .a rfl rfl om Q16 om) ?_
  intro r59 h59
  have hlen := h59.len
  refine Ah ?_
  refine SN k17 ?_
  refine Ek [9, 1, 10, 22, 21, 0, 2, 3, 8] ?_
  refine SR fun _ k18 => ?_
  refine Mh ?_
  refine Mo ?_
  refine Sc (O_indexAddr rfl (.tmp (.o rfl)) (.tmp .hit) underlying96 sz99 om (by first | omega | (simp; omega))) ?_
  rw [show 0 + ((k : Nat) : Int).toNat * 5 = k * 5 by simp]
  refine Ah ?_
  refine SN k18 ?_
  refine Ek [14, 9, 1, 22, 21, 0, 2, 3, 8] ?_
  refine Sq fun _ k19 => ?_
  refine Zw (Zl rfl oc251 .a rfl (Zf rfl underlying253 rfl sz83 (Zl rfl oc83 .a rfl (Zm rfl (Zn rfl (Zf rfl underlying99 rfl sz47 .done)))))) ?_
  refine Sc (O_fix hC (xs := [.tmp 65, .tmp 68]) rfl (.tmp (.o rfl)) (.cons (.tmp (.o rfl)) (.cons (.tmp .hit) .nil)) HPicks.a .a h4 (href k hlt) (by show k * 5 + 1 < r59.cur.length; omega) h3 hB) ?_
  rintro ⟨y1, v⟩ hz
  dsimp only [Cx.H, List.cons_append]
  refine SN k19 ?_
  refine Ek [14, 9, 1, 22, 21, 0, 2, 3, 8] ?_
  refine Sq fun _ k20 => ?_
  refine SR fun _ k21 => ?_
  refine Mo ?_
  refine Sc (O_callE (xs := [.tmp 70]) (cap := []) rfl .func (.cons (.tmp .hit) .nil) func78 rfl rfl (fun w1 hw => f78_ok _ _ _ _ hinf w1 (hw.at_ .a))) ?_
  refine SN k21 ?_
  refine Sd ?_ ?_
  ·
   refine Ci fun ht71 => ?_
   have hfl : C.fl i = 1 := by show C.inf i / 2 ^ 31 % 2 ^ 1 = 1; omega
   have hrT : RowOk 5 (some ⟨r59.g, r59.cap, ((r59.cur.set (k * 5 + 1) v).set (k * 5 + 3) (.int .u32 (C.ex i (3 * k + 2) / 2 ^ 24 : Nat))).set (k * 5 + 2) (.int .u32 (C.ex i (3 * k + 2) % 2 ^ 24 : Nat))⟩) (k + 1) (C.memsD i (k + 1) (vs ++ [v])) := (((h59.set (k * 5 + 1) v).set (k * 5 + 3) _).set (k * 5 + 2) _).eq rfl (by rw [C.memsD_snoc i h5 v, set_app hr.1, set_app hr.1, set_app hr.1, Cx.memD, if_pos hfl, if_pos hfl]; rfl)
   have hcell := ((h59.set (k * 5 + 1) v).set (k * 5 + 3) (.int .u32 (C.ex i (3 * k + 2) / 2 ^ 24 : Nat))).get (E := 99) (i := k * 5 + 2) (v := .int .u32 (C.ex i (3 * k + 2) : Nat)) (by rw [set_app hr.1, set_app hr.1, List.getElem?_append_right (by rw [hr.1]; omega), hr.1, Nat.add_sub_cancel_left]; rfl)
   refine Ek [14, 9, 1, 22, 21, 0, 2, 3, 8] ?_
   refine SR fun _ k22 => ?_
   refine Mh ?_
   refine Sc (Ofa underlying253 sz73) ?_
   refine Sc (Ola oc73) ?_
   refine Sc (O_binOp rfl (.tmp .hit) .const (fun _ => b_shr .u32 _ 24 dc _)) ?_
   refine Sc (O_nilCheck rfl (.tmp (.o rfl))) ?_
   refine Sc (Ofa underlying99 sz97) ?_
   refine Sc (O_store (.tmp .hit) (.tmp (.o rfl)) rfl sz97 .a (LSet.at (by simp only [List.length_set, List.length_set]; omega))) ?_
   refine SN k22 ?_
   refine Ek [14, 9, 1, 22, 21, 0, 2, 3, 8] ?_
   refine SR fun _ k23 => ?_
   refine Mh ?_
   refine Sc (O_nilCheck rfl (.tmp .hit)) ?_
   refine Sc (Ofa underlying99 sz97) ?_
   refine Sc (O_load rfl (.tmp .hit) oc97 .a hcell) ?_
   refine Sc (O_binOp rfl (.tmp .hit) .const (fun _ => b_and_mask (C.ex i (3 * k + 2)) 24 hw2.lt dc)) ?_
   refine Sc (O_nilCheck rfl (.tmp (.o rfl))) ?_
   refine Sc (Ofa underlying99 sz97) ?_
   refine Sc (O_store (.tmp .hit) (.tmp (.o rfl)) rfl sz97 .a (LSet.at (by simp only [List.length_set, List.length_set]; omega))) ?_
   refine SN k23 ?_
   refine Xt ?_
   refine So k8 ?_
   refine Sr ?_
   refine Sc (O_binOp rfl (.tmp (.o rfl)) .const (fun _ => b_add _ _ _ rfl oz oz)) ?_
   refine Mh ?_
   refine Sn ?_
   refine Pl1 ?_
   exact fun _ _ ha hw => ⟨⟨k + 1, y1, ⟨r59.g, r59.cap, ((r59.cur.set (k * 5 + 1) v).set (k * 5 + 3) (.int .u32 (C.ex i (3 * k + 2) / 2 ^ 24 : Nat))).set (k * 5 + 2) (.int .u32 (C.ex i (3 * k + 2) % 2 ^ 24 : Nat))⟩, vs ++ [v], _, _, _, o + 12 * 1, l - 12, c - 12⟩, Q23, ⟨⟨by show k + 1 ≤ _; omega, h2.trans hz.grew, hz.inv, Nat.lt_of_le_of_lt (Cx.miss_le hz.grew.m) h4, by simp [h5], Cx.refs_snoc h5 h6 hz.grew.m hz.ref, by show o + 12 * 1 = p + 12 * (k + 1); omega, by show l - 12 = L - 12 * (k + 1); omega, by show c - 12 = cap - 12 * (k + 1); omega⟩, hrT⟩, ha.weaken (Ek8 rfl rfl rfl rfl rfl rfl rfl rfl), hw.weaken .a⟩
  refine Ci fun ht71 => ?_
  have hfl : ¬ C.fl i = 1 := by show ¬ C.inf i / 2 ^ 31 % 2 ^ 1 = 1; omega
  have hrF : RowOk 5 (some ⟨r59.g, r59.cap, r59.cur.set (k * 5 + 1) v⟩) (k + 1) (C.memsD i (k + 1) (vs ++ [v])) := (h59.set (k * 5 + 1) v).eq rfl (by rw [C.memsD_snoc i h5 v, set_app hr.1, Cx.memD, if_neg hfl, if_neg hfl]; rfl)
  refine SS k20 ?_
  refine Ek [14, 9, 1, 22, 21, 0, 2, 3, 8] ?_
  refine Sq fun _ k24 => ?_
  refine SW_da mixed ?_
  refine Yl 0 oc76 ?_
  refine Yn 1 ?_
  refine Yf 2 underlying90 sz88 ?_
  refine Yl 3 oc88 ?_
  refine Yf 4 underlying253 sz83 ?_
  refine Yl 5 oc83 ?_
  refine Y2f 6 89 91 rfl rfl rfl .a (fun e H he hH => O_lookI (L := []) (v := .nilIface) rfl (Eh he) (Eo he) (hH.get .hit) underlying88 underlying83 zr260 Q22 (.inr ⟨by simp, rfl⟩)) ?_
  refine Ym 7 ?_
  refine Y1 8 85 rfl rfl (fun e H he hH => O_extract rfl (Eh he) rfl) ?_
  refine Y1 9 85 rfl rfl (fun e H he hH => O_extract rfl (Eh he) rfl) ?_
  refine Ys 10 ?_
  refine Cand.mk (j := 10) [] rfl .nil (fun e he => O_alloc rfl zr260 rfl) (fun _ _ h => h) kr ?_
  intro bk15 _
  refine ⟨⟨.inr .nil, .inr .nil, .inr .nil, .inr (.cons .a .nil), .inr (.cons .a .nil), .inr .nil, .inr (.cons .a .nil), .inr .nil, .inr .nil, .inr (.cons .a .nil), trivial⟩, ?_⟩
  refine Ys 11 ?_
  refine Cand.mk (j := 11) [(15, _), (93, _)] (β := Unit) (good := fun _ => True) (val := fun _ => undef) (Hf := fun _ => _) rfl (.cons (t := 15) .hit (.cons (t := 93) (.o rfl) .nil)) (fun e he => O_storeA (vs := [_, _]) (.tmp (he.get .hit)) (.tmp (he.get (.o rfl))) rfl sz260 rfl .a dc rfl) (fun _ _ h => h () trivial) kr (fun _ _ => ⟨⟨.inr .nil, .inl kr, .inl kr, .inl kr, .inl kr, .inl kr, .inl kr, .inl kr, .inl kr, .inl kr, trivial⟩, ?_⟩)
  refine Y1 12 94 rfl rfl (fun e H he hH => O_assign rfl (Eh he)) ?_
  refine Ye ?_
  refine So k24 ?_
  refine Ek [16, 15, 14, 9, 1, 22, 21, 0, 2, 3, 8] ?_
  refine SR fun _ k25 => ?_
  refine Mh ?_
  refine SN k25 ?_
  refine Fh ?_
  refine SS k8 ?_
  refine Sr ?_
  refine Sc (O_binOp rfl (.tmp (.o rfl)) .const (fun _ => b_add _ _ _ rfl oz oz)) ?_
  refine Mh ?_
  refine Sn ?_
  refine Pl1 ?_
  exact fun _ _ ha hw => ⟨⟨k + 1, y1, ⟨r59.g, r59.cap, r59.cur.set (k * 5 + 1) v⟩, vs ++ [v], _, _, _, o + 12 * 1, l - 12, c - 12⟩, Q23, ⟨⟨by show k + 1 ≤ _; omega, h2.trans hz.grew, hz.inv, Nat.lt_of_le_of_lt (Cx.miss_le hz.grew.m) h4, by simp [h5], Cx.refs_snoc h5 h6 hz.grew.m hz.ref, by show o + 12 * 1 = p + 12 * (k + 1); omega, by show l - 12 = L - 12 * (k + 1); omega, by show c - 12 = cap - 12 * (k + 1); omega⟩, hrF⟩, ha.weaken (Ek8 rfl rfl rfl rfl rfl rfl rfl rfl), hw.weaken .a⟩
 refine Ci fun ht23 => ?_
 have hke : k = C.vl i := by omega
 subst hke
 refine Xt ?_
 refine So k4 ?_
 refine Ek [9] ?_
 refine SR fun _ k26 => ?_
 refine Mh ?_
 refine Ah ?_
 refine Ac ?_
 refine SN k26 ?_
 refine Rt ?_
 refine Pl3 ?_
 exact SK_ret2 rfl (.o rfl) .hit (fun w hw => ⟨(y, r, vs), rfl, h2, h3, hr, h5, h6, hw.weaken .a⟩)
end
end Go.Proofs.YtoibhfpagkdleaaGreatDoor
