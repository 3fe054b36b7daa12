/-
  CONTRACT: the iterator over the types of a blob.
  THE CALCULUS, PART 7: rows that grow (append); calls that turn a block, with a ghost.
  FACTS ON THE ELEMENTS OF SLICES.
  THE CALCULUS, PART 8: new slices, slices of strings.
  LEMMAS FOR THE SORT OF NUMBERS (what it needs: bounds alone).
-/
import Derived.Test.YtoibhfpagkdleaaGreatDoorDa
import Derived.Maps.AppendAt
import Derived.OwnWalk
import Derived.Test.YtoibhfpagkdleaaGreatDoorFa
import Derived.Laws.MakeOwn
namespace Go.Proofs.YtoibhfpagkdleaaGreatDoor
section
open Go
open Tryz
set_option maxRecDepth 100000

theorem f64_ok {S : Nat → Prop} {w0 : World} {α : Type} (T : α → Hp) (I : Nat → α → Prop) (big : Bool) (bb bh bo hd blob off len cap l : Nat) (o : Obj) (N : Nat) (pos nm inf sz : Nat → Nat)
 (hne : hd ≠ blob) (hlc : len ≤ cap) (h62 : len < 4611686018427387904)
 (hrec : ∀ k, k < N → pos k + 12 + dlen (inf k / 2 ^ 24 % 2 ^ 5) (inf k / 2 ^ 0 % 2 ^ 16) = pos (k + 1) ∧ pos (k + 1) ≤ len ∧ W4 o (off + pos k + 0) big (nm k) ∧ W4 o (off + pos k + 4) big (inf k) ∧ W4 o (off + pos k + 8) big (sz k) ∧ inf k / 2 ^ 24 % 2 ^ 5 ≠ 0 ∧ inf k / 2 ^ 24 % 2 ^ 5 ≤ 19)
 (hp0 : pos 0 = 0) (hpN : pos N = len)
 (hy : ∀ k x, k < N → I k x → ∀ w, Holds S w0 ((bb, true, .cells #[.slice (some ⟨blob, off, none⟩) len cap] 26 (0, 0)) :: (bh, true, .cells #[.pointer (some ⟨hd, 0, none⟩)] 213 (0, 0)) :: (bo, true, .cells #[boV big] 80 (0, 0)) :: (hd, true, .cells [.int .u32 (nm k), .int .u32 (inf k), .int .u32 (sz k)].toArray 209 (0, 0)) :: (blob, false, o) :: T x) w → YieldAt (FW none) 0 Tryz.prog l [Value.int .i64 (pos k), .nilIface].toArray w fun r w' => r = .returned (.bool true) ∧ ∃ y, I (k + 1) y ∧ Holds S w0 ((bb, true, .cells #[.slice (some ⟨blob, off, none⟩) len cap] 26 (0, 0)) :: (bh, true, .cells #[.pointer (some ⟨hd, 0, none⟩)] 213 (0, 0)) :: (bo, true, .cells #[boV big] 80 (0, 0)) :: (hd, true, .cells [.int .u32 (nm k), .int .u32 (inf k), .int .u32 (sz k)].toArray 209 (0, 0)) :: (blob, false, o) :: T y) w')
 (x0 : α) (hI : I 0 x0) (u0 u1 u2 : Value) (w : World) (hw : Holds S w0 ((bb, true, .cells #[.slice (some ⟨blob, off, none⟩) len cap] 26 (0, 0)) :: (bh, true, .cells #[.pointer (some ⟨hd, 0, none⟩)] 213 (0, 0)) :: (bo, true, .cells #[boV big] 80 (0, 0)) :: (hd, true, .cells [u0, u1, u2].toArray 209 (0, 0)) :: (blob, false, o) :: T x0) w) :
 Calls Tryz.prog 64 #[.func (.yield l) #[] #[], .pointer (some ⟨bb, 0, none⟩), .pointer (some ⟨bh, 0, none⟩), .pointer (some ⟨bo, 0, none⟩)] w fun r w' => r = .returned (.tuple #[]) ∧ ∃ y v0 v1 v2, I N y ∧ Holds S w0 ((bb, true, .cells #[.slice (some ⟨blob, off, none⟩) len cap] 26 (0, 0)) :: (bh, true, .cells #[.pointer (some ⟨hd, 0, none⟩)] 213 (0, 0)) :: (bo, true, .cells #[boV big] 80 (0, 0)) :: (hd, true, .cells [v0, v1, v2].toArray 209 (0, 0)) :: (blob, false, o) :: T y) w' := by
 refine sw_calls0 func64 rfl ntmps64 (sees4 _ _ _ _ _ rfl) hw ?_
 refine SR fun _ k1 => ?_
 refine Ac ?_
 refine SN k1 ?_
 refine Bl ?_
 refine SW_loop (α := Nat × Int × α × Value × Value × Value) (fun x => x.1 ≤ N ∧ x.2.1 = ((pos x.1 : Nat) : Int) ∧ I x.1 x.2.2.1) (fun x => N - x.1) (fun x => (bb, true, .cells #[.slice (some ⟨blob, off, none⟩) len cap] 26 (0, 0)) :: (bh, true, .cells #[.pointer (some ⟨hd, 0, none⟩)] 213 (0, 0)) :: (bo, true, .cells #[boV big] 80 (0, 0)) :: (hd, true, .cells [x.2.2.2.1, x.2.2.2.2.1, x.2.2.2.2.2].toArray 209 (0, 0)) :: (blob, false, o) :: T x.2.2.1) (fun x => [(5, .int .i64 x.2.1), (0, .func (.yield l) #[] #[]), (1, .pointer (some ⟨bb, 0, none⟩)), (2, .pointer (some ⟨bh, 0, none⟩)), (3, .pointer (some ⟨bo, 0, none⟩))]) (0, 0, x0, u0, u1, u2) ⟨Nat.zero_le _, by simp [hp0], hI⟩ (Ek5 rfl rfl rfl rfl rfl) (SW_range.HSub.all _) ?_
 rintro ⟨k, p, x, h0, h1, h2⟩ ⟨hk, hp, hx⟩
 dsimp only at hk hp hx
 subst hp
 dsimp only
 refine Sq fun _ k2 => ?_
 refine SR fun _ k3 => ?_
 refine Mh ?_
 refine Sc (Ola oc26) ?_
 refine Sc (O_lenSlice rfl (.tmp .hit) underlying26 rfl) ?_
 refine Sc (O_binOp rfl (.tmp (.o rfl)) (.tmp .hit) (fun _ => b_lss _ _ _ _ rfl)) ?_
 refine SN k3 ?_
 refine SW_cond (.tmp .hit) (fun ht12 => ?_) (fun ht12 => ?_)
 ·
  have hkN : k < N := by
   have := of_decide_eq_true ht12
   rcases Nat.lt_or_ge k N with h | h
   · exact h
   have h3 : k = N := by omega
   subst h3; omega
  obtain ⟨r1, r2, r3, r4, r5, r6, r7⟩ := hrec k hkN
  refine SS k2 ?_
  refine Bl ?_
  refine Ek [5, 0, 1, 2, 3] ?_
  refine SR fun _ k4 => ?_
  refine Mh ?_
  refine Ah ?_
  refine SN k4 ?_
  refine Ek [6, 5, 0, 1, 2, 3] ?_
  refine Sq fun _ k5 => ?_
  refine SW_da mixed ?_
  refine Yl 0 oc213 ?_
  refine Yl 1 oc26 ?_
  refine Ym 2 ?_
  refine Y2 3 16 17 rfl rfl rfl (fun e H he hH => O_sliceLo (pos k) rfl (Eh he) (Eo he) rfl underlying26 sz5 om om om) ?_
  refine Yl 4 oc80 ?_
  refine Ys 5 ?_
  refine Cand.mk (j := 5) [(15, _), (18, _), (19, _)] (β := Unit) (good := fun _ => True) (val := fun _ => _) (Hf := fun _ => _) rfl (.cons (t := 15) (.o rfl) (.cons (t := 18) (.o rfl) (.cons (t := 19) .hit .nil))) (fun e he => O_callM (xs := [.tmp 15, .tmp 18, .tmp 19]) (cap := []) rfl .func (.cons (.tmp (he.get .hit)) (.cons (.tmp (he.get (.o rfl))) (.cons (.tmp (he.get (.o rfl))) .nil))) func65 rfl rfl .a (fun w hw => f65_ok big hd blob (off + pos k * 1) (len - pos k) (cap - pos k) o 209 _ _ _ (nm k) (inf k) (sz k) hne om om (by simpa using r3) (by simpa using r4) (by simpa using r5) w (hw.at_ .a) (hw.at_ .a))) (fun _ _ h => h () trivial) kr (fun _ _ => ⟨⟨.inl kr, .inl kr, .inr .nil, .inr (.cons .a .nil), .inl kr, trivial⟩, ?_⟩)
  refine Ym 6 ?_
  refine Y1 7 14 rfl rfl (fun e H he hH => O_extract rfl (Eh he) rfl) ?_
  refine Y1 8 14 rfl rfl (fun e H he hH => O_extract rfl (Eh he) rfl) ?_
  refine Y1 9 21 rfl rfl (fun e H he hH => O_assign rfl (Eh he)) ?_
  refine Y1 10 22 rfl rfl (fun e H he hH => O_assign rfl (Eh he)) ?_
  refine Ye ?_
  refine So k5 ?_
  refine Ek [8, 7, 6, 5, 0, 1, 2, 3] ?_
  refine Sq fun _ k6 => ?_
  refine SR fun _ k7 => ?_
  refine Mh ?_
  refine Sc (O_binOp rfl (.tmp .hit) .const (r := .bool false) (fun _ => rfl)) ?_
  refine SN k7 ?_
  refine Fh ?_
  refine SS k6 ?_
  refine Ek [8, 7, 6, 5, 0, 1, 2, 3] ?_
  refine SR fun _ k8 => ?_
  refine Mo ?_
  refine Mo ?_
  refine Sc (O_binOp rfl (.tmp (.o rfl)) (.tmp .hit) (fun _ => b_add _ _ ((pos k + 12 : Nat) : Int) om om om)) ?_
  refine Ah ?_
  refine SN k8 ?_
  refine Ek [5, 8, 7, 6, 0, 1, 2, 3] ?_
  refine SR fun _ k9 => ?_
  refine Sc (Ola oc213) ?_
  refine Sc (O_callE (xs := [.tmp 32]) (cap := []) rfl .func (.cons (.tmp .hit) .nil) func66 rfl rfl (fun w hw => f66_ok hd (nm k) (inf k) (sz k) r4.lt r6 r7 w (hw.at_ .a))) ?_
  refine Mh ?_
  refine Sc Oex ?_
  refine Sc Oex ?_
  refine Ao ?_
  refine Ao ?_
  refine SN k9 ?_
  refine Ek [8, 7, 5, 6, 0, 1, 2, 3] ?_
  refine Sq fun _ k10 => ?_
  refine SR fun _ k11 => ?_
  refine Mh ?_
  refine Sc (O_binOp rfl (.tmp .hit) .const (r := .bool false) (fun _ => rfl)) ?_
  refine SN k11 ?_
  refine Fh ?_
  refine SS k10 ?_
  refine Ek [7, 5, 6, 0, 1, 2, 3] ?_
  refine SR fun _ k12 => ?_
  refine Mo ?_
  refine Mo ?_
  refine Sc (O_binOp rfl (.tmp (.o rfl)) (.tmp .hit) (fun _ => b_add _ _ ((pos (k + 1) : Nat) : Int) om om om)) ?_
  refine Ah ?_
  refine SN k12 ?_
  refine Ek [5, 6, 0, 1, 2, 3] ?_
  refine Sq fun _ k13 => ?_
  refine SR fun _ k14 => ?_
  refine Mh ?_
  refine Sc (Ola oc26) ?_
  refine Sc (O_lenSlice rfl (.tmp .hit) underlying26 rfl) ?_
  refine Sc (O_binOp rfl (.tmp (.o rfl)) (.tmp .hit) (fun _ => b_gtr _ _ _ false (decide_eq_false om))) ?_
  refine SN k14 ?_
  refine Fh ?_
  refine SS k13 ?_
  refine Ek [5, 6, 0, 1, 2, 3] ?_
  refine SR fun _ k15 => ?_
  refine Mo ?_
  refine Mo ?_
  refine Sc (O_yield (xs := [.tmp 52, .const _]) rfl (.tmp (.o rfl)) (.cons (.tmp .hit) (.cons .const .nil)) (fun w hw => hy k x hkN hx w hw)) ?_
  rintro z53 hz53
  refine Sc (O_unOp rfl (.tmp .hit) (r := .bool false) (fun _ => rfl)) ?_
  refine SN k15 ?_
  refine Fh ?_
  refine Ss ?_
  refine Pl1 ?_
  exact fun _ _ ha hw => ⟨(k + 1, _, z53, _, _, _), (by show N - (k + 1) < N - k; omega), ⟨hkN, rfl, hz53⟩, ha.weaken (Ek5 rfl rfl rfl rfl rfl), hw.weaken (SW_range.HSub.all _)⟩
 have hkN : k = N := by
  have := of_decide_eq_false ht12
  rcases Nat.lt_or_ge k N with h | h
  · have := (hrec k h).1; have := (hrec k h).2.1; omega
  omega
 subst hkN
 refine Xt ?_
 refine Pl2 ?_
 exact SK_end0 (fn := Tryz.f64) rfl (fun w hw => ⟨rfl, x, _, _, _, hx, hw⟩)
end

section
open Go
open Tryz
set_option maxRecDepth 100000

/-- the block of a slice that the call owns -/
structure Row where
  g : Nat
  cap : Nat
  cur : List Value

def rowV (r : Option Row) (n : Nat) : Value := match r with | none => .slice none 0 0 | some r => .slice (some ⟨r.g, 0, none⟩) n r.cap
def rowH (E : TypeId) (r : Option Row) : Hp := match r with | none => [] | some r => [(r.g, true, .cells r.cur.toArray E (0, 0))]
def RowOk (size : Nat) (r : Option Row) (n : Nat) (xs : List Value) : Prop :=
  xs.length = n * size ∧ match r with | none => n = 0 | some r => n ≤ r.cap ∧ r.cap ≤ maxLen ∧ r.cur.length = r.cap * size ∧ r.cur.take (n * size) = xs

inductive HRowAt : Hp → TypeId → Option Row → Hp → Hp → Prop
  | tail {E : TypeId} {r : Option Row} {T : Hp} : HRowAt (rowH E r ++ T) E r [] T
  | one {E : TypeId} {g cap : Nat} {cur : List Value} {T : Hp} : HRowAt ((g, true, .cells cur.toArray E (0, 0)) :: T) E (some ⟨g, cap, cur⟩) [] T
  | skip {E : TypeId} {r : Option Row} {x : Nat × Bool × Obj} {H A T : Hp} (h : HRowAt H E r A T) : HRowAt (x :: H) E r (x :: A) T

theorem HRowAt.a {H : Hp} {E : TypeId} {r : Option Row} {A T : Hp} (h : HRowAt H E r A T := by repeat (first | apply HRowAt.tail | apply HRowAt.skip)) : HRowAt H E r A T := h
theorem HRowAt.a1 {H : Hp} {E : TypeId} {r : Option Row} {A T : Hp} (h : HRowAt H E r A T := by repeat (first | apply HRowAt.one | apply HRowAt.skip)) : HRowAt H E r A T := h
theorem HRowAt.eq {H : Hp} {E : TypeId} {r : Option Row} {A T : Hp} (h : HRowAt H E r A T) : H = A ++ (rowH E r ++ T) := by
  induction h with
  | tail => rfl
  | one => rfl
  | skip _ ih => rw [ih]; rfl

theorem cellsOf_get : ∀ (k : Nat) {o : Obj} {i : Nat} {vs : List Value}, cellsOf o i k = some vs → ∀ j u, vs[j]? = some u → cellOf o (i + j) = some u
  | 0, o, i, vs, h, j, u, hu => by simp [cellsOf] at h; subst h; simp at hu
  | k + 1, o, i, vs, h, j, u, hu => by
    simp only [cellsOf] at h
    cases hc : cellOf o i with
    | none => simp [hc] at h
    | some v =>
      cases hr : cellsOf o (i + 1) k with
      | none => simp [hc, hr] at h
      | some us =>
        simp only [hc, hr, Option.some.injEq] at h
        subst h
        cases j with
        | zero => simp at hu; subst hu; exact hc
        | succ j =>
          have := cellsOf_get k hr j u (by simpa using hu)
          rw [← this]; congr 1; omega
theorem cellsOf_length : ∀ (k : Nat) {o : Obj} {i : Nat} {vs : List Value}, cellsOf o i k = some vs → vs.length = k
  | 0, o, i, vs, h => by simp [cellsOf] at h; subst h; rfl
  | k + 1, o, i, vs, h => by
    simp only [cellsOf] at h
    cases hc : cellOf o i with
    | none => simp [hc] at h
    | some v =>
      cases hr : cellsOf o (i + 1) k with
      | none => simp [hc, hr] at h
      | some us =>
        simp only [hc, hr, Option.some.injEq] at h
        subst h
        simp [cellsOf_length k hr]

section
variable {ro : Option Nat} {P : Program} {S : Nat → Prop} {w0 : World} {n : Nat} {ds : List Deferred} {H H' : Hp} {e e' : Env} {Q : Exit → Act → World → Prop}
variable {d : Nat} {ty : TypeId} {pos : String} {aft : Array Edge} {x y : Operand} {v u : Value}

/-- a row grows: its block turns, or a new one takes its place -/
theorem Holds.grow {w w' : World} {E : TypeId} {r : Option Row} {A T : Hp} (hw : Holds S w0 H w) (hr : HRowAt H E r A T) (hg : w.grownBy w' ((r.map (·.g)))) {r' : Row}
    (hb : w'.heap[r'.g]? = some (.cells r'.cur.toArray E (0, 0))) (hwhere : r'.g = w.heap.size ∨ r.map (·.g) = some r'.g) : Holds S w0 (A ++ ((r'.g, true, .cells r'.cur.toArray E (0, 0)) :: T)) w' := by
  have he := hr.eq
  subst he
  have hin : ∀ x ∈ A ++ T, x ∈ A ++ (rowH E r ++ T) := fun x hx => by
    rcases List.mem_append.1 hx with h | h
    · exact List.mem_append_left _ h
    exact List.mem_append_right _ (List.mem_append_right _ h)
  have hnd0 : ((A ++ T).map (·.1)).Nodup := by
    refine List.Sublist.nodup ?_ hw.nodup
    refine List.Sublist.map _ (List.Sublist.append (List.Sublist.refl _) (List.sublist_append_right _ _))
  have hne : ∀ x ∈ A ++ T, r.map (·.g) ≠ some x.1 := fun x hx hh => by
    cases r with
    | none => cases hh
    | some r =>
      simp only [Option.map_some, Option.some.injEq] at hh
      have hnd := hw.nodup
      simp only [rowH, List.cons_append, List.nil_append, List.map_append, List.map_cons] at hnd
      have hp : (A.map (·.1) ++ r.g :: T.map (·.1)).Perm (r.g :: (A.map (·.1) ++ T.map (·.1))) := List.perm_middle
      have := (hp.nodup_iff.1 hnd)
      rw [List.nodup_cons] at this
      refine this.1 ?_
      rw [← List.map_append]
      exact List.mem_map.2 ⟨x, hx, hh.symm⟩
  have hne' : ∀ x ∈ A ++ T, x.1 ≠ r'.g := fun x hx hh => by
    rcases hwhere with h | h
    · have := hw.lt (hin x hx)
      omega
    exact hne x hx (by rw [h, hh])
  refine ⟨hw.ext.trans (S' := fun i => r.map (·.g) = some i) ⟨hg.os, hg.tape, hg.output, hg.size, fun k hk hn => hg.block k hk (fun hh => hn hh.symm)⟩ (fun i hi hh => ?_), ?_, fun x hx => ?_⟩
  · cases r with
    | none => cases hh
    | some r =>
      simp only [Option.map_some, Option.some.injEq] at hh
      subst hh
      rcases (hw.has (r.g, true, .cells r.cur.toArray E (0, 0)) (by simp [rowH])).2 rfl with h | h
      · simp only at h; omega
      exact h
  · rw [List.map_append, List.map_cons]
    have hp : (A.map (·.1) ++ r'.g :: T.map (·.1)).Perm (r'.g :: (A.map (·.1) ++ T.map (·.1))) := List.perm_middle
    refine hp.nodup_iff.2 ?_
    rw [List.nodup_cons, ← List.map_append]
    refine ⟨fun hm => ?_, hnd0⟩
    obtain ⟨x, hx, hh⟩ := List.mem_map.1 hm
    exact hne' x hx hh
  rcases List.mem_append.1 hx with hx | hx
  · have h1 := hw.has x (List.mem_append_left _ hx)
    exact ⟨(hg.block x.1 (hw.lt (List.mem_append_left _ hx)) (fun hh => hne x (List.mem_append_left _ hx) hh.symm)).trans h1.1, h1.2⟩
  rcases List.mem_cons.1 hx with rfl | hx
  · refine ⟨hb, fun _ => ?_⟩
    rcases hwhere with h | h
    · exact Or.inl (by simp only [h]; exact hw.ext.size)
    cases r with
    | none => cases h
    | some r =>
      simp only [Option.map_some, Option.some.injEq] at h
      rw [← h]
      exact (hw.has (r.g, true, .cells r.cur.toArray E (0, 0)) (by simp [rowH])).2 rfl
  have hx' : x ∈ A ++ (rowH E r ++ T) := List.mem_append_right _ (List.mem_append_right _ hx)
  have h1 := hw.has x hx'
  exact ⟨(hg.block x.1 (hw.lt hx') (fun hh => hne x (List.mem_append_right _ hx) hh.symm)).trans h1.1, h1.2⟩

theorem rowV_own (r : Option Row) (k : Nat) : (rowV r k).ownBlock = r.map (·.g) := by cases r <;> rfl

theorem RowOk.owns {w : World} {E : TypeId} {size k : Nat} {r : Option Row} {xs : List Value} {A T : Hp} (h : RowOk size r k xs) (hr : HRowAt H E r A T) (hw : Holds S w0 H w) : w.ownsRow 0 E size (rowV r k) k xs := by
  refine ⟨h.1, ?_⟩
  cases r with
  | none => exact Or.inl ⟨rfl, h.2⟩
  | some r =>
    obtain ⟨h0, h1, h2, h3, h4⟩ := h
    refine Or.inr ⟨r.g, r.cap, r.cur.toArray, rfl, Nat.zero_le _, ?_, h1, h2, by simpa using h3, by simpa using h4⟩
    have := hr.eq
    subst this
    exact (hw.has (r.g, true, .cells r.cur.toArray E (0, 0)) (by simp [rowH])).1

theorem ownsRow_out {w : World} {E : TypeId} {size k : Nat} {v' : Value} {xs : List Value} (h : w.ownsRow 0 E size v' k xs) (hv : v' ≠ .slice none 0 0) :
    ∃ r' : Row, v' = rowV (some r') k ∧ RowOk size (some r') k xs ∧ w.heap[r'.g]? = some (.cells r'.cur.toArray E (0, 0)) := by
  obtain ⟨h0, h | ⟨g, cap, cur, rfl, _, hg, h1, h2, h3, h4⟩⟩ := h
  · exact absurd h.1 hv
  exact ⟨⟨g, cap, cur.toList⟩, rfl, ⟨h0, h1, h2, by simpa using h3, h4⟩, by simpa using hg⟩

/-- append of a slice's cells -/
theorem O_appendO {t E : TypeId} {z : Value} {size bytes k m c : Nat} {r : Option Row} {A T : Hp} {xs news : List Value} {ba oa : Nat} {f : Bool} {o : Obj} {ats : Array TypeId} (hd : Nat.blt d n = true) (hx : Ev e x (rowV r k)) (hy : Ev e y (.slice (some ⟨ba, oa, none⟩) m c))
    (hat : ats = #[t, t]) (ht : P.underlying t = some (.slice E)) (hi : (P.info? E).map (fun i => (i.zero, i.size, i.bytes)) = some (some z, size, bytes)) (hzs : z.cells.size = size) (hsz : 0 < size)
    (hr : HRowAt H E r A T) (hok : RowOk size r k xs) (hm : HMem H ba f o) (hn : cellsOf o oa (m * size) = some news) (h1 : news.all (·.oneCell') = true) (hm0 : 0 < m) (hmax : k + m ≤ maxLen) (hby : (k + m) * bytes ≤ 140737488355328) :
    OT ro P S w0 n ds H e ⟨some d, .call ⟨.builtin .append, #[x, y], ats⟩, ty, pos, aft, none⟩
      (fun X => ∀ r' : Row, RowOk size (some r') (k + m) (xs ++ news) → X ((d, rowV (some r') (k + m)) :: e) (A ++ ((r'.g, true, .cells r'.cur.toArray E (0, 0)) :: T))) := by
  subst hat
  refine OT_run (α := Row) (val := fun r' => rowV (some r') (k + m)) (Hf := fun r' => A ++ ((r'.g, true, .cells r'.cur.toArray E (0, 0)) :: T)) (good := fun r' => RowOk size (some r') (k + m) (xs ++ news)) hd (fun _ h => by cases h) fun a w ha hw => ?_
  obtain ⟨i, hi1, hi2, hi3, hi4⟩ := info_parts hi
  obtain ⟨v', w', hrun, hown, hg, hnil, hwhere⟩ := run_append_own_at (P := P) w 0 t ty E i z size bytes ht hi1 hi2 hi3 hi4 hzs hsz (rowV r k) k xs (hok.owns hr hw) ⟨ba, oa, none⟩ m c news (cellsOf_length _ hn)
    (fun j u hu => by rw [add_none]; exact cell_of_obj (hw.at_ hm) (cellsOf_get _ hn j u hu)) (fun u hu => by simpa using List.all_eq_true.1 h1 u hu) hmax hby (Nat.zero_le _)
  have hv' : v' ≠ .slice none 0 0 := fun hh => by have := (hnil.1 hh).2; omega
  obtain ⟨r', rfl, hok', hb'⟩ := ownsRow_out hown hv'
  rw [rowV_own, rowV_own] at hwhere
  rw [rowV_own] at hg
  refine ⟨r', w', ?_, hok', hw.grow hr hg hb' ?_⟩
  · simp only [execOp, resolve, invoke, builtin, Sem.run_bind, Sem.run_pure, Result.andThen_ok, List.map_toArray, List.map_cons, List.map_nil, ha.ev hx, ha.ev hy, hrun]
  rcases hwhere with h | h
  · exact Or.inr h.symm
  simp only [Option.map_some, Option.some.injEq] at h; exact Or.inl h

theorem O_append {t E : TypeId} {z : Value} {size bytes k m c g cap : Nat} {cur : List Value} {A T : Hp} {xs news : List Value} {ba oa : Nat} {f : Bool} {o : Obj} {ats : Array TypeId} (hd : Nat.blt d n = true) (hx : Ev e x (.slice (some ⟨g, 0, none⟩) k cap)) (hy : Ev e y (.slice (some ⟨ba, oa, none⟩) m c))
    (hat : ats = #[t, t]) (ht : P.underlying t = some (.slice E)) (hi : (P.info? E).map (fun i => (i.zero, i.size, i.bytes)) = some (some z, size, bytes)) (hzs : z.cells.size = size) (hsz : 0 < size)
    (hr : HRowAt H E (some ⟨g, cap, cur⟩) A T) (hok : RowOk size (some ⟨g, cap, cur⟩) k xs) (hm : HMem H ba f o) (hn : cellsOf o oa (m * size) = some news) (h1 : news.all (·.oneCell') = true) (hm0 : 0 < m) (hmax : k + m ≤ maxLen) (hby : (k + m) * bytes ≤ 140737488355328) :
    OT ro P S w0 n ds H e ⟨some d, .call ⟨.builtin .append, #[x, y], ats⟩, ty, pos, aft, none⟩
      (fun X => ∀ r' : Row, RowOk size (some r') (k + m) (xs ++ news) → X ((d, .slice (some ⟨r'.g, 0, none⟩) (k + m) r'.cap) :: e) (A ++ ((r'.g, true, .cells r'.cur.toArray E (0, 0)) :: T))) :=
  O_appendO (r := some ⟨g, cap, cur⟩) hd hx hy hat ht hi hzs hsz hr hok hm hn h1 hm0 hmax hby

/-- a call that turns one block of the list, with a ghost -/
theorem O_callG {β : Type} {f : FuncId} {g : Operand} {xs : List Operand} {vs cap : List Value} {ats : Array TypeId} {b : Nat} {o : Obj} {val : β → Value} {obj : β → Obj} {good : β → Prop} {A T : Hp} (hd : Nat.blt d n = true)
    (hg : Ev e g (.func (.func f) #[] cap.toArray)) (hx : Evs e xs vs) {fn : Func} (hf : P.funcs[f]? = some fn) (hb : fn.body.isNone = false) (hnm : (fn.name == "runtime.NumGoroutine") = false)
    (hs : ∀ o', HSet H b o o' (A ++ ((b, true, o') :: T)))
    (h : ∀ w, Holds S w0 H w → Calls P f (vs ++ cap).toArray w fun r w' => ∃ z, r = .returned (val z) ∧ good z ∧ Ext (· = b) w w' ∧ w'.heap[b]? = some (obj z)) :
    OT ro P S w0 n ds H e ⟨some d, .call ⟨.value g, xs.toArray, ats⟩, ty, pos, aft, none⟩ (fun X => ∀ z, good z → X ((d, val z) :: e) (A ++ ((b, true, obj z) :: T))) := by
  refine O_call hd hg hx hf hb hnm (fun w hw => (h w hw).mono ?_)
  rintro r w' ⟨z, rfl, hz, he, ho⟩
  exact ⟨z, rfl, hz, hw.turn (hs _) he ho⟩

/-- the place of a block in the list -/
inductive HAt : Hp → Nat → Obj → Hp → Hp → Prop
  | hit {b : Nat} {o : Obj} {T : Hp} : HAt ((b, true, o) :: T) b o [] T
  | skip {b : Nat} {o : Obj} {x : Nat × Bool × Obj} {H A T : Hp} (h : HAt H b o A T) : HAt (x :: H) b o (x :: A) T
theorem HAt.a {H : Hp} {b : Nat} {o : Obj} {A T : Hp} (h : HAt H b o A T := by repeat (first | apply HAt.hit | apply HAt.skip)) : HAt H b o A T := h
theorem HAt.set {b : Nat} {o : Obj} {A T : Hp} (h : HAt H b o A T) (o' : Obj) : HSet H b o o' (A ++ ((b, true, o') :: T)) := by
  induction h with
  | hit => exact .hit
  | skip _ ih => exact .skip ih
end
end

section
open Go
open Tryz
set_option maxRecDepth 100000

theorem inf3 : (Tryz.prog.info? 3).map (fun i => (i.zero, i.size, i.bytes)) = some (some (.int .i64 0), 1, 8) := by kernel_rfl
theorem inf5 : (Tryz.prog.info? 5).map (fun i => (i.zero, i.size, i.bytes)) = some (some (.int .u8 0), 1, 1) := by kernel_rfl
theorem inf9 : (Tryz.prog.info? 9).map (fun i => (i.zero, i.size, i.bytes)) = some (some (.string ⟨#[]⟩), 1, 16) := by kernel_rfl
theorem inf32 : (Tryz.prog.info? 32).map (fun i => (i.zero, i.size, i.bytes)) = some (some (.agg #[(.int .i64 0), (.string ⟨#[]⟩), (.int .i64 0), (.int .i64 0), (.int .i64 0), (.int .i64 0), (.int .i64 0), (.slice none 0 0)]), 8, 88) := by kernel_rfl
theorem inf58 : (Tryz.prog.info? 58).map (fun i => (i.zero, i.size, i.bytes)) = some (some (.slice none 0 0), 1, 24) := by kernel_rfl
theorem inf64 : (Tryz.prog.info? 64).map (fun i => (i.zero, i.size, i.bytes)) = some (some (.agg #[(.string ⟨#[]⟩), (.int .i64 0), (.int .i64 0), (.int .i64 0), (.int .i64 0)]), 5, 48) := by kernel_rfl
theorem inf73 : (Tryz.prog.info? 73).map (fun i => (i.zero, i.size, i.bytes)) = some (some (.int .u32 0), 1, 4) := by kernel_rfl
theorem inf80 : (Tryz.prog.info? 80).map (fun i => (i.zero, i.size, i.bytes)) = some (some (.nilIface), 1, 16) := by kernel_rfl
theorem inf83 : (Tryz.prog.info? 83).map (fun i => (i.zero, i.size, i.bytes)) = some (some (.int .u32 0), 1, 4) := by kernel_rfl
theorem inf99 : (Tryz.prog.info? 99).map (fun i => (i.zero, i.size, i.bytes)) = some (some (.agg #[(.string ⟨#[]⟩), .nilIface, (.int .u32 0), (.int .u32 0), (.slice none 0 0)]), 5, 64) := by kernel_rfl
theorem inf121 : (Tryz.prog.info? 121).map (fun i => (i.zero, i.size, i.bytes)) = some (some (.agg #[(.string ⟨#[]⟩), (.int .u64 0)]), 2, 24) := by kernel_rfl
theorem inf146 : (Tryz.prog.info? 146).map (fun i => (i.zero, i.size, i.bytes)) = some (some (.agg #[(.string ⟨#[]⟩), .nilIface]), 2, 32) := by kernel_rfl
theorem inf156 : (Tryz.prog.info? 156).map (fun i => (i.zero, i.size, i.bytes)) = some (some (.agg #[.nilIface, (.int .u32 0), (.int .u32 0)]), 3, 24) := by kernel_rfl
theorem inf246 : (Tryz.prog.info? 246).map (fun i => (i.zero, i.size, i.bytes)) = some (some (.int .u64 0), 1, 8) := by kernel_rfl
end

section
open Go
open Tryz
set_option maxRecDepth 100000

section
variable {ro : Option Nat} {P : Program} {S : Nat → Prop} {w0 : World} {n : Nat} {ds : List Deferred} {H H' : Hp} {e e' : Env} {Q : Exit → Act → World → Prop}
variable {d : Nat} {ty : TypeId} {pos : String} {aft : Array Edge} {x y : Operand} {v u : Value}

/-- a new slice -/
theorem O_makeSlice {T E : TypeId} {z : Value} {size bytes l c : Nat} {kl kc : IntKind} {il ic : Int} (hd : Nat.blt d n = true) (hx : Ev e x (.int kl il)) (hy : Ev e y (.int kc ic)) (hil : il = (l : Int)) (hic : ic = (c : Int)) (hT : P.underlying T = some (.slice E))
    (hi : (P.info? E).map (fun i => (i.zero, i.size, i.bytes)) = some (some z, size, bytes)) (hlc : l ≤ c) (hby : bytes * c ≤ 281474976710656) (hc : c ≤ 9223372036854775807) :
    OT ro P S w0 n ds H e ⟨some d, .makeSlice T x y, ty, pos, aft, none⟩
      (fun X => ∀ b : Nat, True → X ((d, .slice (some ⟨b, 0, none⟩) l c) :: e) ((b, true, .cells (madeCells z.cells (c * size)) E (0, 0)) :: H)) :=
  OT_run (val := fun b : Nat => .slice (some ⟨b, 0, none⟩) l c) (Hf := fun b => (b, true, .cells (madeCells z.cells (c * size)) E (0, 0)) :: H) (good := fun _ => True) hd (fun _ h => by cases h) fun a w ha hw => by
    subst hil hic
    obtain ⟨i, hi1, hi2, hi3, hi4⟩ := info_parts hi
    have hr := run_make (P := P) (w := w) T E i z hT hi1 hi2 kl kc (l : Int) (c : Int) om om (by rw [hi4, ← Int.natCast_mul]; generalize bytes * c = q at hby ⊢; omega) om
    refine ⟨w.heap.size, _, ?_, trivial, hw.new _⟩
    simp only [execOp, ha.ev hx, ha.ev hy]
    rw [Sem.run_bind, hr, hi3]
    rfl
/-- an empty one, with room -/
theorem O_makeSlice0 {T E : TypeId} {z : Value} {size bytes c : Nat} {kl kc : IntKind} {ic : Int} (hd : Nat.blt d n = true) (hx : Ev e x (.int kl 0)) (hy : Ev e y (.int kc ic)) (hic : ic = (c : Int) := by rfl) (hT : P.underlying T = some (.slice E))
    (hi : (P.info? E).map (fun i => (i.zero, i.size, i.bytes)) = some (some z, size, bytes)) (hby : bytes * c ≤ 281474976710656) (hc : c ≤ 9223372036854775807) :
    OT ro P S w0 n ds H e ⟨some d, .makeSlice T x y, ty, pos, aft, none⟩
      (fun X => ∀ b : Nat, RowOk size (some ⟨b, c, (madeCells z.cells (c * size)).toList⟩) 0 [] → X ((d, .slice (some ⟨b, 0, none⟩) 0 c) :: e) ((b, true, .cells (madeCells z.cells (c * size)).toList.toArray E (0, 0)) :: H)) := by
  intro K Q hC
  refine O_makeSlice (l := 0) hd hx hy rfl hic hT hi (Nat.zero_le _) hby hc K Q fun b _ => ?_
  exact hC b ⟨by simp, Nat.zero_le _, hc, by simp [size_madeCells], by simp⟩

/-- a part of a string -/
theorem O_sliceStr {s : ByteArray} {k k' : IntKind} {i i' : Int} {a : Operand} (l h : Nat) (hd : Nat.blt d n = true) (hx : Ev e x (.string s)) (hy : Ev e y (.int k i)) (hz : Ev e a (.int k' i')) (hi : i = (l : Int)) (hi' : i' = (h : Int)) (h1 : l ≤ h) (h2 : h ≤ s.size) {T : TypeId} (hT : P.underlying T = some .string := by rfl) :
    OT ro P S w0 n ds H e ⟨some d, .slice T x (some y) (some a) none, ty, pos, aft, none⟩ (fun X => X ((d, .string (s.extract l h)) :: e) H) :=
  OT_pure hd (fun _ h => by cases h) fun a w ha _ => by
    subst hi hi'
    simp [execOp, ha.ev hx, ha.ev hy, ha.ev hz, Instr.sliceAt, Instr.slice, run_underlying hT, Instr.sliceBounds, Instr.sliceBound, asIntOf, h1, h2]
end

/-! ### calls that turn a part of the list -/
inductive HPicks : Hp → Hp → Hp → Prop
  | nil {H : Hp} : HPicks H [] H
  | cons {x : Nat × Bool × Obj} {H H1 A T : Hp} (h : HPick H x H1) (t : HPicks H1 A T) : HPicks H (x :: A) T
theorem HPicks.perm {H A T : Hp} (h : HPicks H A T) : H.Perm (A ++ T) := by
  induction h with
  | nil => exact List.Perm.refl _
  | cons h _ ih => exact h.perm.trans (ih.cons _)

section
variable {ro : Option Nat} {P : Program} {S : Nat → Prop} {w0 : World} {n : Nat} {ds : List Deferred} {H H' : Hp} {e e' : Env}
variable {d : Nat} {ty : TypeId} {pos : String} {aft : Array Edge} {x y : Operand} {v u : Value}
theorem O_callP {β : Type} {f : FuncId} {g : Operand} {xs : List Operand} {vs cap : List Value} {ats : Array TypeId} {val : β → Value} {good : β → Prop} {A T : Hp} {A' : β → Hp} (hd : Nat.blt d n = true)
    (hg : Ev e g (.func (.func f) #[] cap.toArray)) (hx : Evs e xs vs) {fn : Func} (hf : P.funcs[f]? = some fn) (hb : fn.body.isNone = false) (hnm : (fn.name == "runtime.NumGoroutine") = false)
    (hp : HPicks H A T)
    (h : ∀ w, Holds S w0 (A ++ T) w → Calls P f (vs ++ cap).toArray w fun r w' => ∃ z, r = .returned (val z) ∧ good z ∧ Holds S w0 (A' z ++ T) w') :
    OT ro P S w0 n ds H e ⟨some d, .call ⟨.value g, xs.toArray, ats⟩, ty, pos, aft, none⟩ (fun X => ∀ z, good z → X ((d, val z) :: e) (A' z ++ T)) :=
  O_call hd hg hx hf hb hnm (fun w hw => h w (hw.perm hp.perm))

theorem Fresh.of_ext {w w' : World} (h : Ext noS w w') : Fresh w [] w' := ⟨h, by simp, fun _ hx => by cases hx⟩

theorem fold_cells : ∀ (L : List Value) (k : Nat) (a : List Value), k + L.length ≤ a.length →
    ((L.zipIdx k).foldl (fun (cs : Array Value) (p : Value × Nat) => cs.setIfInBounds (0 + p.2) p.1) a.toArray) = (a.take k ++ L ++ a.drop (k + L.length)).toArray
  | [], k, a, h => by simp
  | c :: L, k, a, h => by
    simp only [List.length_cons] at h
    have hlt : k < a.length := by omega
    rw [List.zipIdx_cons, List.foldl_cons, Nat.zero_add, List.setIfInBounds_toArray]
    rw [fold_cells L (k + 1) (a.set k c) Q47]
    congr 1
    have e1 : (a.set k c).take (k + 1) = a.take k ++ [c] := by
      rw [List.take_succ_eq_append_getElem (by simpa using hlt), List.take_set_of_le (Nat.le_refl _)]
      simp
    have e2 : (a.set k c).drop (k + 1 + L.length) = a.drop (k + (c :: L).length) := by
      rw [List.drop_set_of_lt om]
      congr 1
      simp; omega
    rw [e1, e2]
    simp

theorem fill_one {s : Nat} {z0 : Array Value} {v : Value} (h : v.cells.size = s) (hz : z0.size = s) : Instr.fill (fun i => some (i * s, s)) z0 [(0, v)] = some v.cells := by
  have hf := fold_cells v.cells.toList 0 z0.toList (by simp [h, hz])
  simp only [Instr.fill, Nat.zero_mul, h, ne_eq, not_true_eq_false, decide_false, Nat.zero_add, hz, gt_iff_lt, Nat.lt_irrefl, Bool.or_self, Bool.false_eq_true, if_false, Option.some.injEq]
  rw [← Array.foldl_toList, Array.toList_zipIdx]
  simp only [Nat.zero_add, List.take_zero, List.nil_append, Array.length_toList, h, Array.toArray_toList] at hf ⊢
  rw [hf, List.drop_eq_nil_of_le (by simp [hz])]
  simp

/-- a slice of one element -/
theorem O_buildSlice1 {T E : TypeId} {s : Nat} {v z : Value} {cs : Array Value} (hd : Nat.blt d n = true) (hx : Ev e x v) (hT : P.underlying T = some (.slice E)) (hs : Sz P E s) (hz : Zr P E z) (hc : v.cells = cs) (hcs : cs.size = s)
    (hle : s ≤ 2 ^ 24) (hne : s ≠ 0) :
    OT ro P S w0 n ds H e ⟨some d, .buildSlice T 1 #[(0, x)], ty, pos, aft, none⟩ (fun X => ∀ b : Nat, True → X ((d, .slice (some ⟨b, 0, none⟩) 1 1) :: e) ((b, true, .cells cs E (0, 0)) :: H)) := by
  subst hc
  exact O_buildSlice (m := 1) (ps := [(0, x)]) (pv := [(0, v)]) hd (.cons hx .nil) hT hs hz om om (by rw [Nat.one_mul]; exact fill_one hcs Q22)
end

theorem b_eqlStr {P : Program} {w : World} {T : TypeId} {x y : Operand} (a b : ByteArray) (t : Bool) (h : (a.toList == b.toList) = t) :
    (do eqGuard .eql T x y (.string a) (.string b); binOp .eql T (.string a) (.string b) : Sem Value).run P w = .ok (.bool t) w := by
  subst h
  simp [eqGuard, binOp, Op.stringOp]

theorem made_u64 (k : Nat) : (madeCells (Value.int .u64 0).cells k).toList = ((List.replicate k (0 : Int)).map (.int .u64 ·)) := by
  apply List.ext_getElem
  · simp [madeCells]
  intro i h1 h2
  simp [madeCells, Value.cells, Nat.mod_one]
end

section
open Go
open Tryz
set_option maxRecDepth 100000

abbrev u64o (l : List Int) (rest : List Value) : Obj := .cells (l.map (fun z => Value.int .u64 z) ++ rest).toArray 246 (0, 0)

theorem rd {l : List Int} {rest : List Value} (q : Nat) (hq : q < l.length) : cellOf (u64o l rest) q = some (.int .u64 (l.getD q 0)) := by
  simp only [cellOf]
  rw [List.getElem?_append_left (by simpa using hq), List.getElem?_map]
  simp [List.getD, List.getElem?_eq_getElem hq]

theorem LSet.of (l : List Value) (i : Nat) (v : Value) (h : i < l.length) : LSet l i v (l.set i v) := by
  induction l generalizing i with
  | nil => simp at h
  | cons u l ih =>
    cases i with
    | zero => exact .hit
    | succ i => exact .skip (ih i Q48)
theorem ls {l : List Int} {rest : List Value} {z : Int} (q : Nat) (hq : q < l.length) : LSet (l.map (fun z => Value.int .u64 z) ++ rest) q (.int .u64 z) ((l.set q z).map (fun z => Value.int .u64 z) ++ rest) := by
  have := LSet.of (l.map (fun z => Value.int .u64 z) ++ rest) q (.int .u64 z) Q47
  rw [List.set_append_left _ _ (by simpa using hq)] at this
  rwa [List.map_set]

theorem Calls.turned {P : Program} {f : FuncId} {args : Array Value} {w : World} {R R' : Ending → World → Prop} (h : Calls P f args w R) (hh : ∀ r w', R r w' → R' r w') : Calls P f args w R' := h.mono fun {r w'} => hh r w'

theorem Holds.ne_of {S : Nat → Prop} {w0 w : World} {b c : Nat} {f g : Bool} {o p : Obj} {T : Hp} (hw : Holds S w0 ((b, f, o) :: T) w) (_ : HMem ((b, f, o) :: T) b f o) (h : HMem T c g p) : b ≠ c := fun e => by
  have hn := hw.nodup
  rw [List.map_cons, List.nodup_cons] at hn
  exact hn.1 (List.mem_map.2 ⟨_, h.mem, e.symm⟩)

theorem sees5 (v0 v1 v2 v3 v4 : Value) (n : Nat) (hn : Nat.ble 5 n = true) : Sees n [] [(0, v0), (1, v1), (2, v2), (3, v3), (4, v4)] { tmps := #[v0, v1, v2, v3, v4] ++ Array.replicate (n - #[v0, v1, v2, v3, v4].size) undef, defers := [] } :=
  sees_args [v0, v1, v2, v3, v4] n Q42 _ fun t v g => by
    cases g with
    | hit => rfl
    | skip _ g => cases g with
      | hit => rfl
      | skip _ g => cases g with
        | hit => rfl
        | skip _ g => cases g with
          | hit => rfl
          | skip _ g => cases g with
            | hit => rfl
            | skip _ g => cases g

def blen (x : Nat) : Nat := if x = 0 then 0 else Nat.log2 x + 1
theorem fin41 {p : Nat → Prop} (h : ∀ i : Fin 41, p i.val) (x : Nat) (hx : x < 41) : p x := h ⟨x, hx⟩
theorem len8_at (s : ByteArray) (h : ∀ i : Fin 41, s[i.val]? = some (UInt8.ofNat (blen i.val))) (x : Nat) (hx : x < 41) : s[x]? = some (UInt8.ofNat (blen x)) := h ⟨x, hx⟩
theorem blen_le : ∀ i : Fin 41, blen i.val ≤ 6 ∧ (1 ≤ i.val → 2 ^ blen i.val ≤ 2 * i.val) := by decide

/-- several roads to the place behind a statement -/
theorem SW_join {ro : Option Nat} {P : Program} {S : Nat → Prop} {w0 : World} {n : Nat} {ds : List Deferred} {H : Hp} {e : Env} {Q : Exit → Act → World → Prop} {c : Code} {α : Type} (good : α → Prop) (Hf : α → Hp) (ef : α → Env)
    (h2 : ∀ z, good z → SK S w0 n ds (Hf z) (ef z) (Q .normal)) (h1 : (∀ z, good z → SK S w0 n ds (Hf z) (ef z) (Q .normal)) → SW ro P S w0 n ds H e c Q) : SW ro P S w0 n ds H e c Q := h1 h2

/-- bits of one number that another one lets through -/
def andv (z : Int) (m : Nat) : Nat := (BitVec.ofInt 64 z &&& BitVec.ofInt 64 (m : Int)).toNat
theorem andv_le (z : Int) (m : Nat) (hm : m < 18446744073709551616) : andv z m ≤ m := by
  unfold andv
  rw [BitVec.toNat_and]
  refine Nat.le_trans Nat.and_le_right ?_
  simp
  omega
section
variable {P : Program} {w : World} {T : TypeId} {x y : Operand}
theorem b_and_u64 (z : Int) (m : Nat) : (do eqGuard .and T x y (.int .u64 z) (.int .u64 m); binOp .and T (.int .u64 z) (.int .u64 m) : Sem Value).run P w = .ok (.int .u64 ((andv z m : Nat) : Int)) w := by
  have h1 : (IntKind.u64.wrap ((andv z m : Nat) : Int)) = ((andv z m : Nat) : Int) := by
    refine wrap_u64 _ ?_
    unfold andv
    exact (BitVec.ofInt 64 z &&& BitVec.ofInt 64 (m : Int)).isLt
  have h2 : (binOp .and T (.int .u64 z) (.int .u64 m)).run P w = .ok (.int .u64 (IntKind.u64.wrap ((andv z m : Nat) : Int))) w := rfl
  rw [h1] at h2
  have h3 : (eqGuard .and T x y (.int .u64 z) (.int .u64 m)).run P w = .ok () w := rfl
  rw [Sem.run_bind, h3]
  exact h2
theorem b_sub_u64 (a b : Nat) (h : b ≤ a) (ha : a < 18446744073709551616) :
    (do eqGuard .sub T x y (.int .u64 a) (.int .u64 b); binOp .sub T (.int .u64 a) (.int .u64 b) : Sem Value).run P w = .ok (.int .u64 ((a - b : Nat) : Int)) w := by
  have h1 : (IntKind.u64.wrap ((a : Int) - b)) = ((a - b : Nat) : Int) := by
    rw [show (a : Int) - b = ((a - b : Nat) : Int) by omega]
    exact wrap_u64 _ om
  have h2 : (binOp .sub T (.int .u64 a) (.int .u64 b)).run P w = .ok (.int .u64 (IntKind.u64.wrap ((a : Int) - b))) w := rfl
  rw [h1] at h2
  have h3 : (eqGuard .sub T x y (.int .u64 a) (.int .u64 b)).run P w = .ok () w := rfl
  rw [Sem.run_bind, h3]
  exact h2
theorem b_quo (a b c : Int) (hb : b ≠ 0) (hc : Int.tdiv a b = c) (h0 : -9223372036854775808 ≤ c) (h1 : c < 9223372036854775808) :
    (do eqGuard .quo T x y (.int .i64 a) (.int .i64 b); binOp .quo T (.int .i64 a) (.int .i64 b) : Sem Value).run P w = .ok (.int .i64 c) w := by
  subst hc
  have h3 : (eqGuard .quo T x y (.int .i64 a) (.int .i64 b)).run P w = .ok () w := rfl
  rw [Sem.run_bind, h3]
  simp [binOp, Op.intDiv, hb, wrap_i64 _ h0 h1]
theorem b_quoN (a b : Int) (ha : 0 ≤ a) (hb : 0 < b) (h1 : a < 9223372036854775808) :
    (do eqGuard .quo T x y (.int .i64 a) (.int .i64 b); binOp .quo T (.int .i64 a) (.int .i64 b) : Sem Value).run P w = .ok (.int .i64 (a / b)) w := by
  have h2 : 0 ≤ a / b := Int.ediv_nonneg ha om
  have h3 : a / b ≤ a := Int.ediv_le_self _ ha
  exact b_quo a b (a / b) om (Int.tdiv_eq_ediv_of_nonneg ha) om om
end
end
end Go.Proofs.YtoibhfpagkdleaaGreatDoor
