/-
  A CALCULUS FOR THE WALK: what is known of a frame is a list of slots (Env), what is known of the heap is a list of blocks (Hp); one lemma an operation.
-/
import Derived.Test.YtoibhfpagkdleaaGreatDoorProg
import Derived.RangeFuncIn
import Derived.RangeFuncLeaves
import Derived.Orders
import Derived.Defers
import Derived.Recover
import Derived.WalkKit
import Derived.KernelRfl
namespace Go.Proofs.YtoibhfpagkdleaaGreatDoor
section
open Go
open Tryz
set_option maxRecDepth 100000
theorem Q11 {p : Prop} (h : p := by intro hh; first | contradiction | (have hx := of_decide_eq_false hh; exact fun hr _ _ _ _ => by first | omega | (simp_all; done)) | (have hx := ne_of_beq_false hh; exact fun hr _ _ _ _ => by first | omega | (simp_all; done)) | (have hx := bne_f hh; exact fun hr _ _ _ _ => by first | omega | (simp_all; done)) | (have hx := of_not_false hh; exact fun hr _ _ _ _ => by first | omega | (simp_all; done)) | (exact fun hr _ _ _ _ => by first | omega | (simp_all; done))) : p := h
theorem Q12 {p : Prop} (h : p := by intro hh; first | contradiction | (exact ⟨⟨by omega, by omega, by omega, by omega, by omega⟩, hnm0⟩) | (exact ⟨⟨by omega, by omega, by omega, by omega, by omega⟩, (hz39 (of_not_false hh)).1, (hz39 (of_not_false hh)).2.2⟩)) : p := h
theorem Q13 {p : Prop} (h : p := by first | rfl | kernel_rfl) : p := h
theorem Q14 {p : Prop} (h : p := by repeat (first | exact SW_range.HSub.all _ | apply HSub.drop)) : p := h
theorem Q15 {p : Prop} (h : p := by intro y hy; repeat (first | exact hy | apply mem_skip)) : p := h
theorem Q16 {p : Prop} (h : p := by simp only [maxLen]; omega) : p := h
theorem Q17 {p : Prop} (h : p := by assumption) : p := h
theorem Q18 {p : Prop} (h : p := by have q := h48.get (E := 3) (i := F.length) (v := .int .i64 ((tabB F).length : Nat)) (by rw [List.getElem?_append_right (by simp [atsV])]; simp [atsV]); rw [show 0 + ((((F.length + 1 : Nat) : Int)) - 1).toNat * 1 = F.length by omega]; exact q) : p := h
theorem Q19 {p : Prop} (h : p := by rintro r w2 ⟨z, rfl, hz, he⟩; exact ⟨z, rfl, hz, Fresh.of_ext he⟩) : p := h
theorem Q2 {p : Prop} (h : p := by intro h; first | contradiction | (have hq := of_decide_eq_true h; exact ⟨hbase.1, hbase.2, fun _ => ⟨by omega, by omega⟩, fun _ => ⟨by omega, by omega, by omega⟩, fun _ => ⟨by omega, by omega, by omega⟩, fun _ _ _ _ => ⟨by omega, by omega, by omega, fun _ => by first | (exfalso; omega) | (exact hz133 h (by assumption))⟩⟩) | (have hq := eq_of_beq h; exact ⟨hbase.1, hbase.2, fun _ => ⟨by omega, by omega⟩, fun _ => ⟨by omega, by omega, by omega⟩, fun _ => ⟨by omega, by omega, by omega⟩, fun _ _ _ _ => ⟨by omega, by omega, by omega, fun _ => by first | (exfalso; omega) | (exact hz133 h (by assumption))⟩⟩) | (exact ⟨hbase.1, hbase.2, fun _ => ⟨by omega, by omega⟩, fun _ => ⟨by omega, by omega, by omega⟩, fun _ => ⟨by omega, by omega, by omega⟩, fun _ _ _ _ => ⟨by omega, by omega, by omega, fun _ => by first | (exfalso; omega) | (exact hz133 h (by assumption))⟩⟩)) : p := h
theorem Q20 {p : Prop} (h : p := by first | rfl | (cases r <;> rfl)) : p := h
theorem Q21 {p : Prop} (h : p := by first | exact (flagB_t hs28).symm | exact (flagB_k hs28 (by omega)).symm | exact (flagB_f hs28 (by omega)).symm) : p := h
theorem Q22 {p : Prop} (h : p := by simp) : p := h
theorem Q23 {p : Prop} (h : p := by show C.vl i - (k + 1) < C.vl i - k; omega) : p := h
theorem Q24 {p : Prop} (h : p := by repeat (first | exact HSub.nil | apply HSub.drop)) : p := h
theorem Q25 {p : Prop} (h : p := by unfold nat; omega) : p := h
theorem Q26 {p : Prop} (h : p := by first | (show (hi - (2 * i + 1)).toNat < (hi - i).toNat; omega) | (show (hi - (2 * i + 1 + 1)).toNat < (hi - i).toNat; omega)) : p := h
theorem Q27 {p : Prop} (h : p := by rw [Classical.not_not.1 hs39]; rfl) : p := h
theorem Q28 {p : Prop} (h : p := by simp only [List.length_map, List.length_range]; exact HSub.a) : p := h
theorem Q29 {p : Prop} (h : p := by rw [Classical.not_not.1 hx]; rfl) : p := h
theorem Q3 {p : Prop} (h : p := by intro hh; first | contradiction | (have hx := of_decide_eq_false hh; exact ⟨by omega, by omega, by omega, by omega, by omega, fun hc => by first | omega | (simp_all; done), fun _ => by omega, fun _ => by omega⟩) | (have hx := ne_of_beq_false hh; exact ⟨by omega, by omega, by omega, by omega, by omega, fun hc => by first | omega | (simp_all; done), fun _ => by omega, fun _ => by omega⟩) | (have hx := bne_f hh; exact ⟨by omega, by omega, by omega, by omega, by omega, fun hc => by first | omega | (simp_all; done), fun _ => by omega, fun _ => by omega⟩) | (have hx := of_not_false hh; exact ⟨by omega, by omega, by omega, by omega, by omega, fun hc => by first | omega | (simp_all; done), fun _ => by omega, fun _ => by omega⟩) | (exact ⟨by omega, by omega, by omega, by omega, by omega, fun hc => by first | omega | (simp_all; done), fun _ => by omega, fun _ => by omega⟩)) : p := h
theorem Q30 {p : Prop} (h : p := by intro h; have hhi : i = s.size := (by omega); subst hhi; have h := of_decide_eq_true h; exact ⟨hz, by omega, by omega⟩) : p := h
theorem Q31 {p : Prop} (h : p := by rw [hdl]; omega) : p := h
theorem Q32 {p : Prop} (h : p := by intro h; first | contradiction | exact ⟨q2, q4, q6, q8, hz161 h⟩) : p := h
theorem Q33 {p : Prop} (h : p := by dsimp only; omega) : p := h
theorem Q34 {p : Prop} (h : p := by repeat (first | exact HSub.nil | exact SW_range.HSub.all _ | apply HSub.keep | apply HSub.drop)) : p := h
theorem Q35 {p : Prop} (h : p := by simpa [Cx.memsM, List.flatMap_map] using hr) : p := h
theorem Q36 {p : Prop} (h : p := by rintro r w1 ⟨z, rfl, hz, he⟩; exact ⟨z, rfl, hz, Fresh.of_ext he⟩) : p := h
theorem Q37 {p : Prop} (h : p := by rw [hm]; simp [u8s_append]) : p := h
theorem Q38 {p : Prop} (h : p := by first | exact (fieldsB_t (by omega)).symm | exact (fieldsB_f (by omega)).symm) : p := h
theorem Q39 {p : Prop} (h : p := by simp; exact hne) : p := h
theorem Q4 {p : Prop} (h : p := by intro hh; first | contradiction | omega | (exact absurd hh (by decide)) | (have hq := of_decide_eq_true (of_not_false hh); omega) | (have hq := eq_of_beq (of_not_false hh); omega) | (have hq := of_not_false hh; cases hq)) : p := h
theorem Q40 {p : Prop} (h : p := by rw [← offs_notin hni]; exact wrap_u64 _ (by have := offs_le F s; omega)) : p := h
theorem Q41 {p : Prop} (h : p := by show ts.length - (i + 1) < ts.length - i; omega) : p := h
theorem Q42 {p : Prop} (h : p := by simpa using Nat.ble_eq.mp hn) : p := h
theorem Q43 {p : Prop} (h : p := by rw [hm]; rfl) : p := h
theorem Q44 {p : Prop} (h : p := by rw [tabB_append, u8s_append]; simp [u8s]) : p := h
theorem Q45 {p : Prop} (h : p := by rw [hkd]; show _ ≤ 12 * C.vl i; omega) : p := h
theorem Q46 {p : Prop} (h : p := by rw [headW, hd]; simp [u8s_append]) : p := h
theorem Q47 {p : Prop} (h : p := by simp; omega) : p := h
theorem Q48 {p : Prop} (h : p := by simpa using h) : p := h
theorem Q5 {p : Prop} (h : p := by intro h; first | contradiction | (have hq := of_decide_eq_true h; exact ⟨hmem, by unfold DOk; omega⟩) | (have hq := eq_of_beq h; exact ⟨hmem, by unfold DOk; omega⟩) | (exact ⟨hmem, by unfold DOk; omega⟩)) : p := h
theorem Q7 {p : Prop} (h : p := by first | assumption | (simp only [List.length_set]; assumption)) : p := h
theorem Q8 {p : Prop} (h : p := by intro hh; first | contradiction | (exact ⟨by omega, (hz42 (of_not_false hh)).1, (hz42 (of_not_false hh)).2.2, fun hk => by first | omega | (rw [Classical.not_not.1 hs31]; rfl) | (rw [Classical.not_not.1 hs30]; rfl)⟩) | (have hx := of_decide_eq_false hh; have hsz : t.name.size = 0 := (by rw [Classical.not_not.1 hx]; rfl); exact ⟨by omega, NoZero.empty hsz, by omega, fun _ => hsz⟩) | (have hsz : t.name.size = 0 := (by rw [Classical.not_not.1 hs39]; rfl); exact ⟨by omega, NoZero.empty hsz, by omega, fun _ => hsz⟩)) : p := h
theorem Q9 {p : Prop} (h : p := by intro hh; first | contradiction | (have hx := of_decide_eq_false hh; exact ⟨fun hr _ => by first | omega | (simp_all; done), by omega, by omega⟩) | (have hx := ne_of_beq_false hh; exact ⟨fun hr _ => by first | omega | (simp_all; done), by omega, by omega⟩) | (have hx := bne_f hh; exact ⟨fun hr _ => by first | omega | (simp_all; done), by omega, by omega⟩) | (have hx := of_not_false hh; exact ⟨fun hr _ => by first | omega | (simp_all; done), by omega, by omega⟩) | (exact ⟨fun hr _ => by first | omega | (simp_all; done), by omega, by omega⟩)) : p := h
theorem dc {p : Prop} (h : p := by decide) : p := h
theorem kr {p : Prop} (h : p := by kernel_rfl) : p := h
theorem om {p : Prop} (h : p := by omega) : p := h
theorem oz {p : Prop} (h : p := by first | omega | (simp only [List.length_set]; omega)) : p := h

/-! ### slots -/
abbrev Env := List (Nat × Value)

inductive Get : Env → Nat → Value → Prop
  | hit {t : Nat} {v : Value} {e : Env} : Get ((t, v) :: e) t v
  | skip {t i : Nat} {v u : Value} {e : Env} (h : Nat.beq i t = false) (g : Get e t v) : Get ((i, u) :: e) t v

/-- the search, by computation -/
def lk : Env → Nat → Option Value
  | [], _ => none
  | (i, v) :: e, t => bif Nat.beq i t then some v else lk e t
theorem Get.o {e : Env} {t : Nat} {v : Value} (h : lk e t = some v) : Get e t v := by
  induction e with
  | nil => cases h
  | cons x e ih =>
    obtain ⟨i, u⟩ := x
    simp only [lk] at h
    cases hb : Nat.beq i t with
    | true =>
      rw [hb] at h
      simp only [cond_true, Option.some.injEq] at h
      subst h
      have := Nat.eq_of_beq_eq_true hb
      subst this
      exact .hit
    | false => rw [hb] at h; exact .skip hb (ih h)

structure Sees (n : Nat) (ds : List Deferred) (e : Env) (a : Act) : Prop where
  size : a.tmps.size = n
  defers : a.defers = ds
  slot : ∀ t v, Get e t v → a.tmps.getD t undef = v

inductive EnvSub : Env → Env → Prop
  | nil {e : Env} : EnvSub [] e
  | cons {t : Nat} {v : Value} {e e' : Env} (g : Get e t v) (h : EnvSub e' e) : EnvSub ((t, v) :: e') e

theorem EnvSub.get {e e' : Env} (h : EnvSub e' e) : ∀ {t v}, Get e' t v → Get e t v := by
  induction h with
  | nil => intro t v g; cases g
  | cons g _ ih =>
    intro t v g'
    cases g' with
    | hit => exact g
    | skip _ g'' => exact ih g''

theorem Sees.weaken {n : Nat} {ds : List Deferred} {e e' : Env} {a : Act} (h : Sees n ds e a) (hs : EnvSub e' e) : Sees n ds e' a :=
  ⟨h.size, h.defers, fun t v g => h.slot t v (hs.get g)⟩

theorem Sees.put {n : Nat} {ds : List Deferred} {e : Env} {a : Act} {d : Nat} (h : Sees n ds e a) (hd : Nat.blt d n = true) (v : Value) :
    Sees n ds ((d, v) :: e) (a.put (some d) v) := by
  have hlt : d < a.tmps.size := by rw [h.size]; exact Nat.blt_eq.mp hd
  refine ⟨by simp [Act.put, h.size], by simp [Act.put, h.defers], fun t u g => ?_⟩
  cases g with
  | hit => simp [Act.put, Array.getD_eq_getD_getElem?, hlt]
  | skip hne g =>
    have hne' : d ≠ t := fun e => by simp [e] at hne
    have := h.slot t u g
    simpa [Act.put, Array.getD_eq_getD_getElem?, Array.getElem?_setIfInBounds, hne'] using this

theorem Sees.putNone {n : Nat} {ds : List Deferred} {e : Env} {a : Act} (h : Sees n ds e a) (v : Value) : Sees n ds e (a.put none v) := h

inductive Ev (e : Env) : Operand → Value → Prop
  | tmp {t : Nat} {v : Value} (g : Get e t v) : Ev e (.tmp t) v
  | const {v : Value} : Ev e (.const v) v
  | global {g : Nat} : Ev e (.global g) (.pointer (some ⟨g, 0, none⟩))
  | func {f : FuncId} : Ev e (.func f) (.func (.func f) #[] #[])

theorem Sees.ev {n : Nat} {ds : List Deferred} {e : Env} {a : Act} (h : Sees n ds e a) {x : Operand} {v : Value} (hx : Ev e x v) : a.eval x = v := by
  cases hx with
  | tmp g => exact h.slot _ _ g
  | const => rfl
  | global => rfl
  | func => rfl

inductive Evs (e : Env) : List Operand → List Value → Prop
  | nil : Evs e [] []
  | cons {x : Operand} {v : Value} {xs : List Operand} {vs : List Value} (h : Ev e x v) (t : Evs e xs vs) : Evs e (x :: xs) (v :: vs)

theorem Sees.evs {n : Nat} {ds : List Deferred} {e : Env} {a : Act} (h : Sees n ds e a) {xs : List Operand} {vs : List Value} (hx : Evs e xs vs) :
    xs.map a.eval = vs := by
  induction hx with
  | nil => rfl
  | cons hx _ ih => simp [h.ev hx, ih]

inductive Parts (e : Env) : List (Nat × Operand) → List (Nat × Value) → Prop
  | nil : Parts e [] []
  | cons {i : Nat} {x : Operand} {v : Value} {xs : List (Nat × Operand)} {vs : List (Nat × Value)} (h : Ev e x v) (t : Parts e xs vs) : Parts e ((i, x) :: xs) ((i, v) :: vs)

theorem Sees.parts {n : Nat} {ds : List Deferred} {e : Env} {a : Act} (h : Sees n ds e a) {xs : List (Nat × Operand)} {vs : List (Nat × Value)} (hx : Parts e xs vs) :
    xs.map (fun p => (p.1, a.eval p.2)) = vs := by
  induction hx with
  | nil => rfl
  | cons hx _ ih => simp [h.ev hx, ih]

/-! ### blocks -/
abbrev Hp := List (Nat × Bool × Obj)

/-- What may have turned between two worlds: new blocks, and the old blocks of S. -/
structure Ext (S : Nat → Prop) (w w' : World) : Prop where
  os : w'.os = w.os
  tape : w'.tape = w.tape
  output : w'.output = w.output
  size : w.heap.size ≤ w'.heap.size
  block : ∀ k, k < w.heap.size → ¬ S k → w'.heap[k]? = w.heap[k]?

def noS : Nat → Prop := fun _ => False

theorem Ext.refl (S : Nat → Prop) (w : World) : Ext S w w := ⟨rfl, rfl, rfl, Nat.le_refl _, fun _ _ _ => rfl⟩

theorem Ext.trans {S S' : Nat → Prop} {a b c : World} (h : Ext S a b) (k : Ext S' b c) (hs : ∀ i, i < a.heap.size → S' i → S i) : Ext S a c :=
  ⟨k.os.trans h.os, k.tape.trans h.tape, k.output.trans h.output, Nat.le_trans h.size k.size,
   fun i hi hn => (k.block i (Nat.lt_of_lt_of_le hi h.size) (fun hc => hn (hs i hi hc))).trans (h.block i hi hn)⟩

theorem Ext.trans0 {S : Nat → Prop} {a b c : World} (h : Ext S a b) (k : Ext noS b c) : Ext S a c := h.trans k (fun _ _ h => h.elim)

theorem Ext.mono {S S' : Nat → Prop} {a b : World} (h : Ext S a b) (hs : ∀ i, S i → S' i) : Ext S' a b :=
  ⟨h.os, h.tape, h.output, h.size, fun k hk hn => h.block k hk (fun hc => hn (hs k hc))⟩

theorem Ext.drew (w : World) : Ext noS w { w with drawn := w.drawn + 1 } := ⟨rfl, rfl, rfl, Nat.le_refl _, fun _ _ _ => rfl⟩

theorem Ext.alloc (w : World) (o : Obj) : Ext noS w { w with heap := w.heap.push o } :=
  ⟨rfl, rfl, rfl, by simp, fun k hk _ => by simp [Array.getElem?_push]; omega⟩

theorem Ext.below {w w' : World} (h : Go.RowKit.Below w.heap.size w w') : Ext noS w w' := ⟨h.os, h.tape, h.output, h.size, fun k hk _ => h.block k hk⟩

/-- What is known of the heap, seen from the world in which the call began. -/
structure Holds (S : Nat → Prop) (w0 : World) (H : Hp) (w : World) : Prop where
  ext : Ext S w0 w
  nodup : (H.map (·.1)).Nodup
  has : ∀ x ∈ H, w.heap[x.1]? = some x.2.2 ∧ (x.2.1 = true → w0.heap.size ≤ x.1 ∨ S x.1)

section
variable {S : Nat → Prop} {w0 w w' : World} {H : Hp}

theorem Holds.lt (h : Holds S w0 H w) {x : Nat × Bool × Obj} (hx : x ∈ H) : x.1 < w.heap.size := by
  have := (h.has x hx).1
  rcases Nat.lt_or_ge x.1 w.heap.size with h' | h'
  · exact h'
  rw [Array.getElem?_eq_none h'] at this; cases this

/-- A world behind which nothing old has turned. -/
theorem Holds.step (h : Holds S w0 H w) (k : Ext noS w w') : Holds S w0 H w' :=
  ⟨h.ext.trans0 k, h.nodup, fun x hx => ⟨(k.block x.1 (h.lt hx) id).trans (h.has x hx).1, (h.has x hx).2⟩⟩

/-- A new block. -/
theorem Holds.new (h : Holds S w0 H w) (o : Obj) : Holds S w0 ((w.heap.size, true, o) :: H) { w with heap := w.heap.push o } := by
  have h' := h.step (Ext.alloc w o)
  refine ⟨h'.ext, ?_, fun x hx => ?_⟩
  · rw [List.map_cons, List.nodup_cons]
    refine ⟨fun hm => ?_, h.nodup⟩
    obtain ⟨x, hx, he⟩ := List.mem_map.1 hm
    have := h.lt hx
    simp only at he
    omega
  rcases List.mem_cons.1 hx with rfl | hx
  · exact ⟨by simp, fun _ => Or.inl h.ext.size⟩
  exact h'.has x hx

inductive HMem : Hp → Nat → Bool → Obj → Prop
  | hit {b : Nat} {f : Bool} {o : Obj} {H : Hp} : HMem ((b, f, o) :: H) b f o
  | skip {b : Nat} {f : Bool} {o : Obj} {x : Nat × Bool × Obj} {H : Hp} (h : HMem H b f o) : HMem (x :: H) b f o

theorem HMem.a {b : Nat} {f : Bool} {o : Obj} (h : HMem H b f o := by repeat (first | apply HMem.hit | apply HMem.skip)) : HMem H b f o := h
theorem HMem.mem {b : Nat} {f : Bool} {o : Obj} (h : HMem H b f o) : (b, f, o) ∈ H := by
  induction h with
  | hit => exact List.mem_cons_self
  | skip _ ih => exact List.mem_cons_of_mem _ ih

theorem Holds.at_ (h : Holds S w0 H w) {b : Nat} {f : Bool} {o : Obj} (hm : HMem H b f o) : w.heap[b]? = some o := (h.has _ hm.mem).1

/-- The list with one block turned. -/
inductive HSet : Hp → Nat → Obj → Obj → Hp → Prop
  | hit {b : Nat} {o o' : Obj} {H : Hp} : HSet ((b, true, o) :: H) b o o' ((b, true, o') :: H)
  | skip {b : Nat} {o o' : Obj} {x : Nat × Bool × Obj} {H H' : Hp} (h : HSet H b o o' H') : HSet (x :: H) b o o' (x :: H')

theorem HSet.a {b : Nat} {o o' : Obj} {H' : Hp} (h : HSet H b o o' H' := by repeat (first | apply HSet.hit | apply HSet.skip)) : HSet H b o o' H' := h
theorem HSet.keys {b : Nat} {o o' : Obj} {H' : Hp} (h : HSet H b o o' H') : H'.map (·.1) = H.map (·.1) := by
  induction h with
  | hit => rfl
  | skip _ ih => simp [ih]

theorem HSet.mem {b : Nat} {o o' : Obj} {H' : Hp} (h : HSet H b o o' H') : (b, true, o) ∈ H := by
  induction h with
  | hit => exact List.mem_cons_self
  | skip _ ih => exact List.mem_cons_of_mem _ ih

theorem HSet.mem' {b : Nat} {o o' : Obj} {H' : Hp} (h : HSet H b o o' H') (hn : (H.map (·.1)).Nodup) : ∀ x ∈ H', (x = (b, true, o')) ∨ (x ∈ H ∧ x.1 ≠ b) := by
  induction h with
  | hit =>
    rw [List.map_cons, List.nodup_cons] at hn
    intro x hx
    rcases List.mem_cons.1 hx with rfl | hx
    · exact Or.inl rfl
    exact Or.inr ⟨List.mem_cons_of_mem _ hx, fun e => hn.1 (List.mem_map.2 ⟨x, hx, e⟩)⟩
  | skip hh ih =>
    rw [List.map_cons, List.nodup_cons] at hn
    intro x hx
    rcases List.mem_cons.1 hx with rfl | hx
    · refine Or.inr ⟨List.mem_cons_self, fun e => hn.1 ?_⟩
      exact List.mem_map.2 ⟨_, hh.mem, e.symm⟩
    rcases ih hn.2 x hx with h | ⟨h, h'⟩
    · exact Or.inl h
    exact Or.inr ⟨List.mem_cons_of_mem _ h, h'⟩

/-- A block of the list turns. -/
theorem Holds.turn (h : Holds S w0 H w) {b : Nat} {o o' : Obj} {H' : Hp} (hs : HSet H b o o' H') (k : Ext (· = b) w w') (hb : w'.heap[b]? = some o') : Holds S w0 H' w' := by
  have hS := (h.has _ hs.mem).2 rfl
  refine ⟨h.ext.trans k fun i hi e => ?_, by rw [hs.keys]; exact h.nodup, fun x hx => ?_⟩
  · subst e
    rcases hS with h1 | h1
    · simp only at h1; omega
    exact h1
  rcases hs.mem' h.nodup x hx with rfl | ⟨hx, hne⟩
  · exact ⟨hb, (h.has _ hs.mem).2⟩
  exact ⟨(k.block x.1 (h.lt hx) hne).trans (h.has x hx).1, (h.has x hx).2⟩

inductive HPick : Hp → Nat × Bool × Obj → Hp → Prop
  | hit {x : Nat × Bool × Obj} {H : Hp} : HPick (x :: H) x H
  | skip {x y : Nat × Bool × Obj} {H H' : Hp} (h : HPick H x H') : HPick (y :: H) x (y :: H')
theorem HPick.a {H H' : Hp} {x : Nat × Bool × Obj} (h : HPick H x H' := by repeat (first | apply HPick.hit | apply HPick.skip)) : HPick H x H' := h
theorem HPick.perm {H H' : Hp} {x : Nat × Bool × Obj} (h : HPick H x H') : H.Perm (x :: H') := by
  induction h with
  | hit => exact List.Perm.refl _
  | skip _ ih => exact (ih.cons _).trans (List.Perm.swap _ _ _)

/-- Part of the list, in any order. -/
inductive HSub : Hp → Hp → Prop
  | nil : HSub [] []
  | all {H : Hp} : HSub H H
  | keep {x : Nat × Bool × Obj} {H H' : Hp} (h : HSub H' H) : HSub (x :: H') (x :: H)
  | drop {x : Nat × Bool × Obj} {H H' : Hp} (h : HSub H' H) : HSub H' (x :: H)
  | pick {x : Nat × Bool × Obj} {H H1 A : Hp} (h : HPick H x H1) (t : HSub A H1) : HSub (x :: A) H

theorem HSub.sub {H' : Hp} (h : HSub H' H) : ∃ L, H.Perm L ∧ H'.Sublist L := by
  induction h with
  | nil => exact ⟨[], List.Perm.refl _, List.Sublist.slnil⟩
  | all => exact ⟨_, List.Perm.refl _, List.Sublist.refl _⟩
  | keep _ ih => obtain ⟨L, h1, h2⟩ := ih; exact ⟨_ :: L, h1.cons _, h2.cons_cons _⟩
  | drop _ ih => obtain ⟨L, h1, h2⟩ := ih; exact ⟨_ :: L, h1.cons _, h2.cons _⟩
  | pick h _ ih => obtain ⟨L, h1, h2⟩ := ih; exact ⟨_ :: L, h.perm.trans (h1.cons _), h2.cons_cons _⟩
/-- found by search -/
theorem HSub.a {H' : Hp} (h : HSub H' H := by repeat (first | exact HSub.all | exact HSub.nil | apply HSub.keep | refine HSub.pick HPick.a ?_ | apply HSub.drop)) : HSub H' H := h

theorem Holds.weaken (h : Holds S w0 H w) {H' : Hp} (hs : HSub H' H) : Holds S w0 H' w := by
  obtain ⟨L, h1, h2⟩ := hs.sub
  exact ⟨h.ext, (h2.map _).nodup ((h1.map _).nodup_iff.1 h.nodup), fun x hx => h.has x (h1.mem_iff.2 (h2.subset hx))⟩

/-- Seen from the world as it is now. -/
theorem Holds.start (w : World) (S : Nat → Prop) : Holds S w [] w := ⟨Ext.refl _ _, by simp, fun x hx => by cases hx⟩

/-- One old block more. -/
theorem Holds.old (h : Holds S w0 H w) {b : Nat} {o : Obj} (hb : w.heap[b]? = some o) (hn : ∀ x ∈ H, x.1 ≠ b) : Holds S w0 ((b, false, o) :: H) w := by
  refine ⟨h.ext, ?_, fun x hx => ?_⟩
  · rw [List.map_cons, List.nodup_cons]
    refine ⟨fun hm => ?_, h.nodup⟩
    obtain ⟨x, hx, he⟩ := List.mem_map.1 hm
    exact hn x hx he
  rcases List.mem_cons.1 hx with rfl | hx
  · exact ⟨hb, fun h => by cases h⟩
  exact h.has x hx

theorem Holds.start1 (w : World) (S : Nat → Prop) {b : Nat} {o : Obj} (hb : w.heap[b]? = some o) : Holds S w [(b, false, o)] w :=
  (Holds.start w S).old hb (fun x hx => by cases hx)

end
theorem Cv {h p : Prop} (x : h) (f : h → p := by first | exact of_decide_eq_true | exact of_decide_eq_false | exact eq_of_beq | exact ne_of_beq_false | exact id) : p := f x
theorem Cw {h p : Prop} (x : h) (f : h → p := by first | exact of_decide_eq_true | exact of_decide_eq_false | exact eq_of_beq | exact ne_of_beq_false | exact bne_t | exact bne_f | exact of_not_true | exact of_not_false | exact id) : p := f x
theorem Ci {h p G : Prop} (g : p → G) (f : h → p := by first | exact of_decide_eq_true | exact of_decide_eq_false | exact eq_of_beq | exact ne_of_beq_false | exact id) : h → G := fun x => g (f x)
theorem Cj {h p G : Prop} (g : p → G) (f : h → p := by first | exact of_decide_eq_true | exact of_decide_eq_false | exact eq_of_beq | exact ne_of_beq_false | exact bne_t | exact bne_f | exact of_not_true | exact of_not_false | exact id) : h → G := fun x => g (f x)
/-- slots by their numbers -/
inductive EnvK : List Nat → Env → Env → Prop
  | nil {e : Env} : EnvK [] [] e
  | cons {t : Nat} {v : Value} {ts : List Nat} {e e' : Env} (g : lk e t = some v) (h : EnvK ts e' e) : EnvK (t :: ts) ((t, v) :: e') e
theorem EnvK.sub {ts : List Nat} {e' e : Env} (h : EnvK ts e' e) : EnvSub e' e := by
  induction h with
  | nil => exact .nil
  | cons g _ ih => exact .cons (Get.o g) ih
theorem EnvSub.a {e' e : Env} (h : EnvSub e' e := by repeat (first | exact EnvSub.nil | (apply EnvSub.cons; exact Get.o rfl))) : EnvSub e' e := h
theorem Eh {e1 e : Env} {t : Nat} {v : Value} (h : EnvSub ((t, v) :: e1) e) : Ev e (.tmp t) v := .tmp (h.get .hit)
theorem Eo {e1 e : Env} {t : Nat} {v : Value} (h : EnvSub e1 e) (g : lk e1 t = some v := by exact rfl) : Ev e (.tmp t) v := .tmp (h.get (.o g))
theorem Ek1 {e : Env} {t0 : Nat} {v0 : Value} (g0 : lk e t0 = some v0) : EnvSub [(t0, v0)] e := .cons (.o g0) (.nil)
theorem Ek2 {e : Env} {t0 t1 : Nat} {v0 v1 : Value} (g0 : lk e t0 = some v0) (g1 : lk e t1 = some v1) : EnvSub [(t0, v0), (t1, v1)] e := .cons (.o g0) (.cons (.o g1) (.nil))
theorem Ek3 {e : Env} {t0 t1 t2 : Nat} {v0 v1 v2 : Value} (g0 : lk e t0 = some v0) (g1 : lk e t1 = some v1) (g2 : lk e t2 = some v2) : EnvSub [(t0, v0), (t1, v1), (t2, v2)] e := .cons (.o g0) (.cons (.o g1) (.cons (.o g2) (.nil)))
theorem Ek4 {e : Env} {t0 t1 t2 t3 : Nat} {v0 v1 v2 v3 : Value} (g0 : lk e t0 = some v0) (g1 : lk e t1 = some v1) (g2 : lk e t2 = some v2) (g3 : lk e t3 = some v3) : EnvSub [(t0, v0), (t1, v1), (t2, v2), (t3, v3)] e := .cons (.o g0) (.cons (.o g1) (.cons (.o g2) (.cons (.o g3) (.nil))))
theorem Ek5 {e : Env} {t0 t1 t2 t3 t4 : Nat} {v0 v1 v2 v3 v4 : Value} (g0 : lk e t0 = some v0) (g1 : lk e t1 = some v1) (g2 : lk e t2 = some v2) (g3 : lk e t3 = some v3) (g4 : lk e t4 = some v4) : EnvSub [(t0, v0), (t1, v1), (t2, v2), (t3, v3), (t4, v4)] e := .cons (.o g0) (.cons (.o g1) (.cons (.o g2) (.cons (.o g3) (.cons (.o g4) (.nil)))))
theorem Ek6 {e : Env} {t0 t1 t2 t3 t4 t5 : Nat} {v0 v1 v2 v3 v4 v5 : Value} (g0 : lk e t0 = some v0) (g1 : lk e t1 = some v1) (g2 : lk e t2 = some v2) (g3 : lk e t3 = some v3) (g4 : lk e t4 = some v4) (g5 : lk e t5 = some v5) : EnvSub [(t0, v0), (t1, v1), (t2, v2), (t3, v3), (t4, v4), (t5, v5)] e := .cons (.o g0) (.cons (.o g1) (.cons (.o g2) (.cons (.o g3) (.cons (.o g4) (.cons (.o g5) (.nil))))))
theorem Ek7 {e : Env} {t0 t1 t2 t3 t4 t5 t6 : Nat} {v0 v1 v2 v3 v4 v5 v6 : Value} (g0 : lk e t0 = some v0) (g1 : lk e t1 = some v1) (g2 : lk e t2 = some v2) (g3 : lk e t3 = some v3) (g4 : lk e t4 = some v4) (g5 : lk e t5 = some v5) (g6 : lk e t6 = some v6) : EnvSub [(t0, v0), (t1, v1), (t2, v2), (t3, v3), (t4, v4), (t5, v5), (t6, v6)] e := .cons (.o g0) (.cons (.o g1) (.cons (.o g2) (.cons (.o g3) (.cons (.o g4) (.cons (.o g5) (.cons (.o g6) (.nil)))))))
theorem Ek8 {e : Env} {t0 t1 t2 t3 t4 t5 t6 t7 : Nat} {v0 v1 v2 v3 v4 v5 v6 v7 : Value} (g0 : lk e t0 = some v0) (g1 : lk e t1 = some v1) (g2 : lk e t2 = some v2) (g3 : lk e t3 = some v3) (g4 : lk e t4 = some v4) (g5 : lk e t5 = some v5) (g6 : lk e t6 = some v6) (g7 : lk e t7 = some v7) : EnvSub [(t0, v0), (t1, v1), (t2, v2), (t3, v3), (t4, v4), (t5, v5), (t6, v6), (t7, v7)] e := .cons (.o g0) (.cons (.o g1) (.cons (.o g2) (.cons (.o g3) (.cons (.o g4) (.cons (.o g5) (.cons (.o g6) (.cons (.o g7) (.nil))))))))
theorem Ek9 {e : Env} {t0 t1 t2 t3 t4 t5 t6 t7 t8 : Nat} {v0 v1 v2 v3 v4 v5 v6 v7 v8 : Value} (g0 : lk e t0 = some v0) (g1 : lk e t1 = some v1) (g2 : lk e t2 = some v2) (g3 : lk e t3 = some v3) (g4 : lk e t4 = some v4) (g5 : lk e t5 = some v5) (g6 : lk e t6 = some v6) (g7 : lk e t7 = some v7) (g8 : lk e t8 = some v8) : EnvSub [(t0, v0), (t1, v1), (t2, v2), (t3, v3), (t4, v4), (t5, v5), (t6, v6), (t7, v7), (t8, v8)] e := .cons (.o g0) (.cons (.o g1) (.cons (.o g2) (.cons (.o g3) (.cons (.o g4) (.cons (.o g5) (.cons (.o g6) (.cons (.o g7) (.cons (.o g8) (.nil)))))))))
theorem Ek10 {e : Env} {t0 t1 t2 t3 t4 t5 t6 t7 t8 t9 : Nat} {v0 v1 v2 v3 v4 v5 v6 v7 v8 v9 : Value} (g0 : lk e t0 = some v0) (g1 : lk e t1 = some v1) (g2 : lk e t2 = some v2) (g3 : lk e t3 = some v3) (g4 : lk e t4 = some v4) (g5 : lk e t5 = some v5) (g6 : lk e t6 = some v6) (g7 : lk e t7 = some v7) (g8 : lk e t8 = some v8) (g9 : lk e t9 = some v9) : EnvSub [(t0, v0), (t1, v1), (t2, v2), (t3, v3), (t4, v4), (t5, v5), (t6, v6), (t7, v7), (t8, v8), (t9, v9)] e := .cons (.o g0) (.cons (.o g1) (.cons (.o g2) (.cons (.o g3) (.cons (.o g4) (.cons (.o g5) (.cons (.o g6) (.cons (.o g7) (.cons (.o g8) (.cons (.o g9) (.nil))))))))))
theorem Ek11 {e : Env} {t0 t1 t2 t3 t4 t5 t6 t7 t8 t9 t10 : Nat} {v0 v1 v2 v3 v4 v5 v6 v7 v8 v9 v10 : Value} (g0 : lk e t0 = some v0) (g1 : lk e t1 = some v1) (g2 : lk e t2 = some v2) (g3 : lk e t3 = some v3) (g4 : lk e t4 = some v4) (g5 : lk e t5 = some v5) (g6 : lk e t6 = some v6) (g7 : lk e t7 = some v7) (g8 : lk e t8 = some v8) (g9 : lk e t9 = some v9) (g10 : lk e t10 = some v10) : EnvSub [(t0, v0), (t1, v1), (t2, v2), (t3, v3), (t4, v4), (t5, v5), (t6, v6), (t7, v7), (t8, v8), (t9, v9), (t10, v10)] e := .cons (.o g0) (.cons (.o g1) (.cons (.o g2) (.cons (.o g3) (.cons (.o g4) (.cons (.o g5) (.cons (.o g6) (.cons (.o g7) (.cons (.o g8) (.cons (.o g9) (.cons (.o g10) (.nil)))))))))))
theorem Ek12 {e : Env} {t0 t1 t2 t3 t4 t5 t6 t7 t8 t9 t10 t11 : Nat} {v0 v1 v2 v3 v4 v5 v6 v7 v8 v9 v10 v11 : Value} (g0 : lk e t0 = some v0) (g1 : lk e t1 = some v1) (g2 : lk e t2 = some v2) (g3 : lk e t3 = some v3) (g4 : lk e t4 = some v4) (g5 : lk e t5 = some v5) (g6 : lk e t6 = some v6) (g7 : lk e t7 = some v7) (g8 : lk e t8 = some v8) (g9 : lk e t9 = some v9) (g10 : lk e t10 = some v10) (g11 : lk e t11 = some v11) : EnvSub [(t0, v0), (t1, v1), (t2, v2), (t3, v3), (t4, v4), (t5, v5), (t6, v6), (t7, v7), (t8, v8), (t9, v9), (t10, v10), (t11, v11)] e := .cons (.o g0) (.cons (.o g1) (.cons (.o g2) (.cons (.o g3) (.cons (.o g4) (.cons (.o g5) (.cons (.o g6) (.cons (.o g7) (.cons (.o g8) (.cons (.o g9) (.cons (.o g10) (.cons (.o g11) (.nil))))))))))))
theorem Ek13 {e : Env} {t0 t1 t2 t3 t4 t5 t6 t7 t8 t9 t10 t11 t12 : Nat} {v0 v1 v2 v3 v4 v5 v6 v7 v8 v9 v10 v11 v12 : Value} (g0 : lk e t0 = some v0) (g1 : lk e t1 = some v1) (g2 : lk e t2 = some v2) (g3 : lk e t3 = some v3) (g4 : lk e t4 = some v4) (g5 : lk e t5 = some v5) (g6 : lk e t6 = some v6) (g7 : lk e t7 = some v7) (g8 : lk e t8 = some v8) (g9 : lk e t9 = some v9) (g10 : lk e t10 = some v10) (g11 : lk e t11 = some v11) (g12 : lk e t12 = some v12) : EnvSub [(t0, v0), (t1, v1), (t2, v2), (t3, v3), (t4, v4), (t5, v5), (t6, v6), (t7, v7), (t8, v8), (t9, v9), (t10, v10), (t11, v11), (t12, v12)] e := .cons (.o g0) (.cons (.o g1) (.cons (.o g2) (.cons (.o g3) (.cons (.o g4) (.cons (.o g5) (.cons (.o g6) (.cons (.o g7) (.cons (.o g8) (.cons (.o g9) (.cons (.o g10) (.cons (.o g11) (.cons (.o g12) (.nil)))))))))))))
theorem Ek14 {e : Env} {t0 t1 t2 t3 t4 t5 t6 t7 t8 t9 t10 t11 t12 t13 : Nat} {v0 v1 v2 v3 v4 v5 v6 v7 v8 v9 v10 v11 v12 v13 : Value} (g0 : lk e t0 = some v0) (g1 : lk e t1 = some v1) (g2 : lk e t2 = some v2) (g3 : lk e t3 = some v3) (g4 : lk e t4 = some v4) (g5 : lk e t5 = some v5) (g6 : lk e t6 = some v6) (g7 : lk e t7 = some v7) (g8 : lk e t8 = some v8) (g9 : lk e t9 = some v9) (g10 : lk e t10 = some v10) (g11 : lk e t11 = some v11) (g12 : lk e t12 = some v12) (g13 : lk e t13 = some v13) : EnvSub [(t0, v0), (t1, v1), (t2, v2), (t3, v3), (t4, v4), (t5, v5), (t6, v6), (t7, v7), (t8, v8), (t9, v9), (t10, v10), (t11, v11), (t12, v12), (t13, v13)] e := .cons (.o g0) (.cons (.o g1) (.cons (.o g2) (.cons (.o g3) (.cons (.o g4) (.cons (.o g5) (.cons (.o g6) (.cons (.o g7) (.cons (.o g8) (.cons (.o g9) (.cons (.o g10) (.cons (.o g11) (.cons (.o g12) (.cons (.o g13) (.nil))))))))))))))
end
end Go.Proofs.YtoibhfpagkdleaaGreatDoor
