/-
  A REGION THAT DRAWS ITS ORDER: a prefix of operations whose values are known (they may come in any order that the edges allow), then a tail in its order.
  CONTRACTS: the readers of numbers in both orders of bytes.
-/
import Derived.Test.YtoibhfpagkdleaaGreatDoorFa
import Derived.KernelRfl
namespace Go.Proofs.YtoibhfpagkdleaaGreatDoor
section
open Go
open Tryz
set_option maxRecDepth 100000

/-- The operations on which an operation waits in every mode. -/
def predsOf (aft : Array Edge) : List Nat := aft.toList.filterMap fun e => if Region.binds .any e then some e.on else none

section
variable (ro : Option Nat) (P : Program) (S : Nat → Prop) (w0 : World) (n : Nat) (ds : List Deferred) (H : Hp)

/-- The prefix's operations, each with its value and the slots on which it leans; what is left is the tail; what is known behind the prefix. -/
inductive Obs : Env → List Oper → List (Nat × Value) → List (List Nat) → List Oper → Env → Prop
  | done {ea : Env} {l : List Oper} : Obs ea l [] [] l ea
  | cons {ea eo : Env} {d : Nat} {v : Value} {op : Op} {ty : TypeId} {pos : String} {aft : Array Edge} {l tail : List Oper} {vs : List (Nat × Value)} {ks : List (List Nat)} (e1 : Env)
      (ha : EnvSub e1 ea)
      (h : ∀ e, EnvSub e1 e → OT ro P S w0 n ds H e ⟨some d, op, ty, pos, aft, none⟩ (fun X => X ((d, v) :: e) H))
      (t : Obs ((d, v) :: ea) l vs ks tail eo) : Obs ea (⟨some d, op, ty, pos, aft, none⟩ :: l) ((d, v) :: vs) (e1.map (·.1) :: ks) tail eo
end

def predsAt (l : List Oper) (i : Nat) : List Nat := match l[i]? with | some o => predsOf o.after | none => []

/-- The closed check on the edges. -/
def drawOk (l : List Oper) (k : Nat) : Bool :=
  ((List.range l.length).all fun i => (predsAt l i).all (· < i)) &&
  ((List.range k).all fun i => k == l.length || ((List.range k).any fun s => (predsAt l s).contains i) || (predsAt l k).contains i) &&
  ((List.range l.length).all fun j => j ≤ k || (predsAt l j).contains (j - 1))

def nodupB : List Nat → Bool
  | [] => true
  | x :: xs => !xs.contains x && nodupB xs

theorem nodupB_iff : ∀ {l : List Nat}, nodupB l = true → l.Nodup
  | [], _ => List.nodup_nil
  | x :: xs, h => by
    simp only [nodupB, Bool.and_eq_true, Bool.not_eq_true', List.contains_eq_mem, decide_eq_false_iff_not] at h
    exact List.nodup_cons.2 ⟨h.1, nodupB_iff h.2⟩

/-- The slots that the prefix writes are new ones, each written once. -/
def slotsOk (e0 : Env) (vals : List (Nat × Value)) : Bool :=
  (vals.map (·.1)).all (fun d => !(e0.map (·.1)).contains d) && nodupB (vals.map (·.1))

/-- What an operation leans on was known before the region, or is written by one on which it waits. -/
def readsOk (l : List Oper) (e0 : Env) (vals : List (Nat × Value)) (ks : List (List Nat)) : Bool :=
  (List.range vals.length).all fun i => (ks.getD i []).all fun t => (e0.map (·.1)).contains t || (predsAt l i).any fun j => (vals.map (·.1))[j]? == some t

theorem ready_iff {l : List Oper} {listed : Array Bool} (j : Nat) :
    j ∈ Region.ready .any l.toArray listed ↔ j < l.length ∧ listed.getD j true = false ∧ ∀ i ∈ predsAt l j, listed.getD i false = true := by
  unfold Region.ready
  rw [List.mem_filter, List.mem_range]
  simp only [List.size_toArray, Bool.and_eq_true, Bool.not_eq_true', List.getElem?_toArray, predsAt, predsOf]
  constructor
  · rintro ⟨h1, h2, h3⟩
    refine ⟨h1, h2, fun i hi => ?_⟩
    cases ho : l[j]? with
    | none => rw [List.getElem?_eq_none_iff] at ho; omega
    | some o =>
      simp only [ho, Option.map_some, Option.getD_some, Array.all_eq_true'] at h3 hi
      obtain ⟨e, he, hei⟩ := List.mem_filterMap.1 hi
      have := h3 e (by simpa using he)
      by_cases hb : Region.binds .any e = true
      · simp only [hb, if_true, Option.some.injEq] at hei
        subst hei
        simpa [hb] using this
      simp [hb] at hei
  rintro ⟨h1, h2, h3⟩
  refine ⟨h1, h2, ?_⟩
  rw [List.getElem?_eq_getElem h1] at h3 ⊢
  simp only [Option.map_some, Option.getD_some, Array.all_eq_true']
  intro e he
  by_cases hb : Region.binds .any e = true
  · simp only [hb, Bool.not_true, Bool.false_or]
    exact h3 _ (List.mem_filterMap.2 ⟨e, by simpa using he, by simp [hb]⟩)
  simp [hb]

section
variable {ro : Option Nat} {P : Program} {S : Nat → Prop} {w0 : World} {n : Nat} {ds : List Deferred} {H : Hp} {e0 : Env} {Q : Exit → Act → World → Prop}

def firstN (m i : Nat) : Array Bool := ((List.range m).map (fun j => decide (j < i))).toArray

theorem firstN_getD (m i j : Nat) (d : Bool) (hj : j < m) : (firstN m i).getD j d = decide (j < i) := by
  simp [firstN, Array.getD_eq_getD_getElem?, hj]

theorem firstN_set (m i : Nat) : (firstN m i).setIfInBounds i true = firstN m (i + 1) := by
  apply Array.ext
  · simp [firstN]
  intro j h1 h2
  simp only [firstN, List.size_toArray, List.length_map, List.length_range, Array.size_setIfInBounds] at h1 h2
  rw [Array.getElem_setIfInBounds (by simpa [firstN] using h2)]
  by_cases hj : i = j
  · subst hj; simp [firstN]
  rw [if_neg hj]
  simp only [firstN, List.getElem_toArray, List.getElem_map, List.getElem_range]
  have : (j < i) ↔ (j < i + 1) := by omega
  simp [this]

/-- THE TAIL, one behind the other. -/
theorem tail_any {l : List Oper} {k : Nat} (hc : drawOk l k = true) : ∀ (f i : Nat), k ≤ i → i + f = l.length → ∀ a w, wpListIn (FW ro) 0 P l.toArray Q (l.drop i) a w →
    wpAnyIn (FW ro) 0 P .any l.toArray Q f (firstN l.length i) a w := by
  simp only [drawOk, Bool.and_eq_true, List.all_eq_true, List.mem_range] at hc
  obtain ⟨⟨hc1, _⟩, hc3⟩ := hc
  have hready : ∀ i, k ≤ i → i ≤ l.length → ∀ j, j ∈ Region.ready .any l.toArray (firstN l.length i) → j = i ∧ i < l.length := by
    intro i hk hi j hj
    rw [ready_iff] at hj
    obtain ⟨h1, h2, h3⟩ := hj
    rw [firstN_getD _ _ _ _ h1] at h2
    have hij : i ≤ j := by simpa using h2
    rcases Nat.lt_or_ge i j with hlt | hge
    · have h4 := hc3 j h1
      simp only [Bool.or_eq_true, decide_eq_true_eq] at h4
      rcases h4 with h4 | h4
      · omega
      have := h3 (j - 1) (by simpa using h4)
      rw [firstN_getD _ _ _ _ om] at this
      simp only [decide_eq_true_eq] at this
      omega
    exact ⟨by omega, by omega⟩
  intro f
  induction f with
  | zero =>
    intro i hk hi a w h
    have hi' : i = l.length := by omega
    refine ⟨?_, ?_⟩
    · rw [List.eq_nil_iff_forall_not_mem]
      intro j hj
      have := hready i hk om j hj
      omega
    subst hi'
    rw [List.drop_length] at h
    exact h
  | succ f ih =>
    intro i hk hi a w h
    have hlt : i < l.length := by omega
    have hin : i ∈ Region.ready .any l.toArray (firstN l.length i) := by
      rw [ready_iff]
      refine ⟨hlt, by rw [firstN_getD _ _ _ _ hlt]; simp, fun p hp => ?_⟩
      have := hc1 i hlt p hp
      simp only [decide_eq_true_eq] at this
      rw [firstN_getD _ _ _ _ om]
      simpa using this
    refine ⟨fun hnil => (by rw [hnil] at hin; cases hin), fun j hj => ?_⟩
    obtain ⟨rfl, _⟩ := hready i hk om j hj
    rw [List.drop_eq_getElem_cons hlt] at h
    unfold wpOpIn
    rw [List.getElem?_toArray, List.getElem?_eq_getElem hlt, firstN_set _ _]
    simp only [wpListIn] at h
    simp only
    split
    · rename_i hw
      rw [if_pos hw] at h
      exact Oper.wpIn_mono (fun a w h => ih (j + 1) om om a w h) h
    rename_i hw
    rw [if_neg hw] at h
    exact ⟨h.1, ih (j + 1) om om _ _ h.2⟩

/-- what the prefix's list says, by places -/
theorem Obs.at_ {ea eo : Env} {l : List Oper} {vs : List (Nat × Value)} {ks : List (List Nat)} {tail : List Oper} (h : Obs ro P S w0 n ds H ea l vs ks tail eo) :
    l = l.take vs.length ++ tail ∧ eo = vs.reverse ++ ea ∧ ∀ i, i < vs.length → ∃ d v op ty pos aft e1, l[i]? = some ⟨some d, op, ty, pos, aft, none⟩ ∧ vs[i]? = some (d, v) ∧ EnvSub e1 ((vs.take i).reverse ++ ea) ∧ ks[i]? = some (e1.map (·.1)) ∧
      ∀ e, EnvSub e1 e → OT ro P S w0 n ds H e ⟨some d, op, ty, pos, aft, none⟩ (fun X => X ((d, v) :: e) H) := by
  induction h with
  | done => exact ⟨by simp, by simp, fun i hi => by simp at hi⟩
  | cons e1 ha h t ih =>
    refine ⟨by simp [← ih.1], by rw [ih.2.1]; simp, fun i hi => ?_⟩
    cases i with
    | zero => exact ⟨_, _, _, _, _, _, e1, rfl, rfl, by simpa using ha, rfl, h⟩
    | succ i =>
      obtain ⟨d', v', op', ty', pos', aft', e1', h1, h2, h3, h4, h5⟩ := ih.2.2 i (by simpa using hi)
      exact ⟨d', v', op', ty', pos', aft', e1', by simpa using h1, by simpa using h2, by simpa using h3, by simpa using h4, h5⟩

theorem EnvSub.of {e1 e : Env} : ∀ {e' : Env}, EnvSub e1 e' → (∀ t v, t ∈ e1.map (·.1) → Get e' t v → Get e t v) → EnvSub e1 e := by
  intro e' h
  induction h with
  | nil => exact fun _ => .nil
  | cons g h ih => exact fun hk => .cons (hk _ _ Q22 g) (ih fun t v ht g => hk t v (by simp at ht ⊢; exact Or.inr ht) g)

theorem beq_no {i t : Nat} (h : i ≠ t) : Nat.beq i t = false := by
  cases hb : Nat.beq i t with
  | false => rfl
  | true => exact absurd (Nat.eq_of_beq_eq_true hb) h

theorem get_append {vs : List (Nat × Value)} {e : Env} {t : Nat} {v : Value} (hn : (vs.map (·.1)).Nodup) (h : (t, v) ∈ vs) : Get (vs ++ e) t v := by
  induction vs with
  | nil => cases h
  | cons x vs ih =>
    obtain ⟨i, u⟩ := x
    rw [List.map_cons, List.nodup_cons] at hn
    rcases List.mem_cons.1 h with h | h
    · injection h with h1 h2; subst h1 h2; exact .hit
    refine .skip ?_ (ih hn.2 h)
    refine beq_no ?_
    rintro rfl
    exact hn.1 (List.mem_map.2 ⟨_, h, rfl⟩)

theorem get_append_right {vs : List (Nat × Value)} {e : Env} {t : Nat} {v : Value} (hn : t ∉ vs.map (·.1)) (h : Get e t v) : Get (vs ++ e) t v := by
  induction vs with
  | nil => exact h
  | cons x vs ih =>
    obtain ⟨i, u⟩ := x
    simp only [List.map_cons, List.mem_cons, not_or] at hn
    refine .skip ?_ (ih hn.2)
    exact beq_no fun e => hn.1 e.symm

theorem get_split {vs : List (Nat × Value)} {e : Env} {t : Nat} {v : Value} (h : Get (vs ++ e) t v) : (t, v) ∈ vs ∨ Get e t v := by
  induction vs with
  | nil => exact Or.inr h
  | cons x vs ih =>
    obtain ⟨i, u⟩ := x
    cases h with
    | hit => exact Or.inl List.mem_cons_self
    | skip _ g =>
      rcases ih g with h | h
      · exact Or.inl (List.mem_cons_of_mem _ h)
      exact Or.inr h

theorem Get.key {e : Env} {t : Nat} {v : Value} (h : Get e t v) : t ∈ e.map (·.1) := by
  induction h with
  | hit => simp
  | skip _ _ ih => simp [ih]

/-- the listed part of the prefix's values -/
def listedVals (vals : List (Nat × Value)) (listed : Array Bool) : List (Nat × Value) :=
  (vals.zipIdx.filter (fun x => listed.getD x.2 false)).map (·.1)

theorem mem_listedVals {vals : List (Nat × Value)} {listed : Array Bool} {x : Nat × Value} : x ∈ listedVals vals listed ↔ ∃ i, vals[i]? = some x ∧ listed.getD i false = true := by
  unfold listedVals
  rw [List.mem_map]
  constructor
  · rintro ⟨⟨y, i⟩, hy, rfl⟩
    rw [List.mem_filter] at hy
    exact ⟨i, List.mem_zipIdx_iff_getElem?.1 hy.1, hy.2⟩
  rintro ⟨i, h1, h2⟩
  exact ⟨(x, i), List.mem_filter.2 ⟨List.mem_zipIdx_iff_getElem?.2 h1, h2⟩, rfl⟩

theorem listedVals_sub (vals : List (Nat × Value)) (listed : Array Bool) : (listedVals vals listed).Sublist vals := by
  unfold listedVals
  have h := (List.filter_sublist (l := vals.zipIdx) (p := fun x => listed.getD x.2 false)).map (·.1)
  rwa [List.zipIdx_map_fst] at h

theorem listedVals_all {vals : List (Nat × Value)} {listed : Array Bool} (h : ∀ i, i < vals.length → listed.getD i false = true) : listedVals vals listed = vals := by
  unfold listedVals
  rw [List.filter_eq_self.2, List.zipIdx_map_fst]
  rintro ⟨x, i⟩ hx
  refine h i ?_
  have := List.mem_zipIdx_iff_getElem?.1 hx
  exact (List.getElem?_eq_some_iff.1 this).1

theorem countP_lt (k : Nat) : ∀ m, k ≤ m → (List.range m).countP (fun i => decide (i < k)) = k := by
  intro m
  induction m with
  | zero => intro h; simp; omega
  | succ m ih =>
    intro h
    rw [List.range_succ, List.countP_append]
    rcases Nat.lt_or_ge k (m + 1) with h1 | h1
    · rw [ih om]
      simp
      omega
    have hk : k = m + 1 := by omega
    subst hk
    have h2 : (List.range m).countP (fun i => decide (i < m + 1)) = (List.range m).length := by
      rw [List.countP_eq_length]
      intro i hi
      have := List.mem_range.1 hi
      simp
      omega
    rw [h2]
    simp

theorem countP_one {p q : Nat → Bool} {j : Nat} (hq : ∀ i, q i = (decide (i = j) || p i)) (hp : p j = false) :
    ∀ m, (List.range m).countP q = (List.range m).countP p + if j < m then 1 else 0 := by
  intro m
  induction m with
  | zero => simp
  | succ m ih =>
    rw [List.range_succ, List.countP_append, List.countP_append, ih]
    simp only [List.countP_cons, List.countP_nil, hq m]
    rcases Nat.lt_trichotomy j m with h | h | h
    · have h1 : ¬ m = j := by omega
      simp [h1, h, Nat.lt_succ_of_lt h]
      omega
    · subst h
      simp [hp]
    have h1 : ¬ m = j := by omega
    have h2 : ¬ j < m := by omega
    have h3 : ¬ j < m + 1 := by omega
    simp [h1, h2, h3]

theorem getD_set (listed : Array Bool) (i j : Nat) (hj : j < listed.size) : (listed.setIfInBounds j true).getD i false = (decide (i = j) || listed.getD i false) := by
  simp only [Array.getD_eq_getD_getElem?, Array.getElem?_setIfInBounds]
  by_cases h : j = i
  · subst h; simp [hj]
  have h' : ¬ i = j := fun e => h e.symm
  simp [h, h']

theorem SW_draw {id : Nat} {l tail : List Oper} {vals : List (Nat × Value)} {ks : List (List Nat)} {eo : Env} (hm : P.follows .mixedOrders = true) (ho : Obs ro P S w0 n ds H e0 l vals ks tail eo)
    (hc : drawOk l vals.length = true) (hsl : slotsOk e0 vals = true) (hrd : readsOk l e0 vals ks = true) (ht : SL ro P S w0 n ds l.toArray H eo tail Q) : SW ro P S w0 n ds H e0 (Code.region id l.toArray true) Q := by
  intro a w ha hw
  refine wpIn_region_any hm ?_
  have hwd : Holds S w0 H { w with drawn := w.drawn + 1 } := hw.step (Ext.drew w)
  generalize { w with drawn := w.drawn + 1 } = w1 at hwd
  clear hw
  obtain ⟨hl, heo, hob⟩ := ho.at_
  simp only [slotsOk, Bool.and_eq_true, List.all_eq_true, Bool.not_eq_true', List.contains_eq_mem, decide_eq_false_iff_not] at hsl
  obtain ⟨hdis, hnd⟩ := hsl
  have hnd := nodupB_iff hnd
  simp only [readsOk, List.all_eq_true, List.mem_range, Bool.or_eq_true, List.contains_eq_mem, decide_eq_true_eq, List.any_eq_true, beq_iff_eq] at hrd
  have hdis' : ∀ t v, Get e0 t v → t ∉ vals.map (·.1) := fun t v g hm => hdis t hm g.key
  have hklen : vals.length ≤ l.length := by
    rcases Nat.lt_or_ge l.length vals.length with h | h
    · obtain ⟨d, v, op, ty, pos, aft, e1, h1, _⟩ := hob l.length h
      simp at h1
    exact h
  have htail : tail = l.drop vals.length := by
    have h1 : l.take vals.length ++ tail = l.take vals.length ++ l.drop vals.length := by rw [← hl, List.take_append_drop]
    exact List.append_cancel_left h1
  have hc' := hc
  simp only [drawOk, Bool.and_eq_true, List.all_eq_true, List.mem_range] at hc'
  obtain ⟨⟨hc1, hc2⟩, hc3⟩ := hc'
  have key : ∀ (f : Nat) (listed : Array Bool) (a : Act) (w : World), listed.size = l.length →
      (∀ i, vals.length ≤ i → listed.getD i false = false) →
      (∀ i, i < l.length → listed.getD i false = true → ∀ p ∈ predsAt l i, listed.getD p false = true) →
      f + ((List.range l.length).countP fun i => listed.getD i false) = l.length →
      Sees n ds (listedVals vals listed ++ e0) a → Holds S w0 H w → wpAnyIn (FW ro) 0 P .any l.toArray Q f listed a w := by
    have caseA : ∀ (f : Nat) (listed : Array Bool) (a : Act) (w : World), listed.size = l.length → (∀ i, vals.length ≤ i → listed.getD i false = false) →
        f + ((List.range l.length).countP fun i => listed.getD i false) = l.length →
        Sees n ds (listedVals vals listed ++ e0) a → Holds S w0 H w → (∀ i, i < vals.length → listed.getD i false = true) → wpAnyIn (FW ro) 0 P .any l.toArray Q f listed a w := by
      intro f listed a w hs hpre hcount hsee hw hA
      have hlisted : listed = firstN l.length vals.length := by
        apply Array.ext
        · simp [firstN, hs]
        intro i h1 h2
        simp only [firstN, List.getElem_toArray, List.getElem_map, List.getElem_range]
        rcases Nat.lt_or_ge i vals.length with h | h
        · have h3 := hA i h
          simp only [Array.getD_eq_getD_getElem?, Array.getElem?_eq_getElem h1, Option.getD_some] at h3
          simp [h3, h]
        have h3 := hpre i h
        simp only [Array.getD_eq_getD_getElem?, Array.getElem?_eq_getElem h1, Option.getD_some] at h3
        simp [h3]; omega
      have hcnt : (List.range l.length).countP (fun i => listed.getD i false) = vals.length := by
        rw [← countP_lt vals.length l.length hklen]
        apply List.countP_congr
        intro i hi
        have hi := List.mem_range.1 hi
        rcases Nat.lt_or_ge i vals.length with h | h
        · simp [hA i h, h]
        simp only [hpre i h, Bool.false_eq_true, decide_eq_true_eq, false_iff]; omega
      rw [listedVals_all hA] at hsee
      rw [hlisted]
      refine tail_any (k := vals.length) hc f vals.length (Nat.le_refl _) om a w ?_
      rw [← htail]
      refine ht a w ⟨hsee.size, hsee.defers, fun t v g => hsee.slot t v ?_⟩ hw
      rw [heo] at g
      rcases get_split g with g | g
      · exact get_append hnd (List.mem_reverse.1 g)
      exact get_append_right (hdis' t v g) g
    intro f
    induction f with
    | zero =>
      intro listed a w hs hpre hdown hcount hsee hw
      refine caseA 0 listed a w hs hpre hcount hsee hw ?_
      have : (List.range l.length).countP (fun i => listed.getD i false) = (List.range l.length).length := by simpa using hcount
      rw [List.countP_eq_length] at this
      intro i hi
      exact this i (List.mem_range.2 om)
    | succ f ih =>
      intro listed a w hs hpre hdown hcount hsee hw
      by_cases hA : ∀ i, i < vals.length → listed.getD i false = true
      · exact caseA _ listed a w hs hpre hcount hsee hw hA
      have hread : ∀ i, i < vals.length → listed.getD i false = false → ∃ j, j ∈ Region.ready .any l.toArray listed := by
        intro i
        induction i using Nat.strongRecOn with
        | _ i ihi =>
          intro hi hu
          by_cases hp : ∀ p ∈ predsAt l i, listed.getD p false = true
          · refine ⟨i, (ready_iff i).2 ⟨by omega, ?_, hp⟩⟩
            have hlt : i < listed.size := by omega
            simpa [Array.getD_eq_getD_getElem?, hlt] using hu
          simp only [Classical.not_forall] at hp
          obtain ⟨p, hp1, hp2⟩ := hp
          have := hc1 i om p hp1
          simp only [decide_eq_true_eq] at this
          exact ihi p this om (by simpa using hp2)
      simp only [Classical.not_forall] at hA
      obtain ⟨i0, hi0, hu0⟩ := hA
      obtain ⟨j0, hj0⟩ := hread i0 hi0 (by simpa using hu0)
      refine ⟨fun hnil => (by rw [hnil] at hj0; cases hj0), fun j hj => ?_⟩
      rw [ready_iff] at hj
      obtain ⟨hj1, hj2, hj3⟩ := hj
      have hjs : j < listed.size := by omega
      have hj2' : listed.getD j false = false := by simpa [Array.getD_eq_getD_getElem?, hjs] using hj2
      have hjk : j < vals.length := by
        rcases Nat.lt_or_ge j vals.length with h | h
        · exact h
        exfalso
        rcases Nat.lt_or_ge vals.length j with h1 | h1
        · have h2 := hc3 j hj1
          simp only [Bool.or_eq_true, decide_eq_true_eq] at h2
          rcases h2 with h2 | h2
          · omega
          have h4 := hj3 (j - 1) (by simpa using h2)
          rw [hpre (j - 1) om] at h4
          cases h4
        have hjk : j = vals.length := by omega
        subst hjk
        have hall : ∀ d i, i + d = vals.length → i < vals.length → listed.getD i false = true := by
          intro d
          induction d using Nat.strongRecOn with
          | _ d ihd =>
            intro i hid hi
            have h2 := hc2 i hi
            simp only [Bool.or_eq_true, beq_iff_eq, List.any_eq_true, List.mem_range] at h2
            rcases h2 with (h2 | ⟨s, hs1, hs2⟩) | h2
            · omega
            · have hs2 : i ∈ predsAt l s := by simpa using hs2
              have h4 := hc1 s om i hs2
              simp only [decide_eq_true_eq] at h4
              exact hdown s om (ihd (vals.length - s) om s om hs1) i hs2
            exact hj3 i (by simpa using h2)
        rw [hall (vals.length - i0) i0 om hi0] at hu0
        exact hu0 rfl
      obtain ⟨d, v, op, ty, pos, aft, e1, h1, h2, h3, hks, h4⟩ := hob j hjk
      have hsubl : ∀ t, t ∈ (listedVals vals listed).map (·.1) → t ∈ vals.map (·.1) := fun t ht => ((listedVals_sub vals listed).map (·.1)).subset ht
      have hndl : ((listedVals vals listed).map (·.1)).Nodup := ((listedVals_sub vals listed).map (·.1)).nodup hnd
      have hbase : ∀ t u, Get e0 t u → Get (listedVals vals listed ++ e0) t u := fun t u g => get_append_right (fun hm => hdis' t u g (hsubl t hm)) g
      have hsub : EnvSub e1 (listedVals vals listed ++ e0) := by
        refine h3.of fun t u ht g => ?_
        have hr := hrd j hjk t (by simpa [hks] using ht)
        rcases get_split g with g | g
        · have hmem : (t, u) ∈ vals := List.mem_of_mem_take (List.mem_reverse.1 g)
          rcases hr with hr | ⟨p, hp, hpt⟩
          · exact absurd hr (hdis t (List.mem_map.2 ⟨_, hmem, rfl⟩))
          obtain ⟨i, hi⟩ := List.mem_iff_getElem?.1 hmem
          have g1 : (vals.map (·.1))[i]? = some t := by rw [List.getElem?_map, hi]; rfl
          have hlt : i < (vals.map (·.1)).length := (List.getElem?_eq_some_iff.1 g1).1
          have hip : i = p := (List.getElem?_inj hlt hnd).1 (g1.trans hpt.symm)
          subst hip
          exact get_append hndl (mem_listedVals.2 ⟨i, hi, hj3 i hp⟩)
        exact hbase t u g
      have hdm : (d, v) ∈ vals := List.mem_of_getElem? h2
      have hd0 : ∀ t u, Get e0 t u → d ≠ t := fun t u g e => hdis' t u g (e ▸ List.mem_map.2 ⟨_, hdm, rfl⟩)
      have hset := fun i => getD_set listed i j hjs
      unfold wpOpIn
      rw [List.getElem?_toArray, h1]
      simp only [Region.wanted, if_true]
      refine h4 _ hsub _ Q ?_ a w hsee hw
      intro a' w' ha' hw'
      refine ih (listed.setIfInBounds j true) a' w' (by simpa using hs) (fun i hi => ?_) (fun i hi h p hp => ?_) ?_ ⟨ha'.size, ha'.defers, fun t u g => ha'.slot t u ?_⟩ hw'
      · have hne : ¬ i = j := by omega
        rw [hset, hpre i hi]; simp [hne]
      · rw [hset] at h ⊢
        simp only [Bool.or_eq_true, decide_eq_true_eq] at h ⊢
        rcases h with h | h
        · subst h; exact Or.inr (hj3 p hp)
        exact Or.inr (hdown i hi h p hp)
      · have := countP_one (p := fun i => listed.getD i false) (q := fun i => (listed.setIfInBounds j true).getD i false) hset hj2' l.length
        rw [if_pos hj1] at this
        omega
      rcases get_split g with g | g
      · obtain ⟨i, hi1, hi2⟩ := mem_listedVals.1 g
        rw [hset] at hi2
        simp only [Bool.or_eq_true, decide_eq_true_eq] at hi2
        by_cases hij : i = j
        · subst hij
          rw [h2] at hi1
          injection hi1 with hi1
          injection hi1 with e1 e2
          subst e1 e2
          exact .hit
        rcases hi2 with hi2 | hi2
        · exact absurd hi2 hij
        refine .skip (beq_no ?_) (get_append hndl (mem_listedVals.2 ⟨i, hi1, hi2⟩))
        rintro rfl
        apply hij
        have g1 : (vals.map (·.1))[i]? = some d := by rw [List.getElem?_map, hi1]; rfl
        have g2 : (vals.map (·.1))[j]? = some d := by rw [List.getElem?_map, h2]; rfl
        have hlt : i < (vals.map (·.1)).length := (List.getElem?_eq_some_iff.1 g1).1
        exact (List.getElem?_inj hlt hnd).1 (g1.trans g2.symm)
      exact .skip (beq_no (hd0 t u g)) (hbase t u g)
  refine key l.length (Array.replicate l.toArray.size false) a w1 Q22 (fun i _ => ?_) (fun i _ h => ?_) ?_ ?_ hwd
  · simp [Array.getD_eq_getD_getElem?, Array.getElem?_replicate]; split <;> rfl
  · simp [Array.getD_eq_getD_getElem?, Array.getElem?_replicate] at h; split at h <;> simp at h
  · have h0 : (List.range l.length).countP (fun i => (Array.replicate l.toArray.size false).getD i false) = 0 := by
      rw [List.countP_eq_zero]
      intro i _
      simp [Array.getD_eq_getD_getElem?, Array.getElem?_replicate]; split <;> simp
    omega
  have h0 : listedVals vals (Array.replicate l.toArray.size false) = [] := by
    rw [List.eq_nil_iff_forall_not_mem]
    intro x hx
    obtain ⟨i, _, h⟩ := mem_listedVals.1 hx
    simp [Array.getD_eq_getD_getElem?, Array.getElem?_replicate] at h; split at h <;> simp at h
  rw [h0]
  exact ha
end
section
variable {ro : Option Nat} {P : Program} {S : Nat → Prop} {w0 : World} {n : Nat} {ds : List Deferred} {H : Hp} {e e' : Env} {Q : Exit → Act → World → Prop} {x y c : Code} {ops : Array Oper} {l : List Oper}
variable {d t : Nat} {op : Op} {ty : TypeId} {pos : String} {aft : Array Edge} {u v : Value}

variable {ea eo : Env} {vs : List (Nat × Value)} {ks : List (List Nat)} {tail : List Oper}
theorem Z0 (h : ∀ e, EnvSub [] e → OT ro P S w0 n ds H e ⟨some d, op, ty, pos, aft, none⟩ (fun X => X ((d, v) :: e) H)) (k : Obs ro P S w0 n ds H ((d, v) :: ea) l vs ks tail eo) : Obs ro P S w0 n ds H ea (⟨some d, op, ty, pos, aft, none⟩ :: l) ((d, v) :: vs) ([] :: ks) tail eo := .cons [] .nil h k
theorem Z1 (t : Nat) (g : lk ea t = some u) (h : ∀ e, EnvSub [(t, u)] e → OT ro P S w0 n ds H e ⟨some d, op, ty, pos, aft, none⟩ (fun X => X ((d, v) :: e) H)) (k : Obs ro P S w0 n ds H ((d, v) :: ea) l vs ks tail eo) : Obs ro P S w0 n ds H ea (⟨some d, op, ty, pos, aft, none⟩ :: l) ((d, v) :: vs) ([t] :: ks) tail eo := .cons [(t, u)] (.cons (.o g) .nil) h k
theorem Z2 (t s : Nat) {u1 : Value} (g : lk ea t = some u) (g1 : lk ea s = some u1) (h : ∀ e, EnvSub [(t, u), (s, u1)] e → OT ro P S w0 n ds H e ⟨some d, op, ty, pos, aft, none⟩ (fun X => X ((d, v) :: e) H)) (k : Obs ro P S w0 n ds H ((d, v) :: ea) l vs ks tail eo) : Obs ro P S w0 n ds H ea (⟨some d, op, ty, pos, aft, none⟩ :: l) ((d, v) :: vs) ([t, s] :: ks) tail eo := .cons [(t, u), (s, u1)] (.cons (.o g) (.cons (.o g1) .nil)) h k
theorem Zm (g : lk ea t = some v) (k : Obs ro P S w0 n ds H ((d, v) :: ea) l vs ks tail eo) (hd : Nat.blt d n = true := by exact rfl) : Obs ro P S w0 n ds H ea (⟨some d, .move (.tmp t), ty, pos, aft, none⟩ :: l) ((d, v) :: vs) ([t] :: ks) tail eo := Z1 t g (fun _ he => O_move hd (Eh he)) k
theorem Zn {b off : Nat} {sp : Option Nat} (g : lk ea t = some (.pointer (some ⟨b, off, sp⟩))) (k : Obs ro P S w0 n ds H ((d, .pointer (some ⟨b, off, sp⟩)) :: ea) l vs ks tail eo) (hd : Nat.blt d n = true := by exact rfl) : Obs ro P S w0 n ds H ea (⟨some d, .nilCheck (.tmp t), ty, pos, aft, none⟩ :: l) ((d, .pointer (some ⟨b, off, sp⟩)) :: vs) ([t] :: ks) tail eo := Z1 t g (fun _ he => O_nilCheck hd (Eh he)) k
theorem Zl {T : TypeId} {b off : Nat} {f : Bool} {o : Obj} (g : lk ea t = some (.pointer (some ⟨b, off, none⟩))) (hT : OneC P T) (hm : HMem H b f o) (hc : cellOf o off = some v) (k : Obs ro P S w0 n ds H ((d, v) :: ea) l vs ks tail eo) (hd : Nat.blt d n = true := by exact rfl) : Obs ro P S w0 n ds H ea (⟨some d, .load T (.tmp t), ty, pos, aft, none⟩ :: l) ((d, v) :: vs) ([t] :: ks) tail eo := Z1 t g (fun _ he => O_load hd (Eh he) hT hm hc) k
theorem Zf {T : TypeId} {fs : Array Field} {f : Field} {i s b off : Nat} (g : lk ea t = some (.pointer (some ⟨b, off, none⟩))) (hT : P.underlying T = some (.struct fs)) (hf : fs.toList[i]? = some f) (hs : Sz P f.type (s + 1)) (k : Obs ro P S w0 n ds H ((d, .pointer (some ⟨b, off + f.offset, none⟩)) :: ea) l vs ks tail eo) (hd : Nat.blt d n = true := by exact rfl) :
    Obs ro P S w0 n ds H ea (⟨some d, .fieldAddr T (.tmp t) i, ty, pos, aft, none⟩ :: l) ((d, .pointer (some ⟨b, off + f.offset, none⟩)) :: vs) ([t] :: ks) tail eo := Z1 t g (fun _ he => O_fieldAddr hd (Eh he) hT hf hs) k
theorem Zw {id : Nat} (ho : Obs ro Tryz.prog S w0 n ds H ea l vs ks tail eo) (ht : SL ro Tryz.prog S w0 n ds l.toArray H eo tail Q) (hc : drawOk l vs.length = true := by kernel_rfl) (hsl : slotsOk ea vs = true := by kernel_rfl) (hrd : readsOk l ea vs ks = true := by kernel_rfl) : SW ro Tryz.prog S w0 n ds H ea (Code.region id l.toArray true) Q := SW_draw mixed ho hc hsl hrd ht
end
end

section
open Go
open Tryz
set_option maxRecDepth 100000

theorem f195_ok (v : Value) (b off len cap : Nat) (o : Obj) (b0 b1 b2 b3 : Nat) (hl : 4 ≤ len) (l0 : b0 < 256) (l1 : b1 < 256) (l2 : b2 < 256) (l3 : b3 < 256) (h0 : cellOf o (off + 0) = some (.int .u8 (b0 : Nat))) (h1 : cellOf o (off + 1) = some (.int .u8 (b1 : Nat))) (h2 : cellOf o (off + 2) = some (.int .u8 (b2 : Nat))) (h3 : cellOf o (off + 3) = some (.int .u8 (b3 : Nat))) (w : World) (hb : w.heap[b]? = some o) : Calls Tryz.prog 195 #[v, .slice (some ⟨b, off, none⟩) len cap] w (fun r w' => r = .returned (.int .u32 ((b0 + b1 * 2 ^ 8 + b2 * 2 ^ 16 + b3 * 2 ^ 24 : Nat) : Int)) ∧ Ext noS w w') := by
 refine sw_calls (S := noS) func195 rfl ntmps195 (sees2 _ _ _ rfl) (Holds.start1 _ _ hb) ?_
 refine SR fun _ k1 => ?_
 refine Sc (O_box rfl (.tmp .hit) rfl) ?_
 intro bk2 _
 refine Ac ?_
 refine SN k1 ?_
 refine Ek [4, 1] ?_
 refine SR fun _ k2 => ?_
 refine Mo ?_
 refine Sc (O_indexAddr rfl (.tmp .hit) .const underlying26 sz5 dc om) ?_
 refine Sc (O_load rfl (.tmp .hit) oc5 .a h3) ?_
 refine SN k2 ?_
 refine Ek [4, 1] ?_
 refine Sq fun _ k3 => ?_
 refine Zw (Zm rfl (Z1 8 rfl (fun e he => O_indexAddr rfl (Eh he) .const underlying26 sz5 dc om) (Z1 9 rfl (fun e he => O_load rfl (Eh he) oc5 .a h0) (Z1 10 rfl (fun e he => O_convert rfl (Eh he) (fun _ => c_int ⟨_, underlying5⟩ underlying73 (wrap_u32 _ om))) (Zm rfl (Z1 12 rfl (fun e he => O_indexAddr rfl (Eh he) .const underlying26 sz5 dc om) (Z1 13 rfl (fun e he => O_load rfl (Eh he) oc5 .a h1) (Z1 14 rfl (fun e he => O_convert rfl (Eh he) (fun _ => c_int ⟨_, underlying5⟩ underlying73 (wrap_u32 _ om))) (Z1 15 rfl (fun e he => O_binOp rfl (Eh he) .const (fun _ => b_shl .u32 b1 8 dc (wrap_u32 _ om) _)) (Z2 11 16 rfl rfl (fun e he => O_binOp rfl (Eh he) (Eo he) (fun _ => b_or_u32 (b0) b1 8 om om)) (Zm rfl (Z1 18 rfl (fun e he => O_indexAddr rfl (Eh he) .const underlying26 sz5 dc om) (Z1 19 rfl (fun e he => O_load rfl (Eh he) oc5 .a h2) (Z1 20 rfl (fun e he => O_convert rfl (Eh he) (fun _ => c_int ⟨_, underlying5⟩ underlying73 (wrap_u32 _ om))) (Z1 21 rfl (fun e he => O_binOp rfl (Eh he) .const (fun _ => b_shl .u32 b2 16 dc (wrap_u32 _ om) _)) (Z2 17 22 rfl rfl (fun e he => O_binOp rfl (Eh he) (Eo he) (fun _ => b_or_u32 (b0 + b1 * 2 ^ 8) b2 16 om om)) (Zm rfl (Z1 24 rfl (fun e he => O_indexAddr rfl (Eh he) .const underlying26 sz5 dc om) (Z1 25 rfl (fun e he => O_load rfl (Eh he) oc5 .a h3) (Z1 26 rfl (fun e he => O_convert rfl (Eh he) (fun _ => c_int ⟨_, underlying5⟩ underlying73 (wrap_u32 _ om))) (Z1 27 rfl (fun e he => O_binOp rfl (Eh he) .const (fun _ => b_shl .u32 b3 24 dc (wrap_u32 _ om) _)) .done))))))))))))))))))))) ?_
 refine Sc (O_binOp rfl (.tmp (.o rfl)) (.tmp .hit) (fun _ => b_or_u32 (b0 + b1 * 2 ^ 8 + b2 * 2 ^ 16) b3 24 om om)) ?_
 refine Ah ?_
 refine SN k3 ?_
 refine Rt ?_
 exact SK_ret1 rfl .hit (fun w hw => ⟨rfl, hw.ext⟩)

theorem f187_ok (v : Value) (b off len cap : Nat) (o : Obj) (b0 b1 b2 b3 : Nat) (hl : 4 ≤ len) (l0 : b0 < 256) (l1 : b1 < 256) (l2 : b2 < 256) (l3 : b3 < 256) (h0 : cellOf o (off + 0) = some (.int .u8 (b0 : Nat))) (h1 : cellOf o (off + 1) = some (.int .u8 (b1 : Nat))) (h2 : cellOf o (off + 2) = some (.int .u8 (b2 : Nat))) (h3 : cellOf o (off + 3) = some (.int .u8 (b3 : Nat))) (w : World) (hb : w.heap[b]? = some o) : Calls Tryz.prog 187 #[v, .slice (some ⟨b, off, none⟩) len cap] w (fun r w' => r = .returned (.int .u32 ((b3 + b2 * 2 ^ 8 + b1 * 2 ^ 16 + b0 * 2 ^ 24 : Nat) : Int)) ∧ Ext noS w w') := by
 refine sw_calls (S := noS) func187 rfl ntmps187 (sees2 _ _ _ rfl) (Holds.start1 _ _ hb) ?_
 refine SR fun _ k1 => ?_
 refine Sc (O_box rfl (.tmp .hit) rfl) ?_
 intro bk2 _
 refine Ac ?_
 refine SN k1 ?_
 refine Ek [4, 1] ?_
 refine SR fun _ k2 => ?_
 refine Mo ?_
 refine Sc (O_indexAddr rfl (.tmp .hit) .const underlying26 sz5 dc om) ?_
 refine Sc (O_load rfl (.tmp .hit) oc5 .a h3) ?_
 refine SN k2 ?_
 refine Ek [4, 1] ?_
 refine Sq fun _ k3 => ?_
 refine Zw (Zm rfl (Z1 8 rfl (fun e he => O_indexAddr rfl (Eh he) .const underlying26 sz5 dc om) (Z1 9 rfl (fun e he => O_load rfl (Eh he) oc5 .a h3) (Z1 10 rfl (fun e he => O_convert rfl (Eh he) (fun _ => c_int ⟨_, underlying5⟩ underlying73 (wrap_u32 _ om))) (Zm rfl (Z1 12 rfl (fun e he => O_indexAddr rfl (Eh he) .const underlying26 sz5 dc om) (Z1 13 rfl (fun e he => O_load rfl (Eh he) oc5 .a h2) (Z1 14 rfl (fun e he => O_convert rfl (Eh he) (fun _ => c_int ⟨_, underlying5⟩ underlying73 (wrap_u32 _ om))) (Z1 15 rfl (fun e he => O_binOp rfl (Eh he) .const (fun _ => b_shl .u32 b2 8 dc (wrap_u32 _ om) _)) (Z2 11 16 rfl rfl (fun e he => O_binOp rfl (Eh he) (Eo he) (fun _ => b_or_u32 (b3) b2 8 om om)) (Zm rfl (Z1 18 rfl (fun e he => O_indexAddr rfl (Eh he) .const underlying26 sz5 dc om) (Z1 19 rfl (fun e he => O_load rfl (Eh he) oc5 .a h1) (Z1 20 rfl (fun e he => O_convert rfl (Eh he) (fun _ => c_int ⟨_, underlying5⟩ underlying73 (wrap_u32 _ om))) (Z1 21 rfl (fun e he => O_binOp rfl (Eh he) .const (fun _ => b_shl .u32 b1 16 dc (wrap_u32 _ om) _)) (Z2 17 22 rfl rfl (fun e he => O_binOp rfl (Eh he) (Eo he) (fun _ => b_or_u32 (b3 + b2 * 2 ^ 8) b1 16 om om)) (Zm rfl (Z1 24 rfl (fun e he => O_indexAddr rfl (Eh he) .const underlying26 sz5 dc om) (Z1 25 rfl (fun e he => O_load rfl (Eh he) oc5 .a h0) (Z1 26 rfl (fun e he => O_convert rfl (Eh he) (fun _ => c_int ⟨_, underlying5⟩ underlying73 (wrap_u32 _ om))) (Z1 27 rfl (fun e he => O_binOp rfl (Eh he) .const (fun _ => b_shl .u32 b0 24 dc (wrap_u32 _ om) _)) .done))))))))))))))))))))) ?_
 refine Sc (O_binOp rfl (.tmp (.o rfl)) (.tmp .hit) (fun _ => b_or_u32 (b3 + b2 * 2 ^ 8 + b1 * 2 ^ 16) b0 24 om om)) ?_
 refine Ah ?_
 refine SN k3 ?_
 refine Rt ?_
 exact SK_ret1 rfl .hit (fun w hw => ⟨rfl, hw.ext⟩)

theorem f194_ok (v : Value) (b off len cap : Nat) (o : Obj) (b0 b1 : Nat) (hl : 2 ≤ len) (l0 : b0 < 256) (l1 : b1 < 256) (h0 : cellOf o (off + 0) = some (.int .u8 (b0 : Nat))) (h1 : cellOf o (off + 1) = some (.int .u8 (b1 : Nat))) (w : World) (hb : w.heap[b]? = some o) : Calls Tryz.prog 194 #[v, .slice (some ⟨b, off, none⟩) len cap] w (fun r w' => r = .returned (.int .u16 ((b0 + b1 * 2 ^ 8 : Nat) : Int)) ∧ Ext noS w w') := by
 refine sw_calls (S := noS) func194 rfl ntmps194 (sees2 _ _ _ rfl) (Holds.start1 _ _ hb) ?_
 refine SR fun _ k1 => ?_
 refine Sc (O_box rfl (.tmp .hit) rfl) ?_
 intro bk2 _
 refine Ac ?_
 refine SN k1 ?_
 refine Ek [4, 1] ?_
 refine SR fun _ k2 => ?_
 refine Mo ?_
 refine Sc (O_indexAddr rfl (.tmp .hit) .const underlying26 sz5 dc om) ?_
 refine Sc (O_load rfl (.tmp .hit) oc5 .a h1) ?_
 refine SN k2 ?_
 refine Ek [4, 1] ?_
 refine Sq fun _ k3 => ?_
 refine Zw (Zm rfl (Z1 8 rfl (fun e he => O_indexAddr rfl (Eh he) .const underlying26 sz5 dc om) (Z1 9 rfl (fun e he => O_load rfl (Eh he) oc5 .a h0) (Z1 10 rfl (fun e he => O_convert rfl (Eh he) (fun _ => c_int ⟨_, underlying5⟩ underlying178 (IntWalk.u16_in _ om))) (Zm rfl (Z1 12 rfl (fun e he => O_indexAddr rfl (Eh he) .const underlying26 sz5 dc om) (Z1 13 rfl (fun e he => O_load rfl (Eh he) oc5 .a h1) (Z1 14 rfl (fun e he => O_convert rfl (Eh he) (fun _ => c_int ⟨_, underlying5⟩ underlying178 (IntWalk.u16_in _ om))) (Z1 15 rfl (fun e he => O_binOp rfl (Eh he) .const (fun _ => b_shl .u16 b1 8 dc (IntWalk.u16_in _ om) _)) .done))))))))) ?_
 refine Sc (O_binOp rfl (.tmp (.o rfl)) (.tmp .hit) (fun _ => b_or_u16 b0 b1 8 om om)) ?_
 refine Ah ?_
 refine SN k3 ?_
 refine Rt ?_
 exact SK_ret1 rfl .hit (fun w hw => ⟨rfl, hw.ext⟩)

theorem f186_ok (v : Value) (b off len cap : Nat) (o : Obj) (b0 b1 : Nat) (hl : 2 ≤ len) (l0 : b0 < 256) (l1 : b1 < 256) (h0 : cellOf o (off + 0) = some (.int .u8 (b0 : Nat))) (h1 : cellOf o (off + 1) = some (.int .u8 (b1 : Nat))) (w : World) (hb : w.heap[b]? = some o) : Calls Tryz.prog 186 #[v, .slice (some ⟨b, off, none⟩) len cap] w (fun r w' => r = .returned (.int .u16 ((b1 + b0 * 2 ^ 8 : Nat) : Int)) ∧ Ext noS w w') := by
 refine sw_calls (S := noS) func186 rfl ntmps186 (sees2 _ _ _ rfl) (Holds.start1 _ _ hb) ?_
 refine SR fun _ k1 => ?_
 refine Sc (O_box rfl (.tmp .hit) rfl) ?_
 intro bk2 _
 refine Ac ?_
 refine SN k1 ?_
 refine Ek [4, 1] ?_
 refine SR fun _ k2 => ?_
 refine Mo ?_
 refine Sc (O_indexAddr rfl (.tmp .hit) .const underlying26 sz5 dc om) ?_
 refine Sc (O_load rfl (.tmp .hit) oc5 .a h1) ?_
 refine SN k2 ?_
 refine Ek [4, 1] ?_
 refine Sq fun _ k3 => ?_
 refine Zw (Zm rfl (Z1 8 rfl (fun e he => O_indexAddr rfl (Eh he) .const underlying26 sz5 dc om) (Z1 9 rfl (fun e he => O_load rfl (Eh he) oc5 .a h1) (Z1 10 rfl (fun e he => O_convert rfl (Eh he) (fun _ => c_int ⟨_, underlying5⟩ underlying178 (IntWalk.u16_in _ om))) (Zm rfl (Z1 12 rfl (fun e he => O_indexAddr rfl (Eh he) .const underlying26 sz5 dc om) (Z1 13 rfl (fun e he => O_load rfl (Eh he) oc5 .a h0) (Z1 14 rfl (fun e he => O_convert rfl (Eh he) (fun _ => c_int ⟨_, underlying5⟩ underlying178 (IntWalk.u16_in _ om))) (Z1 15 rfl (fun e he => O_binOp rfl (Eh he) .const (fun _ => b_shl .u16 b0 8 dc (IntWalk.u16_in _ om) _)) .done))))))))) ?_
 refine Sc (O_binOp rfl (.tmp (.o rfl)) (.tmp .hit) (fun _ => b_or_u16 b1 b0 8 om om)) ?_
 refine Ah ?_
 refine SN k3 ?_
 refine Rt ?_
 exact SK_ret1 rfl .hit (fun w hw => ⟨rfl, hw.ext⟩)
end
end Go.Proofs.YtoibhfpagkdleaaGreatDoor
