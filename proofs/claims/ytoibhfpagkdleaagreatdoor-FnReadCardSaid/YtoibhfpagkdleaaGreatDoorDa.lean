/-
  A REGION THAT DRAWS ITS ORDER, WITH EFFECTS: operations whose values are known are put off ("pending": done or not, nobody knows); an operation with an effect is one of the candidates.
-/
import Derived.Test.YtoibhfpagkdleaaGreatDoorSr
namespace Go.Proofs.YtoibhfpagkdleaaGreatDoor
section
open Go
open Tryz
set_option maxRecDepth 100000

/-- facts on blocks, found in a list -/
inductive FSub : Hp → Hp → Prop
  | nil {H : Hp} : FSub [] H
  | cons {b : Nat} {f : Bool} {o : Obj} {F H : Hp} (h : HMem H b f o) (t : FSub F H) : FSub ((b, f, o) :: F) H

theorem FSub.get {F H : Hp} (h : FSub F H) : ∀ {b : Nat} {f : Bool} {o : Obj}, HMem F b f o → HMem H b f o := by
  induction h with
  | nil => intro b f o m; cases m
  | cons h _ ih =>
    intro b f o m
    cases m with
    | hit => exact h
    | skip m => exact ih m

theorem FSub.more {F H : Hp} (h : FSub F H) (x : Nat × Bool × Obj) : FSub F (x :: H) := by
  induction h with
  | nil => exact .nil
  | cons h _ ih => exact .cons (.skip h) ih

/-- an operation that was put off -/
structure Pend where
  i : Nat
  d : Nat
  v : Value
  e1 : Env
  F : Hp

def hid (pd : List Pend) (χ : Nat → Bool) (t : Nat) : Bool := pd.any fun p => p.d == t && χ p.i

theorem Get.filter {q : Nat → Bool} {e : Env} {t : Nat} {v : Value} (h : Get e t v) (hq : q t = true) : Get (e.filter fun x => q x.1) t v := by
  induction h with
  | hit => rw [List.filter_cons_of_pos (by simpa using hq)]; exact .hit
  | @skip t i v u e h g ih =>
    by_cases hi : q i = true
    · rw [List.filter_cons_of_pos (by simpa using hi)]; exact .skip h (ih hq)
    rw [List.filter_cons_of_neg (by simpa using hi)]; exact ih hq
theorem Get.unfilter {q : Nat → Bool} {e : Env} {t : Nat} {v : Value} (h : Get (e.filter fun x => q x.1) t v) : Get e t v ∧ q t = true := by
  induction e with
  | nil => cases h
  | cons x e ih =>
    obtain ⟨i, u⟩ := x
    by_cases hi : q i = true
    · rw [List.filter_cons_of_pos (by simpa using hi)] at h
      cases h with
      | hit => exact ⟨.hit, hi⟩
      | skip h g => exact ⟨.skip h (ih g).1, (ih g).2⟩
    rw [List.filter_cons_of_neg (by simpa using hi)] at h
    have := ih h
    refine ⟨.skip (beq_no ?_) this.1, this.2⟩
    rintro rfl
    exact hi this.2
theorem Get.uniq {e : Env} {t : Nat} {v u : Value} (h : Get e t v) (g : Get e t u) : v = u := by
  induction h with
  | hit =>
    cases g with
    | hit => rfl
    | skip h _ => simp at h
  | skip h _ ih =>
    cases g with
    | hit => simp at h
    | skip _ g => exact ih g
theorem EnvSub.put {e1 e : Env} (h : EnvSub e1 e) {d : Nat} {v : Value} (hd : d ∉ e1.map (·.1)) : EnvSub e1 ((d, v) :: e) :=
  h.of fun _ _ ht g => .skip (beq_no fun e => hd (e ▸ ht)) g
theorem EnvSub.key {e1 e : Env} (h : EnvSub e1 e) : ∀ t ∈ e1.map (·.1), ∃ v, Get e t v := by
  induction h with
  | nil => intro t ht; cases ht
  | cons g _ ih =>
    intro t ht
    rcases List.mem_cons.1 ht with rfl | ht
    · exact ⟨_, g⟩
    exact ih t ht

section
variable (ro : Option Nat) (P : Program) (S : Nat → Prop) (w0 : World) (n : Nat) (ds : List Deferred) (l : List Oper) (Q : Exit → Act → World → Prop)

/-- an operation of the region, its guard asked -/
def GT (H : Hp) (e : Env) (o : Oper) (C : (Env → Hp → Prop) → Prop) : Prop :=
  ∀ (K : Act → World → Prop) (Q : Exit → Act → World → Prop), C (fun e' H' => SK S w0 n ds H' e' K) → ∀ a w, Sees n ds e a → Holds S w0 H w →
    if Region.wanted o (yielded l.toArray a.tmps) then o.wpIn (FW ro) 0 P a w K Q else (∀ f, o.about P w a.eval = some f → (FW ro).fn f) ∧ K (a.put o.dst undef) w

structure PdOk (p : Pend) (e : Env) : Prop where
  op : ∃ o : Oper, l[p.i]? = some o ∧ o.dst = some p.d ∧ ∀ e' H', EnvSub p.e1 e' → FSub p.F H' → GT ro P S w0 n ds l H' e' o (fun X => X ((p.d, p.v) :: e') H')
  sub : EnvSub p.e1 e
  got : Get e p.d p.v

structure PdsOk (done : List Nat) (pd : List Pend) (H : Hp) (e : Env) : Prop where
  ok : ∀ p ∈ pd, PdOk ro P S w0 n ds l p e
  fs : ∀ p ∈ pd, FSub p.F H
  rd : ∀ p ∈ pd, ∀ q ∈ pd, q.d ∈ p.e1.map (·.1) → q.i ∈ predsAt l p.i
  uni : ∀ p ∈ pd, ∀ q ∈ pd, p.d = q.d → p.i = q.i
  dj : ∀ p ∈ pd, p.i ∉ done

/-- a state of the run -/
structure RS (done : List Nat) (pd : List Pend) (H : Hp) (e : Env) (χ : Nat → Bool) (f : Nat) (listed : Array Bool) (a : Act) (w : World) : Prop where
  size : listed.size = l.length
  lst : ∀ i, i < l.length → (listed.getD i false = true ↔ i ∈ done ∨ (i ∈ pd.map (·.i) ∧ χ i = false))
  down : ∀ i, i < l.length → listed.getD i false = true → ∀ p ∈ predsAt l i, listed.getD p false = true
  cnt : f + ((List.range l.length).countP fun i => listed.getD i false) = l.length
  slot : ∀ t v, Get e t v → hid pd χ t = false → a.tmps.getD t undef = v
  tsz : a.tmps.size = n
  tdf : a.defers = ds
  hw : Holds S w0 H w

def DA (done : List Nat) (pd : List Pend) (H : Hp) (e : Env) : Prop :=
  PdsOk ro P S w0 n ds l done pd H e → ∀ χ f listed a w, RS S w0 n ds l done pd H e χ f listed a w → wpAnyIn (FW ro) 0 P .any l.toArray Q f listed a w
end

section
variable {ro : Option Nat} {P : Program} {S : Nat → Prop} {w0 : World} {n : Nat} {ds : List Deferred} {l : List Oper} {Q : Exit → Act → World → Prop} {done : List Nat} {pd : List Pend} {H : Hp} {e : Env}

theorem hid_mem {χ : Nat → Bool} {t : Nat} : hid pd χ t = true ↔ ∃ p ∈ pd, p.d = t ∧ χ p.i = true := by
  simp [hid, List.any_eq_true]

theorem RS.sees {χ : Nat → Bool} {f : Nat} {listed : Array Bool} {a : Act} {w : World} (h : RS S w0 n ds l done pd H e χ f listed a w) : Sees n ds (e.filter fun x => !hid pd χ x.1) a :=
  ⟨h.tsz, h.tdf, fun t v g => by
    have := Get.unfilter (q := fun t => !hid pd χ t) g
    exact h.slot t v this.1 (by simpa using this.2)⟩

theorem RS.set {χ χ' : Nat → Bool} {f : Nat} {listed : Array Bool} {a a' : Act} {w w' : World} {done' : List Nat} {pd' : List Pend} {H' : Hp} {e' : Env} {j : Nat} (h : RS S w0 n ds l done pd H e χ (f + 1) listed a w) (hj : j < l.length) (hj2 : listed.getD j false = false)
    (hj3 : ∀ i ∈ predsAt l j, listed.getD i false = true) (hl : ∀ i, i < l.length → ((i = j ∨ (i ∈ done ∨ (i ∈ pd.map (·.i) ∧ χ i = false))) ↔ (i ∈ done' ∨ (i ∈ pd'.map (·.i) ∧ χ' i = false))))
    (hs : ∀ t v, Get e' t v → hid pd' χ' t = false → a'.tmps.getD t undef = v) (h1 : a'.tmps.size = n) (h2 : a'.defers = ds) (hw : Holds S w0 H' w') :
    RS S w0 n ds l done' pd' H' e' χ' f (listed.setIfInBounds j true) a' w' := by
  have hset := fun i => getD_set listed i j (by rw [h.size]; exact hj)
  refine ⟨by simpa using h.size, fun i hi => ?_, fun i hi hh p hp => ?_, ?_, hs, h1, h2, hw⟩
  · rw [hset, ← hl i hi, ← h.lst i hi]; simp
  · rw [hset] at hh ⊢
    simp only [Bool.or_eq_true, decide_eq_true_eq] at hh ⊢
    rcases hh with hh | hh
    · subst hh; exact Or.inr (hj3 p hp)
    exact Or.inr (h.down i hi hh p hp)
  have := countP_one (p := fun i => listed.getD i false) (q := fun i => (listed.setIfInBounds j true).getD i false) hset hj2 l.length
  have hc := h.cnt
  rw [if_pos hj] at this
  omega

theorem exists_unlisted {listed : Array Bool} {f : Nat} (h : f + 1 + ((List.range l.length).countP fun i => listed.getD i false) = l.length) : ∃ i, i < l.length ∧ listed.getD i false = false := by
  apply Classical.byContradiction
  intro hn
  have : (List.range l.length).countP (fun i => listed.getD i false) = (List.range l.length).length := by
    rw [List.countP_eq_length]
    intro i hi
    cases hh : listed.getD i false with
    | true => rfl
    | false => exact absurd ⟨i, List.mem_range.1 hi, hh⟩ hn
  rw [this, List.length_range] at h
  omega

theorem exists_ready {listed : Array Bool} (hs : listed.size = l.length) (hc1 : ∀ i, i < l.length → ∀ p ∈ predsAt l i, p < i) : ∀ i, i < l.length → listed.getD i false = false → ∃ j, j ∈ Region.ready .any l.toArray listed := by
  intro i
  induction i using Nat.strongRecOn with
  | _ i ihi =>
    intro hi hu
    by_cases hp : ∀ p ∈ predsAt l i, listed.getD p false = true
    · refine ⟨i, (ready_iff i).2 ⟨by omega, ?_, hp⟩⟩
      have hlt : i < listed.size := by omega
      simpa [Array.getD_eq_getD_getElem?, hlt] using hu
    simp only [Classical.not_forall] at hp
    obtain ⟨p, hp1, hp2⟩ := hp
    have := hc1 i om p hp1
    exact ihi p this om (by simpa using hp2)

theorem DA_core (hp : PdsOk ro P S w0 n ds l done pd H e) (hc1 : ∀ i, i < l.length → ∀ p ∈ predsAt l i, p < i)
    (hstep : ∀ χ f listed a w, RS S w0 n ds l done pd H e χ (f + 1) listed a w → ∀ j, j < l.length → listed.getD j false = false → (∀ i ∈ predsAt l j, listed.getD i false = true) → j ∉ done → j ∉ pd.map (·.i) →
      wpOpIn (FW ro) 0 P l.toArray Q j (wpAnyIn (FW ro) 0 P .any l.toArray Q f (listed.setIfInBounds j true)) a w)
    (hfin : ∀ a w, (∀ i, i < l.length → i ∈ done ∨ i ∈ pd.map (·.i)) → Sees n ds e a → Holds S w0 H w → Q .normal a w) :
    ∀ m χ f listed a w, (pd.filter fun p => χ p.i).length = m → RS S w0 n ds l done pd H e χ f listed a w → wpAnyIn (FW ro) 0 P .any l.toArray Q f listed a w := by
  intro m
  induction m using Nat.strongRecOn with
  | _ m ih =>
    intro χ f listed a w hm h
    cases f with
    | zero =>
      have hall : ∀ i, i < l.length → listed.getD i false = true := by
        have : (List.range l.length).countP (fun i => listed.getD i false) = (List.range l.length).length := by simpa using h.cnt
        rw [List.countP_eq_length] at this
        exact fun i hi => this i (List.mem_range.2 hi)
      refine ⟨?_, ?_⟩
      · rw [List.eq_nil_iff_forall_not_mem]
        intro j hj
        rw [ready_iff] at hj
        have h1 := hall j hj.1
        have h2 := hj.2.1
        have hlt : j < listed.size := by rw [h.size]; exact hj.1
        simp [Array.getD_eq_getD_getElem?, hlt] at h1 h2
        rw [h1] at h2; cases h2
      refine hfin a w (fun i hi => ?_) ⟨h.tsz, h.tdf, fun t v g => h.slot t v g ?_⟩ h.hw
      · rcases (h.lst i hi).1 (hall i hi) with h1 | h1
        · exact Or.inl h1
        exact Or.inr h1.1
      rw [← Bool.not_eq_true, hid_mem]
      rintro ⟨p, hpm, _, hχ⟩
      obtain ⟨o, hl, _⟩ := (hp.ok p hpm).op
      have hlt := (List.getElem?_eq_some_iff.1 hl).1
      rcases (h.lst p.i hlt).1 (hall _ hlt) with h1 | h1
      · exact hp.dj p hpm h1
      rw [hχ] at h1; cases h1.2
    | succ f =>
      obtain ⟨i0, hi0, hu0⟩ := exists_unlisted h.cnt
      obtain ⟨j0, hj0⟩ := exists_ready h.size hc1 i0 hi0 hu0
      refine ⟨fun hnil => (by rw [hnil] at hj0; cases hj0), fun j hj => ?_⟩
      rw [ready_iff] at hj
      obtain ⟨hj1, hj2, hj3⟩ := hj
      have hjs : j < listed.size := by rw [h.size]; exact hj1
      have hj2' : listed.getD j false = false := by simpa [Array.getD_eq_getD_getElem?, hjs] using hj2
      have hnl : ¬ (j ∈ done ∨ (j ∈ pd.map (·.i) ∧ χ j = false)) := by
        rw [← h.lst j hj1, hj2']; simp
      have hjd : j ∉ done := fun hh => hnl (Or.inl hh)
      by_cases hjp : j ∈ pd.map (·.i)
      · obtain ⟨p, hpm, rfl⟩ := List.mem_map.1 hjp
        have hχ : χ p.i = true := by
          cases hx : χ p.i with
          | true => rfl
          | false => exact absurd (Or.inr ⟨hjp, hx⟩) hnl
        obtain ⟨o, hl, hdst, hop⟩ := (hp.ok p hpm).op
        have hsub : EnvSub p.e1 (e.filter fun x => !hid pd χ x.1) := by
          refine (hp.ok p hpm).sub.of fun t v ht g => g.filter (q := fun t => !hid pd χ t) ?_
          simp only [Bool.not_eq_true']
          rw [← Bool.not_eq_true, hid_mem]
          rintro ⟨q, hqm, rfl, hqχ⟩
          have hq := hj3 _ (hp.rd p hpm q hqm ht)
          obtain ⟨_, hql, _⟩ := (hp.ok q hqm).op
          rcases (h.lst q.i (List.getElem?_eq_some_iff.1 hql).1).1 hq with h1 | h1
          · exact hp.dj q hqm h1
          rw [hqχ] at h1; cases h1.2
        unfold wpOpIn
        rw [List.getElem?_toArray, hl]
        refine hop _ _ hsub (hp.fs p hpm) _ Q ?_ a w h.sees h.hw
        intro a' w' ha' hw'
        let χ' : Nat → Bool := fun i => if i = p.i then false else χ i
        have hlt : (pd.filter fun q => χ' q.i).length < m := by
          rw [← hm]
          have hss : ∀ q : Pend, χ' q.i = true → χ q.i = true := fun q hq => by
            simp only [χ'] at hq
            split at hq
            · cases hq
            exact hq
          have e1 : (pd.filter fun q => χ' q.i) = (pd.filter fun q => χ q.i).filter fun q => χ' q.i := by
            rw [List.filter_filter]
            congr 1
            funext q
            cases hq : χ' q.i with
            | false => rfl
            | true => simp [hss q hq]
          rw [e1]
          refine List.length_filter_lt_length_iff_exists.2 ⟨p, List.mem_filter.2 ⟨hpm, hχ⟩, by simp [χ']⟩
        refine ih _ hlt χ' f _ a' w' rfl (h.set hj1 hj2' hj3 (fun i hi => ?_) (fun t v g hh => ?_) ha'.size ha'.defers hw')
        · simp only [χ']
          by_cases hip : i = p.i
          · subst hip; simp [hjp]
          simp [hip]
        by_cases htp : t = p.d
        · subst htp
          rw [g.uniq (hp.ok p hpm).got]
          exact ha'.slot _ _ .hit
        refine ha'.slot _ _ (.skip (beq_no fun e => htp e.symm) (g.filter (q := fun t => !hid pd χ t) ?_))
        simp only [Bool.not_eq_true']
        rw [← Bool.not_eq_true, hid_mem]
        rintro ⟨q, hqm, rfl, hqχ⟩
        rw [← Bool.not_eq_true, hid_mem] at hh
        refine hh ⟨q, hqm, rfl, ?_⟩
        simp only [χ']
        rw [if_neg]
        · exact hqχ
        intro hqi
        obtain ⟨_, hql, hqd, _⟩ := (hp.ok q hqm).op
        rw [hqi, hl] at hql
        injection hql with hql
        rw [← hql, hdst] at hqd
        injection hqd with h1
        exact htp h1.symm
      exact hstep χ f listed a w h j hj1 hj2' hj3 hjd hjp

/-! ### the rules -/
def orderOk (l : List Oper) : Bool := (List.range l.length).all fun i => (predsAt l i).all (· < i)

/-- what an operation reads and writes, against what is pending: the closed check -/
def pendOk (l : List Oper) (done : List Nat) (pd : List Pend) (j : Nat) (d : Option Nat) (ks : List Nat) : Bool :=
  !done.contains j && !(pd.map (·.i)).contains j &&
  (match d with | none => true | some d => !ks.contains d && pd.all fun p => !(p.d == d) && !(p.e1.map (·.1)).contains d) &&
  (ks.all fun t => pd.all fun q => !(q.d == t) || (predsAt l j).contains q.i)

theorem pendOk_iff {j : Nat} {d : Option Nat} {ks : List Nat} (h : pendOk l done pd j d ks = true) : j ∉ done ∧ j ∉ pd.map (·.i) ∧
    (∀ d', d = some d' → d' ∉ ks ∧ ∀ p ∈ pd, p.d ≠ d' ∧ d' ∉ p.e1.map (·.1)) ∧ (∀ t ∈ ks, ∀ q ∈ pd, q.d = t → q.i ∈ predsAt l j) := by
  simp only [pendOk, Bool.and_eq_true, Bool.not_eq_true', List.contains_eq_mem, decide_eq_false_iff_not, List.all_eq_true, Bool.or_eq_true, beq_eq_false_iff_ne, decide_eq_true_eq] at h
  obtain ⟨⟨⟨h1, h2⟩, h3⟩, h4⟩ := h
  refine ⟨h1, h2, fun d' hd => ?_, fun t ht q hq hqt => ?_⟩
  · subst hd
    simp only [List.all_eq_true, Bool.and_eq_true, Bool.not_eq_true', beq_eq_false_iff_ne, decide_eq_false_iff_not] at h3
    exact h3
  rcases h4 t ht q hq with h | h
  · exact absurd hqt h
  exact h

theorem OT.gt {dst : Option Tmp} {op : Op} {ty : TypeId} {pos : String} {aft : Array Edge} {H : Hp} {e : Env} {C : (Env → Hp → Prop) → Prop} (h : OT ro P S w0 n ds H e ⟨dst, op, ty, pos, aft, none⟩ C) :
    GT ro P S w0 n ds l H e ⟨dst, op, ty, pos, aft, none⟩ C := fun K Q hC a w ha hw => by
  simp only [Region.wanted, if_true]
  exact h K Q hC a w ha hw
theorem OT.gtT {dst : Option Tmp} {op : Op} {ty : TypeId} {pos : String} {aft : Array Edge} {H : Hp} {e : Env} {C : (Env → Hp → Prop) → Prop} {gi g : Nat} {b : Bool} (hj : (l[gi]?).bind (·.dst) = some g) (hg : Get e g (.bool b))
    (h : OT ro P S w0 n ds H e ⟨dst, op, ty, pos, aft, none⟩ C) : GT ro P S w0 n ds l H e ⟨dst, op, ty, pos, aft, some (gi, b)⟩ C := fun K Q hC a w ha hw => by
  have hy := yielded_of (ops := l.toArray) (j := gi) (by simpa using hj) ha hg
  simp only [Region.wanted, hy, beq_self_eq_true, if_true]
  exact h K Q hC a w ha hw
theorem gtF {d : Nat} {op : Op} {ty : TypeId} {pos : String} {aft : Array Edge} {H : Hp} {e : Env} {gi g : Nat} {b : Bool} (hd : Nat.blt d n = true) (hj : (l[gi]?).bind (·.dst) = some g) (hg : Get e g (.bool (!b))) :
    GT ro P S w0 n ds l H e ⟨some d, op, ty, pos, aft, some (gi, b)⟩ (fun X => X ((d, undef) :: e) H) := fun K Q hC a w ha hw => by
  have hy := yielded_of (ops := l.toArray) (j := gi) (by simpa using hj) ha hg
  have : (yielded l.toArray a.tmps gi == some b) = false := by rw [hy]; cases b <;> rfl
  simp only [Region.wanted, this]
  exact ⟨fun _ _ => trivial, hC _ _ (ha.put hd _) hw⟩

/-- an operation whose value is known is put off -/
theorem DA_pureG {j d : Nat} {o : Oper} {v : Value} {e1 : Env} {F : Hp} (hl : l[j]? = some o) (hod : o.dst = some d) (hs : EnvSub e1 e) (hF : FSub F H)
    (h : ∀ e' H', EnvSub e1 e' → FSub F H' → GT ro P S w0 n ds l H' e' o (fun X => X ((d, v) :: e') H'))
    (hc : pendOk l done pd j (some d) (e1.map (·.1)) = true) (next : DA ro P S w0 n ds l Q done (⟨j, d, v, e1, F⟩ :: pd) H ((d, v) :: e)) : DA ro P S w0 n ds l Q done pd H e := by
  obtain ⟨c1, c2, c3, c4⟩ := pendOk_iff hc
  obtain ⟨hself, c3⟩ := c3 d rfl
  intro hp χ f listed a w hr
  refine next ⟨fun p hpm => ?_, fun p hpm => ?_, fun p hpm q hqm hqd => ?_, fun p hpm q hqm hpq => ?_, fun p hpm => ?_⟩ (fun i => i == j || χ i) f listed a w ?_
  · rcases List.mem_cons.1 hpm with rfl | hpm
    · exact ⟨⟨o, hl, hod, h⟩, hs.put hself, .hit⟩
    have := hp.ok p hpm
    exact ⟨this.op, this.sub.put (c3 p hpm).2, .skip (beq_no fun e => (c3 p hpm).1 e.symm) this.got⟩
  · rcases List.mem_cons.1 hpm with rfl | hpm
    · exact hF
    exact hp.fs p hpm
  · rcases List.mem_cons.1 hpm with rfl | hpm
    · rcases List.mem_cons.1 hqm with rfl | hqm
      · exact absurd hqd hself
      exact c4 _ hqd q hqm rfl
    rcases List.mem_cons.1 hqm with rfl | hqm
    · exact absurd hqd (c3 p hpm).2
    exact hp.rd p hpm q hqm hqd
  · rcases List.mem_cons.1 hpm with rfl | hpm
    · rcases List.mem_cons.1 hqm with rfl | hqm
      · rfl
      exact absurd hpq.symm (c3 q hqm).1
    rcases List.mem_cons.1 hqm with rfl | hqm
    · exact absurd hpq (c3 p hpm).1
    exact hp.uni p hpm q hqm hpq
  · rcases List.mem_cons.1 hpm with rfl | hpm
    · exact c1
    exact hp.dj p hpm
  refine ⟨hr.size, fun i hi => ?_, hr.down, hr.cnt, fun t u g hh => ?_, hr.tsz, hr.tdf, hr.hw⟩
  · rw [hr.lst i hi]
    by_cases hij : i = j
    · subst hij; simp [c2]
    simp [hij]
  rw [← Bool.not_eq_true, hid_mem] at hh
  cases g with
  | hit => exact absurd ⟨_, List.mem_cons_self, rfl, by simp⟩ hh
  | skip hne g =>
    refine hr.slot t u g ?_
    rw [← Bool.not_eq_true, hid_mem]
    rintro ⟨q, hqm, rfl, hqχ⟩
    exact hh ⟨q, List.mem_cons_of_mem _ hqm, rfl, by simp [hqχ]⟩

theorem DA_pure {j d : Nat} {op : Op} {ty : TypeId} {pos : String} {aft : Array Edge} {v : Value} {e1 : Env} {F : Hp} (hl : l[j]? = some ⟨some d, op, ty, pos, aft, none⟩) (hs : EnvSub e1 e) (hF : FSub F H)
    (h : ∀ e' H', EnvSub e1 e' → FSub F H' → OT ro P S w0 n ds H' e' ⟨some d, op, ty, pos, aft, none⟩ (fun X => X ((d, v) :: e') H'))
    (hc : pendOk l done pd j (some d) (e1.map (·.1)) = true) (next : DA ro P S w0 n ds l Q done (⟨j, d, v, e1, F⟩ :: pd) H ((d, v) :: e)) : DA ro P S w0 n ds l Q done pd H e :=
  DA_pureG hl rfl hs hF (fun e' H' he hH => (h e' H' he hH).gt) hc next
/-- .. under a guard that is met -/
theorem DA_pureT {j d gi g : Nat} {b : Bool} {op : Op} {ty : TypeId} {pos : String} {aft : Array Edge} {v : Value} {e1 : Env} {F : Hp} (hl : l[j]? = some ⟨some d, op, ty, pos, aft, some (gi, b)⟩) (hs : EnvSub e1 e) (hF : FSub F H)
    (h : ∀ e' H', EnvSub e1 e' → FSub F H' → OT ro P S w0 n ds H' e' ⟨some d, op, ty, pos, aft, none⟩ (fun X => X ((d, v) :: e') H'))
    (hj : (l[gi]?).bind (·.dst) = some g) (hg : Get e1 g (.bool b))
    (hc : pendOk l done pd j (some d) (e1.map (·.1)) = true) (next : DA ro P S w0 n ds l Q done (⟨j, d, v, e1, F⟩ :: pd) H ((d, v) :: e)) : DA ro P S w0 n ds l Q done pd H e :=
  DA_pureG hl rfl hs hF (fun e' H' he hH => (h e' H' he hH).gtT hj (he.get hg)) hc next
/-- .. that is not met -/
theorem DA_pureF {j d gi g : Nat} {b : Bool} {op : Op} {ty : TypeId} {pos : String} {aft : Array Edge} (hl : l[j]? = some ⟨some d, op, ty, pos, aft, some (gi, b)⟩) (hd : Nat.blt d n = true)
    (hj : (l[gi]?).bind (·.dst) = some g) (hg : Get e g (.bool (!b)))
    (hc : pendOk l done pd j (some d) [g] = true) (next : DA ro P S w0 n ds l Q done (⟨j, d, undef, [(g, .bool (!b))], []⟩ :: pd) H ((d, undef) :: e)) : DA ro P S w0 n ds l Q done pd H e :=
  DA_pureG hl rfl (.cons hg .nil) .nil (fun _ _ he _ => gtF hd hj (he.get .hit)) hc next
theorem DA.known {g : Nat} {v : Value} (hg : Get e g v) (h : DA ro P S w0 n ds l Q done pd H ((g, v) :: e)) : DA ro P S w0 n ds l Q done pd H e := by
  intro hp χ f listed a w hr
  have hup : ∀ {t u}, Get e t u → Get ((g, v) :: e) t u := fun {t u} gg => by
    by_cases ht : g = t
    · subst ht; rw [gg.uniq hg]; exact .hit
    exact .skip (beq_no ht) gg
  refine h ⟨fun p hpm => ?_, hp.fs, hp.rd, hp.uni, hp.dj⟩ χ f listed a w ⟨hr.size, hr.lst, hr.down, hr.cnt, fun t u gg hh => ?_, hr.tsz, hr.tdf, hr.hw⟩
  · have := hp.ok p hpm
    exact ⟨this.op, this.sub.of fun _ _ _ gg => hup gg, hup this.got⟩
  cases gg with
  | hit => exact hr.slot _ _ hg hh
  | skip _ gg => exact hr.slot _ _ gg hh
theorem DA_bool {g : Nat} {t : Bool} (hg : Get e g (.bool t)) (h1 : t = true → DA ro P S w0 n ds l Q done pd H ((g, .bool true) :: e)) (h2 : t = false → DA ro P S w0 n ds l Q done pd H ((g, .bool false) :: e)) :
    DA ro P S w0 n ds l Q done pd H e := by
  cases t
  · exact DA.known hg (h2 rfl)
  exact DA.known hg (h1 rfl)

/-- the operations that may come next -/
def cands (l : List Oper) (done : List Nat) (pd : List Pend) : List Nat :=
  (List.range l.length).filter fun i => !done.contains i && !(pd.map (·.i)).contains i && (predsAt l i).all fun p => done.contains p || (pd.map (·.i)).contains p

def putE (d : Option Nat) (v : Value) (e : Env) : Env := match d with | some d => (d, v) :: e | none => e

/-- what stays put off behind an operation, and that its facts stay -/
def Stay (l : List Oper) (j : Nat) (H : Hp) : List Pend → Prop
  | [] => True
  | p :: ps => ((predsAt l j).contains p.i = true ∨ FSub p.F H) ∧ Stay l j H ps
theorem Stay.mem {j : Nat} {H : Hp} : ∀ {pd : List Pend}, Stay l j H pd → ∀ p ∈ pd, p.i ∉ predsAt l j → FSub p.F H
  | [], _, p, hp, _ => by cases hp
  | q :: ps, h, p, hp, hn => by
    rcases List.mem_cons.1 hp with rfl | hp
    · rcases h.1 with h1 | h1
      · exact absurd (by simpa using h1) hn
      exact h1
    exact Stay.mem h.2 p hp hn

def keepP (l : List Oper) (j : Nat) (pd : List Pend) : List Pend := pd.filter fun p => !(predsAt l j).contains p.i
def dropP (l : List Oper) (j : Nat) (pd : List Pend) : List Nat := (pd.filter fun p => (predsAt l j).contains p.i).map (·.i)

variable (ro P S w0 n ds l Q done pd H e) in
/-- a candidate: what it does, and on -/
def Cand (j : Nat) : Prop :=
  ∃ (dst : Option Nat) (op : Op) (ty : TypeId) (pos : String) (aft : Array Edge) (e1 : Env) (β : Type) (val : β → Value) (good : β → Prop) (Hf : β → Hp),
    l[j]? = some ⟨dst, op, ty, pos, aft, none⟩ ∧ EnvSub e1 e ∧
    (∀ e', EnvSub e1 e' → OT ro P S w0 n ds H e' ⟨dst, op, ty, pos, aft, none⟩ (fun X => ∀ z, good z → X (putE dst (val z) e') (Hf z))) ∧
    pendOk l done pd j dst (e1.map (·.1)) = true ∧
    ∀ z, good z → Stay l j (Hf z) pd ∧ DA ro P S w0 n ds l Q (j :: (dropP l j pd ++ done)) (keepP l j pd) (Hf z) (putE dst (val z) e)

theorem OT.mono' {o : Oper} {C C' : (Env → Hp → Prop) → Prop} (h : OT ro P S w0 n ds H e o C) (hC : ∀ X, C' X → C X) : OT ro P S w0 n ds H e o C' := fun K Q hc => h K Q (hC _ hc)

theorem Cand.mk {j : Nat} {dst : Option Nat} {op : Op} {ty : TypeId} {pos : String} {aft : Array Edge} (e1 : Env) {β : Type} {val : β → Value} {good : β → Prop} {Hf : β → Hp} {C : Env → (Env → Hp → Prop) → Prop}
    (hl : l[j]? = some ⟨dst, op, ty, pos, aft, none⟩) (hs : EnvSub e1 e) (h : ∀ e', EnvSub e1 e' → OT ro P S w0 n ds H e' ⟨dst, op, ty, pos, aft, none⟩ (C e'))
    (hC : ∀ e' X, (∀ z, good z → X (putE dst (val z) e') (Hf z)) → C e' X) (hc : pendOk l done pd j dst (e1.map (·.1)) = true)
    (next : ∀ z, good z → Stay l j (Hf z) pd ∧ DA ro P S w0 n ds l Q (j :: (dropP l j pd ++ done)) (keepP l j pd) (Hf z) (putE dst (val z) e)) : Cand ro P S w0 n ds l Q done pd H e j :=
  ⟨dst, op, ty, pos, aft, e1, β, val, good, Hf, hl, hs, fun e' he => (h e' he).mono' (hC e'), hc, next⟩

theorem DA_step (is : List Nat) (ho : orderOk l = true) (hc : cands l done pd = is) (hne : is.isEmpty = false) (h : ∀ j ∈ is, Cand ro P S w0 n ds l Q done pd H e j) : DA ro P S w0 n ds l Q done pd H e := by
  intro hp χ f listed a w hr
  simp only [orderOk, List.all_eq_true, List.mem_range, decide_eq_true_eq] at ho
  refine DA_core hp ho (fun χ f listed a w hr j hj hj2 hj3 hjd hjp => ?_) (fun a w hall => ?_) _ χ f listed a w rfl hr
  · have hmem : j ∈ is := by
      rw [← hc, cands, List.mem_filter]
      refine ⟨List.mem_range.2 hj, ?_⟩
      simp only [Bool.and_eq_true, Bool.not_eq_true', List.contains_eq_mem, decide_eq_false_iff_not, List.all_eq_true, Bool.or_eq_true, decide_eq_true_eq]
      refine ⟨⟨hjd, hjp⟩, fun p hpp => ?_⟩
      have := ho j hj p hpp
      rcases (hr.lst p om).1 (hj3 p hpp) with h1 | h1
      · exact Or.inl h1
      exact Or.inr h1.1
    obtain ⟨dst, op, ty, pos, aft, e1, β, val, good, Hf, hl, hs, hop, hck, next⟩ := h j hmem
    obtain ⟨c1, c2, c3, c4⟩ := pendOk_iff hck
    have hnot : ∀ q ∈ pd, q.i ∈ predsAt l j → χ q.i = false := fun q hqm hq => by
      obtain ⟨_, hql, _⟩ := (hp.ok q hqm).op
      rcases (hr.lst q.i (List.getElem?_eq_some_iff.1 hql).1).1 (hj3 _ hq) with h1 | h1
      · exact absurd h1 (hp.dj q hqm)
      exact h1.2
    have hsub : EnvSub e1 (e.filter fun x => !hid pd χ x.1) := by
      refine hs.of fun t v ht g => g.filter (q := fun t => !hid pd χ t) ?_
      simp only [Bool.not_eq_true']
      rw [← Bool.not_eq_true, hid_mem]
      rintro ⟨q, hqm, rfl, hqχ⟩
      rw [hnot q hqm (c4 _ ht q hqm rfl)] at hqχ
      cases hqχ
    unfold wpOpIn
    rw [List.getElem?_toArray, hl]
    simp only [Region.wanted, if_true]
    refine hop _ hsub _ Q ?_ a w hr.sees hr.hw
    intro z hz a' w' ha' hw'
    obtain ⟨hst, hnx⟩ := next z hz
    have hkm : ∀ p, p ∈ keepP l j pd ↔ p ∈ pd ∧ p.i ∉ predsAt l j := fun p => by simp [keepP, List.mem_filter]
    refine hnx ⟨fun p hpm => ?_, fun p hpm => ?_, fun p hpm q hqm => ?_, fun p hpm q hqm => ?_, fun p hpm => ?_⟩ χ f _ a' w' (hr.set hj hj2 hj3 (fun i hi => ?_) (fun t u g hh => ?_) ha'.size ha'.defers hw')
    · have hpm := ((hkm p).1 hpm).1
      have := hp.ok p hpm
      cases dst with
      | none => exact this
      | some d => exact ⟨this.op, this.sub.put (c3 d rfl |>.2 p hpm).2, .skip (beq_no fun e => (c3 d rfl |>.2 p hpm).1 e.symm) this.got⟩
    · have hpm := (hkm p).1 hpm
      exact hst.mem p hpm.1 hpm.2
    · exact hp.rd p ((hkm p).1 hpm).1 q ((hkm q).1 hqm).1
    · exact hp.uni p ((hkm p).1 hpm).1 q ((hkm q).1 hqm).1
    · have hpm := (hkm p).1 hpm
      simp only [List.mem_cons, List.mem_append, not_or]
      refine ⟨fun e => c2 (e ▸ List.mem_map.2 ⟨p, hpm.1, rfl⟩), fun hd => ?_, hp.dj p hpm.1⟩
      simp only [dropP, List.mem_map, List.mem_filter] at hd
      obtain ⟨q, ⟨_, hq⟩, hqi⟩ := hd
      rw [hqi] at hq
      exact hpm.2 (by simpa using hq)
    · simp only [List.mem_cons, List.mem_append, List.mem_map, dropP, keepP, List.mem_filter, Bool.not_eq_true', List.contains_eq_mem, decide_eq_false_iff_not, decide_eq_true_eq]
      constructor
      · rintro (h | h | ⟨⟨q, hq, rfl⟩, h⟩)
        · exact Or.inl (Or.inl h)
        · exact Or.inl (Or.inr (Or.inr h))
        by_cases hqp : q.i ∈ predsAt l j
        · exact Or.inl (Or.inr (Or.inl ⟨q, ⟨hq, hqp⟩, rfl⟩))
        exact Or.inr ⟨⟨q, ⟨hq, hqp⟩, rfl⟩, h⟩
      rintro ((h | ⟨q, ⟨hq, hqp⟩, rfl⟩ | h) | ⟨⟨q, ⟨hq, _⟩, rfl⟩, h⟩)
      · exact Or.inl h
      · exact Or.inr (Or.inr ⟨⟨q, hq, rfl⟩, hnot q hq hqp⟩)
      · exact Or.inr (Or.inl h)
      exact Or.inr (Or.inr ⟨⟨q, hq, rfl⟩, h⟩)
    rw [← Bool.not_eq_true, hid_mem] at hh
    have hgo : ∀ t u, Get e t u → (∀ p ∈ keepP l j pd, ¬ (p.d = t ∧ χ p.i = true)) → Get (e.filter fun x => !hid pd χ x.1) t u := fun t u g hh => by
      refine g.filter (q := fun t => !hid pd χ t) ?_
      simp only [Bool.not_eq_true']
      rw [← Bool.not_eq_true, hid_mem]
      rintro ⟨q, hqm, hqt, hqχ⟩
      by_cases hqp : q.i ∈ predsAt l j
      · rw [hnot q hqm hqp] at hqχ; cases hqχ
      exact hh q ((hkm q).2 ⟨hqm, hqp⟩) ⟨hqt, hqχ⟩
    have hh' : ∀ p ∈ keepP l j pd, ¬ (p.d = t ∧ χ p.i = true) := fun p hpm hh2 => hh ⟨p, hpm, hh2.1, hh2.2⟩
    cases dst with
    | none => exact ha'.slot _ _ (hgo t u g hh')
    | some d =>
      cases g with
      | hit => exact ha'.slot _ _ .hit
      | skip hne g => exact ha'.slot _ _ (.skip hne (hgo t u g hh'))
  intro _ _
  cases is with
  | nil => cases hne
  | cons i is =>
    have hi : i ∈ cands l done pd := by rw [hc]; exact List.mem_cons_self
    simp only [cands, List.mem_filter, List.mem_range, Bool.and_eq_true, Bool.not_eq_true', List.contains_eq_mem, decide_eq_false_iff_not] at hi
    rcases hall i hi.1 with h1 | h1
    · exact absurd h1 hi.2.1.1
    exact absurd h1 hi.2.1.2

theorem DA_step1 (j : Nat) (ho : orderOk l = true) (hc : cands l done pd = [j]) (h : Cand ro P S w0 n ds l Q done pd H e j) : DA ro P S w0 n ds l Q done pd H e :=
  DA_step [j] ho hc rfl fun i hi => by rw [List.mem_singleton.1 hi]; exact h
theorem DA_step2 (j k : Nat) (ho : orderOk l = true) (hc : cands l done pd = [j, k]) (h : Cand ro P S w0 n ds l Q done pd H e j) (h' : Cand ro P S w0 n ds l Q done pd H e k) : DA ro P S w0 n ds l Q done pd H e :=
  DA_step [j, k] ho hc rfl fun i hi => by
    rcases List.mem_cons.1 hi with rfl | hi
    · exact h
    rw [List.mem_singleton.1 hi]; exact h'

theorem DA_end (ho : orderOk l = true) (hc : ((List.range l.length).all fun i => done.contains i || (pd.map (·.i)).contains i) = true) (h : SK S w0 n ds H e (Q .normal)) : DA ro P S w0 n ds l Q done pd H e := by
  intro hp χ f listed a w hr
  simp only [orderOk, List.all_eq_true, List.mem_range, decide_eq_true_eq] at ho
  simp only [List.all_eq_true, List.mem_range, Bool.or_eq_true, List.contains_eq_mem, decide_eq_true_eq] at hc
  exact DA_core hp ho (fun χ f listed a w hr j hj _ _ hjd hjp => absurd (hc j hj) (by simp [hjd]; simpa using hjp)) (fun a w _ ha hw => h a w ha hw) _ χ f listed a w rfl hr

theorem SW_da {id : Nat} (hm : P.follows .mixedOrders = true) (h : DA ro P S w0 n ds l Q [] [] H e) : SW ro P S w0 n ds H e (Code.region id l.toArray true) Q := by
  intro a w ha hw
  refine wpIn_region_any hm ?_
  have hwd : Holds S w0 H { w with drawn := w.drawn + 1 } := hw.step (Ext.drew w)
  refine h ⟨by simp, by simp, by simp, by simp, by simp⟩ (fun _ => false) _ _ a _ ⟨by simp, fun i hi => ?_, fun i _ h => ?_, ?_, fun t v g _ => ha.slot t v g, ha.size, ha.defers, hwd⟩
  · simp [Array.getD_eq_getD_getElem?, hi]
  · simp [Array.getD_eq_getD_getElem?, Array.getElem?_replicate] at h; split at h <;> simp at h
  have h0 : (List.range l.length).countP (fun i => (Array.replicate l.toArray.size false).getD i false) = 0 := by
    rw [List.countP_eq_zero]
    intro i _
    simp [Array.getD_eq_getD_getElem?, Array.getElem?_replicate]; split <;> simp
  simp only [List.size_toArray] at h0 ⊢
  omega
end
section
variable {ro : Option Nat} {P : Program} {S : Nat → Prop} {w0 : World} {n : Nat} {ds : List Deferred} {H : Hp} {e e' : Env} {Q : Exit → Act → World → Prop} {x y c : Code} {ops : Array Oper} {l : List Oper}
variable {d t : Nat} {op : Op} {ty : TypeId} {pos : String} {aft : Array Edge} {v : Value}

variable {done : List Nat} {pd : List Pend}
theorem Y0 (j : Nat) (hl : l[j]? = some ⟨some d, op, ty, pos, aft, none⟩) (h : ∀ e' H', EnvSub [] e' → FSub [] H' → OT ro P S w0 n ds H' e' ⟨some d, op, ty, pos, aft, none⟩ (fun X => X ((d, v) :: e') H')) (next : DA ro P S w0 n ds l Q done (⟨j, d, v, [], []⟩ :: pd) H ((d, v) :: e)) (hc : pendOk l done pd j (some d) [] = true := by kernel_rfl) : DA ro P S w0 n ds l Q done pd H e := DA_pure hl .nil .nil h hc next
theorem Y1 (j t : Nat) {u : Value} (hl : l[j]? = some ⟨some d, op, ty, pos, aft, none⟩) (g0 : lk e t = some u) (h : ∀ e' H', EnvSub [(t, u)] e' → FSub [] H' → OT ro P S w0 n ds H' e' ⟨some d, op, ty, pos, aft, none⟩ (fun X => X ((d, v) :: e') H')) (next : DA ro P S w0 n ds l Q done (⟨j, d, v, [(t, u)], []⟩ :: pd) H ((d, v) :: e)) (hc : pendOk l done pd j (some d) [t] = true := by kernel_rfl) : DA ro P S w0 n ds l Q done pd H e := DA_pure hl (.cons (.o g0) .nil) .nil h hc next
theorem Y2 (j t s : Nat) {u u1 : Value} (hl : l[j]? = some ⟨some d, op, ty, pos, aft, none⟩) (g0 : lk e t = some u) (g1 : lk e s = some u1) (h : ∀ e' H', EnvSub [(t, u), (s, u1)] e' → FSub [] H' → OT ro P S w0 n ds H' e' ⟨some d, op, ty, pos, aft, none⟩ (fun X => X ((d, v) :: e') H')) (next : DA ro P S w0 n ds l Q done (⟨j, d, v, [(t, u), (s, u1)], []⟩ :: pd) H ((d, v) :: e)) (hc : pendOk l done pd j (some d) [t, s] = true := by kernel_rfl) : DA ro P S w0 n ds l Q done pd H e := DA_pure hl (.cons (.o g0) (.cons (.o g1) .nil)) .nil h hc next
theorem Y3 (j t s r : Nat) {u u1 u2 : Value} (hl : l[j]? = some ⟨some d, op, ty, pos, aft, none⟩) (g0 : lk e t = some u) (g1 : lk e s = some u1) (g2 : lk e r = some u2) (h : ∀ e' H', EnvSub [(t, u), (s, u1), (r, u2)] e' → FSub [] H' → OT ro P S w0 n ds H' e' ⟨some d, op, ty, pos, aft, none⟩ (fun X => X ((d, v) :: e') H')) (next : DA ro P S w0 n ds l Q done (⟨j, d, v, [(t, u), (s, u1), (r, u2)], []⟩ :: pd) H ((d, v) :: e)) (hc : pendOk l done pd j (some d) [t, s, r] = true := by kernel_rfl) : DA ro P S w0 n ds l Q done pd H e := DA_pure hl (.cons (.o g0) (.cons (.o g1) (.cons (.o g2) .nil))) .nil h hc next
theorem Y4 (j t s r q : Nat) {u u1 u2 u3 : Value} (hl : l[j]? = some ⟨some d, op, ty, pos, aft, none⟩) (g0 : lk e t = some u) (g1 : lk e s = some u1) (g2 : lk e r = some u2) (g3 : lk e q = some u3) (h : ∀ e' H', EnvSub [(t, u), (s, u1), (r, u2), (q, u3)] e' → FSub [] H' → OT ro P S w0 n ds H' e' ⟨some d, op, ty, pos, aft, none⟩ (fun X => X ((d, v) :: e') H')) (next : DA ro P S w0 n ds l Q done (⟨j, d, v, [(t, u), (s, u1), (r, u2), (q, u3)], []⟩ :: pd) H ((d, v) :: e)) (hc : pendOk l done pd j (some d) [t, s, r, q] = true := by kernel_rfl) : DA ro P S w0 n ds l Q done pd H e := DA_pure hl (.cons (.o g0) (.cons (.o g1) (.cons (.o g2) (.cons (.o g3) .nil)))) .nil h hc next
theorem Y0f (j : Nat) {b : Nat} {f : Bool} {o : Obj} (hl : l[j]? = some ⟨some d, op, ty, pos, aft, none⟩) (hm : HMem H b f o) (h : ∀ e' H', EnvSub [] e' → FSub [(b, f, o)] H' → OT ro P S w0 n ds H' e' ⟨some d, op, ty, pos, aft, none⟩ (fun X => X ((d, v) :: e') H')) (next : DA ro P S w0 n ds l Q done (⟨j, d, v, [], [(b, f, o)]⟩ :: pd) H ((d, v) :: e)) (hc : pendOk l done pd j (some d) [] = true := by kernel_rfl) : DA ro P S w0 n ds l Q done pd H e := DA_pure hl .nil (.cons hm .nil) h hc next
theorem Y1f (j t : Nat) {u : Value} {b : Nat} {f : Bool} {o : Obj} (hl : l[j]? = some ⟨some d, op, ty, pos, aft, none⟩) (g0 : lk e t = some u) (hm : HMem H b f o) (h : ∀ e' H', EnvSub [(t, u)] e' → FSub [(b, f, o)] H' → OT ro P S w0 n ds H' e' ⟨some d, op, ty, pos, aft, none⟩ (fun X => X ((d, v) :: e') H')) (next : DA ro P S w0 n ds l Q done (⟨j, d, v, [(t, u)], [(b, f, o)]⟩ :: pd) H ((d, v) :: e)) (hc : pendOk l done pd j (some d) [t] = true := by kernel_rfl) : DA ro P S w0 n ds l Q done pd H e := DA_pure hl (.cons (.o g0) .nil) (.cons hm .nil) h hc next
theorem Y2f (j t s : Nat) {u u1 : Value} {b : Nat} {f : Bool} {o : Obj} (hl : l[j]? = some ⟨some d, op, ty, pos, aft, none⟩) (g0 : lk e t = some u) (g1 : lk e s = some u1) (hm : HMem H b f o) (h : ∀ e' H', EnvSub [(t, u), (s, u1)] e' → FSub [(b, f, o)] H' → OT ro P S w0 n ds H' e' ⟨some d, op, ty, pos, aft, none⟩ (fun X => X ((d, v) :: e') H')) (next : DA ro P S w0 n ds l Q done (⟨j, d, v, [(t, u), (s, u1)], [(b, f, o)]⟩ :: pd) H ((d, v) :: e)) (hc : pendOk l done pd j (some d) [t, s] = true := by kernel_rfl) : DA ro P S w0 n ds l Q done pd H e := DA_pure hl (.cons (.o g0) (.cons (.o g1) .nil)) (.cons hm .nil) h hc next
theorem Yt2 (j t s : Nat) {u u1 : Value} {gi g : Nat} {bb : Bool} (hl : l[j]? = some ⟨some d, op, ty, pos, aft, some (gi, bb)⟩) (g0 : lk e t = some u) (g1 : lk e s = some u1) (h : ∀ e' H', EnvSub [(t, u), (s, u1)] e' → FSub [] H' → OT ro P S w0 n ds H' e' ⟨some d, op, ty, pos, aft, none⟩ (fun X => X ((d, v) :: e') H')) (hj : (l[gi]?).bind (·.dst) = some g) (hg : Get [(t, u), (s, u1)] g (.bool bb)) (next : DA ro P S w0 n ds l Q done (⟨j, d, v, [(t, u), (s, u1)], []⟩ :: pd) H ((d, v) :: e)) (hc : pendOk l done pd j (some d) [t, s] = true := by kernel_rfl) : DA ro P S w0 n ds l Q done pd H e := DA_pureT hl (.cons (.o g0) (.cons (.o g1) .nil)) .nil h hj hg hc next
theorem Yt3 (j t s r : Nat) {u u1 u2 : Value} {gi g : Nat} {bb : Bool} (hl : l[j]? = some ⟨some d, op, ty, pos, aft, some (gi, bb)⟩) (g0 : lk e t = some u) (g1 : lk e s = some u1) (g2 : lk e r = some u2) (h : ∀ e' H', EnvSub [(t, u), (s, u1), (r, u2)] e' → FSub [] H' → OT ro P S w0 n ds H' e' ⟨some d, op, ty, pos, aft, none⟩ (fun X => X ((d, v) :: e') H')) (hj : (l[gi]?).bind (·.dst) = some g) (hg : Get [(t, u), (s, u1), (r, u2)] g (.bool bb)) (next : DA ro P S w0 n ds l Q done (⟨j, d, v, [(t, u), (s, u1), (r, u2)], []⟩ :: pd) H ((d, v) :: e)) (hc : pendOk l done pd j (some d) [t, s, r] = true := by kernel_rfl) : DA ro P S w0 n ds l Q done pd H e := DA_pureT hl (.cons (.o g0) (.cons (.o g1) (.cons (.o g2) .nil))) .nil h hj hg hc next
theorem Yt2f (j t s : Nat) {u u1 : Value} {b : Nat} {f : Bool} {o : Obj} {gi g : Nat} {bb : Bool} (hl : l[j]? = some ⟨some d, op, ty, pos, aft, some (gi, bb)⟩) (g0 : lk e t = some u) (g1 : lk e s = some u1) (hm : HMem H b f o) (h : ∀ e' H', EnvSub [(t, u), (s, u1)] e' → FSub [(b, f, o)] H' → OT ro P S w0 n ds H' e' ⟨some d, op, ty, pos, aft, none⟩ (fun X => X ((d, v) :: e') H')) (hj : (l[gi]?).bind (·.dst) = some g) (hg : Get [(t, u), (s, u1)] g (.bool bb)) (next : DA ro P S w0 n ds l Q done (⟨j, d, v, [(t, u), (s, u1)], [(b, f, o)]⟩ :: pd) H ((d, v) :: e)) (hc : pendOk l done pd j (some d) [t, s] = true := by kernel_rfl) : DA ro P S w0 n ds l Q done pd H e := DA_pureT hl (.cons (.o g0) (.cons (.o g1) .nil)) (.cons hm .nil) h hj hg hc next
theorem Ym (j : Nat) (next : DA ro P S w0 n ds l Q done (⟨j, d, v, [(t, v)], []⟩ :: pd) H ((d, v) :: e)) (hl : l[j]? = some ⟨some d, .move (.tmp t), ty, pos, aft, none⟩ := by exact rfl) (g : lk e t = some v := by exact rfl) (hd : Nat.blt d n = true := by exact rfl) (hc : pendOk l done pd j (some d) [t] = true := by kernel_rfl) : DA ro P S w0 n ds l Q done pd H e := Y1 j t hl g (fun _ _ he _ => O_move hd (Eh he)) next hc
theorem Yn (j : Nat) {b off : Nat} {sp : Option Nat} (next : DA ro P S w0 n ds l Q done (⟨j, d, .pointer (some ⟨b, off, sp⟩), [(t, .pointer (some ⟨b, off, sp⟩))], []⟩ :: pd) H ((d, .pointer (some ⟨b, off, sp⟩)) :: e)) (hl : l[j]? = some ⟨some d, .nilCheck (.tmp t), ty, pos, aft, none⟩ := by exact rfl) (g : lk e t = some (.pointer (some ⟨b, off, sp⟩)) := by exact rfl) (hd : Nat.blt d n = true := by exact rfl) (hc : pendOk l done pd j (some d) [t] = true := by kernel_rfl) : DA ro P S w0 n ds l Q done pd H e := Y1 j t hl g (fun _ _ he _ => O_nilCheck hd (Eh he)) next hc
theorem Yl (j : Nat) {T : TypeId} {b off : Nat} {f : Bool} {o : Obj} (hT : OneC P T) (next : DA ro P S w0 n ds l Q done (⟨j, d, v, [(t, .pointer (some ⟨b, off, none⟩))], [(b, f, o)]⟩ :: pd) H ((d, v) :: e)) (hl : l[j]? = some ⟨some d, .load T (.tmp t), ty, pos, aft, none⟩ := by exact rfl) (g : lk e t = some (.pointer (some ⟨b, off, none⟩)) := by exact rfl) (hm : HMem H b f o := by repeat (first | apply HMem.hit | apply HMem.skip)) (hv : cellOf o off = some v := by exact rfl) (hd : Nat.blt d n = true := by exact rfl) (hc : pendOk l done pd j (some d) [t] = true := by kernel_rfl) : DA ro P S w0 n ds l Q done pd H e := Y1f j t hl g hm (fun _ _ he hH => O_load hd (Eh he) hT (hH.get .hit) hv) next hc
theorem Yf (j : Nat) {T ft : TypeId} {fs : Array Field} {k s b off : Nat} {f : Field} (hT : P.underlying T = some (.struct fs)) (hs : Sz P ft (s + 1)) (next : DA ro P S w0 n ds l Q done (⟨j, d, .pointer (some ⟨b, off + f.offset, none⟩), [(t, .pointer (some ⟨b, off, none⟩))], []⟩ :: pd) H ((d, .pointer (some ⟨b, off + f.offset, none⟩)) :: e)) (hl : l[j]? = some ⟨some d, .fieldAddr T (.tmp t) k, ty, pos, aft, none⟩ := by exact rfl) (g : lk e t = some (.pointer (some ⟨b, off, none⟩)) := by exact rfl) (hf : fs.toList[k]? = some f := by exact rfl) (hft : f.type = ft := by exact rfl) (hd : Nat.blt d n = true := by exact rfl) (hc : pendOk l done pd j (some d) [t] = true := by kernel_rfl) : DA ro P S w0 n ds l Q done pd H e := Y1 j t hl g (fun _ _ he _ => O_fieldAddr hd (Eh he) hT hf (by rw [hft]; exact hs)) next hc
theorem Yi (j t s : Nat) {T E : TypeId} {b off len cap z : Nat} {k : IntKind} {i : Int} (hl : l[j]? = some ⟨some d, .indexAddr T (.tmp t) (.tmp s), ty, pos, aft, none⟩) (g : lk e t = some (.slice (some ⟨b, off, none⟩) len cap)) (g1 : lk e s = some (.int k i)) (hT : P.underlying T = some (.slice E)) (hs : Sz P E z) (next : DA ro P S w0 n ds l Q done (⟨j, d, .pointer (some ⟨b, off + i.toNat * z, none⟩), [(t, .slice (some ⟨b, off, none⟩) len cap), (s, .int k i)], []⟩ :: pd) H ((d, .pointer (some ⟨b, off + i.toNat * z, none⟩)) :: e)) (hts : Nat.beq t s = false := by exact rfl) (h0 : 0 ≤ i := by first | omega | (simp only [List.length_set]; omega)) (h1 : i < len := by first | omega | (simp only [List.length_set]; omega)) (hd : Nat.blt d n = true := by exact rfl) (hc : pendOk l done pd j (some d) [t, s] = true := by kernel_rfl) : DA ro P S w0 n ds l Q done pd H e := Y2 j t s hl g g1 (fun _ _ he _ => O_indexAddr hd (Eh he) (.tmp (he.get (.skip hts .hit))) hT hs h0 h1) next hc
theorem YF (j gi : Nat) {g : Nat} {b : Bool} (next : DA ro P S w0 n ds l Q done (⟨j, d, undef, [(g, .bool (!b))], []⟩ :: pd) H ((d, undef) :: e)) (hl : l[j]? = some ⟨some d, op, ty, pos, aft, some (gi, b)⟩ := by exact rfl) (hd : Nat.blt d n = true := by exact rfl) (hj : (l[gi]?).bind (·.dst) = some g := by exact rfl) (hg : lk e g = some (.bool (!b)) := by exact rfl) (hc : pendOk l done pd j (some d) [g] = true := by kernel_rfl) : DA ro P S w0 n ds l Q done pd H e := DA_pureF hl hd hj (.o hg) hc next
theorem Ys (j : Nat) (h : Cand ro P S w0 n ds l Q done pd H e j) (ho : orderOk l = true := by kernel_rfl) (hc : cands l done pd = [j] := by kernel_rfl) : DA ro P S w0 n ds l Q done pd H e := DA_step1 j ho hc h
theorem Ye (h : SK S w0 n ds H e (Q .normal)) (ho : orderOk l = true := by kernel_rfl) (hc : ((List.range l.length).all fun i => done.contains i || (pd.map (·.i)).contains i) = true := by kernel_rfl) : DA ro P S w0 n ds l Q done pd H e := DA_end ho hc h
theorem Yb {g : Nat} {b : Bool} (h1 : b = true → DA ro P S w0 n ds l Q done pd H ((g, .bool true) :: (g, .bool b) :: e)) (h2 : b = false → DA ro P S w0 n ds l Q done pd H ((g, .bool false) :: (g, .bool b) :: e)) : DA ro P S w0 n ds l Q done pd H ((g, .bool b) :: e) := DA_bool .hit h1 h2
end
end
end Go.Proofs.YtoibhfpagkdleaaGreatDoor
