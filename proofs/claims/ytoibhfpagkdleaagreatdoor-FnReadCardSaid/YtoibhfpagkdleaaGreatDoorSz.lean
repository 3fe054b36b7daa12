/-
  THE CALCULUS, PART 2: statements over code and over operations; the rules of control.
-/
import Derived.Test.YtoibhfpagkdleaaGreatDoorSy
import Derived.TacticsIn
import Derived.OrdersIn
namespace Go.Proofs.YtoibhfpagkdleaaGreatDoor
section
open Go
open Tryz
set_option maxRecDepth 100000

/-- The fence that fences nothing, for a plain frame (none) or a round's (some l). -/
abbrev FW (ro : Option Nat) : Fence := { fn := fun _ => True, depth := none, alive := false, round := ro }

theorem callsIn_FW {ro : Option Nat} {m : Nat} {P : Program} {f : FuncId} {args : Array Value} {w : World} {R : Ending → World → Prop} (h : Calls P f args w R) :
    CallsIn (FW ro) m P f args w R := (callsIn_wide (n := m)).2 h

theorem calls_FW {ro : Option Nat} {m : Nat} {P : Program} {f : FuncId} {args : Array Value} {w : World} {R : Ending → World → Prop} (h : CallsIn (FW ro) m P f args w R) :
    Calls P f args w R := (callsIn_wide (n := m)).1 h

section
variable (ro : Option Nat) (P : Program) (S : Nat → Prop) (w0 : World) (n : Nat) (ds : List Deferred)

/-- Code, from what is known. -/
def SW (H : Hp) (e : Env) (c : Code) (Q : Exit → Act → World → Prop) : Prop :=
  ∀ a w, Sees n ds e a → Holds S w0 H w → c.wpIn (FW ro) 0 P Q a w

/-- A list of operations, from what is known. -/
def SL (ops : Array Oper) (H : Hp) (e : Env) (l : List Oper) (Q : Exit → Act → World → Prop) : Prop :=
  ∀ a w, Sees n ds e a → Holds S w0 H w → wpListIn (FW ro) 0 P ops Q l a w

/-- What comes behind, from what is known. -/
def SK (H : Hp) (e : Env) (K : Act → World → Prop) : Prop :=
  ∀ a w, Sees n ds e a → Holds S w0 H w → K a w

/-- ONE OPERATION, from what is known: C tells what is known behind it. -/
def OT (H : Hp) (e : Env) (o : Oper) (C : (Env → Hp → Prop) → Prop) : Prop :=
  ∀ (K : Act → World → Prop) (Q : Exit → Act → World → Prop), C (fun e' H' => SK S w0 n ds H' e' K) → ∀ a w, Sees n ds e a → Holds S w0 H w → o.wpIn (FW ro) 0 P a w K Q
end

section
variable {ro : Option Nat} {P : Program} {S : Nat → Prop} {w0 : World} {n : Nat} {ds : List Deferred} {H H' : Hp} {e e' : Env} {Q : Exit → Act → World → Prop} {x y c : Code} {ops : Array Oper} {l : List Oper}

theorem SW.weaken (h : SW ro P S w0 n ds H' e' c Q) (he : EnvSub e' e) (hh : HSub H' H) : SW ro P S w0 n ds H e c Q :=
  fun a w ha hw => h a w (ha.weaken he) (hw.weaken hh)
theorem SL.weaken (h : SL ro P S w0 n ds ops H' e' l Q) (he : EnvSub e' e) (hh : HSub H' H) : SL ro P S w0 n ds ops H e l Q :=
  fun a w ha hw => h a w (ha.weaken he) (hw.weaken hh)
theorem SK.weaken {K : Act → World → Prop} (h : SK S w0 n ds H' e' K) (he : EnvSub e' e) (hh : HSub H' H) : SK S w0 n ds H e K :=
  fun a w ha hw => h a w (ha.weaken he) (hw.weaken hh)
theorem SW.env (h : SW ro P S w0 n ds H e' c Q) (he : EnvSub e' e) : SW ro P S w0 n ds H e c Q :=
  fun a w ha hw => h a w (ha.weaken he) hw
theorem SW.hp (h : SW ro P S w0 n ds H' e c Q) (hh : HSub H' H) : SW ro P S w0 n ds H e c Q :=
  fun a w ha hw => h a w ha (hw.weaken hh)

theorem SW_seq (h : ∀ K : Act → World → Prop, (∀ a w, y.wpIn (FW ro) 0 P Q a w → K a w) → SW ro P S w0 n ds H e x (Exit.then K Q)) :
    SW ro P S w0 n ds H e (Code.seq x y) Q :=
  fun a w ha hw => wpIn_seq_k fun K hK => h K hK a w ha hw

theorem SK_of {K : Act → World → Prop} (hK : ∀ a w, y.wpIn (FW ro) 0 P Q a w → K a w) (h : SW ro P S w0 n ds H e y Q) : SK S w0 n ds H e K :=
  fun a w ha hw => hK a w (h a w ha hw)

theorem SW_region {id : Nat} (h : SL ro P S w0 n ds l.toArray H e l Q) : SW ro P S w0 n ds H e (Code.region id l.toArray false) Q :=
  fun a w ha hw => wpIn_region_lit (h a w ha hw)

theorem SL_nil (h : SK S w0 n ds H e (Q .normal)) : SL ro P S w0 n ds ops H e [] Q := h

theorem SL_cons {C : (Env → Hp → Prop) → Prop} {d : Option Tmp} {op : Op} {ty : TypeId} {pos : String} {aft : Array Edge} (ho : OT ro P S w0 n ds H e ⟨d, op, ty, pos, aft, none⟩ C)
    (h : C (fun e' H' => SL ro P S w0 n ds ops H' e' l Q)) : SL ro P S w0 n ds ops H e (⟨d, op, ty, pos, aft, none⟩ :: l) Q := by
  intro a w ha hw
  have h1 := ho (wpListIn (FW ro) 0 P ops Q l) Q h a w ha hw
  simp only [wpListIn, Region.wanted, if_true]
  exact h1

theorem SW_skip (h : SK S w0 n ds H e (Q .normal)) : SW ro P S w0 n ds H e Code.skip Q := fun a w ha hw => wpIn_skip (h a w ha hw)
theorem SW_ret (h : SK S w0 n ds H e (Q .ret)) : SW ro P S w0 n ds H e Code.ret Q := fun a w ha hw => wpIn_ret (h a w ha hw)
theorem SW_exit {id : Nat} (h : SK S w0 n ds H e (Q (.exit id))) : SW ro P S w0 n ds H e (Code.exit id) Q := fun a w ha hw => wpIn_exit (h a w ha hw)
theorem SW_block {id : Nat} (h : SW ro P S w0 n ds H e c (Exit.inBlock id Q)) : SW ro P S w0 n ds H e (Code.block id c) Q :=
  fun a w ha hw => wpIn_block (h a w ha hw)
theorem SW_true {g : Operand} (hg : Ev e g (.bool true)) (h : SW ro P S w0 n ds H e x Q) : SW ro P S w0 n ds H e (Code.cond g x y) Q :=
  fun a w ha hw => wpIn_cond_true (ha.ev hg) (h a w ha hw)
theorem SW_false {g : Operand} (hg : Ev e g (.bool false)) (h : SW ro P S w0 n ds H e y Q) : SW ro P S w0 n ds H e (Code.cond g x y) Q :=
  fun a w ha hw => wpIn_cond_false (ha.ev hg) (h a w ha hw)
theorem SW_cond {g : Operand} {t : Bool} (hg : Ev e g (.bool t)) (h1 : t = true → SW ro P S w0 n ds H e x Q) (h2 : t = false → SW ro P S w0 n ds H e y Q) :
    SW ro P S w0 n ds H e (Code.cond g x y) Q := by
  cases t
  · exact SW_false hg (h2 rfl)
  exact SW_true hg (h1 rfl)

/-- A loop whose measure is read off a ghost. -/
theorem wpIn_loopG {F : Fence} {m : Nat} {α : Type} (J : α → Act → World → Prop) (μ : α → Nat)
    (round : ∀ x a w, J x a w → c.wpIn F m P (Exit.then (fun a' w' => ∃ y, μ y < μ x ∧ J y a' w') Q) a w) (x0 : α) (a : Act) (w : World) (h0 : J x0 a w) : (Code.loop c).wpIn F m P Q a w := by
  intro b k cs hro hb hr
  have key : ∀ j x a w, μ x = j → J x a w →
      ∃ e a' w', Q e a' w' ∧ ArrivesIn (Machine.fenced P F) P (lone (b.atR a (.code c :: .inLoop c :: k)) cs w) b k cs e a' w' := by
    intro j
    induction j using Nat.strongRecOn with
    | _ j ih =>
      intro x a w hj hJ
      obtain ⟨e, a₁, w₁, hq, harr⟩ := round x a w hJ b (.inLoop c :: k) cs hro hb hr
      cases e with
      | normal =>
        obtain ⟨y, hlt, hJ₁⟩ := hq
        obtain ⟨e₂, a₂, w₂, hq₂, harr₂⟩ := ih (μ y) (hj ▸ hlt) y a₁ w₁ rfl hJ₁
        exact ⟨e₂, a₂, w₂, hq₂, .of_steps (StepsIn.trans harr (.one (fenced_calm hb hr rfl) stepR_inLoop)) harr₂⟩
      | exit id => exact ⟨_, a₁, w₁, hq, .pass (x := .inLoop c) rfl (fun _ _ => .inl Q22) harr⟩
      | goto l => exact ⟨_, a₁, w₁, hq, .pass (x := .inLoop c) rfl (fun _ _ => .inl Q22) harr⟩
      | ret => exact ⟨_, a₁, w₁, hq, .pass (x := .inLoop c) rfl (fun _ _ => .inl Q22) harr⟩
      | panic ch => exact ⟨_, a₁, w₁, hq, .pass (x := .inLoop c) rfl (fun _ _ => .inl Q22) harr⟩
      | outgrown => exact ⟨_, a₁, w₁, hq, .pass (x := .inLoop c) rfl (fun _ _ => .inl Q22) harr⟩
  obtain ⟨e, a', w', hq, harr⟩ := key _ x0 a w rfl h0
  exact ⟨e, a', w', hq, .of_steps (.one (fenced_calm hb hr rfl) stepR_loop) harr⟩

/-- A LOOP: a family of states, each with what is known there, and a measure. -/
theorem SW_loop {α : Type} (I : α → Prop) (μ : α → Nat) (Hf : α → Hp) (ef : α → Env) (x0 : α) (h0 : I x0) (he : EnvSub (ef x0) e) (hh : HSub (Hf x0) H)
    (body : ∀ x, I x → SW ro P S w0 n ds (Hf x) (ef x) c (Exit.then (fun a w => ∃ y, μ y < μ x ∧ I y ∧ Sees n ds (ef y) a ∧ Holds S w0 (Hf y) w) Q)) :
    SW ro P S w0 n ds H e (Code.loop c) Q :=
  fun a w ha hw => wpIn_loopG (fun x a w => I x ∧ Sees n ds (ef x) a ∧ Holds S w0 (Hf x) w) μ (fun x a w ⟨hx, ha, hw⟩ => body x hx a w ha hw) x0 a w ⟨h0, ha.weaken he, hw.weaken hh⟩

/-- A round's end. -/
theorem SK_round {α : Type} {I : α → Prop} {μ : α → Nat} {Hf : α → Hp} {ef : α → Env} {x : α} (y : α) (hμ : μ y < μ x) (hy : I y) (he : EnvSub (ef y) e) (hh : HSub (Hf y) H) :
    SK S w0 n ds H e (fun a w => ∃ y, μ y < μ x ∧ I y ∧ Sees n ds (ef y) a ∧ Holds S w0 (Hf y) w) :=
  fun _ _ ha hw => ⟨y, hμ, hy, ha.weaken he, hw.weaken hh⟩

/-! ### a function's beginning and end -/
theorem sees_args (args : List Value) (n : Nat) (hn : args.length ≤ n) (e : Env) (he : ∀ t v, Get e t v → args[t]? = some v) :
    Sees n [] e { tmps := args.toArray ++ Array.replicate (n - args.toArray.size) undef, defers := [] } := by
  refine ⟨by simp; omega, rfl, fun t v g => ?_⟩
  have h := he t v g
  have hlt : t < args.length := by
    rcases Nat.lt_or_ge t args.length with h' | h'
    · exact h'
    rw [List.getElem?_eq_none h'] at h; cases h
  simp only [Array.getD_eq_getD_getElem?]
  rw [Array.getElem?_append_left (by simpa using hlt)]
  simp [h]

theorem sees1 (v0 : Value) (n : Nat) (hn : Nat.ble 1 n = true) : Sees n [] [(0, v0)] { tmps := #[v0] ++ Array.replicate (n - #[v0].size) undef, defers := [] } :=
  sees_args [v0] n Q42 _ fun t v g => by
    cases g with
    | hit => rfl
    | skip _ g => cases g
theorem sees2 (v0 v1 : Value) (n : Nat) (hn : Nat.ble 2 n = true) : Sees n [] [(0, v0), (1, v1)] { tmps := #[v0, v1] ++ Array.replicate (n - #[v0, v1].size) undef, defers := [] } :=
  sees_args [v0, v1] n Q42 _ fun t v g => by
    cases g with
    | hit => rfl
    | skip _ g => cases g with
      | hit => rfl
      | skip _ g => cases g
theorem sees3 (v0 v1 v2 : Value) (n : Nat) (hn : Nat.ble 3 n = true) : Sees n [] [(0, v0), (1, v1), (2, v2)] { tmps := #[v0, v1, v2] ++ Array.replicate (n - #[v0, v1, v2].size) undef, defers := [] } :=
  sees_args [v0, v1, v2] n Q42 _ fun t v g => by
    cases g with
    | hit => rfl
    | skip _ g => cases g with
      | hit => rfl
      | skip _ g => cases g with
        | hit => rfl
        | skip _ g => cases g
theorem sees4 (v0 v1 v2 v3 : Value) (n : Nat) (hn : Nat.ble 4 n = true) : Sees n [] [(0, v0), (1, v1), (2, v2), (3, v3)] { tmps := #[v0, v1, v2, v3] ++ Array.replicate (n - #[v0, v1, v2, v3].size) undef, defers := [] } :=
  sees_args [v0, v1, v2, v3] n Q42 _ fun t v g => by
    cases g with
    | hit => rfl
    | skip _ g => cases g with
      | hit => rfl
      | skip _ g => cases g with
        | hit => rfl
        | skip _ g => cases g with
          | hit => rfl
          | skip _ g => cases g
theorem sees6 (v0 v1 v2 v3 v4 v5 : Value) (n : Nat) (hn : Nat.ble 6 n = true) : Sees n [] [(0, v0), (1, v1), (2, v2), (3, v3), (4, v4), (5, v5)] { tmps := #[v0, v1, v2, v3, v4, v5] ++ Array.replicate (n - #[v0, v1, v2, v3, v4, v5].size) undef, defers := [] } :=
  sees_args [v0, v1, v2, v3, v4, v5] n Q42 _ fun t v g => by
    cases g with
    | hit => rfl
    | skip _ g => cases g with
      | hit => rfl
      | skip _ g => cases g with
        | hit => rfl
        | skip _ g => cases g with
          | hit => rfl
          | skip _ g => cases g with
            | hit => rfl
            | skip _ g => cases g with
              | hit => rfl
              | skip _ g => cases g

/-- A call of a function, by the walk of its body. -/
theorem sw_calls {f : FuncId} {fn : Func} {c : Code} {args : Array Value} {w : World} {R : Ending → World → Prop} {e : Env} {H : Hp}
    (hf : P.funcs[f]? = some fn) (hb : fn.body = some c) (hn : fn.ntmps = n)
    (ha : Sees n [] e { tmps := args ++ Array.replicate (n - args.size) undef, defers := [] }) (hw : Holds S w H w)
    (h : SW none P S w n [] H e c (bodyPost P fn R)) : Calls P f args w R :=
  calls_FW (ro := none) (m := 0) (callsIn_of_wp hf hb trivial (by rw [hn]; exact h _ _ ha hw) rfl)

/-- The end of a function whose results lie in slots. -/
theorem SK_ret1 {fn : Func} {R : Ending → World → Prop} {t : Nat} {v : Value} (hr : fn.results = #[.tmp t]) (g : Get e t v)
    (h : ∀ w, Holds S w0 H w → R (.returned v) w) : SK S w0 n [] H e (bodyPost P fn R .ret) :=
  fun a w ha hw => ⟨ha.defers, v, by rw [results_tmp hr, ha.slot t v g], h w hw⟩
theorem SK_end1 {fn : Func} {R : Ending → World → Prop} {t : Nat} {v : Value} (hr : fn.results = #[.tmp t]) (g : Get e t v)
    (h : ∀ w, Holds S w0 H w → R (.returned v) w) : SK S w0 n [] H e (bodyPost P fn R .normal) :=
  fun a w ha hw => ⟨ha.defers, v, by rw [results_tmp hr, ha.slot t v g], h w hw⟩
theorem SK_ret2 {fn : Func} {R : Ending → World → Prop} {t u : Nat} {v x : Value} (hr : fn.results = #[.tmp t, .tmp u]) (g : Get e t v) (g' : Get e u x)
    (h : ∀ w, Holds S w0 H w → R (.returned (.tuple #[v, x])) w) : SK S w0 n [] H e (bodyPost P fn R .ret) :=
  fun a w ha hw => ⟨ha.defers, _, by rw [results_tmp2 hr, ha.slot t v g, ha.slot u x g'], h w hw⟩
theorem results_tmp3' {fn : Func} {t u s : Tmp} (h : fn.results = #[.tmp t, .tmp u, .tmp s]) (tmps : Array Value) (w : World) :
    (results fn tmps).run P w = .ok (.tuple #[tmps.getD t undef, tmps.getD u undef, tmps.getD s undef]) w := by
  simp [results, h]
theorem results_tmp4' {fn : Func} {t u s r : Tmp} (h : fn.results = #[.tmp t, .tmp u, .tmp s, .tmp r]) (tmps : Array Value) (w : World) :
    (results fn tmps).run P w = .ok (.tuple #[tmps.getD t undef, tmps.getD u undef, tmps.getD s undef, tmps.getD r undef]) w := by
  simp [results, h]
theorem SK_ret3 {fn : Func} {R : Ending → World → Prop} {t u s : Nat} {v x y : Value} (hr : fn.results = #[.tmp t, .tmp u, .tmp s]) (g : Get e t v) (g' : Get e u x) (g'' : Get e s y)
    (h : ∀ w, Holds S w0 H w → R (.returned (.tuple #[v, x, y])) w) : SK S w0 n [] H e (bodyPost P fn R .ret) :=
  fun a w ha hw => ⟨ha.defers, _, by rw [results_tmp3' hr, ha.slot t v g, ha.slot u x g', ha.slot s y g''], h w hw⟩
theorem SK_ret4 {fn : Func} {R : Ending → World → Prop} {t u s r : Nat} {v x y z : Value} (hr : fn.results = #[.tmp t, .tmp u, .tmp s, .tmp r]) (g : Get e t v) (g' : Get e u x) (g'' : Get e s y) (g3 : Get e r z)
    (h : ∀ w, Holds S w0 H w → R (.returned (.tuple #[v, x, y, z])) w) : SK S w0 n [] H e (bodyPost P fn R .ret) :=
  fun a w ha hw => ⟨ha.defers, _, by rw [results_tmp4' hr, ha.slot t v g, ha.slot u x g', ha.slot s y g'', ha.slot r z g3], h w hw⟩
theorem SK_ret0 {fn : Func} {R : Ending → World → Prop} (hr : fn.results = #[])
    (h : ∀ w, Holds S w0 H w → R (.returned (.tuple #[])) w) : SK S w0 n [] H e (bodyPost P fn R .ret) :=
  fun a w ha hw => ⟨ha.defers, _, by rw [results_none hr], h w hw⟩
theorem SK_end0 {fn : Func} {R : Ending → World → Prop} (hr : fn.results = #[])
    (h : ∀ w, Holds S w0 H w → R (.returned (.tuple #[])) w) : SK S w0 n [] H e (bodyPost P fn R .normal) :=
  fun a w ha hw => ⟨ha.defers, _, by rw [results_none hr], h w hw⟩
end
section
variable {ro : Option Nat} {P : Program} {S : Nat → Prop} {w0 : World} {n : Nat} {ds : List Deferred} {H : Hp} {e e' : Env} {Q : Exit → Act → World → Prop} {x y c : Code} {ops : Array Oper} {l : List Oper}
variable {d t : Nat} {op : Op} {ty : TypeId} {pos : String} {aft : Array Edge} {u v : Value}

theorem Ek (ts : List Nat) (h : SW ro P S w0 n ds H e' c Q) (hk : EnvK ts e' e := by repeat (first | exact EnvK.nil | (apply EnvK.cons; exact rfl))) : SW ro P S w0 n ds H e c Q := h.env hk.sub
theorem Sq (h : ∀ K : Act → World → Prop, (∀ a w, y.wpIn (FW ro) 0 P Q a w → K a w) → SW ro P S w0 n ds H e x (Exit.then K Q)) : SW ro P S w0 n ds H e (Code.seq x y) Q := SW_seq h
theorem So {K : Act → World → Prop} (hK : ∀ a w, y.wpIn (FW ro) 0 P Q a w → K a w) (h : SW ro P S w0 n ds H e y Q) : SK S w0 n ds H e K := SK_of hK h
theorem Sr {id : Nat} (h : SL ro P S w0 n ds l.toArray H e l Q) : SW ro P S w0 n ds H e (Code.region id l.toArray false) Q := SW_region h
theorem SR {id : Nat} (h : ∀ K : Act → World → Prop, (∀ a w, y.wpIn (FW ro) 0 P Q a w → K a w) → SL ro P S w0 n ds l.toArray H e l (Exit.then K Q)) : SW ro P S w0 n ds H e (Code.seq (Code.region id l.toArray false) y) Q := SW_seq fun K hK => SW_region (h K hK)
theorem Sn (h : SK S w0 n ds H e (Q .normal)) : SL ro P S w0 n ds ops H e [] Q := SL_nil h
theorem SN {Q0 : Exit → Act → World → Prop} (hK : ∀ a w, y.wpIn (FW ro) 0 P Q a w → Q0 .normal a w) (h : SW ro P S w0 n ds H e y Q) : SL ro P S w0 n ds ops H e [] Q0 := SL_nil fun a w ha hw => hK a w (h a w ha hw)
theorem Ss (h : SK S w0 n ds H e (Q .normal)) : SW ro P S w0 n ds H e Code.skip Q := SW_skip h
theorem SS {Q0 : Exit → Act → World → Prop} (hK : ∀ a w, y.wpIn (FW ro) 0 P Q a w → Q0 .normal a w) (h : SW ro P S w0 n ds H e y Q) : SW ro P S w0 n ds H e Code.skip Q0 := SW_skip fun a w ha hw => hK a w (h a w ha hw)
theorem Rt (h : SK S w0 n ds H e (Q .ret)) : SW ro P S w0 n ds H e Code.ret Q := SW_ret h
theorem Bl {id : Nat} (h : SW ro P S w0 n ds H e c (Exit.inBlock id Q)) : SW ro P S w0 n ds H e (Code.block id c) Q := SW_block h
theorem Xt {id : Nat} (h : SK S w0 n ds H e (Q (.exit id))) : SW ro P S w0 n ds H e (Code.exit id) Q := SW_exit h
theorem Th (h : SW ro P S w0 n ds H ((t, .bool true) :: e) x Q) : SW ro P S w0 n ds H ((t, .bool true) :: e) (Code.cond (.tmp t) x y) Q := SW_true (.tmp .hit) h
theorem Fh (h : SW ro P S w0 n ds H ((t, .bool false) :: e) y Q) : SW ro P S w0 n ds H ((t, .bool false) :: e) (Code.cond (.tmp t) x y) Q := SW_false (.tmp .hit) h
theorem To (h : SW ro P S w0 n ds H e x Q) (g : lk e t = some (.bool true) := by exact rfl) : SW ro P S w0 n ds H e (Code.cond (.tmp t) x y) Q := SW_true (.tmp (.o g)) h
theorem Fo (h : SW ro P S w0 n ds H e y Q) (g : lk e t = some (.bool false) := by exact rfl) : SW ro P S w0 n ds H e (Code.cond (.tmp t) x y) Q := SW_false (.tmp (.o g)) h
theorem Sd {b : Bool} (h1 : b = true → SW ro P S w0 n ds H e x Q) (h2 : b = false → SW ro P S w0 n ds H e y Q) (g : lk e t = some (.bool b) := by exact rfl) : SW ro P S w0 n ds H e (Code.cond (.tmp t) x y) Q := SW_cond (.tmp (.o g)) h1 h2
end
end
end Go.Proofs.YtoibhfpagkdleaaGreatDoor
