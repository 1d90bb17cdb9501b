import PyProof.Rows.All
import Wide.All
import OpenK.AllK
import Wide.FinOn
import PySem.Sre
import PySem.Builtin.Sre.Common
import Lean
import PySem.Challenge.RW_er0026_01
set_option Elab.async false
set_option linter.all false
-- Q0
set_option maxRecDepth 100000
set_option Elab.async false
namespace Mine
open Lean Meta Elab Tactic PySem PySem.W PySem.W.X PySem.Calls PyProof.Rows

/-- the told heap, object by object -/
def putHeap : TacticM Unit := withMainContext do
  let pE ← whnfR (← mkAppM ``OpenLaw.prog #[mkConst ``PySem.Challenge.rw_er0026_01])
  let p ← progOf pE
  let some (h, h') ← twoRuns p | throwError "the top does not come through"
  let P := mkConst ``Params
  let tyO ← mkArrow P (mkConst ``Obj)
  let mut cs : Array Lean.Expr := #[]
  for a in [0:h.objs.size] do
    let v ← withLocalDeclD `P P fun q => do
      let some o := h.get? a | throwError "head: no object"
      let some o' := h'.get? a | throwError "head: no object"
      let e := objE q o
      unless e == objE q o' do throwError "head: an object is the world's"
      mkLambdaFVars #[q] e
    let n := (`Mine).str s!"zo{a}"
    addDecl (.defnDecl { name := n, levelParams := [], type := tyO, value := (((← Fast.quick v).map (·.1)).getD v), hints := .abbrev, safety := .safe })
    cs := cs.push (mkConst n)
  let v ← withLocalDeclD `P P fun q => do
    mkLambdaFVars #[q] (mkApp2 (mkConst ``Array.mk [0]) (mkConst ``Obj) (listE (mkConst ``Obj) (cs.toList.map fun c => mkApp c q)))
  (← getMainGoal).assign v
noncomputable def Kh : Params → Array Obj := by run_tac putHeap
end Mine
-- K0
set_option maxRecDepth 100000
set_option Elab.async false
namespace Mine
open PySem PySem.W
/-- a lighter step: what a step leaves alone is handed on as it stands, and a fresh token is counted without the world in sight -/
def stepQ (den : Code → Sem Fin) (p : Program) (w : World) (s : SharedT) : Thread → Option (SharedT × Thread)
  | ⟨cur, code, pos, stack⟩ => match cur with
    | .fresh k => match s with
      | ⟨T, n, life, gens, drawn, toks, os⟩ => some (⟨T, n, life, gens, drawn, toks + 1, os⟩, ⟨k toks, code, pos, stack⟩)
    | .rule _ k => some (s, ⟨k (), code, pos, stack⟩)
    | .point _ k => some (s, ⟨k (), code, pos, stack⟩)
    | .at q k => some (s, ⟨k (), code, q, stack⟩)
    | .ask k => some (s, ⟨k ⟨p, w.params⟩, code, pos, stack⟩)
    | .pure (.again c) => match step den p w ⟨{}, #[], {}, 0, s.os⟩ ⟨.pure (.again c), code, pos, stack⟩ with
      | .go _ t => some (s, t)
      | .halt _ _ => none
    | .pure (.done f) => match stack with
      | .ret k _ _ _ c q _ :: rest => some (s, ⟨k (.ok f), c, q, rest⟩)
      | _ => none
    | .raise e => match stack with
      | .ret k _ _ _ c q _ :: rest => some (s, ⟨k (.error e), c, q, rest⟩)
      | _ => none
    | .call c h g l k => match step den p w ⟨{}, #[], {}, 0, s.os⟩ ⟨.call c h g l k, code, pos, stack⟩ with
      | .go _ t => some (s, t)
      | .halt _ _ => none
    | .stack k => match step den p w ⟨{}, #[], {}, 0, s.os⟩ ⟨.stack k, code, pos, stack⟩ with
      | .go _ t => some (s, t)
      | .halt _ _ => none
    | .handled o k => match step den p w ⟨{}, #[], {}, 0, s.os⟩ ⟨.handled o k, code, pos, stack⟩ with
      | .go _ t => some (s, t)
      | .halt _ _ => none
    | c => stepT den p w s ⟨c, code, pos, stack⟩
section
variable {den : Code → Sem Fin} {p : Program} {w : World}
theorem stepQ_spec {s s' : SharedT} {t t' : Thread} (h : stepQ den p w s t = some (s', t')) : step den p w s.abs t = .go s'.abs t' := by
  obtain ⟨cur, code, pos, stack⟩ := t
  cases cur with
  | fresh | rule | point | «at» | ask => cases h; rfl
  | pure f =>
    cases f with
    | again c => cases h; rfl
    | done f => cases stack with
      | nil => cases h
      | cons fr r => cases fr with
        | ret => cases h; rfl
        | gen => cases h
  | raise e => cases stack with
    | nil => cases h
    | cons fr r => cases fr with
      | ret => cases h; rfl
      | gen => cases h
  | call | stack | handled => cases h; rfl
  | _ => exact stepT_spec h
end
def segRunQ (tb : String → Option Builtin) (p : Program) (w : World) (n₀ : Nat) (ann : Option Value) (b : Nat) : Nat → SharedT → Thread → Option (Flow × SharedT × Code × Pos)
  | 0, _, _ => none
  | n + 1, s, t => match endAt b t with
    | some f => some (f, s, t.code, t.pos)
    | none => match stepOk n₀ ann t with
      | false => none
      | true => match stepQ (denote tb) p w s t with
        | some (s', t') => segRunQ tb p w n₀ ann b n s' t'
        | none => none
def segGoQ (tb : String → Option Builtin) (p : Program) (w : World) (n₀ : Nat) (ann : Option Value) (b : Nat) : Nat → SharedT → Thread → Option (SharedT × Thread)
  | 0, s, t => some (s, t)
  | n + 1, s, t => match endAt b t with
    | some _ => none
    | none => match stepOk n₀ ann t with
      | false => none
      | true => match stepQ (denote tb) p w s t with
        | some (s', t') => segGoQ tb p w n₀ ann b n s' t'
        | none => none
def impEndsQ (tb : String → Option Builtin) (p : Program) (w : World) : Nat → SharedT → Thread → Option SharedT
  | 0, _, _ => none
  | n + 1, s, t => match t.atExitBegin with
    | some [] => some s
    | some (_ :: _) => none
    | none => match stepQ (denote tb) p w s t with
      | some (s', t') => impEndsQ tb p w n s' t'
      | none => none
section
variable {tb : String → Option Builtin} {p : Program} {w : World} {n₀ : Nat} {ann : Option Value} {b : Nat}
theorem impEndsQ_of : ∀ {n : Nat} {s s' : SharedT} {t : Thread}, impEndsQ tb p w n s t = some s' → importEnds tb p w n s.abs t = some s'.abs
  | 0, _, _, _, h => by cases h
  | n + 1, s, s', t, h => by
    rw [impEndsQ] at h; rw [importEnds]
    cases he : t.atExitBegin with
    | some x => cases x with
      | nil => rw [he] at h; cases h; rfl
      | cons => rw [he] at h; cases h
    | none =>
      rw [he] at h
      cases hs : stepQ (denote tb) p w s t with
      | none => rw [hs] at h; cases h
      | some r => obtain ⟨s₂, t₂⟩ := r; rw [hs] at h; dsimp only; rw [stepQ_spec hs]; exact impEndsQ_of h
theorem segRunQ_of : ∀ {n : Nat} {s s' : SharedT} {t : Thread} {f : Flow} {c : Code} {q : Pos}, segRunQ tb p w n₀ ann b n s t = some (f, s', c, q) → segRun tb p w n₀ ann b n s.abs t = some (f, s'.abs, c, q)
  | 0, _, _, _, _, _, _, h => by cases h
  | n + 1, s, s', t, f, c, q, h => by
    rw [segRunQ] at h; rw [segRun]
    cases he : endAt b t with
    | some x => rw [he] at h; cases h; rfl
    | none =>
      rw [he] at h
      cases hk : stepOk n₀ ann t with
      | false => rw [hk] at h; cases h
      | true =>
        rw [hk] at h
        cases hs : stepQ (denote tb) p w s t with
        | none => rw [hs] at h; cases h
        | some r => obtain ⟨s₂, t₂⟩ := r; rw [hs] at h; rw [stepQ_spec hs]; exact segRunQ_of h
theorem segGoQ_of : ∀ {n : Nat} {s s' : SharedT} {t t' : Thread}, segGoQ tb p w n₀ ann b n s t = some (s', t') → segGo tb p w n₀ ann b n s.abs t = some (s'.abs, t')
  | 0, _, _, _, _, h => by cases h; rfl
  | n + 1, s, s', t, t', h => by
    rw [segGoQ] at h; rw [segGo]
    cases he : endAt b t with
    | some x => rw [he] at h; cases h
    | none =>
      rw [he] at h
      cases hk : stepOk n₀ ann t with
      | false => rw [hk] at h; cases h
      | true =>
        rw [hk] at h
        cases hs : stepQ (denote tb) p w s t with
        | none => rw [hs] at h; cases h
        | some r => obtain ⟨s₂, t₂⟩ := r; rw [hs] at h; rw [stepQ_spec hs]; exact segGoQ_of h
end
end Mine
-- K1
set_option maxRecDepth 100000
set_option linter.all false
set_option Elab.async false
namespace Mine
open Lean Meta Elab Tactic PySem PySem.W PyProof.Rows
universe u
/-- the element at a place, found by one walk down the list -/
noncomputable def k_getL {α : Type u} (l : List α) : (i : Nat) → i < l.length → α :=
  @List.rec α (fun l => (i : Nat) → i < l.length → α) (fun i h => absurd h (Nat.not_lt_zero i))
    (fun a t ih i => @Nat.rec (fun i => i < (a :: t).length → α) (fun _ => a) (fun i _ h => ih i (Nat.lt_of_succ_lt_succ h)) i) l
theorem k_getL_eq {α : Type u} : ∀ (l : List α) (i : Nat) (h : i < l.length), l.get ⟨i, h⟩ = k_getL l i h
  | [], i, h => absurd h (Nat.not_lt_zero i)
  | _ :: _, 0, _ => rfl
  | _ :: t, i + 1, h => k_getL_eq t i (Nat.lt_of_succ_lt_succ h)
noncomputable def k_getQ {α : Type u} (a : Array α) (i : Nat) (h : i < a.size) : α := k_getL a.toList i h
theorem k_getQ_eq : @Array.getInternal.{u} = @k_getQ.{u} := by funext α a i h; exact k_getL_eq a.toList i h

/-- the first place, down the list -/
noncomputable def k_findL {α : Type u} (p : α → Bool) (l : List α) : Nat → Option Nat :=
  @List.rec α (fun _ => Nat → Option Nat) (fun _ => none) (fun a _ ih k => @Bool.rec (fun _ => Option Nat) (ih (Nat.succ k)) (some k) (p a)) l
theorem k_findL_eq {α : Type u} (p : α → Bool) : ∀ (l : List α) (k : Nat), k_findL p l k = (l.findIdx? p).map (· + k)
  | [], _ => rfl
  | a :: l, k => by
    rw [List.findIdx?_cons]
    show @Bool.rec (fun _ => Option Nat) (k_findL p l (Nat.succ k)) (some k) (p a) = _
    cases p a with
    | true => simp
    | false =>
      rw [show @Bool.rec (fun _ => Option Nat) (k_findL p l (Nat.succ k)) (some k) false = k_findL p l (Nat.succ k) from rfl, k_findL_eq p l]
      cases l.findIdx? p with
      | none => rfl
      | some j => simp; omega
noncomputable def k_findQ' {α : Type u} (p : α → Bool) (a : Array α) : Option Nat := k_findL p a.toList 0
theorem k_findQ'_eq : @Array.findIdx?.{u} = @k_findQ'.{u} := by
  funext α p a
  obtain ⟨l⟩ := a
  rw [List.findIdx?_toArray]
  show _ = k_findL p l 0
  rw [k_findL_eq]
  cases List.findIdx? p l <;> rfl
noncomputable def k_allL {α : Type u} (p : α → Bool) (l : List α) : Bool := @List.rec α (fun _ => Bool) true (fun a _ ih => @Bool.rec (fun _ => Bool) false ih (p a)) l
theorem k_allL_eq {α : Type u} (p : α → Bool) : ∀ l : List α, k_allL p l = l.all p
  | [] => rfl
  | a :: l => by
    show @Bool.rec (fun _ => Bool) false (k_allL p l) (p a) = _
    rw [List.all_cons]
    cases p a with
    | true => exact k_allL_eq p l
    | false => rfl
noncomputable def k_allQ {α : Type u} (as : Array α) (p : α → Bool) (start : Nat := 0) (stop : Nat := as.size) : Bool :=
  @Bool.rec (fun _ => Bool) ((Array.allM (m := Id) (fun x => pure (p x)) as start stop).run) (k_allL p as.toList) (@Bool.rec (fun _ => Bool) false (Nat.beq stop as.size) (Nat.beq start 0))
theorem k_allQ_eq : @Array.all.{u} = @k_allQ.{u} := by
  funext α as p start stop
  unfold k_allQ
  cases h : Nat.beq start 0 with
  | false => rfl
  | true =>
    cases h' : Nat.beq stop as.size with
    | false => rfl
    | true =>
      have e := Nat.eq_of_beq_eq_true h
      have e' := Nat.eq_of_beq_eq_true h'
      subst e; subst e'
      rw [show @Bool.rec (fun _ => Bool) false true true = true from rfl]
      show _ = k_allL p as.toList
      rw [k_allL_eq, Array.all_toList]
/-- a tree over a list: the places by their halves -/
inductive k_Tr (α : Type u) where
  | nil
  | node (v : α) (l r : k_Tr α)
noncomputable def k_ev {α : Type u} (l : List α) : Bool → List α :=
  @List.rec α (fun _ => Bool → List α) (fun _ => []) (fun a _ ih b => @Bool.rec (fun _ => List α) (ih true) (a :: ih false) b) l
noncomputable def k_mkT {α : Type u} (n : Nat) : List α → k_Tr α :=
  @Nat.rec (fun _ => List α → k_Tr α) (fun _ => .nil) (fun _ ih l => @List.rec α (fun _ => k_Tr α) .nil (fun a t _ => .node a (ih (k_ev t true)) (ih (k_ev t false))) l) n
noncomputable def k_getT {α : Type u} (d : α) (t : k_Tr α) : Nat → α :=
  @k_Tr.rec α (fun _ => Nat → α) (fun _ => d) (fun v _ _ il ir i => @Bool.rec (fun _ => α) (@Bool.rec (fun _ => α) (ir (Nat.sub (Nat.div i 2) 1)) (il (Nat.div i 2)) (Nat.beq (Nat.mod i 2) 1)) v (Nat.beq i 0)) t
theorem k_ev_get {α : Type u} : ∀ (l : List α) (j : Nat), (k_ev l true)[j]? = l[2 * j]? ∧ (k_ev l false)[j]? = l[2 * j + 1]?
  | [], j => ⟨rfl, rfl⟩
  | a :: t, j => by
    have e1 : k_ev (a :: t) true = a :: k_ev t false := rfl
    have e2 : k_ev (a :: t) false = k_ev t true := rfl
    rw [e1, e2]
    refine ⟨?_, ?_⟩
    · cases j with
      | zero => rfl
      | succ j =>
        rw [List.getElem?_cons_succ, (k_ev_get t j).2, show 2 * (j + 1) = (2 * j + 1) + 1 by omega, List.getElem?_cons_succ]
    · rw [(k_ev_get t j).1, List.getElem?_cons_succ]
theorem k_ev_len {α : Type u} : ∀ (l : List α) (b : Bool), (k_ev l b).length ≤ l.length
  | [], _ => Nat.le_refl _
  | a :: t, true => Nat.succ_le_succ (k_ev_len t false)
  | a :: t, false => Nat.le_succ_of_le (k_ev_len t true)
theorem k_getT_eq {α : Type u} (d : α) : ∀ (n : Nat) (l : List α) (i : Nat), l.length ≤ n → k_getT d (k_mkT n l) i = (l[i]?).getD d
  | 0, l, i, h => by
    have : l = [] := List.length_eq_zero_iff.mp (Nat.le_zero.mp h)
    subst this; rfl
  | n + 1, [], i, h => rfl
  | n + 1, a :: t, i, h => by
    have e : k_getT d (k_mkT (n + 1) (a :: t)) i = @Bool.rec (fun _ => α) (@Bool.rec (fun _ => α) (k_getT d (k_mkT n (k_ev t false)) (Nat.sub (Nat.div i 2) 1)) (k_getT d (k_mkT n (k_ev t true)) (Nat.div i 2)) (Nat.beq (Nat.mod i 2) 1)) a (Nat.beq i 0) := rfl
    have ht : t.length ≤ n := Nat.le_of_succ_le_succ h
    rw [e, k_getT_eq d n _ _ (Nat.le_trans (k_ev_len t false) ht), k_getT_eq d n _ _ (Nat.le_trans (k_ev_len t true) ht), (k_ev_get t _).1, (k_ev_get t _).2]
    cases h0 : Nat.beq i 0 with
    | true =>
      have := Nat.eq_of_beq_eq_true h0
      subst this; rfl
    | false =>
      have hi : i ≠ 0 := Nat.ne_of_beq_eq_false h0
      cases h1 : Nat.beq (Nat.mod i 2) 1 with
      | true =>
        have q : i % 2 = 1 := Nat.eq_of_beq_eq_true h1
        show (t[2 * (i / 2)]?).getD d = _
        rw [show i = 2 * (i / 2) + 1 by omega, List.getElem?_cons_succ, show 2 * ((2 * (i / 2) + 1) / 2) = 2 * (i / 2) by omega]
      | false =>
        have q : i % 2 ≠ 1 := Nat.ne_of_beq_eq_false h1
        show (t[2 * (i / 2 - 1) + 1]?).getD d = _
        rw [show i = (2 * (i / 2 - 1) + 1) + 1 by omega, List.getElem?_cons_succ, show 2 * ((2 * (i / 2 - 1) + 1 + 1) / 2 - 1) + 1 = 2 * (i / 2 - 1) + 1 by omega]
noncomputable def k_getDQ {α : Type u} (a : Array α) (i : Nat) (d : α) : α := k_getT d (k_mkT a.size a.toList) i
theorem k_getDQ_eq : @Array.getD.{u} = @k_getDQ.{u} := by
  funext α a i d
  rw [k_getDQ, k_getT_eq d a.size a.toList i (Nat.le_of_eq Array.length_toList), Array.getElem?_toList]
  exact Array.getD_eq_getD_getElem? ..
/-- the list's own look-up -/
noncomputable def k_getF {α : Type u} (l : List α) (i : Fin l.length) : α := k_getL l i.1 i.2
theorem k_getF_eq : @List.get.{u} = @k_getF.{u} := by funext α l i; exact k_getL_eq l i.1 i.2

set_option warn.classDefReducibility false in
/-- a for over an array, as one over its list -/
noncomputable def k_forQ.{a, b, c} : {α : Type a} → {m : Type b → Type c} → [Monad m] → ForIn' m (Array α) α inferInstance :=
  fun {_ _} [_] => ⟨fun {_} as b f => List.forIn' as.toList b (fun a h b => f a (Array.mem_toList_iff.mp h) b)⟩
theorem k_forQ_eq.{a, b, c} : @Array.instForIn'InferInstanceMembershipOfMonad.{a, b, c} = @k_forQ.{a, b, c} := by
  funext α m inst
  refine congrArg (fun g => ForIn'.mk g) ?_
  funext β as b f
  obtain ⟨l⟩ := as
  exact List.forIn'_toArray l b f

/-- the table of the builtin bodies, with one row told ahead -/
noncomputable def tableQ (id : String) : Option Builtin := @Bool.rec (fun _ => Option Builtin) (treeTable id) (some Builtin.«_sre.compile») (Nat.beq (code id) (code "_sre.compile"))
theorem tableQ_eq : @treeTable = tableQ := by
  funext id
  unfold tableQ
  cases h : Nat.beq (code id) (code "_sre.compile") with
  | false => rfl
  | true =>
    have e := code_inj _ _ (Nat.eq_of_beq_eq_true h)
    subst e
    kernel_rfl

/-- the twins of all that reaches a given constant -/
abbrev Walked := NameMap Bool × Array Name
def postorder (stop : List Name) (fuel : Nat) (c : Name) : StateT Walked MetaM Bool := match fuel with
  | 0 => throwError "too deep"
  | fuel + 1 => do
    if let some b := (← get).1.find? c then return b
    let b0 := stop.contains c
    modify fun (m, a) => (m.insert c b0, a)
    if b0 || Fast.base.any (fun x => x.1 == c) then return b0
    let some (.defnInfo d) := (← getEnv).find? c | return false
    let mut b := false
    for x in d.value.getUsedConstants do
      if ← postorder stop fuel x then b := true
    if b then modify fun (m, a) => (m.insert c true, a.push c)
    return b
/-- the twins that nobody laid yet -/
def fresh (fuel : Nat) (c : Name) : StateT Walked MetaM Unit := match fuel with
  | 0 => throwError "too deep"
  | fuel + 1 => do
    if (← get).1.contains c then return
    modify fun (m, a) => (m.insert c true, a)
    if Fast.base.any (fun x => x.1 == c) || (← getEnv).contains (Fast.stemOf c).2 then return
    let some (.defnInfo d) := (← getEnv).find? c | return
    for x in d.value.getUsedConstants do fresh fuel x
    modify fun (m, a) => (m, a.push c)
def relayNew (tag : String) (roots : List Name) : MetaM Unit := do
  let (_, (_, a)) ← (roots.forM (fresh 10000)).run ({}, #[])
  for (c, i) in a.zipIdx do
    if let some r ← Fast.makeTwin c ((`Mine).str s!"{tag}{i}") ((`Mine).str s!"{tag}{i}_eq") then
      Fast.primed.modify (·.insert c (some r))
def relay (tag : String) (roots : List Name) (stop : List (Name × Name × Name)) : MetaM Nat := do
  let (_, (_, a)) ← (roots.forM fun r => discard <| postorder (stop.map (·.1)) 10000 r).run ({}, #[])
  for (c, n, e) in stop do Fast.primed.modify (·.insert c (some (n, e)))
  let mut bad := 0
  for (c, i) in a.zipIdx do
    match ← Fast.makeTwin c ((`Mine).str s!"{tag}{i}") ((`Mine).str s!"{tag}{i}_eq") with
    | some r => Fast.primed.modify (·.insert c (some r))
    | none => bad := bad + 1
  return a.size * 1000 + bad
end Mine
-- KQ
set_option maxRecDepth 100000
namespace Mine
open Lean Meta Elab Tactic PySem PySem.W
/-- both sides by their twins, the kernel's word between them -/
def byTwins (l r : Lean.Expr) : MetaM Lean.Expr := do
  let lem (ty pf : Lean.Expr) : MetaM Lean.Expr := do
    if ty.hasFVar then mkExpectedTypeHint pf ty else return mkConst (← withOptions (Elab.async.set · false) (mkAuxLemma [] ty pf (cache := false)))
  let turn (e : Lean.Expr) : MetaM (Lean.Expr × Lean.Expr) := do match ← Fast.quick e with
    | some x => pure x
    | none => pure (e, ← mkEqRefl e)
  let (l', hl) ← turn l
  let (r', hr) ← turn r
  let mid ← lem (← mkEq l' r') (← mkEqRefl r')
  mkEqTrans hl (← mkEqTrans mid (← mkEqSymm hr))
def qrfl : TacticM Unit := withMainContext do
  let g ← getMainGoal
  let some (_, l, r) := (← instantiateMVars (← g.getType)).eq? | throwError "no equation"
  g.assign (← byTwins l r)
def qdec : TacticM Unit := withMainContext do
  let g ← getMainGoal
  let p ← instantiateMVars (← g.getType)
  let i ← synthInstance (mkApp (mkConst ``Decidable) p)
  g.assign (mkApp3 (mkConst ``of_decide_eq_true) p i (← byTwins (mkApp2 (mkConst ``Decidable.decide) p i) (mkConst ``Bool.true)))
/-- one step of a walk: what is cheap is tried first -/
def stepD : TacticM Unit := do
  evalTactic (← `(tactic| first
    | with_reducible assumption
    | with_reducible (first
      | refine wpAny_pure ?_ | refine wpAny_bind ?_ | refine wpAny_holding ?_ | refine wpAny_standAt ?_ | refine wpAny_point ?_ | refine wpAny_rule ?_
      | refine wpAny_letGo ?_ | refine wpAny_mkInt' ?_ | refine wpAny_fresh' ?_ | refine wpAny_alloc' ?_ | refine wpAny_attempt ?_
      | refine wpAny_throw ?_ | refine wpAny_of_eq (by assumption) ?_ | refine wpAny_call ?_ | refine wpAny_runValue ?_ | refine wpAny_run ?_)
    | wp_delta
    | assumption))
end Mine
-- K2
set_option maxRecDepth 100000
set_option Elab.async false
namespace Mine
open Lean Meta Elab Tactic PySem PySem.W
def maskOf (l : List String) : Nat := l.foldl (fun m s => m ||| (1 <<< ((s.toByteArray.data.toList.foldr (fun b h => h * 256 + b.toNat + 1) 0) % 4093))) 0
def putMask (l : List String) : TacticM Unit := do (← getMainGoal).assign (mkRawNatLit (maskOf l))
/-- the types of the rows that are unsure, as bits -/
def stubMask : Nat := by run_tac putMask (Manifest.stubUnsure.map (·.1))
def handMask : Nat := by run_tac putMask Manifest.handRows
noncomputable def inMask (m : Nat) (s : String) : Bool := Nat.beq (Nat.land (Nat.shiftRight m (Nat.mod (code s) 4093)) 1) 1
theorem stub_ok : (Manifest.stubUnsure.all fun p => inMask stubMask p.1) = true := by run_tac qrfl
theorem hand_ok : (Manifest.handRows.all fun p => inMask handMask p) = true := by run_tac qrfl
noncomputable def k_stub (ty attr : String) : Bool := (inMask stubMask ty && Manifest.stubUnsure.contains (ty, attr)) || (inMask handMask ty && (Manifest.handRows.contains ty && !Manifest.stubKnown.contains attr))
theorem k_stub_eq : @Manifest.stubStops = k_stub := by
  funext ty attr
  unfold Manifest.stubStops k_stub
  have e1 : Manifest.stubUnsure.contains (ty, attr) = true → inMask stubMask ty = true := fun h => List.all_eq_true.mp stub_ok _ (List.contains_iff_mem.mp h)
  have e2 : Manifest.handRows.contains ty = true → inMask handMask ty = true := fun h => List.all_eq_true.mp hand_ok _ (List.contains_iff_mem.mp h)
  cases h1 : Manifest.stubUnsure.contains (ty, attr) with
  | true => rw [e1 h1]; rfl
  | false => cases h2 : Manifest.handRows.contains ty with
    | true => rw [e2 h2, Bool.and_false]; rfl
    | false => rw [Bool.and_false, Bool.false_and, Bool.and_false]
end Mine
-- H0n
set_option maxRecDepth 100000
namespace Mine
open Lean Meta Elab Tactic PySem PySem.W PySem.W.X PySem.Calls PyProof.Rows

/-- a look that comes out true, by its twin -/
def quickTrue : TacticM Unit := withMainContext do
  let g ← getMainGoal
  let some (_, l, r) := (← instantiateMVars (← g.getType)).eq? | throwError "no equation"
  let (e, h?) ← match ← Fast.quick l with | some (x, h) => pure (x, some h) | none => pure (l, none)
  let n ← withOptions (Elab.async.set · false) (mkAuxLemma [] (← mkEq e r) (mkApp2 (mkConst ``Eq.refl [1]) (mkConst ``Bool) r) (cache := false))
  g.assign (← match h? with | some h => mkEqTrans h (mkConst n) | none => pure (mkConst n))

/-- the twins of the run, laid anew over lighter look-ups -/
def relayAll : TacticM Unit := do
  discard <| relay "qa" [``piecesOf, ``blockOf, ``topStub, ``topGo, ``topRun, ``importEnds, ``fenceModules?, ``openSeen, ``opening, ``start, ``denote, ``stepOk, ``stepQ, ``segRunQ, ``segGoQ, ``impEndsQ, ``Builtin.«_sre.compile»]
    [(``Array.getInternal, ``k_getQ, ``k_getQ_eq), (``Array.getD, ``k_getDQ, ``k_getDQ_eq), (``List.get, ``k_getF, ``k_getF_eq), (``Array.findIdx?, ``k_findQ', ``k_findQ'_eq), (``Array.all, ``k_allQ, ``k_allQ_eq),
      (``Array.instForIn'InferInstanceMembershipOfMonad, ``k_forQ, ``k_forQ_eq), (``Manifest.stubStops, ``k_stub, ``k_stub_eq)]
  relayNew "qn" [``Program.tablesWhole]
  let some (tn, te) ← Fast.makeTwin ``tableQ `Mine.qtab `Mine.qtab_eq | throwError "the table"
  addDecl (.thmDecl { name := `Mine.qtab_is, levelParams := [], type := ← mkEq (mkConst ``treeTable) (mkConst tn), value := ← mkEqTrans (mkConst ``tableQ_eq) (mkConst te) })
  Fast.primed.modify (·.insert ``treeTable (some (tn, `Mine.qtab_is)))

/-- the head: a view of the law's def and the imports alone; the whole heap told -/
def mineHead : TacticM Unit := withMainContext do
  let ty ← whnfR (← instantiateMVars (← getMainTarget))
  unless ty.isAppOfArity ``OpenRow.Holds 1 do throwError "head: no row"
  let r ← mkAppM ``OpenRow.toRowW #[ty.appArg!]
  let pE ← whnfR (← mkAppM ``RowW.prog #[r])
  let p ← progOf pE
  let some (h, _) ← twoRuns p | throwError "the top does not come through"
  let tk ← match ← traceTop p 1000000 1 with
    | .ok t => pure t
    | .error m => throwError "head: {m}"
  for a in [0:h.objs.size] do Fast.primed.modify (·.insert ((`Mine).str s!"zo{a}") none)
  let K := mkConst `Mine.Kh
  let main ← whnfD (← mkAppM ``Program.main #[pE])
  let some cells ← cellsD? (← mkAppM ``Module.body #[main]) | throwError "the text's body"
  let keep := (p.main.body.zipIdx.filter fun (st, _) => !(importedNames st).isEmpty || (match st with | .FunctionDef n .. => n.toString == "law" | _ => false)).map (·.2)
  let held := (p.main.body.zipIdx.filter fun (_, i) => keep.contains i).flatMap fun (st, _) => importedNames st ++ (match st with | .FunctionDef n .. => [n] | _ => [])
  let loose := (h.nsKeys mainGlobals).filter fun k => !startupNames.contains k && !held.contains k
  let nm (x : PySem.Str) := mkApp (mkConst ``PySem.Str.ofString) (mkStrLit x.toString)
  let body ← mkListLit (mkConst ``Stmt) (keep.filterMap fun i => cells[i]?)
  let bS ← Term.exprToSyntax body
  let pS ← Term.exprToSyntax pE
  let qV ← instantiateMVars (← Term.elabTerm (← `(({ $pS with main := { ($pS).main with body := $bS } } : Program))) none)
  let q ← mkAuxDefinition (← mkAuxDeclName `view) (mkConst ``Program) qV (compile := false)
  let looseE ← mkListLit (mkConst ``PySem.Str) (loose.map nm)
  logInfo m!"view {keep}; loose {loose.length}"
  let (rS, qS, lS) := (← Term.exprToSyntax r, ← Term.exprToSyntax q, ← Term.exprToSyntax looseE)
  let steps := tk.pre.steps + tk.block.steps + (tk.pieces.map (·.steps)).foldl (· + ·) 0 + tk.fin.steps
  let nS := Syntax.mkNumLit (toString (2 * steps + 1000))
  let kS ← Term.exprToSyntax K
  let tkS ← Term.exprToSyntax (mkRawNatLit tk.fin.s.toks)
  let (hl, hw, hc) := (mkIdent `hl, mkIdent `hw, mkIdent `hc)
  evalTactic (← `(tactic| refine holds_openX (q := $qS) (loose := $lS) (Xt := fun s => xlAt $qS [] s && recOk (RowW.records $rS) s) (XP := XL $qS []) (Yf := fun s => (s.heap.objs, s.toks)) (Ya := fun w => ($kS w.params, $tkS)) (N := $nS) ?$hl
    (fun s e => xl_of s (Bool.and_eq_true_iff.mp e).1) XL.keeps (by rfl) (by rfl) (by rfl) (fun s e => recFacts_of (Bool.and_eq_true_iff.mp e).2) (by rfl) (by first | assumption | decide +kernel) (by decide +kernel) ⟨rfl, rfl, rfl, rfl, rfl, by run_tac Mine.quickTrue⟩ ?$hw ?$hc))
end Mine
-- H4n
set_option maxRecDepth 100000
namespace Mine
open Lean Meta Elab Tactic PySem PySem.W PyProof.Rows

def tyP : Lean.Expr := mkConst ``Params

/-- the objects met: each a constant of its own, its value turned once -/
abbrev Bag := IO.Ref (Std.HashMap Lean.Expr Lean.Expr)

def objKey (o o' : Obj) : MetaM Lean.Expr := withLocalDeclD `P tyP fun q => do
  let e := objE q o
  unless e == objE q o' do throwError "an object is the world's"
  mkLambdaFVars #[q] e

def layOne (bag : Bag) (o o' : Obj) : MetaM Lean.Expr := do
  let v ← objKey o o'
  if let some c := (← bag.get)[v]? then return c
  let c ← defAt `zo (← mkArrow tyP (mkConst ``Obj)) (((← Fast.quick v).map (·.1)).getD v)
  Fast.primed.modify (·.insert c.constName! none)
  bag.modify (·.insert v c)
  return c

abbrev Met := Array (Obj × Obj × Lean.Expr)

def layMet (bag : Bag) (old : Met) (s s' : Shared) : MetaM Met := do
  unless s.heap.objs.size == s'.heap.objs.size && toExpr s.heap.life == toExpr s'.heap.life && toExpr s.drawn == toExpr s'.drawn && s.toks == s'.toks do throwError "the two worlds part"
  let mut out := #[]
  for i in [0:s.heap.objs.size] do
    let (o, o') := (s.heap.objs[i]!, s'.heap.objs[i]!)
    let c ← match old[i]? with
      | some (a, a', e) => if sameObjNow a o && sameObjNow a' o' then pure e else layOne bag o o'
      | none => layOne bag o o'
    out := out.push (o, o', c)
  return out

/-- a state with its heap as an array -/
def flat (bag : Bag) (old : Met) (s s' : Shared) : MetaM (Met × W.State) := do
  let m ← layMet bag old s s'
  let v ← withLocalDeclD `P tyP fun q => do
    mkLambdaFVars #[q] (mkApp2 (mkConst ``Heap.mk) (mkApp2 (mkConst ``Array.mk [0]) (mkConst ``Obj) (listE (mkConst ``Obj) (m.toList.map fun x => mkApp x.2.2 q))) (toExpr s.heap.life))
  let h ← defAt `zh (← mkArrow tyP (mkConst ``Heap)) v
  Fast.primed.modify (·.insert h.constName! none)
  return (m, { heap := h, gens := ← gensE s s', drawn := toExpr s.drawn, toks := mkRawNatLit s.toks })

/-- a state with its heap as a tree -/
def treed (bag : Bag) (old : Met) (s s' : Shared) : MetaM (Met × W.State) := do
  let m ← layMet bag old s s'
  let os := m.map (·.2.2)
  let v ← withLocalDeclD `P tyP fun q => mkLambdaFVars #[q] (treeE q os 1 0)
  let t ← defAt `zt (← mkArrow tyP (mkConst ``BT)) v
  Fast.primed.modify (·.insert t.constName! none)
  return (m, { heap := default, gens := ← gensE s s', drawn := toExpr s.drawn, toks := mkRawNatLit s.toks, tree := some (t, mkRawNatLit s.heap.objs.size, toExpr s.heap.life) })

def lemOf (ty pf : Lean.Expr) : MetaM Lean.Expr := return mkConst (← withOptions (Elab.async.set · false) (mkAuxLemma [] ty pf (cache := false)))

def clock {α : Type} (_m : String) (x : MetaM α) : MetaM α := x

def checked (P : Lean.Expr) (rows : List String) : MetaM Lean.Expr := go (rows.length + 1) P rows
where go : Nat → Lean.Expr → List String → MetaM Lean.Expr
  | 0, _, _ => throwError "rows"
  | _ + 1, P, [] => do
    let W := mkConst ``World
    let some (e', h) ← withLocalDeclD `w W (fun w => do
      let e := (mkApp P w).headBeta
      let some (e', h) ← Fast.quick e | return none
      return some (← mkLambdaFVars #[w] e', ← mkLambdaFVars #[w] h)) | byKernelOnce P []
    let lem ← byKernelOnce e' []
    let r ← do
      let (ty, pf) ← withLocalDeclD `w W fun w => do
        let e := (mkApp P w).headBeta
        pure (← mkForallFVars #[w] e, ← mkLambdaFVars #[w] (← mkAppOptM ``Eq.mpr #[e, (mkApp e' w).headBeta, (mkApp h w).headBeta, mkApp lem w]))
      lemOf ty pf
    return r
  | n + 1, P, r :: rs => do
    let side (b : Name) : MetaM Lean.Expr := withLocalDeclD `w (mkConst ``World) fun w => do
      mkLambdaFVars #[w] (mkApp P (mkApp3 (mkConst ``World.withFollow) w (mkStrLit r) (mkConst b))).headBeta
    return mkApp4 (mkConst ``byRow2) (mkStrLit r) P (← go n (← side ``Bool.false) rs) (← go n (← side ``Bool.true) rs)

def piece (rows : List String) (lhs rhs : Lean.Expr → Lean.Expr → MetaM Lean.Expr) : MetaM Lean.Expr := do
  let P ← withLocalDeclD `w (mkConst ``World) fun w => withLocalDeclD `os (mkConst ``OsState) fun os => do
    let (a, b) := (← lhs w os, ← rhs w os)
    mkLambdaFVars #[w] (← mkEq (← mkLambdaFVars #[os] a) (← mkLambdaFVars #[os] b))
  checked P rows

/-- one statement, or some small ones, of the top -/
structure Grp where
  cells : List Lean.Expr
  sts : List Stmt
  steps : Nat
  last : Snap
  last' : Snap
  rows : List String


def mineLeft (cap long : Nat) : TacticM Unit := withMainContext do
  let g ← getMainGoal
  let T := (← instantiateMVars (← g.getType)).consumeMData
  unless T.isAppOf ``LeftO do throwError "no LeftO"
  let a := T.getAppArgs
  let (pE, q, loose, Xt, al, Yf, Ya, NE, g0) := (a[0]!, a[1]!, a[2]!, a[3]!, a[4]!, a[5]!, a[6]!, a[7]!, a[8]!)
  let p ← progOf (← whnfR pE)
  let some N ← (Meta.evalNat NE).run | throwError "N"
  let .ok t ← traceTop p N 1 | throwError "trace"
  let .ok t' ← traceTop p N 2 | throwError "trace"
  let tb := mkConst ``treeTable
  let m0 := natE t.s0.heap.objs.size
  let annE := toExpr t.ann
  let bag : Bag ← IO.mkRef {}
  -- the last state's objects are those that the head has named
  let .lam _ _ kb _ := (← instantiateMVars Ya) | throwError "Ya"
  let some (.defnInfo kd) := (← getEnv).find? (kb.getAppArgs[2]!.getAppFn.constName!) | throwError "K"
  let some (_, kl) := kd.value.bindingBody!.appArg!.listLit? | throwError "K's list"
  let ks := kl.toArray
  unless ks.size == t.fin.s.heap.objs.size do throwError "K's size"
  for i in [0:ks.size] do
    let v ← objKey t.fin.s.heap.objs[i]! t'.fin.s.heap.objs[i]!
    bag.modify (·.insert v ks[i]!.getAppFn)
    Fast.primed.modify (·.insert ks[i]!.getAppFn.constName! none)
  let bE ← mkAppM ``behindTheImports #[pE]
  let scope ← mkAppM ``Module.scope #[← mkAppM ``Program.main #[pE]]
  let envE ← Term.withSynthesize (Term.elabTermEnsuringType (← `(({ scope := $(← Term.exprToSyntax scope), locals := mainNs, globals := mainNs, cells := [], code := $(← Term.exprToSyntax (toExpr t.code)), frame := some $(quote t.frame) } : Env))) (mkConst ``Env))
  let envE ← defAt `zenv (mkConst ``Env) (← instantiateMVars envE)
  let some cells ← cellsD? bE | throwError "the body"
  let qE := toExpr t.framePos
  let cE := mkApp2 (mkConst ``Code.body) bE envE
  let B := listE (mkConst ``Frame) [mkApp (mkConst ``topFrame) qE]
  let stub := mkApp (mkConst ``topStub) pE
  let rst (n : Lean.Expr) (f : Name) (w : Lean.Expr) (extra : Array Lean.Expr) (s th : Lean.Expr) := mkAppN (mkConst f) (#[tb, pE, w, m0, annE] ++ extra ++ #[n, s, th])
  let one := natE 1
  let ends (s pos : Lean.Expr) : MetaM Lean.Expr := do mkAppM ``some #[← mkAppM ``Prod.mk #[mkConst ``Flow.next, ← mkAppM ``Prod.mk #[s, ← mkAppM ``Prod.mk #[cE, pos]]]]
  let rowsOf (x y : Snap) := (x.rows ++ y.rows).eraseDups
  let (o, S0) ← flat bag #[] t.s0 t'.s0
  let (o, Sa) ← flat bag o t.pre.s t'.pre.s
  let pre ← clock s!"pre {t.pre.steps}" <| piece (rowsOf t.pre t'.pre) (fun w os => pure (rst (natE t.pre.steps) ``topGo w #[] (S0.at w os) stub)) fun w os => do
    mkAppM ``some #[← mkAppM ``Prod.mk #[Sa.at w os, mkApp4 (mkConst ``Thread.mk) (mkApp2 (mkConst ``denote) tb cE) cE (toExpr t.pre.pos) B]]
  let (o, Sb) ← treed bag o t.block.s t'.block.s
  let block ← clock s!"block {t.block.steps}" <| piece (rowsOf t.block t'.block) (fun w os => pure (rst (natE t.block.steps.succ) ``segRun w #[one] (Sa.at w os) (mkAppN (mkConst ``blockOf) #[bE, envE, cE, toExpr t.pre.pos, B]))) fun w os => ends (Sb.at w os) (toExpr t.block.pos)
  let mut grps : Array Grp := #[]
  for ((c, st), (x, x')) in (cells.zip t.body).zip (t.pieces.zip t'.pieces) do
    let n := max x.steps x'.steps
    match grps.back? with
    | some y => if y.steps + n ≤ (if n ≥ 700 && y.steps ≥ 700 then long else cap) && y.rows == rowsOf x x' then grps := grps.pop.push { y with cells := y.cells ++ [c], sts := y.sts ++ [st], steps := y.steps + n, last := x, last' := x' } else grps := grps.push ⟨[c], [st], n, x, x', rowsOf x x'⟩
    | none => grps := grps.push ⟨[c], [st], n, x, x', rowsOf x x'⟩
  let mut o := o
  let mut S := Sb
  let mut pos := t.block.pos
  let mut from1 := t.block.s
  let mut from2 := t'.block.s
  let mut lems := #[]
  for (y, gi) in grps.zipIdx do
    let stE ← defAt `zs (mkApp (mkConst ``List [0]) (mkConst ``Stmt)) (listE (mkConst ``Stmt) y.cells)
    let (o', S') ← treed bag o y.last.s y.last'.s
    let (S1, pos1) := (S, pos)
    let whole : Lean.Expr := mkAppN (mkConst ``piecesOf) #[stE, envE, cE, toExpr pos1, B]
    let posE := toExpr y.last.pos
    let lem ← if y.steps ≤ long then
        clock s!"piece {gi}: {y.sts.length} statements, {y.steps} steps, rows {y.rows}" (do liftT (← piece y.rows (fun w os => pure (rst (natE y.steps.succ) ``segRunQ w #[one] (S1.atT w os) whole)) fun w os => ends (S'.atT w os) posE) ``segRunQ_of)
      else do
        let th := piecesOf y.sts t.benv t.bcode pos1 [topFrame t.framePos]
        let (cuts, lastRows) ← cutsNow p 1 cap y.steps from1 th
        let (cuts', lastRows') ← cutsNow p 2 cap y.steps from2 th
        unless cuts.size == cuts'.size do throwError "the two worlds part"
        let mut parts := #[]
        let mut Sj := S1
        let mut thr : Lean.Expr → Lean.Expr → Lean.Expr := fun _ _ => whole
        let mut oj := o
        let mut left := y.steps
        for ((c, sj, rj), (c', sj', rj')) in cuts.toList.zip cuts'.toList do
          unless c == c' do throwError "the two worlds part"
          let (o2, Sn) ← treed bag oj sj sj'
          let (Sp, tp) := (Sj, thr)
          let asked := (rj ++ rj').eraseDups
          let thrE ← clock s!"piece {gi}: cut of {c}, rows {asked}: its thread" <| withLocalDeclD `w (mkConst ``World) fun w => withLocalDeclD `os (mkConst ``OsState) fun os => do
            let W := asked.foldl (fun w r => mkApp3 (mkConst ``World.withFollow) w (mkStrLit r) (mkConst ``Bool.false)) w
            let r ← whnfQuick (rst (natE c) ``segGoQ W #[one] (Sp.atT W os) (tp W os))
            unless r.isAppOfArity ``Option.some 2 do throwError "a cut: no state"
            let r2 ← Dig.kw r.appArg!
            unless r2.isAppOfArity ``Prod.mk 4 do throwError "a cut: no pair"
            let t2 := r2.appArg!
            mkLambdaFVars #[w, os] (if asked.isEmpty then t2 else t2.replace fun x => if x == W then some w else none)
          let thrC ← defAt `zth (← mkArrow (mkConst ``World) (← mkArrow (mkConst ``OsState) (mkConst ``Thread))) thrE
          Fast.primed.modify (·.insert thrC.constName! none)
          let tn (w os : Lean.Expr) : Lean.Expr := mkApp2 thrC w os
          let l ← clock s!"piece {gi}: its check" (do liftT (← piece asked (fun w os => pure (rst (natE c) ``segGoQ w #[one] (Sp.atT w os) (tp w os))) fun w os => do mkAppM ``some #[← mkAppM ``Prod.mk #[Sn.atT w os, tn w os]]) ``segGoQ_of)
          parts := parts.push (c, Sp, tp, Sn, tn, l)
          Sj := Sn
          thr := tn
          oj := o2
          left := left - c
        let (Sl, tl) := (Sj, thr)
        let n := left
        let last ← clock s!"piece {gi}: last {n}" (do liftT (← piece (lastRows ++ lastRows').eraseDups (fun w os => pure (rst (natE n.succ) ``segRunQ w #[one] (Sl.atT w os) (tl w os))) fun w os => ends (S'.atT w os) posE) ``segRunQ_of)
        let (ty, pf) ← withLocalDeclD `w (mkConst ``World) fun w => do
          let (f, ty) ← withLocalDeclD `os (mkConst ``OsState) fun os => do
            let r ← ends (S'.at w os) posE
            let mut k ← mkAppM ``congrFun #[mkApp last w, os]
            let mut N' := natE n.succ
            for (c, Sp, tp, Sn, tn, l) in parts.toList.reverse do
              k := mkAppN (mkConst ``seg_go) #[tb, pE, w, m0, annE, one, natE c, N', Sp.at w os, Sn.at w os, tp w os, tn w os, r.appArg!, ← mkAppM ``congrFun #[mkApp l w, os], k]
              N' := mkApp2 (mkConst ``Nat.add) (natE c) N'
            pure (← mkLambdaFVars #[os] k, ← mkEq (← mkLambdaFVars #[os] (rst (natE y.steps.succ) ``segRun w #[one] (S1.at w os) whole)) (← mkLambdaFVars #[os] r))
          pure (← mkForallFVars #[w] ty, ← mkLambdaFVars #[w] (← mkAppM ``funext #[f]))
        lemOf ty pf
    lems := lems.push (stE, S1, pos1, S', y, lem)
    o := o'
    S := S'
    pos := y.last.pos
    from1 := y.last.s
    from2 := y.last'.s
  let (_, Sf) ← flat bag o t.fin.s t'.fin.s
  let (Sm, posm) := (S, pos)
  let fin ← clock s!"fin {t.fin.steps}" <| piece (rowsOf t.fin t'.fin) (fun w os => pure (rst (natE t.fin.steps.succ) ``topRun w #[] (Sm.at w os) (mkApp4 (mkConst ``Thread.mk) (mkApp (mkConst ``doneF) (mkConst ``Flow.next)) cE (toExpr posm) B))) fun w os => mkAppM ``some #[Sf.at w os]
  let mut M := natE t.fin.steps.succ
  for (_, _, _, _, y, _) in lems.toList.reverse do M := mkApp2 (mkConst ``Nat.add) (natE y.steps.succ) M
  M := mkApp2 (mkConst ``Nat.add) (natE t.pre.steps) (mkApp2 (mkConst ``Nat.add) (natE t.block.steps.succ) M)
  let run ← clock "run" <| do
    let (ty, pf) ← withLocalDeclD `w (mkConst ``World) fun w => withLocalDeclD `os (mkConst ``OsState) fun os => do
      let atW (l : Lean.Expr) : MetaM Lean.Expr := mkAppM ``congrFun #[mkApp l w, os]
      let r := Sf.at w os
      let mut k ← atW fin
      let mut N' := natE t.fin.steps.succ
      let mut rest := listE (mkConst ``Stmt) []
      let common := #[tb, pE, w, m0, annE, envE, qE]
      for (stE, S1, pos1, S', y, lem) in lems.toList.reverse do
        k := mkAppN (mkConst ``piece_app) (common ++ #[natE y.steps.succ, N', S1.at w os, S'.at w os, r, stE, rest, cE, toExpr pos1, toExpr y.last.pos, ← atW lem, k])
        N' := mkApp2 (mkConst ``Nat.add) (natE y.steps.succ) N'
        rest ← mkAppM ``HAppend.hAppend #[stE, rest]
      k := mkAppN (mkConst ``piece_block) (common ++ #[natE t.block.steps.succ, N', Sa.at w os, Sb.at w os, r, bE, cE, toExpr t.pre.pos, toExpr t.block.pos, ← atW block, k])
      N' := mkApp2 (mkConst ``Nat.add) (natE t.block.steps.succ) N'
      k := mkAppN (mkConst ``go_top) #[tb, pE, w, m0, annE, natE t.pre.steps, N', S0.at w os, Sa.at w os, r, stub, mkApp4 (mkConst ``Thread.mk) (mkApp2 (mkConst ``denote) tb cE) cE (toExpr t.pre.pos) B, ← atW pre, k]
      let ty ← mkEq (rst M ``topRun w #[] (S0.at w os) stub) (← mkAppM ``some #[r])
      pure (← mkForallFVars #[w, os] ty, ← mkLambdaFVars #[w, os] k)
    lemOf ty pf
  -- the opening
  let .ok (cuts, left, se, rl) ← impCutsNow p 1 | throwError "the opening"
  let .ok (cuts', left', se', rl') ← impCutsNow p 2 | throwError "the opening"
  unless cuts.size == cuts'.size && left == left' do throwError "the two worlds part"
  let asked := ((cuts ++ cuts').toList.flatMap (fun x => x.2.2) ++ rl ++ rl').eraseDups
  let total := cuts.foldl (fun k x => k + x.1) left + 1
  let qE' ← mkAppM ``opening #[pE]
  let stE ← mkAppM ``start #[qE']
  let os0 ← mkAppM ``Shared.os #[← mkAppM ``Prod.fst #[stE]]
  let imp (f : Name) (n : Lean.Expr) (w s th : Lean.Expr) := mkAppN (mkConst f) #[tb, qE', w, n, s, th]
  let t0E ← mkAppM ``Prod.snd #[stE]
  let (oz, Sz) ← treed bag #[] (start (opening p)).1 (start (opening p)).1
  let (_, Se) ← treed bag oz se se'
  let last ← clock s!"opening: {total} steps, rows {asked}" (do liftT (← piece asked (fun w os => pure (imp ``impEndsQ (natE total) w (Sz.atT w os) t0E)) fun w os => mkAppM ``some #[Se.atT w os]) ``impEndsQ_of)
  let some (tr, nE, lifeE) := Se.tree | throwError "no tree"
  let heT ← withLocalDeclD `P tyP fun P => mkLambdaFVars #[P] (mkApp3 (mkConst ``absHeap) (mkApp tr P) nE lifeE)
  let M' := natE total
  let hE ← do
    let (ty, pf) ← withLocalDeclD `w (mkConst ``World) fun w => do
      pure (← mkForallFVars #[w] (← mkEq (imp ``importEnds M' w (← mkAppM ``Prod.fst #[stE]) t0E) (← mkAppM ``some #[Se.at w os0])), ← mkLambdaFVars #[w] (← mkAppM ``congrFun #[mkApp last w, os0]))
    clock "opening: joined" <| lemOf ty pf
  let (fs, _, _) ← forallMetaTelescope (← inferType (mkConst ``open_cut))
  let vs := #[pE, NE, M', heT, S0.heap, Se.gens, S0.gens, Se.drawn, S0.drawn, Se.toks, S0.toks]
  for (m, v) in fs.zip vs do m.mvarId!.assign v
  let .forallE n d b bi ← instantiateMVars (← inferType fs[13]!) | throwError "the fence"
  let fE ← clock "the fence" <| checked (.lam n d b bi) []
  let leE ← mkDecideProof (← instantiateMVars (← inferType fs[12]!))
  let open_ := mkAppN (mkConst ``open_cut) (vs ++ #[hE, leE, fE])
  -- the looks
  let e := mkConst ``LeftO.of_pieces
  let (ms, _, _) ← forallMetaTelescope (← inferType e)
  let vals := #[pE, q, loose, Xt, al, Yf, Ya, NE, g0, S0.heap, Sf.heap, S0.gens, Sf.gens, S0.drawn, Sf.drawn, S0.toks, Sf.toks, m0, annE, M]
  for (m, v) in ms.zip vals do m.mvarId!.assign v
  let .forallE n d b bi ← instantiateMVars (← inferType ms[21]!) | throwError "a look"
  let size ← clock "size" <| checked (.lam n d b bi) []
  let .forallE _ _ bd _ ← instantiateMVars (← inferType ms[24]!) | throwError "a look"
  let rec look (fuel : Nat) (l r : Lean.Expr) : MetaM Lean.Expr := do
    let two ← withLocalDeclD `w (mkConst ``World) fun w => withLocalDeclD `os (mkConst ``OsState) fun os => do
      let open1 (e : Lean.Expr) : MetaM Lean.Expr := do
        let e := (mkApp2 e w os).headBeta
        if e.isAppOf ``openSeen || e.isAppOf ``openGood then return (← unfoldDefinition? e).getD e else return e
      let (a, b) := (← open1 l, ← open1 r)
      if a.isAppOfArity ``Prod.mk 4 && b.isAppOfArity ``Prod.mk 4 then
        let f (e : Lean.Expr) (i : Nat) := mkLambdaFVars #[w, os] e.getAppArgs[i]!
        return some (← f a 2, ← f b 2, ← f a 3, ← f b 3)
      return none
    match two, fuel with
    | some (a1, b1, a2, b2), fuel + 1 =>
      let x ← look fuel a1 b1
      let y ← look fuel a2 b2
      let (ty, pf) ← withLocalDeclD `w (mkConst ``World) fun w => withLocalDeclD `os (mkConst ``OsState) fun os => do
        let pf ← mkAppM ``looks_pair #[mkApp2 x w os, mkApp2 y w os]
        pure (← mkForallFVars #[w, os] (← mkEq (mkApp2 l w os).headBeta (mkApp2 r w os).headBeta), ← mkLambdaFVars #[w, os] pf)
      lemOf ty pf
    | _, _ =>
      let P ← withLocalDeclD `w (mkConst ``World) fun w => do mkLambdaFVars #[w] (← mkEq (mkApp l w).headBeta (mkApp r w).headBeta)
      relayNew s!"qm{(← Fast.primed.get).size}x" (P.getUsedConstants.toList.filter fun c => (`PySem).isPrefixOf c && !(`PySem.Challenge).isPrefixOf c)
      let e ← clock "a look" <| checked P []
      withLocalDeclD `w (mkConst ``World) fun w => withLocalDeclD `os (mkConst ``OsState) fun os => do mkLambdaFVars #[w, os] (← mkAppM ``congrFun #[mkApp e w, os])
  let (l, r) ← withLocalDeclD `w (mkConst ``World) fun w => do
    let some (_, l, r) := (bd.instantiate1 w).eq? | throwError "a look"
    pure (← mkLambdaFVars #[w] l, ← mkLambdaFVars #[w] r)
  let h ← look 14 l r
  let looks ← withLocalDeclD `w (mkConst ``World) fun w => do
    let f ← withLocalDeclD `os (mkConst ``OsState) fun os => do mkLambdaFVars #[os] (mkApp2 h w os)
    mkLambdaFVars #[w] (← mkAppM ``funext #[f])
  let le ← mkDecideProof (← instantiateMVars (← inferType ms[23]!))
  g.assign (mkAppN e (vals ++ #[open_, size, run, le, looks]))
end Mine
namespace Mine
open PySem PySem.W PyProof.Rows PySem.Calls
set_option maxRecDepth 100000 in
set_option maxHeartbeats 0 in
/-- the head: what the walk of the law's call still owes -/
theorem headH (walk : ∀ (q : Program) (loose : List Str) (XP : (Str → Option Value) → Heap → Prop) (d : DefRec) (kwd : List (Str × Expr)), d.name = "law" → PySem.Challenge.pw_er0026_01.theDef "law" = some (d.params, d.body, d.scope) → kwd = [] →
    WalkX q loose XP (fun s => (s.heap.objs, s.toks)) (fun w => (Kh w.params, 7120)) PySem.Challenge.rw_er0026_01.row.toRowW d kwd (fun f vs => PySem.call f vs)) : PySem.Challenge.rw_er0026_01.Holds := by
  run_tac relayAll
  w_on; o_law
  run_tac mineHead
  case hl => run_tac mineLeft 800 2300
  case hw => w_witness2
  case hc => exact walk _ _ _ _ _ rfl rfl rfl
end Mine
-- J0
set_option maxRecDepth 20000
namespace Mine
open PySem PySem.Calls PyProof.Rows

/-! ## values told by what they are -/
inductive PV where
  | none
  | bool (b : Bool)
  | int (i : Int)
  | str (x : Str)
  | tup (l : List PV)
  | lst (l : List PV)
  | obj (v : Value)

mutual
inductive Is (h : Heap) : Value → PV → Prop
  | none : Is h .none .none
  | bool (b : Bool) : Is h (.bool b) (.bool b)
  | int (i : Int) (t : Tok) : Is h (.int i t) (.int i)
  | str (x : Str) (t : Tok) : Is h (.str x t) (.str x)
  | tup {a : Addr} {vs : List Value} {n : Nat} {l : List PV} (ho : h.get? a = some { cls := .type "tuple", data := .seq vs.toArray n }) (hl : IsAll h vs l) : Is h (.ref a) (.tup l)
  | lst {a : Addr} {vs : List Value} {n : Nat} {l : List PV} (ho : h.get? a = some { cls := .type "list", data := .seq vs.toArray n }) (hl : IsAll h vs l) : Is h (.ref a) (.lst l)
  | obj (v : Value) : Is h v (.obj v)
inductive IsAll (h : Heap) : List Value → List PV → Prop
  | nil : IsAll h [] []
  | cons {v : Value} {p : PV} {vs : List Value} {l : List PV} (hv : Is h v p) (hl : IsAll h vs l) : IsAll h (v :: vs) (p :: l)
end

/-- what is no namespace is kept -/
def KeepS (h h' : Heap) : Prop := ∀ a c vs n, h.get? a = some { cls := c, data := .seq vs n } → h'.get? a = some { cls := c, data := .seq vs n }
theorem KeepS.of {h h' : Heap} (k : ∀ b o, h.get? b = some o → h'.get? b = some o) : KeepS h h' := fun _ _ _ _ e => k _ _ e
mutual
theorem Is.keep {h h' : Heap} (k : KeepS h h') : ∀ {v : Value} {p : PV}, Is h v p → Is h' v p
  | _, _, .none => .none
  | _, _, .bool b => .bool b
  | _, _, .int i t => .int i t
  | _, _, .str x t => .str x t
  | _, _, .tup ho hl => .tup (k _ _ _ _ ho) (IsAll.keep k hl)
  | _, _, .lst ho hl => .lst (k _ _ _ _ ho) (IsAll.keep k hl)
  | _, _, .obj v => .obj v
theorem IsAll.keep {h h' : Heap} (k : KeepS h h') : ∀ {v : List Value} {p : List PV}, IsAll h v p → IsAll h' v p
  | _, _, .nil => .nil
  | _, _, .cons hv hl => .cons (Is.keep k hv) (IsAll.keep k hl)
end
theorem IsAll.length {h : Heap} : ∀ {v : List Value} {p : List PV}, IsAll h v p → v.length = p.length
  | _, _, .nil => rfl
  | _, _, .cons _ hl => by rw [List.length_cons, List.length_cons, IsAll.length hl]

/-- the state grows -/
def Up (s s' : Shared) : Prop := ∃ h' tk, s' = { s with heap := h', toks := tk } ∧ ∀ b o, s.heap.get? b = some o → h'.get? b = some o
theorem Up.refl (s : Shared) : Up s s := ⟨s.heap, s.toks, rfl, fun _ _ e => e⟩
theorem Up.tok (s : Shared) (k : Nat) : Up s { s with toks := k } := ⟨s.heap, k, rfl, fun _ _ e => e⟩
theorem Up.push (s : Shared) (o : Obj) (k : Nat) : Up s { s with heap := s.heap.push o, toks := k } := ⟨_, _, rfl, fun _ _ e => Heap.get?_push_of_some o e⟩
theorem Up.trans {a b c : Shared} (x : Up a b) (y : Up b c) : Up a c := by
  obtain ⟨h1, t1, rfl, k1⟩ := x
  obtain ⟨h2, t2, rfl, k2⟩ := y
  exact ⟨h2, t2, rfl, fun b o e => k2 b o (k1 b o e)⟩
theorem Up.keep {s s' : Shared} (x : Up s s') : ∀ b o, s.heap.get? b = some o → s'.heap.get? b = some o := by
  obtain ⟨h', tk, rfl, k⟩ := x
  exact k
/-- the state grows but for one object -/
def UpL (L : Addr) (s s' : Shared) : Prop := ∃ h' tk, s' = { s with heap := h', toks := tk } ∧ ∀ b o, b ≠ L → s.heap.get? b = some o → h'.get? b = some o
theorem Up.upL {s s' : Shared} (x : Up s s') (L : Addr) : UpL L s s' := let ⟨h, t, e, k⟩ := x; ⟨h, t, e, fun b o _ g => k b o g⟩
theorem UpL.refl (L : Addr) (s : Shared) : UpL L s s := (Up.refl s).upL L
theorem UpL.trans {L : Addr} {a b c : Shared} (x : UpL L a b) (y : UpL L b c) : UpL L a c := by
  obtain ⟨h1, t1, rfl, k1⟩ := x
  obtain ⟨h2, t2, rfl, k2⟩ := y
  exact ⟨h2, t2, rfl, fun b o n e => k2 b o n (k1 b o n e)⟩

/-- the frame at hand bears these names -/
def Gd (h₀ : Heap) (L : Addr) (ρ : List (Str × PV)) (s : Shared) : Prop :=
  ∃ m, Fr h₀ L s.heap m ∧ ∀ x p, ρ.lookup x = some p → ∃ v, m x = some v ∧ Is s.heap v p
variable {h₀ : Heap} {L : Addr} {ρ ρ' : List (Str × PV)} {s s' : Shared}
theorem Gd.up (G : Gd h₀ L ρ s) (u : Up s s') : Gd h₀ L ρ s' := by
  obtain ⟨m, F, hm⟩ := G
  refine ⟨m, F.after u.keep, fun x p e => ?_⟩
  obtain ⟨v, h1, h2⟩ := hm x p e
  exact ⟨v, h1, h2.keep (.of u.keep)⟩
theorem Gd.weak (G : Gd h₀ L ρ s) (h : ∀ x p, ρ'.lookup x = some p → ρ.lookup x = some p) : Gd h₀ L ρ' s := by
  obtain ⟨m, F, hm⟩ := G
  exact ⟨m, F, fun x p e => hm x p (h x p e)⟩
theorem keepS_same {h h' : Heap} {m : Str → Option Value} (hn : h.Ns L m) (hs : Heap.SameBut L h h') : KeepS h h' := by
  intro a c vs n e
  by_cases ha : a = L
  · subst ha
    obtain ⟨o, es, ep, ho, hd, _⟩ := hn
    rw [ho] at e; cases e; cases hd
  · exact (hs.2 a ha).trans e
theorem Gd.set {h' : Heap} {k : Nat} {x : Str} {v : Value} {p : PV} {m : Str → Option Value} (F : Fr h₀ L s.heap m) (hm : ∀ x p, ρ.lookup x = some p → ∃ v, m x = some v ∧ Is s.heap v p) (hv : Is s.heap v p)
    (hn : h'.Ns L (fun y => if y = x then some v else m y)) (hs : Heap.SameBut L s.heap h') : Gd h₀ L ((x, p) :: ρ) { s with heap := h', toks := k } := by
  refine ⟨_, F.set hn hs, fun y q e => ?_⟩
  rw [List.lookup_cons] at e
  have ks := keepS_same F.ns hs
  cases hb : y == x with
  | true =>
    rw [hb] at e; cases e
    have := eq_of_beq hb
    subst this
    exact ⟨v, by simp, hv.keep ks⟩
  | false =>
    rw [hb] at e
    obtain ⟨v', h1, h2⟩ := hm y q e
    exact ⟨v', by rw [if_neg (fun e => by rw [e] at hb; simp at hb)]; exact h1, h2.keep ks⟩

/-- room for d calls -/
structure Rm (d : Nat) (A : Around) : Prop where
  depth : A.depth + d < recursionLimit
  hand : A.handled = none
theorem Rm.deeper {d : Nat} {A : Around} (R : Rm (d + 1) A) (env : Env) : Rm d (A.deeper env) := ⟨by have := R.depth; show A.depth + 1 + d < _; omega, R.hand⟩
theorem Rm.mono {d d' : Nat} {A : Around} (R : Rm d A) (h : d' ≤ d) : Rm d' A := ⟨by have := R.depth; omega, R.hand⟩

/-- a frame of a def -/
structure Fm where
  prog : Program
  w : World
  h₀ : Heap
  d : Nat
  name : Str
  scope : Scope
  L : Addr
  a : Addr
  cd : Value
def Fm.env (X : Fm) : Env := envOf X.name X.scope X.L X.a X.cd
def Fm.Gd (X : Fm) (ρ : List (Str × PV)) (s : Shared) : Prop := Mine.Gd X.h₀ X.L ρ s

/-- e tells p -/
def Ev (X : Fm) (ρ : List (Str × PV)) (e : Expr) (p : PV) : Prop :=
  ∀ A, Rm X.d A → ∀ (s : Shared) (E : Value → Shared → Prop) (Q : Value → Shared → Prop), X.Gd ρ s → (∀ v s', Up s s' → Is s'.heap v p → Q v s') → wpAny (model X.prog X.w) A (eval e X.env) Q E s
/-- the test e comes to b -/
def Ts (X : Fm) (ρ : List (Str × PV)) (e : Expr) (b : Bool) : Prop :=
  ∀ A, Rm X.d A → ∀ (s : Shared) (E : Value → Shared → Prop) (Q : Bool → Shared → Prop), X.Gd ρ s → (∀ s', Up s s' → Q b s') → wpAny (model X.prog X.w) A (isTrue e X.env (eval e X.env)) Q E s
/-- a call of the value at f -/
def Fn (prog : Program) (w : World) (h₀ : Heap) (d : Nat) (f : Value) (args : List PV) (p : PV) : Prop :=
  ∀ A, Rm d A → ∀ (s : Shared) (E : Value → Shared → Prop) (Q : Value → Shared → Prop) vs, (∀ b o, h₀.get? b = some o → s.heap.get? b = some o) → h₀.objs.size ≤ s.heap.objs.size → IsAll s.heap vs args →
    (∀ v s', Up s s' → Is s'.heap v p → Q v s') → wpAny (model prog w) A (call f vs) Q E s
inductive Out where
  | next (ρ : List (Str × PV))
  | brk (ρ : List (Str × PV))
  | cont (ρ : List (Str × PV))
  | ret (p : PV)
def Out.ok (X : Fm) : Out → Flow → Shared → Prop
  | .next ρ, .next, s => X.Gd ρ s
  | .brk ρ, .brk, s => X.Gd ρ s
  | .cont ρ, .cont, s => X.Gd ρ s
  | .ret p, .ret v, s => Is s.heap v p
  | _, _, _ => False
/-- the statements come to o -/
def Ex (X : Fm) (ρ : List (Str × PV)) (ss : List Stmt) (o : Out) : Prop :=
  ∀ A, Rm X.d A → ∀ (s : Shared) (E : Value → Shared → Prop) (Q : Flow → Shared → Prop), X.Gd ρ s → (∀ f s', UpL X.L s s' → o.ok X f s' → Q f s') → wpAny (model X.prog X.w) A (execs ss X.env) Q E s
def Ex1 (X : Fm) (ρ : List (Str × PV)) (st : Stmt) (o : Out) : Prop :=
  ∀ A, Rm X.d A → ∀ (s : Shared) (E : Value → Shared → Prop) (Q : Flow → Shared → Prop), X.Gd ρ s → (∀ f s', UpL X.L s s' → o.ok X f s' → Q f s') → wpAny (model X.prog X.w) A (exec st X.env) Q E s
end Mine
-- J1
set_option maxRecDepth 20000
namespace Mine
open PySem PySem.Calls PyProof.Rows
variable {X : Fm} {ρ ρ' : List (Str × PV)} {e l r : Expr} {p q : PV} {pos : Pos}

theorem kindOf_env (X : Fm) (x : Str) : X.env.kindOf x = X.scope.names.lookup x := rfl

theorem Ev.none {k : Nat} : Ev X ρ (.Constant .none k pos) .none := fun _ _ s _ _ _ h => wpAny_Constant_none (h _ _ (.refl s) .none)
theorem Ev.bool {b : Bool} {k : Nat} : Ev X ρ (.Constant (.bool b) k pos) (.bool b) := fun _ _ s _ _ _ h => wpAny_Constant_bool (h _ _ (.refl s) (.bool b))
theorem Ev.int {i : Int} {k : Nat} : Ev X ρ (.Constant (.int i) k pos) (.int i) := fun _ _ s _ _ _ h => wpAny_Constant_int (h _ _ (.tok s _) (.int i _))
theorem Ev.str {x : Str} {k : Nat} : Ev X ρ (.Constant (.str x) k pos) (.str x) := fun _ _ s _ _ _ h => wpAny_Constant_str (h _ _ (.tok s _) (.str x _))
theorem Ev.local {x : Str} (hv : ρ.lookup x = some p) (hl : X.scope.names.lookup x = some .local) (hk : X.scope.kind = .function) (hd : (x == ("__debug__" : Str)) = false) : Ev X ρ (.Name x pos) p :=
  fun _ _ s _ _ G h => by
    obtain ⟨m, F, hm⟩ := G
    obtain ⟨v, h1, h2⟩ := hm x p hv
    exact ld F h1 (h _ _ (.refl s) h2) hk hl hd

theorem Ev.bin {op : Operator} {t : PV} (hl : Ev X ρ l p) (hr : Ev X ρ r q)
    (ho : ∀ A (s : Shared) (E : Value → Shared → Prop) (Q : Value → Shared → Prop) v v', Is s.heap v p → Is s.heap v' q → (∀ u s', Up s s' → Is s'.heap u t → Q u s') → wpAny (model X.prog X.w) A (binaryOp op v v') Q E s) :
    Ev X ρ (.BinOp l op r pos) t := fun A R s E Q G h =>
  wpAny_BinOp (hl A R s _ _ G fun v s1 u1 i1 => hr A R s1 _ _ (Gd.up G u1) fun v' s2 u2 i2 => ho A s2 _ _ v v' (i1.keep (.of u2.keep)) i2 fun u s3 u3 i3 => h u s3 ((u1.trans u2).trans u3) i3)
theorem Ev.add {a b : Int} (hl : Ev X ρ l (.int a)) (hr : Ev X ρ r (.int b)) : Ev X ρ (.BinOp l .Add r pos) (.int (a + b)) :=
  Ev.bin hl hr fun A s E Q v v' h1 h2 h => by cases h1; cases h2; with_reducible exact P.add_int (h _ _ (.tok s _) (.int _ _))
theorem Ev.sub {a b : Int} (hl : Ev X ρ l (.int a)) (hr : Ev X ρ r (.int b)) : Ev X ρ (.BinOp l .Sub r pos) (.int (a - b)) :=
  Ev.bin hl hr fun A s E Q v v' h1 h2 h => by cases h1; cases h2; with_reducible exact P.sub_int (h _ _ (.tok s _) (.int _ _))
theorem Ev.mod {a b : Int} (hl : Ev X ρ l (.int a)) (hr : Ev X ρ r (.int b)) (hb : b ≠ 0) : Ev X ρ (.BinOp l .Mod r pos) (.int (a.fmod b)) :=
  Ev.bin hl hr fun A s E Q v v' h1 h2 h => by cases h1; cases h2; with_reducible exact mod_int hb (h _ _ (.tok s _) (.int _ _))
theorem Ev.cat {a b : Str} (hl : Ev X ρ l (.str a)) (hr : Ev X ρ r (.str b)) (hn : (a ++ b).length ≤ sizeLine) : Ev X ρ (.BinOp l .Add r pos) (.str (a ++ b)) :=
  Ev.bin hl hr fun A s E Q v v' h1 h2 h => by
    cases h1; cases h2
    refine P.add_str ?_
    by_cases ha : a.length = 0
    · rw [if_pos (by rw [ha]; rfl)]
      have e : a ++ b = b := by
        cases a; cases b
        have : (_ : Array Nat) = #[] := Array.eq_empty_of_size_eq_zero ha
        subst this
        show (⟨#[] ++ _⟩ : Str) = _
        simp
      rw [e] at h
      exact h _ _ (.refl s) (.str _ _)
    · rw [if_neg (by simpa using ha)]
      by_cases hb : b.length = 0
      · rw [if_pos (by rw [hb]; rfl)]
        have e : a ++ b = a := by
          cases a; cases b
          have : (_ : Array Nat) = #[] := Array.eq_empty_of_size_eq_zero hb
          subst this
          show (⟨_ ++ #[]⟩ : Str) = _
          simp
        rw [e] at h
        exact h _ _ (.refl s) (.str _ _)
      · rw [if_neg (by simpa using hb)]
        exact ⟨hn, h _ _ (.tok s _) (.str _ _)⟩

/-- a comparison of two values -/
def Cm (prog : Program) (w : World) (op : CmpOp) (p q : PV) (b : Bool) : Prop :=
  ∀ A (s : Shared) (E : Value → Shared → Prop) (Q : Value → Shared → Prop) v v', A.handled = Option.none → Is s.heap v p → Is s.heap v' q → (∀ s', Up s s' → Q (.bool b) s') → wpAny (model prog w) A (compareOp op v v') Q E s
theorem Ev.cmp {op : CmpOp} {b : Bool} (hl : Ev X ρ l p) (hr : Ev X ρ r q) (ho : Cm X.prog X.w op p q b) (hm : behindInMarks op r = false := by with_unfolding_all rfl) : Ev X ρ (.Compare l [op] [r] pos) (.bool b) := fun A R s E Q G h =>
  wpAny_Compare1 (hl A R s _ _ G fun v s1 u1 i1 => hr A R s1 _ _ (Gd.up G u1) fun v' s2 u2 i2 => ho A s2 _ _ v v' R.hand (i1.keep (.of u2.keep)) i2 fun s3 u3 => h _ s3 ((u1.trans u2).trans u3) (.bool b)) hm
theorem Ts.cmp {op : CmpOp} {b : Bool} (hl : Ev X ρ l p) (hr : Ev X ρ r q) (ho : Cm X.prog X.w op p q b) (hm : behindInMarks op r = false := by with_unfolding_all rfl) : Ts X ρ (.Compare l [op] [r] pos) b := fun A R s E Q G h =>
  wpAny_isTrue_Compare1 (hl A R s _ _ G fun v s1 u1 i1 => hr A R s1 _ _ (Gd.up G u1) fun v' s2 u2 i2 => ho A s2 _ _ v v' R.hand (i1.keep (.of u2.keep)) i2 fun s3 u3 => wpAny_truthy_bool (h s3 ((u1.trans u2).trans u3))) hm
section
variable {prog : Program} {w : World}
theorem Cm.lt {a b : Int} : Cm prog w .Lt (.int a) (.int b) (decide (a < b)) := fun A s E Q v v' _ h1 h2 h => by cases h1; cases h2; with_reducible exact P.lt_int (h _ (.refl s))
theorem Cm.le {a b : Int} : Cm prog w .LtE (.int a) (.int b) (decide (a ≤ b)) := fun A s E Q v v' _ h1 h2 h => by cases h1; cases h2; with_reducible exact P.le_int (h _ (.refl s))
theorem Cm.gt {a b : Int} : Cm prog w .Gt (.int a) (.int b) (decide (a > b)) := fun A s E Q v v' _ h1 h2 h => by cases h1; cases h2; with_reducible exact P.gt_int (h _ (.refl s))
theorem Cm.ge {a b : Int} : Cm prog w .GtE (.int a) (.int b) (decide (a ≥ b)) := fun A s E Q v v' _ h1 h2 h => by cases h1; cases h2; with_reducible exact P.ge_int (h _ (.refl s))
theorem Cm.eqs {a b : Str} : Cm prog w .Eq (.str a) (.str b) (a.cps.toList == b.cps.toList) := fun A s E Q v v' _ h1 h2 h => by cases h1; cases h2; with_reducible exact P.eq_str (h _ (.refl s))
theorem Cm.nes {a b : Str} : Cm prog w .NotEq (.str a) (.str b) (a.cps.toList != b.cps.toList) := fun A s E Q v v' _ h1 h2 h => by cases h1; cases h2; with_reducible exact P.ne_str (h _ (.refl s))
theorem Cm.ins {a b : Str} : Cm prog w .In (.str a) (.str b) (!(Builtin.Str.occurrences b a 0 b.length 1).isEmpty) := fun A s E Q v v' _ h1 h2 h => by cases h1; cases h2; with_reducible exact P.in_str (h _ (.refl s))
theorem Cm.isNone {p : PV} {b : Bool} (hb : ∀ h v, Is h v p → (v == Value.none) = b) : Cm prog w .Is p .none b := fun A s E Q v v' _ h1 h2 h => by cases h2; rw [← hb _ _ h1] at h; exact is_none (h _ (.refl s))
theorem Cm.notNone {p : PV} {b : Bool} (hb : ∀ h v, Is h v p → (v == Value.none) = !b) : Cm prog w .IsNot p .none b := fun A s E Q v v' _ h1 h2 h => by
  cases h2
  have := hb _ _ h1
  refine isNot_none ?_
  rw [this, Bool.not_not]; exact h _ (.refl s)
end

/-! tests -/
def TsAll (X : Fm) (ρ : List (Str × PV)) (op : BoolOp) (es : List Expr) (b : Bool) : Prop :=
  ∀ A, Rm X.d A → ∀ (s : Shared) (E : Value → Shared → Prop) (Q : Bool → Shared → Prop), X.Gd ρ s → (∀ s', Up s s' → Q b s') → wpAny (model X.prog X.w) A (allTrue op es X.env) Q E s
variable {es : List Expr} {b : Bool}
theorem Ts.boolOp {op : BoolOp} (h : TsAll X ρ op es b) : Ts X ρ (.BoolOp op es pos) b := fun A R s E Q G k => wpAny_isTrue_BoolOp (h A R s _ _ G k)
theorem TsAll.and_nil : TsAll X ρ .And [] true := fun _ _ s _ _ _ k => wpAny_allTrue_And_nil (k s (.refl s))
theorem TsAll.or_nil : TsAll X ρ .Or [] false := fun _ _ s _ _ _ k => wpAny_allTrue_Or_nil (k s (.refl s))
theorem TsAll.and_yes (h : Ts X ρ e true) (h' : TsAll X ρ .And es b) : TsAll X ρ .And (e :: es) b := fun A R s E Q G k =>
  wpAny_allTrue_And_cons (h A R s _ _ G fun s1 u1 => h' A R s1 _ _ (Gd.up G u1) fun s2 u2 => k s2 (u1.trans u2))
theorem TsAll.and_no (h : Ts X ρ e false) : TsAll X ρ .And (e :: es) false := fun A R s E Q G k =>
  wpAny_allTrue_And_cons (h A R s _ _ G fun s1 u1 => k s1 u1)
theorem TsAll.or_no (h : Ts X ρ e false) (h' : TsAll X ρ .Or es b) : TsAll X ρ .Or (e :: es) b := fun A R s E Q G k =>
  wpAny_allTrue_Or_cons (h A R s _ _ G fun s1 u1 => h' A R s1 _ _ (Gd.up G u1) fun s2 u2 => k s2 (u1.trans u2))
theorem TsAll.or_yes (h : Ts X ρ e true) : TsAll X ρ .Or (e :: es) true := fun A R s E Q G k =>
  wpAny_allTrue_Or_cons (h A R s _ _ G fun s1 u1 => k s1 u1)
theorem Ts.and_if {c d : Bool} {e' : Expr} (h : Ts X ρ e c) (h' : c = true → Ts X ρ e' d) : Ts X ρ (.BoolOp .And [e, e'] pos) (c && d) := by
  cases c with
  | true => exact Ts.boolOp (TsAll.and_yes h (by cases hd : d with | true => exact TsAll.and_yes (hd ▸ h' rfl) TsAll.and_nil | false => exact TsAll.and_no (hd ▸ h' rfl)))
  | false => exact Ts.boolOp (TsAll.and_no h)
theorem Ts.or_if {c d : Bool} {e' : Expr} (h : Ts X ρ e c) (h' : c = false → Ts X ρ e' d) : Ts X ρ (.BoolOp .Or [e, e'] pos) (c || d) := by
  cases c with
  | false => exact Ts.boolOp (TsAll.or_no h (by cases hd : d with | false => exact TsAll.or_no (hd ▸ h' rfl) TsAll.or_nil | true => exact TsAll.or_yes (hd ▸ h' rfl)))
  | true => exact Ts.boolOp (TsAll.or_yes h)
theorem Ev.ifexp {t a c : Expr} (ht : Ts X ρ t b) (h1 : b = true → Ev X ρ a p) (h2 : b = false → Ev X ρ c p) : Ev X ρ (.IfExp t a c pos) p := fun A R s E Q G k =>
  wpAny_IfExp (ht A R s _ _ G fun s1 u1 => by
    cases b with
    | true => exact h1 rfl A R s1 _ _ (Gd.up G u1) fun v s2 u2 i => k v s2 (u1.trans u2) i
    | false => exact h2 rfl A R s1 _ _ (Gd.up G u1) fun v s2 u2 i => k v s2 (u1.trans u2) i)
end Mine
-- J2
set_option maxRecDepth 20000
namespace Mine
open PySem PySem.Calls PyProof.Rows
variable {X : Fm} {ρ ρ' : List (Str × PV)} {e l r : Expr} {p q : PV} {pos : Pos} {b : Bool}

theorem isList_of {h : Heap} {a : Addr} {vs : List Value} {n : Nat} (e : h.get? a = some { cls := .type "list", data := .seq vs.toArray n }) : h.IsList a vs.toArray := ⟨_, e, rfl, n, rfl⟩
theorem strsAre_of {h : Heap} : ∀ {vs : List Value} {l : List Str}, IsAll h vs (l.map PV.str) → StrsAre vs l
  | [], [], _ => .nil
  | _ :: _, [], i => nomatch i
  | [], _ :: _, i => nomatch i
  | _ :: _, _ :: _, i => by
    cases i with
    | cons hv hl =>
      cases hv
      exact .cons _ _ (strsAre_of hl)
theorem Cm.inl {prog : Program} {w : World} {a : Str} {l : List Str} : Cm prog w .In (.str a) (.lst (l.map PV.str)) (l.any (· == a)) := fun A s E Q v v' _ h1 h2 h => by
  cases h1
  cases h2 with
  | lst ho hl => exact in_list_strs (isList_of ho) (strsAre_of hl) (h _ (.refl s))
theorem Cm.notInl {prog : Program} {w : World} {a : Str} {l : List Str} : Cm prog w .NotIn (.str a) (.lst (l.map PV.str)) (!(l.any (· == a))) := fun A s E Q v v' _ h1 h2 h => by
  cases h1
  cases h2 with
  | lst ho hl => exact notin_list_strs (isList_of ho) (strsAre_of hl) (h _ (.refl s))

/-! ## places of a text -/
theorem item_str {prog : Program} {w : World} {A : Around} {s : Shared} {E : Value → Shared → Prop} {Q : Value → Shared → Prop} {x : Str} {i : Int} {c : Nat} {v v' : Value} (hv : Is s.heap v (.str x)) (hi : Is s.heap v' (.int i))
    (h0 : 0 ≤ i) (hl : i < x.length) (hx : x.length < 2 ^ 62) (hc : x.cps[i.toNat]? = some c) (h : ∀ v s', Up s s' → Is s'.heap v (.str ⟨#[c]⟩) → Q v s') :
    ∃ T id, typeLookup (.type T) "__getitem__" = pure (some (.builtin id)) ∧ s.TypeIs v T ∧ wpAny (model prog w) A (getItem v v') Q E s := by
  cases hv; cases hi
  refine ⟨"str", _, F.slot_str_getitem.lookup, typeIs_str _ _ _, P.getItem_str (c := c) ?_ ?_ (h _ _ (.tok s _) (.str _ _))⟩
  · rw [decide_eq_false (by omega), decide_eq_false (by omega)]; rfl
  · have e : seqIndex? i x.length = some i.toNat := by
      unfold seqIndex?
      simp only [show ¬ i < 0 by omega, if_false]
      rw [if_pos (by simp; omega)]
    rw [e]; exact hc
theorem Ev.itemName {x : Str} {n : Str} {np : Pos} {i : Int} {c : Nat} (hv : Ev X ρ e (.str x)) (hi : Ev X ρ (.Name n np) (.int i)) (h0 : 0 ≤ i) (hl : i < x.length) (hx : x.length < 2 ^ 62) (hc : x.cps[i.toNat]? = some c)
    (ht : ∀ o r, letTemporaryGo e o r = pure () := by intro _ _; rfl) : Ev X ρ (.Subscript e (.Name n np) pos) (.str ⟨#[c]⟩) := fun A R s E Q G h =>
  wpAny_Subscript_Name_late (hv A R s _ _ G fun v s1 u1 i1 => hi A R s1 _ _ (Gd.up G u1) fun v' s2 u2 i2 => item_str (i1.keep (.of u2.keep)) i2 h0 hl hx hc fun v s3 u3 i3 => h v s3 ((u1.trans u2).trans u3) i3) ht
theorem Ev.itemBin {x : Str} {op : Operator} {bp : Pos} {i : Int} {c : Nat} (hv : Ev X ρ e (.str x)) (hi : Ev X ρ (.BinOp l op r bp) (.int i)) (h0 : 0 ≤ i) (hl : i < x.length) (hx : x.length < 2 ^ 62) (hc : x.cps[i.toNat]? = some c)
    (ht : ∀ o r, letTemporaryGo e o r = pure () := by intro _ _; rfl) : Ev X ρ (.Subscript e (.BinOp l op r bp) pos) (.str ⟨#[c]⟩) := fun A R s E Q G h =>
  wpAny_Subscript_BinOp_late (hv A R s _ _ G fun v s1 u1 i1 => hi A R s1 _ _ (Gd.up G u1) fun v' s2 u2 i2 => item_str (i1.keep (.of u2.keep)) i2 h0 hl hx hc fun v s3 u3 i3 => h v s3 ((u1.trans u2).trans u3) i3) ht
theorem Ev.slice {x : Str} {i j : Int} {sp : Pos} (hv : Ev X ρ e (.str x)) (hl : Ev X ρ l (.int i)) (hr : Ev X ρ r (.int j)) (hx : x.length ≤ sizeLine)
    (ht : ∀ o r, letTemporaryGo e o r = pure () := by intro _ _; rfl) : Ev X ρ (.Subscript e (.Slice (some l) (some r) Option.none sp) pos) (.str (Txt.slice x (some i) (some j))) := fun A R s E Q G h =>
  wpAny_Subscript_str_slice (hv A R s _ _ G fun v s1 u1 i1 => evalPart_some_step (hl A R s1 _ _ (Gd.up G u1) fun v' s2 u2 i2 => evalPart_some_step (hr A R s2 _ _ (Gd.up (Gd.up G u1) u2) fun v'' s3 u3 i3 => by
    cases i1; cases i2; cases i3
    refine ⟨_, _, some (i, _), some (j, _), rfl, rfl, rfl, post_val_or_str ⟨Nat.le_trans (Txt.slice_le x _ _) hx, fun t' k => h _ _ (((u1.trans u2).trans u3).trans (.push _ _ _)) (.str _ _)⟩⟩))) ht

/-! ## calls -/
/-- what the global name stands for -/
def GlobalIs (h₀ : Heap) (x : Str) (v : Value) : Prop :=
  ∃ mg, h₀.Ns mainGlobals mg ∧ (mg x = some v ∨ (mg x = none ∧ ∃ mb, h₀.Ns builtinsNs mb ∧ mb x = some v))
theorem Gd.base {h₀ : Heap} {L : Addr} {s : Shared} (G : Gd h₀ L ρ s) : ∀ b o, h₀.get? b = some o → s.heap.get? b = some o := let ⟨_, F, _⟩ := G; F.keep
theorem name_global {x : Str} {v : Value} {A : Around} {s : Shared} {E : Value → Shared → Prop} {Q : Value → Shared → Prop} {M : Model} (g : GlobalIs X.h₀ x v) (hx : X.scope.names.lookup x = some .globalImplicit) (hk : X.scope.kind = .function) (hd : (x == ("__debug__" : Str)) = false) (G : X.Gd ρ s) (h : Q v s) :
    wpAny M A (eval (.Name x pos) X.env) Q E s := by
  obtain ⟨mg, hg, g⟩ := g
  have k := Gd.base G
  rcases g with g | ⟨g, mb, hb, g2⟩
  · exact Name_function_global hk hx (loadGlobal_global (env := X.env) (hg.keeps k) g h) hd
  · exact Name_function_global hk hx (loadGlobal_builtin (env := X.env) (hg.keeps k) g (hb.keeps k) g2 h) hd

theorem Gd.size {h₀ : Heap} {L : Addr} {s : Shared} (G : Gd h₀ L ρ s) : h₀.objs.size ≤ s.heap.objs.size := let ⟨_, F, _⟩ := G; Nat.le_trans F.above (Nat.le_of_lt F.ns.lt)

def EvArgs (X : Fm) (ρ : List (Str × PV)) (es : List Expr) (ps : List PV) : Prop :=
  ∀ A, Rm X.d A → ∀ (pos : Pos) (s : Shared) (E : Value → Shared → Prop) (Q : List Value → Shared → Prop), X.Gd ρ s → (∀ vs s', Up s s' → IsAll s'.heap vs ps → Q vs s') → wpAny (model X.prog X.w) A (spliced (backTo pos (starEach es X.env))) Q E s
theorem EvArgs.nil : EvArgs X ρ [] [] := fun _ _ _ s _ _ _ h => wpAny_items_nil (h _ _ (.refl s) .nil)
theorem EvArgs.cons {es : List Expr} {ps : List PV} (hv : Ev X ρ e p) (hl : EvArgs X ρ es ps) (he : starEach (e :: es) X.env = (false, eval e X.env) :: starEach es X.env := by rfl) : EvArgs X ρ (e :: es) (p :: ps) := fun A R pos s E Q G h =>
  wpAny_items_cons (hv A R s _ _ G fun v s1 u1 i1 => hl A R pos s1 _ _ (Gd.up G u1) fun vs s2 u2 i2 => h _ _ (u1.trans u2) (.cons (i1.keep (.of u2.keep)) i2)) he
/-- a call of a def of the text -/
theorem Ev.call {x : Str} {np : Pos} {f : Addr} {o : Obj} {fd : FuncData} {es : List Expr} {ps : List PV} (g : GlobalIs X.h₀ x (.ref f)) (ho : X.h₀.get? f = some o) (hd : o.data = .func fd) (hf : Fn X.prog X.w X.h₀ X.d (.ref f) (p :: ps) q)
    (ha : EvArgs X ρ (e :: es) (p :: ps)) (hx : X.scope.names.lookup x = some .globalImplicit) (hk : X.scope.kind = .function) (hdb : (x == ("__debug__" : Str)) = false) (he : starEach (e :: es) X.env = (false, eval e X.env) :: starEach es X.env := by rfl) :
    Ev X ρ (.Call (.Name x np) (e :: es) [] pos) q := fun A R s E Q G h =>
  wpAny_Call_Name_kw (name_global g hx hk hdb G (callWith_def hd (ha A R pos s _ _ G fun vs s1 u1 i1 => ⟨u1.keep _ _ (Gd.base G _ _ ho), hf A R s1 _ _ vs (fun b o e => u1.keep _ _ (Gd.base G b o e)) (Gd.size (Gd.up G u1)) i1 fun v s2 u2 i2 => h v s2 (u1.trans u2) i2⟩) he))
/-- len of a text -/
theorem Ev.lenStr {x : Str} {np : Pos} (g : GlobalIs X.h₀ "len" (.builtin "len")) (hv : Ev X ρ e (.str x)) (hx : x.length < 2 ^ 62) (hs : starEach [e] X.env = [(false, eval e X.env)] := by rfl) (hn : X.scope.names.lookup ("len" : Str) = some .globalImplicit) (hk : X.scope.kind = .function) :
    Ev X ρ (.Call (.Name "len" np) [e] [] pos) (.int x.length) := fun A R s E Q G h =>
  Call_name1 hs (name_global g hn hk (by decide) G (PySem.callWith_builtin1 (hv A R s _ _ G fun v s1 u1 i1 => by
    cases i1
    exact P.len_str (by omega) (h _ _ (u1.trans (.tok _ _)) (.int _ _)))))
/-- text.upper() -/
theorem Ev.upper {x : Str} {ap : Pos} (hv : Ev X ρ e (.str x)) (hfit : Builtin.Str.tooLong (Txt.upper x).length = false) (hbase : attributeBase e "upper" X.env (eval e X.env) = eval e X.env) (hline : (ap.endLine == pos.line) = true) :
    Ev X ρ (.Call (.Attribute e "upper" ap) [] [] pos) (.str (Txt.upper x)) := fun A R s E Q G h =>
  Call_method0 hbase hline (hv A R s _ _ G fun v s1 u1 i1 => by
    cases i1
    exact SB.upper hfit (h _ _ (u1.trans (.tok _ _)) (.str _ _)))
/-! ## displays -/
theorem Ev.tuple {es : List Expr} {ps : List PV} {k : Nat} (ha : EvArgs X ρ es ps) (hn : ps.length ≤ sizeLine) : Ev X ρ (.Tuple es k pos) (.tup ps) := fun A R s E Q G h =>
  wpAny_Tuple (ha A R pos s _ _ G fun vs s1 u1 i1 => ⟨by rw [i1.length]; exact hn, h _ _ (u1.trans (.push _ _ _)) (.tup (n := 0) (Heap.get?_push_size _ rfl) (i1.keep (.of (Up.push s1 _ s1.toks).keep)))⟩)
theorem Ev.list {es : List Expr} {ps : List PV} (ha : EvArgs X ρ es ps) (hn : ps.length ≤ sizeLine) : Ev X ρ (.List es pos) (.lst ps) := fun A R s E Q G h =>
  wpAny_List (ha A R pos s _ _ G fun vs s1 u1 i1 => ⟨by rw [i1.length]; exact hn, h _ _ (u1.trans (.push _ _ _)) (.lst (n := 0) (Heap.get?_push_size _ rfl) (i1.keep (.of (Up.push s1 _ s1.toks).keep)))⟩)
end Mine
-- J3
set_option maxRecDepth 20000
namespace Mine
open PySem PySem.Calls PyProof.Rows
variable {X : Fm} {ρ ρ' : List (Str × PV)} {e l r : Expr} {p q : PV} {pos : Pos} {b : Bool} {o : Out} {ss : List Stmt} {st : Stmt}

theorem Ex.nil : Ex X ρ [] (.next ρ) := fun _ _ s _ _ G h => wpAny_execs_nil (h _ _ (.refl _ s) G)
theorem Ex.cons (h1 : Ex1 X ρ st (.next ρ')) (h2 : Ex X ρ' ss o) : Ex X ρ (st :: ss) o := fun A R s E Q G h =>
  wpAny_execs_cons (h1 A R s _ _ G fun f s1 u1 k1 => by
    cases f with
    | next => exact h2 A R s1 _ _ k1 fun f s2 u2 k2 => h f s2 (u1.trans u2) k2
    | brk | cont | ret => exact k1.elim)
theorem Ex.ret (h1 : Ex1 X ρ st (.ret p)) : Ex X ρ (st :: ss) (.ret p) := fun A R s E Q G h =>
  wpAny_execs_cons (h1 A R s _ _ G fun f s1 u1 k1 => by
    cases f with
    | ret v => exact h _ _ u1 k1
    | brk | cont | next => exact k1.elim)
theorem Ex.weak {ρ' : List (Str × PV)} (h1 : Ex X ρ' ss o) (hw : ∀ x p, ρ'.lookup x = some p → ρ.lookup x = some p) : Ex X ρ ss o := fun A R s E Q G h => h1 A R s E Q (Gd.weak G hw) h

theorem Gd.fr {s : Shared} (G : X.Gd ρ s) : ∃ m, Fr X.h₀ X.L s.heap m ∧ ∀ x p, ρ.lookup x = some p → ∃ v, m x = some v ∧ Is s.heap v p := G
theorem store {x : Str} {v : Value} {A : Around} {s : Shared} {E : Value → Shared → Prop} {Q : Unit → Shared → Prop} {M : Model} (G : X.Gd ρ s) (hv : Is s.heap v p) (hl : X.scope.names.lookup x = some .local) (hk : X.scope.kind = .function)
    (h : ∀ s', UpL X.L s s' → X.Gd ((x, p) :: ρ) s' → Q () s') : wpAny M A (storeName X.env x v) Q E s := by
  obtain ⟨m, F, hm⟩ := Gd.fr G
  refine wpAny_storeName_local (m := m) hl F.ns (fun h' hn hs => h _ ⟨h', _, rfl, fun b o hb e => (hs.2 b hb).trans e⟩ (Gd.set F hm hv hn hs)) ?_
  show (X.scope.kind == .class || (X.scope.kind == .module && X.L != mainGlobals)) = false
  rw [hk]; rfl
theorem Ex1.assign {x : Str} {np : Pos} (hv : Ev X ρ e p) (hl : X.scope.names.lookup x = some .local) (hk : X.scope.kind = .function) (hs : swapsWith e (some (.Name x np)) pos.line X.env = pure false := by rfl) : Ex1 X ρ (.Assign [.Name x np] e pos) (.next ((x, p) :: ρ)) := fun A R s E Q G h =>
  wpAny_Assign_Name (hv A R s _ _ G fun v s1 u1 i1 => store (Gd.up G u1) i1 hl hk fun s2 u2 G2 => h _ s2 ((u1.upL _).trans u2) G2) hs
theorem Ex1.ret (hv : Ev X ρ e p) : Ex1 X ρ (.Return (some e) pos) (.ret p) := fun A R s E Q G h =>
  wpAny_Return_some (hv A R s _ _ G fun v s1 u1 i1 => h _ s1 (u1.upL _) i1)
theorem Ex1.ite {body orelse : List Stmt} (ht : Ts X ρ e b) (h1 : b = true → Ex X ρ body o) (h2 : b = false → Ex X ρ orelse o) : Ex1 X ρ (.If e body orelse pos) o := fun A R s E Q G h =>
  wpAny_If (ht A R s _ _ G fun s1 u1 => by
    cases b with
    | true => exact h1 rfl A R s1 _ _ (Gd.up G u1) fun f s2 u2 k => h f s2 ((u1.upL _).trans u2) k
    | false => exact h2 rfl A R s1 _ _ (Gd.up G u1) fun f s2 u2 k => h f s2 ((u1.upL _).trans u2) k)

/-- a while loop: n tells how far it is -/
def Wh (X : Fm) (ρ : List (Str × PV)) (test : Expr) (body : List Stmt) (o : Out) : Prop :=
  ∀ A, Rm X.d A → ∀ (s : Shared) (R : Result → Shared → Prop), X.Gd ρ s → (∀ f s', UpL X.L s s' → o.ok X f s' → R (.ok f) s') → codeAny (model X.prog X.w) A (.whileLoop test body [] X.env) R s
/-- the loop, turn by turn: each state of names says what comes next -/
theorem wh_inv {test : Expr} {body : List Stmt} (J : Nat → List (Str × PV) → Prop) (out : Out)
    (turn : ∀ n ρ, J n ρ → (Ts X ρ test false ∧ Ex X ρ [] out) ∨ (Ts X ρ test true ∧ ((∃ ρ' n', n' < n ∧ J n' ρ' ∧ Ex X ρ body (.next ρ')) ∨ ∃ p, out = .ret p ∧ Ex X ρ body (.ret p)))) (n : Nat) (hJ : J n ρ) : Wh X ρ test body out := fun A R s K G h => by
  refine codeAny_whileLoop (fun n s' => ∃ ρ, J n ρ ∧ X.Gd ρ s' ∧ UpL X.L s s') ?_ n ⟨ρ, hJ, G, .refl _ s⟩
  rintro n s1 ⟨ρ1, hJ1, G1, u1⟩
  rcases turn n ρ1 hJ1 with ⟨t, x⟩ | ⟨t, ⟨ρ', n', hn, hJ', x⟩ | ⟨p, rfl, x⟩⟩
  · exact t A R s1 _ _ G1 fun s2 u2 => x A R s2 _ _ (Gd.up G1 u2) fun f s3 u3 k => h f s3 ((u1.trans (u2.upL _)).trans u3) k
  · refine t A R s1 _ _ G1 fun s2 u2 => x A R s2 _ _ (Gd.up G1 u2) fun f s3 u3 k => ?_
    cases f with
    | next => exact ⟨n', hn, ρ', hJ', k, (u1.trans (u2.upL _)).trans u3⟩
    | brk | cont | ret => exact k.elim
  · refine t A R s1 _ _ G1 fun s2 u2 => x A R s2 _ _ (Gd.up G1 u2) fun f s3 u3 k => ?_
    cases f with
    | ret v => exact h _ _ ((u1.trans (u2.upL _)).trans u3) k
    | brk | cont | next => exact k.elim
theorem Ex1.while {test : Expr} {body : List Stmt} (h : Wh X ρ test body o) : Ex1 X ρ (.While test body [] pos) o := fun A R s E Q G k =>
  wpAny_While (h A R s _ G fun f s' u x => k f s' u x)

/-! ## defs -/
/-- what the base holds of a def -/
structure DefAt (h₀ : Heap) (f : Addr) (name : Str) (params : Arguments) (body : List Stmt) (scope : Scope) (cd : Value) : Prop where
  obj : ∃ o pm doc, h₀.get? f = some o ∧ o.data = .func (docDef name params body scope pm cd doc)
  code : h₀.CodeRec cd name
theorem isAll_zip {h : Heap} {x : Str} {p : PV} : ∀ {ns : List Str} {vs : List Value} {ps : List PV}, IsAll h vs ps → ∀ {acc : List (Str × PV)} {accv : List (Str × Value)},
    (∀ x p, acc.lookup x = some p → ∃ v, accv.lookup x = some v ∧ Is h v p) → ((ns.zip ps).reverse ++ acc).lookup x = some p → ∃ v, ((ns.zip vs).reverse ++ accv).lookup x = some v ∧ Is h v p
  | [], _, _, _, _, _, ha, e => by
    simp only [List.zip_nil_left, List.reverse_nil, List.nil_append] at e ⊢
    exact ha _ _ e
  | n :: ns, _, _, .nil, _, _, ha, e => by
    simp only [List.zip_nil_right, List.reverse_nil, List.nil_append] at e ⊢
    exact ha _ _ e
  | n :: ns, _, _, .cons (v := v) (p := p') hv hl, acc, accv, ha, e => by
    simp only [List.zip_cons_cons, List.reverse_cons, List.append_assoc, List.singleton_append] at e ⊢
    refine isAll_zip hl (acc := (n, p') :: acc) (accv := (n, v) :: accv) (fun y q e' => ?_) e
    rw [List.lookup_cons] at e' ⊢
    cases hb : y == n with
    | true => rw [hb] at e'; cases e'; exact ⟨v, rfl, hv⟩
    | false => rw [hb] at e'; exact ha y q e'

theorem Fn.intro {prog : Program} {w : World} {h₀ : Heap} {d : Nat} {f : Addr} {name : Str} {params : Arguments} {body : List Stmt} {scope : Scope} {cd : Value} {args : List PV} {p : PV} (D : DefAt h₀ f name params body scope cd) (hlim : h₀.NoLimit) (ns : List Str)
    (hbind : ∀ pm doc vs, vs.length = args.length → bindArgs (docDef name params body scope pm cd doc) ⟨vs, []⟩ = pure (ns.zip vs)) (hloc : ∀ x ∈ ns, scope.names.lookup x = some .local)
    (h : ∀ L, Ex ⟨prog, w, h₀, d, name, scope, L, f, cd⟩ (ns.zip args).reverse body (.ret p))
    (hco : scope.isCoroutine = false) (hgen : scope.isGenerator = false) (hk : scope.kind = .function) (hcell : ∀ x ∈ scope.names, x.2 ≠ .cell) : Fn prog w h₀ (d + 1) (.ref f) args p := fun A R s E Q vs k hsz i K => by
  obtain ⟨⟨o, pm, doc, ho, hd⟩, hc⟩ := D
  refine wpAny_call (call_plain_ret (by have := R.depth; omega) (k _ _ ho) hd (hlim.keeps k) (hc.keeps k) (hbind pm doc vs i.length) (fun x hx => hloc _ (List.of_mem_zip hx).1) (fun h₁ F₁ => ?_) hco hgen hk hcell)
  refine h s.heap.objs.size (A.deeper _) (R.deeper _) _ _ _ ?_ fun f s' u x => ?_
  · refine ⟨_, ⟨F₁.ns, fun b o e => F₁.keep _ _ (k b o e), hsz⟩, fun x q e => ?_⟩
    · have := isAll_zip (i.keep (.of F₁.keep)) (acc := []) (accv := []) (fun _ _ e => nomatch e) (by rw [List.append_nil]; exact e)
      rw [List.append_nil] at this
      exact this
  · cases f with
    | ret v =>
      obtain ⟨h', tk, rfl, kk⟩ := u
      exact K v _ ⟨h', tk, rfl, fun b o e => kk b o (Nat.ne_of_lt (Heap.lt_size e)) (F₁.keep _ _ e)⟩ x
    | brk | cont | next => exact x.elim
end Mine
-- J4
set_option maxRecDepth 20000
namespace Mine
open PySem PySem.Calls PyProof.Rows
variable {X : Fm} {ρ ρ' : List (Str × PV)} {e : Expr} {p q : PV} {pos : Pos} {o : Out} {s : Shared}

theorem keepS_ext {h h' : Heap} {I : Addr} (hns : ∀ c vs n, h.get? I ≠ some { cls := c, data := .seq vs n }) (he : Heap.ExtBut I h h') : KeepS h h' := by
  intro a c vs n ea
  by_cases ha : a = I
  · subst ha; exact absurd ea (hns _ _ _)
  · exact he a _ ha ea
theorem Gd.extBut {h₀ : Heap} {L I : Addr} {h' : Heap} {k : Nat} (G : Gd h₀ L ρ s) (hI : L ≠ I) (hh : h₀.objs.size ≤ I) (hns : ∀ c vs n, s.heap.get? I ≠ some { cls := c, data := .seq vs n }) (he : Heap.ExtBut I s.heap h') : Gd h₀ L ρ { s with heap := h', toks := k } := by
  obtain ⟨m, F, hm⟩ := G
  refine ⟨m, ⟨F.ns.extBut he hI, fun b o e => he b o (Nat.ne_of_lt (Nat.lt_of_lt_of_le (Heap.lt_size e) hh)) (F.keep b o e), F.above⟩, fun x p e => ?_⟩
  obtain ⟨v, h1, h2⟩ := hm x p e
  exact ⟨v, h1, h2.keep (keepS_ext hns he)⟩

/-- the turns of a for over the values -/
def Turns (X : Fm) (x : Str) (body : List Stmt) : List PV → List (Str × PV) → Out → Prop
  | [], ρ, o => Ex X ρ [] o
  | p :: ps, ρ, o => (∃ ρ', Ex X ((x, p) :: ρ) body (.next ρ') ∧ Turns X x body ps ρ' o) ∨ (∃ q, o = .ret q ∧ Ex X ((x, p) :: ρ) body (.ret q))

theorem isAll_get {h : Heap} : ∀ {vs : List Value} {ps : List PV}, IsAll h vs ps → ∀ {i : Nat} {v : Value}, vs[i]? = some v → ∃ p, ps[i]? = some p ∧ Is h v p
  | _, _, .nil, _, _, e => nomatch e
  | _, _, .cons hv hl, 0, _, e => by cases e; exact ⟨_, rfl, hv⟩
  | _, _, .cons hv hl, i + 1, _, e => isAll_get hl e
theorem Is.mono {s s' : Shared} {v : Value} (h : Is s.heap v p) (k : ∀ b o, s.heap.get? b = some o → s'.heap.get? b = some o) : Is s'.heap v p := h.keep (.of k)

theorem Ex1.for {x : Str} {px : Pos} {items : List PV} {body : List Stmt} {iter : Expr} (hi : Ev X ρ iter (.lst items)) (ht : Turns X x body items ρ o) (hl : X.scope.names.lookup x = some .local) (hk : X.scope.kind = .function)
    (hs : ∀ x, foldedSetIterable iter X.env x = pure x := by intro _; rfl) : Ex1 X ρ (.For (.Name x px) iter body [] pos) o := fun A R s E Q G h => by
  refine wpAny_For (hi A R s _ _ G fun v s1 u1 i1 => ?_) hs
  cases i1 with
  | @lst ax vs ep _ ho ha =>
  refine wpAny_pyIter_list (isList_of ho) ?_
  have G1 : X.Gd ρ s1 := Gd.up G u1
  -- the iterator's own place
  obtain ⟨m1, F1, _⟩ := Gd.fr G1
  have hLI : X.L ≠ s1.heap.objs.size := Nat.ne_of_lt F1.ns.lt
  have haI : ax ≠ s1.heap.objs.size := Nat.ne_of_lt (Heap.lt_size ho)
  have hsz : X.h₀.objs.size ≤ s1.heap.objs.size := Nat.le_trans F1.above (Nat.le_of_lt F1.ns.lt)
  have hlen : vs.length = items.length := ha.length
  have below : ∀ b o, s.heap.get? b = some o → b ≠ s1.heap.objs.size := fun b o e => Nat.ne_of_lt (Heap.lt_size (u1.keep _ _ e))
  have upI : ∀ (s' : Shared) (h' : Heap), UpL X.L s s' → Heap.ExtBut s1.heap.objs.size s'.heap h' → UpL X.L s { s' with heap := h' } := by
    rintro s' h' ⟨h2, tk, rfl, k⟩ he
    exact ⟨h', tk, rfl, fun b o hb e => he b o (below b o e) (k b o hb e)⟩
  refine codeAny_forLoop (fun n s' => ∃ i ρ', n = items.length + 1 - i ∧ i ≤ items.length ∧ UpL X.L s s' ∧ X.Gd ρ' s' ∧ s'.heap.IsListIter s1.heap.objs.size ax i ∧ IsAll s'.heap vs items ∧ s'.heap.get? ax = some { cls := .type "list", data := .seq vs.toArray ep } ∧ Turns X x body (items.drop i) ρ' o) ?_ (items.length + 1)
    ⟨0, ρ, rfl, Nat.zero_le _, ((u1.trans (.push _ _ _)).upL _), Gd.up G1 (.push _ _ _), ⟨_, Heap.get?_push_size _ rfl, rfl, rfl⟩, ha.keep (.of (Up.push s1 _ s1.toks).keep), Heap.get?_push_of_some _ ho, ht⟩ (fun _ => rfl)
  rintro n s' ⟨i, ρ', rfl, hi, us, G', hit, ha', ho', ht'⟩
  have hns : ∀ c vs n, s'.heap.get? s1.heap.objs.size ≠ some { cls := c, data := .seq vs n } := by
    intro c vs n e
    obtain ⟨oi, hoi, _, hd⟩ := hit
    rw [hoi] at e; cases e; cases hd
  cases hv : vs[i]? with
  | none =>
    have hge : items.length ≤ i := by rw [← hlen]; exact List.getElem?_eq_none_iff.mp hv
    rw [List.drop_eq_nil_of_le hge] at ht'
    refine wpAny_pyNext_list_end R.hand hit (isList_of ho') (by simpa using hv) fun h₁ he₁ => ?_
    exact ht' A R _ _ _ (Gd.extBut G' hLI hsz hns he₁) fun f s2 u2 k => h f s2 ((upI _ _ us he₁).trans u2) k
  | some v =>
    obtain ⟨p, hp, iv⟩ := isAll_get ha' hv
    have hlt : i < items.length := (List.getElem?_eq_some_iff.mp hp).1
    rw [List.drop_eq_getElem_cons hlt, show items[i] = p from (List.getElem?_eq_some_iff.mp hp).2] at ht'
    refine wpAny_pyNext_list_item hit (isList_of ho') (x := v) (by simpa using hv) fun h₁ hit₁ hs₁ => ?_
    have he₁ := hs₁.extBut
    have ks := keepS_ext hns he₁
    refine wpAny_assign_Name (store (X := X) (ρ := ρ') (s := { s' with heap := h₁ }) (Gd.extBut G' hLI hsz hns he₁) (iv.keep ks) hl hk fun s2 u2 G2 => ?_)
    have keep2 : ∀ c vs n a, a ≠ X.L → h₁.get? a = some { cls := c, data := .seq vs n } → s2.heap.get? a = some { cls := c, data := .seq vs n } := by
      obtain ⟨h2, tk, rfl, k⟩ := u2
      exact fun c vs n a ha e => k a _ ha e
    have hLseq : ∀ c vs n, h₁.get? X.L ≠ some { cls := c, data := .seq vs n } := by
      intro c vs n e
      obtain ⟨m, F, _⟩ := Gd.fr G'
      obtain ⟨oL, es, ep', hoL, hd, _⟩ := F.ns
      have := he₁ X.L oL hLI hoL
      rw [this] at e; cases e; cases hd
    have ks2 : KeepS h₁ s2.heap := by
      intro a c vs n e
      by_cases ha : a = X.L
      · subst ha; exact absurd e (hLseq _ _ _)
      · exact keep2 _ _ _ _ ha e
    have hit2 : s2.heap.IsListIter s1.heap.objs.size ax (i + 1) := by
      obtain ⟨oi, hoi, hr⟩ := hit₁
      obtain ⟨h2, tk, rfl, k⟩ := u2
      exact ⟨oi, k _ _ (Ne.symm hLI) hoi, hr⟩
    have us2 := (upI _ _ us he₁).trans u2
    have go : ∀ (out : Out), Ex X ((x, p) :: ρ') body out → (∀ f s3, UpL X.L s2 s3 → out.ok X f s3 → match f with
        | .next | .cont => ∃ m, m < items.length + 1 - i ∧ ∃ i ρ', m = items.length + 1 - i ∧ i ≤ items.length ∧ UpL X.L s s3 ∧ X.Gd ρ' s3 ∧ s3.heap.IsListIter s1.heap.objs.size ax i ∧ IsAll s3.heap vs items ∧ s3.heap.get? ax = some { cls := .type "list", data := .seq vs.toArray ep } ∧ Turns X x body (items.drop i) ρ' o
        | .brk => Q .next s3
        | .ret v => Q (.ret v) s3) → wpAny (model X.prog X.w) A (execs body X.env) (fun f s₃ => match f with
          | .next | .cont => ∃ m, m < items.length + 1 - i ∧ ∃ i ρ', m = items.length + 1 - i ∧ i ≤ items.length ∧ UpL X.L s s₃ ∧ X.Gd ρ' s₃ ∧ s₃.heap.IsListIter s1.heap.objs.size ax i ∧ IsAll s₃.heap vs items ∧ s₃.heap.get? ax = some { cls := .type "list", data := .seq vs.toArray ep } ∧ Turns X x body (items.drop i) ρ' o
          | .brk => Q .next s₃
          | .ret v => Q (.ret v) s₃) (notedBy (model X.prog X.w) A X.env fun e s' => cameBackBy (model X.prog X.w) A X.env E e s') s2 := fun out hx hf =>
      hx A R s2 _ _ G2 fun f s3 u3 k => hf f s3 u3 k
    rcases ht' with ⟨ρ₂, hx, ht₂⟩ | ⟨q, rfl, hx⟩
    · refine go _ hx fun f s3 u3 k => ?_
      cases f with
      | next =>
        refine ⟨items.length + 1 - (i + 1), by omega, i + 1, ρ₂, rfl, hlt, us2.trans u3, k, ?_, ?_, ?_, ht₂⟩
        · obtain ⟨oi, hoi, hr⟩ := hit2
          obtain ⟨h3, tk, rfl, k3⟩ := u3
          exact ⟨oi, k3 _ _ (Ne.symm hLI) hoi, hr⟩
        · refine (ha'.keep ks).keep (h' := s3.heap) ?_
          intro a c vs n e
          have e2 := ks2 a c vs n e
          by_cases ha : a = X.L
          · subst ha; exact absurd e (hLseq _ _ _)
          · obtain ⟨h3, tk, rfl, k3⟩ := u3; exact k3 a _ ha e2
        · have haL : ax ≠ X.L := by
            intro e; subst e
            exact hLseq _ _ _ (ks _ _ _ _ ho')
          have e2 := ks2 _ _ _ _ (ks _ _ _ _ ho')
          obtain ⟨h3, tk, rfl, k3⟩ := u3; exact k3 ax _ haL e2
      | brk | cont | ret => exact k.elim
    · refine go _ hx fun f s3 u3 k => ?_
      cases f with
      | ret v => exact h _ _ (us2.trans u3) k
      | brk | cont | next => exact k.elim
end Mine
-- J5
set_option maxRecDepth 20000
namespace Mine
open PySem PySem.Calls PyProof.Rows
variable {X : Fm} {ρ ρ' : List (Str × PV)} {e : Expr} {p q : PV} {pos : Pos} {o : Out} {s : Shared}

theorem isTup_of {h : Heap} {a : Addr} {vs : List Value} {n : Nat} (e : h.get? a = some { cls := .type "tuple", data := .seq vs.toArray n }) : IsTup h a vs.toArray := ⟨_, e, rfl, n, rfl⟩
theorem Up.ext {s : Shared} {h' : Heap} (he : Heap.ExtBut s.heap.objs.size s.heap h') : Up s { s with heap := h' } := ⟨h', s.toks, rfl, fun b o e => he b o (Nat.ne_of_lt (Heap.lt_size e)) e⟩
theorem storeB {x : Str} {v : Value} {A : Around} {s : Shared} {E : Value → Shared → Prop} {Q : Unit → Shared → Prop} {M : Model} (G : X.Gd ρ s) (hv : Is s.heap v p) (hl : X.scope.names.lookup x = some .local) (hk : X.scope.kind = .function)
    (h : ∀ s', UpL X.L s s' → KeepS s.heap s'.heap → X.Gd ((x, p) :: ρ) s' → Q () s') : wpAny M A (storeName X.env x v) Q E s := by
  obtain ⟨m, F, hm⟩ := Gd.fr G
  refine wpAny_storeName_local (m := m) hl F.ns (fun h' hn hs => h _ ⟨h', _, rfl, fun b o hb e => (hs.2 b hb).trans e⟩ (keepS_same F.ns hs) (Gd.set F hm hv hn hs)) ?_
  show (X.scope.kind == .class || (X.scope.kind == .module && X.L != mainGlobals)) = false
  rw [hk]; rfl

theorem isAll2 {h : Heap} {vs : List Value} (i : IsAll h vs [p, q]) : ∃ v1 v2, vs = [v1, v2] ∧ Is h v1 p ∧ Is h v2 q := by
  cases i with
  | cons a1 i => cases i with
    | cons a2 i => cases i with
      | nil => exact ⟨_, _, rfl, a1, a2⟩
/-- a, b = (.., ..): the stores swapped -/
theorem Ex1.asg2 {x y : Str} {px py tp vp : Pos} {k k2 : Nat} {e1 e2 : Expr} (hv : Ev X ρ (.Tuple [e1, e2] k2 vp) (.tup [p, q])) (hx : X.scope.names.lookup x = some .local) (hy : X.scope.names.lookup y = some .local) (hk : X.scope.kind = .function)
    (hs : swapsWithSole [.Tuple [.Name x px, .Name y py] k tp] (.Tuple [e1, e2] k2 vp) pos.line X.env = pure false) (hw : swappedStores [.Tuple [.Name x px, .Name y py] k tp] (.Tuple [e1, e2] k2 vp) X.env = pure (some [x, y])) :
    Ex1 X ρ (.Assign [.Tuple [.Name x px, .Name y py] k tp] (.Tuple [e1, e2] k2 vp) pos) (.next ((x, p) :: (y, q) :: ρ)) := fun A R s E Q G h => by
  refine Assign_Tuple_swapped (names := [x, y]) (hv A R s _ _ G fun v s1 u1 i1 => ?_) hs hw
  cases i1 with
  | @tup a vs n _ ho ha =>
  obtain ⟨v1, v2, rfl, a1, a2⟩ := isAll2 ha
  have un := fun (Q : List Value → Shared → Prop) => unpackItems_tuple (prog := X.prog) (w := X.w) (A := A) (E := E) (s := s1) (t := a) (items := [v1, v2].toArray) (Q := Q) R.hand (isTup_of ho)
  refine un _ fun h' he => ?_
  have u2 := Up.ext he
  have G2 : X.Gd ρ _ := Gd.up (Gd.up G u1) u2
  refine assignInOrder_cons (bindName_ (storeB G2 (a2.keep (.of u2.keep)) hy hk fun s3 u3 k3 G3 => ?_))
  refine assignInOrder_cons (bindName_ (storeB G3 ((a1.keep (.of u2.keep)).keep k3) hx hk fun s4 u4 k4 G4 => ?_))
  exact assignInOrder_nil (h _ s4 ((((u1.trans u2).upL _).trans u3).trans u4) G4)

/-- a, b = a call -/
theorem Ex1.asgCall2 {x y : Str} {px py tp : Pos} {k : Nat} (hv : Ev X ρ e (.tup [p, q])) (hx : X.scope.names.lookup x = some .local) (hy : X.scope.names.lookup y = some .local) (hk : X.scope.kind = .function)
    (hs : swapsWithSole [.Tuple [.Name x px, .Name y py] k tp] e pos.line X.env = pure false) (hw : swappedStores [.Tuple [.Name x px, .Name y py] k tp] e X.env = pure none) :
    Ex1 X ρ (.Assign [.Tuple [.Name x px, .Name y py] k tp] e pos) (.next ((y, q) :: (x, p) :: ρ)) := fun A R s E Q G h => by
  refine Assign_Tuple (hv A R s _ _ G fun v s1 u1 i1 => ?_) hs hw
  cases i1 with
  | @tup a vs n _ ho ha =>
  obtain ⟨v1, v2, rfl, a1, a2⟩ := isAll2 ha
  rw [arm_assign_Tuple]
  refine wpAny_bind (wpAny_standAt (unpack_tuple R.hand (isTup_of ho) rfl rfl fun h' he => ?_))
  have u2 := Up.ext he
  have G2 : X.Gd ρ _ := Gd.up (Gd.up G u1) u2
  refine assignInOrder_cons (wpAny_assign_Name (storeB G2 (a1.keep (.of u2.keep)) hx hk fun s3 u3 k3 G3 => ?_))
  refine assignInOrder_cons (wpAny_assign_Name (storeB G3 ((a2.keep (.of u2.keep)).keep k3) hy hk fun s4 u4 k4 G4 => ?_))
  exact assignInOrder_nil (h _ s4 ((((u1.trans u2).upL _).trans u3).trans u4) G4)
end Mine
-- J6
set_option maxRecDepth 20000
set_option maxHeartbeats 1000000
namespace Mine
open PySem PySem.Calls PyProof.Rows
variable {X : Fm} {ρ ρ' : List (Str × PV)} {e : Expr} {p q : PV} {pos : Pos} {o : Out} {s : Shared}

theorem loopRange {x : Str} {px : Pos} {N : Nat} {body : List Stmt} {A : Around} {Q : Flow → Shared → Prop} {E : Value → Shared → Prop} {s s1 : Shared} (R : Rm X.d A) (u1 : Up s s1) (G1 : X.Gd ρ s1) (ht : Turns X x body ((List.range N).map fun k => PV.int (k : Nat)) ρ o)
    (hl : X.scope.names.lookup x = some .local) (hk : X.scope.kind = .function) (h : ∀ f s', UpL X.L s s' → o.ok X f s' → Q f s') :
    codeAny (model X.prog X.w) A (.forLoop (.Name x px) (.ref s1.heap.objs.size) body [] X.env) (fun r s' => match r with | .ok f => Q f s' | .error e => cameBackBy (model X.prog X.w) A X.env E e s')
      { s1 with heap := s1.heap.push { cls := .type "range_iterator", data := .fields #[rawInt 0, rawInt (N : Nat), rawInt 1] } } := by
  obtain ⟨m1, F1, _⟩ := Gd.fr G1
  have hLI : X.L ≠ s1.heap.objs.size := Nat.ne_of_lt F1.ns.lt
  have hsz : X.h₀.objs.size ≤ s1.heap.objs.size := Nat.le_trans F1.above (Nat.le_of_lt F1.ns.lt)
  have below : ∀ b o, s.heap.get? b = some o → b ≠ s1.heap.objs.size := fun b o e => Nat.ne_of_lt (Heap.lt_size (u1.keep _ _ e))
  have upI : ∀ (s' : Shared) (h' : Heap) (k : Nat), UpL X.L s s' → Heap.ExtBut s1.heap.objs.size s'.heap h' → UpL X.L s { s' with heap := h', toks := k } := by
    rintro s' h' tk2 ⟨h2, tk, rfl, k⟩ he
    exact ⟨h', tk2, rfl, fun b o hb e => he b o (below b o e) (k b o hb e)⟩
  refine codeAny_forLoop (fun n s' => ∃ i ρ', n = N + 1 - i ∧ i ≤ N ∧ UpL X.L s s' ∧ X.Gd ρ' s' ∧ IsRangeIter s'.heap s1.heap.objs.size (i : Nat) ((N : Int) - (i : Nat)) 1 ∧ Turns X x body (((List.range N).map fun k => PV.int (k : Nat)).drop i) ρ' o) ?_ (N + 1)
    ⟨0, ρ, rfl, Nat.zero_le _, ((u1.trans (.push _ _ _)).upL _), Gd.up G1 (.push _ _ _), by simpa using Heap.get?_push_size _ rfl, ht⟩ (fun _ => rfl)
  rintro n s' ⟨i, ρ', rfl, hi, us, G', hit, ht'⟩
  have hns : ∀ c vs n, s'.heap.get? s1.heap.objs.size ≠ some { cls := c, data := .seq vs n } := by
    intro c vs n e
    rw [hit] at e; cases e
  by_cases hiN : i = N
  · subst hiN
    rw [List.drop_eq_nil_of_le (by simp)] at ht'
    refine wpAny_pyNext_range_end R.hand hit (by omega) fun h₁ he₁ => ?_
    exact ht' A R _ _ _ (Gd.extBut G' hLI hsz hns he₁) fun f s2 u2 k => h f s2 ((upI _ _ _ us he₁).trans u2) k
  · have hlt : i < N := by omega
    have hlt' : i < ((List.range N).map fun k => PV.int (k : Nat)).length := by simpa using hlt
    rw [List.drop_eq_getElem_cons hlt'] at ht'
    simp only [List.getElem_map, List.getElem_range] at ht'
    refine wpAny_pyNext_range_item hit (by omega) fun h₁ hit₁ hs₁ => ?_
    have he₁ := hs₁.extBut
    refine wpAny_assign_Name (store (X := X) (ρ := ρ') (s := { s' with heap := h₁, toks := s'.toks + 1 }) (Gd.extBut G' hLI hsz hns he₁) (.int (i : Nat) _) hl hk fun s2 u2 G2 => ?_)
    have hit2 : IsRangeIter s2.heap s1.heap.objs.size ((i + 1 : Nat) : Int) ((N : Int) - ((i + 1 : Nat) : Int)) 1 := by
      obtain ⟨h2, tk, rfl, k⟩ := u2
      have := k _ _ (Ne.symm hLI) hit₁
      have e1 : ((i : Nat) : Int) + 1 = ((i + 1 : Nat) : Int) := by omega
      have e2 : (N : Int) - (i : Nat) - 1 = (N : Int) - ((i + 1 : Nat) : Int) := by omega
      rw [e1, e2] at this
      exact this
    have us2 := (upI _ _ (s'.toks + 1) us he₁).trans u2
    rcases ht' with ⟨ρ₂, hx, ht₂⟩ | ⟨q, rfl, hx⟩
    · refine hx A R s2 _ _ G2 fun f s3 u3 k => ?_
      cases f with
      | next =>
        refine ⟨N + 1 - (i + 1), by omega, i + 1, ρ₂, rfl, hlt, us2.trans u3, k, ?_, ht₂⟩
        obtain ⟨h3, tk, rfl, k3⟩ := u3
        exact k3 _ _ (Ne.symm hLI) hit2
      | brk | cont | ret => exact k.elim
    · refine hx A R s2 _ _ G2 fun f s3 u3 k => ?_
      cases f with
      | ret v => exact h _ _ (us2.trans u3) k
      | brk | cont | next => exact k.elim

theorem Ex1.forRange {x : Str} {px np cp : Pos} {N : Nat} {body : List Stmt} (g : GlobalIs X.h₀ "range" (.type "range")) (hi : Ev X ρ e (.int N)) (hN : N < 2 ^ 60) (ht : Turns X x body ((List.range N).map fun k => PV.int (k : Nat)) ρ o) (hl : X.scope.names.lookup x = some .local) (hk : X.scope.kind = .function)
    (hs : starEach [e] X.env = [(false, eval e X.env)]) (hn : X.scope.names.lookup ("range" : Str) = some .globalImplicit) : Ex1 X ρ (.For (.Name x px) (.Call (.Name "range" np) [e] [] cp) body [] pos) o := fun A R s E Q G h => by
  refine wpAny_For (Call_name1 hs (name_global g hn hk (by decide +kernel) G (PySem.callWith_type1 (hi A R s _ _ G fun v s0 u0 i0 => ?_)))) (fun _ => rfl)
  cases i0
  refine call_range_1 ?_
  have hR := IsRange.new s0.heap 0 (N : Int) 1 s0.toks ‹Tok› (s0.toks + 1)
  refine wpAny_pyIter_range hR (small_one (by decide) (by decide) (by omega) (by omega)) ?_
  have hsize : Builtin.Range.rangeSize 0 (N : Int) 1 = N := by rw [rangeSize_one]; split <;> omega
  rw [hsize]
  have u1 := u0.trans (Up.push s0 { cls := .type "range", data := .fields #[.int 0 s0.toks, .int N ‹Tok›, .int 1 (s0.toks + 1)] } (s0.toks + 1 + 1))
  exact loopRange R u1 (Gd.up G u1) ht hl hk h
end Mine
-- J7
set_option maxRecDepth 20000
namespace Mine
open PySem PySem.Calls PyProof.Rows

/-! ## values without lists: kept where a list changes -/
mutual
def PV.noL : PV → Bool
  | .lst _ => false
  | .tup l => PV.noLs l
  | .none => true
  | .bool _ => true
  | .int _ => true
  | .str _ => true
  | .obj _ => true
def PV.noLs : List PV → Bool
  | [] => true
  | p :: l => p.noL && PV.noLs l
end
def KeepT (h h' : Heap) : Prop := ∀ a vs n, h.get? a = some { cls := .type "tuple", data := .seq vs n } → h'.get? a = some { cls := .type "tuple", data := .seq vs n }
mutual
theorem Is.keepT {h h' : Heap} (k : KeepT h h') : ∀ {v : Value} {p : PV}, Is h v p → p.noL = true → Is h' v p
  | _, _, .none, _ => .none
  | _, _, .bool b, _ => .bool b
  | _, _, .int i t, _ => .int i t
  | _, _, .str x t, _ => .str x t
  | _, _, .tup ho hl, e => .tup (k _ _ _ ho) (IsAll.keepT k hl (by rw [PV.noL] at e; exact e))
  | _, _, .lst _ _, e => by rw [PV.noL] at e; cases e
  | _, _, .obj v, _ => .obj v
theorem IsAll.keepT {h h' : Heap} (k : KeepT h h') : ∀ {v : List Value} {p : List PV}, IsAll h v p → PV.noLs p = true → IsAll h' v p
  | _, _, .nil, _ => .nil
  | _, _, .cons hv hl, e => by
    rw [PV.noLs] at e
    have e := Bool.and_eq_true_iff.mp e
    exact .cons (Is.keepT k hv e.1) (IsAll.keepT k hl e.2)
end
theorem keepT_same {h h' : Heap} {D : Addr} {its : Array Value} (P : PlainL h D its) (hs : Heap.SameBut D h h') : KeepT h h' := by
  intro a vs n e
  have ha : a ≠ D := by
    intro ha
    subst ha
    obtain ⟨o, n', ho, hc, _⟩ := P
    rw [ho] at e; cases e
    have hc : Value.type "tuple" = Value.type "list" := hc
    injection hc with h
    exact absurd h (by decide)
  exact (hs.2 a ha).trans e
theorem Gd.sameT {h₀ : Heap} {L D : Addr} {ρ : List (Str × PV)} {s : Shared} {h' : Heap} {k : Nat} {its : Array Value} (G : Gd h₀ L ρ s) (P : PlainL s.heap D its) (hs : Heap.SameBut D s.heap h') (hD : h₀.objs.size ≤ D) (hn : ∀ x p, ρ.lookup x = some p → p.noL = true) : Gd h₀ L ρ { s with heap := h', toks := k } := by
  obtain ⟨m, F, hm⟩ := G
  have hL : L ≠ D := by
    intro e
    subst e
    obtain ⟨o, n', ho, hc, _, hd⟩ := P
    obtain ⟨o2, es, ep, ho2, hd2, _⟩ := F.ns
    rw [ho] at ho2; cases ho2; rw [hd] at hd2; cases hd2
  refine ⟨m, ⟨F.ns.sameBut hs hL, fun b o e => (hs.2 b (Nat.ne_of_lt (Nat.lt_of_lt_of_le (Heap.lt_size e) hD))).trans (F.keep b o e), F.above⟩, fun x p e => ?_⟩
  obtain ⟨v, h1, h2⟩ := hm x p e
  exact ⟨v, h1, h2.keepT (keepT_same P hs) (hn x p e)⟩
/-- the state is the old one but for heap and tokens -/
def Ht (s s' : Shared) : Prop := ∃ h' tk, s' = { s with heap := h', toks := tk }
theorem UpL.ht {L : Addr} {s s' : Shared} (u : UpL L s s') : Ht s s' := let ⟨h, t, e, _⟩ := u; ⟨h, t, e⟩
theorem Up.ht {s s' : Shared} (u : Up s s') : Ht s s' := let ⟨h, t, e, _⟩ := u; ⟨h, t, e⟩
theorem Ht.refl (s : Shared) : Ht s s := ⟨s.heap, s.toks, rfl⟩
theorem Ht.trans {a b c : Shared} (x : Ht a b) (y : Ht b c) : Ht a c := by
  obtain ⟨h1, t1, rfl⟩ := x
  obtain ⟨h2, t2, rfl⟩ := y
  exact ⟨h2, t2, rfl⟩
theorem UpL.plainL {L D : Addr} {its : Array Value} {s s' : Shared} (u : UpL L s s') (P : PlainL s.heap D its) (hD : D ≠ L) : PlainL s'.heap D its := by
  obtain ⟨h', tk, rfl, k⟩ := u
  obtain ⟨o, n, ho, r⟩ := P
  exact ⟨o, n, k _ _ hD ho, r⟩
theorem Gd.keepT_upL {h₀ : Heap} {L : Addr} {ρ : List (Str × PV)} {s s' : Shared} (G : Gd h₀ L ρ s) (u : UpL L s s') : KeepT s.heap s'.heap := by
  obtain ⟨h', tk, rfl, k⟩ := u
  obtain ⟨m, F, _⟩ := G
  intro a vs n e
  have ha : a ≠ L := by
    intro ha
    subst ha
    obtain ⟨o2, es, ep, ho2, hd2, _⟩ := F.ns
    rw [ho2] at e; cases e; cases hd2
  exact k a _ ha e
end Mine
-- E0
set_option maxRecDepth 20000
namespace Mine
open PySem PySem.Calls PyProof.Rows

/-! ## all but some objects are kept -/
def Kx (S : List Addr) (h h' : Heap) : Prop := ∀ b o, b ∉ S → h.get? b = some o → h'.get? b = some o
theorem Kx.refl (S : List Addr) (h : Heap) : Kx S h h := fun _ _ _ e => e
theorem Kx.trans {S : List Addr} {a b c : Heap} (x : Kx S a b) (y : Kx S b c) : Kx S a c := fun b o n e => y b o n (x b o n e)
theorem Kx.mono {S S' : List Addr} {a b : Heap} (x : Kx S a b) (h : ∀ y ∈ S, y ∈ S') : Kx S' a b := fun b o n e => x b o (fun m => n (h _ m)) e
theorem Kx.of_same {S : List Addr} {a : Addr} {h h' : Heap} (x : Heap.SameBut a h h') (m : a ∈ S) : Kx S h h' := fun b o n e => x.extBut b o (fun q => n (q ▸ m)) e
theorem Kx.of_ext {S : List Addr} {a : Addr} {h h' : Heap} (x : Heap.ExtBut a h h') (m : a ∈ S) : Kx S h h' := fun b o n e => x b o (fun q => n (q ▸ m)) e
theorem Kx.of_keep {S : List Addr} {h h' : Heap} (x : ∀ b o, h.get? b = some o → h'.get? b = some o) : Kx S h h' := fun b o _ e => x b o e
theorem Kx.push {S : List Addr} (h : Heap) (o : Obj) : Kx S h (h.push o) := fun _ _ _ e => Heap.get?_push_of_some o e
theorem Kx.new {S : List Addr} {a : Addr} {h h' : Heap} (x : Heap.ExtBut a h h') (m : h.objs.size ≤ a) : Kx S h h' := fun b o _ e => x b o (Nat.ne_of_lt (Nat.lt_of_lt_of_le (Heap.lt_size e) m)) e

/-! ## an enumerate over a text -/
abbrev enObj (f0 : Value) (b : Bool) (it : Addr) (i : Int) (old : Value) : Obj := { cls := .type "enumerate", dict := none, data := .fields #[f0, .bool b, .ref it, rawInt i, .none, old], slots := #[] }
def EnRec (h : Heap) (e it : Addr) (i : Int) : Prop := ∃ f0 b old, h.get? e = some (enObj f0 b it i old) ∧ (f0 = .none ∨ ∃ a u, f0 = .int a u)
structure EnAt (h : Heap) (e it : Addr) (x : Str) (t : Tok) (i : Nat) : Prop where
  rcd : EnRec h e it i
  itr : h.IsStrIter it "str_ascii_iterator" x t i
  ne : e ≠ it
theorem EnRec.keep {h h' : Heap} {e it : Addr} {i : Int} (x : EnRec h e it i) (k : ∀ o, h.get? e = some o → h'.get? e = some o) : EnRec h' e it i := let ⟨f0, b, old, y, z⟩ := x; ⟨f0, b, old, k _ y, z⟩
theorem EnAt.keep {h h' : Heap} {e it : Addr} {x : Str} {t : Tok} {i : Nat} (X : EnAt h e it x t i) {S : List Addr} (k : Kx S h h') (he : e ∉ S) (hi : it ∉ S) : EnAt h' e it x t i :=
  ⟨X.rcd.keep fun o => k e o he, let ⟨o, ho, r⟩ := X.itr; ⟨o, k _ _ hi ho, r⟩, X.ne⟩
theorem EnRec.lt {h : Heap} {e it : Addr} {i : Int} (x : EnRec h e it i) : e < h.objs.size := let ⟨_, _, _, y, _⟩ := x; Heap.lt_size y
theorem EnAt.lt {h : Heap} {e it : Addr} {x : Str} {t : Tok} {i : Nat} (X : EnAt h e it x t i) : e < h.objs.size ∧ it < h.objs.size := ⟨X.rcd.lt, let ⟨_, y, _⟩ := X.itr; Heap.lt_size y⟩

section
variable {prog : Program} {w : World} {A : Around} {E : Value → Shared → Prop} {s : Shared}
theorem wpAny_loadIfAlive {a : Addr} {Q : Option Obj → Shared → Prop} (h : ∀ o, Q o s) : wpAny (model prog w) A (loadIfAlive a) Q E s := fun _ _ _ => h _
theorem en_free {e it : Addr} {i : Int} {Q : Bool → Shared → Prop} (he : EnRec s.heap e it i) (h : ∀ b h', EnRec h' e it i → Heap.SameBut e s.heap h' → Q b { s with heap := h' }) :
    wpAny (model prog w) A (Builtin.SmallTypes.ownedTupleIsFree (.ref e)) Q E s := by
  obtain ⟨f0, b, old, he, hf⟩ := he
  unfold Builtin.SmallTypes.ownedTupleIsFree
  refine wpAny_bind (wpAny_field he rfl (x := f0) rfl ?_)
  rcases hf with rfl | ⟨a, u, rfl⟩
  · exact wpAny_pure (h true s.heap ⟨_, _, _, he, .inl rfl⟩ (.refl ..))
  · dsimp only
    refine wpAny_bind (wpAny_loadIfAlive fun o => ?_)
    cases o with
    | none => exact wpAny_pure (h true s.heap ⟨_, _, _, he, .inr ⟨a, u, rfl⟩⟩ (.refl ..))
    | some o =>
      show wpAny _ _ (field (.ref e) 1 >>= _) _ _ _
      refine wpAny_bind (wpAny_field he rfl (x := .bool b) rfl ?_)
      cases b with
      | true =>
        rw [if_neg (by decide)]
        exact wpAny_pure (h false s.heap ⟨_, _, _, he, .inr ⟨a, u, rfl⟩⟩ (.refl ..))
      | false =>
        rw [if_pos (by decide)]
        refine wpAny_bind (wpAny_setField_rec he (by simp) fun h' he' hs' => ?_)
        exact wpAny_pure (h false h' ⟨_, _, _, he', .inr ⟨a, u, rfl⟩⟩ hs')
theorem en_next {e it : Addr} {x : Str} {t : Tok} {i c : Nat} {Q : Value → Shared → Prop} (X : EnAt s.heap e it x t i) (hx : x.cps[i]? = some c)
    (hQ : ∀ h' a tk tk', EnAt h' e it x t (i + 1) → h'.get? a = some { cls := .type "tuple", data := .seq #[.int i tk, .str ⟨#[c]⟩ tk'] } → s.heap.objs.size ≤ a → Kx [e, it] s.heap h' → s.heap.objs.size ≤ h'.objs.size →
      Q (.ref a) { s with heap := h', toks := s.toks + 2 }) :
    wpAny (model prog w) A (Builtin.«enumerate.__next__» ⟨[.ref e], []⟩) (fun fin s' => ∃ v, fin = .done (.ret v) ∧ Q v s') E s := by
  obtain ⟨hp, g, d, tk, os⟩ := s
  obtain ⟨⟨f0, b, old, he, hf⟩, hit, hne⟩ := X
  show wpAny _ _ (field (.ref e) 2 >>= _) _ _ _
  refine wpAny_bind (wpAny_field he rfl (x := .ref it) rfl ?_)
  refine wpAny_bind (wpAny_nextOf_ascii_item hit hx fun h₁ hit₁ hs₁ => ?_)
  replace hs₁ : Heap.SameBut it hp h₁ := hs₁
  have he₁ : h₁.get? e = some (enObj f0 b it i old) := (hs₁.2 e hne).trans he
  show wpAny _ _ (field (.ref e) 3 >>= _) _ _ ⟨h₁, g, d, tk + 1, os⟩
  refine wpAny_bind (wpAny_field he₁ rfl (x := rawInt i) rfl ?_)
  show wpAny _ _ (field (.ref e) 4 >>= _) _ _ ⟨h₁, g, d, tk + 1, os⟩
  refine wpAny_bind (wpAny_field he₁ rfl (x := .none) rfl ?_)
  show wpAny _ _ (mkInt i >>= _) _ _ ⟨h₁, g, d, tk + 1, os⟩
  refine wpAny_bind (wpAny_mkInt ?_)
  show wpAny _ _ (setField (.ref e) 3 (rawInt ((i : Int) + 1)) >>= _) _ _ ⟨h₁, g, d, tk + 1 + 1, os⟩
  refine wpAny_bind (wpAny_setField_rec he₁ (by simp) fun h₂ he₂ hs₂ => ?_)
  replace hs₂ : Heap.SameBut e h₁ h₂ := hs₂
  replace he₂ : h₂.get? e = some (enObj f0 b it ((i : Int) + 1) old) := he₂
  show wpAny _ _ (setField (.ref e) 4 .none >>= _) _ _ ⟨h₂, g, d, tk + 1 + 1, os⟩
  refine wpAny_bind (wpAny_setField_rec he₂ (by simp) fun h₃ he₃ hs₃ => ?_)
  replace hs₃ : Heap.SameBut e h₂ h₃ := hs₃
  replace he₃ : h₃.get? e = some (enObj f0 b it ((i : Int) + 1) old) := he₃
  show wpAny _ _ (newTuple [.int i (tk + 1), .str ⟨#[c]⟩ tk] >>= _) _ _ ⟨h₃, g, d, tk + 1 + 1, os⟩
  refine wpAny_bind (wpAny_newTuple ?_)
  have hz₃ : h₃.objs.size = hp.objs.size := by rw [hs₃.1, hs₂.1, hs₁.1]
  have he₄ := Heap.get?_push_of_some { cls := .type "tuple", data := .seq #[.int i (tk + 1), .str ⟨#[c]⟩ tk] } he₃
  have ht₄ := Heap.get?_push_size h₃ (o := { cls := .type "tuple", data := .seq #[.int i (tk + 1), .str ⟨#[c]⟩ tk] }) rfl
  have k₃ : Kx [e, it] hp (h₃.push { cls := .type "tuple", data := .seq #[.int i (tk + 1), .str ⟨#[c]⟩ tk] }) :=
    (((Kx.of_same hs₁ (by simp)).trans (Kx.of_same hs₂ (by simp))).trans (Kx.of_same hs₃ (by simp))).trans (Kx.push _ _)
  have z₃ : hp.objs.size ≤ (h₃.push { cls := .type "tuple", data := .seq #[.int i (tk + 1), .str ⟨#[c]⟩ tk] }).objs.size := by rw [Heap.size_push]; omega
  have hit₄ : (h₃.push { cls := .type "tuple", data := .seq #[.int i (tk + 1), .str ⟨#[c]⟩ tk] }).IsStrIter it "str_ascii_iterator" x t (i + 1) := by
    obtain ⟨o, ho, r⟩ := (hit₁.extBut hs₂.extBut (Ne.symm hne)).extBut hs₃.extBut (Ne.symm hne); exact ⟨o, Heap.get?_push_of_some _ ho, r⟩
  have hte : h₃.objs.size ≠ e := Nat.ne_of_gt (Heap.lt_size he₃)
  have hti : h₃.objs.size ≠ it := by
    obtain ⟨o, ho, _⟩ := hit
    have ho : it < hp.objs.size := Heap.lt_size ho
    rw [hz₃]; exact Nat.ne_of_gt ho
  have hge : hp.objs.size ≤ h₃.objs.size := Nat.le_of_eq hz₃.symm
  generalize (h₃.push { cls := .type "tuple", data := .seq #[.int i (tk + 1), .str ⟨#[c]⟩ tk] }) = h₄ at *
  have ec : (((i + 1 : Nat)) : Int) = (i : Int) + 1 := rfl
  have fin : ∀ h₅, EnRec h₅ e it ((i : Int) + 1) → Kx [e] h₄ h₅ → h₄.objs.size ≤ h₅.objs.size → Q (.ref h₃.objs.size) ⟨h₅, g, d, tk + 2, os⟩ := fun h₅ r k z =>
    hQ h₅ h₃.objs.size (tk + 1) tk ⟨r, by obtain ⟨o, ho, r⟩ := hit₄; exact ⟨o, k _ _ (by simp [Ne.symm hne]) ho, r⟩, hne⟩ (k _ _ (by simp [hte]) ht₄) hge (k₃.trans (k.mono (by simp))) (by show hp.objs.size ≤ _; omega)
  show wpAny _ _ (Builtin.SmallTypes.ownedTupleIsFree (.ref e) >>= _) _ _ ⟨h₄, g, d, tk + 1 + 1, os⟩
  refine wpAny_bind (en_free ⟨_, _, _, he₄, hf⟩ fun bb h₅ r₅ s₅ => ?_)
  replace s₅ : Heap.SameBut e h₄ h₅ := s₅
  cases bb with
  | false =>
    simp only [Bool.false_eq_true, if_false]
    exact wpAny_pure ⟨_, rfl, fin h₅ r₅ (Kx.of_same s₅ (by simp)) (by rw [s₅.1]; omega)⟩
  | true =>
    obtain ⟨f0', b', old', he₅, hf'⟩ := r₅
    simp only [if_true]
    refine wpAny_bind (wpAny_rule ?_)
    refine wpAny_bind (wpAny_field he₅ rfl (x := old') rfl ?_)
    refine wpAny_bind (wpAny_setField_rec he₅ (by simp) fun h₆ he₆ hs₆ => ?_)
    replace hs₆ : Heap.SameBut e h₅ h₆ := hs₆
    replace he₆ : h₆.get? e = some (enObj f0' b' it ((i : Int) + 1) (.str ⟨#[c]⟩ tk)) := he₆
    show wpAny _ _ (Builtin.SmallTypes.ownedTupleHandOut (.ref e) (.ref h₃.objs.size) >>= _) _ _ ⟨h₆, g, d, tk + 1 + 1, os⟩
    refine wpAny_bind ?_
    unfold Builtin.SmallTypes.ownedTupleHandOut
    refine wpAny_bind (wpAny_setField_rec he₆ (by simp) fun h₇ he₇ hs₇ => ?_)
    replace hs₇ : Heap.SameBut e h₆ h₇ := hs₇
    replace he₇ : h₇.get? e = some (enObj (rawInt h₃.objs.size) b' it ((i : Int) + 1) (.str ⟨#[c]⟩ tk)) := he₇
    refine wpAny_setField_rec he₇ (by simp) fun h₈ he₈ hs₈ => ?_
    replace hs₈ : Heap.SameBut e h₇ h₈ := hs₈
    replace he₈ : h₈.get? e = some (enObj (rawInt h₃.objs.size) false it ((i : Int) + 1) (.str ⟨#[c]⟩ tk)) := he₈
    refine wpAny_bind (wpAny_letGo (wpAny_pure ⟨_, rfl, fin h₈ ⟨_, _, _, he₈, .inr ⟨_, _, rfl⟩⟩ ?_ (by rw [hs₈.1, hs₇.1, hs₆.1, s₅.1]; omega)⟩))
    exact (((Kx.of_same s₅ (by simp)).trans (Kx.of_same hs₆ (by simp))).trans (Kx.of_same hs₇ (by simp))).trans (Kx.of_same hs₈ (by simp))

theorem en_pyNext {e it : Addr} {x : Str} {t : Tok} {i c : Nat} {Q : Option Value → Shared → Prop} (X : EnAt s.heap e it x t i) (hx : x.cps[i]? = some c)
    (hQ : ∀ h' a tk tk', EnAt h' e it x t (i + 1) → h'.get? a = some { cls := .type "tuple", data := .seq #[.int i tk, .str ⟨#[c]⟩ tk'] } → s.heap.objs.size ≤ a → Kx [e, it] s.heap h' → s.heap.objs.size ≤ h'.objs.size →
      Q (some (.ref a)) { s with heap := h', toks := s.toks + 2 }) : wpAny (model prog w) A (pyNext (.ref e)) Q E s := by
  have hT : s.TypeIs (.ref e) "enumerate" := let ⟨_, _, _, y, _⟩ := X.rcd; ⟨_, y, rfl⟩
  unfold pyNext
  exact wpAny_bind (wpAny_attempt (wpAny_callSpecial?_slot (name := Str.ofString "__next__") hT F.slot_enumerate_next
    (wpAny_call_entry F.slot_enumerate_next hT F.entry_enumerate_next
      (en_next X hx fun h' a tk tk' p1 p2 p3 p4 p5 => wpAny_pure (hQ h' a tk tk' p1 p2 p3 p4 p5)) (F.args_enumerate_next_1 _))))
theorem en_pyEnd {e it : Addr} {x : Str} {t : Tok} {i : Nat} {Q : Option Value → Shared → Prop} (hh : A.handled = none) (X : EnAt s.heap e it x t i) (hx : x.cps[i]? = none)
    (hQ : ∀ h', Kx [e, it] s.heap h' → Q none { s with heap := h' }) : wpAny (model prog w) A (pyNext (.ref e)) Q E s := by
  obtain ⟨⟨f0, b, old, he, hf⟩, hit, hne⟩ := X
  have hT : s.TypeIs (.ref e) "enumerate" := ⟨_, he, rfl⟩
  unfold pyNext
  refine wpAny_bind (wpAny_attempt (wpAny_callSpecial?_slot (name := Str.ofString "__next__") hT F.slot_enumerate_next
    (wpAny_call_entry F.slot_enumerate_next hT F.entry_enumerate_next ?_ (F.args_enumerate_next_1 _))))
  show wpAny _ _ (field (.ref e) 2 >>= _) _ _ _
  refine wpAny_bind (wpAny_field he rfl (x := .ref it) rfl ?_)
  refine wpAny_bind (wpAny_nextOf_ascii_end hh hit hx fun h' x he' hx' => ?_)
  obtain ⟨o, ho, hc⟩ := hx'
  refine wpAny_bind (wpAny_isInstance (T := "StopIteration") (b := true) ⟨o, ho, hc⟩ isSubtype_stop ?_)
  exact wpAny_pure (hQ _ (Kx.of_ext he' (by simp)))
end
end Mine
-- S0
set_option maxRecDepth 20000
namespace Mine
open PySem PySem.Calls PyProof.Rows
open Sem (wp)

/-! ## the stretches of a generator: what the library's rules lack -/
section
variable {M : Model} {A : Around} {R : GenEnd} {Y : Protocol} {n : Nat} {s₀ : Shared} {c : Code} {fs : List Frame} {s : Shared} {env : Env}
  {K : Flow → Sem Fin} {H : Value → Sem Fin} {gd : Bool → Bool} {lv : List Value → List Value}
def NoE : Value → Shared → Prop := fun _ _ => False
theorem sg_wrap {α : Type} {m : Sem α} {K : α → Sem Fin} (h : wpAny M (A.over c fs) m (fun a s' => Seg M A R Y n s₀ c (K a) fs s') NoE s) : Seg M A R Y n s₀ c (m.wrap K H gd lv) fs s :=
  seg_wrap (wpAny_mono h (fun _ _ x => x) fun _ _ x => x.elim)
theorem sg_bind {α β : Type} {m : Sem α} {f : α → Sem β} {K : β → Sem Fin} (h : wpAny M (A.over c fs) m (fun a s' => Seg M A R Y n s₀ c ((f a).wrap K H gd lv) fs s') NoE s) : Seg M A R Y n s₀ c ((m >>= f).wrap K H gd lv) fs s :=
  seg_bind_wrap (wpAny_mono h (fun _ _ x => x) fun _ _ x => x.elim)
theorem sg_If {test : Expr} {body orelse : List Stmt} {pos : Pos}
    (h : wpAny M (A.over c fs) (isTrue test env (eval test env)) (fun b s' => if b = true then Seg M A R Y n s₀ c ((execs body env).wrap K H gd lv) fs s' else Seg M A R Y n s₀ c ((execs orelse env).wrap K H gd lv) fs s') NoE s) :
    Seg M A R Y n s₀ c ((exec (.If test body orelse pos) env).wrap K H gd lv) fs s := by
  rw [exec_If]
  refine sg_bind (wpAny_standAt (sg_bind (wpAny_mono h (fun b s' hb => ?_) fun _ _ x => x)))
  cases b with
  | true => rw [if_pos rfl] at hb ⊢; exact hb
  | false => rw [if_neg Bool.false_ne_true] at hb ⊢; exact hb

/-- what a loop's frame does with the loop's result -/
def retK (env : Env) (K : Flow → Sem Fin) (H : Value → Sem Fin) (gd : Bool → Bool) (lv : List Value → List Value) : Result → Sem Fin :=
  fun r => ((match r with | .ok f => (.pure f : Sem Flow) | .error e => .raise e).onRaise fun (x : Value) => do
        if (← field x 1) == Value.none then unsupported "frame.own-activation:exception-without-traceback"
        setFlight x env.frame).wrap K H gd lv
theorem sg_For {target iter : Expr} {body orelse : List Stmt} {pos : Pos}
    (h : wpAny M (A.over c fs) (eval iter env) (fun x s₁ => wpAny M (A.over c fs) (pyIter x) (fun it s₂ =>
      ∀ p, Seg M A R Y n s₀ (.forLoop target it body orelse env) (M.den (.forLoop target it body orelse env)) (.ret (retK env K H gd lv) none (gd false) (lv []) c p [] :: fs) s₂) NoE s₁) NoE s)
    (hs : ∀ x, foldedSetIterable iter env x = pure x) :
    Seg M A R Y n s₀ c ((exec (.For target iter body orelse pos) env).wrap K H gd lv) fs s := by
  rw [exec_For]
  refine sg_bind (wpAny_standAt (sg_bind (wpAny_mono h (fun x s₁ h₁ => ?_) fun _ _ x => x)))
  refine sg_bind (wpAny_of_eq (hs x) (sg_bind (wpAny_standAt (sg_bind (wpAny_holding (wpAny_mono h₁ (fun it s₂ h₂ => ?_) fun _ _ x => x))))))
  exact seg_call h₂
end

section
variable {prog : Program} {w : World} {A : Around} {R : GenEnd} {Y : Protocol} {n : Nat} {s₀ : Shared} {fs : List Frame} {s : Shared} {env : Env}
/-- what a turn of a for does with what its body came to -/
def turnK (target : Expr) (it : Value) (body orelse : List Stmt) (env : Env) : Flow → Sem Fin
  | .next | .cont => .pure (.again (.forLoop target it body orelse env))
  | .brk => .pure (.done .next)
  | .ret v => .pure (.done (.ret v))
def turnH (env : Env) (e : Value) : Sem Fin := (do noteFrame e env; theTreesLotGoes e : Sem Unit).wrap (fun _ => .raise e) .raise id id
theorem sg_forLoop {target : Expr} {it : Value} {body orelse : List Stmt}
    (h : wpAny (model prog w) (A.over (.forLoop target it body orelse env) fs) (pyNext it) (fun r s₁ => match r with
      | none => Seg (model prog w) A R Y n s₀ (.block orelse env) ((model prog w).den (.block orelse env)) fs s₁
      | some v => wpAny (model prog w) (A.over (.forLoop target it body orelse env) fs) (letOwnedTupleGo target it v) (fun _ s₂ => wpAny (model prog w) (A.over (.forLoop target it body orelse env) fs) (assign target env v) (fun _ s₃ =>
          Seg (model prog w) A R Y n s₀ (.forLoop target it body orelse env) ((execs body env).wrap (turnK target it body orelse env) (turnH env) id id) fs s₃) NoE s₂) NoE s₁) NoE s) :
    Seg (model prog w) A R Y n s₀ (.forLoop target it body orelse env) ((model prog w).den (.forLoop target it body orelse env)) fs s := by
  show Seg _ A R Y n s₀ _ ((forTurn target it body orelse env).onRaise (fun x => do noteFrame x env; theTreesLotGoes x)) fs s
  unfold forTurn
  rw [Sem.onRaise_eq_wrap]
  refine sg_bind (wpAny_standAt (sg_bind (wpAny_onRaise (wpAny_mono h (fun r s₁ h₁ => ?_) fun _ _ x => x.elim))))
  cases r with
  | none => exact seg_again rfl h₁
  | some v =>
    refine sg_bind (wpAny_mono h₁ (fun _ s₂ h₂ => ?_) fun _ _ x => x)
    refine sg_bind (wpAny_mono h₂ (fun _ s₃ h₃ => ?_) fun _ _ x => x)
    rw [Sem.bind_eq_wrap', Sem.wrap_wrap]
    rw [Sem.wrap_congr (execs body env) _ _ (K' := turnK target it body orelse env) (H' := turnH env) (fun f => by cases f <;> rfl)
      (fun e => by show (do noteFrame e env; theTreesLotGoes e : Sem Unit).bind (fun _ => .raise e) = _; rw [Sem.bind_eq_wrap]; rfl)]
    exact h₃
theorem sg_block {stmts : List Stmt}
    (h : Seg (model prog w) A R Y n s₀ (.block stmts env) ((execs stmts env).wrap (fun f => .pure (.done f)) (turnH env) id id) fs s) :
    Seg (model prog w) A R Y n s₀ (.block stmts env) ((model prog w).den (.block stmts env)) fs s := by
  show Seg _ A R Y n s₀ _ ((execs stmts env).onRaise (fun x => do noteFrame x env; theTreesLotGoes x) >>= fun f => pure (.done f)) fs s
  rw [Sem.onRaise_eq_wrap, Sem.bind_eq_wrap', Sem.wrap_wrap]
  rw [Sem.wrap_congr (execs stmts env) _ _ (K' := fun f => .pure (.done f)) (H' := turnH env) (fun f => by rfl)
      (fun e => by rw [Sem.bind_eq_wrap, Sem.wrap_wrap]; rfl)]
  exact h
/-- a loop is left -/
theorem sg_left {c : Code} {f : Flow} {K : Flow → Sem Fin} {H : Value → Sem Fin} {gd : Bool → Bool} {lv : List Value → List Value} {h : Option Value} {g : Bool} {l : List Value} {c₁ : Code} {p₁ : Pos} {kp : List Value}
    (hk : Seg (model prog w) A R Y n s₀ c₁ (K f) fs s) : Seg (model prog w) A R Y n s₀ c (.pure (.done f)) (.ret (retK env K H gd lv) h g l c₁ p₁ kp :: fs) s :=
  seg_leaf (.ok f) hk
end
end Mine
-- N0
set_option maxRecDepth 100000
set_option maxHeartbeats 4000000
namespace Mine
open PySem PySem.Calls PyProof.Rows PySem.W PySem.Builtin PySem.Builtin.ObjectAttr PySem.Builtin.Getset_descriptor

/-! ## an object with slots -/
abbrev slObj (C dx : Addr) (sl : Array (Option Value)) : Obj := { cls := .ref C, dict := some dx, data := .plain, slots := sl }
structure SlAt (h : Heap) (x C dx : Addr) (f : Nat → Option Value) : Prop where
  at_ : ∃ sl, h.get? x = some (slObj C dx sl) ∧ ∀ i, (sl[i]?).join = f i
  dct : h.get? dx = some emptyDict
  ne : dx ≠ x
theorem SlAt.keep {h h' : Heap} {x C dx : Addr} {f : Nat → Option Value} (X : SlAt h x C dx f) {S : List Addr} (k : Kx S h h') (hx : x ∉ S) (hd : dx ∉ S) : SlAt h' x C dx f :=
  ⟨let ⟨sl, a, b⟩ := X.at_; ⟨sl, k _ _ hx a, b⟩, k _ _ hd X.dct, X.ne⟩
theorem SlAt.lt {h : Heap} {x C dx : Addr} {f : Nat → Option Value} (X : SlAt h x C dx f) : x < h.objs.size ∧ dx < h.objs.size := ⟨let ⟨_, a, _⟩ := X.at_; Heap.lt_size a, Heap.lt_size X.dct⟩

section
variable {prog : Program} {w : World} {A : Around} {E : Value → Shared → Prop} {s : Shared} {K : Frag} {x C dx p : Addr} {f : Nat → Option Value} {v : Value} {i : Nat}

/-- the name nm of the class C is the slot i, told by the descriptor p -/
structure SlotOk (K : Frag) (C p : Addr) (i : Nat) (nm : Str) : Prop where
  slot : slotIn K p C = some i
  lt : i < 1000
  find : findObj K C (some emptyDict) nm = some (.bind (.builtin "member_descriptor.__get__") (.ref p))
  taker : takerIn K C nm = some (some (.ref p))
  typ : typeIn K (.ref p) = some (.type "member_descriptor")
structure PlainCls (K : Frag) (C : Addr) : Prop where
  ga : findIn K (.ref C) "__getattribute__" = some (some (.builtin "object.__getattribute__"))
  gt : findIn K (.ref C) "__getattr__" = some none
  sa : findIn K (.ref C) "__setattr__" = some (some (.builtin "object.__setattr__"))
  over : plainOver K C = true

theorem sl_read {nm : Str} {b : Bool} {Q : Value → Shared → Prop} (X : K.In s.heap) (P : PlainCls K C) (S : SlotOk K C p i nm) (I : SlAt s.heap x C dx f) (hv : f i = some v) (hh : handedIn v = true)
    (h : Q v { s with toks := s.toks + 1 }) : wpAny (model prog w) A (getAttr (.ref x) nm b) Q E s := by
  obtain ⟨⟨sl, hx, hf⟩, hd, hne⟩ := I
  have I' : InstAt s.heap x (slObj C dx sl) C (some emptyDict) := ⟨hx, rfl, rfl, hd⟩
  refine get_bind X I' P.ga S.find P.gt (wpAny_call (slot_get (s := { s with toks := s.toks + 1 }) X I' S.slot (by rw [hf, hv]) ?_))
  show wpAny _ _ (handedOut v) _ _ _
  rw [handedOut_of hh]; exact wpAny_pure h

theorem join_set {sl : Array (Option Value)} {n i j : Nat} (v : Value) (hn : i < sl.size + n) : (((sl ++ Array.replicate n none).setIfInBounds i (some v))[j]?).join = if j = i then some v else (sl[j]?).join := by
  by_cases h : j = i
  · subst h
    rw [if_pos rfl, Array.getElem?_setIfInBounds_self_of_lt (by simpa using hn)]; rfl
  · rw [if_neg h, Array.getElem?_setIfInBounds_ne (Ne.symm h), Array.getElem?_append]
    split
    · rfl
    · rename_i hj
      rw [show sl[j]? = none from Array.getElem?_eq_none_iff.mpr (by omega), Array.getElem?_replicate]
      split <;> rfl

theorem sl_put {R : Result → Shared → Prop} (X : K.In s.heap) (hp : slotIn K p C = some i) (hi : i < 1000) (I : SlAt s.heap x C dx f)
    (h : ∀ h', SlAt h' x C dx (fun j => if j = i then some v else f j) → Heap.SameBut x s.heap h' → R (.ok (.ret .none)) { s with heap := h' }) :
    codeAny (model prog w) A (.call (.builtin "member_descriptor.__set__") ⟨[.ref p, .ref x, v], []⟩) R s := by
  obtain ⟨⟨sl₀, hx, hf⟩, hd, hne⟩ := I
  have I' : InstAt s.heap x (slObj C dx sl₀) C (some emptyDict) := ⟨hx, rfl, rfl, hd⟩
  obtain ⟨n, tn, owner, behind, tb, d, sl, cd, ho, hc, hm, hb, rfl⟩ := slot_of X hp
  have e₁ := Heap.get?_update_self (fun o => { o with slots := (o.slots ++ Array.replicate (cd.slotNames.length - 1 - behind.toNat + 1 - o.slots.size) none).setIfInBounds (cd.slotNames.length - 1 - behind.toNat) (some v) }) hx rfl
  have sb := Heap.SameBut.update s.heap x (fun o => { o with slots := (o.slots ++ Array.replicate (cd.slotNames.length - 1 - behind.toNat + 1 - o.slots.size) none).setIfInBounds (cd.slotNames.length - 1 - behind.toNat) (some v) })
  obtain ⟨hh, g, dr, t, os⟩ := s
  have L0 := I'.type (M := model prog w)
  have L1 := looks_mroIn (M := model prog w) X hm
  have L2 : Looks (model prog w) hh (PySem.Builtin.Slots.slotNamesOf (.ref C)) cd.slotNames := (looks_clsIn X hc).andThen .now
  dsimp only at ho hx L0 L1 e₁ sb hd
  have f0 := looks_field (M := model prog w) ho 0 (v := .str n tn) rfl
  have f1 := looks_field (M := model prog w) ho 1 (v := owner) rfl
  have f3 := looks_field (M := model prog w) ho 3 (v := .builtin "proto.slot#set") rfl
  have f4 := looks_field (M := model prog w) ho 4 (v := .int behind tb) rfl
  refine codeAny_call_builtin KF.slot_mset.plain KF.entry_mset (KF.slot_mset.check _ _ _ _ _ _ _ _ ⟨_, ho, rfl⟩ (KF.args_mset _ _ _) ?_)
  unfold PySem.Builtin.«member_descriptor.__set__» descrSet descrStoreThrough descrCheckInstance descrNameAndClass isInstance
  have f5 : Looks (model prog w) hh (descrItself (.ref p)) [.ref p] := ((Looks.ld (part := none) ho).andThen .now).andThen (Looks.of_pure (by kernel_rfl))
  repeat lk
  refine ⟨Code.quiet_builtin _ (by decide +kernel), codeAny_builtin KF.entry_slotset ?_⟩
  unfold PySem.Builtin.«proto.slot#set» PySem.Builtin.Slots.target
  repeat lk
  rw [if_neg hb]
  refine wpAny_pure (wpAny_bind ?_)
  unfold setSlotAt
  dsimp only
  rw [if_neg (by rw [sizeLine_eq]; omega)]
  refine wpAny_updatePart hx (wpAny_pure (h _ ⟨⟨_, e₁, fun j => ?_⟩, sb.extBut _ _ hne hd, hne⟩ sb))
  try dsimp only
  rw [join_set v (by omega), hf]

theorem sl_write {nm : Str} {Q : Unit → Shared → Prop} (X : K.In s.heap) (P : PlainCls K C) (S : SlotOk K C p i nm) (I : SlAt s.heap x C dx f)
    (h : ∀ h', SlAt h' x C dx (fun j => if j = i then some v else f j) → Heap.SameBut x s.heap h' → Q () { s with heap := h', toks := s.toks + 1 }) : wpAny (model prog w) A (setAttr (.ref x) nm v) Q E s := by
  have I₀ := I
  obtain ⟨⟨sl, hx, hf⟩, hd, hne⟩ := I
  have I' : InstAt s.heap x (slObj C dx sl) C (some emptyDict) := ⟨hx, rfl, rfl, hd⟩
  refine set_plain X I' P.sa ?_
  exact osa_descr (s := { s with toks := s.toks + 1 }) KF.slot_mset X I' P.over S.taker S.typ (sl_put X S.slot S.lt I₀ fun h' a b => h h' a b)
end
end Mine
-- X0
set_option maxRecDepth 100000
set_option maxHeartbeats 4000000
namespace Mine
open PySem PySem.Calls PyProof.Rows PySem.W

/-! ## a StopIteration that a frame raises, looks at and hands on -/
def fras (l : List Env) : List Addr := l.filterMap (·.frame)
def FrOk (h : Heap) (l : List Env) : Prop := ∀ env ∈ l, env.scope.kind ≠ .module ∧ ∃ L m, env.frame = some L ∧ h.Ns L m
theorem funFrames_of {h base : Heap} : ∀ {l : List Env}, FrOk h l → (∀ b ∈ fras l, base.get? b = none) → h.FunFrames base l
  | [], _, _ => trivial
  | env :: r, F, n => by
    obtain ⟨hk, L, m, hf, o, es, ep, ho, hd, _⟩ := F env (.head _)
    refine ⟨hk, ⟨L, o, hf, n L (by simp [fras, hf]), ho, fun vs q => by rw [hd] at q; cases q⟩, funFrames_of (fun e he => F e (.tail _ he)) fun b hb => n b ?_⟩
    rw [fras, List.filterMap_cons, hf]
    exact .tail _ hb
theorem FrOk.slots {h h' : Heap} {l : List Env} (F : FrOk h l) (k : h.UpToSlots h') : FrOk h' l := fun e he => let ⟨a, L, m, b, c⟩ := F e he; ⟨a, L, m, b, k.ns c⟩
theorem FrOk.keep {h h' : Heap} {l : List Env} (F : FrOk h l) (k : ∀ L ∈ fras l, ∀ m, h.Ns L m → h'.Ns L m) : FrOk h' l := fun e he =>
  let ⟨a, L, m, b, c⟩ := F e he
  ⟨a, L, m, b, k L (List.mem_filterMap.mpr ⟨e, he, b⟩) m c⟩

section
variable {M : Model} {A : Around} {E : Value → Shared → Prop} {s : Shared}
/-- the class, the first field and the record of what flies -/
theorem traced_upd {h base : Heap} {e x : Addr} {cls a0 fl : Value} {o : Obj} {h' : Heap} (T : h.TracedAtW base e cls a0 fl) (hx : h.get? x = some o) (hnf : ∀ vs, o.data ≠ .fields vs) (hs : Heap.SameBut x h h') : h'.TracedAtW base e cls a0 fl := by
  obtain ⟨oe, vs, T, oT, ts, a1, a2, a3, a4, a5, a6, a7, a8, a9⟩ := T
  have n1 : e ≠ x := by rintro rfl; rw [hx] at a1; cases a1; exact hnf _ a3
  have n2 : T ≠ x := by rintro rfl; rw [hx] at a7; cases a7; exact hnf _ a8
  exact ⟨oe, vs, T, oT, ts, (hs.2 _ n1).trans a1, a2, a3, a4, a5, a6, (hs.2 _ n2).trans a7, a8, a9⟩
theorem flight_some {base : Heap} {l : List Env} {e L : Addr} {cls a0 fl : Value} {Q : Unit → Shared → Prop} (hkb : base.StaysIn s.heap) (hen : base.get? e = none) (hl : s.heap.FunFrames base l) (ht : s.heap.TracedAtW base e cls a0 fl)
    (hQ : ∀ h', Heap.HeldW base l e cls a0 L h' → s.heap.UpToSlots h' → Q () { s with heap := h' }) : wpAny M A (setFlight (.ref e) (some L)) Q E s := by
  obtain ⟨oe, vs, T, oT, ts, he, hcls, hd, h1, hnT, hTe, hT, hdT, h3⟩ := ht
  have hsz3 : 3 < ts.size := (Array.getElem?_eq_some_iff.mp h3).1
  have other : ∀ b, b ≠ T → (s.heap.update T (Obj.mapFields (·.setIfInBounds 3 ((some L).elim Value.none fun f => rawInt f)))).get? b = s.heap.get? b := fun b hb => Heap.get?_update_other _ _ (Ne.symm hb)
  have noRecord : ∀ b o, s.heap.get? b = some o → (∀ vs, o.data ≠ .fields vs) → b ≠ T := fun b o hb hnf q => by
    rw [q, hT] at hb; injection hb with hb; subst hb; exact hnf ts hdT
  unfold setFlight
  refine wpAny_bind (wpAny_field he hd h1 ?_)
  rw [if_pos (show (Value.ref T != Value.none) = true from by simp)]
  refine wpAny_setField hT hdT hsz3 (hQ _ ⟨fun b o hbo => (other b fun q => by rw [q, hnT] at hbo; cases hbo).trans (hkb b o hbo), hen, hl.of_keeps fun b o hb hnf => ⟨o, (other b (noRecord b o hb hnf)).trans hb, rfl⟩, ?_⟩
    fun b o hb hnf => ⟨o.slots, (other b (noRecord b o hb hnf)).trans hb⟩)
  exact ⟨oe, vs, T, _, _, (other e (Ne.symm hTe)).trans he, hcls, hd, h1, hnT, hTe, Heap.get?_update_self _ hT (Obj.isFreed_of_fields (Obj.data_mapFields hdT _)), Obj.data_mapFields hdT _, by simp [hsz3]⟩
theorem field_tb {base : Heap} {e : Addr} {cls a0 fl : Value} {Q : Value → Shared → Prop} (ht : s.heap.TracedAtW base e cls a0 fl) (hQ : ∀ T, Q (.ref T) s) : wpAny M A (field (.ref e) 1) Q E s := by
  obtain ⟨oe, vs, T, oT, ts, he, hcls, hd, h1, _⟩ := ht
  exact wpAny_field he hd h1 (hQ T)
end

section
variable {prog : Program} {w : World} {A : Around} {s s₀ : Shared} {K : Frag} {x C dx p ex L : Addr} {f : Nat → Option Value} {i : Nat} {env : Env} {outer : List Env} {nm : Str}
/-- the handler of a frame that hands on what it has seen: self.nm = None; raise -/
theorem stop_out {np sp ap kp vp rp hp : Pos} {k : Nat} {E : Value → Shared → Prop} {Q : Flow → Shared → Prop} {h₁ : Heap} (hA : A.frames = some (env :: outer)) (hL : env.frame = some L) (hk : env.scope.kind ≠ .module) (hns : ∃ m, s.heap.Ns L m) (hF : FrOk s.heap outer)
    (X : ∀ h', Kx (x :: fras (env :: outer)) s.heap h' → K.In h') (P : PlainCls K C) (S : SlotOk K C p i nm) (I : SlAt s.heap x C dx f) (hdx : dx ∉ fras (env :: outer)) (hx : Heap.MadeExc s.heap h₁ ex "StopIteration" [])
    (hname : ∀ A' E' h' (Q' : Value → Shared → Prop), Kx (x :: fras (env :: outer)) s.heap h' → Q' (.type "BaseException") { s with heap := h' } → wpAny (model prog w) A' (eval (.Name "BaseException" np) env) Q' E' { s with heap := h' })
    (hself : ∀ A' E' h' (Q' : Value → Shared → Prop), (∀ m, s.heap.Ns L m → h'.Ns L m) → Q' (.ref x) { s with heap := h' } → wpAny (model prog w) A' (eval (.Name "self" sp) env) Q' E' { s with heap := h' })
    (hsw : swapsWith (.Constant .none k vp) (some (.Attribute (.Name "self" sp) nm ap)) kp.line env = pure false)
    (hE : ∀ h', Kx (x :: fras (env :: outer)) s.heap h' → (∀ L' m, L' ∈ fras outer → s.heap.Ns L' m → h'.Ns L' m) → (∃ o, h'.get? ex = some o ∧ o.cls = .type "StopIteration") → E (.ref ex) { s with heap := h', toks := s.toks + 1 }) :
    wpAny (model prog w) A (noteFrame (.ref ex) env) (fun _ s₂ => wpAny (model prog w) A (setFlight (.ref ex) none) (fun _ s₃ => wpAny (model prog w) A (handleBy (.ref ex) env
        [.ExceptHandler (some (.Name "BaseException" np)) none [.Assign [.Attribute (.Name "self" sp) nm ap] (.Constant .none k vp) kp, .Raise none none rp] hp]) Q
        (fun e s' => wpAny (model prog w) A (leaving env e) (fun _ s'' => E e s'') NoE s') s₃)
        (fun e s' => wpAny (model prog w) A (leaving env e) (fun _ s'' => E e s'') NoE s') s₂)
        (fun e s' => wpAny (model prog w) A (leaving env e) (fun _ s'' => E e s'') NoE s') { s with heap := h₁ } := by
  let B := hideAll s.heap (x :: fras (env :: outer))
  have hLm : L ∈ fras (env :: outer) := List.mem_filterMap.mpr ⟨env, .head _, hL⟩
  have hB : B.StaysIn s.heap := fun b o e => of_hideAll _ e
  have hBk : ∀ {h' : Heap}, B.StaysIn h' → Kx (x :: fras (env :: outer)) s.heap h' := fun k b o n e => k b o (hideAll_get _ e n)
  have fresh : ∀ b, s.heap.get? b = none → B.get? b = none := fun b hb => by
    cases hq : B.get? b with
    | none => rfl
    | some o' => have := hB b o' hq; rw [hb] at this; cases this
  obtain ⟨t, he, htn, ht⟩ := hx.there
  obtain ⟨mL, hmL⟩ := hns
  have hFa : FrOk s.heap (env :: outer) := fun e he => by
    cases he with
    | head => exact ⟨hk, L, mL, hL, hmL⟩
    | tail _ he => exact hF e he
  have u1 : s.heap.UpToSlots h₁ := .of_keeps hx.keeps
  have F1 : h₁.FunFrames B (env :: outer) := funFrames_of (hFa.slots u1) fun b hb => hideAll_none _ (.tail _ hb)
  obtain ⟨⟨sl, hxo, hfo⟩, hdo, hdne⟩ := id I
  have hxf : x ∉ fras (env :: outer) := fun hm => by
    obtain ⟨o, ho, hd⟩ := (F1.mem hm).2
    obtain ⟨e, hem, hfe⟩ := List.mem_filterMap.mp hm
    obtain ⟨_, L', m', hf', o', es, ep, ho', hd', _⟩ := hFa e hem
    rw [hfe] at hf'; cases hf'
    rw [hxo] at ho'; cases ho'; cases hd'
  -- the frame looks at it
  unfold noteFrame
  simp only [hL]
  refine wpAny_bind (wpAny_field (s := { s with heap := h₁ }) he rfl (i := 1) (x := Value.none) rfl ?_)
  rw [if_neg (by decide)]
  refine wpAny_entryW (s := { s with heap := h₁ }) (base := B) (outer := outer) (a0 := .ref t) hA F1 hL he (fun b o e => hx.keeps b o (hB b o e)) (fresh ex hx.new) rfl (by show 1 < 6; decide) rfl fun h₂ N2 => ?_
  obtain ⟨k2, F2, T2, u2⟩ := N2
  replace u2 : h₁.UpToSlots h₂ := u2
  have H2 : Heap.HeldW B (env :: outer) ex (.type "StopIteration") (.ref t) L h₂ := ⟨k2, fresh ex hx.new, F2, T2⟩
  refine wpAny_landsW (s := { s with heap := h₂ }) H2 fun h₃ H3 u3 => ?_
  replace u3 : h₂.UpToSlots h₃ := u3
  have c3 := (u1.trans u2).trans u3
  refine wpAny_handleBy_builtin (X := "StopIteration") (T := "BaseException") (b := true) (by rw [isSubtype_type]; kernel_rfl) (by rw [isSubtype_type]; kernel_rfl) (by rw [isSubtype_type]; kernel_rfl) ?_
  refine hname _ _ h₃ _ (hBk H3.1) ⟨rfl, ?_, ?_⟩
  · exact H3.there
  rw [if_pos rfl]
  refine lands_againW (s := { s with heap := h₃ }) H3 fun h₄ H4 u4 => ?_
  replace u4 : h₃.UpToSlots h₄ := u4
  have c4 := c3.trans u4
  have k4 := hBk H4.1
  -- self.nm = None
  refine wpAny_execs_cons (plainObj_wpAny_Assign_Attribute (wpAny_Constant_none ?_) hsw)
  refine hself _ _ h₄ _ (fun m hm => c4.ns hm) ?_
  obtain ⟨sl4, hx4⟩ := c4 x _ hxo (fun vs q => by cases q)
  have I4 : SlAt h₄ x C dx (fun j => (sl4[j]?).join) := ⟨⟨sl4, hx4, fun _ => rfl⟩, k4 _ _ (fun q => by rcases List.mem_cons.mp q with q | q; exact hdne q; exact hdx q) hdo, hdne⟩
  refine sl_write (s := { s with heap := h₄ }) (X h₄ k4) P S I4 fun h₅ I5 hs5 => ?_
  replace hs5 : Heap.SameBut x h₄ h₅ := hs5
  have T5 := traced_upd H4.2.2.2.at hx4 (fun vs q => by cases q) hs5
  have u5 : h₄.UpToSlots h₅ := fun b o hb hnf => by
    by_cases hbx : b = x
    · subst hbx
      obtain ⟨⟨sl5, hx5, _⟩, _, _⟩ := I5
      rw [hx4] at hb; cases hb
      exact ⟨sl5, hx5⟩
    · exact ⟨o.slots, (hs5.2 b hbx).trans hb⟩
  have k5 : B.StaysIn h₅ := fun b o hb => (hs5.2 b fun q => by
    have : B.get? b = none := hideAll_none _ (by rw [q]; exact .head _)
    rw [this] at hb; cases hb).trans (H4.1 b o hb)
  have F5 : h₅.FunFrames B (env :: outer) := funFrames_of (hFa.slots (c4.trans u5)) fun b hb => hideAll_none _ (.tail _ hb)
  -- raise
  refine wpAny_execs_cons ?_
  rw [arm_exec_Raise]
  refine wpAny_bind (wpAny_standAt ?_)
  show wpAny _ _ (raiseStmt env none none) _ _ _
  unfold raiseStmt
  refine wpAny_bind (wpAny_handled ?_)
  show wpAny _ _ (rule "raise.bare" >>= _) _ _ _
  refine wpAny_bind (wpAny_rule (wpAny_bind (field_tb (base := B) (s := { s with heap := h₅, toks := s.toks + 1 }) T5 fun T => ?_)))
  rw [if_neg (show ¬ ((Value.ref T == Value.none) = true) from Bool.false_ne_true)]
  rw [hL]
  refine wpAny_bind (flight_some (s := { s with heap := h₅, toks := s.toks + 1 }) k5 (fresh ex hx.new) F5 T5 fun h₆ H6 u6 => wpAny_throw ?_)
  replace u6 : h₅.UpToSlots h₆ := u6
  -- what the clause's own code does
  refine wpAny_noteFrame_againW (s := { s with heap := h₆, toks := s.toks + 1 }) hL H6.2.2.2 ?_
  refine wpAny_bind (field_tb (base := B) (s := { s with heap := h₆, toks := s.toks + 1 }) H6.2.2.2 fun T => ?_)
  rw [if_neg (show ¬ ((Value.ref T == Value.none) = true) from Bool.false_ne_true)]
  rw [hL]
  refine flight_some (s := { s with heap := h₆, toks := s.toks + 1 }) H6.1 H6.2.1 H6.2.2.1 H6.2.2.2 fun h₇ H7 u7 => ?_
  replace u7 : h₆.UpToSlots h₇ := u7
  -- the frame is left
  unfold leaving
  refine wpAny_bind (wpAny_noteFrame_againW (s := { s with heap := h₇, toks := s.toks + 1 }) hL H7.2.2.2 ?_)
  refine wpAny_landsW (s := { s with heap := h₇, toks := s.toks + 1 }) H7 fun h₈ H8 u8 => ?_
  replace u8 : h₇.UpToSlots h₈ := u8
  have c8 := (((c4.trans u5).trans u6).trans u7).trans u8
  exact hE h₈ (hBk H8.1) (fun L' m _ hm => c8.ns hm) H8.there
end
end Mine
-- T0
set_option maxRecDepth 20000
namespace Mine
open PySem PySem.Calls PyProof.Rows

/-! ## the defs, read out of the program -/
open Lean Elab Tactic Meta PySem.W in
def strOf (e : Lean.Expr) : Option String := e.find? (fun x => x.isStringLit) |>.bind fun | .lit (.strVal s) => some s | _ => none
open Lean Elab Tactic Meta PySem.W in
def stmtCells : MetaM (List Lean.Expr) := do
  let pE := mkConst ``PySem.Challenge.pw_er0026_01
  let main ← whnfD (← mkAppM ``Program.main #[pE])
  let some cells ← cellsD? (← mkAppM ``Module.body #[main]) | throwError "cells"
  return cells
open Lean Elab Tactic Meta PySem.W in
/-- part i of the def n (of the class c) -/
def putDef (c : String) (n : String) (i : Nat) : TacticM Unit := withMainContext do
  let mut cells ← stmtCells
  if c != "" then
    let some k := cells.find? (fun s => s.isAppOf ``Stmt.ClassDef && strOf s.getAppArgs[0]! == some c) | throwError "class"
    let some cs ← cellsD? k.getAppArgs[3]! | throwError "class body"
    cells := cs
  let some d := cells.find? (fun s => s.isAppOf ``Stmt.FunctionDef && strOf s.getAppArgs[0]! == some n) | throwError "def"
  (← getMainGoal).assign d.getAppArgs[i]!
def runA : Arguments := by run_tac putDef "" "_law_run" 1
def runB : List Stmt := by run_tac putDef "" "_law_run" 2
def runS : Scope := by run_tac putDef "" "_law_run" 6
def numA : Arguments := by run_tac putDef "" "_law_number" 1
def numB : List Stmt := by run_tac putDef "" "_law_number" 2
def numS : Scope := by run_tac putDef "" "_law_number" 6
def figA : Arguments := by run_tac putDef "" "_law_figures" 1
def figB : List Stmt := by run_tac putDef "" "_law_figures" 2
def figS : Scope := by run_tac putDef "" "_law_figures" 6
def floA : Arguments := by run_tac putDef "" "_law_float" 1
def floB : List Stmt := by run_tac putDef "" "_law_float" 2
def floS : Scope := by run_tac putDef "" "_law_float" 6
def stgA : Arguments := by run_tac putDef "" "_law_string" 1
def stgB : List Stmt := by run_tac putDef "" "_law_string" 2
def stgS : Scope := by run_tac putDef "" "_law_string" 6
def wrdA : Arguments := by run_tac putDef "" "_law_word" 1
def wrdB : List Stmt := by run_tac putDef "" "_law_word" 2
def wrdS : Scope := by run_tac putDef "" "_law_word" 6
def tokA : Arguments := by run_tac putDef "" "_law_token" 1
def tokB : List Stmt := by run_tac putDef "" "_law_token" 2
def tokS : Scope := by run_tac putDef "" "_law_token" 6

/-! ## names in hand -/
theorem lk_hit {x : Str} {p : PV} {ρ : List (Str × PV)} : List.lookup x ((x, p) :: ρ) = some p := by simp
theorem lk_miss {x y : Str} {p q : PV} {ρ : List (Str × PV)} (h : (x == y) = false) (h' : List.lookup x ρ = some p) : List.lookup x ((y, q) :: ρ) = some p := by
  rw [List.lookup_cons, h]; exact h'
open Lean Elab Tactic Meta in
/-- the text of a written name -/
def keyOf (e : Lean.Expr) : Option String :=
  let e := e.consumeMData
  if e.isAppOfArity ``PySem.Str.ofString 1 then (match e.appArg!.consumeMData with | .lit (.strVal s) => some s | _ => none) else none
open Lean Elab Tactic Meta in
def lkN : Nat → TacticM Unit
  | 0 => pure ()
  | n + 1 => do
    let t := (← instantiateMVars (← (← getMainGoal).getType)).consumeMData
    let miss : TacticM Unit := do
      evalTactic (← `(tactic| refine' lk_miss (by decide +kernel) ?_))
      setGoals (← (← getUnsolvedGoals).filterM fun g => do Meta.isProp (← g.getType))
      lkN n
    let plain : TacticM Unit := do
      let st ← saveState
      try evalTactic (← `(tactic| first | exact lk_hit | assumption))
      catch _ =>
        st.restore
        miss
    match t.eq? with
    | some (_, l, _) =>
      if l.isAppOfArity ``List.lookup 5 then
        let x := l.getAppArgs[3]!.consumeMData
        let r := l.getAppArgs[4]!.consumeMData
        if r.isFVar then evalTactic (← `(tactic| first | with_reducible assumption | assumption))
        else if r.isAppOfArity ``List.cons 3 then
          let kv := r.getAppArgs[1]!.consumeMData
          if kv.isAppOfArity ``Prod.mk 4 then
            match keyOf x, keyOf kv.getAppArgs[2]! with
            | some a, some b => if a == b then evalTactic (← `(tactic| exact lk_hit)) else miss
            | _, _ => plain
          else plain
        else plain
      else plain
    | none => plain
open Lean Elab Tactic Meta in
/-- a name's place in the list -/
def lk : TacticM Unit := lkN 12
end Mine
-- Rx0
namespace Mine
open PySem PySem.Sre

/-! ## the machine's run -/
theorem step_done {m : M} (h : m.outcome.isSome = true) : m.step = m := by
  unfold M.step; rw [if_pos h]
theorem runFor_done {m : M} (h : m.outcome.isSome = true) : ∀ n, M.runFor n m = m
  | 0 => rfl
  | n + 1 => by unfold M.runFor; rw [if_pos h]
theorem runFor_succ (n : Nat) (m : M) : M.runFor (n + 1) m = M.runFor n m.step := by
  by_cases h : m.outcome.isSome = true
  · rw [step_done h, runFor_done h, runFor_done h]
  · rw [M.runFor, if_neg h]
theorem runFor_add (a b : Nat) (m : M) : M.runFor (a + b) m = M.runFor b (M.runFor a m) := by
  induction a generalizing m with
  | zero => simp [M.runFor]
  | succ a ih => rw [show a + 1 + b = (a + b) + 1 by omega, runFor_succ, ih, runFor_succ]

/-- the step of a machine that has no answer yet -/
theorem step_none {m : M} (ho : m.outcome = none) (ha : m.answer = none) (hp : m.pc < m.code.size) : m.step = m.exec := by
  unfold M.step; rw [ho, ha]; simp [hp]
theorem step_yes {m : M} {b : Bool} {f : Sre.Frame} {fs : List Sre.Frame} (ho : m.outcome = none) (ha : m.answer = some b) (hf : m.frames = f :: fs) :
    m.step = M.resume { m with answer := none, frames := fs, weight := m.weight - (1 + f.kept.marks.size), pc := f.pc, pos := f.pos, outermost := f.outermost } f b := by
  unfold M.step; rw [ho, ha, hf]; simp

/-- no group's end lies before its start -/
def WS (ms : Array (Option Nat)) (l : Int) : Prop :=
  ∀ g b e : Nat, ((2 * g + 1 : Nat) : Int) ≤ l → ms.getD (2 * g) none = some b → ms.getD (2 * g + 1) none = some e → b ≤ e
def SI (ms : Array (Option Nat)) (l : Int) (pos : Nat) : Prop :=
  ∀ g b : Nat, ((2 * g : Nat) : Int) ≤ l → ms.getD (2 * g) none = some b → b ≤ pos
def Kp (ms ms' : Array (Option Nat)) (l : Int) : Prop := ∀ g : Nat, ((2 * g : Nat) : Int) ≤ l → ms'.getD (2 * g) none = ms.getD (2 * g) none

theorem WS.mono {ms l l'} (h : WS ms l') (hl : l ≤ l') : WS ms l := fun g b e q => h g b e (by omega)
theorem Kp.refl {ms l} : Kp ms ms l := fun _ _ => rfl
theorem Kp.trans {a b c l} (h : Kp a b l) (h' : Kp b c l) : Kp a c l := fun g q => (h' g q).trans (h g q)
theorem SI.of_kp {a b l pos} (h : SI a l pos) (k : Kp a b l) : SI b l pos := fun g x q e => h g x q (by rw [← k g q]; exact e)

/-- what is held of the marks: I all the while, R of them before and behind a run that fails, W at a success -/
structure ML where
  I : Int → Nat → Array (Option Nat) → Prop
  R : Int → Array (Option Nat) → Array (Option Nat) → Prop
  W : Int → Array (Option Nat) → Prop
  up : ∀ {l : Int} {pos pos' : Nat} {ms : Array (Option Nat)}, I l pos ms → pos ≤ pos' → I l pos' ms
  low : ∀ {l : Int} {pos pos' : Nat} {ms : Array (Option Nat)}, l < 0 → I l pos ms → I l pos' ms
  same : ∀ {l : Int} {pos : Nat} {ms : Array (Option Nat)}, I l pos ms → R l ms ms
  trans : ∀ {l : Int} {a b c : Array (Option Nat)}, R l a b → R l b c → R l a c
  keep : ∀ {l : Int} {pos : Nat} {a b : Array (Option Nat)}, I l pos a → R l a b → I l pos b
  pre : ∀ {l : Int} {pos : Nat} {a b : Array (Option Nat)}, I l pos a → (∀ j : Nat, (j : Int) ≤ l → b.getD j none = a.getD j none) → R l a b
  fin : ∀ {l : Int} {pos : Nat} {ms : Array (Option Nat)}, I l pos ms → W l ms

def mlA : ML where
  I := fun l pos ms => SI ms l pos ∧ WS ms l
  R := fun l a b => Kp a b l ∧ WS b l
  W := fun l ms => WS ms l
  up := fun h hp => ⟨fun g b a e => Nat.le_trans (h.1 g b a e) hp, h.2⟩
  low := fun hl h => ⟨fun g b a _ => by omega, h.2⟩
  same := fun h => ⟨Kp.refl, h.2⟩
  trans := fun h h' => ⟨h.1.trans h'.1, h'.2⟩
  keep := fun h r => ⟨h.1.of_kp r.1, r.2⟩
  pre := fun h e => ⟨fun g hg => e _ hg, fun g b x hg eb ee => h.2 g b x hg ((e _ (by omega)).symm.trans eb) ((e _ hg).symm.trans ee)⟩
  fin := fun h => h.2

structure Cx where
  C : Array Nat
  T : Array Nat
  p0 : Nat
  G : Nat
  ml : ML

structure Fix (X : Cx) (m : M) : Prop where
  code : m.code = X.C
  text : m.text = X.T
  lim : m.lim = X.T.size
  whole : m.wholeText = false
  must : m.mustAdvance = false
  start : m.start = X.p0
  out : m.outcome = none
  size : m.marks.size = X.G

structure Core (X : Cx) (lam : Array Loop) (iota : Option Nat) (l : Int) (pos : Nat) (m : M) : Prop where
  fix : Fix X m
  loops : m.loops = lam
  inner : m.inner = iota
  lm : m.lastmark = l
  iv : X.ml.I l pos m.marks

inductive Res where
  | no
  | yes (e : Nat)

/-- what a run comes to, seen from the state m it began in -/
def Came (X : Cx) (q k : Bool) (m m' : M) : Res → Prop
  | .no => m'.answer = some false ∧ m'.loops = m.loops ∧ m'.inner = m.inner ∧ (k = true → X.ml.R m.lastmark m.marks m'.marks) ∧ (q = true → m'.marks = m.marks)
  | .yes e => m'.answer = some true ∧ m'.handed = e ∧ X.ml.W m'.lastmark m'.marks ∧
      (q = true → m'.loops = m.loops ∧ m'.inner = m.inner ∧ m'.lastmark = m.lastmark ∧ m'.marks = m.marks)

def RunK (X : Cx) (lam : Array Loop) (iota : Option Nat) (l : Int) (q k : Bool) (K D pc pos : Nat) (r : Res) : Prop :=
  ∀ m, Core X lam iota l pos m → m.answer = none → m.pc = pc → m.pos = pos → m.weight + D ≤ 16777216 →
    ∃ n, n ≤ K ∧ ∃ m', M.runFor n m = m' ∧ m'.frames = m.frames ∧ m'.weight = m.weight ∧ Fix X m' ∧ Came X q k m m' r
abbrev Run (X : Cx) (lam : Array Loop) (iota : Option Nat) (l : Int) (q : Bool) (K D pc pos : Nat) (r : Res) : Prop := RunK X lam iota l q true K D pc pos r

variable {X : Cx} {lam : Array Loop} {iota : Option Nat} {l : Int} {q k : Bool} {K D pc pos : Nat} {r : Res}

theorem RunK.mono {K' D' : Nat} (h : RunK X lam iota l q k K D pc pos r) (hK : K ≤ K') (hD : D ≤ D') : RunK X lam iota l q k K' D' pc pos r := fun m hc ha hp hq hw => by
  obtain ⟨n, hn, m', h1, h2⟩ := h m hc ha hp hq (by omega)
  exact ⟨n, by omega, m', h1, h2⟩

theorem Run.mono {K' D' : Nat} (h : Run X lam iota l q K D pc pos r) (hK : K ≤ K') (hD : D ≤ D') : Run X lam iota l q K' D' pc pos r := RunK.mono h hK hD
/-- a run that tells of the marks
 whether asked or not -/
theorem RunK.any (h : Run X lam iota l q K D pc pos r) : RunK X lam iota l q k K D pc pos r := fun m hc ha hp hq hw => by
  obtain ⟨n, hn, m', h1, h2, h3, h4, h5⟩ := h m hc ha hp hq hw
  refine ⟨n, hn, m', h1, h2, h3, h4, ?_⟩
  cases r with
  | no => exact ⟨h5.1, h5.2.1, h5.2.2.1, fun _ => h5.2.2.2.1 rfl, h5.2.2.2.2⟩
  | yes e => exact h5

/-- one step ahead that keeps the frames -/
theorem run_step {l' : Int} {lam' : Array Loop} {iota' : Option Nat} {pc' pos' : Nat} (hpc : pc < X.C.size)
    (h : RunK X lam' iota' l' q k K D pc' pos' r)
    (hs : ∀ m, Core X lam iota l pos m → m.answer = none → m.pc = pc → m.pos = pos →
      Core X lam' iota' l' pos' m.exec ∧ m.exec.answer = none ∧ m.exec.pc = pc' ∧ m.exec.pos = pos' ∧ m.exec.weight = m.weight ∧ m.exec.frames = m.frames ∧
        ∀ m', Came X q k m.exec m' r → Came X q k m m' r) :
    RunK X lam iota l q k (K + 1) D pc pos r := fun m hc ha hp hq hw => by
  have e : m.step = m.exec := step_none hc.fix.out ha (by rw [hp, hc.fix.code]; exact hpc)
  obtain ⟨c1, c2, c3, c4, c5, c6, c7⟩ := hs m hc ha hp hq
  obtain ⟨n, hn, m', h1, h2, h3, h4, h5⟩ := h m.exec c1 c2 c3 c4 (by rw [c5]; exact hw)
  exact ⟨n + 1, by omega, m', by rw [runFor_succ, e]; exact h1, h2.trans c6, h3.trans c5, h4, c7 m' h5⟩

/-- one step that answers -/
theorem run_say (hpc : pc < X.C.size)
    (hs : ∀ m, Core X lam iota l pos m → m.answer = none → m.pc = pc → m.pos = pos →
      m.exec.weight = m.weight ∧ m.exec.frames = m.frames ∧ Fix X m.exec ∧ Came X q k m m.exec r) :
    RunK X lam iota l q k 1 0 pc pos r := fun m hc ha hp hq hw => by
  have e : m.step = m.exec := step_none hc.fix.out ha (by rw [hp, hc.fix.code]; exact hpc)
  obtain ⟨c5, c6, c7, c8⟩ := hs m hc ha hp hq
  exact ⟨1, Nat.le_refl _, m.exec, by rw [runFor_succ, e]; rfl, c6, c5, c7, c8⟩

end Mine
-- Rx1
namespace Mine
open PySem PySem.Sre
variable {X : Cx} {lam : Array Loop} {iota : Option Nat} {l : Int} {q k : Bool} {K D pc pos : Nat} {r : Res}

theorem Fix.same {m m' : M} (f : Fix X m) (h1 : m'.code = m.code := by rfl) (h2 : m'.text = m.text := by rfl) (h3 : m'.lim = m.lim := by rfl) (h4 : m'.wholeText = m.wholeText := by rfl)
    (h5 : m'.mustAdvance = m.mustAdvance := by rfl) (h6 : m'.start = m.start := by rfl) (h7 : m'.outcome = m.outcome := by rfl) (h8 : m'.marks.size = m.marks.size := by rfl) : Fix X m' :=
  ⟨h1.trans f.code, h2.trans f.text, h3.trans f.lim, h4.trans f.whole, h5.trans f.must, h6.trans f.start, h7.trans f.out, h8.trans f.size⟩
theorem Core.same {m m' : M} (f : Core X lam iota l pos m) (h1 : m'.code = m.code := by rfl) (h2 : m'.text = m.text := by rfl) (h3 : m'.lim = m.lim := by rfl) (h4 : m'.wholeText = m.wholeText := by rfl)
    (h5 : m'.mustAdvance = m.mustAdvance := by rfl) (h6 : m'.start = m.start := by rfl) (h7 : m'.outcome = m.outcome := by rfl) (h8 : m'.marks = m.marks := by rfl)
    (h9 : m'.loops = m.loops := by rfl) (h10 : m'.inner = m.inner := by rfl) (h11 : m'.lastmark = m.lastmark := by rfl) : Core X lam iota l pos m' :=
  ⟨f.fix.same h1 h2 h3 h4 h5 h6 h7 (by rw [h8]), h9.trans f.loops, h10.trans f.inner, h11.trans f.lm, by rw [h8]; exact f.iv⟩
def isCh : Op → Bool
  | .ANY | .ANY_ALL | .LITERAL | .NOT_LITERAL | .IN | .LITERAL_IGNORE | .NOT_LITERAL_IGNORE | .IN_IGNORE | .LITERAL_UNI_IGNORE | .NOT_LITERAL_UNI_IGNORE
  | .IN_UNI_IGNORE => true
  | _ => false

theorem exec_ch {m : M} {op : Op} (h : ops[m.word 0]? = some op) (hc : isCh op = true) :
    m.exec = (if m.pos ≥ m.lim then M.say { m with seen := m.seen.add (m.word 0) } false else
      match accepts m.code m.pc (m.text.getD m.pos 0) (m.seen.add (m.word 0)) with
      | .error why => M.stick { m with seen := m.seen.add (m.word 0) } why
      | .ok (false, seen) => M.say { m with seen } false
      | .ok (true, seen) => { m with seen, pc := m.pc + itemWidth m.code m.pc, pos := m.pos + 1 }) := by
  unfold M.exec
  rw [h]
  cases op <;> simp [isCh] at hc <;> rfl

/-- the one-sign test at i tells b of the sign c -/
def Acc (C : Array Nat) (i c : Nat) (b : Bool) : Prop := ∀ seen, ∃ seen', accepts C i c seen = .ok (b, seen')

theorem word_eq {m : M} (hc : m.code = X.C) (hp : m.pc = pc) (k : Nat) : m.word k = X.C.getD (pc + k) 0 := by
  unfold M.word; rw [hc, hp]

theorem Core.up {m : M} {pos' : Nat} (h : Core X lam iota l pos m) (hp : pos ≤ pos') : Core X lam iota l pos' m := ⟨h.fix, h.loops, h.inner, h.lm, X.ml.up h.iv hp⟩

theorem came_say {m : M} (h : Core X lam iota l pos m) (s : Seen) : Came X q k m (M.say { m with seen := s } false) .no :=
  ⟨rfl, rfl, rfl, fun _ => by rw [h.lm]; exact X.ml.same h.iv, fun _ => rfl⟩

theorem run_ch_no {op : Op} (h0 : ops[X.C.getD pc 0]? = some op) (hop : isCh op = true) (hpc : pc < X.C.size)
    (hn : X.T.size ≤ pos ∨ Acc X.C pc (X.T.getD pos 0) false) : RunK X lam iota l q k 1 0 pc pos .no := by
  refine run_say hpc fun m hc ha hp hq => ?_
  have hw : m.word 0 = X.C.getD pc 0 := word_eq hc.fix.code hp 0
  rw [exec_ch (by rw [hw]; exact h0) hop]
  by_cases hl : m.pos ≥ m.lim
  · rw [if_pos hl]
    exact ⟨rfl, rfl, hc.fix.same, came_say hc _⟩
  · rw [if_neg hl]
    rcases hn with hn | hn
    · exact absurd (by rw [hq, hc.fix.lim]; exact hn) hl
    · obtain ⟨s', e⟩ := hn (m.seen.add (m.word 0))
      have ex : accepts m.code m.pc (m.text.getD m.pos 0) (m.seen.add (m.word 0)) = .ok (false, s') := by rw [hc.fix.code, hp, hc.fix.text, hq, e]
      rw [ex]
      exact ⟨rfl, rfl, hc.fix.same, came_say hc _⟩

theorem run_ch_yes {op : Op} {w : Nat} (h0 : ops[X.C.getD pc 0]? = some op) (hop : isCh op = true) (hpc : pc < X.C.size)
    (hl : pos < X.T.size) (hy : Acc X.C pc (X.T.getD pos 0) true) (hw : itemWidth X.C pc = w)
    (h : RunK X lam iota l q k K D (pc + w) (pos + 1) r) : RunK X lam iota l q k (K + 1) D pc pos r := by
  refine run_step hpc h fun m hc ha hp hq => ?_
  have hw0 : m.word 0 = X.C.getD pc 0 := word_eq hc.fix.code hp 0
  obtain ⟨s', e⟩ := hy (m.seen.add (m.word 0))
  have ex : m.exec = { m with seen := s', pc := pc + w, pos := pos + 1 } := by
    have e2 : accepts m.code m.pc (m.text.getD m.pos 0) (m.seen.add (m.word 0)) = .ok (true, s') := by rw [hc.fix.code, hp, hc.fix.text, hq, e]
    rw [exec_ch (by rw [hw0]; exact h0) hop, if_neg (by rw [hq, hc.fix.lim]; omega), e2]
    show ({ m with seen := s', pc := m.pc + itemWidth m.code m.pc, pos := m.pos + 1 } : M) = _
    rw [hc.fix.code, hp, hw, hq]
  rw [ex]
  refine ⟨(hc.up (Nat.le_succ _)).same, ha, rfl, rfl, rfl, rfl, fun m' h => ?_⟩
  cases r <;> exact h

theorem run_success (h0 : X.C.getD pc 0 = 1) (hpc : pc < X.C.size) : RunK X lam iota l q k 1 0 pc pos (.yes pos) := by
  refine run_say hpc fun m hc ha hp hq => ?_
  have hw0 : m.word 0 = 1 := (word_eq hc.fix.code hp 0).trans h0
  have ex : m.exec = M.say { m with seen := m.seen.add (m.word 0), handed := m.pos } true := by
    unfold M.exec
    rw [hw0]
    simp [ops, hc.fix.whole, hc.fix.must]
  rw [ex]
  exact ⟨rfl, rfl, hc.fix.same, rfl, hq, by show X.ml.W m.lastmark m.marks; rw [hc.lm]; exact X.ml.fin hc.iv, fun _ => ⟨rfl, rfl, rfl, rfl⟩⟩

/-- JUMP and INFO -/
theorem run_jump {pc' : Nat} (h0 : X.C.getD pc 0 = 15 ∨ X.C.getD pc 0 = 14) (h1 : pc + 1 + X.C.getD (pc + 1) 0 = pc') (hpc : pc < X.C.size)
    (h : RunK X lam iota l q k K D pc' pos r) : RunK X lam iota l q k (K + 1) D pc pos r := by
  refine run_step hpc h fun m hc ha hp hq => ?_
  have hw0 : m.word 0 = X.C.getD pc 0 := word_eq hc.fix.code hp 0
  have hw1 : m.word 1 = X.C.getD (pc + 1) 0 := word_eq hc.fix.code hp 1
  have ex : m.exec = { m with seen := m.seen.add (m.word 0), pc := pc' } := by
    unfold M.exec
    rcases h0 with h0 | h0 <;>
    · rw [h0] at hw0
      rw [hw0]
      simp only [ops, List.getElem?_toArray, List.getElem?_cons_succ, List.getElem?_cons_zero]
      show ({ m with seen := _, pc := m.pc + 1 + m.word 1 } : M) = _
      rw [hw1, hp, h1]
  rw [ex]
  refine ⟨hc.same, ha, rfl, hq, rfl, rfl, fun m' h => ?_⟩
  cases r <;> exact h
end Mine
-- Rx2
namespace Mine
open PySem PySem.Sre
variable {X : Cx} {lam : Array Loop} {iota : Option Nat} {l : Int} {q k : Bool} {K D pc pos : Nat} {r : Res}

theorem getD_set {ms : Array (Option Nat)} {i j : Nat} {v : Option Nat} : (ms.setIfInBounds i v).getD j none = if i = j ∧ j < ms.size then v else ms.getD j none := by
  simp only [Array.getD_eq_getD_getElem?, Array.getElem?_setIfInBounds]
  by_cases h : i = j
  · subst h
    by_cases h2 : i < ms.size
    · simp [h2]
    · simp [h2]
  · simp [h]

/-- what the machine clears ahead of a mark -/
def clr (ms : Array (Option Nat)) (l : Int) (n : Nat) : Array (Option Nat) :=
  (List.range n).foldl (fun (a : Array (Option Nat)) (j : Nat) => if (j : Int) > l then a.setIfInBounds j none else a) ms
theorem clr_succ (ms : Array (Option Nat)) (l : Int) (n : Nat) : clr ms l (n + 1) = if (n : Int) > l then (clr ms l n).setIfInBounds n none else clr ms l n := by
  unfold clr
  rw [List.range_succ, List.foldl_append]; rfl
theorem clr_size (ms : Array (Option Nat)) (l : Int) (n : Nat) : (clr ms l n).size = ms.size := by
  induction n with
  | zero => rfl
  | succ n ih => rw [clr_succ]; split <;> simp [ih]
theorem clr_getD (ms : Array (Option Nat)) (l : Int) (n j : Nat) : (clr ms l n).getD j none = if (j : Int) > l ∧ j < n then none else ms.getD j none := by
  induction n with
  | zero => simp [clr]
  | succ n ih =>
    rw [clr_succ]
    by_cases h : (n : Int) > l
    · rw [if_pos h, getD_set, ih, clr_size]
      by_cases e : n = j
      · subst e
        by_cases hs : n < ms.size
        · simp [hs, h]
        · have : ms.getD n none = none := by simp [Array.getD_eq_getD_getElem?, Array.getElem?_eq_none (Nat.le_of_not_lt hs)]
          simp [hs, h, this]
      · have : (j < n + 1) = (j < n) := by apply propext; omega
        simp [e, this]
    · rw [if_neg h, ih]
      by_cases e : (j : Int) > l ∧ j < n + 1
      · have : (j : Int) > l ∧ j < n := ⟨e.1, by omega⟩
        rw [if_pos e, if_pos this]
      · rw [if_neg e, if_neg (fun q => e ⟨q.1, by omega⟩)]

def mkd (ms : Array (Option Nat)) (l : Int) (i pos : Nat) : Array (Option Nat) := (if (i : Int) ≤ l + 1 then ms else clr ms l i).setIfInBounds i (some pos)
theorem mkd_size (ms : Array (Option Nat)) (l : Int) (i pos : Nat) : (mkd ms l i pos).size = ms.size := by
  unfold mkd; split <;> simp [clr_size]
theorem mkd_getD (ms : Array (Option Nat)) (l : Int) (i pos j : Nat) (hi : i < ms.size) : (mkd ms l i pos).getD j none = if i = j then some pos else if (j : Int) > l ∧ j < i then none else ms.getD j none := by
  unfold mkd
  rw [getD_set]
  have hsz : (if (i : Int) ≤ l + 1 then ms else clr ms l i).size = ms.size := by split <;> simp [clr_size]
  rw [hsz]
  by_cases e : i = j
  · subst e; simp [hi]
  · simp only [e, false_and, if_false]
    split
    · rename_i h
      rw [if_neg (by omega)]
    · rw [clr_getD]

/-- MARK i -/
theorem run_markG {i : Nat} {l' : Int} (h0 : X.C.getD pc 0 = 17) (h1 : X.C.getD (pc + 1) 0 = i) (hi : i < X.G) (hl' : max l i = l') (hpc : pc < X.C.size)
    (hI : ∀ ms, ms.size = X.G → X.ml.I l pos ms → X.ml.I l' pos (mkd ms l i pos)) (hR : k = true → ∀ ms b, ms.size = X.G → X.ml.I l pos ms → X.ml.R l' (mkd ms l i pos) b → X.ml.R l ms b)
    (h : RunK X lam iota l' false k K D (pc + 2) pos r) : RunK X lam iota l false k (K + 1) D pc pos r := by
  refine run_step hpc h fun m hc ha hp hq => ?_
  have hw0 : m.word 0 = 17 := (word_eq hc.fix.code hp 0).trans h0
  have hw1 : m.word 1 = i := (word_eq hc.fix.code hp 1).trans h1
  have hsz : i < m.marks.size := by rw [hc.fix.size]; exact hi
  have e1 : m.exec.marks = mkd m.marks l i pos := by
    unfold M.exec
    rw [hw0]
    simp only [ops, List.getElem?_toArray, List.getElem?_cons_succ, List.getElem?_cons_zero]
    show (if (m.word 1 : Int) ≤ m.lastmark + 1 then m.marks else clr m.marks m.lastmark (m.word 1)).setIfInBounds (m.word 1) (some m.pos) = _
    rw [hw1, hc.lm, hq]; rfl
  have e2 : m.exec.lastmark = l' := by
    unfold M.exec
    rw [hw0]
    simp only [ops, List.getElem?_toArray, List.getElem?_cons_succ, List.getElem?_cons_zero]
    show max m.lastmark (m.word 1 : Int) = l'
    rw [hw1, hc.lm]; exact hl'
  have e3 : m.exec.pc = pc + 2 := by
    unfold M.exec
    rw [hw0]
    simp only [ops, List.getElem?_toArray, List.getElem?_cons_succ, List.getElem?_cons_zero]
    show m.pc + 2 = _
    rw [hp]
  have e4 : m.exec.code = m.code ∧ m.exec.text = m.text ∧ m.exec.lim = m.lim ∧ m.exec.wholeText = m.wholeText ∧ m.exec.mustAdvance = m.mustAdvance ∧ m.exec.start = m.start ∧ m.exec.outcome = m.outcome ∧ m.exec.loops = m.loops ∧
      m.exec.inner = m.inner ∧ m.exec.answer = m.answer ∧ m.exec.pos = m.pos ∧ m.exec.weight = m.weight ∧ m.exec.frames = m.frames := by
    unfold M.exec
    rw [hw0]
    simp only [ops, List.getElem?_toArray, List.getElem?_cons_succ, List.getElem?_cons_zero]
    exact ⟨rfl, rfl, rfl, rfl, rfl, rfl, rfl, rfl, rfl, rfl, rfl, rfl, rfl⟩
  obtain ⟨a1, a2, a3, a4, a5, a6, a7, a8, a9, a10, a11, a12, a13⟩ := e4
  refine ⟨⟨hc.fix.same a1 a2 a3 a4 a5 a6 a7 (by rw [e1, mkd_size]), a8.trans hc.loops, a9.trans hc.inner, e2, by rw [e1]; exact hI _ hc.fix.size hc.iv⟩, a10.trans ha, e3, a11.trans hq, a12, a13, fun m' h => ?_⟩
  cases r with
  | no =>
    obtain ⟨z1, z2, z3, z4, _⟩ := h
    exact ⟨z1, z2.trans a8, z3.trans a9, fun hk => by rw [hc.lm]; exact hR hk _ _ hc.fix.size hc.iv (by have := z4 hk; rw [e1, e2] at this; exact this), fun h => nomatch h⟩
  | yes e => obtain ⟨z1, z2, z3, z4⟩ := h; exact ⟨z1, z2, z3, fun h => nomatch h⟩

theorem mark_I {ms : Array (Option Nat)} {i : Nat} {l l' : Int} {pos : Nat} (hi : i < ms.size) (hl : i % 2 = 0 → l < i) (hl' : max l i = l') (h : mlA.I l pos ms) : mlA.I l' pos (mkd ms l i pos) := by
  refine ⟨fun g b hg e => ?_, fun g b e hg eb ee => ?_⟩
  · rw [mkd_getD _ _ _ _ _ hi] at e
    split at e
    · cases e; exact Nat.le_refl _
    · split at e
      · cases e
      · refine h.1 g b ?_ e
        rename_i n1 n2
        by_cases q : ((2 * g : Nat) : Int) ≤ l
        · exact q
        · exfalso; apply n2; constructor <;> omega
  · rw [mkd_getD _ _ _ _ _ hi] at eb ee
    by_cases c1 : i = 2 * g + 1
    · rw [if_pos c1] at ee
      cases ee
      rw [if_neg (by omega)] at eb
      split at eb
      · cases eb
      · refine h.1 g b ?_ eb
        rename_i n2
        by_cases q : ((2 * g : Nat) : Int) ≤ l
        · exact q
        · exfalso; apply n2; constructor <;> omega
    · rw [if_neg c1] at ee
      by_cases c2 : i = 2 * g
      · exfalso
        have := hl (by omega)
        omega
      · rw [if_neg c2] at eb
        split at ee
        · cases ee
        · split at eb
          · cases eb
          · rename_i n1 n2
            refine h.2 g b e ?_ eb ee
            by_cases q : ((2 * g + 1 : Nat) : Int) ≤ l
            · exact q
            · exfalso; apply n1; constructor <;> omega
theorem mark_R {ms b : Array (Option Nat)} {i : Nat} {l l' : Int} {pos : Nat} (hi : i < ms.size) (hl : i % 2 = 0 → l < i) (hl' : max l i = l') (h : mlA.R l' (mkd ms l i pos) b) : mlA.R l ms b := by
  refine ⟨fun g hg => ?_, h.2.mono (by omega)⟩
  rw [h.1 g (by omega), mkd_getD _ _ _ _ _ hi]
  by_cases c2 : i = 2 * g
  · exfalso; have := hl (by omega); omega
  · rw [if_neg c2, if_neg (by omega)]
/-- MARK i, where the start of a group is new -/
theorem run_mark {i : Nat} {l' : Int} (h0 : X.C.getD pc 0 = 17) (h1 : X.C.getD (pc + 1) 0 = i) (hi : i < X.G) (hl : i % 2 = 0 → l < i) (hl' : max l i = l') (hpc : pc < X.C.size)
    (h : RunK X lam iota l' false k K D (pc + 2) pos r) (hml : X.ml = mlA := by rfl) : RunK X lam iota l false k (K + 1) D pc pos r :=
  run_markG h0 h1 hi hl' hpc (fun ms hs hI => by rw [hml] at hI ⊢; exact mark_I (by rw [hs]; exact hi) hl hl' hI) (fun _ ms b hs _ hR => by rw [hml] at hR ⊢; exact mark_R (by rw [hs]; exact hi) hl hl' hR) h

/-- AT k -/
theorem run_at {kk : Nat} {b : Bool} (h0 : X.C.getD pc 0 = 6) (h1 : X.C.getD (pc + 1) 0 = kk) (hpc : pc < X.C.size)
    (hb : ∀ m : M, m.text = X.T → m.lim = X.T.size → m.pos = pos → m.isAt kk = .ok b) (h : b = true → RunK X lam iota l q k K D (pc + 2) pos r) (hn : b = false → r = .no) :
    RunK X lam iota l q k (K + 1) D pc pos r := by
  have ex : ∀ m, Core X lam iota l pos m → m.pc = pc → m.pos = pos → m.exec = (if b then { m with seen := (m.seen.add (m.word 0)).add (43 + m.word 1), pc := m.pc + 2 } else M.say { m with seen := (m.seen.add (m.word 0)).add (43 + m.word 1) } false) := by
    intro m hc hp hq
    have hw0 : m.word 0 = 6 := (word_eq hc.fix.code hp 0).trans h0
    have hw1 : m.word 1 = kk := (word_eq hc.fix.code hp 1).trans h1
    have hb' := hb { m with seen := m.seen.add (m.word 0) } hc.fix.text hc.fix.lim hq
    rw [← hw1] at hb'
    unfold M.exec
    rw [hw0] at hb' ⊢
    simp only [ops, List.getElem?_toArray, List.getElem?_cons_succ, List.getElem?_cons_zero]
    show (match M.isAt { m with seen := m.seen.add 6 } (m.word 1) with | .error why => _ | .ok yes => _) = _
    rw [hb']; rfl
  cases b with
  | true =>
    refine run_step hpc (h rfl) fun m hc ha hp hq => ?_
    rw [ex m hc hp hq, if_pos rfl]
    refine ⟨hc.same, ha, by rw [hp], hq, rfl, rfl, fun m' h => ?_⟩
    cases r <;> exact h
  | false =>
    rw [hn rfl]
    refine RunK.mono (run_say hpc fun m hc ha hp hq => ?_) (by omega : 1 ≤ K + 1) (Nat.zero_le D)
    rw [ex m hc hp hq, if_neg Bool.false_ne_true]
    exact ⟨rfl, rfl, hc.fix.same, came_say hc _⟩
end Mine
-- Rx3
namespace Mine
open PySem PySem.Sre
variable {X : Cx} {lam : Array Loop} {iota : Option Nat} {l : Int} {q k : Bool} {K D pc pos : Nat} {r : Res}

def Res.b : Res → Bool
  | .no => false
  | .yes _ => true

def pop (m2 : M) (f : Sre.Frame) (fs : List Sre.Frame) : M :=
  { m2 with answer := none, frames := fs, weight := m2.weight - (1 + f.kept.marks.size), pc := f.pc, pos := f.pos, outermost := f.outermost }

/-- a try: the run at the target, then the frame is taken up again -/
theorem attempt_run {m : M} {f : Sre.Frame} {target frm : Nat} {out : Bool} {rs : Res} (hc : Core X lam iota l frm m) (ha : m.answer = none)
    (hw : m.weight + (1 + f.kept.marks.size) + D ≤ 16777216) (h : RunK X lam iota l q k K D target frm rs) :
    ∃ n, n ≤ K + 1 ∧ ∃ m2, M.runFor n (m.attempt f target frm out) = M.resume (pop m2 f m.frames) f rs.b ∧ (pop m2 f m.frames).weight = m.weight ∧ Fix X m2 ∧ Came X q k m m2 rs := by
  have e : m.attempt f target frm out = { m with frames := f :: m.frames, weight := m.weight + 1 + f.kept.marks.size, pc := target, pos := frm, handed := frm, outermost := out } := by
    unfold M.attempt; rw [if_neg (by omega)]
  rw [e]
  obtain ⟨n, hn, m2, h1, h2, h3, h4, h5⟩ := h { m with frames := f :: m.frames, weight := m.weight + 1 + f.kept.marks.size, pc := target, pos := frm, handed := frm, outermost := out } hc.same ha rfl rfl (by show m.weight + 1 + f.kept.marks.size + D ≤ _; omega)
  have hans : m2.answer = some rs.b := by cases rs <;> exact h5.1
  refine ⟨n + 1, by omega, m2, ?_, ?_, h4, ?_⟩
  · rw [runFor_add, h1, runFor_succ, step_yes h4.out hans h2]; rfl
  · show m2.weight - _ = _
    rw [h3]; show m.weight + 1 + f.kept.marks.size - _ = _; omega
  · cases rs <;> exact h5

structure KeptOf (kept : Sre.Kept) (m0 : M) : Prop where
  lm : kept.lastmark = m0.lastmark
  part : kept.whole = false → kept.marks = #[]
  all : kept.whole = true → kept.marks = m0.marks.extract 0 (m0.lastmark + 1).toNat
theorem KeptOf.keep (m0 : M) (w : Bool) : KeptOf (m0.keep w) m0 := by
  refine ⟨rfl, fun h => ?_, fun h => ?_⟩ <;> simp only [M.keep] at h ⊢ <;> simp [h]
theorem KeptOf.size {kept : Sre.Kept} {m0 : M} (h : KeptOf kept m0) : kept.marks.size ≤ m0.marks.size := by
  cases hw : kept.whole with
  | false => rw [h.part hw]; exact Nat.zero_le _
  | true => rw [h.all hw]; simp only [Array.size_extract]; omega

theorem getD_back {a b : Array (Option Nat)} {n j : Nat} (hs : a.size = b.size) :
    ((a.extract 0 n) ++ b.extract (a.extract 0 n).size b.size).getD j none = if j < n then a.getD j none else b.getD j none := by
  simp only [Array.getD_eq_getD_getElem?, Array.getElem?_append, Array.size_extract, Array.getElem?_extract]
  by_cases h1 : j < n
  · by_cases h2 : j < a.size
    · have : j < min n a.size - 0 := by omega
      rw [if_pos this, if_pos this, if_pos h1, Nat.zero_add]
    · have : ¬ j < min n a.size - 0 := by omega
      simp only [this, if_false, h1, if_true]
      have h3 : a[j]? = none := Array.getElem?_eq_none (Nat.le_of_not_lt h2)
      rw [h3, if_neg (by omega)]
  · have : ¬ j < min n a.size - 0 := by omega
    simp only [this, if_false, h1]
    by_cases h2 : j < b.size
    · rw [if_pos (by omega)]
      congr 2
      omega
    · rw [if_neg (by omega), Array.getElem?_eq_none (Nat.le_of_not_lt h2)]

theorem back_ok {m0 m2 : M} {kept : Sre.Kept} {pos' : Nat} (hk : KeptOf kept m0) (hI : X.ml.I m0.lastmark pos' m0.marks) (h : kept.whole = false → X.ml.R m0.lastmark m0.marks m2.marks) (hs : m2.marks.size = m0.marks.size) :
    (m2.putBack kept).marks.size = m0.marks.size ∧ X.ml.R m0.lastmark m0.marks (m2.putBack kept).marks ∧ (m2.putBack kept).lastmark = m0.lastmark := by
  cases hwh : kept.whole with
  | false =>
    have e : (m2.putBack kept).marks = m2.marks := by simp [M.putBack, hwh]
    rw [e]
    exact ⟨hs, h hwh, hk.lm⟩
  | true =>
    have e : (m2.putBack kept).marks = m0.marks.extract 0 (m0.lastmark + 1).toNat ++ m2.marks.extract (m0.marks.extract 0 (m0.lastmark + 1).toNat).size m2.marks.size := by
      simp only [M.putBack, hwh, if_true]; rw [hk.all hwh]
    have g : ∀ j : Nat, (j : Int) ≤ m0.lastmark → (m2.putBack kept).marks.getD j none = m0.marks.getD j none := fun j hj => by
      rw [e, getD_back hs.symm, if_pos (by omega)]
    refine ⟨?_, X.ml.pre hI g, hk.lm⟩
    rw [e]; simp only [Array.size_append, Array.size_extract, hs]; omega

/-- the state in which a choice was met, as it is still told when its ways are tried again -/
structure Chose (X : Cx) (lam : Array Loop) (iota : Option Nat) (l : Int) (q : Bool) (pos : Nat) (kd : Sre.Kept) (m0 m : M) : Prop where
  core : Core X lam iota l pos m
  c0 : Core X lam iota l pos m0
  kept : KeptOf kd m0
  wh : kd.whole = iota.isSome
  kp : X.ml.R l m0.marks m.marks
  qt : q = true → m.marks = m0.marks

theorem back_same {m0 m2 : M} {kept : Sre.Kept} (hk : KeptOf kept m0) (h : m2.marks = m0.marks) : (m2.putBack kept).marks = m0.marks := by
  cases hwh : kept.whole with
  | false => simp [M.putBack, hwh, h]
  | true =>
    have e : (m2.putBack kept).marks = m0.marks.extract 0 (m0.lastmark + 1).toNat ++ m2.marks.extract (m0.marks.extract 0 (m0.lastmark + 1).toNat).size m2.marks.size := by
      simp only [M.putBack, hwh, if_true]; rw [hk.all hwh]
    rw [e, h]
    apply Array.ext_getElem?
    intro i
    simp only [Array.getElem?_append, Array.size_extract, Array.getElem?_extract]
    by_cases h1 : i < min (m0.lastmark + 1).toNat m0.marks.size - 0
    · rw [if_pos h1, if_pos h1, Nat.zero_add]
    · rw [if_neg h1]
      by_cases h2 : i < m0.marks.size
      · rw [if_pos (by omega)]
        congr 1; omega
      · rw [if_neg (by omega), Array.getElem?_eq_none (Nat.le_of_not_lt h2)]

theorem Chose.again {kept : Sre.Kept} {m0 m m2 : M} {f : Sre.Frame} {fs : List Sre.Frame} {pos' : Nat} (h : Chose X lam iota l q pos' kept m0 m) (hfx : Fix X m2) (hcm : Came X q k m m2 .no) (hk : iota = none → k = true) :
    Chose X lam iota l q pos' kept m0 ((pop m2 f fs).putBack kept) := by
  obtain ⟨z1, z2, z3, z4, z6⟩ := hcm
  rw [h.core.lm] at z4
  have hl0 := h.c0.lm
  obtain ⟨b1, b2, b4⟩ := back_ok (X := X) (m2 := pop m2 f fs) (pos' := pos') h.kept (by rw [hl0]; exact h.c0.iv) (fun hw => by rw [hl0]; exact X.ml.trans h.kp (z4 (hk (by
    have q := h.wh
    rw [hw] at q
    cases iota with
    | none => rfl
    | some _ => cases q)))) (hfx.size.trans h.c0.fix.size.symm)
  rw [hl0] at b2
  exact ⟨⟨⟨hfx.code, hfx.text, hfx.lim, hfx.whole, hfx.must, hfx.start, hfx.out, b1.trans h.c0.fix.size⟩, z2.trans h.core.loops, z3.trans h.core.inner, b4.trans hl0, X.ml.keep h.c0.iv b2⟩, h.c0, h.kept, h.wh, b2, fun hq => back_same (m2 := pop m2 f fs) h.kept ((z6 hq).trans (h.qt hq))⟩

/-- what came, seen from the choice -/
def CameC (X : Cx) (l : Int) (lam : Array Loop) (iota : Option Nat) (q : Bool) (m0 m' : M) : Res → Prop
  | .no => m'.answer = some false ∧ m'.loops = lam ∧ m'.inner = iota ∧ X.ml.R l m0.marks m'.marks ∧ (q = true → m'.marks = m0.marks)
  | .yes e => m'.answer = some true ∧ m'.handed = e ∧ X.ml.W m'.lastmark m'.marks ∧ (q = true → m'.loops = lam ∧ m'.inner = iota ∧ m'.lastmark = l ∧ m'.marks = m0.marks)
theorem CameC.came {m m' : M} (hc : Core X lam iota l pos m) (h : CameC X l lam iota q m m' r) : Came X q k m m' r := by
  cases r with
  | no => obtain ⟨z1, z2, z3, z4, z6⟩ := h; exact ⟨z1, z2.trans hc.loops.symm, z3.trans hc.inner.symm, fun _ => by rw [hc.lm]; exact z4, z6⟩
  | yes e => exact ⟨h.1, h.2.1, h.2.2.1, fun hq => ⟨(h.2.2.2 hq).1.trans hc.loops.symm, (h.2.2.2 hq).2.1.trans hc.inner.symm, (h.2.2.2 hq).2.2.1.trans hc.lm.symm, (h.2.2.2 hq).2.2.2⟩⟩
/-- a try that came, seen from the choice -/
theorem Chose.yes {kept : Sre.Kept} {m0 m m2 : M} {e : Nat} {pos' : Nat} (h : Chose X lam iota l q pos' kept m0 m) (hcm : Came X q k m m2 (.yes e)) (m' : M) (h1 : m'.answer = some true := by rfl) (h2 : m'.handed = m2.handed := by rfl) (h3 : m'.marks = m2.marks := by rfl) (h4 : m'.lastmark = m2.lastmark := by rfl)
    (h5 : m'.loops = m2.loops := by rfl) (h6 : m'.inner = m2.inner := by rfl) : CameC X l lam iota q m0 m' (.yes e) :=
  ⟨h1, h2.trans hcm.2.1, (by rw [h3, h4]; exact hcm.2.2.1 : X.ml.W m'.lastmark m'.marks), fun hq => by
    obtain ⟨a, b, c, d⟩ := hcm.2.2.2 hq
    exact ⟨h5.trans (a.trans h.core.loops), h6.trans (b.trans h.core.inner), h4.trans (c.trans h.core.lm), h3.trans (d.trans (h.qt hq))⟩⟩

/-! ## BRANCH -/
def Alt (X : Cx) (lam : Array Loop) (iota : Option Nat) (l : Int) (q : Bool) (K D alt pos : Nat) (r : Res) : Prop :=
  ∀ m m0 kept, Chose X lam iota l q pos kept m0 m → m.answer = none → m.pos = pos → m.weight + D ≤ 16777216 →
    ∃ n, n ≤ K ∧ ∃ m', M.runFor n (m.alternative alt kept) = m' ∧ m'.frames = m.frames ∧ m'.weight = m.weight ∧ Fix X m' ∧ CameC X l lam iota q m0 m' r

theorem alt_end {alt : Nat} (h0 : X.C.getD alt 0 = 0) : Alt X lam iota l q 0 0 alt pos .no := fun m m0 kept hc ha hp hw => by
  refine ⟨0, Nat.le_refl _, _, rfl, ?_⟩
  have e : m.alternative alt kept = m.say false := by unfold M.alternative; rw [hc.core.fix.code, h0]; rfl
  rw [e]
  exact ⟨rfl, rfl, hc.core.fix.same, rfl, hc.core.loops, hc.core.inner, hc.kp, hc.qt⟩

theorem alt_go {m : M} {alt : Nat} {kept : Sre.Kept} (hcode : m.code = X.C) (h0 : X.C.getD alt 0 ≠ 0) : m.alternative alt kept = m.attempt { m.frame .nextBranch with pc := alt, kept } (alt + 1) m.pos m.outermost := by
  unfold M.alternative; rw [hcode, if_neg (by simpa using h0)]

theorem alt_yes {alt e : Nat} (h0 : X.C.getD alt 0 ≠ 0) (h : RunK X lam iota l q k K D (alt + 1) pos (.yes e)) : Alt X lam iota l q (K + 1) (D + X.G + 1) alt pos (.yes e) := fun m m0 kept hc ha hp hw => by
  have hks : kept.marks.size ≤ X.G := Nat.le_trans hc.kept.size (Nat.le_of_eq hc.c0.fix.size)
  obtain ⟨n, hn, m2, h1, h2, h3, h4⟩ := attempt_run (f := { m.frame .nextBranch with pc := alt, kept }) (out := m.outermost) hc.core ha (by show m.weight + (1 + kept.marks.size) + D ≤ _; omega) h
  refine ⟨n, hn, _, rfl, ?_⟩
  rw [alt_go hc.core.fix.code h0, hp, h1]
  exact ⟨rfl, h2, h3.same, hc.yes h4 _⟩

theorem alt_no {alt next K2 D2 : Nat} (h0 : X.C.getD alt 0 ≠ 0) (h : RunK X lam iota l q k K D (alt + 1) pos .no) (hx : alt + X.C.getD alt 0 = next) (h' : Alt X lam iota l q K2 D2 next pos r) (hk : iota = none → k = true := by intro _; rfl) :
    Alt X lam iota l q (K + 1 + K2) (D + X.G + 1 + D2) alt pos r := fun m m0 kept hc ha hp hw => by
  have hks : kept.marks.size ≤ X.G := Nat.le_trans hc.kept.size (Nat.le_of_eq hc.c0.fix.size)
  obtain ⟨n, hn, m2, h1, h2, h3, h4⟩ := attempt_run (f := { m.frame .nextBranch with pc := alt, kept }) (out := m.outermost) hc.core ha (by show m.weight + (1 + kept.marks.size) + D ≤ _; omega) h
  have hb := hc.again (f := { m.frame .nextBranch with pc := alt, kept }) (fs := m.frames) h3 h4 hk
  obtain ⟨n', hn', m', g1, g2, g3, g4, g5⟩ := h' ((pop m2 { m.frame .nextBranch with pc := alt, kept } m.frames).putBack kept) m0 kept hb rfl hp (by show (pop m2 _ m.frames).weight + D2 ≤ _; rw [h2]; omega)
  refine ⟨n + n', by omega, m', ?_, g2, g3.trans h2, g4, g5⟩
  rw [runFor_add, alt_go hc.core.fix.code h0, hp, h1]
  have e : M.resume (pop m2 { m.frame .nextBranch with pc := alt, kept } m.frames) { m.frame .nextBranch with pc := alt, kept } Res.no.b = ((pop m2 { m.frame .nextBranch with pc := alt, kept } m.frames).putBack kept).alternative next kept := by
    show M.alternative _ (alt + m2.code.getD alt 0) _ = _
    rw [h3.code, hx]
  rw [e]; exact g1

theorem run_branch (h0 : X.C.getD pc 0 = 7) (hpc : pc < X.C.size) (h : Alt X lam iota l q K D (pc + 1) pos r) : RunK X lam iota l q k (K + 1) D pc pos r := fun m hc ha hp hq hw => by
  have e : m.step = m.exec := step_none hc.fix.out ha (by rw [hp, hc.fix.code]; exact hpc)
  have hw0 : m.word 0 = 7 := (word_eq hc.fix.code hp 0).trans h0
  have ex : m.exec = M.alternative { m with seen := m.seen.add (m.word 0) } (pc + 1) (M.keep { m with seen := m.seen.add (m.word 0) } m.inner.isSome) := by
    unfold M.exec
    rw [hw0]
    simp only [ops, List.getElem?_toArray, List.getElem?_cons_succ, List.getElem?_cons_zero]
    rw [hp]
  obtain ⟨n, hn, m', h1, h2, h3, h4, h5⟩ := h { m with seen := m.seen.add (m.word 0) } { m with seen := m.seen.add (m.word 0) } _ ⟨hc.same, hc.same, KeptOf.keep _ m.inner.isSome, (congrArg Option.isSome hc.inner : m.inner.isSome = iota.isSome), X.ml.same hc.iv, fun _ => rfl⟩ ha hq hw
  have z : Came X q k { m with seen := m.seen.add (m.word 0) } m' r := CameC.came hc.same h5
  refine ⟨n + 1, by omega, m', by rw [runFor_succ, e, ex]; exact h1, h2, h3, h4, ?_⟩
  cases r <;> exact z
end Mine
-- Rx4
namespace Mine
open PySem PySem.Sre
variable {X : Cx} {lam : Array Loop} {iota : Option Nat} {l : Int} {q k : Bool} {K D pc pos : Nat} {r : Res}

/-- how many signs in a row, n at most, hold -/
def span (P : Nat → Bool) (T : Array Nat) (p : Nat) : Nat → Nat
  | 0 => 0
  | n + 1 => if P (T.getD p 0) then 1 + span P T (p + 1) n else 0
theorem span_succ (P : Nat → Bool) (T : Array Nat) (p n : Nat) : span P T p (n + 1) = if P (T.getD p 0) then 1 + span P T (p + 1) n else 0 := rfl
theorem span_le (P : Nat → Bool) (T : Array Nat) : ∀ (n p : Nat), span P T p n ≤ n
  | 0, _ => Nat.le_refl _
  | n + 1, p => by
    unfold span
    have := span_le P T n (p + 1)
    split <;> omega

theorem run_span {C T : Array Nat} {i : Nat} {P : Nat → Bool} : ∀ (n p found : Nat) (seen : Seen), (∀ j, p ≤ j → j < p + n → Acc C i (T.getD j 0) (P (T.getD j 0))) →
    ∃ seen', Sre.run C T i n p found seen = .ok (found + span P T p n, seen')
  | 0, p, found, seen, _ => ⟨seen, rfl⟩
  | n + 1, p, found, seen, h => by
    obtain ⟨s1, e1⟩ := h p (Nat.le_refl _) (by omega) seen
    unfold Sre.run
    rw [e1]
    cases hb : P (T.getD p 0) with
    | false =>
      refine ⟨s1, ?_⟩
      show (if (false : Bool) = true then Sre.run C T i n (p + 1) (found + 1) s1 else (Except.ok (found, s1) : Except String (Nat × Seen))) = _
      rw [if_neg Bool.false_ne_true]
      rw [span_succ, hb]; rfl
    | true =>
      obtain ⟨s2, e2⟩ := run_span n (p + 1) (found + 1) s1 (fun j a b => h j (by omega) (by omega))
      refine ⟨s2, ?_⟩
      show (if (true : Bool) = true then Sre.run C T i n (p + 1) (found + 1) s1 else (Except.ok (found, s1) : Except String (Nat × Seen))) = _
      rw [if_pos rfl, e2]
      rw [span_succ, hb, if_pos rfl, Nat.add_assoc]

/-! ## REPEAT_ONE -/
def Give (X : Cx) (lam : Array Loop) (iota : Option Nat) (l : Int) (q : Bool) (K D pc p j : Nat) (r : Res) : Prop :=
  ∀ m m0 kept, Chose X lam iota l q p kept m0 m → m.answer = none → m.pc = pc → m.pos = p + j → m.weight + D ≤ 16777216 →
    ∃ n, n ≤ K ∧ ∃ m', M.runFor n (m.afterRun .giveBack j kept) = m' ∧ m'.frames = m.frames ∧ m'.weight = m.weight ∧ Fix X m' ∧ CameC X l lam iota q m0 m' r

theorem after_go {m : M} {tail : Nat} {w : Wait} {c : Int} {kept : Sre.Kept} (hcode : m.code = X.C) (hp : m.pc = pc) (ht : pc + 1 + X.C.getD (pc + 1) 0 = tail) :
    m.afterRun w c kept = m.attempt { m.frame w with count := c, kept } tail m.pos m.outermost := by
  unfold M.afterRun
  rw [word_eq hcode hp 1, hp, ht]

theorem give_yes {tail p j e : Nat} (ht : pc + 1 + X.C.getD (pc + 1) 0 = tail) (h : Run X lam iota l q K D tail (p + j) (.yes e)) : Give X lam iota l q (K + 1) (D + X.G + 1) pc p j (.yes e) := fun m m0 kept hc ha hp hq hw => by
  have hks : kept.marks.size ≤ X.G := Nat.le_trans hc.kept.size (Nat.le_of_eq hc.c0.fix.size)
  obtain ⟨n, hn, m2, h1, h2, h3, h4⟩ := attempt_run (f := { m.frame .giveBack with count := (j : Int), kept }) (out := m.outermost) (hc.core.up (Nat.le_add_right p j)) ha (by show m.weight + (1 + kept.marks.size) + D ≤ _; omega) h
  refine ⟨n, hn, _, rfl, ?_⟩
  rw [after_go hc.core.fix.code hp ht, hq, h1]
  exact ⟨rfl, h2, h3.same, hc.yes h4 _⟩

theorem give_no {tail p j least K2 D2 : Nat} (ht : pc + 1 + X.C.getD (pc + 1) 0 = tail) (hl : X.C.getD (pc + 2) 0 = least) (h : Run X lam iota l q K D tail (p + j) .no)
    (hlo : j ≤ least → r = .no) (h' : least < j → Give X lam iota l q K2 D2 pc p (j - 1) r) : Give X lam iota l q (K + 1 + K2) (D + X.G + 1 + D2) pc p j r := fun m m0 kept hc ha hp hq hw => by
  have hks : kept.marks.size ≤ X.G := Nat.le_trans hc.kept.size (Nat.le_of_eq hc.c0.fix.size)
  obtain ⟨n, hn, m2, h1, h2, h3, h4⟩ := attempt_run (f := { m.frame .giveBack with count := (j : Int), kept }) (out := m.outermost) (hc.core.up (Nat.le_add_right p j)) ha (by show m.weight + (1 + kept.marks.size) + D ≤ _; omega) h
  have hb := hc.again (f := { m.frame .giveBack with count := (j : Int), kept }) (fs := m.frames) h3 h4 (fun _ => rfl)
  have hw2 : M.word (pop m2 { m.frame .giveBack with count := (j : Int), kept } m.frames) 2 = least := (word_eq (X := X) (m := pop m2 { m.frame .giveBack with count := (j : Int), kept } m.frames) h3.code hp 2).trans hl
  by_cases hlt : j ≤ least
  · rw [hlo hlt]
    refine ⟨n, by omega, _, rfl, ?_⟩
    rw [after_go hc.core.fix.code hp ht, hq, h1]
    have e : M.resume (pop m2 { m.frame .giveBack with count := (j : Int), kept } m.frames) { m.frame .giveBack with count := (j : Int), kept } Res.no.b = M.say ((pop m2 { m.frame .giveBack with count := (j : Int), kept } m.frames).putBack kept) false := by
      show (if (j : Int) - 1 < M.word (pop m2 _ m.frames) 2 then _ else _) = _
      rw [hw2, if_pos (by omega)]
    rw [e]
    exact ⟨rfl, h2, hb.core.fix.same, rfl, hb.core.loops, hb.core.inner, hb.kp, hb.qt⟩
  · obtain ⟨n', hn', m', g1, g2, g3, g4, g5⟩ := h' (by omega) { (pop m2 { m.frame .giveBack with count := (j : Int), kept } m.frames).putBack kept with pos := (p + j) - 1 } m0 kept ⟨hb.core.same, hb.c0, hb.kept, hb.wh, hb.kp, hb.qt⟩ rfl hp (by show p + j - 1 = p + (j - 1); omega) (by show (pop m2 _ m.frames).weight + D2 ≤ _; rw [h2]; omega)
    refine ⟨n + n', by omega, m', ?_, g2, g3.trans h2, g4, g5⟩
    rw [runFor_add, after_go hc.core.fix.code hp ht, hq, h1]
    have e : M.resume (pop m2 { m.frame .giveBack with count := (j : Int), kept } m.frames) { m.frame .giveBack with count := (j : Int), kept } Res.no.b =
        M.afterRun { (pop m2 { m.frame .giveBack with count := (j : Int), kept } m.frames).putBack kept with pos := (p + j) - 1 } .giveBack ((j - 1 : Nat) : Int) kept := by
      show (if (j : Int) - 1 < M.word (pop m2 _ m.frames) 2 then _ else M.afterRun { (pop m2 _ m.frames).putBack kept with pos := m.pos - 1 } .giveBack ((j : Int) - 1) kept) = _
      rw [hw2, if_neg (by omega), hq, show ((j : Int) - 1) = ((j - 1 : Nat) : Int) by omega]
    rw [e]; exact g1

/-- all the tails fail -/
theorem give_all_no {tail p least : Nat} (ht : pc + 1 + X.C.getD (pc + 1) 0 = tail) (hl : X.C.getD (pc + 2) 0 = least) : ∀ j, least ≤ j → (∀ i, least ≤ i → i ≤ j → Run X lam iota l q K D tail (p + i) .no) →
    Give X lam iota l q ((j + 1) * (K + 1)) ((j + 1) * (D + X.G + 1)) pc p j .no
  | 0, h0, h => by
    have := give_no (K2 := 0) (D2 := 0) (r := .no) ht hl (h 0 h0 (Nat.le_refl _)) (fun _ => rfl) (fun hx => absurd hx (by omega))
    simpa using this
  | j + 1, h0, h => by
    by_cases e : least = j + 1
    · have := give_no (K2 := (j + 1) * (K + 1)) (D2 := (j + 1) * (D + X.G + 1)) (r := .no) ht hl (h (j + 1) h0 (Nat.le_refl _)) (fun _ => rfl) (fun hx => absurd hx (by omega))
      rw [show (j + 1 + 1) * (K + 1) = K + 1 + (j + 1) * (K + 1) by rw [Nat.add_mul (j + 1) 1]; omega, show (j + 1 + 1) * (D + X.G + 1) = D + X.G + 1 + (j + 1) * (D + X.G + 1) by rw [Nat.add_mul (j + 1) 1]; omega]
      exact this
    · have ih := give_all_no ht hl j (by omega) (fun i a b => h i a (by omega))
      have := give_no (r := .no) ht hl (h (j + 1) h0 (Nat.le_refl _)) (fun _ => rfl) (fun _ => ih)
      rw [show (j + 1 + 1) * (K + 1) = K + 1 + (j + 1) * (K + 1) by rw [Nat.add_mul (j + 1) 1]; omega, show (j + 1 + 1) * (D + X.G + 1) = D + X.G + 1 + (j + 1) * (D + X.G + 1) by rw [Nat.add_mul (j + 1) 1]; omega]
      exact this

/-- the first tail from the right that comes is at k -/
theorem give_some {tail p least k e : Nat} (ht : pc + 1 + X.C.getD (pc + 1) 0 = tail) (hl : X.C.getD (pc + 2) 0 = least) (hk : least ≤ k) (hy : Run X lam iota l q K D tail (p + k) (.yes e)) :
    ∀ j, k ≤ j → (∀ i, k < i → i ≤ j → Run X lam iota l q K D tail (p + i) .no) → Give X lam iota l q ((j + 1) * (K + 1)) ((j + 1) * (D + X.G + 1)) pc p j (.yes e) := by
  intro j
  induction j with
  | zero =>
    intro h0 h
    obtain rfl : k = 0 := by omega
    have := give_yes ht hy
    simpa using this
  | succ j ih =>
    intro h0 h
    rw [show (j + 1 + 1) * (K + 1) = K + 1 + (j + 1) * (K + 1) by rw [Nat.add_mul (j + 1) 1]; omega, show (j + 1 + 1) * (D + X.G + 1) = D + X.G + 1 + (j + 1) * (D + X.G + 1) by rw [Nat.add_mul (j + 1) 1]; omega]
    by_cases e1 : k = j + 1
    · subst e1
      intro m m0 kept hc ha hp hq hw
      obtain ⟨n, hn, z⟩ := give_yes ht hy m m0 kept hc ha hp hq (by omega)
      exact ⟨n, by omega, z⟩
    · exact give_no ht hl (h (j + 1) (by omega) (Nat.le_refl _)) (fun hx => absurd hx (by omega)) (fun _ => ih (by omega) (fun i a b => h i a (by omega)))

theorem run_rep1 {least most n : Nat} {P : Nat → Bool} (h0 : X.C.getD pc 0 = 24) (h2 : X.C.getD (pc + 2) 0 = least) (h3 : X.C.getD (pc + 3) 0 = most) (hpc : pc < X.C.size) (hpos : pos ≤ X.T.size)
    (hacc : ∀ j, pos ≤ j → j < X.T.size → Acc X.C (pc + 4) (X.T.getD j 0) (P (X.T.getD j 0))) (hn : span P X.T pos (min most (X.T.size - pos)) = n)
    (hlt : n < least → r = .no) (hge : least ≤ n → Give X lam iota l q K D pc pos n r) : Run X lam iota l q (K + 1) D pc pos r := fun m hc ha hp hq hw => by
  have e : m.step = m.exec := step_none hc.fix.out ha (by rw [hp, hc.fix.code]; exact hpc)
  have hw0 : m.word 0 = 24 := (word_eq hc.fix.code hp 0).trans h0
  have hw2 : m.word 2 = least := (word_eq hc.fix.code hp 2).trans h2
  have hw3 : m.word 3 = most := (word_eq hc.fix.code hp 3).trans h3
  have hroom : (((m.lim : Int) - m.pos) : Int).toNat = X.T.size - pos := by rw [hc.fix.lim, hq]; omega
  obtain ⟨s', er⟩ := run_span (C := X.C) (T := X.T) (i := pc + 4) (P := P) (min most (X.T.size - pos)) pos 0 ((m.seen.add (m.word 0)).add (m.word 4)) (fun j a b => hacc j a (by omega))
  rw [hn, Nat.zero_add] at er
  have nle : n ≤ X.T.size - pos := by rw [← hn]; exact Nat.le_trans (span_le _ _ _ _) (Nat.min_le_right _ _)
  have fin : ∀ s, CameC X l lam iota q m (M.say { m with seen := s } false) .no := fun s => ⟨rfl, hc.loops, hc.inner, X.ml.same hc.iv, fun _ => rfl⟩
  have key : ∃ n, n ≤ K ∧ ∃ m', M.runFor n m.exec = m' ∧ m'.frames = m.frames ∧ m'.weight = m.weight ∧ Fix X m' ∧ CameC X l lam iota q m m' r := by
    have ex : m.exec = (if (least : Int) > ((m.lim : Int) - m.pos) then M.say { m with seen := m.seen.add (m.word 0) } false else
        if n < least then M.say { m with seen := s' } false else M.afterRun { m with seen := s', pos := m.pos + n } .giveBack n (M.keep { m with seen := s', pos := m.pos + n } m.inner.isSome)) := by
      unfold M.exec
      rw [hw0] at er ⊢
      simp only [ops, List.getElem?_toArray, List.getElem?_cons_succ, List.getElem?_cons_zero]
      show (if ((m.word 2 : Int) > (m.lim : Int) - m.pos) then _ else match Sre.run m.code m.text (m.pc + 4) (min (m.word 3) ((m.lim : Int) - m.pos).toNat) m.pos 0 ((m.seen.add 24).add (m.word 4)) with
        | .error why => _ | .ok (k, seen) => _) = _
      have er' : Sre.run m.code m.text (m.pc + 4) (min (m.word 3) ((m.lim : Int) - m.pos).toNat) m.pos 0 ((m.seen.add 24).add (m.word 4)) = .ok (n, s') := by
        rw [hroom, hc.fix.code, hc.fix.text, hp, hq, hw3]; exact er
      rw [er', hw2]
      split
      · rfl
      · show (if n < M.word { m with seen := s' } 2 then _ else _) = _
        rw [show M.word { m with seen := s' } 2 = least from hw2]; rfl
    rw [ex]
    by_cases c1 : (least : Int) > ((m.lim : Int) - m.pos)
    · rw [if_pos c1, hlt (by rw [hc.fix.lim, hq] at c1; omega)]
      exact ⟨0, Nat.zero_le _, _, rfl, rfl, rfl, hc.fix.same, fin _⟩
    · rw [if_neg c1]
      by_cases c2 : n < least
      · rw [if_pos c2, hlt c2]
        exact ⟨0, Nat.zero_le _, _, rfl, rfl, rfl, hc.fix.same, fin _⟩
      · rw [if_neg c2]
        have c : Core X lam iota l pos { m with seen := s', pos := m.pos + n } := hc.same
        exact hge (by omega) { m with seen := s', pos := m.pos + n } { m with seen := s', pos := m.pos + n } _ ⟨c, c, KeptOf.keep _ m.inner.isSome, (congrArg Option.isSome hc.inner : m.inner.isSome = iota.isSome), X.ml.same hc.iv, fun _ => rfl⟩ ha hp (by show m.pos + n = _; rw [hq]) hw
  obtain ⟨n', hn', m', g1, g2, g3, g4, g5⟩ := key
  exact ⟨n' + 1, by omega, m', by rw [runFor_succ, e]; exact g1, g2, g3, g4, CameC.came hc g5⟩
end Mine
-- Rx5
namespace Mine
open PySem PySem.Sre
variable {X : Cx} {lam : Array Loop} {iota : Option Nat} {l : Int} {q k : Bool} {K D pc pos : Nat} {r : Res}

/-! ## MIN_REPEAT_ONE -/
def Take (X : Cx) (lam : Array Loop) (iota : Option Nat) (l : Int) (q : Bool) (K D pc p j : Nat) (r : Res) : Prop :=
  ∀ m m0 kept, Chose X lam iota l q p kept m0 m → m.answer = none → m.pc = pc → m.pos = p + j → m.weight + D ≤ 16777216 →
    ∃ n, n ≤ K ∧ ∃ m', M.runFor n (m.afterRun .takeMore j kept) = m' ∧ m'.frames = m.frames ∧ m'.weight = m.weight ∧ Fix X m' ∧ CameC X l lam iota q m0 m' r

theorem take_yes {tail p j e : Nat} (ht : pc + 1 + X.C.getD (pc + 1) 0 = tail) (h : Run X lam iota l q K D tail (p + j) (.yes e)) : Take X lam iota l q (K + 1) (D + X.G + 1) pc p j (.yes e) := fun m m0 kept hc ha hp hq hw => by
  have hks : kept.marks.size ≤ X.G := Nat.le_trans hc.kept.size (Nat.le_of_eq hc.c0.fix.size)
  obtain ⟨n, hn, m2, h1, h2, h3, h4⟩ := attempt_run (f := { m.frame .takeMore with count := (j : Int), kept }) (out := m.outermost) (hc.core.up (Nat.le_add_right p j)) ha (by show m.weight + (1 + kept.marks.size) + D ≤ _; omega) h
  refine ⟨n, hn, _, rfl, ?_⟩
  rw [after_go hc.core.fix.code hp ht, hq, h1]
  exact ⟨rfl, h2, h3.same, hc.yes h4 _⟩

theorem take_more {tail p j K2 D2 : Nat} (ht : pc + 1 + X.C.getD (pc + 1) 0 = tail) (h3' : X.C.getD (pc + 3) 0 = 4294967295) (h : Run X lam iota l q K D tail (p + j) .no) (hlt : p + j < X.T.size)
    (hacc : Acc X.C (pc + 4) (X.T.getD (p + j) 0) true) (h' : Take X lam iota l q K2 D2 pc p (j + 1) r) : Take X lam iota l q (K + 1 + K2) (D + X.G + 1 + D2) pc p j r := fun m m0 kept hc ha hp hq hw => by
  have hks : kept.marks.size ≤ X.G := Nat.le_trans hc.kept.size (Nat.le_of_eq hc.c0.fix.size)
  obtain ⟨n, hn, m2, h1, h2, h3, h4⟩ := attempt_run (f := { m.frame .takeMore with count := (j : Int), kept }) (out := m.outermost) (hc.core.up (Nat.le_add_right p j)) ha (by show m.weight + (1 + kept.marks.size) + D ≤ _; omega) h
  have hb := hc.again (f := { m.frame .takeMore with count := (j : Int), kept }) (fs := m.frames) h3 h4 (fun _ => rfl)
  have hw3 : M.word (pop m2 { m.frame .takeMore with count := (j : Int), kept } m.frames) 3 = 4294967295 := (word_eq (X := X) (m := pop m2 { m.frame .takeMore with count := (j : Int), kept } m.frames) h3.code hp 3).trans h3'
  obtain ⟨s', es⟩ := hacc m2.seen
  obtain ⟨n', hn', m', g1, g2, g3, g4, g5⟩ := h' { (pop m2 { m.frame .takeMore with count := (j : Int), kept } m.frames).putBack kept with seen := s', pos := (p + j) + 1 } m0 kept ⟨hb.core.same, hb.c0, hb.kept, hb.wh, hb.kp, hb.qt⟩ rfl hp (by show p + j + 1 = p + (j + 1); omega) (by show (pop m2 _ m.frames).weight + D2 ≤ _; rw [h2]; omega)
  refine ⟨n + n', by omega, m', ?_, g2, g3.trans h2, g4, g5⟩
  rw [runFor_add, after_go hc.core.fix.code hp ht, hq, h1]
  have e : M.resume (pop m2 { m.frame .takeMore with count := (j : Int), kept } m.frames) { m.frame .takeMore with count := (j : Int), kept } Res.no.b =
      M.afterRun { (pop m2 { m.frame .takeMore with count := (j : Int), kept } m.frames).putBack kept with seen := s', pos := (p + j) + 1 } .takeMore ((j + 1 : Nat) : Int) kept := by
    show (if ((j : Int) + 1 > M.word (pop m2 _ m.frames) 3 && M.word (pop m2 _ m.frames) 3 != maxRepeat) = true then _ else if m.pos ≥ m2.lim then _ else
      match accepts m2.code (m.pc + 4) (m2.text.getD m.pos 0) m2.seen with
      | .error why => _ | .ok (false, seen) => _ | .ok (true, seen) => _) = _
    rw [hw3]
    have hx : ((j : Int) + 1 > ((4294967295 : Nat) : Int) && (4294967295 : Nat) != maxRepeat) = false := by
      have : ((4294967295 : Nat) != maxRepeat) = false := by decide
      rw [this, Bool.and_false]
    rw [hx, if_neg Bool.false_ne_true, if_neg (by rw [hq, h3.lim]; omega)]
    have es' : accepts m2.code (m.pc + 4) (m2.text.getD m.pos 0) m2.seen = .ok (true, s') := by rw [h3.code, h3.text, hp, hq]; exact es
    rw [es', ← hq]; rfl
  rw [e]; exact g1

theorem run_lazy {least : Nat} {P : Nat → Bool} (h0 : X.C.getD pc 0 = 26) (h2 : X.C.getD (pc + 2) 0 = least) (hpc : pc < X.C.size) (hpos : pos + least ≤ X.T.size)
    (hacc : ∀ j, pos ≤ j → j < pos + least → Acc X.C (pc + 4) (X.T.getD j 0) (P (X.T.getD j 0))) (hn : span P X.T pos least = least)
    (h : Take X lam iota l q K D pc pos least r) : Run X lam iota l q (K + 1) D pc pos r := fun m hc ha hp hq hw => by
  have e : m.step = m.exec := step_none hc.fix.out ha (by rw [hp, hc.fix.code]; exact hpc)
  have hw0 : m.word 0 = 26 := (word_eq hc.fix.code hp 0).trans h0
  have hw2 : m.word 2 = least := (word_eq hc.fix.code hp 2).trans h2
  have hroom : min least (((m.lim : Int) - m.pos) : Int).toNat = least := by rw [hc.fix.lim, hq]; omega
  obtain ⟨s', er⟩ := run_span (C := X.C) (T := X.T) (i := pc + 4) (P := P) least pos 0 ((m.seen.add (m.word 0)).add (m.word 4)) hacc
  rw [hn, Nat.zero_add] at er
  have ex : m.exec = M.afterRun { m with seen := s', pos := m.pos + least } .takeMore least (M.keep { m with seen := s', pos := m.pos + least } m.inner.isSome) := by
    unfold M.exec
    rw [hw0] at er ⊢
    simp only [ops, List.getElem?_toArray, List.getElem?_cons_succ, List.getElem?_cons_zero]
    show (if ((m.word 2 : Int) > (m.lim : Int) - m.pos) then _ else match Sre.run m.code m.text (m.pc + 4) (min (m.word 2) ((m.lim : Int) - m.pos).toNat) m.pos 0 ((m.seen.add 26).add (m.word 4)) with
      | .error why => _ | .ok (k, seen) => _) = _
    have er' : Sre.run m.code m.text (m.pc + 4) (min (m.word 2) ((m.lim : Int) - m.pos).toNat) m.pos 0 ((m.seen.add 26).add (m.word 4)) = .ok (least, s') := by
      rw [hw2, hroom, hc.fix.code, hc.fix.text, hp, hq]; exact er
    rw [er', hw2, if_neg (by rw [hc.fix.lim, hq]; omega)]
    show (if least < M.word { m with seen := s' } 2 then _ else _) = _
    rw [show M.word { m with seen := s' } 2 = least from hw2, if_neg (Nat.lt_irrefl _)]; rfl
  have c : Core X lam iota l pos { m with seen := s', pos := m.pos + least } := hc.same
  obtain ⟨n', hn', m', g1, g2, g3, g4, g5⟩ := h { m with seen := s', pos := m.pos + least } { m with seen := s', pos := m.pos + least } _ ⟨c, c, KeptOf.keep _ m.inner.isSome, (congrArg Option.isSome hc.inner : m.inner.isSome = iota.isSome), X.ml.same hc.iv, fun _ => rfl⟩ ha hp (by show m.pos + least = _; rw [hq]) hw
  refine ⟨n' + 1, by omega, m', by rw [runFor_succ, e, ex]; exact g1, g2, g3, g4, ?_⟩
  have z : Came X q true { m with seen := s', pos := m.pos + least } m' r := CameC.came c g5
  cases r <;> exact z

/-! ## ASSERT, ASSERT_NOT -/
theorem core_back {m : M} {b : Nat} (hc : Core X lam iota l pos m) (hb : b = 0 ∨ l < 0) : Core X lam iota l (pos - b) m :=
  ⟨hc.fix, hc.loops, hc.inner, hc.lm, by
    rcases hb with rfl | hb
    · exact hc.iv
    · exact X.ml.low hb hc.iv⟩

theorem exec_look {m : M} {op : Op} {n : Bool} (hop : ops[m.word 0]? = some op) (ho : op = if n then .ASSERT_NOT else .ASSERT) :
    m.exec = (if m.pos < m.word 2 then (if n then { m with seen := m.seen.add (m.word 0), pc := m.pc + 1 + m.word 1 } else M.say { m with seen := m.seen.add (m.word 0) } false)
      else M.attempt { m with seen := m.seen.add (m.word 0) } { M.frame m (if n then .lookNot else .look) with kept := M.keep m (n && m.inner.isSome) } (m.pc + 3) (m.pos - m.word 2) false) := by
  unfold M.exec
  rw [hop]
  subst ho
  cases n <;> rfl

theorem look_short {back skip : Nat} {n : Bool} (h0 : X.C.getD pc 0 = if n then 5 else 4) (h1 : pc + 1 + X.C.getD (pc + 1) 0 = skip) (h2 : X.C.getD (pc + 2) 0 = back) (hpc : pc < X.C.size) (hs : pos < back)
    (h : n = true → Run X lam iota l q K D skip pos r) (hn : n = false → r = .no) : Run X lam iota l q (K + 1) D pc pos r := by
  have ex : ∀ m, Core X lam iota l pos m → m.pc = pc → m.pos = pos → m.exec = (if n then { m with seen := m.seen.add (m.word 0), pc := skip } else M.say { m with seen := m.seen.add (m.word 0) } false) := by
    intro m hc hp hq
    have hw0 : m.word 0 = if n then 5 else 4 := (word_eq hc.fix.code hp 0).trans h0
    have hw2 : m.word 2 = back := (word_eq hc.fix.code hp 2).trans h2
    rw [exec_look (op := if n then .ASSERT_NOT else .ASSERT) (n := n) (by rw [hw0]; cases n <;> rfl) rfl, hw2, hq, if_pos hs, word_eq hc.fix.code hp 1, hp, h1]
  cases n with
  | true =>
    refine run_step hpc (h rfl) fun m hc ha hp hq => ?_
    rw [ex m hc hp hq, if_pos rfl]
    refine ⟨hc.same, ha, rfl, hq, rfl, rfl, fun m' h => ?_⟩
    cases r <;> exact h
  | false =>
    rw [hn rfl]
    refine Run.mono (run_say hpc fun m hc ha hp hq => ?_) (by omega : 1 ≤ K + 1) (Nat.zero_le D)
    rw [ex m hc hp hq, if_neg Bool.false_ne_true]
    exact ⟨rfl, rfl, hc.fix.same, came_say hc _⟩

/-- the look comes out as b; then the rest, or a fail -/
theorem run_look {back skip K2 D2 : Nat} {n : Bool} {rs : Res} (h0 : X.C.getD pc 0 = if n then 5 else 4) (h1 : pc + 1 + X.C.getD (pc + 1) 0 = skip) (h2 : X.C.getD (pc + 2) 0 = back) (hpc : pc < X.C.size) (hs : back ≤ pos) (hb : back = 0 ∨ l < 0)
    (hsub : Run X lam iota l true K D (pc + 3) (pos - back) rs) (h : rs.b ≠ n → Run X lam iota l q K2 D2 skip pos r) (hn : rs.b = n → r = .no) :
    Run X lam iota l q (K + 2 + K2) (D + X.G + 1 + D2) pc pos r := fun m hc ha hp hq hw => by
  have e : m.step = m.exec := step_none hc.fix.out ha (by rw [hp, hc.fix.code]; exact hpc)
  have hw0 : m.word 0 = if n then 5 else 4 := (word_eq hc.fix.code hp 0).trans h0
  have hw2 : m.word 2 = back := (word_eq hc.fix.code hp 2).trans h2
  have hkp : KeptOf (M.keep m (n && m.inner.isSome)) m := KeptOf.keep m _
  have hks : (M.keep m (n && m.inner.isSome)).marks.size ≤ X.G := Nat.le_trans hkp.size (Nat.le_of_eq hc.fix.size)
  have c1 : Core X lam iota l (pos - back) { m with seen := m.seen.add (m.word 0) } := (core_back hc hb).same
  obtain ⟨n1, hn1, m2, g1, g2, g3, g4⟩ := attempt_run (m := { m with seen := m.seen.add (m.word 0) }) (f := { M.frame m (if n then .lookNot else .look) with kept := M.keep m (n && m.inner.isSome) }) (out := false) c1 ha (by show m.weight + (1 + (M.keep m (n && m.inner.isSome)).marks.size) + D ≤ _; omega) hsub
  have ex : m.exec = M.attempt { m with seen := m.seen.add (m.word 0) } { M.frame m (if n then .lookNot else .look) with kept := M.keep m (n && m.inner.isSome) } (pc + 3) (pos - back) false := by
    rw [exec_look (op := if n then .ASSERT_NOT else .ASSERT) (n := n) (by rw [hw0]; cases n <;> rfl) rfl, hw2, hq, if_neg (by omega), hp]
  -- what is told of the state behind the look
  have hq2 : m2.loops = lam ∧ m2.inner = iota ∧ m2.marks = m.marks ∧ (rs.b = true → m2.lastmark = l) := by
    cases rs with
    | no => obtain ⟨_, z2, z3, _, z6⟩ := g4; exact ⟨z2.trans hc.loops, z3.trans hc.inner, z6 rfl, fun h => nomatch h⟩
    | yes e => obtain ⟨_, _, _, z⟩ := g4; obtain ⟨a, b, c, d⟩ := z rfl; exact ⟨a.trans hc.loops, b.trans hc.inner, d, fun _ => c.trans hc.lm⟩
  obtain ⟨l1, l2, l3, l4⟩ := hq2
  have run1 : ∀ k, M.runFor (1 + n1 + k) m = M.runFor k (M.resume (pop m2 { M.frame m (if n then .lookNot else .look) with kept := M.keep m (n && m.inner.isSome) } m.frames) { M.frame m (if n then .lookNot else .look) with kept := M.keep m (n && m.inner.isSome) } rs.b) := by
    intro k
    rw [runFor_add, Nat.add_comm 1, runFor_succ, e, ex, g1]
  by_cases hb' : rs.b = n
  · rw [hn hb']
    refine ⟨1 + n1 + 0, by omega, _, run1 0, ?_⟩
    have er : M.resume (pop m2 { M.frame m (if n then .lookNot else .look) with kept := M.keep m (n && m.inner.isSome) } m.frames) { M.frame m (if n then .lookNot else .look) with kept := M.keep m (n && m.inner.isSome) } rs.b = M.say (pop m2 { M.frame m (if n then .lookNot else .look) with kept := M.keep m (n && m.inner.isSome) } m.frames) false := by
      rw [hb']; cases n <;> rfl
    rw [er]
    show _ ∧ _
    refine ⟨rfl, g2, g3.same, rfl, l1.trans hc.loops.symm, l2.trans hc.inner.symm, fun _ => ?_, fun _ => l3⟩
    show X.ml.R m.lastmark m.marks m2.marks
    rw [l3, hc.lm]; exact X.ml.same hc.iv
  · have hgo := h hb'
    have er : ∃ m3, M.resume (pop m2 { M.frame m (if n then .lookNot else .look) with kept := M.keep m (n && m.inner.isSome) } m.frames) { M.frame m (if n then .lookNot else .look) with kept := M.keep m (n && m.inner.isSome) } rs.b = m3 ∧
        Core X lam iota l pos m3 ∧ m3.answer = none ∧ m3.pc = skip ∧ m3.pos = pos ∧ m3.weight = m.weight ∧ m3.frames = m.frames ∧ m3.marks = m.marks := by
      refine ⟨_, rfl, ?_⟩
      have hwd : M.word (pop m2 { M.frame m (if n then .lookNot else .look) with kept := M.keep m (n && m.inner.isSome) } m.frames) 1 = X.C.getD (pc + 1) 0 := word_eq (X := X) (m := pop m2 { M.frame m (if n then .lookNot else .look) with kept := M.keep m (n && m.inner.isSome) } m.frames) g3.code hp 1
      cases n with
      | false =>
        have hrs : rs.b = true := by cases h : rs.b <;> simp_all
        rw [hrs]
        refine ⟨⟨g3.same, l1, l2, l4 hrs, ?_⟩, rfl, ?_, hq, g2, rfl, l3⟩
        · show X.ml.I l pos m2.marks; rw [l3]; exact hc.iv
        · show m.pc + 1 + M.word (pop m2 _ m.frames) 1 = skip
          rw [hp]; exact (congrArg (pc + 1 + ·) hwd).trans h1
      | true =>
        have hrs : rs.b = false := by cases h : rs.b <;> simp_all
        rw [hrs]
        have hm3 : ((pop m2 { M.frame m .lookNot with kept := M.keep m (true && m.inner.isSome) } m.frames).putBack (M.keep m (true && m.inner.isSome))).marks = m.marks := back_same (m0 := m) hkp l3
        have hl3 : ((pop m2 { M.frame m .lookNot with kept := M.keep m (true && m.inner.isSome) } m.frames).putBack (M.keep m (true && m.inner.isSome))).lastmark = l := hc.lm
        refine ⟨⟨⟨g3.code, g3.text, g3.lim, g3.whole, g3.must, g3.start, g3.out, ?_⟩, l1, l2, hl3, ?_⟩, rfl, ?_, hq, g2, rfl, hm3⟩
        · exact (congrArg Array.size hm3).trans hc.fix.size
        · show X.ml.I l pos ((pop m2 _ m.frames).putBack _).marks
          exact hm3.symm ▸ hc.iv
        · show m.pc + 1 + M.word (pop m2 _ m.frames) 1 = skip
          rw [hp]; exact (congrArg (pc + 1 + ·) hwd).trans h1
    obtain ⟨m3, er, d1, d2, d3, d4, d5, d6, d7⟩ := er
    obtain ⟨n', hn', m', k1, k2, k3, k4, k5⟩ := hgo m3 d1 d2 d3 d4 (by rw [d5]; omega)
    refine ⟨1 + n1 + n', by omega, m', by rw [run1, er]; exact k1, k2.trans d6, k3.trans d5, k4, ?_⟩
    cases r with
    | no => obtain ⟨z1, z2, z3, z4, z6⟩ := k5; exact ⟨z1, z2.trans (d1.loops.trans hc.loops.symm), z3.trans (d1.inner.trans hc.inner.symm), fun h => by rw [hc.lm, ← d1.lm, ← d7]; exact z4 h, fun h => (z6 h).trans d7⟩
    | yes e => obtain ⟨z1, z2, z3, z4⟩ := k5; exact ⟨z1, z2, z3, fun h => by obtain ⟨a, b, c, d⟩ := z4 h; exact ⟨a.trans (d1.loops.trans hc.loops.symm), b.trans (d1.inner.trans hc.inner.symm), c.trans (d1.lm.trans hc.lm.symm), d.trans d7⟩⟩
end Mine
-- Rx6
namespace Mine
open PySem PySem.Sre
variable {X : Cx} {lam : Array Loop} {iota : Option Nat} {l : Int} {q k : Bool} {K D pc pos : Nat} {r : Res}

/-! ## REPEAT, MAX_UNTIL -/
theorem run_repeat {u : Nat} (h0 : X.C.getD pc 0 = 23) (h1 : pc + 1 + X.C.getD (pc + 1) 0 = u) (hpc : pc < X.C.size)
    (h : RunK X (lam.push { pc, outer := iota }) (some lam.size) l false k K D u pos r) : RunK X lam iota l false k (K + 2) (D + 1) pc pos r := fun m hc ha hp hq hw => by
  have e : m.step = m.exec := step_none hc.fix.out ha (by rw [hp, hc.fix.code]; exact hpc)
  have hw0 : m.word 0 = 23 := (word_eq hc.fix.code hp 0).trans h0
  have hw1 : m.word 1 = X.C.getD (pc + 1) 0 := word_eq hc.fix.code hp 1
  have ex : m.exec = M.attempt { m with seen := m.seen.add (m.word 0), loops := lam.push { pc, outer := iota }, inner := some lam.size } { M.frame m .closeLoop with loop := lam.size } u pos m.outermost := by
    unfold M.exec
    rw [hw0]
    simp only [ops, List.getElem?_toArray, List.getElem?_cons_succ, List.getElem?_cons_zero]
    show M.attempt { m with seen := _, loops := m.loops.push { pc := m.pc, outer := m.inner }, inner := some m.loops.size } { M.frame m .closeLoop with loop := m.loops.size } (m.pc + 1 + m.word 1) m.pos m.outermost = _
    rw [hw1, hp, h1, hc.loops, hc.inner, hq]
  have c1 : Core X (lam.push { pc, outer := iota }) (some lam.size) l pos { m with seen := m.seen.add (m.word 0), loops := lam.push { pc, outer := iota }, inner := some lam.size } :=
    ⟨hc.fix.same, rfl, rfl, hc.lm, hc.iv⟩
  obtain ⟨n1, hn1, m2, g1, g2, g3, g4⟩ := attempt_run (m := { m with seen := m.seen.add (m.word 0), loops := lam.push { pc, outer := iota }, inner := some lam.size }) (f := { M.frame m .closeLoop with loop := lam.size }) (out := m.outermost) c1 ha (by show m.weight + (1 + 0) + D ≤ _; omega) h
  refine ⟨1 + n1, by omega, _, rfl, ?_⟩
  rw [Nat.add_comm 1, runFor_succ, e, ex, g1]
  cases r with
  | yes v => exact ⟨rfl, g2, g3.same, rfl, g4.2.1, g4.2.2.1, fun h => nomatch h⟩
  | no =>
    obtain ⟨z1, z2, z3, z4, z6⟩ := g4
    refine ⟨rfl, g2, g3.same, rfl, ?_, ?_, z4, fun h => nomatch h⟩
    · show m2.loops.pop = m.loops
      rw [z2, hc.loops]; show (lam.push _).pop = lam
      simp
    · show (m2.loops.getD lam.size { pc := 0, outer := none }).outer = m.inner
      rw [z2, hc.inner]
      show ((lam.push { pc, outer := iota }).getD lam.size _).outer = iota
      simp [Array.getD_eq_getD_getElem?]

/-- the way behind the loop -/
theorem tail_run {i : Nat} {L : Loop} {m : M} {c : Int} (hL : lam[i]? = some L) (hc : Core X lam (some i) l pos m) (ha : m.answer = none) (hp : m.pc = pc + 1) (hq : m.pos = pos) (hw : m.weight + (D + X.G + 1) ≤ 16777216)
    (h : RunK X lam L.outer l false k K D (pc + 1) pos r) :
    ∃ n, n ≤ K + 1 ∧ ∃ m', M.runFor n (m.afterLoop .maxTail i c fun _ => false) = m' ∧ m'.frames = m.frames ∧ m'.weight = m.weight ∧ Fix X m' ∧ Came X false k m m' r := by
  have hl : (m.loopAt i) = L := by unfold M.loopAt; rw [hc.loops, Array.getD_eq_getD_getElem?, hL]; rfl
  have ex : m.afterLoop .maxTail i c (fun _ => false) = M.attempt { m with inner := L.outer } { M.frame m .maxTail with loop := i, count := c, kept := M.keep { m with inner := L.outer } false } (pc + 1) pos m.outermost := by
    unfold M.afterLoop
    rw [hl, ← hp, ← hq]; rfl
  have c1 : Core X lam L.outer l pos { m with inner := L.outer } := ⟨hc.fix.same, hc.loops, rfl, hc.lm, hc.iv⟩
  obtain ⟨n1, hn1, m2, g1, g2, g3, g4⟩ := attempt_run (m := { m with inner := L.outer }) (f := { M.frame m .maxTail with loop := i, count := c, kept := M.keep { m with inner := L.outer } false }) (out := m.outermost) c1 ha (by show m.weight + (1 + 0) + D ≤ _; omega) h
  refine ⟨n1, hn1, _, rfl, ?_⟩
  rw [ex, g1]
  cases r with
  | yes v => exact ⟨rfl, g2, g3.same, rfl, g4.2.1, g4.2.2.1, fun h => nomatch h⟩
  | no =>
    obtain ⟨z1, z2, z3, z4, z6⟩ := g4
    exact ⟨rfl, g2, g3.same, rfl, z2, hc.inner.symm, z4, fun h => nomatch h⟩

theorem until_exec {m : M} {i : Nat} {L : Loop} (hL : lam[i]? = some L) (hc : Core X lam (some i) l pos m) (hp : m.pc = pc) (h0 : X.C.getD pc 0 = 18) (hlo : (X.C.getD (L.pc + 2) 0 : Int) ≤ L.count + 1) :
    m.exec = (if ((L.count + 1 < X.C.getD (L.pc + 3) 0 || X.C.getD (L.pc + 3) 0 == maxRepeat) && L.began != some m.pos) = true then
        M.round { m with seen := m.seen.add (m.word 0), pc := pc + 1 } .maxMore i (L.count + 1) true (M.keep { m with seen := m.seen.add (m.word 0), pc := pc + 1 } true)
      else M.afterLoop { m with seen := m.seen.add (m.word 0), pc := pc + 1 } .maxTail i (L.count + 1) fun _ => false) := by
  have hw0 : m.word 0 = 18 := (word_eq hc.fix.code hp 0).trans h0
  have hl : (m.loopAt i) = L := by unfold M.loopAt; rw [hc.loops, Array.getD_eq_getD_getElem?, hL]; rfl
  have key : ∀ m' : M, m'.inner = some i → m'.loopAt i = L → m'.code = X.C → m'.until_ true = (if ((L.count + 1 < X.C.getD (L.pc + 3) 0 || X.C.getD (L.pc + 3) 0 == maxRepeat) && L.began != some m'.pos) = true then
        m'.round .maxMore i (L.count + 1) true (m'.keep true) else m'.afterLoop .maxTail i (L.count + 1) fun _ => false) := by
    intro m' h1 h2 h3
    unfold M.until_
    rw [h1]
    simp only [h2, h3]
    rw [if_neg (by omega), if_neg (by decide)]
  unfold M.exec
  rw [hw0]
  simp only [ops, List.getElem?_toArray, List.getElem?_cons_succ, List.getElem?_cons_zero]
  rw [hp]
  exact key _ hc.inner hl hc.fix.code

/-- the loop does not take another round -/
theorem run_until_end {i : Nat} {L : Loop} (h0 : X.C.getD pc 0 = 18) (hpc : pc < X.C.size) (hL : lam[i]? = some L) (hlo : (X.C.getD (L.pc + 2) 0 : Int) ≤ L.count + 1)
    (hno : L.began = some pos ∨ (¬ L.count + 1 < X.C.getD (L.pc + 3) 0 ∧ X.C.getD (L.pc + 3) 0 ≠ 4294967295))
    (h : RunK X lam L.outer l false k K D (pc + 1) pos r) : RunK X lam (some i) l false k (K + 2) (D + X.G + 1) pc pos r := fun m hc ha hp hq hw => by
  have e : m.step = m.exec := step_none hc.fix.out ha (by rw [hp, hc.fix.code]; exact hpc)
  have ex := until_exec hL hc hp h0 hlo
  have hcond : ((L.count + 1 < X.C.getD (L.pc + 3) 0 || X.C.getD (L.pc + 3) 0 == maxRepeat) && L.began != some m.pos) = false := by
    rw [hq]
    rcases hno with hno | ⟨h1, h2⟩
    · rw [hno]; simp
    · have a : (decide (L.count + 1 < (X.C.getD (L.pc + 3) 0 : Nat))) = false := decide_eq_false h1
      have b : (X.C.getD (L.pc + 3) 0 == maxRepeat) = false := by simpa [maxRepeat] using h2
      rw [a, b]; rfl
  rw [hcond, if_neg Bool.false_ne_true] at ex
  obtain ⟨n1, hn1, m', g1, g2, g3, g4, g5⟩ := tail_run (m := { m with seen := m.seen.add (m.word 0), pc := pc + 1 }) (c := L.count + 1) hL hc.same ha rfl hq hw h
  refine ⟨n1 + 1, by omega, m', by rw [runFor_succ, e, ex]; exact g1, g2, g3, g4, ?_⟩
  cases r <;> exact g5

def turned (L : Loop) (pos : Nat) : Loop := { L with count := L.count + 1, began := some pos }

theorem modify_twice {lam : Array Loop} {i : Nat} {L : Loop} {f g : Loop → Loop} (hL : lam[i]? = some L) (h : g (f L) = L) : (lam.modify i f).modify i g = lam := by
  apply Array.ext_getElem?
  intro j
  rw [Array.getElem?_modify, Array.getElem?_modify]
  by_cases e : i = j
  · subst e; rw [if_pos rfl, if_pos rfl, hL]; simp [h]
  · rw [if_neg e, if_neg e]

/-- one more round; if it fails, the way behind the loop -/
theorem run_until_more {i : Nat} {L : Loop} {K2 D2 : Nat} {rb : Res} (h0 : X.C.getD pc 0 = 18) (hpc : pc < X.C.size) (hL : lam[i]? = some L) (hlo : (X.C.getD (L.pc + 2) 0 : Int) ≤ L.count + 1)
    (hcan : L.count + 1 < X.C.getD (L.pc + 3) 0 ∨ X.C.getD (L.pc + 3) 0 = 4294967295) (hbeg : L.began ≠ some pos)
    {kb : Bool} (hbody : RunK X (lam.modify i fun L => turned L pos) (some i) l false kb K D (L.pc + 4) pos rb)
    (hyes : rb.b = true → r = rb) (hno : rb.b = false → RunK X lam L.outer l false k K2 D2 (pc + 1) pos r) :
    RunK X lam (some i) l false k (K + K2 + 3) (D + D2 + X.G + X.G + 2) pc pos r := fun m hc ha hp hq hw => by
  have e : m.step = m.exec := step_none hc.fix.out ha (by rw [hp, hc.fix.code]; exact hpc)
  have ex := until_exec hL hc hp h0 hlo
  have hcond : ((L.count + 1 < X.C.getD (L.pc + 3) 0 || X.C.getD (L.pc + 3) 0 == maxRepeat) && L.began != some m.pos) = true := by
    rw [hq]
    have b : (L.began != some pos) = true := by simpa using hbeg
    rw [b, Bool.and_true]
    rcases hcan with h | h
    · rw [decide_eq_true h]; rfl
    · rw [h]; simp [maxRepeat]
  rw [hcond, if_pos rfl] at ex
  have hl : ∀ s, (M.loopAt { m with seen := s, pc := pc + 1 } i) = L := fun s => by
    show m.loops.getD i _ = L
    rw [hc.loops, Array.getD_eq_getD_getElem?, hL]; rfl
  -- the state with the loop turned
  obtain ⟨kp, hkp⟩ : ∃ kp, M.keep { m with seen := m.seen.add (m.word 0), pc := pc + 1 } true = kp := ⟨_, rfl⟩
  have hko : KeptOf kp m := by
    rw [← hkp]
    have z := KeptOf.keep { m with seen := m.seen.add (m.word 0), pc := pc + 1 } true
    exact ⟨z.lm, z.part, z.all⟩
  have hks : kp.marks.size ≤ X.G := Nat.le_trans hko.size (Nat.le_of_eq hc.fix.size)
  rw [hkp] at ex
  have ex2 : m.exec = M.attempt { m with seen := m.seen.add (m.word 0), pc := pc + 1, loops := lam.modify i fun L => turned L pos } { M.frame m .maxMore with pc := pc + 1, loop := i, count := L.count + 1, kept := kp, began := L.began } (L.pc + 4) pos m.outermost := by
    rw [ex]
    unfold M.round
    rw [hl]
    show M.attempt { m with seen := m.seen.add (m.word 0), pc := pc + 1, loops := m.loops.modify i fun L' => { L' with count := L.count + 1, began := if true = true then some m.pos else L'.began } } _ _ m.pos _ = _
    have : (m.loops.modify i fun L' => { L' with count := L.count + 1, began := if true = true then some m.pos else L'.began }) = lam.modify i fun L => turned L pos := by
      rw [hc.loops, hq]
      apply Array.ext_getElem?
      intro j
      rw [Array.getElem?_modify, Array.getElem?_modify]
      by_cases e : i = j
      · subst e; rw [if_pos rfl, if_pos rfl, hL]; rfl
      · rw [if_neg e, if_neg e]
    rw [this]
    subst hq
    rfl
  have c1 : Core X (lam.modify i fun L => turned L pos) (some i) l pos { m with seen := m.seen.add (m.word 0), pc := pc + 1, loops := lam.modify i fun L => turned L pos } :=
    ⟨hc.fix.same, rfl, hc.inner, hc.lm, hc.iv⟩
  obtain ⟨n1, hn1, m2, g1, g2, g3, g4⟩ := attempt_run (m := { m with seen := m.seen.add (m.word 0), pc := pc + 1, loops := lam.modify i fun L => turned L pos }) (f := { M.frame m .maxMore with pc := pc + 1, loop := i, count := L.count + 1, kept := kp, began := L.began }) (out := m.outermost) c1 ha
    (by show m.weight + (1 + kp.marks.size) + D ≤ _; omega) hbody
  have run1 : ∀ k, M.runFor (1 + n1 + k) m = M.runFor k (M.resume (pop m2 { M.frame m .maxMore with pc := pc + 1, loop := i, count := L.count + 1, kept := kp, began := L.began } m.frames) { M.frame m .maxMore with pc := pc + 1, loop := i, count := L.count + 1, kept := kp, began := L.began } rb.b) := by
    intro k
    rw [runFor_add, Nat.add_comm 1, runFor_succ, e, ex2, g1]
  cases rb with
  | yes v =>
    rw [hyes rfl]
    refine ⟨1 + n1 + 0, by omega, _, run1 0, ?_⟩
    exact ⟨rfl, g2, g3.same, rfl, g4.2.1, g4.2.2.1, fun h => nomatch h⟩
  | no =>
    obtain ⟨z1, z2, z3, z4, z6⟩ := g4
    have hkw : kp.whole = true := by rw [← hkp]; rfl
    obtain ⟨b1, b2, b4⟩ := back_ok (X := X) (pos' := pos) (m2 := M.setLoop (pop m2 { M.frame m .maxMore with pc := pc + 1, loop := i, count := L.count + 1, kept := kp, began := L.began } m.frames) i fun l => { l with began := L.began }) hko (by rw [hc.lm]; exact hc.iv) (fun h => by rw [hkw] at h; cases h) (g3.size.trans hc.fix.size.symm)
    have hloops : ((M.setLoop ((M.setLoop (pop m2 { M.frame m .maxMore with pc := pc + 1, loop := i, count := L.count + 1, kept := kp, began := L.began } m.frames) i fun l => { l with began := L.began }).putBack kp) i fun l => { l with count := L.count + 1 - 1 })).loops = lam := by
      show (m2.loops.modify i (fun l => { l with began := L.began })).modify i (fun l => { l with count := L.count + 1 - 1 }) = lam
      rw [z2]
      show ((lam.modify i fun L => turned L pos).modify i (fun l => { l with began := L.began })).modify i (fun l => { l with count := L.count + 1 - 1 }) = lam
      apply Array.ext_getElem?
      intro j
      rw [Array.getElem?_modify, Array.getElem?_modify, Array.getElem?_modify]
      by_cases e : i = j
      · subst e
        rw [if_pos rfl, if_pos rfl, if_pos rfl, hL]
        show some _ = some L
        have : L.count + 1 - 1 = L.count := by omega
        cases L
        simp only [turned] at this ⊢
        rw [this]
      · rw [if_neg e, if_neg e, if_neg e]
    have c2 : Core X lam (some i) l pos (M.setLoop ((M.setLoop (pop m2 { M.frame m .maxMore with pc := pc + 1, loop := i, count := L.count + 1, kept := kp, began := L.began } m.frames) i fun l => { l with began := L.began }).putBack kp) i fun l => { l with count := L.count + 1 - 1 }) :=
      ⟨⟨g3.code, g3.text, g3.lim, g3.whole, g3.must, g3.start, g3.out, b1.trans hc.fix.size⟩, hloops, z3.trans hc.inner, b4.trans hc.lm, by rw [hc.lm] at b2; exact X.ml.keep hc.iv b2⟩
    obtain ⟨n', hn', m', k1, k2, k3, k4, k5⟩ := tail_run (m := M.setLoop ((M.setLoop (pop m2 { M.frame m .maxMore with pc := pc + 1, loop := i, count := L.count + 1, kept := kp, began := L.began } m.frames) i fun l => { l with began := L.began }).putBack kp) i fun l => { l with count := L.count + 1 - 1 }) (c := L.count + 1) hL c2 rfl rfl hq
      (by show (pop m2 _ m.frames).weight + (D2 + X.G + 1) ≤ _; rw [g2]; show m.weight + _ ≤ _; omega) (hno rfl)
    refine ⟨1 + n1 + n', by omega, m', (run1 n').trans k1, k2, k3.trans g2, k4, ?_⟩
    cases r with
    | no =>
      obtain ⟨y1, y2, y3, y4, y6⟩ := k5
      refine ⟨y1, y2.trans (hloops.trans hc.loops.symm), y3.trans z3, fun hk => ?_, fun h => nomatch h⟩
      have b4' : (M.setLoop ((M.setLoop (pop m2 { M.frame m .maxMore with pc := pc + 1, loop := i, count := L.count + 1, kept := kp, began := L.began } m.frames) i fun l => { l with began := L.began }).putBack kp) i fun l => { l with count := L.count + 1 - 1 }).lastmark = m.lastmark := b4
      have y4 := y4 hk
      rw [b4'] at y4
      exact X.ml.trans b2 y4
    | yes v => exact ⟨k5.1, k5.2.1, k5.2.2.1, fun h => nomatch h⟩
end Mine
-- Rx7
namespace Mine
open PySem PySem.Sre

/-! ## the codes, read out of the program -/
def intsOf : Expr → List Nat
  | .List elts _ => elts.filterMap fun
    | .Constant (.int i) _ _ => some i.toNat
    | _ => none
  | _ => []
def codeIn : Stmt → List Nat
  | .Assign _ (.Call _ (_ :: _ :: c :: _) _ _) _ => intsOf c
  | _ => []
/-- the code of the pattern _twin_re_(k + 6) -/
def codeNo (k : Nat) : List Nat := match PySem.Challenge.pw_er0026_01.main.body[k + 4]? with
  | some st => codeIn st
  | none => []
open Lean Elab Tactic Meta in
def putCode (k : Nat) : TacticM Unit := do
  let l := codeNo k
  let nat := mkConst ``Nat
  let ls := l.foldr (fun n r => mkApp3 (mkConst ``List.cons [0]) nat (mkRawNatLit n) r) (mkApp (mkConst ``List.nil [0]) nat)
  (← getMainGoal).assign (mkApp2 (mkConst ``Array.mk [0]) nat ls)
def rx6 : Array Nat := by run_tac putCode 0
def rx7 : Array Nat := by run_tac putCode 1
def rx8 : Array Nat := by run_tac putCode 2
def rx9 : Array Nat := by run_tac putCode 3
def rx10 : Array Nat := by run_tac putCode 4
def rx11 : Array Nat := by run_tac putCode 5
def rx12 : Array Nat := by run_tac putCode 6
def rx13 : Array Nat := by run_tac putCode 7
def rx14 : Array Nat := by run_tac putCode 8
def rx15 : Array Nat := by run_tac putCode 9
def rx16 : Array Nat := by run_tac putCode 10
def rx17 : Array Nat := by run_tac putCode 11
def rx18 : Array Nat := by run_tac putCode 12
def rx19 : Array Nat := by run_tac putCode 13
def rx20 : Array Nat := by run_tac putCode 14
def rx21 : Array Nat := by run_tac putCode 15
def rx22 : Array Nat := by run_tac putCode 16
def rx23 : Array Nat := by run_tac putCode 17
def rx24 : Array Nat := by run_tac putCode 18
def rx25 : Array Nat := by run_tac putCode 19
def rx26 : Array Nat := by run_tac putCode 20
def rx27 : Array Nat := by run_tac putCode 21
def rx28 : Array Nat := by run_tac putCode 22
def rx29 : Array Nat := by run_tac putCode 23
def rx30 : Array Nat := by run_tac putCode 24
def rx31 : Array Nat := by run_tac putCode 25
def rx32 : Array Nat := by run_tac putCode 26
def rx33 : Array Nat := by run_tac putCode 27
def rx34 : Array Nat := by run_tac putCode 28
def rx35 : Array Nat := by run_tac putCode 29
def rx36 : Array Nat := by run_tac putCode 30
def rx37 : Array Nat := by run_tac putCode 31
def rx38 : Array Nat := by run_tac putCode 32
def rx39 : Array Nat := by run_tac putCode 33
def rx40 : Array Nat := by run_tac putCode 34
def rx41 : Array Nat := by run_tac putCode 35
def rx42 : Array Nat := by run_tac putCode 36
def rx43 : Array Nat := by run_tac putCode 37
def rx44 : Array Nat := by run_tac putCode 38
def rx45 : Array Nat := by run_tac putCode 39
def rx46 : Array Nat := by run_tac putCode 40
def rx47 : Array Nat := by run_tac putCode 41
def rx48 : Array Nat := by run_tac putCode 42
def rx49 : Array Nat := by run_tac putCode 43
def rx50 : Array Nat := by run_tac putCode 44
def rx51 : Array Nat := by run_tac putCode 45
def rx52 : Array Nat := by run_tac putCode 46
def rx53 : Array Nat := by run_tac putCode 47
def rx54 : Array Nat := by run_tac putCode 48

/-- the signs of the law's texts -/
def Sig : List Nat := [97, 115, 32, 105, 110, 101, 49, 69, 46, 48, 39, 45, 43, 10, 40, 44, 59, 61, 42, 41, 50]
structure Tx (T : Array Nat) : Prop where
  sig : ∀ i, i < T.size → T.getD i 0 ∈ Sig
  len : T.size ≤ 14

def acc? (C : Array Nat) (i c : Nat) : Option Bool := match accepts C i c {} with
  | .ok (b, _) => some b
  | .error _ => none

def fstE {α β : Type} : Except String (α × β) → Option α
  | .ok (a, _) => some a
  | .error _ => none

theorem inSet_seen (C : Array Nat) (c : Nat) : ∀ (fuel i : Nat) (yes : Bool) (s s' : Seen), fstE (inSet C c fuel i yes s) = fstE (inSet C c fuel i yes s')
  | 0, _, _, _, _ => rfl
  | n + 1, i, yes, s, s' => by
    have ih := inSet_seen C c n
    unfold inSet
    simp only []
    split
    · rfl
    · exact ih _ _ _ _
    · split
      · rfl
      · exact ih _ _ _ _
    · split
      · rfl
      · exact ih _ _ _ _
    · split
      · rfl
      · exact ih _ _ _ _
    · cases category (C.getD (i + 1) 0) c with
      | error e => rfl
      | ok b => cases b <;> first | rfl | exact ih _ _ _ _
    · split
      · rfl
      · exact ih _ _ _ _
    · split
      · rfl
      · exact ih _ _ _ _
    · rfl

theorem accepts_seen (C : Array Nat) (i c : Nat) (s s' : Seen) : fstE (accepts C i c s) = fstE (accepts C i c s') := by
  unfold accepts
  simp only []
  split <;> first | rfl | exact inSet_seen ..

theorem acc_of {C : Array Nat} {i c : Nat} {b : Bool} (h : acc? C i c = some b) : Acc C i c b := fun seen => by
  have e := accepts_seen C i c seen {}
  have h' : fstE (accepts C i c {}) = some b := by
    unfold acc? at h
    cases q : accepts C i c {} with
    | error e => rw [q] at h; cases h
    | ok x => obtain ⟨x, y⟩ := x; rw [q] at h; exact h
  rw [h'] at e
  cases q : accepts C i c seen with
  | error e' => rw [q] at e; cases e
  | ok x => obtain ⟨x, y⟩ := x; rw [q] at e; cases e; exact ⟨y, rfl⟩

/-- over all signs the test at i is this one -/
def tab (C : Array Nat) (i : Nat) (P : Nat → Bool) : Bool := Sig.all fun c => acc? C i c == some (P c)
theorem tab_acc {C T : Array Nat} {i : Nat} {P : Nat → Bool} (h : tab C i P = true) (hT : Tx T) {j : Nat} (hj : j < T.size) : Acc C i (T.getD j 0) (P (T.getD j 0)) :=
  acc_of (by simpa using List.all_eq_true.mp h _ (hT.sig j hj))

variable {X : Cx} {lam : Array Loop} {iota : Option Nat} {l : Int} {q : Bool} {K D pc pos : Nat} {r : Res}

/-- a test that no sign passes -/
theorem run_dead {op : Op} (h0 : ops[X.C.getD pc 0]? = some op) (hop : isCh op = true) (hpc : pc < X.C.size) (hT : Tx X.T) (h : tab X.C pc (fun _ => false) = true) : Run X lam iota l q 1 0 pc pos .no := by
  by_cases hl : pos < X.T.size
  · exact run_ch_no h0 hop hpc (.inr (tab_acc h hT hl))
  · exact run_ch_no h0 hop hpc (.inl (Nat.le_of_not_lt hl))
/-- a test ahead of a dead end -/
theorem run_any {op : Op} {w : Nat} {P : Nat → Bool} (h0 : ops[X.C.getD pc 0]? = some op) (hop : isCh op = true) (hpc : pc < X.C.size) (hT : Tx X.T) (ht : tab X.C pc P = true) (hw : itemWidth X.C pc = w)
    (h : Run X lam iota l q K D (pc + w) (pos + 1) .no) : Run X lam iota l q (K + 1) D pc pos .no := by
  by_cases hl : pos < X.T.size
  · have z := tab_acc ht hT hl
    cases hb : P (X.T.getD pos 0) with
    | true => rw [hb] at z; exact run_ch_yes h0 hop hpc hl z hw h
    | false => rw [hb] at z; exact Run.mono (run_ch_no h0 hop hpc (.inr z)) (by omega) (Nat.zero_le _)
  · exact Run.mono (run_ch_no h0 hop hpc (.inl (Nat.le_of_not_lt hl))) (by omega) (Nat.zero_le _)
/-- a test, by its table -/
theorem run_if {op : Op} {w : Nat} {P : Nat → Bool} (h0 : ops[X.C.getD pc 0]? = some op) (hop : isCh op = true) (hpc : pc < X.C.size) (hT : Tx X.T) (ht : tab X.C pc P = true) (hw : itemWidth X.C pc = w)
    (hy : pos < X.T.size → P (X.T.getD pos 0) = true → Run X lam iota l q K D (pc + w) (pos + 1) r) (hn : (pos < X.T.size → P (X.T.getD pos 0) = false) → r = .no) : Run X lam iota l q (K + 1) D pc pos r := by
  by_cases hl : pos < X.T.size
  · have z := tab_acc ht hT hl
    cases hb : P (X.T.getD pos 0) with
    | true => rw [hb] at z; exact run_ch_yes h0 hop hpc hl z hw (hy hl hb)
    | false => rw [hb] at z; rw [hn fun _ => hb]; exact Run.mono (run_ch_no h0 hop hpc (.inr z)) (by omega) (Nat.zero_le _)
  · rw [hn fun h => absurd h hl]
    exact Run.mono (run_ch_no h0 hop hpc (.inl (Nat.le_of_not_lt hl))) (by omega) (Nat.zero_le _)

/-- what match gives -/
def Mt (C : Array Nat) (G : Nat) (T : Array Nat) (p : Nat) (r : Res) : Prop :=
  ∃ K D, K ≤ 1000000 ∧ D ≤ 1000000 ∧ Run ⟨C, T, p, 2 * G, mlA⟩ #[] none (-1) false K D (header C).2 p r
end Mine
-- Rx8
namespace Mine
open PySem PySem.Sre
variable {X : Cx} {lam : Array Loop} {iota : Option Nat} {l : Int} {q : Bool} {K D pc pos : Nat} {r : Res}

theorem run_rep1_far {least : Nat} (h0 : X.C.getD pc 0 = 24) (h2 : X.C.getD (pc + 2) 0 = least) (hpc : pc < X.C.size) (hpos : X.T.size < pos) : Run X lam iota l q 1 0 pc pos .no := by
  refine run_say hpc fun m hc ha hp hq => ?_
  have hw0 : m.word 0 = 24 := (word_eq hc.fix.code hp 0).trans h0
  have hw2 : m.word 2 = least := (word_eq hc.fix.code hp 2).trans h2
  have ex : m.exec = M.say { m with seen := m.seen.add (m.word 0) } false := by
    unfold M.exec
    rw [hw0]
    simp only [ops, List.getElem?_toArray, List.getElem?_cons_succ, List.getElem?_cons_zero]
    show (if ((m.word 2 : Int) > (m.lim : Int) - m.pos) then _ else _) = _
    rw [hw2, if_pos (by rw [hc.fix.lim, hq]; omega)]
  rw [ex]
  exact ⟨rfl, rfl, hc.fix.same, came_say hc _⟩

/-- a greedy run of signs whose tails all fail -/
theorem run_rep1_no {tail least most : Nat} {P : Nat → Bool} (h0 : X.C.getD pc 0 = 24) (ht : pc + 1 + X.C.getD (pc + 1) 0 = tail) (h2 : X.C.getD (pc + 2) 0 = least) (h3 : X.C.getD (pc + 3) 0 = most) (hpc : pc < X.C.size)
    (hT : Tx X.T) (htab : tab X.C (pc + 4) P = true) (h : ∀ i, Run X lam iota l q K D tail (pos + i) .no) : Run X lam iota l q (16 * (K + 2)) (16 * (D + X.G + 1)) pc pos .no := by
  by_cases hpos : X.T.size < pos
  · exact Run.mono (run_rep1_far h0 h2 hpc hpos) (by omega) (Nat.zero_le _)
  · have hn := span_le P X.T (min most (X.T.size - pos)) pos
    have hl := hT.len
    refine Run.mono (run_rep1 (r := .no) (K := 15 * (K + 1)) (D := 15 * (D + X.G + 1)) h0 h2 h3 hpc (Nat.le_of_not_lt hpos) (fun j _ hj => tab_acc htab hT hj) rfl (fun _ => rfl) fun hle => ?_) (by omega) (by omega)
    have g := give_all_no (q := q) (K := K) (D := D) (p := pos) ht h2 (span P X.T pos (min most (X.T.size - pos))) hle fun i _ _ => h i
    intro m m0 kept hc ha hp hq hw
    have e1 : (span P X.T pos (min most (X.T.size - pos)) + 1) * (K + 1) ≤ 15 * (K + 1) := Nat.mul_le_mul_right _ (by omega)
    have e2 : (span P X.T pos (min most (X.T.size - pos)) + 1) * (D + X.G + 1) ≤ 15 * (D + X.G + 1) := Nat.mul_le_mul_right _ (by omega)
    obtain ⟨n, hn', z⟩ := g m m0 kept hc ha hp hq (by omega)
    exact ⟨n, by omega, z⟩

/-- a look at the sign before, whatever it says, ahead of a dead end -/
theorem run_behind_no {skip w : Nat} {P : Nat → Bool} {op : Op} (h0 : X.C.getD pc 0 = 5) (h1 : pc + 1 + X.C.getD (pc + 1) 0 = skip) (h2 : X.C.getD (pc + 2) 0 = 1) (hpc : pc < X.C.size) (hl : l < 0) (hT : Tx X.T)
    (g0 : ops[X.C.getD (pc + 3) 0]? = some op) (gop : isCh op = true) (gpc : pc + 3 < X.C.size) (gt : tab X.C (pc + 3) P = true) (gw : itemWidth X.C (pc + 3) = w) (g1 : X.C.getD (pc + 3 + w) 0 = 1) (g2 : pc + 3 + w < X.C.size)
    (h : Run X lam iota l q K D skip pos .no) : Run X lam iota l q (K + 4) (D + X.G + 1) pc pos .no := by
  by_cases hp : pos < 1
  · exact Run.mono (look_short (n := true) h0 h1 h2 hpc hp (fun _ => h) (fun h => nomatch h)) (by omega) (by omega)
  · have sub : ∃ rs, Run X lam iota l true 2 0 (pc + 3) (pos - 1) rs := by
      by_cases c : pos - 1 < X.T.size ∧ P (X.T.getD (pos - 1) 0) = true
      · exact ⟨_, run_if (r := .yes (pos - 1 + 1)) g0 gop gpc hT gt gw (fun _ _ => run_success g1 g2) fun hx => absurd (hx c.1) (by rw [c.2]; decide)⟩
      · exact ⟨.no, run_if (w := w) (K := 1) (D := 0) g0 gop gpc hT gt gw (fun a b => absurd ⟨a, b⟩ c) fun _ => rfl⟩
    obtain ⟨rs, sub⟩ := sub
    exact Run.mono (run_look (n := true) h0 h1 h2 hpc (by omega) (.inr hl) sub (fun _ => h) fun _ => rfl) (by omega) (by omega)

end Mine
-- Rx9
set_option maxRecDepth 20000
namespace Mine
open PySem PySem.Sre

/-- the signs that pass the test at i -/
def passing (C : Array Nat) (i : Nat) : List Nat := Sig.filter fun c => acc? C i c == some true
def tabOf (S : List Nat) (c : Nat) : Bool := S.contains c

theorem Mt.of {C : Array Nat} {G : Nat} {T : Array Nat} {p K D pc : Nat} {r : Res} (hp : (header C).2 = pc) (h : Run ⟨C, T, p, 2 * G, mlA⟩ #[] none (-1) false K D pc p r) (hK : K ≤ 1000000) (hD : D ≤ 1000000) : Mt C G T p r :=
  ⟨K, D, hK, hD, by rw [hp]; exact h⟩

open Lean Elab Tactic Meta in
/-- the step, then the propositions alone as goals -/
def go1 (t : TSyntax `tactic) : TacticM Unit := do
  evalTactic t
  let gs ← getUnsolvedGoals
  setGoals (← gs.filterM fun g => do Meta.isProp (← g.getType))

open Lean Elab Tactic Meta in
/-- shows Run .. pc .. .no of the code C, l the last mark -/
def rxNo (C : Array Nat) : Nat → Nat → Int → Nat → List (Nat × Nat) → TacticM Unit
  | 0, _, _, _, _ => throwError "rxNo: fuel"
  | fuel + 1, pc, l, sz, stk => do
    let hT := mkIdent `hT
    let w (k : Nat) : Nat := C.getD (pc + k) 0
    let n (k : Nat) : TSyntax `term := ⟨Syntax.mkNumLit (toString k)⟩
    let s (ks : List Nat) : TacticM (TSyntax `term) := do
      let ts := (ks.map n).toArray
      `([$ts,*])
    let some op := ops[w 0]? | throwError "rxNo: no op"
    let last (m : Nat) : TacticM Unit := do
      let gs ← getGoals
      -- the goals that `decide`s closed are gone; the last m are runs
      setGoals (gs.drop (gs.length - m))
    let _ := last
    if isCh op then
      let S := passing C pc
      if S.isEmpty then
        go1 (← `(tactic| refine' run_dead (pc := $(n pc)) (op := ops.getD $(n (w 0)) .FAILURE) rfl rfl (by (try dsimp only); decide +kernel) $hT (by (try dsimp only); decide +kernel)))
      else
        let iw := itemWidth C pc
        go1 (← `(tactic| refine' run_any (pc := $(n pc)) (op := ops.getD $(n (w 0)) .FAILURE) (w := $(n iw)) (P := tabOf $(← s S)) rfl rfl (by (try dsimp only); decide +kernel) $hT (by (try dsimp only); decide +kernel) rfl ?_))
        rxNo C fuel (pc + iw) l sz stk
    else match op with
    | .MARK =>
      let i := w 1
      go1 (← `(tactic| refine' run_mark (pc := $(n pc)) (i := $(n i)) rfl rfl (by (try dsimp only); decide +kernel) (by decide) rfl (by (try dsimp only); decide +kernel) ?_))
      rxNo C fuel (pc + 2) (max l i) sz stk
    | .BRANCH =>
      go1 (← `(tactic| refine' run_branch (pc := $(n pc)) rfl (by (try dsimp only); decide +kernel) ?_))
      let rec alts : Nat → Nat → TacticM Unit
        | 0, _ => throwError "rxNo: fuel"
        | f + 1, alt => do
          if C.getD alt 0 == 0 then go1 (← `(tactic| refine' alt_end (alt := $(n alt)) rfl))
          else
            go1 (← `(tactic| refine' alt_no (alt := $(n alt)) (next := $(n (alt + C.getD alt 0))) (by (try dsimp only); decide +kernel) ?_ rfl ?_))
            let gs ← getGoals
            match gs with
            | g1 :: g2 :: rest =>
              setGoals [g1]
              rxNo C fuel (alt + 1) l sz stk
              setGoals [g2]
              alts f (alt + C.getD alt 0)
              setGoals rest
            | _ => throwError "rxNo: alternatives"
      alts 12 (pc + 1)
    | .REPEAT_ONE =>
      let S := passing C (pc + 4)
      go1 (← `(tactic| refine' run_rep1_no (pc := $(n pc)) (tail := $(n (pc + 1 + w 1))) (least := $(n (w 2))) (most := $(n (w 3))) (P := tabOf $(← s S)) rfl rfl rfl rfl (by (try dsimp only); decide +kernel) $hT (by (try dsimp only); decide +kernel) (fun i => ?_)))
      rxNo C fuel (pc + 1 + w 1) l sz stk
    | .REPEAT =>
      let u := pc + 1 + w 1
      let out ← match stk with
        | [] => `(none)
        | (i, _) :: _ => `(some $(n i))
      go1 (← `(tactic| refine' run_repeat (pc := $(n pc)) (u := $(n u)) rfl rfl (by (try dsimp only); decide +kernel) ?_))
      go1 (← `(tactic| refine' run_until_more (pc := $(n u)) (L := { pc := $(n pc), outer := $out }) (kb := true) (rb := .no) rfl (by (try dsimp only); decide +kernel) rfl (by (try dsimp only); decide +kernel) (by (try dsimp only); decide +kernel) (fun h => nomatch h) ?_ (fun h => nomatch h) (fun _ => ?_)))
      let gs ← getGoals
      match gs with
      | g1 :: g2 :: rest =>
        setGoals [g1]
        rxNo C fuel (pc + 4) l (sz + 1) ((sz, pc) :: stk)
        setGoals [g2]
        rxNo C fuel (u + 1) l (sz + 1) stk
        setGoals rest
      | _ => throwError "rxNo: repeat"
    | .JUMP =>
      go1 (← `(tactic| refine' run_jump (pc := $(n pc)) (pc' := $(n (pc + 1 + w 1))) (.inl rfl) rfl (by (try dsimp only); decide +kernel) ?_))
      rxNo C fuel (pc + 1 + w 1) l sz stk
    | .MAX_UNTIL => match stk with
      | [] => throwError "rxNo: no loop"
      | (_, rp) :: r => do
        let out ← match r with
          | [] => `(none)
          | (i, _) :: _ => `(some $(n i))
        go1 (← `(tactic| refine' run_until_end (pc := $(n pc)) (L := { pc := $(n rp), count := 0, began := some $(mkIdent `p), outer := $out }) rfl (by (try dsimp only); decide +kernel) rfl (by (try dsimp only); decide +kernel) (.inl rfl) ?_))
        rxNo C fuel (pc + 1) l sz r
    | .ASSERT_NOT =>
      let iw := itemWidth C (pc + 3)
      let S := passing C (pc + 3)
      go1 (← `(tactic| refine' run_behind_no (pc := $(n pc)) (skip := $(n (pc + 1 + w 1))) (op := ops.getD $(n (w 3)) .FAILURE) (w := $(n iw)) (P := tabOf $(← s S)) rfl rfl rfl (by (try dsimp only); decide +kernel) (by decide) $hT rfl rfl (by (try dsimp only); decide +kernel) (by (try dsimp only); decide +kernel) rfl rfl (by (try dsimp only); decide +kernel) ?_))
      rxNo C fuel (pc + 1 + w 1) l sz stk
    | _ => throwError "rxNo: an op of another kind at {pc}"

open Lean Elab Tactic Meta in
def rxNoAt (k : Nat) : TacticM Unit := do
  let C := (codeNo k).toArray
  let pc := (header C).2
  let n : TSyntax `term := ⟨Syntax.mkNumLit (toString pc)⟩
  go1 (← `(tactic| refine' Mt.of (pc := $n) rfl ?_ ?_ ?_))
  let gs ← getGoals
  match gs with
  | g1 :: rest =>
    setGoals [g1]
    rxNo C 200 pc (-1) 0 []
    setGoals rest
  | _ => throwError "rxNo: goals"
theorem no10 (T : Array Nat) (hT : Tx T) (p : Nat) : Mt rx10 0 T p .no := by
  run_tac rxNoAt 4
  all_goals ((try dsimp only); decide +kernel)
theorem no11 (T : Array Nat) (hT : Tx T) (p : Nat) : Mt rx11 0 T p .no := by
  run_tac rxNoAt 5
  all_goals ((try dsimp only); decide +kernel)
theorem no13 (T : Array Nat) (hT : Tx T) (p : Nat) : Mt rx13 1 T p .no := by
  run_tac rxNoAt 7
  all_goals ((try dsimp only); decide +kernel)
theorem no14 (T : Array Nat) (hT : Tx T) (p : Nat) : Mt rx14 1 T p .no := by
  run_tac rxNoAt 8
  all_goals ((try dsimp only); decide +kernel)
theorem no15 (T : Array Nat) (hT : Tx T) (p : Nat) : Mt rx15 0 T p .no := by
  run_tac rxNoAt 9
  all_goals ((try dsimp only); decide +kernel)
theorem no16 (T : Array Nat) (hT : Tx T) (p : Nat) : Mt rx16 1 T p .no := by
  run_tac rxNoAt 10
  all_goals ((try dsimp only); decide +kernel)
theorem no17 (T : Array Nat) (hT : Tx T) (p : Nat) : Mt rx17 0 T p .no := by
  run_tac rxNoAt 11
  all_goals ((try dsimp only); decide +kernel)
theorem no18 (T : Array Nat) (hT : Tx T) (p : Nat) : Mt rx18 0 T p .no := by
  run_tac rxNoAt 12
  all_goals ((try dsimp only); decide +kernel)
theorem no20 (T : Array Nat) (hT : Tx T) (p : Nat) : Mt rx20 1 T p .no := by
  run_tac rxNoAt 14
  all_goals ((try dsimp only); decide +kernel)
theorem no24 (T : Array Nat) (hT : Tx T) (p : Nat) : Mt rx24 0 T p .no := by
  run_tac rxNoAt 18
  all_goals ((try dsimp only); decide +kernel)
theorem no29 (T : Array Nat) (hT : Tx T) (p : Nat) : Mt rx29 1 T p .no := by
  run_tac rxNoAt 23
  all_goals ((try dsimp only); decide +kernel)
theorem no30 (T : Array Nat) (hT : Tx T) (p : Nat) : Mt rx30 1 T p .no := by
  run_tac rxNoAt 24
  all_goals ((try dsimp only); decide +kernel)
theorem no31 (T : Array Nat) (hT : Tx T) (p : Nat) : Mt rx31 1 T p .no := by
  run_tac rxNoAt 25
  all_goals ((try dsimp only); decide +kernel)
theorem no32 (T : Array Nat) (hT : Tx T) (p : Nat) : Mt rx32 4 T p .no := by
  run_tac rxNoAt 26
  all_goals ((try dsimp only); decide +kernel)
theorem no33 (T : Array Nat) (hT : Tx T) (p : Nat) : Mt rx33 1 T p .no := by
  run_tac rxNoAt 27
  all_goals ((try dsimp only); decide +kernel)
theorem no34 (T : Array Nat) (hT : Tx T) (p : Nat) : Mt rx34 1 T p .no := by
  run_tac rxNoAt 28
  all_goals ((try dsimp only); decide +kernel)
theorem no35 (T : Array Nat) (hT : Tx T) (p : Nat) : Mt rx35 0 T p .no := by
  run_tac rxNoAt 29
  all_goals ((try dsimp only); decide +kernel)
theorem no36 (T : Array Nat) (hT : Tx T) (p : Nat) : Mt rx36 3 T p .no := by
  run_tac rxNoAt 30
  all_goals ((try dsimp only); decide +kernel)
theorem no37 (T : Array Nat) (hT : Tx T) (p : Nat) : Mt rx37 1 T p .no := by
  run_tac rxNoAt 31
  all_goals ((try dsimp only); decide +kernel)
theorem no38 (T : Array Nat) (hT : Tx T) (p : Nat) : Mt rx38 1 T p .no := by
  run_tac rxNoAt 32
  all_goals ((try dsimp only); decide +kernel)
theorem no39 (T : Array Nat) (hT : Tx T) (p : Nat) : Mt rx39 0 T p .no := by
  run_tac rxNoAt 33
  all_goals ((try dsimp only); decide +kernel)
theorem no40 (T : Array Nat) (hT : Tx T) (p : Nat) : Mt rx40 1 T p .no := by
  run_tac rxNoAt 34
  all_goals ((try dsimp only); decide +kernel)
theorem no41 (T : Array Nat) (hT : Tx T) (p : Nat) : Mt rx41 0 T p .no := by
  run_tac rxNoAt 35
  all_goals ((try dsimp only); decide +kernel)
theorem no42 (T : Array Nat) (hT : Tx T) (p : Nat) : Mt rx42 0 T p .no := by
  run_tac rxNoAt 36
  all_goals ((try dsimp only); decide +kernel)
theorem no43 (T : Array Nat) (hT : Tx T) (p : Nat) : Mt rx43 0 T p .no := by
  run_tac rxNoAt 37
  all_goals ((try dsimp only); decide +kernel)
theorem no44 (T : Array Nat) (hT : Tx T) (p : Nat) : Mt rx44 0 T p .no := by
  run_tac rxNoAt 38
  all_goals ((try dsimp only); decide +kernel)
theorem no45 (T : Array Nat) (hT : Tx T) (p : Nat) : Mt rx45 0 T p .no := by
  run_tac rxNoAt 39
  all_goals ((try dsimp only); decide +kernel)
theorem no46 (T : Array Nat) (hT : Tx T) (p : Nat) : Mt rx46 1 T p .no := by
  run_tac rxNoAt 40
  all_goals ((try dsimp only); decide +kernel)
theorem no47 (T : Array Nat) (hT : Tx T) (p : Nat) : Mt rx47 1 T p .no := by
  run_tac rxNoAt 41
  all_goals ((try dsimp only); decide +kernel)
theorem no48 (T : Array Nat) (hT : Tx T) (p : Nat) : Mt rx48 2 T p .no := by
  run_tac rxNoAt 42
  all_goals ((try dsimp only); decide +kernel)
theorem no49 (T : Array Nat) (hT : Tx T) (p : Nat) : Mt rx49 4 T p .no := by
  run_tac rxNoAt 43
  all_goals ((try dsimp only); decide +kernel)
end Mine
-- Rx10
set_option maxRecDepth 20000
namespace Mine
open PySem PySem.Sre
variable {X : Cx} {lam : Array Loop} {iota : Option Nat} {l : Int} {q : Bool} {K D pc pos : Nat} {r : Res}

/-! ## signs and runs of signs -/
def dg (c : Nat) : Bool := c == 48 || c == 49 || c == 50
def lt (c : Nat) : Bool := c == 97 || c == 115 || c == 105 || c == 110 || c == 101 || c == 69
def wd (c : Nat) : Bool := dg c || lt c
def sp (c : Nat) : Bool := c == 32 || c == 10
def ch (T : Array Nat) (i : Nat) : Nat := T.getD i 0
theorem ch_out {T : Array Nat} {i : Nat} (h : T.size ≤ i) : ch T i = 0 := by
  unfold ch; rw [Array.getD_eq_getD_getElem?, Array.getElem?_eq_none h]; rfl
/-- where a run from i ends -/
def ru (P : Nat → Bool) (T : Array Nat) (i : Nat) : Nat := i + span P T i (T.size - i)
theorem ru_ge (P : Nat → Bool) (T : Array Nat) (i : Nat) : i ≤ ru P T i := Nat.le_add_right ..
theorem ru_le {P : Nat → Bool} {T : Array Nat} {i : Nat} (h : i ≤ T.size) : ru P T i ≤ T.size := by
  have := span_le P T (T.size - i) i
  unfold ru; omega
theorem ru_out {P : Nat → Bool} {T : Array Nat} {i : Nat} (h : T.size ≤ i) : ru P T i = i := by
  unfold ru; rw [Nat.sub_eq_zero_of_le h]; rfl
theorem ru_step {P : Nat → Bool} {T : Array Nat} {i : Nat} (h : i < T.size) : ru P T i = if P (ch T i) then ru P T (i + 1) else i := by
  unfold ru
  rw [show T.size - i = (T.size - (i + 1)) + 1 by omega, span_succ]
  show i + (if P (ch T i) = true then _ else 0) = _
  by_cases hb : P (ch T i) = true
  · rw [if_pos hb, if_pos hb]; omega
  · rw [if_neg hb, if_neg hb]; rfl
theorem ru_no {P : Nat → Bool} {T : Array Nat} {i : Nat} (h : P (ch T i) = false) : ru P T i = i := by
  by_cases hl : i < T.size
  · rw [ru_step hl, h]; rfl
  · exact ru_out (Nat.le_of_not_lt hl)
theorem ru_yes {P : Nat → Bool} {T : Array Nat} {i : Nat} (h : P (ch T i) = true) (h0 : P 0 = false) : ru P T i = ru P T (i + 1) := by
  have hl : i < T.size := by
    apply Nat.lt_of_not_le
    intro hn
    rw [ch_out hn, h0] at h; cases h
  rw [ru_step hl, h]; rfl
theorem ru_in {P : Nat → Bool} {T : Array Nat} : ∀ (n i j : Nat), T.size - i = n → i ≤ j → j < ru P T i → P (ch T j) = true
  | 0, i, j, hn, h1, h2 => by rw [ru_out (by omega)] at h2; omega
  | n + 1, i, j, hn, h1, h2 => by
    rw [ru_step (by omega)] at h2
    cases hb : P (ch T i) with
    | false => rw [hb] at h2; simp at h2; omega
    | true =>
      rw [hb, if_pos rfl] at h2
      by_cases e : i = j
      · subst e; exact hb
      · exact ru_in n (i + 1) j (by omega) (by omega) h2
theorem ru_all {P : Nat → Bool} {T : Array Nat} {i j : Nat} (h1 : i ≤ j) (h2 : j < ru P T i) : P (ch T j) = true := ru_in _ i j rfl h1 h2
theorem ru_stop {P : Nat → Bool} {T : Array Nat} (h0 : P 0 = false) : ∀ (n i : Nat), T.size - i = n → P (ch T (ru P T i)) = false
  | 0, i, hn => by rw [ru_out (by omega), ch_out (by omega)]; exact h0
  | n + 1, i, hn => by
    rw [ru_step (by omega)]
    cases hb : P (ch T i) with
    | false => simpa using hb
    | true => rw [if_pos rfl]; exact ru_stop h0 n (i + 1) (by omega)
theorem ru_end {P : Nat → Bool} {T : Array Nat} (i : Nat) (h0 : P 0 = false) : P (ch T (ru P T i)) = false := ru_stop h0 _ i rfl
theorem lt_of_ch {P : Nat → Bool} {T : Array Nat} {i : Nat} (h : P (ch T i) = true) (h0 : P 0 = false) : i < T.size := by
  apply Nat.lt_of_not_le
  intro hn
  rw [ch_out hn, h0] at h; cases h

/-- a test, by its table -/
theorem run_t {op : Op} {w : Nat} (P : Nat → Bool) (h0 : ops[X.C.getD pc 0]? = some op) (hop : isCh op = true) (hpc : pc < X.C.size) (hT : Tx X.T) (ht : tab X.C pc P = true) (hw : itemWidth X.C pc = w) (hz : P 0 = false)
    (hy : P (ch X.T pos) = true → Run X lam iota l q K D (pc + w) (pos + 1) r) (hn : P (ch X.T pos) = false → r = .no) : Run X lam iota l q (K + 1) D pc pos r :=
  run_if h0 hop hpc hT ht hw (fun _ h => hy h) fun h => by
    by_cases hl : pos < X.T.size
    · exact hn (h hl)
    · exact hn (by rw [ch_out (Nat.le_of_not_lt hl)]; exact hz)

theorem cnt_inf {T : Array Nat} {p : Nat} (hT : Tx T) : min 4294967295 (T.size - p) = T.size - p := by have := hT.len; omega

/-- a greedy run of least signs or more; the tail comes at k of them, and at no more -/
theorem run_star {tail least k : Nat} (P : Nat → Bool) (h0 : X.C.getD pc 0 = 24) (ht : pc + 1 + X.C.getD (pc + 1) 0 = tail) (h2 : X.C.getD (pc + 2) 0 = least) (h3 : X.C.getD (pc + 3) 0 = 4294967295) (hpc : pc < X.C.size)
    (hT : Tx X.T) (htab : tab X.C (pc + 4) P = true) (hpos : pos ≤ X.T.size) (hk : least ≤ k) (hk2 : pos + k ≤ ru P X.T pos)
    (hno : ∀ i, pos + k < i → i ≤ ru P X.T pos → Run X lam iota l q K D tail i .no) (hy : Run X lam iota l q K D tail (pos + k) r) (hr : r = .no → k = least) :
    Run X lam iota l q (16 * (K + 2)) (16 * (D + X.G + 1)) pc pos r := by
  have hl := hT.len
  have hn : ru P X.T pos = pos + span P X.T pos (X.T.size - pos) := rfl
  have hs := span_le P X.T (X.T.size - pos) pos
  refine Run.mono (run_rep1 (P := P) (K := 15 * (K + 1)) (D := 15 * (D + X.G + 1)) h0 h2 h3 hpc hpos (fun j _ hj => tab_acc htab hT hj) (by rw [cnt_inf hT]) (fun hlt => by omega) fun hle => ?_) (by omega) (by omega)
  have e1 : (span P X.T pos (X.T.size - pos) + 1) * (K + 1) ≤ 15 * (K + 1) := Nat.mul_le_mul_right _ (by omega)
  have e2 : (span P X.T pos (X.T.size - pos) + 1) * (D + X.G + 1) ≤ 15 * (D + X.G + 1) := Nat.mul_le_mul_right _ (by omega)
  intro m m0 kept hc ha hp hq hw
  cases r with
  | no =>
    obtain rfl := hr rfl
    have g := give_all_no (q := q) (K := K) (D := D) (p := pos) ht h2 (span P X.T pos (X.T.size - pos)) hle fun i h1 h2 => by
      by_cases e : i = k
      · subst e; exact hy
      · exact hno (pos + i) (by omega) (by omega)
    obtain ⟨n, hn', z⟩ := g m m0 kept hc ha hp hq (by omega)
    exact ⟨n, by omega, z⟩
  | yes e =>
    have g := give_some (q := q) (K := K) (D := D) (p := pos) ht h2 hk hy (span P X.T pos (X.T.size - pos)) (by omega) fun i h1 h2 => hno (pos + i) (by omega) (by omega)
    obtain ⟨n, hn', z⟩ := g m m0 kept hc ha hp hq (by omega)
    exact ⟨n, by omega, z⟩
/-- too few signs -/
theorem run_few {least : Nat} (P : Nat → Bool) (h0 : X.C.getD pc 0 = 24) (h2 : X.C.getD (pc + 2) 0 = least) (h3 : X.C.getD (pc + 3) 0 = 4294967295) (hpc : pc < X.C.size)
    (hT : Tx X.T) (htab : tab X.C (pc + 4) P = true) (hf : ru P X.T pos < pos + least) : Run X lam iota l q 1 0 pc pos .no := by
  by_cases hpos : X.T.size < pos
  · exact run_rep1_far h0 h2 hpc hpos
  · refine run_rep1 (P := P) (K := 0) (D := 0) h0 h2 h3 hpc (Nat.le_of_not_lt hpos) (fun j _ hj => tab_acc htab hT hj) (by rw [cnt_inf hT]) (fun _ => rfl) fun hle => ?_
    have hn : ru P X.T pos = pos + span P X.T pos (X.T.size - pos) := rfl
    omega
/-- a lazy run with too few signs -/
theorem run_lazy_few {least : Nat} (P : Nat → Bool) (h0 : X.C.getD pc 0 = 26) (h2 : X.C.getD (pc + 2) 0 = least) (hpc : pc < X.C.size) (hT : Tx X.T) (htab : tab X.C (pc + 4) P = true)
    (hf : ru P X.T pos < pos + least) (h1 : least ≤ 1) : Run X lam iota l q 1 0 pc pos .no := by
  refine run_say hpc fun m hc ha hp hq => ?_
  have hw0 : m.word 0 = 26 := (word_eq hc.fix.code hp 0).trans h0
  have hw2 : m.word 2 = least := (word_eq hc.fix.code hp 2).trans h2
  have ex : ∃ s', m.exec = M.say { m with seen := s' } false := by
    unfold M.exec
    rw [hw0]
    simp only [ops, List.getElem?_toArray, List.getElem?_cons_succ, List.getElem?_cons_zero]
    show ∃ s', (if ((m.word 2 : Int) > (m.lim : Int) - m.pos) then M.say { m with seen := m.seen.add 26 } false else match Sre.run m.code m.text (m.pc + 4) (min (m.word 2) ((m.lim : Int) - m.pos).toNat) m.pos 0 ((m.seen.add 26).add (m.word 4)) with
      | .error why => _ | .ok (k, seen) => _) = _
    by_cases c : (m.word 2 : Int) > (m.lim : Int) - m.pos
    · exact ⟨_, if_pos c⟩
    · rw [if_neg c, hw2]
      rw [hw2, hc.fix.lim, hq] at c
      have hn : ru P X.T pos = pos + span P X.T pos (X.T.size - pos) := rfl
      have hroom : min least (((m.lim : Int) - m.pos) : Int).toNat = least := by rw [hc.fix.lim, hq]; omega
      obtain ⟨s', er⟩ := run_span (C := X.C) (T := X.T) (i := pc + 4) (P := P) least pos 0 ((m.seen.add 26).add (m.word 4)) (fun j a b => tab_acc htab hT (by omega))
      have hsp : span P X.T pos least < least := by
        have : least = 1 := by
          cases least with
          | zero => exact absurd hf (by have := ru_ge P X.T pos; omega)
          | succ k => omega
        subst this
        rw [show X.T.size - pos = (X.T.size - pos - 1) + 1 by omega, span_succ] at hn
        rw [show (1 : Nat) = 0 + 1 from rfl, span_succ]
        split at hn
        · omega
        · rename_i hb; rw [if_neg hb]; decide
      have er' : Sre.run m.code m.text (m.pc + 4) (min least ((m.lim : Int) - m.pos).toNat) m.pos 0 ((m.seen.add 26).add (m.word 4)) = .ok (span P X.T pos least, s') := by
        rw [hroom, hc.fix.code, hc.fix.text, hp, hq, er, Nat.zero_add]
      rw [er']
      refine ⟨s', ?_⟩
      show (if span P X.T pos least < M.word { m with seen := s' } 2 then _ else _) = _
      rw [show M.word { m with seen := s' } 2 = least from hw2, if_pos hsp]
  obtain ⟨s', ex⟩ := ex
  rw [ex]
  exact ⟨rfl, rfl, hc.fix.same, came_say hc _⟩
/-- an optional sign: with it first, then without -/
theorem run_opt {tail : Nat} {r1 : Res} (c : Nat) (hcz : c ≠ 0) (h0 : X.C.getD pc 0 = 24) (ht : pc + 1 + X.C.getD (pc + 1) 0 = tail) (h2 : X.C.getD (pc + 2) 0 = 0) (h3 : X.C.getD (pc + 3) 0 = 1) (hpc : pc < X.C.size)
    (hT : Tx X.T) (htab : tab X.C (pc + 4) (· == c) = true) (hpos : pos ≤ X.T.size)
    (hy : ch X.T pos = c → Run X lam iota l q K D tail (pos + 1) r1) (hy2 : ch X.T pos = c → r1.b = true → r = r1) (hn : (ch X.T pos = c → r1.b = false) → Run X lam iota l q K D tail pos r) :
    Run X lam iota l q (2 * K + 4) (2 * (D + X.G + 1)) pc pos r := by
  by_cases hc : ch X.T pos = c
  · have hl : pos < X.T.size := by
      apply Nat.lt_of_not_le
      intro hn'
      rw [ch_out hn'] at hc; exact hcz hc.symm
    have hs : span (· == c) X.T pos (min 1 (X.T.size - pos)) = 1 := by
      rw [show min 1 (X.T.size - pos) = 0 + 1 by omega, span_succ]
      have : (X.T.getD pos 0 == c) = true := beq_iff_eq.mpr hc
      rw [this, if_pos rfl]; rfl
    refine Run.mono (run_rep1 (P := (· == c)) (n := 1) (K := K + 1 + (K + 1)) (D := D + X.G + 1 + (D + X.G + 1)) h0 h2 h3 hpc hpos (fun j _ hj => tab_acc htab hT hj) hs (fun hlt => absurd hlt (by omega)) fun _ => ?_) (by omega) (by omega)
    intro m m0 kept hcm ha hp hq hw
    have z := hy hc
    cases r1 with
    | yes e =>
      rw [hy2 hc rfl]
      obtain ⟨n, hn', z⟩ := give_yes ht z m m0 kept hcm ha hp hq (by omega)
      exact ⟨n, by omega, z⟩
    | no =>
      have z0 := hn fun _ => rfl
      have g0 : Give X lam iota l q (K + 1) (D + X.G + 1) pc pos 0 r := by
        cases r with
        | no => have := give_all_no (q := q) (K := K) (D := D) (p := pos) ht h2 0 (Nat.le_refl _) (fun i _ hi => by
          have e : i = 0 := by omega
          subst e
          exact z0)
                simpa using this
        | yes e => have := give_some (q := q) (K := K) (D := D) (p := pos) (k := 0) ht h2 (Nat.le_refl _) z0 0 (Nat.le_refl _) fun i a b => absurd a (by omega)
                   simpa using this
      exact give_no ht h2 z (fun hx => absurd hx (by omega)) (fun _ => g0) m m0 kept hcm ha hp hq hw
  · have hs : span (· == c) X.T pos (min 1 (X.T.size - pos)) = 0 := by
      cases hz : min 1 (X.T.size - pos) with
      | zero => rfl
      | succ k =>
        rw [span_succ]
        have : (X.T.getD pos 0 == c) = false := beq_eq_false_iff_ne.mpr hc
        rw [this]; rfl
    have z0 := hn fun h => absurd h hc
    refine Run.mono (run_rep1 (P := (· == c)) (n := 0) (K := K + 1) (D := D + X.G + 1) h0 h2 h3 hpc hpos (fun j _ hj => tab_acc htab hT hj) hs (fun hlt => absurd hlt (by omega)) fun _ => ?_) (by omega) (by omega)
    cases r with
    | no => have := give_all_no (q := q) (K := K) (D := D) (p := pos) ht h2 0 (Nat.le_refl _) (fun i _ hi => by
          have e : i = 0 := by omega
          subst e
          exact z0)
            simpa using this
    | yes e => have := give_some (q := q) (K := K) (D := D) (p := pos) (k := 0) ht h2 (Nat.le_refl _) z0 0 (Nat.le_refl _) fun i a b => absurd a (by omega)
               simpa using this
end Mine
-- Rx11
set_option maxRecDepth 20000
namespace Mine
open PySem PySem.Sre

open Lean Elab Tactic Meta in
/-- the propositions alone as goals -/
def kp : TacticM Unit := do
  let gs ← getUnsolvedGoals
  setGoals (← gs.filterM fun g => do Meta.isProp (← g.getType))
open Lean Elab Tactic Meta in
def dk : TacticM Unit := do
  evalTactic (← `(tactic| ((try dsimp only); decide +kernel)))

/-! ## what the patterns give that do match -/
def figs (T : Array Nat) (f : Nat) (e : Nat) : Res := if lt (ch T e) = false then .yes e else if f < e then .yes (e - 1) else .no
/-- the end of a comment -/
def cend (T : Array Nat) (p : Nat) : Nat := let e := ru (fun c => c != 10) T p; if e < T.size then e + 1 else e
def pu (c : Nat) : Bool := c == 59 || c == 40 || c == 41 || c == 44 || c == 46
def pm (c : Nat) : Bool := c == 43 || c == 45
def eqs (c : Nat) : Bool := c == 61

variable (T : Array Nat) (hT : Tx T) (p : Nat)
include hT

theorem m12 : Mt rx12 0 T p (if ch T p == 42 then .yes (p + 1) else .no) := by
  refine' Mt.of (pc := 9) rfl ?_ ?_ ?_; run_tac kp
  · refine' run_t ((· == 42)) (pc := 9) (op := .LITERAL) (w := 2) rfl rfl (by run_tac dk) hT (by run_tac dk) rfl rfl (fun h => ?_) (fun h => ?_); run_tac kp
    · rw [h]; exact run_success rfl (by run_tac dk)
    · rw [h]; rfl
  all_goals (run_tac dk)

theorem m51 : Mt rx51 0 T p (if pu (ch T p) then .yes (p + 1) else .no) := by
  refine' Mt.of (pc := 15) rfl ?_ ?_ ?_; run_tac kp
  · refine' run_t (pu) (pc := 15) (op := .IN) (w := 12) rfl rfl (by run_tac dk) hT (by run_tac dk) rfl rfl (fun h => ?_) (fun h => ?_); run_tac kp
    · rw [if_pos h]; exact run_success rfl (by run_tac dk)
    · rw [h]; rfl
  all_goals (run_tac dk)

theorem m8 : Mt rx8 1 T p (if ch T p == 10 then .yes (p + 1) else .no) := by
  cases h : ch T p == 10
  · refine' Mt.of (pc := 10) rfl ?_ ?_ ?_; run_tac kp
    · refine' run_mark (pc := 10) (i := 0) (l' := 0) rfl rfl (by run_tac dk) (by decide) rfl (by run_tac dk) ?_; run_tac kp
      refine' run_branch (pc := 12) rfl (by run_tac dk) ?_; run_tac kp
      refine' alt_no (alt := 13) (next := 20) (by run_tac dk) ?_ rfl ?_; run_tac kp
      · exact run_dead (pc := 14) (op := .LITERAL) rfl rfl (by run_tac dk) hT (by run_tac dk)
      refine' alt_no (alt := 20) (next := 25) (by run_tac dk) ?_ rfl ?_; run_tac kp
      · exact run_dead (pc := 21) (op := .LITERAL) rfl rfl (by run_tac dk) hT (by run_tac dk)
      refine' alt_no (alt := 25) (next := 30) (by run_tac dk) ?_ rfl ?_; run_tac kp
      · refine' run_t (K := 0) (D := 0) ((· == 10)) (pc := 26) (op := .LITERAL) (w := 2) rfl rfl (by run_tac dk) hT (by run_tac dk) rfl rfl (fun h' => ?_) (fun h' => ?_); run_tac kp
        · exact absurd (h.symm.trans h') (by decide)
        · rfl
      · exact alt_end (alt := 30) rfl
    all_goals (run_tac dk)
  · refine' Mt.of (pc := 10) rfl ?_ ?_ ?_; run_tac kp
    · refine' run_mark (pc := 10) (i := 0) (l' := 0) rfl rfl (by run_tac dk) (by decide) rfl (by run_tac dk) ?_; run_tac kp
      refine' run_branch (pc := 12) rfl (by run_tac dk) ?_; run_tac kp
      refine' alt_no (alt := 13) (next := 20) (by run_tac dk) ?_ rfl ?_; run_tac kp
      · exact run_dead (pc := 14) (op := .LITERAL) rfl rfl (by run_tac dk) hT (by run_tac dk)
      refine' alt_no (alt := 20) (next := 25) (by run_tac dk) ?_ rfl ?_; run_tac kp
      · exact run_dead (pc := 21) (op := .LITERAL) rfl rfl (by run_tac dk) hT (by run_tac dk)
      refine' alt_yes (alt := 25) (by run_tac dk) ?_; run_tac kp
      refine' run_t ((· == 10)) (pc := 26) (op := .LITERAL) (w := 2) rfl rfl (by run_tac dk) hT (by run_tac dk) rfl rfl (fun h' => ?_) (fun h' => ?_); run_tac kp
      · refine' run_jump (pc := 28) (pc' := 31) (.inl rfl) rfl (by run_tac dk) ?_; run_tac kp
        refine' run_mark (pc := 31) (i := 1) (l' := 1) rfl rfl (by run_tac dk) (by decide) rfl (by run_tac dk) ?_; run_tac kp
        exact run_success rfl (by run_tac dk)
      · exact absurd (h.symm.trans h') (by decide)
    all_goals (run_tac dk)

theorem m9 : Mt rx9 0 T p (if sp (ch T p) then .yes (p + 1) else .no) := by
  cases h : sp (ch T p) with
  | false =>
    refine' Mt.of (pc := 5) rfl ?_ ?_ ?_; run_tac kp
    · refine' run_lazy_few (pc := 5) (least := 1) sp rfl rfl (by run_tac dk) hT (by run_tac dk) ?_ (Nat.le_refl _); run_tac kp
      show ru sp T p < p + 1
      rw [ru_no h]; omega
    all_goals (run_tac dk)
  | true =>
    have hl : p < T.size := lt_of_ch h rfl
    refine' Mt.of (pc := 5) rfl ?_ ?_ ?_; run_tac kp
    · refine' run_lazy (pc := 5) (least := 1) (P := sp) rfl rfl (by run_tac dk) (by (try dsimp only); omega) (fun j _ hj => tab_acc (by run_tac dk) hT (by (try dsimp only); omega)) ?_ ?_; run_tac kp
      · rw [show (1 : Nat) = 0 + 1 from rfl, span_succ]
        have : sp (T.getD p 0) = true := h
        simp only [this, if_true]; rfl
      · refine' take_yes (X := ⟨rx9, T, p, 2 * 0, mlA⟩) (pc := 5) (tail := 15) rfl ?_; run_tac kp
        exact run_success rfl (by run_tac dk)
    all_goals (run_tac dk)

theorem m53 : Mt rx53 0 T p (if eqs (ch T p) then .yes (ru eqs T p) else .no) := by
  cases h : eqs (ch T p) with
  | false =>
    refine' Mt.of (pc := 5) rfl ?_ ?_ ?_; run_tac kp
    · refine' run_few (pc := 5) (least := 1) eqs rfl rfl rfl (by run_tac dk) hT (by run_tac dk) ?_; run_tac kp
      show ru eqs T p < p + 1
      rw [ru_no h]; omega
    all_goals (run_tac dk)
  | true =>
    have hl : p < T.size := lt_of_ch h rfl
    have hle : ru eqs T p ≤ T.size := ru_le (Nat.le_of_lt hl)
    have hge : p + 1 ≤ ru eqs T p := by rw [ru_yes h rfl]; exact ru_ge ..
    refine' Mt.of (pc := 5) rfl ?_ ?_ ?_; run_tac kp
    · refine' run_star (X := ⟨rx53, T, p, 2 * 0, mlA⟩) (pos := p) (r := .yes (ru eqs T p)) (pc := 5) (tail := 22) (least := 1) (k := ru eqs T p - p) eqs rfl rfl rfl rfl (by run_tac dk) hT (by run_tac dk) (Nat.le_of_lt hl) (by omega) (by (try dsimp only); omega) (fun i a b => absurd b (by (try dsimp only at a ⊢); omega)) ?_ (fun h => nomatch h); run_tac kp
      rw [Nat.add_sub_cancel' (by omega)]
      exact run_success rfl (by run_tac dk)
    all_goals (run_tac dk)

theorem m54 : Mt rx54 0 T p (if pm (ch T p) then .yes (ru pm T p) else .no) := by
  cases h : pm (ch T p) with
  | false =>
    refine' Mt.of (pc := 5) rfl ?_ ?_ ?_; run_tac kp
    · refine' run_few (pc := 5) (least := 1) pm rfl rfl rfl (by run_tac dk) hT (by run_tac dk) ?_; run_tac kp
      show ru pm T p < p + 1
      rw [ru_no h]; omega
    all_goals (run_tac dk)
  | true =>
    have hl : p < T.size := lt_of_ch h rfl
    have hle : ru pm T p ≤ T.size := ru_le (Nat.le_of_lt hl)
    have hge : p + 1 ≤ ru pm T p := by rw [ru_yes h rfl]; exact ru_ge ..
    refine' Mt.of (pc := 5) rfl ?_ ?_ ?_; run_tac kp
    · refine' run_star (X := ⟨rx54, T, p, 2 * 0, mlA⟩) (pos := p) (r := .yes (ru pm T p)) (pc := 5) (tail := 22) (least := 1) (k := ru pm T p - p) pm rfl rfl rfl rfl (by run_tac dk) hT (by run_tac dk) (Nat.le_of_lt hl) (by omega) (by (try dsimp only); omega) (fun i a b => absurd b (by (try dsimp only at a ⊢); omega)) ?_ (fun h => nomatch h); run_tac kp
      rw [Nat.add_sub_cancel' (by omega)]
      exact run_success rfl (by run_tac dk)
    all_goals (run_tac dk)

theorem m50 : Mt rx50 0 T p (if wd (ch T p) then .yes (ru wd T p) else .no) := by
  refine' Mt.of (pc := 8) rfl ?_ ?_ ?_; run_tac kp
  · refine' run_t (wd) (pc := 8) (op := .IN) (w := 5) rfl rfl (by run_tac dk) hT (by run_tac dk) rfl rfl (fun h => ?_) (fun h => ?_); run_tac kp
    · have hl : p < T.size := lt_of_ch h rfl
      have hle : ru wd T (p + 1) ≤ T.size := ru_le hl
      have hge := ru_ge wd T (p + 1)
      rw [if_pos h, ru_yes h rfl]
      refine' run_star (pc := 13) (tail := 26) (least := 0) (k := ru wd T (p + 1) - (p + 1)) wd rfl rfl rfl rfl (by run_tac dk) hT (by run_tac dk) hl (by omega) (by (try dsimp only); omega) (fun i a b => absurd b (by (try dsimp only at a ⊢); omega)) ?_ (fun h => nomatch h); run_tac kp
      rw [Nat.add_sub_cancel' hge]
      exact run_success rfl (by run_tac dk)
    · rw [h]; rfl
  all_goals (run_tac dk)

end Mine
-- Rx12
set_option maxRecDepth 20000
namespace Mine
open PySem PySem.Sre
variable {X : Cx} {lam : Array Loop} {iota : Option Nat} {l : Int} {q : Bool} {K D pc pos : Nat} {r : Res}
/-- a test that does not hold here -/
theorem run_not {op : Op} (P : Nat → Bool) (h0 : ops[X.C.getD pc 0]? = some op) (hop : isCh op = true) (hpc : pc < X.C.size) (hT : Tx X.T) (ht : tab X.C pc P = true) (h : P (ch X.T pos) = false) : Run X lam iota l q 1 0 pc pos .no := by
  by_cases hl : pos < X.T.size
  · have z := tab_acc ht hT hl
    have h' : P (X.T.getD pos 0) = false := h
    rw [h'] at z
    exact run_ch_no h0 hop hpc (.inr z)
  · exact run_ch_no h0 hop hpc (.inl (Nat.le_of_not_lt hl))
/-- a test that holds here -/
theorem run_is {op : Op} {w : Nat} (P : Nat → Bool) (h0 : ops[X.C.getD pc 0]? = some op) (hop : isCh op = true) (hpc : pc < X.C.size) (hT : Tx X.T) (ht : tab X.C pc P = true) (hw : itemWidth X.C pc = w) (hz : P 0 = false) (h : P (ch X.T pos) = true)
    (hy : Run X lam iota l q K D (pc + w) (pos + 1) r) : Run X lam iota l q (K + 1) D pc pos r :=
  run_t P h0 hop hpc hT ht hw hz (fun _ => hy) fun h' => absurd (h.symm.trans h') (by decide)

theorem wd_uni : ∀ c ∈ Sig, isWordUni c = wd c := by decide +kernel
/-- the border behind a word's sign -/
theorem at_border {m : M} (hT : Tx X.T) (h1 : m.text = X.T) (h2 : m.lim = X.T.size) (h3 : m.pos = pos) (hp : 0 < pos) (hl : pos ≤ X.T.size) (hb : wd (ch X.T (pos - 1)) = true) : m.isAt 10 = .ok (!wd (ch X.T pos)) := by
  show Except.ok (m.lim != 0 && ((decide (m.pos > 0) && isWordUni (m.text.getD (m.pos - 1) 0)) != (decide (m.pos < m.lim) && isWordUni (m.text.getD m.pos 0))) == true) = _
  rw [h1, h2, h3]
  have e1 : isWordUni (X.T.getD (pos - 1) 0) = true := (wd_uni _ (hT.sig _ (by omega))).trans hb
  have e2 : (decide (pos < X.T.size) && isWordUni (X.T.getD pos 0)) = wd (ch X.T pos) := by
    by_cases hlt : pos < X.T.size
    · rw [decide_eq_true hlt, Bool.true_and]; exact wd_uni _ (hT.sig _ hlt)
    · rw [decide_eq_false hlt, Bool.false_and, ch_out (Nat.le_of_not_lt hlt)]; rfl
  have e3 : (X.T.size != 0) = true := by simpa using (by omega : X.T.size ≠ 0)
  rw [e1, e2, e3, decide_eq_true (show pos > 0 from hp)]
  cases wd (ch X.T pos) <;> rfl

variable (T : Array Nat) (hT : Tx T) (p : Nat)
include hT

theorem m52 : Mt rx52 1 T p (if ch T p == 45 then .yes (p + 1) else .no) := by
  cases h : ch T p == 45
  · refine' Mt.of (pc := 15) rfl ?_ ?_ ?_; run_tac kp
    · refine' run_mark (pc := 15) (i := 0) (l' := 0) rfl rfl (by run_tac dk) (by decide) rfl (by run_tac dk) ?_; run_tac kp
      refine' run_branch (pc := 17) rfl (by run_tac dk) ?_; run_tac kp
      refine' alt_no (alt := 18) (next := 32) (by run_tac dk) ?_ rfl ?_; run_tac kp
      · run_tac rxNo (codeNo 46).toArray 60 19 0 0 []
      refine' alt_no (alt := 32) (next := 46) (by run_tac dk) ?_ rfl ?_; run_tac kp
      · run_tac rxNo (codeNo 46).toArray 60 33 0 0 []
      refine' alt_no (alt := 46) (next := 53) (by run_tac dk) ?_ rfl ?_; run_tac kp
      · run_tac rxNo (codeNo 46).toArray 60 47 0 0 []
      refine' alt_no (alt := 53) (next := 60) (by run_tac dk) ?_ rfl ?_; run_tac kp
      · run_tac rxNo (codeNo 46).toArray 60 54 0 0 []
      refine' alt_no (alt := 60) (next := 72) (by run_tac dk) ?_ rfl ?_; run_tac kp
      · run_tac rxNo (codeNo 46).toArray 60 61 0 0 []
      refine' alt_no (alt := 72) (next := 79) (by run_tac dk) ?_ rfl ?_; run_tac kp
      · run_tac rxNo (codeNo 46).toArray 60 73 0 0 []
      refine' alt_no (alt := 79) (next := 84) (by run_tac dk) ?_ rfl ?_; run_tac kp
      · exact run_not (pc := 80) (op := .LITERAL) (· == 45) rfl rfl (by run_tac dk) hT (by run_tac dk) h
      refine' alt_no (alt := 84) (next := 91) (by run_tac dk) ?_ rfl ?_; run_tac kp
      · run_tac rxNo (codeNo 46).toArray 60 85 0 0 []
      exact alt_end (alt := 91) rfl
    all_goals (run_tac dk)
  · refine' Mt.of (pc := 15) rfl ?_ ?_ ?_; run_tac kp
    · refine' run_mark (pc := 15) (i := 0) (l' := 0) rfl rfl (by run_tac dk) (by decide) rfl (by run_tac dk) ?_; run_tac kp
      refine' run_branch (pc := 17) rfl (by run_tac dk) ?_; run_tac kp
      refine' alt_no (alt := 18) (next := 32) (by run_tac dk) ?_ rfl ?_; run_tac kp
      · run_tac rxNo (codeNo 46).toArray 60 19 0 0 []
      refine' alt_no (alt := 32) (next := 46) (by run_tac dk) ?_ rfl ?_; run_tac kp
      · run_tac rxNo (codeNo 46).toArray 60 33 0 0 []
      refine' alt_no (alt := 46) (next := 53) (by run_tac dk) ?_ rfl ?_; run_tac kp
      · run_tac rxNo (codeNo 46).toArray 60 47 0 0 []
      refine' alt_no (alt := 53) (next := 60) (by run_tac dk) ?_ rfl ?_; run_tac kp
      · run_tac rxNo (codeNo 46).toArray 60 54 0 0 []
      refine' alt_no (alt := 60) (next := 72) (by run_tac dk) ?_ rfl ?_; run_tac kp
      · run_tac rxNo (codeNo 46).toArray 60 61 0 0 []
      refine' alt_no (alt := 72) (next := 79) (by run_tac dk) ?_ rfl ?_; run_tac kp
      · run_tac rxNo (codeNo 46).toArray 60 73 0 0 []
      refine' alt_yes (alt := 79) (by run_tac dk) ?_; run_tac kp
      refine' run_is (pc := 80) (op := .LITERAL) (w := 2) (· == 45) rfl rfl (by run_tac dk) hT (by run_tac dk) rfl rfl h ?_; run_tac kp
      refine' run_jump (pc := 82) (pc' := 92) (.inl rfl) rfl (by run_tac dk) ?_; run_tac kp
      refine' run_mark (pc := 92) (i := 1) (l' := 1) rfl rfl (by run_tac dk) (by decide) rfl (by run_tac dk) ?_; run_tac kp
      exact run_success rfl (by run_tac dk)
    all_goals (run_tac dk)

/-- AS or IN, then a border -/
def asin (T : Array Nat) (p : Nat) : Bool := (ch T p == 105 && ch T (p + 1) == 110) || (ch T p == 97 && ch T (p + 1) == 115)
theorem m19 : Mt rx19 1 T p (if asin T p && !wd (ch T (p + 2)) then .yes (p + 2) else .no) := by
  have fin : ∀ a b, (fun c => c == a) (ch T p) = true → (fun c => c == b) (ch T (p + 1)) = true → wd a = true → wd b = true → a ≠ 0 → b ≠ 0 → asin T p = true →
      ∃ K D, K ≤ 20 ∧ D ≤ 20 ∧ Run ⟨rx19, T, p, 2 * 1, mlA⟩ #[] none 0 false K D 103 (p + 2) (if asin T p && !wd (ch T (p + 2)) then .yes (p + 2) else .no) := by
    intro a b h1 h2 w1 w2 n1 n2 h3
    have hl1 : p < T.size := lt_of_ch (P := fun c => c == a) h1 (by simpa using fun e => n1 e.symm)
    have hl2 : p + 1 < T.size := lt_of_ch (P := fun c => c == b) h2 (by simpa using fun e => n2 e.symm)
    have e2 : ch T (p + 1) = b := by simpa using h2
    rw [h3, Bool.true_and]
    refine ⟨_, _, ?_, ?_, run_mark (pc := 103) (i := 1) (l' := 1) (K := 2) (D := 0) rfl rfl (by run_tac dk) (by decide) rfl (by run_tac dk) (run_at (pc := 105) (kk := 10) (b := !wd (ch T (p + 2))) (K := 1) (D := 0) rfl rfl (by run_tac dk)
      (fun m h1 h2 h3 => at_border (X := ⟨rx19, T, p, 2 * 1, mlA⟩) hT h1 h2 h3 (by omega) (by (try dsimp only); omega) (by show wd (ch T (p + 2 - 1)) = true; rw [show p + 2 - 1 = p + 1 by omega, e2]; exact w2)) (fun hb => ?_) fun hb => ?_)⟩
    · decide
    · decide
    · rw [if_pos hb]; exact run_success rfl (by run_tac dk)
    · rw [hb]; rfl
  cases hA : (ch T p == 105 && ch T (p + 1) == 110) with
  | true =>
    obtain ⟨a1, a2⟩ := Bool.and_eq_true_iff.mp hA
    obtain ⟨K, D, hK, hD, fin⟩ := fin 105 110 a1 a2 rfl rfl (by decide) (by decide) (by unfold asin; rw [hA]; rfl)
    cases hr : (asin T p && !wd (ch T (p + 2))) with
    | true =>
      rw [hr] at fin
      have fin : Run ⟨rx19, T, p, 2 * 1, mlA⟩ #[] none 0 false 20 20 103 (p + 2) (.yes (p + 2)) := Run.mono fin hK hD
      refine' Mt.of (pc := 5) rfl ?_ ?_ ?_; run_tac kp
      · refine' run_mark (pc := 5) (i := 0) (l' := 0) rfl rfl (by run_tac dk) (by decide) rfl (by run_tac dk) ?_; run_tac kp
        refine' run_branch (pc := 7) rfl (by run_tac dk) ?_; run_tac kp
        refine' alt_no (alt := 8) (next := 24) (by run_tac dk) ?_ rfl ?_; run_tac kp
        · run_tac rxNo (codeNo 13).toArray 60 9 0 0 []
        refine' alt_yes (alt := 24) (by run_tac dk) ?_; run_tac kp
        refine' run_is (pc := 25) (op := .IN_UNI_IGNORE) (w := 7) (· == 105) rfl rfl (by run_tac dk) hT (by run_tac dk) rfl rfl a1 ?_; run_tac kp
        refine' run_is (pc := 32) (op := .LITERAL_UNI_IGNORE) (w := 2) (· == 110) rfl rfl (by run_tac dk) hT (by run_tac dk) rfl rfl a2 ?_; run_tac kp
        refine' run_jump (pc := 34) (pc' := 103) (.inl rfl) rfl (by run_tac dk) ?_; run_tac kp
        exact fin
      all_goals (run_tac dk)
    | false =>
      rw [hr] at fin
      have fin : Run ⟨rx19, T, p, 2 * 1, mlA⟩ #[] none 0 false 20 20 103 (p + 2) .no := Run.mono fin hK hD
      have hne : ch T p ≠ 97 := by
        have : ch T p = 105 := by simpa using a1
        rw [this]; decide
      refine' Mt.of (pc := 5) rfl ?_ ?_ ?_; run_tac kp
      · refine' run_mark (pc := 5) (i := 0) (l' := 0) rfl rfl (by run_tac dk) (by decide) rfl (by run_tac dk) ?_; run_tac kp
        refine' run_branch (pc := 7) rfl (by run_tac dk) ?_; run_tac kp
        refine' alt_no (alt := 8) (next := 24) (by run_tac dk) ?_ rfl ?_; run_tac kp
        · run_tac rxNo (codeNo 13).toArray 60 9 0 0 []
        refine' alt_no (alt := 24) (next := 36) (by run_tac dk) ?_ rfl ?_; run_tac kp
        · refine' run_is (pc := 25) (op := .IN_UNI_IGNORE) (w := 7) (· == 105) rfl rfl (by run_tac dk) hT (by run_tac dk) rfl rfl a1 ?_; run_tac kp
          refine' run_is (pc := 32) (op := .LITERAL_UNI_IGNORE) (w := 2) (· == 110) rfl rfl (by run_tac dk) hT (by run_tac dk) rfl rfl a2 ?_; run_tac kp
          refine' run_jump (pc := 34) (pc' := 103) (.inl rfl) rfl (by run_tac dk) ?_; run_tac kp
          exact fin
        refine' alt_no (alt := 36) (next := 56) (by run_tac dk) ?_ rfl ?_; run_tac kp
        · run_tac rxNo (codeNo 13).toArray 60 37 0 0 []
        refine' alt_no (alt := 56) (next := 79) (by run_tac dk) ?_ rfl ?_; run_tac kp
        · run_tac rxNo (codeNo 13).toArray 60 57 0 0 []
        refine' alt_no (alt := 79) (next := 90) (by run_tac dk) ?_ rfl ?_; run_tac kp
        · run_tac rxNo (codeNo 13).toArray 60 80 0 0 []
        refine' alt_no (alt := 90) (next := 102) (by run_tac dk) ?_ rfl ?_; run_tac kp
        · exact run_not (pc := 91) (op := .LITERAL_UNI_IGNORE) (· == 97) rfl rfl (by run_tac dk) hT (by run_tac dk) (beq_eq_false_iff_ne.mpr hne)
        exact alt_end (alt := 102) rfl
      all_goals (run_tac dk)
  | false =>
    have hi : Run ⟨rx19, T, p, 2 * 1, mlA⟩ #[] none 0 false 20 20 25 p .no := by
      refine Run.mono (run_t (X := ⟨rx19, T, p, 2 * 1, mlA⟩) (K := 1) (D := 0) (· == 105) (pc := 25) (op := .IN_UNI_IGNORE) (w := 7) rfl rfl (by run_tac dk) hT (by run_tac dk) rfl rfl (fun h => ?_) fun _ => rfl) (by decide) (by decide)
      refine run_not (pc := 32) (op := .LITERAL_UNI_IGNORE) (· == 110) rfl rfl (by run_tac dk) hT (by run_tac dk) ?_
      have h' : (ch T p == 105) = true := h
      rw [h', Bool.true_and] at hA; exact hA
    cases hB : (ch T p == 97 && ch T (p + 1) == 115) with
    | true =>
      obtain ⟨a1, a2⟩ := Bool.and_eq_true_iff.mp hB
      obtain ⟨K, D, hK, hD, fin⟩ := fin 97 115 a1 a2 rfl rfl (by decide) (by decide) (by unfold asin; rw [hB, Bool.or_true])
      cases hr : (asin T p && !wd (ch T (p + 2))) with
      | true =>
        rw [hr] at fin
        have fin : Run ⟨rx19, T, p, 2 * 1, mlA⟩ #[] none 0 false 20 20 103 (p + 2) (.yes (p + 2)) := Run.mono fin hK hD
        refine' Mt.of (pc := 5) rfl ?_ ?_ ?_; run_tac kp
        · refine' run_mark (pc := 5) (i := 0) (l' := 0) rfl rfl (by run_tac dk) (by decide) rfl (by run_tac dk) ?_; run_tac kp
          refine' run_branch (pc := 7) rfl (by run_tac dk) ?_; run_tac kp
          refine' alt_no (alt := 8) (next := 24) (by run_tac dk) ?_ rfl ?_; run_tac kp
          · run_tac rxNo (codeNo 13).toArray 60 9 0 0 []
          refine' alt_no (alt := 24) (next := 36) (by run_tac dk) ?_ rfl ?_; run_tac kp
          · exact hi
          refine' alt_no (alt := 36) (next := 56) (by run_tac dk) ?_ rfl ?_; run_tac kp
          · run_tac rxNo (codeNo 13).toArray 60 37 0 0 []
          refine' alt_no (alt := 56) (next := 79) (by run_tac dk) ?_ rfl ?_; run_tac kp
          · run_tac rxNo (codeNo 13).toArray 60 57 0 0 []
          refine' alt_no (alt := 79) (next := 90) (by run_tac dk) ?_ rfl ?_; run_tac kp
          · run_tac rxNo (codeNo 13).toArray 60 80 0 0 []
          refine' alt_yes (alt := 90) (by run_tac dk) ?_; run_tac kp
          refine' run_is (pc := 91) (op := .LITERAL_UNI_IGNORE) (w := 2) (· == 97) rfl rfl (by run_tac dk) hT (by run_tac dk) rfl rfl a1 ?_; run_tac kp
          refine' run_is (pc := 93) (op := .IN_UNI_IGNORE) (w := 7) (· == 115) rfl rfl (by run_tac dk) hT (by run_tac dk) rfl rfl a2 ?_; run_tac kp
          refine' run_jump (pc := 100) (pc' := 103) (.inl rfl) rfl (by run_tac dk) ?_; run_tac kp
          exact fin
        all_goals (run_tac dk)
      | false =>
        rw [hr] at fin
        have fin : Run ⟨rx19, T, p, 2 * 1, mlA⟩ #[] none 0 false 20 20 103 (p + 2) (.no) := Run.mono fin hK hD
        refine' Mt.of (pc := 5) rfl ?_ ?_ ?_; run_tac kp
        · refine' run_mark (pc := 5) (i := 0) (l' := 0) rfl rfl (by run_tac dk) (by decide) rfl (by run_tac dk) ?_; run_tac kp
          refine' run_branch (pc := 7) rfl (by run_tac dk) ?_; run_tac kp
          refine' alt_no (alt := 8) (next := 24) (by run_tac dk) ?_ rfl ?_; run_tac kp
          · run_tac rxNo (codeNo 13).toArray 60 9 0 0 []
          refine' alt_no (alt := 24) (next := 36) (by run_tac dk) ?_ rfl ?_; run_tac kp
          · exact hi
          refine' alt_no (alt := 36) (next := 56) (by run_tac dk) ?_ rfl ?_; run_tac kp
          · run_tac rxNo (codeNo 13).toArray 60 37 0 0 []
          refine' alt_no (alt := 56) (next := 79) (by run_tac dk) ?_ rfl ?_; run_tac kp
          · run_tac rxNo (codeNo 13).toArray 60 57 0 0 []
          refine' alt_no (alt := 79) (next := 90) (by run_tac dk) ?_ rfl ?_; run_tac kp
          · run_tac rxNo (codeNo 13).toArray 60 80 0 0 []
          refine' alt_no (alt := 90) (next := 102) (by run_tac dk) ?_ rfl ?_; run_tac kp
          · skip
            refine' run_is (pc := 91) (op := .LITERAL_UNI_IGNORE) (w := 2) (· == 97) rfl rfl (by run_tac dk) hT (by run_tac dk) rfl rfl a1 ?_; run_tac kp
            refine' run_is (pc := 93) (op := .IN_UNI_IGNORE) (w := 7) (· == 115) rfl rfl (by run_tac dk) hT (by run_tac dk) rfl rfl a2 ?_; run_tac kp
            refine' run_jump (pc := 100) (pc' := 103) (.inl rfl) rfl (by run_tac dk) ?_; run_tac kp
            exact fin
          exact alt_end (alt := 102) rfl
        all_goals (run_tac dk)
    | false =>
      have hr : asin T p = false := by unfold asin; rw [hA, hB]; rfl
      rw [hr]
      refine' Mt.of (pc := 5) rfl ?_ ?_ ?_; run_tac kp
      · refine' run_mark (pc := 5) (i := 0) (l' := 0) rfl rfl (by run_tac dk) (by decide) rfl (by run_tac dk) ?_; run_tac kp
        refine' run_branch (pc := 7) rfl (by run_tac dk) ?_; run_tac kp
        refine' alt_no (alt := 8) (next := 24) (by run_tac dk) ?_ rfl ?_; run_tac kp
        · run_tac rxNo (codeNo 13).toArray 60 9 0 0 []
        refine' alt_no (alt := 24) (next := 36) (by run_tac dk) ?_ rfl ?_; run_tac kp
        · exact hi
        refine' alt_no (alt := 36) (next := 56) (by run_tac dk) ?_ rfl ?_; run_tac kp
        · run_tac rxNo (codeNo 13).toArray 60 37 0 0 []
        refine' alt_no (alt := 56) (next := 79) (by run_tac dk) ?_ rfl ?_; run_tac kp
        · run_tac rxNo (codeNo 13).toArray 60 57 0 0 []
        refine' alt_no (alt := 79) (next := 90) (by run_tac dk) ?_ rfl ?_; run_tac kp
        · run_tac rxNo (codeNo 13).toArray 60 80 0 0 []
        refine' alt_no (alt := 90) (next := 102) (by run_tac dk) ?_ rfl ?_; run_tac kp
        · refine' run_t (K := 1) (D := 0) (· == 97) (pc := 91) (op := .LITERAL_UNI_IGNORE) (w := 2) rfl rfl (by run_tac dk) hT (by run_tac dk) rfl rfl (fun h => ?_) (fun _ => rfl)
          refine run_not (pc := 93) (op := .IN_UNI_IGNORE) (· == 115) rfl rfl (by run_tac dk) hT (by run_tac dk) ?_
          have h' : (ch T p == 97) = true := h
          rw [h', Bool.true_and] at hB; exact hB
        exact alt_end (alt := 102) rfl
      all_goals (run_tac dk)

end Mine
-- Rx13
set_option maxRecDepth 20000
namespace Mine
open PySem PySem.Sre
variable {X : Cx} {lam : Array Loop} {iota : Option Nat} {l : Int} {q : Bool} {K D pc pos : Nat} {r : Res}

/-- a greedy run whose tails all fail -/
theorem run_star_no {tail least : Nat} (P : Nat → Bool) (h0 : X.C.getD pc 0 = 24) (ht : pc + 1 + X.C.getD (pc + 1) 0 = tail) (h2 : X.C.getD (pc + 2) 0 = least) (h3 : X.C.getD (pc + 3) 0 = 4294967295) (hpc : pc < X.C.size)
    (hT : Tx X.T) (htab : tab X.C (pc + 4) P = true) (hno : ∀ i, pos + least ≤ i → i ≤ ru P X.T pos → Run X lam iota l q K D tail i .no) :
    Run X lam iota l q (16 * (K + 2)) (16 * (D + X.G + 1)) pc pos .no := by
  by_cases hf : ru P X.T pos < pos + least
  · exact Run.mono (run_few P h0 h2 h3 hpc hT htab hf) (by omega) (Nat.zero_le _)
  · by_cases hp : pos ≤ X.T.size
    · exact run_star P h0 ht h2 h3 hpc hT htab hp (Nat.le_refl least) (by omega) (fun i a b => hno i (by omega) b) (hno _ (Nat.le_refl _) (by omega)) fun _ => rfl
    · exact Run.mono (run_rep1_far h0 h2 hpc (by omega)) (by omega) (Nat.zero_le _)
/-- a greedy run, all of it, then the tail -/
theorem run_star_all {tail least e : Nat} (P : Nat → Bool) (h0 : X.C.getD pc 0 = 24) (ht : pc + 1 + X.C.getD (pc + 1) 0 = tail) (h2 : X.C.getD (pc + 2) 0 = least) (h3 : X.C.getD (pc + 3) 0 = 4294967295) (hpc : pc < X.C.size)
    (hT : Tx X.T) (htab : tab X.C (pc + 4) P = true) (hpos : pos ≤ X.T.size) (hle : pos + least ≤ ru P X.T pos) (hy : Run X lam iota l q K D tail (ru P X.T pos) (.yes e)) :
    Run X lam iota l q (16 * (K + 2)) (16 * (D + X.G + 1)) pc pos (.yes e) := by
  have := ru_ge P X.T pos
  exact run_star (k := ru P X.T pos - pos) P h0 ht h2 h3 hpc hT htab hpos (by omega) (by omega) (fun i a b => absurd b (by omega)) (by rw [Nat.add_sub_cancel' this]; exact hy) fun h => nomatch h

/-- the rest of a digit run ahead of a border: one may be given back -/
theorem run_star_figs {tail least : Nat} (P : Nat → Bool) (h0 : X.C.getD pc 0 = 24) (ht : pc + 1 + X.C.getD (pc + 1) 0 = tail) (h2 : X.C.getD (pc + 2) 0 = least) (h3 : X.C.getD (pc + 3) 0 = 4294967295) (hpc : pc < X.C.size)
    (hT : Tx X.T) (htab : tab X.C (pc + 4) P = true) (hPl : ∀ c, P c = true → lt c = false) (hpos : pos ≤ X.T.size) (hle : pos + least ≤ ru P X.T pos)
    (hy : ∀ i, Run X lam iota l q K D tail i (if lt (ch X.T i) then .no else .yes i)) :
    Run X lam iota l q (16 * (K + 2)) (16 * (D + X.G + 1)) pc pos (figs X.T (pos + least) (ru P X.T pos)) := by
  have hge := ru_ge P X.T pos
  unfold figs
  cases hl : lt (ch X.T (ru P X.T pos)) with
  | false =>
    rw [if_pos rfl]
    have z := hy (ru P X.T pos)
    rw [hl] at z
    exact run_star_all P h0 ht h2 h3 hpc hT htab hpos hle z
  | true =>
    rw [if_neg (by decide)]
    have z := hy (ru P X.T pos)
    rw [hl, if_pos rfl] at z
    by_cases hlt : pos + least < ru P X.T pos
    · rw [if_pos hlt]
      have z1 := hy (ru P X.T pos - 1)
      have hd : lt (ch X.T (ru P X.T pos - 1)) = false := hPl _ (ru_all (i := pos) (by omega) (by omega))
      rw [hd] at z1
      refine run_star (k := ru P X.T pos - 1 - pos) P h0 ht h2 h3 hpc hT htab hpos (by omega) (by omega) (fun i a b => ?_) (by rw [Nat.add_sub_cancel' (by omega)]; exact z1) fun h => nomatch h
      have e : i = ru P X.T pos := by omega
      rw [e]; exact z
    · rw [if_neg hlt]
      refine run_star_no P h0 ht h2 h3 hpc hT htab fun i a b => ?_
      have e : i = ru P X.T pos := by omega
      rw [e]; exact z

theorem dg_lt : ∀ c, dg c = true → lt c = false := by
  intro c h
  simp only [dg, Bool.or_eq_true, beq_iff_eq] at h
  rcases h with (h | h) | h <;> subst h <;> rfl
theorem lt_wd {c : Nat} (h : lt c = true) : wd c = true := by unfold wd; rw [h, Bool.or_true]
theorem dg_wd {c : Nat} (h : dg c = true) : wd c = true := by unfold wd; rw [h]; rfl
theorem wd_not {c d : Nat} (h : wd c = true) (hd : wd d = false) : (c == d) = false := by
  apply beq_eq_false_iff_ne.mpr
  intro e; subst e; rw [h] at hd; cases hd

variable (T : Array Nat) (hT : Tx T) (p : Nat)
include hT

theorem m22 : Mt rx22 0 T p (if decide (1 ≤ p) && (ch T (p - 1) == 46 && lt (ch T p)) then .yes (ru wd T (p + 1)) else .no) := by
  by_cases hp : 1 ≤ p
  · rw [decide_eq_true hp, Bool.true_and]
    cases h1 : ch T (p - 1) == 46 with
    | false =>
      rw [Bool.false_and]
      refine' Mt.of (pc := 5) rfl ?_ ?_ ?_; run_tac kp
      · refine' run_look (pc := 5) (skip := 11) (back := 1) (n := false) (rs := .no) (K2 := 0) (D2 := 0) rfl rfl rfl (by run_tac dk) hp (.inr (by decide)) ?_ (fun h => absurd rfl h) (fun _ => rfl); run_tac kp
        exact run_not (pc := 8) (op := .LITERAL) (· == 46) rfl rfl (by run_tac dk) hT (by run_tac dk) h1
      all_goals (run_tac dk)
    | true =>
      rw [Bool.true_and]
      have sub : Run ⟨rx22, T, p, 2 * 0, mlA⟩ #[] none (-1) true 2 0 8 (p - 1) (.yes (p - 1 + 1)) :=
        run_is (pc := 8) (op := .LITERAL) (w := 2) (· == 46) rfl rfl (by run_tac dk) hT (by run_tac dk) rfl rfl h1 (run_success rfl (by run_tac dk))
      cases h2 : lt (ch T p) with
      | false =>
        refine' Mt.of (pc := 5) rfl ?_ ?_ ?_; run_tac kp
        · refine' run_look (pc := 5) (skip := 11) (back := 1) (n := false) (rs := .yes (p - 1 + 1)) (K := 2) (D := 0) rfl rfl rfl (by run_tac dk) hp (.inr (by decide)) sub (fun _ => ?_) (fun h => nomatch h); run_tac kp
          exact run_not (pc := 11) (op := .IN_UNI_IGNORE) lt rfl rfl (by run_tac dk) hT (by run_tac dk) h2
        all_goals (run_tac dk)
      | true =>
        have hl : p < T.size := lt_of_ch h2 rfl
        rw [if_pos rfl]
        refine' Mt.of (pc := 5) rfl ?_ ?_ ?_; run_tac kp
        · refine' run_look (pc := 5) (skip := 11) (back := 1) (n := false) (rs := .yes (p - 1 + 1)) (K := 2) (D := 0) rfl rfl rfl (by run_tac dk) hp (.inr (by decide)) sub (fun _ => ?_) (fun h => nomatch h); run_tac kp
          refine' run_is (pc := 11) (op := .IN_UNI_IGNORE) (w := 93) lt rfl rfl (by run_tac dk) hT (by run_tac dk) rfl rfl h2 ?_; run_tac kp
          refine' run_star_all (X := ⟨rx22, T, p, 2 * 0, mlA⟩) (pc := 104) (pos := p + 1) (tail := 114) (least := 0) wd rfl rfl rfl rfl (by run_tac dk) hT (by run_tac dk) hl (ru_ge ..) ?_; run_tac kp
          exact run_success rfl (by run_tac dk)
        all_goals (run_tac dk)
  · rw [decide_eq_false hp, Bool.false_and]
    refine' Mt.of (pc := 5) rfl ?_ ?_ ?_; run_tac kp
    · exact look_short (pc := 5) (skip := 11) (back := 1) (n := false) (K := 0) (D := 0) rfl rfl rfl (by run_tac dk) (by omega) (fun h => nomatch h) (fun _ => rfl)
    all_goals (run_tac dk)

theorem m23 : Mt rx23 0 T p (if lt (ch T p) && ch T (ru wd T p) == 40 then .yes (ru wd T p) else .no) := by
  have look : ∀ i, Run ⟨rx23, T, p, 2 * 0, mlA⟩ #[] none (-1) false 10 10 108 i (if ch T i == 40 then .yes i else .no) := fun i => by
    cases h : ch T i == 40 with
    | false =>
      exact Run.mono (run_look (pc := 108) (skip := 114) (back := 0) (n := false) (rs := .no) (K := 1) (D := 0) (K2 := 0) (D2 := 0) rfl rfl rfl (by run_tac dk) (Nat.zero_le _) (.inl rfl)
        (run_not (pc := 111) (op := .LITERAL) (· == 40) rfl rfl (by run_tac dk) hT (by run_tac dk) h) (fun h => absurd rfl h) (fun _ => rfl)) (by decide) (by run_tac dk)
    | true =>
      exact Run.mono (run_look (pc := 108) (skip := 114) (back := 0) (n := false) (rs := .yes (i + 1)) (K := 2) (D := 0) (K2 := 1) (D2 := 0) rfl rfl rfl (by run_tac dk) (Nat.zero_le _) (.inl rfl)
        (run_is (pc := 111) (op := .LITERAL) (w := 2) (· == 40) rfl rfl (by run_tac dk) hT (by run_tac dk) rfl rfl h (run_success rfl (by run_tac dk))) (fun _ => run_success rfl (by run_tac dk)) (fun h => nomatch h)) (by decide) (by run_tac dk)
  cases h2 : lt (ch T p) with
  | false =>
    refine' Mt.of (pc := 5) rfl ?_ ?_ ?_; run_tac kp
    · exact run_not (pc := 5) (op := .IN_UNI_IGNORE) lt rfl rfl (by run_tac dk) hT (by run_tac dk) h2
    all_goals (run_tac dk)
  | true =>
    have hl : p < T.size := lt_of_ch h2 rfl
    rw [Bool.true_and, ru_yes (lt_wd h2) rfl]
    cases h3 : ch T (ru wd T (p + 1)) == 40 with
    | false =>
      refine' Mt.of (pc := 5) rfl ?_ ?_ ?_; run_tac kp
      · refine' run_is (pc := 5) (op := .IN_UNI_IGNORE) (w := 93) lt rfl rfl (by run_tac dk) hT (by run_tac dk) rfl rfl h2 ?_; run_tac kp
        refine' run_star_no (X := ⟨rx23, T, p, 2 * 0, mlA⟩) (pc := 98) (pos := p + 1) (tail := 108) (least := 0) (K := 10) (D := 10) wd rfl rfl rfl rfl (by run_tac dk) hT (by run_tac dk) fun i a b => ?_; run_tac kp
        have z := look i
        by_cases e : i = ru wd T (p + 1)
        · rw [e, h3] at z; rw [e]; exact z
        · rw [wd_not (ru_all (T := T) (i := p + 1) (by omega) (by (try dsimp only at b); omega)) rfl] at z; exact z
      all_goals (run_tac dk)
    | true =>
      rw [if_pos rfl]
      refine' Mt.of (pc := 5) rfl ?_ ?_ ?_; run_tac kp
      · refine' run_is (pc := 5) (op := .IN_UNI_IGNORE) (w := 93) lt rfl rfl (by run_tac dk) hT (by run_tac dk) rfl rfl h2 ?_; run_tac kp
        refine' run_star_all (X := ⟨rx23, T, p, 2 * 0, mlA⟩) (pc := 98) (pos := p + 1) (tail := 108) (least := 0) (K := 10) (D := 10) wd rfl rfl rfl rfl (by run_tac dk) hT (by run_tac dk) hl (ru_ge ..) ?_; run_tac kp
        have z := look (ru wd T (p + 1))
        rw [h3] at z; exact z
      all_goals (run_tac dk)

/-- blanks, then a dot with no figure behind it -/
def dotAt (T : Array Nat) (i : Nat) : Bool := ch T (ru sp T i) == 46 && !dg (ch T (ru sp T i + 1))
theorem m21 : Mt rx21 0 T p (if lt (ch T p) && dotAt T (ru wd T p) then .yes (ru wd T p) else .no) := by
  -- the dot itself
  have dot : ∀ i, Run ⟨rx21, T, p, 2 * 0, mlA⟩ #[] none (-1) true 10 10 121 i (if ch T i == 46 && !dg (ch T (i + 1)) then .yes (i + 1) else .no) := fun i => by
    cases h : ch T i == 46 with
    | false => exact Run.mono (run_not (pc := 121) (op := .LITERAL) (· == 46) rfl rfl (by run_tac dk) hT (by run_tac dk) h) (by decide) (by decide)
    | true =>
      rw [Bool.true_and]
      refine Run.mono (run_is (K := 9) (D := 9) (pc := 121) (op := .LITERAL) (w := 2) (· == 46) rfl rfl (by run_tac dk) hT (by run_tac dk) rfl rfl h ?_) (by decide) (by decide)
      cases hd : dg (ch T (i + 1)) with
      | false =>
        exact Run.mono (run_look (pc := 123) (skip := 132) (back := 0) (n := true) (rs := .no) (K := 1) (D := 0) (K2 := 1) (D2 := 0) rfl rfl rfl (by run_tac dk) (Nat.zero_le _) (.inl rfl)
          (run_not (pc := 126) (op := .IN) dg rfl rfl (by run_tac dk) hT (by run_tac dk) hd) (fun _ => run_success rfl (by run_tac dk)) (fun h => nomatch h)) (by decide) (by run_tac dk)
      | true =>
        exact Run.mono (run_look (pc := 123) (skip := 132) (back := 0) (n := true) (rs := .yes (i + 1 + 1)) (K := 2) (D := 0) (K2 := 0) (D2 := 0) rfl rfl rfl (by run_tac dk) (Nat.zero_le _) (.inl rfl)
          (run_is (pc := 126) (op := .IN) (w := 5) dg rfl rfl (by run_tac dk) hT (by run_tac dk) rfl rfl hd (run_success rfl (by run_tac dk))) (fun h => absurd rfl h) (fun _ => rfl)) (by decide) (by run_tac dk)
  -- the look
  have look : ∀ i, i ≤ T.size → Run ⟨rx21, T, p, 2 * 0, mlA⟩ #[] none (-1) false 300 300 108 i (if dotAt T i then .yes i else .no) := fun i hi => by
    have z := dot (ru sp T i)
    have hnb : ∀ j, i ≤ j → j < ru sp T i → Run ⟨rx21, T, p, 2 * 0, mlA⟩ #[] none (-1) true 10 10 121 j .no := fun j a b => by
      have z := dot j
      have : (ch T j == 46) = false := by
        have hs : sp (ch T j) = true := ru_all a b
        apply beq_eq_false_iff_ne.mpr
        intro e; rw [e] at hs; cases hs
      rw [this] at z; exact z
    unfold dotAt
    cases h : ch T (ru sp T i) == 46 && !dg (ch T (ru sp T i + 1)) with
    | false =>
      rw [h] at z
      refine Run.mono (run_look (pc := 108) (skip := 133) (back := 0) (n := false) (rs := .no) (K := 192) (D := 176) (K2 := 0) (D2 := 0) rfl rfl rfl (by run_tac dk) (Nat.zero_le _) (.inl rfl)
        (run_star_no (K := 10) (D := 10) (pc := 111) (tail := 121) (least := 0) sp rfl rfl rfl rfl (by run_tac dk) hT (by run_tac dk) fun j a b => ?_) (fun h => absurd rfl h) (fun _ => rfl)) (by decide) (by run_tac dk)
      simp only [Nat.sub_zero] at a b
      by_cases e : j = ru sp T i
      · rw [e]; exact z
      · exact hnb j (by omega) (by omega)
    | true =>
      rw [h] at z
      exact Run.mono (run_look (pc := 108) (skip := 133) (back := 0) (n := false) (rs := .yes (ru sp T i + 1)) (K := 192) (D := 176) (K2 := 1) (D2 := 0) rfl rfl rfl (by run_tac dk) (Nat.zero_le _) (.inl rfl)
        (run_star_all (X := ⟨rx21, T, p, 2 * 0, mlA⟩) (pos := i) (K := 10) (D := 10) (pc := 111) (tail := 121) (least := 0) sp rfl rfl rfl rfl (by run_tac dk) hT (by run_tac dk) hi (ru_ge ..) z) (fun _ => run_success rfl (by run_tac dk)) (fun h => nomatch h)) (by decide) (by run_tac dk)
  cases h2 : lt (ch T p) with
  | false =>
    refine' Mt.of (pc := 5) rfl ?_ ?_ ?_; run_tac kp
    · exact run_not (pc := 5) (op := .IN_UNI_IGNORE) lt rfl rfl (by run_tac dk) hT (by run_tac dk) h2
    all_goals (run_tac dk)
  | true =>
    have hl : p < T.size := lt_of_ch h2 rfl
    have hle : ru wd T (p + 1) ≤ T.size := ru_le hl
    rw [Bool.true_and, ru_yes (lt_wd h2) rfl]
    cases h3 : dotAt T (ru wd T (p + 1)) with
    | false =>
      refine' Mt.of (pc := 5) rfl ?_ ?_ ?_; run_tac kp
      · refine' run_is (pc := 5) (op := .IN_UNI_IGNORE) (w := 93) lt rfl rfl (by run_tac dk) hT (by run_tac dk) rfl rfl h2 ?_; run_tac kp
        refine' run_star_no (X := ⟨rx21, T, p, 2 * 0, mlA⟩) (pc := 98) (pos := p + 1) (tail := 108) (least := 0) (K := 300) (D := 300) wd rfl rfl rfl rfl (by run_tac dk) hT (by run_tac dk) fun i a b => ?_; run_tac kp
        have z := look i (by (try dsimp only at b); omega)
        by_cases e : i = ru wd T (p + 1)
        · rw [e, h3] at z; rw [e]; exact z
        · have hw : wd (ch T i) = true := ru_all (i := p + 1) (by omega) (by (try dsimp only at b); omega)
          have hs : sp (ch T i) = false := by
            cases hs : sp (ch T i) with
            | false => rfl
            | true =>
              exfalso
              simp only [sp, Bool.or_eq_true, beq_iff_eq] at hs
              rcases hs with hs | hs <;> rw [hs] at hw <;> cases hw
          have : dotAt T i = false := by unfold dotAt; rw [ru_no hs, wd_not hw rfl]; rfl
          rw [this] at z; exact z
      all_goals (run_tac dk)
    | true =>
      rw [if_pos rfl]
      refine' Mt.of (pc := 5) rfl ?_ ?_ ?_; run_tac kp
      · refine' run_is (pc := 5) (op := .IN_UNI_IGNORE) (w := 93) lt rfl rfl (by run_tac dk) hT (by run_tac dk) rfl rfl h2 ?_; run_tac kp
        refine' run_star_all (X := ⟨rx21, T, p, 2 * 0, mlA⟩) (pc := 98) (pos := p + 1) (tail := 108) (least := 0) (K := 300) (D := 300) wd rfl rfl rfl rfl (by run_tac dk) hT (by run_tac dk) hl (ru_ge ..) ?_; run_tac kp
        have z := look (ru wd T (p + 1)) hle
        rw [h3] at z; exact z
      all_goals (run_tac dk)
end Mine
-- Rx14
set_option maxRecDepth 20000
namespace Mine
open PySem PySem.Sre
variable {X : Cx} {lam : Array Loop} {iota : Option Nat} {l : Int} {q : Bool} {K D pc pos : Nat} {r : Res}

/-- where a number begins behind its sign -/
def sgn (T : Array Nat) (p : Nat) : Nat := if ch T p == 45 then p + 1 else p
def int27 (T : Array Nat) (f : Nat) : Res := if ru dg T f ≤ f then .no else figs T (f + 1) (ru dg T f)
def flt26 (T : Array Nat) (f : Nat) : Res :=
  if f < ru dg T f then (if ch T (ru dg T f) == 46 then figs T (ru dg T f + 1) (ru dg T (ru dg T f + 1)) else .no)
  else if ch T f == 46 then (if ru dg T (f + 1) ≤ f + 1 then .no else figs T (f + 2) (ru dg T (f + 1))) else .no
def pow25 (T : Array Nat) (i : Nat) : Res :=
  if ch T i == 101 || ch T i == 69 then (if sgn T (i + 1) < ru dg T (sgn T (i + 1)) then .yes (ru dg T (sgn T (i + 1))) else .no) else .no
def exp25 (T : Array Nat) (e : Nat) : Res :=
  if ch T e == 46 then (if e + 1 < ru dg T (e + 1) then pow25 T (ru dg T (e + 1)) else .no) else pow25 T e
def flt25 (T : Array Nat) (f : Nat) : Res := if f < ru dg T f then exp25 T (ru dg T f) else .no

/-- a border: no letter ahead -/
theorem run_border {skip : Nat} (h0 : X.C.getD pc 0 = 5) (h1 : pc + 1 + X.C.getD (pc + 1) 0 = skip) (h2 : X.C.getD (pc + 2) 0 = 0) (hpc : pc < X.C.size) (hT : Tx X.T)
    (g0 : ops[X.C.getD (pc + 3) 0]? = some .IN_UNI_IGNORE) (gpc : pc + 3 < X.C.size) (gt : tab X.C (pc + 3) lt = true) (gw : itemWidth X.C (pc + 3) = 93) (g1 : X.C.getD (pc + 3 + 93) 0 = 1) (g2 : pc + 3 + 93 < X.C.size)
    (h : lt (ch X.T pos) = false → Run X lam iota l q K D skip pos r) (hn : lt (ch X.T pos) = true → r = .no) : Run X lam iota l q (K + 4) (D + X.G + 1) pc pos r := by
  cases hl : lt (ch X.T pos) with
  | false =>
    exact Run.mono (run_look (n := true) (rs := .no) (K := 1) (D := 0) h0 h1 h2 hpc (Nat.zero_le _) (.inl rfl) (run_not (op := .IN_UNI_IGNORE) lt g0 rfl gpc hT gt hl) (fun _ => h hl) (fun h => nomatch h)) (by omega) (by omega)
  | true =>
    exact Run.mono (run_look (n := true) (rs := .yes (pos + 1)) (K := 2) (D := 0) (K2 := 0) (D2 := 0) h0 h1 h2 hpc (Nat.zero_le _) (.inl rfl) (run_is (op := .IN_UNI_IGNORE) lt g0 rfl gpc hT gt gw rfl hl (run_success g1 g2)) (fun h => absurd rfl h) (fun _ => hn hl)) (by omega) (by omega)

variable (T : Array Nat) (hT : Tx T) (p : Nat)
include hT

theorem sgn_le {p : Nat} (h : p ≤ T.size) : sgn T p ≤ T.size := by
  unfold sgn
  split
  · rename_i hc
    exact lt_of_ch (P := (· == 45)) hc rfl
  · exact h

theorem m27 (hp : p ≤ T.size) : Mt rx27 0 T p (if lt (ch T p) then .no else int27 T (sgn T p)) := by
  have fin : ∀ i, Run ⟨rx27, T, p, 2 * 0, mlA⟩ #[] none (-1) false 5 1 119 i (if lt (ch T i) then .no else .yes i) := fun i =>
    run_border (pc := 119) (skip := 216) (K := 1) (D := 0) rfl rfl rfl (by run_tac dk) hT rfl (by run_tac dk) (by run_tac dk) rfl rfl (by run_tac dk) (fun h => by (try dsimp only at h); rw [h]; exact run_success rfl (by run_tac dk)) (fun h => by (try dsimp only at h); rw [h]; rfl)
  have num : ∀ f, f ≤ T.size → Run ⟨rx27, T, p, 2 * 0, mlA⟩ #[] none (-1) false 200 200 109 f (int27 T f) := fun f hf => by
    unfold int27
    by_cases h : ru dg T f ≤ f
    · rw [if_pos h]
      exact Run.mono (run_few (pc := 109) (least := 1) dg rfl rfl rfl (by run_tac dk) hT (by run_tac dk) (by (try dsimp only); omega)) (by decide) (by decide)
    · rw [if_neg h]
      exact Run.mono (run_star_figs (X := ⟨rx27, T, p, 2 * 0, mlA⟩) (pos := f) (K := 5) (D := 1) (pc := 109) (tail := 119) (least := 1) dg rfl rfl rfl rfl (by run_tac dk) hT (by run_tac dk) dg_lt hf (by (try dsimp only); omega) fin) (by decide) (by run_tac dk)
  refine' Mt.of (pc := 5) rfl ?_ ?_ ?_; run_tac kp
  · refine' run_border (pc := 5) (skip := 102) rfl rfl rfl (by run_tac dk) hT rfl (by run_tac dk) (by run_tac dk) rfl rfl (by run_tac dk) (fun h => ?_) (fun h => by (try dsimp only at h); rw [h]; rfl); run_tac kp
    have h : lt (ch T p) = false := h
    rw [h, if_neg Bool.false_ne_true]
    refine' run_opt (X := ⟨rx27, T, p, 2 * 0, mlA⟩) (pc := 102) (tail := 109) (r1 := int27 T (p + 1)) (K := 200) (D := 200) 45 (by decide) rfl rfl rfl rfl (by run_tac dk) hT (by run_tac dk) hp (fun hc => ?_) (fun hc _ => ?_) (fun hc => ?_); run_tac kp
    · have hc : ch T p = 45 := hc
      exact num (p + 1) (lt_of_ch (P := (· == 45)) (beq_iff_eq.mpr hc) rfl)
    · have hc : ch T p = 45 := hc
      unfold sgn; rw [hc]; rfl
    · have z := num p hp
      by_cases hc' : ch T p = 45
      · have : int27 T (sgn T p) = .no := by
          have e : sgn T p = p + 1 := by unfold sgn; rw [hc']; rfl
          rw [e]
          have := hc hc'
          cases h : int27 T (p + 1) with
          | no => rfl
          | yes e => rw [h] at this; cases this
        rw [this]
        have : int27 T p = .no := by unfold int27; rw [ru_no (by rw [hc']; rfl), if_pos (Nat.le_refl _)]
        rw [this] at z; exact z
      · have : sgn T p = p := by unfold sgn; rw [if_neg (by simpa using hc')]
        rw [this]; exact z
  all_goals (run_tac dk)

theorem m26 (hp : p ≤ T.size) : Mt rx26 2 T p (if lt (ch T p) then .no else flt26 T (sgn T p)) := by
  have fin : ∀ (l : Int) i, Run ⟨rx26, T, p, 2 * 2, mlA⟩ #[] none l false 5 5 159 i (if lt (ch T i) then .no else .yes i) := fun l i =>
    run_border (pc := 159) (skip := 256) (K := 1) (D := 0) rfl rfl rfl (by run_tac dk) hT rfl (by run_tac dk) (by run_tac dk) rfl rfl (by run_tac dk) (fun h => by (try dsimp only at h); rw [h]; exact run_success rfl (by run_tac dk)) (fun h => by (try dsimp only at h); rw [h]; rfl)
  have end3 : ∀ i, Run ⟨rx26, T, p, 2 * 2, mlA⟩ #[] none 2 false 8 5 137 i (if lt (ch T i) then .no else .yes i) := fun i =>
    run_mark (pc := 137) (i := 3) (l' := 3) rfl rfl (by run_tac dk) (by decide) rfl (by run_tac dk) (run_jump (pc := 139) (pc' := 157) (.inl rfl) rfl (by run_tac dk)
      (run_mark (pc := 157) (i := 1) (l' := 3) rfl rfl (by run_tac dk) (by decide) rfl (by run_tac dk) (fin 3 i)))
  have end1 : ∀ i, Run ⟨rx26, T, p, 2 * 2, mlA⟩ #[] none 0 false 7 5 154 i (if lt (ch T i) then .no else .yes i) := fun i =>
    run_jump (pc := 154) (pc' := 157) (.inl rfl) rfl (by run_tac dk) (run_mark (pc := 157) (i := 1) (l' := 1) rfl rfl (by run_tac dk) (by decide) rfl (by run_tac dk) (fin 1 i))
  -- the figures behind the dot
  have frac : ∀ i, i ≤ T.size → Run ⟨rx26, T, p, 2 * 2, mlA⟩ #[] none 2 false 200 200 127 i (figs T i (ru dg T i)) := fun i hi =>
    Run.mono (run_star_figs (X := ⟨rx26, T, p, 2 * 2, mlA⟩) (pos := i) (K := 8) (D := 5) (pc := 127) (tail := 137) (least := 0) dg rfl rfl rfl rfl (by run_tac dk) hT (by run_tac dk) dg_lt hi (ru_ge ..) end3) (by decide) (by run_tac dk)
  have dot : ∀ i, i ≤ T.size → Run ⟨rx26, T, p, 2 * 2, mlA⟩ #[] none 0 false 202 200 123 i (if ch T i == 46 then figs T (i + 1) (ru dg T (i + 1)) else .no) := fun i hi => by
    refine run_mark (K := 201) (pc := 123) (i := 2) (l' := 2) rfl rfl (by run_tac dk) (by decide) rfl (by run_tac dk) (run_t (K := 200) (pc := 125) (op := .LITERAL) (w := 2) (· == 46) rfl rfl (by run_tac dk) hT (by run_tac dk) rfl rfl (fun h => ?_) fun h => ?_)
    · have h : (ch T i == 46) = true := h
      rw [if_pos h]; exact frac (i + 1) (lt_of_ch (P := (· == 46)) h rfl)
    · have h : (ch T i == 46) = false := h
      rw [h]; rfl
  have whole : ∀ f, f ≤ T.size → Run ⟨rx26, T, p, 2 * 2, mlA⟩ #[] none 0 false 4000 4000 113 f (if f < ru dg T f then (if ch T (ru dg T f) == 46 then figs T (ru dg T f + 1) (ru dg T (ru dg T f + 1)) else .no) else .no) := fun f hf => by
    by_cases h : f < ru dg T f
    · rw [if_pos h]
      have z := dot (ru dg T f) (ru_le hf)
      have zn : ∀ i, f ≤ i → i < ru dg T f → Run ⟨rx26, T, p, 2 * 2, mlA⟩ #[] none 0 false 202 200 123 i .no := fun i a b => by
        have z := dot i (Nat.le_trans (Nat.le_of_lt b) (ru_le hf))
        rw [wd_not (dg_wd (ru_all a b)) rfl] at z; exact z
      cases hr : (if ch T (ru dg T f) == 46 then figs T (ru dg T f + 1) (ru dg T (ru dg T f + 1)) else Res.no) with
      | no =>
        rw [hr] at z
        refine Run.mono (run_star_no (K := 202) (D := 200) (pc := 113) (tail := 123) (least := 1) dg rfl rfl rfl rfl (by run_tac dk) hT (by run_tac dk) fun i a b => ?_) (by decide) (by run_tac dk)
        by_cases e : i = ru dg T f
        · rw [e]; exact z
        · exact zn i (by omega) (by (try dsimp only at b); omega)
      | yes e =>
        rw [hr] at z
        exact Run.mono (run_star_all (X := ⟨rx26, T, p, 2 * 2, mlA⟩) (pos := f) (K := 202) (D := 200) (pc := 113) (tail := 123) (least := 1) dg rfl rfl rfl rfl (by run_tac dk) hT (by run_tac dk) hf h z) (by decide) (by run_tac dk)
    · rw [if_neg h]
      exact Run.mono (run_few (pc := 113) (least := 1) dg rfl rfl rfl (by run_tac dk) hT (by run_tac dk) (by (try dsimp only); omega)) (by decide) (by decide)
  have bare : ∀ f, f ≤ T.size → Run ⟨rx26, T, p, 2 * 2, mlA⟩ #[] none 0 false 301 300 142 f (if ch T f == 46 then (if ru dg T (f + 1) ≤ f + 1 then .no else figs T (f + 2) (ru dg T (f + 1))) else .no) := fun f hf => by
    refine run_t (K := 300) (pc := 142) (op := .LITERAL) (w := 2) (· == 46) rfl rfl (by run_tac dk) hT (by run_tac dk) rfl rfl (fun h => ?_) fun h => ?_
    · have h : (ch T f == 46) = true := h
      rw [if_pos h]
      have hl : f + 1 ≤ T.size := lt_of_ch (P := (· == 46)) h rfl
      by_cases h2 : ru dg T (f + 1) ≤ f + 1
      · rw [if_pos h2]
        exact Run.mono (run_few (pc := 144) (least := 1) dg rfl rfl rfl (by run_tac dk) hT (by run_tac dk) (by (try dsimp only); omega)) (by decide) (by decide)
      · rw [if_neg h2]
        exact Run.mono (run_star_figs (X := ⟨rx26, T, p, 2 * 2, mlA⟩) (pos := f + 1) (K := 7) (D := 5) (pc := 144) (tail := 154) (least := 1) dg rfl rfl rfl rfl (by run_tac dk) hT (by run_tac dk) dg_lt hl (by (try dsimp only); omega) end1) (by decide) (by run_tac dk)
    · have h : (ch T f == 46) = false := h
      rw [h]; rfl
  have num : ∀ f, f ≤ T.size → Run ⟨rx26, T, p, 2 * 2, mlA⟩ #[] none (-1) false 5000 5000 109 f (flt26 T f) := fun f hf => by
    have z := whole f hf
    have z2 := bare f hf
    unfold flt26
    by_cases h : f < ru dg T f
    · rw [if_pos h] at z
      rw [if_pos h]
      have hd : (ch T f == 46) = false := wd_not (dg_wd (ru_all (Nat.le_refl _) h)) rfl
      rw [hd, if_neg Bool.false_ne_true] at z2
      cases hr : (if ch T (ru dg T f) == 46 then figs T (ru dg T f + 1) (ru dg T (ru dg T f + 1)) else Res.no) with
      | no =>
        rw [hr] at z
        exact Run.mono (run_mark (pc := 109) (i := 0) (l' := 0) rfl rfl (by run_tac dk) (by decide) rfl (by run_tac dk) (run_branch (pc := 111) rfl (by run_tac dk) (alt_no (alt := 112) (next := 141) (by run_tac dk) z rfl (alt_no (alt := 141) (next := 156) (by run_tac dk) z2 rfl (alt_end (alt := 156) rfl))))) (by decide) (by run_tac dk)
      | yes e =>
        rw [hr] at z
        exact Run.mono (run_mark (pc := 109) (i := 0) (l' := 0) rfl rfl (by run_tac dk) (by decide) rfl (by run_tac dk) (run_branch (pc := 111) rfl (by run_tac dk) (alt_yes (alt := 112) (by run_tac dk) z))) (by decide) (by run_tac dk)
    · rw [if_neg h] at z
      rw [if_neg h]
      cases hr : (if ch T f == 46 then (if ru dg T (f + 1) ≤ f + 1 then .no else figs T (f + 2) (ru dg T (f + 1))) else Res.no) with
      | no =>
        rw [hr] at z2
        exact Run.mono (run_mark (pc := 109) (i := 0) (l' := 0) rfl rfl (by run_tac dk) (by decide) rfl (by run_tac dk) (run_branch (pc := 111) rfl (by run_tac dk) (alt_no (alt := 112) (next := 141) (by run_tac dk) z rfl (alt_no (alt := 141) (next := 156) (by run_tac dk) z2 rfl (alt_end (alt := 156) rfl))))) (by decide) (by run_tac dk)
      | yes e =>
        rw [hr] at z2
        exact Run.mono (run_mark (pc := 109) (i := 0) (l' := 0) rfl rfl (by run_tac dk) (by decide) rfl (by run_tac dk) (run_branch (pc := 111) rfl (by run_tac dk) (alt_no (alt := 112) (next := 141) (by run_tac dk) z rfl (alt_yes (alt := 141) (by run_tac dk) z2)))) (by decide) (by run_tac dk)
  refine' Mt.of (pc := 5) rfl ?_ ?_ ?_; run_tac kp
  · refine' run_border (pc := 5) (skip := 102) rfl rfl rfl (by run_tac dk) hT rfl (by run_tac dk) (by run_tac dk) rfl rfl (by run_tac dk) (fun h => ?_) (fun h => by (try dsimp only at h); rw [h]; rfl); run_tac kp
    have h : lt (ch T p) = false := h
    rw [h, if_neg Bool.false_ne_true]
    refine' run_opt (X := ⟨rx26, T, p, 2 * 2, mlA⟩) (pc := 102) (tail := 109) (r1 := flt26 T (p + 1)) (K := 5000) (D := 5000) 45 (by decide) rfl rfl rfl rfl (by run_tac dk) hT (by run_tac dk) hp (fun hc => ?_) (fun hc _ => ?_) (fun hc => ?_); run_tac kp
    · have hc : ch T p = 45 := hc
      exact num (p + 1) (lt_of_ch (P := (· == 45)) (beq_iff_eq.mpr hc) rfl)
    · have hc : ch T p = 45 := hc
      unfold sgn; rw [hc]; rfl
    · have z := num p hp
      by_cases hc' : ch T p = 45
      · have : flt26 T (sgn T p) = .no := by
          have e : sgn T p = p + 1 := by unfold sgn; rw [hc']; rfl
          rw [e]
          have := hc hc'
          cases h : flt26 T (p + 1) with
          | no => rfl
          | yes e => rw [h] at this; cases this
        rw [this]
        have : flt26 T p = .no := by unfold flt26; rw [ru_no (by rw [hc']; rfl), if_neg (Nat.lt_irrefl _), hc']; rfl
        rw [this] at z; exact z
      · have : sgn T p = p := by unfold sgn; rw [if_neg (by simpa using hc')]
        rw [this]; exact z
  all_goals (run_tac dk)
end Mine
-- Rx15
set_option maxRecDepth 20000
namespace Mine
open PySem PySem.Sre
variable {X : Cx} {lam : Array Loop} {iota : Option Nat} {l : Int} {q k : Bool} {K D pc pos : Nat} {r : Res}

/-! ## the quoted text: the marks told exactly -/
def mlK (a c : Nat) : ML where
  I := fun l _ ms => (0 ≤ l → ms.getD 0 none = some a) ∧ (1 ≤ l → ms.getD 1 none = some c ∧ a ≤ c) ∧ l ≤ 1
  R := fun l x y => (0 ≤ l → y.getD 0 none = x.getD 0 none) ∧ (1 ≤ l → y.getD 1 none = x.getD 1 none)
  W := fun l ms => WS ms l
  up := fun h _ => h
  low := fun _ h => h
  same := fun _ => ⟨fun _ => rfl, fun _ => rfl⟩
  trans := fun h h' => ⟨fun hl => (h'.1 hl).trans (h.1 hl), fun hl => (h'.2 hl).trans (h.2 hl)⟩
  keep := fun h r => ⟨fun hl => (r.1 hl).trans (h.1 hl), fun hl => ⟨(r.2 hl).trans (h.2.1 hl).1, (h.2.1 hl).2⟩, h.2.2⟩
  pre := fun _ e => ⟨fun hl => e 0 (by simpa using hl), fun hl => e 1 (by simpa using hl)⟩
  fin := fun {l _ ms} h g b e hg eb ee => by
    have hg0 : g = 0 := by have := h.2.2; omega
    subst hg0
    have h1 := h.2.1 (by omega)
    rw [h.1 (by omega)] at eb
    rw [h1.1] at ee
    cases eb; cases ee
    exact h1.2

theorem run_markX {i : Nat} {l' : Int} {ml' : ML} (h0 : X.C.getD pc 0 = 17) (h1 : X.C.getD (pc + 1) 0 = i) (hi : i < X.G) (hl' : max l i = l') (hpc : pc < X.C.size)
    (hI : ∀ ms, ms.size = X.G → X.ml.I l pos ms → ml'.I l' pos (mkd ms l i pos)) (hW : ∀ l ms, ml'.W l ms → X.ml.W l ms)
    (h : RunK { X with ml := ml' } lam iota l' false false K D (pc + 2) pos r) : RunK X lam iota l false false (K + 1) D pc pos r := fun m hc ha hp hq hw => by
  have e : m.step = m.exec := step_none hc.fix.out ha (by rw [hp, hc.fix.code]; exact hpc)
  have hw0 : m.word 0 = 17 := (word_eq hc.fix.code hp 0).trans h0
  have hw1 : m.word 1 = i := (word_eq hc.fix.code hp 1).trans h1
  have ex : m.exec = { m with seen := m.seen.add (m.word 0), marks := mkd m.marks l i pos, lastmark := l', lastindex := (if i % 2 == 1 then (i / 2 + 1 : Nat) else m.lastindex), pc := pc + 2 } := by
    unfold M.exec
    rw [hw0]
    simp only [ops, List.getElem?_toArray, List.getElem?_cons_succ, List.getElem?_cons_zero]
    show ({ m with seen := m.seen.add 17, marks := (if (m.word 1 : Int) ≤ m.lastmark + 1 then m.marks else clr m.marks m.lastmark (m.word 1)).setIfInBounds (m.word 1) (some m.pos), lastmark := max m.lastmark (m.word 1 : Int), lastindex := (if m.word 1 % 2 == 1 then (m.word 1 / 2 + 1 : Nat) else m.lastindex), pc := m.pc + 2 } : M) = _
    rw [hw1, hc.lm, hq, hp, hl']; rfl
  obtain ⟨n, hn, m', g1, g2, g3, g4, g5⟩ := h m.exec (by
    rw [ex]
    exact ⟨⟨hc.fix.code, hc.fix.text, hc.fix.lim, hc.fix.whole, hc.fix.must, hc.fix.start, hc.fix.out, by show (mkd _ _ _ _).size = _; rw [mkd_size]; exact hc.fix.size⟩, hc.loops, hc.inner, rfl, hI _ hc.fix.size hc.iv⟩) (by rw [ex]; exact ha) (by rw [ex]) (by rw [ex]; exact hq) (by rw [ex]; exact hw)
  refine ⟨n + 1, by omega, m', by rw [runFor_succ, e]; exact g1, by rw [g2, ex], by rw [g3, ex], ⟨g4.code, g4.text, g4.lim, g4.whole, g4.must, g4.start, g4.out, g4.size⟩, ?_⟩
  rw [ex] at g5
  cases r with
  | no => exact ⟨g5.1, g5.2.1, g5.2.2.1, Bool.noConfusion, Bool.noConfusion⟩
  | yes e => exact ⟨g5.1, g5.2.1, hW _ _ g5.2.2.1, Bool.noConfusion⟩

theorem run_isK {op : Op} {w : Nat} (P : Nat → Bool) (h0 : ops[X.C.getD pc 0]? = some op) (hop : isCh op = true) (hpc : pc < X.C.size) (hT : Tx X.T) (ht : tab X.C pc P = true) (hw : itemWidth X.C pc = w) (hz : P 0 = false) (h : P (ch X.T pos) = true)
    (hy : RunK X lam iota l q k K D (pc + w) (pos + 1) r) : RunK X lam iota l q k (K + 1) D pc pos r := by
  have hl := lt_of_ch h hz
  have z := tab_acc ht hT hl
  have h' : P (X.T.getD pos 0) = true := h
  rw [h'] at z
  exact run_ch_yes h0 hop hpc hl z hw hy

/-- where a quoted text ends, told from a place within it -/
def strU (T : Array Nat) : Nat → Nat → Res
  | 0, _ => .no
  | n + 1, i =>
    if ch T i == 39 then (if ch T (i + 1) == 39 then (match strU T n (i + 2) with | .yes e => .yes e | .no => .yes (i + 1)) else .yes (i + 1))
    else if i < T.size then strU T n (i + 1) else .no

def Mt28 (T : Array Nat) (p : Nat) (r : Res) : Prop :=
  ∃ K D, K ≤ 1000000 ∧ D ≤ 1000000 ∧ Run ⟨rx28, T, p, 2 * 1, mlK 0 0⟩ #[] none (-1) false K D 9 p r

variable (T : Array Nat) (hT : Tx T) (p : Nat)
include hT

theorem tail28 (a c : Nat) (l : Int) (i : Nat) (lam : Array Loop) (iota : Option Nat) : Run ⟨rx28, T, p, 2 * 1, mlK a c⟩ lam iota l false 2 0 41 i (if ch T i == 39 then .yes (i + 1) else .no) := by
  cases h : ch T i == 39 with
  | true => exact run_is (pc := 41) (op := .LITERAL) (w := 2) (· == 39) rfl rfl (by run_tac dk) hT (by run_tac dk) rfl rfl h (run_success rfl (by run_tac dk))
  | false => exact RunK.mono (run_not (pc := 41) (op := .LITERAL) (· == 39) rfl rfl (by run_tac dk) hT (by run_tac dk) h) (by decide) (by decide)

theorem until28 : ∀ (n i : Nat), T.size < i + n → ∀ (a : Nat) (l : Int) (L : Loop), (l = -1 ∨ (l = 1 ∧ a ≤ i)) → L.pc = 11 → L.outer = none → 0 ≤ L.count + 1 → L.began ≠ some i →
    Run ⟨rx28, T, p, 2 * 1, mlK a i⟩ #[L] (some 0) l false (60 * (n + 1)) (60 * (n + 1)) 40 i (strU T (n + 1) i) := by
  intro n
  induction n with
  | zero =>
    intro i hi a l L hl hLp hLo hLc hLb
    have hc0 : ch T i = 0 := ch_out (by omega)
    have hU : strU T (0 + 1) i = .no := by unfold strU; rw [hc0, if_neg (by decide), if_neg (by omega)]
    rw [hU]
    have ht := tail28 T hT p a i l i #[L] none
    rw [hc0] at ht
    -- the body fails: no sign is left
    have nol : ∀ (ml : ML) (lam : Array Loop) (l : Int) (c pc : Nat) (j : Nat), T.size ≤ j → (ops[rx28.getD pc 0]? = some .LITERAL ∨ ops[rx28.getD pc 0]? = some .NOT_LITERAL) → pc < rx28.size → RunK ⟨rx28, T, p, 2 * 1, ml⟩ lam (some 0) l false false 1 0 pc j .no := by
      intro ml lam l c pc j hj hop hpc
      rcases hop with hop | hop
      · exact run_ch_no hop rfl hpc (.inl hj)
      · exact run_ch_no hop rfl hpc (.inl hj)
    have body : RunK ⟨rx28, T, p, 2 * 1, mlK a i⟩ (#[L].modify 0 fun L => turned L i) (some 0) l false false 40 40 15 i .no := by
      refine RunK.mono (run_markX (ml' := mlK i i) (pc := 15) (i := 0) (l' := max l 0) rfl rfl (by run_tac dk) rfl (by run_tac dk) (fun ms hs hI => ?_) (fun _ _ h => h) (run_branch (k := false) (pc := 17) rfl (by run_tac dk)
        (alt_no (k := false) (alt := 18) (next := 25) (by run_tac dk) (nol _ _ _ 0 19 i (by omega) (.inl rfl) (by run_tac dk)) rfl
        (alt_no (k := false) (alt := 25) (next := 32) (by run_tac dk) (nol _ _ _ 0 26 i (by omega) (.inl rfl) (by run_tac dk)) rfl
        (alt_no (k := false) (alt := 32) (next := 37) (by run_tac dk) (nol _ _ _ 0 33 i (by omega) (.inr rfl) (by run_tac dk)) rfl (alt_end (alt := 37) rfl) (fun h => nomatch h)) (fun h => nomatch h)) (fun h => nomatch h)))) (by decide) (by run_tac dk)
      have hsz : 0 < ms.size := by rw [hs]; (try dsimp only); decide
      refine ⟨fun _ => by rw [mkd_getD _ _ _ _ _ hsz, if_pos rfl], fun h1 => ?_, ?_⟩
      · rcases hl with rfl | ⟨rfl, ha⟩
        · exact absurd h1 (by decide)
        · rw [mkd_getD _ _ _ _ _ hsz, if_neg (by decide), if_neg (by decide)]
          exact ⟨(hI.2.1 (by decide)).1, Nat.le_refl _⟩
      · rcases hl with rfl | ⟨rfl, ha⟩ <;> decide
    have hlo : (rx28.getD (L.pc + 2) 0 : Int) ≤ L.count + 1 := by rw [hLp]; exact hLc
    exact RunK.mono (run_until_more (pc := 40) (i := 0) (L := L) (rb := .no) (r := .no) (kb := false) rfl (by run_tac dk) rfl hlo (.inr (by rw [hLp]; rfl)) hLb (by rw [hLp]; exact body) (fun h => nomatch h) (fun _ => by rw [hLo]; exact ht)) (by decide) (by run_tac dk)
  | succ n ih =>
    intro i hi a l L hl hLp hLo hLc hLb
    have ht := tail28 T hT p a i l i #[L] none
    have hlo : (rx28.getD (L.pc + 2) 0 : Int) ≤ L.count + 1 := by rw [hLp]; exact hLc
    have hI0 : ∀ ms : Array (Option Nat), ms.size = 2 * 1 → (mlK a i).I l i ms → (mlK i i).I (max l 0) i (mkd ms l 0 i) := by
      intro ms hs hI
      have hsz : 0 < ms.size := by rw [hs]; (try dsimp only); decide
      refine ⟨fun _ => by rw [mkd_getD _ _ _ _ _ hsz, if_pos rfl], fun h1 => ?_, ?_⟩
      · rcases hl with rfl | ⟨rfl, ha⟩
        · exact absurd h1 (by decide)
        · rw [mkd_getD _ _ _ _ _ hsz, if_neg (by decide), if_neg (by decide)]
          exact ⟨(hI.2.1 (by decide)).1, Nat.le_refl _⟩
      · rcases hl with rfl | ⟨rfl, ha⟩ <;> decide
    have hI1 : ∀ j, i ≤ j → ∀ ms : Array (Option Nat), ms.size = 2 * 1 → (mlK i i).I (max l 0) j ms → (mlK i j).I 1 j (mkd ms (max l 0) 1 j) := by
      intro j hj ms hs hI
      have hsz : 1 < ms.size := by rw [hs]; (try dsimp only); decide
      refine ⟨fun _ => ?_, fun _ => ⟨by rw [mkd_getD _ _ _ _ _ hsz, if_pos rfl], hj⟩, by decide⟩
      rw [mkd_getD _ _ _ _ _ hsz, if_neg (by decide), if_neg (by rcases hl with rfl | ⟨rfl, _⟩ <;> decide)]
      exact hI.1 (by rcases hl with rfl | ⟨rfl, _⟩ <;> decide)
    -- the way on, behind a turn that ends at j
    have more : ∀ j, i < j → T.size < j + n → RunK ⟨rx28, T, p, 2 * 1, mlK i i⟩ (#[L].modify 0 fun L => turned L i) (some 0) (max l 0) false false (60 * (n + 1) + 1) (60 * (n + 1)) 38 j (strU T (n + 1) j) := by
      intro j hj hjn
      refine run_markX (ml' := mlK i j) (pc := 38) (i := 1) (l' := 1) rfl rfl (by run_tac dk) (by rcases hl with rfl | ⟨rfl, _⟩ <;> decide) (by run_tac dk) (hI1 j (Nat.le_of_lt hj)) (fun _ _ h => h) ?_
      have z := ih j hjn i 1 (turned L i) (.inr ⟨rfl, Nat.le_of_lt hj⟩) hLp hLo (by show 0 ≤ L.count + 1 + 1; omega) (by show some i ≠ some j; intro e; cases e; omega)
      exact RunK.any z
    have dead2 : ∀ (lam : Array Loop) (l : Int), RunK ⟨rx28, T, p, 2 * 1, mlK i i⟩ lam (some 0) l false false 1 0 26 i .no := fun lam l =>
      RunK.any (run_dead (X := ⟨rx28, T, p, 2 * 1, mlK i i⟩) (pc := 26) (op := .LITERAL) rfl rfl (by run_tac dk) hT (by run_tac dk))
    have fin : ∀ (rb : Res), RunK ⟨rx28, T, p, 2 * 1, mlK a i⟩ (#[L].modify 0 fun L => turned L i) (some 0) l false false (60 * (n + 1) + 30) (60 * (n + 1) + 30) 15 i rb →
        (rb.b = true → strU T (n + 1 + 1) i = rb) → (rb.b = false → strU T (n + 1 + 1) i = if ch T i == 39 then .yes (i + 1) else .no) → Run ⟨rx28, T, p, 2 * 1, mlK a i⟩ #[L] (some 0) l false (60 * (n + 1 + 1)) (60 * (n + 1 + 1)) 40 i (strU T (n + 1 + 1) i) := by
      intro rb hb h1 h2
      exact RunK.mono (run_until_more (pc := 40) (i := 0) (L := L) (rb := rb) (kb := false) (K2 := 2) (D2 := 0) rfl (by run_tac dk) rfl hlo (.inr (by rw [hLp]; rfl)) hLb (by rw [hLp]; exact hb) h1 (fun h => by rw [hLo, h2 h]; exact ht)) (by omega) (by (try dsimp only); omega)
    by_cases h39 : ch T i = 39
    · have e39 : (ch T i == 39) = true := beq_iff_eq.mpr h39
      have not3 : RunK ⟨rx28, T, p, 2 * 1, mlK i i⟩ (#[L].modify 0 fun L => turned L i) (some 0) (max l 0) false false 1 0 33 i .no :=
        RunK.any (run_not (X := ⟨rx28, T, p, 2 * 1, mlK i i⟩) (pc := 33) (op := .NOT_LITERAL) (fun c => c != 39) rfl rfl (by run_tac dk) hT (by run_tac dk) (by (try dsimp only); rw [h39]; rfl))
      cases h2 : ch T (i + 1) == 39 with
      | false =>
        have alt1 : RunK ⟨rx28, T, p, 2 * 1, mlK i i⟩ (#[L].modify 0 fun L => turned L i) (some 0) (max l 0) false false 2 0 19 i .no :=
          RunK.any (run_is (X := ⟨rx28, T, p, 2 * 1, mlK i i⟩) (pc := 19) (op := .LITERAL) (w := 2) (· == 39) rfl rfl (by run_tac dk) hT (by run_tac dk) rfl rfl e39 (run_not (pc := 21) (op := .LITERAL) (· == 39) rfl rfl (by run_tac dk) hT (by run_tac dk) h2))
        refine fin .no (RunK.mono (run_markX (ml' := mlK i i) (pc := 15) (i := 0) (l' := max l 0) rfl rfl (by run_tac dk) rfl (by run_tac dk) hI0 (fun _ _ h => h) (run_branch (k := false) (pc := 17) rfl (by run_tac dk)
          (alt_no (k := false) (alt := 18) (next := 25) (by run_tac dk) alt1 rfl (alt_no (k := false) (alt := 25) (next := 32) (by run_tac dk) (dead2 _ _) rfl
          (alt_no (k := false) (alt := 32) (next := 37) (by run_tac dk) not3 rfl (alt_end (alt := 37) rfl) (fun h => nomatch h)) (fun h => nomatch h)) (fun h => nomatch h)))) (by omega) (by (try dsimp only); omega)) (fun h => nomatch h) (fun _ => ?_)
        unfold strU; rw [e39, if_pos rfl, h2]; rfl
      | true =>
        have hl2 : i + 1 < T.size := lt_of_ch (P := (· == 39)) h2 rfl
        have go : ∀ rs, strU T (n + 1) (i + 2) = rs → RunK ⟨rx28, T, p, 2 * 1, mlK i i⟩ (#[L].modify 0 fun L => turned L i) (some 0) (max l 0) false false (60 * (n + 1) + 4) (60 * (n + 1)) 19 i rs := by
          intro rs hrs
          rw [← hrs]
          have z := run_jump (pc := 23) (pc' := 38) (.inl rfl) rfl (by run_tac dk) (more (i + 2) (by omega) (by omega))
          refine RunK.mono (D' := 60 * (n + 1)) (K' := 60 * (n + 1) + 4) (run_isK (X := ⟨rx28, T, p, 2 * 1, mlK i i⟩) (pc := 19) (op := .LITERAL) (w := 2) (· == 39) rfl rfl (by run_tac dk) hT (by run_tac dk) rfl rfl e39 (run_isK (X := ⟨rx28, T, p, 2 * 1, mlK i i⟩) (pc := 21) (op := .LITERAL) (w := 2) (· == 39) rfl rfl (by run_tac dk) hT (by run_tac dk) rfl rfl h2 z)) ?_ ?_ <;> omega
        cases hrs : strU T (n + 1) (i + 2) with
        | yes e =>
          refine fin (.yes e) (RunK.mono (run_markX (ml' := mlK i i) (pc := 15) (i := 0) (l' := max l 0) rfl rfl (by run_tac dk) rfl (by run_tac dk) hI0 (fun _ _ h => h) (run_branch (k := false) (pc := 17) rfl (by run_tac dk)
            (alt_yes (k := false) (alt := 18) (by run_tac dk) (go _ hrs)))) (by omega) (by (try dsimp only); omega)) (fun _ => ?_) (fun h => nomatch h)
          rw [strU, e39, if_pos rfl, h2, if_pos rfl, hrs]
        | no =>
          refine fin .no (RunK.mono (run_markX (ml' := mlK i i) (pc := 15) (i := 0) (l' := max l 0) rfl rfl (by run_tac dk) rfl (by run_tac dk) hI0 (fun _ _ h => h) (run_branch (k := false) (pc := 17) rfl (by run_tac dk)
            (alt_no (k := false) (alt := 18) (next := 25) (by run_tac dk) (go _ hrs) rfl (alt_no (k := false) (alt := 25) (next := 32) (by run_tac dk) (dead2 _ _) rfl
            (alt_no (k := false) (alt := 32) (next := 37) (by run_tac dk) not3 rfl (alt_end (alt := 37) rfl) (fun h => nomatch h)) (fun h => nomatch h)) (fun h => nomatch h)))) (by omega) (by (try dsimp only); omega)) (fun h => nomatch h) (fun _ => ?_)
          rw [strU, e39, if_pos rfl, h2, if_pos rfl, hrs]; rfl
    · have e39 : (ch T i == 39) = false := beq_eq_false_iff_ne.mpr h39
      have alt1 : RunK ⟨rx28, T, p, 2 * 1, mlK i i⟩ (#[L].modify 0 fun L => turned L i) (some 0) (max l 0) false false 1 0 19 i .no :=
        RunK.any (run_not (X := ⟨rx28, T, p, 2 * 1, mlK i i⟩) (pc := 19) (op := .LITERAL) (· == 39) rfl rfl (by run_tac dk) hT (by run_tac dk) e39)
      by_cases hlt : i < T.size
      · have go : ∀ rs, strU T (n + 1) (i + 1) = rs → RunK ⟨rx28, T, p, 2 * 1, mlK i i⟩ (#[L].modify 0 fun L => turned L i) (some 0) (max l 0) false false (60 * (n + 1) + 3) (60 * (n + 1)) 33 i rs := by
          intro rs hrs
          rw [← hrs]
          have z := run_jump (pc := 35) (pc' := 38) (.inl rfl) rfl (by run_tac dk) (more (i + 1) (by omega) (by omega))
          have tt := tab_acc (C := rx28) (i := 33) (P := fun c => c != 39) (by run_tac dk) hT hlt
          have hv : (T.getD i 0 != 39) = true := bne_iff_ne.mpr h39
          rw [hv] at tt
          exact run_ch_yes (pc := 33) (op := .NOT_LITERAL) (w := 2) rfl rfl (by run_tac dk) hlt tt rfl z
        have hU : strU T (n + 1 + 1) i = strU T (n + 1) (i + 1) := by rw [strU, e39, if_neg Bool.false_ne_true, if_pos hlt]
        cases hrs : strU T (n + 1) (i + 1) with
        | yes e =>
          refine fin (.yes e) (RunK.mono (run_markX (ml' := mlK i i) (pc := 15) (i := 0) (l' := max l 0) rfl rfl (by run_tac dk) rfl (by run_tac dk) hI0 (fun _ _ h => h) (run_branch (k := false) (pc := 17) rfl (by run_tac dk)
            (alt_no (k := false) (alt := 18) (next := 25) (by run_tac dk) alt1 rfl (alt_no (k := false) (alt := 25) (next := 32) (by run_tac dk) (dead2 _ _) rfl
            (alt_yes (k := false) (alt := 32) (by run_tac dk) (go _ hrs)) (fun h => nomatch h)) (fun h => nomatch h)))) (by omega) (by (try dsimp only); omega)) (fun _ => hU.trans hrs) (fun h => nomatch h)
        | no =>
          refine fin .no (RunK.mono (run_markX (ml' := mlK i i) (pc := 15) (i := 0) (l' := max l 0) rfl rfl (by run_tac dk) rfl (by run_tac dk) hI0 (fun _ _ h => h) (run_branch (k := false) (pc := 17) rfl (by run_tac dk)
            (alt_no (k := false) (alt := 18) (next := 25) (by run_tac dk) alt1 rfl (alt_no (k := false) (alt := 25) (next := 32) (by run_tac dk) (dead2 _ _) rfl
            (alt_no (k := false) (alt := 32) (next := 37) (by run_tac dk) (go _ hrs) rfl (alt_end (alt := 37) rfl) (fun h => nomatch h)) (fun h => nomatch h)) (fun h => nomatch h)))) (by omega) (by (try dsimp only); omega)) (fun h => nomatch h) (fun _ => ?_)
          rw [hU, hrs, e39]; rfl
      · have not3 : RunK ⟨rx28, T, p, 2 * 1, mlK i i⟩ (#[L].modify 0 fun L => turned L i) (some 0) (max l 0) false false 1 0 33 i .no :=
          run_ch_no (pc := 33) (op := .NOT_LITERAL) rfl rfl (by run_tac dk) (.inl (Nat.le_of_not_lt hlt))
        refine fin .no (RunK.mono (run_markX (ml' := mlK i i) (pc := 15) (i := 0) (l' := max l 0) rfl rfl (by run_tac dk) rfl (by run_tac dk) hI0 (fun _ _ h => h) (run_branch (k := false) (pc := 17) rfl (by run_tac dk)
          (alt_no (k := false) (alt := 18) (next := 25) (by run_tac dk) alt1 rfl (alt_no (k := false) (alt := 25) (next := 32) (by run_tac dk) (dead2 _ _) rfl
          (alt_no (k := false) (alt := 32) (next := 37) (by run_tac dk) not3 rfl (alt_end (alt := 37) rfl) (fun h => nomatch h)) (fun h => nomatch h)) (fun h => nomatch h)))) (by omega) (by (try dsimp only); omega)) (fun h => nomatch h) (fun _ => ?_)
        rw [strU, e39, if_neg Bool.false_ne_true, if_neg hlt]; rfl

theorem m28 : Mt28 T p (if ch T p == 39 then strU T 16 (p + 1) else .no) := by
  cases h : ch T p == 39 with
  | false => exact ⟨1, 0, by decide, by decide, run_not (pc := 9) (op := .LITERAL) (· == 39) rfl rfl (by run_tac dk) hT (by run_tac dk) h⟩
  | true =>
    have hl := hT.len
    have ml0 : ∀ c, Run ⟨rx28, T, p, 2 * 1, mlK 0 c⟩ #[{ pc := 11, outer := none }] (some 0) (-1) false (60 * 16) (60 * 16) 40 (p + 1) (strU T 16 (p + 1)) →
        Run ⟨rx28, T, p, 2 * 1, mlK 0 0⟩ #[{ pc := 11, outer := none }] (some 0) (-1) false (60 * 16) (60 * 16) 40 (p + 1) (strU T 16 (p + 1)) := by
      intro c z m hc ha hp hq hw
      obtain ⟨n, hn, m', g1, g2, g3, g4, g5⟩ := z m ⟨⟨hc.fix.code, hc.fix.text, hc.fix.lim, hc.fix.whole, hc.fix.must, hc.fix.start, hc.fix.out, hc.fix.size⟩, hc.loops, hc.inner, hc.lm, ⟨fun h => absurd h (by decide), fun h => absurd h (by decide), by decide⟩⟩ ha hp hq hw
      refine ⟨n, hn, m', g1, g2, g3, ⟨g4.code, g4.text, g4.lim, g4.whole, g4.must, g4.start, g4.out, g4.size⟩, ?_⟩
      revert g5
      cases strU T 16 (p + 1) <;> exact id
    refine ⟨_, _, ?_, ?_, run_is (pc := 9) (op := .LITERAL) (w := 2) (· == 39) rfl rfl (by run_tac dk) hT (by run_tac dk) rfl rfl h (run_repeat (k := true) (pc := 11) (u := 40) rfl rfl (by run_tac dk)
      (ml0 _ (until28 T hT p 15 (p + 1) (by omega) 0 (-1) { pc := 11, outer := none } (.inl rfl) rfl rfl (by decide) (fun h => nomatch h))))⟩
    all_goals decide
end Mine
-- Rx16
set_option maxRecDepth 20000
namespace Mine
open PySem PySem.Sre
variable {X : Cx} {lam : Array Loop} {iota : Option Nat} {l : Int} {q k : Bool} {K D pc pos : Nat} {r : Res}

def eE (c : Nat) : Bool := c == 101 || c == 69
theorem pow25_wd {T : Array Nat} {i : Nat} (h : dg (ch T i) = true) : pow25 T i = .no := by
  have a : (ch T i == 101) = false := by
    apply beq_eq_false_iff_ne.mpr; intro e; rw [e] at h; cases h
  have b : (ch T i == 69) = false := by
    apply beq_eq_false_iff_ne.mpr; intro e; rw [e] at h; cases h
  unfold pow25; rw [a, b]; rfl
theorem exp25_dg {T : Array Nat} {i : Nat} (h : dg (ch T i) = true) : exp25 T i = .no := by
  unfold exp25; rw [wd_not (dg_wd h) rfl, pow25_wd h]; rfl

variable (T : Array Nat) (hT : Tx T) (p : Nat)
include hT

theorem dgt25 (p : Nat) (lam : Array Loop) (l : Int) (i : Nat) (hi : i ≤ T.size) : Run ⟨rx25, T, p, 2 * 1, mlA⟩ lam none l false 48 48 52 i (if i < ru dg T i then .yes (ru dg T i) else .no) := by
  by_cases h : i < ru dg T i
  · rw [if_pos h]
    exact Run.mono (run_star_all (X := ⟨rx25, T, p, 2 * 1, mlA⟩) (K := 1) (D := 0) (pc := 52) (tail := 62) (least := 1) dg rfl rfl rfl rfl (by run_tac dk) hT (by run_tac dk) hi h (run_success rfl (by run_tac dk))) (by decide) (by run_tac dk)
  · rw [if_neg h]
    exact Run.mono (run_few (pc := 52) (least := 1) dg rfl rfl rfl (by run_tac dk) hT (by run_tac dk) (by (try dsimp only); omega)) (by decide) (by decide)

theorem pw25 (p : Nat) (lam : Array Loop) (l : Int) (i : Nat) : Run ⟨rx25, T, p, 2 * 1, mlA⟩ lam none l false 101 102 43 i (pow25 T i) := by
  refine run_t (K := 100) (pc := 43) (op := .LITERAL_UNI_IGNORE) (w := 2) eE rfl rfl (by run_tac dk) hT (by run_tac dk) rfl rfl (fun h => ?_) fun h => ?_
  · have h : eE (ch T i) = true := h
    have hl : i + 1 ≤ T.size := lt_of_ch h rfl
    unfold pow25
    rw [show (ch T i == 101 || ch T i == 69) = true from h, if_pos rfl]
    refine run_opt (X := ⟨rx25, T, p, 2 * 1, mlA⟩) (pc := 45) (tail := 52) (r1 := if i + 1 + 1 < ru dg T (i + 1 + 1) then .yes (ru dg T (i + 1 + 1)) else .no) (K := 48) (D := 48) 45 (by decide) rfl rfl rfl rfl (by run_tac dk) hT (by run_tac dk) hl (fun hc => ?_) (fun hc _ => ?_) (fun hc => ?_)
    · have hc : ch T (i + 1) = 45 := hc
      exact dgt25 T hT p lam l (i + 1 + 1) (lt_of_ch (P := (· == 45)) (beq_iff_eq.mpr hc) rfl)
    · have hc : ch T (i + 1) = 45 := hc
      unfold sgn; rw [hc]; rfl
    · have z := dgt25 T hT p lam l (i + 1) hl
      by_cases hc' : ch T (i + 1) = 45
      · have e : sgn T (i + 1) = i + 1 + 1 := by unfold sgn; rw [hc']; rfl
        rw [e]
        have := hc hc'
        cases h : (if i + 1 + 1 < ru dg T (i + 1 + 1) then Res.yes (ru dg T (i + 1 + 1)) else Res.no) with
        | no => rw [ru_no (by rw [hc']; rfl), if_neg (Nat.lt_irrefl _)] at z; exact z
        | yes e => rw [h] at this; cases this
      · have : sgn T (i + 1) = i + 1 := by unfold sgn; rw [if_neg (by simpa using hc')]
        rw [this]; exact z
  · have h : eE (ch T i) = false := h
    unfold pow25
    rw [show (ch T i == 101 || ch T i == 69) = false from h]; rfl

theorem tl25 (p i : Nat) : Run ⟨rx25, T, p, 2 * 1, mlA⟩ #[] none (-1) false 2000 2000 22 i (exp25 T i) := by
  let L : Loop := { pc := 22, outer := none }
  have mark1 : ∀ j, Run ⟨rx25, T, p, 2 * 1, mlA⟩ (#[L].modify 0 fun L => turned L i) (some 0) 0 false 104 105 40 j (pow25 T j) := fun j =>
    run_mark (pc := 40) (i := 1) (l' := 1) rfl rfl (by run_tac dk) (by decide) rfl (by run_tac dk)
      (run_until_end (pc := 42) (i := 0) (L := turned L i) rfl (by run_tac dk) rfl (show ((0 : Nat) : Int) ≤ -1 + 1 + 1 by decide) (.inr ⟨show ¬ ((-1 : Int) + 1 + 1 < ((1 : Nat) : Int)) by decide, show ¬ ((1 : Nat) = 4294967295) by decide⟩) (pw25 T hT p _ 1 j))
  have body : ∃ rb : Res, Run ⟨rx25, T, p, 2 * 1, mlA⟩ (#[L].modify 0 fun L => turned L i) (some 0) (-1) false 1704 1740 26 i rb ∧ (rb.b = true → exp25 T i = rb) ∧ (rb.b = false → exp25 T i = pow25 T i) := by
    cases hd : ch T i == 46 with
    | false =>
      refine ⟨.no, Run.mono (run_mark (pc := 26) (i := 0) (l' := 0) rfl rfl (by run_tac dk) (by decide) rfl (by run_tac dk) (run_not (pc := 28) (op := .LITERAL) (· == 46) rfl rfl (by run_tac dk) hT (by run_tac dk) hd)) (by decide) (by decide), (fun h => nomatch h), fun _ => ?_⟩
      unfold exp25; rw [hd]; rfl
    | true =>
      have hl : i + 1 ≤ T.size := lt_of_ch (P := (· == 46)) hd rfl
      have hn : pow25 T i = .no := by
        have hd := beq_iff_eq.mp hd
        unfold pow25; rw [hd]; rfl
      by_cases h : i + 1 < ru dg T (i + 1)
      · have e : exp25 T i = pow25 T (ru dg T (i + 1)) := by unfold exp25; rw [hd, if_pos rfl, if_pos h]
        cases hr : pow25 T (ru dg T (i + 1)) with
        | yes v =>
          have z := mark1 (ru dg T (i + 1))
          rw [hr] at z
          refine ⟨.yes v, Run.mono (run_mark (pc := 26) (i := 0) (l' := 0) rfl rfl (by run_tac dk) (by decide) rfl (by run_tac dk) (run_is (pc := 28) (op := .LITERAL) (w := 2) (· == 46) rfl rfl (by run_tac dk) hT (by run_tac dk) rfl rfl hd
            (run_star_all (X := ⟨rx25, T, p, 2 * 1, mlA⟩) (K := 104) (D := 105) (pc := 30) (tail := 40) (least := 1) dg rfl rfl rfl rfl (by run_tac dk) hT (by run_tac dk) hl h z))) (by decide) (by run_tac dk), fun _ => e.trans hr, fun h => nomatch h⟩
        | no =>
          refine ⟨.no, Run.mono (run_mark (pc := 26) (i := 0) (l' := 0) rfl rfl (by run_tac dk) (by decide) rfl (by run_tac dk) (run_is (pc := 28) (op := .LITERAL) (w := 2) (· == 46) rfl rfl (by run_tac dk) hT (by run_tac dk) rfl rfl hd
            (run_star_no (X := ⟨rx25, T, p, 2 * 1, mlA⟩) (pos := i + 1) (K := 104) (D := 105) (pc := 30) (tail := 40) (least := 1) dg rfl rfl rfl rfl (by run_tac dk) hT (by run_tac dk) fun j a b => ?_))) (by decide) (by run_tac dk), (fun h => nomatch h), fun _ => by rw [e, hr, hn]⟩
          have z := mark1 j
          by_cases ej : j = ru dg T (i + 1)
          · rw [ej, hr] at z; rw [ej]; exact z
          · rw [pow25_wd (ru_all (i := i + 1) (by omega) (by (try dsimp only at b); omega))] at z; exact z
      · refine ⟨.no, Run.mono (run_mark (pc := 26) (i := 0) (l' := 0) rfl rfl (by run_tac dk) (by decide) rfl (by run_tac dk) (run_is (pc := 28) (op := .LITERAL) (w := 2) (· == 46) rfl rfl (by run_tac dk) hT (by run_tac dk) rfl rfl hd
            (run_few (X := ⟨rx25, T, p, 2 * 1, mlA⟩) (pc := 30) (least := 1) dg rfl rfl rfl (by run_tac dk) hT (by run_tac dk) (by (try dsimp only); omega)))) (by decide) (by run_tac dk), (fun h => nomatch h), fun _ => ?_⟩
        unfold exp25; rw [hd, if_pos rfl, if_neg h, hn]
  obtain ⟨rb, hb, h1, h2⟩ := body
  exact Run.mono (run_repeat (k := true) (pc := 22) (u := 42) rfl rfl (by run_tac dk) (run_until_more (pc := 42) (i := 0) (L := L) (rb := rb) (kb := true) rfl (by run_tac dk) rfl (show ((0 : Nat) : Int) ≤ -1 + 1 by decide) (.inl (show (-1 : Int) + 1 < ((1 : Nat) : Int) by decide)) (fun h => nomatch h) hb h1 (fun h => by rw [h2 h]; exact pw25 T hT p _ (-1) i))) (by decide) (by run_tac dk)

theorem m25 (hp : p ≤ T.size) : Mt rx25 1 T p (flt25 T (sgn T p)) := by
  have num : ∀ f, f ≤ T.size → Run ⟨rx25, T, p, 2 * 1, mlA⟩ #[] none (-1) false 33000 33000 12 f (flt25 T f) := fun f hf => by
    unfold flt25
    by_cases h : f < ru dg T f
    · rw [if_pos h]
      cases hr : exp25 T (ru dg T f) with
      | yes v =>
        have z := tl25 T hT p (ru dg T f)
        rw [hr] at z
        exact Run.mono (run_star_all (X := ⟨rx25, T, p, 2 * 1, mlA⟩) (K := 2000) (D := 2000) (pc := 12) (tail := 22) (least := 1) dg rfl rfl rfl rfl (by run_tac dk) hT (by run_tac dk) hf h z) (by decide) (by run_tac dk)
      | no =>
        refine Run.mono (run_star_no (X := ⟨rx25, T, p, 2 * 1, mlA⟩) (pos := f) (K := 2000) (D := 2000) (pc := 12) (tail := 22) (least := 1) dg rfl rfl rfl rfl (by run_tac dk) hT (by run_tac dk) fun j a b => ?_) (by decide) (by run_tac dk)
        have z := tl25 T hT p j
        by_cases ej : j = ru dg T f
        · rw [ej, hr] at z; rw [ej]; exact z
        · rw [exp25_dg (ru_all (i := f) (by omega) (by (try dsimp only at b); omega))] at z; exact z
    · rw [if_neg h]
      exact Run.mono (run_few (pc := 12) (least := 1) dg rfl rfl rfl (by run_tac dk) hT (by run_tac dk) (by (try dsimp only); omega)) (by decide) (by decide)
  refine' Mt.of (pc := 5) rfl ?_ ?_ ?_; run_tac kp
  · refine' run_opt (X := ⟨rx25, T, p, 2 * 1, mlA⟩) (pc := 5) (tail := 12) (r1 := flt25 T (p + 1)) (K := 33000) (D := 33000) 45 (by decide) rfl rfl rfl rfl (by run_tac dk) hT (by run_tac dk) hp (fun hc => ?_) (fun hc _ => ?_) (fun hc => ?_); run_tac kp
    · have hc : ch T p = 45 := hc
      exact num (p + 1) (lt_of_ch (P := (· == 45)) (beq_iff_eq.mpr hc) rfl)
    · have hc : ch T p = 45 := hc
      unfold sgn; rw [hc]; rfl
    · have z := num p hp
      by_cases hc' : ch T p = 45
      · have : flt25 T (sgn T p) = .no := by
          have e : sgn T p = p + 1 := by unfold sgn; rw [hc']; rfl
          rw [e]
          have := hc hc'
          cases h : flt25 T (p + 1) with
          | no => rfl
          | yes e => rw [h] at this; cases this
        rw [this]
        have : flt25 T p = .no := by unfold flt25; rw [ru_no (by rw [hc']; rfl), if_neg (Nat.lt_irrefl _)]
        rw [this] at z; exact z
      · have : sgn T p = p := by unfold sgn; rw [if_neg (by simpa using hc')]
        rw [this]; exact z
  all_goals (run_tac dk)
end Mine
-- Rx17
set_option maxRecDepth 20000
namespace Mine
open PySem PySem.Sre
variable {X : Cx} {lam : Array Loop} {iota : Option Nat} {l : Int} {q k : Bool} {K D pc pos : Nat} {r : Res}

def nl (c : Nat) : Bool := c != 10
/-- what stands at the end of a comment -/
def ct (T : Array Nat) (i : Nat) : Res := if ch T i == 10 then .yes (i + 1) else if i == T.size then .yes i else .no
theorem at_end {m : M} (h1 : m.text = X.T) (h2 : m.lim = X.T.size) (h3 : m.pos = pos) (hn : (ch X.T pos == 10) = false) : m.isAt 5 = .ok (pos == X.T.size) := by
  show Except.ok (m.pos == m.lim || (m.pos + 1 == m.lim && m.text.getD m.pos 0 == 10)) = _
  have e : (X.T.getD pos 0 == 10) = false := hn
  rw [h1, h2, h3, e, Bool.and_false, Bool.or_false]
theorem cend_ct {T : Array Nat} {i : Nat} (h : i ≤ T.size) : .yes (cend T i) = ct T (ru nl T i) := by
  have hs : ru nl T i ≤ T.size := ru_le h
  unfold cend ct
  show Res.yes (if ru nl T i < T.size then ru nl T i + 1 else ru nl T i) = _
  by_cases e : ru nl T i < T.size
  · have z : nl (ch T (ru nl T i)) = false := by
      have := ru_step (P := nl) (T := T) e
      cases hb : nl (ch T (ru nl T i)) with
      | false => rfl
      | true =>
        exfalso
        -- a run's end takes no sign
        have : ∀ (n j : Nat), T.size - j = n → ru nl T j < T.size → nl (ch T (ru nl T j)) = false := by
          intro n
          induction n with
          | zero => intro j hj hl; rw [ru_out (by omega)] at hl; omega
          | succ n ih =>
            intro j hj hl
            rw [ru_step (by omega)] at hl ⊢
            cases hc : nl (ch T j) with
            | false => rw [if_neg Bool.false_ne_true]; exact hc
            | true => rw [hc, if_pos rfl] at hl; rw [if_pos rfl]; exact ih (j + 1) (by omega) hl
        rw [this _ i rfl e] at hb; cases hb
    have z : (ch T (ru nl T i) == 10) = true := by simpa [nl] using z
    rw [if_pos e, if_pos z]
  · have z : ru nl T i = T.size := by omega
    rw [if_neg e, z, ch_out (Nat.le_refl _), if_neg (by decide), if_pos (by simp)]

variable (T : Array Nat) (hT : Tx T) (p : Nat)
include hT


theorem ct7 (p i : Nat) : Run ⟨rx7, T, p, 2 * 2, mlA⟩ #[] none 1 false 60 60 36 i (ct T i) := by
  unfold ct
  cases h : ch T i == 10 with
  | true =>
    exact Run.mono (run_mark (pc := 36) (i := 2) (l' := 2) rfl rfl (by run_tac dk) (by decide) rfl (by run_tac dk) (run_branch (pc := 38) rfl (by run_tac dk) (alt_no (alt := 39) (next := 46) (by run_tac dk) (run_dead (X := ⟨rx7, T, p, 2 * 2, mlA⟩) (pc := 40) (op := .LITERAL) rfl rfl (by run_tac dk) hT (by run_tac dk)) rfl (alt_no (alt := 46) (next := 51) (by run_tac dk) (run_dead (X := ⟨rx7, T, p, 2 * 2, mlA⟩) (pc := 47) (op := .LITERAL) rfl rfl (by run_tac dk) hT (by run_tac dk)) rfl
      (alt_yes (alt := 51) (by run_tac dk) (run_is (pc := 52) (op := .LITERAL) (w := 2) (· == 10) rfl rfl (by run_tac dk) hT (by run_tac dk) rfl rfl h (run_jump (pc := 54) (pc' := 62) (.inl rfl) rfl (by run_tac dk) (run_mark (pc := 62) (i := 3) (l' := 3) rfl rfl (by run_tac dk) (by decide) rfl (by run_tac dk) (run_success rfl (by run_tac dk)))))))))) (by decide) (by run_tac dk)
  | false =>
    have n3 : Run ⟨rx7, T, p, 2 * 2, mlA⟩ #[] none 2 false 1 0 52 i .no := run_not (pc := 52) (op := .LITERAL) (· == 10) rfl rfl (by run_tac dk) hT (by run_tac dk) h
    cases e : i == T.size with
    | true =>
      have n4 : Run ⟨rx7, T, p, 2 * 2, mlA⟩ #[] none 2 false 4 0 57 i (.yes i) := run_at (b := true) (kk := 5) (pc := 57) rfl rfl (by run_tac dk) (fun m h1 h2 h3 => (at_end h1 h2 h3 h).trans (by (try dsimp only); rw [e])) (fun _ => run_jump (pc := 59) (pc' := 62) (.inl rfl) rfl (by run_tac dk) (run_mark (pc := 62) (i := 3) (l' := 3) rfl rfl (by run_tac dk) (by decide) rfl (by run_tac dk) (run_success rfl (by run_tac dk)))) (fun h => nomatch h)
      exact Run.mono (run_mark (pc := 36) (i := 2) (l' := 2) rfl rfl (by run_tac dk) (by decide) rfl (by run_tac dk) (run_branch (pc := 38) rfl (by run_tac dk) (alt_no (alt := 39) (next := 46) (by run_tac dk) (run_dead (X := ⟨rx7, T, p, 2 * 2, mlA⟩) (pc := 40) (op := .LITERAL) rfl rfl (by run_tac dk) hT (by run_tac dk)) rfl (alt_no (alt := 46) (next := 51) (by run_tac dk) (run_dead (X := ⟨rx7, T, p, 2 * 2, mlA⟩) (pc := 47) (op := .LITERAL) rfl rfl (by run_tac dk) hT (by run_tac dk)) rfl (alt_no (alt := 51) (next := 56) (by run_tac dk) n3 rfl (alt_yes (alt := 56) (by run_tac dk) n4)))))) (by decide) (by run_tac dk)
    | false =>
      have n4 : Run ⟨rx7, T, p, 2 * 2, mlA⟩ #[] none 2 false 1 0 57 i .no := run_at (K := 0) (D := 0) (b := false) (kk := 5) (pc := 57) rfl rfl (by run_tac dk) (fun m h1 h2 h3 => (at_end h1 h2 h3 h).trans (by (try dsimp only); rw [e])) (fun h => nomatch h) (fun _ => rfl)
      exact Run.mono (run_mark (pc := 36) (i := 2) (l' := 2) rfl rfl (by run_tac dk) (by decide) rfl (by run_tac dk) (run_branch (pc := 38) rfl (by run_tac dk) (alt_no (alt := 39) (next := 46) (by run_tac dk) (run_dead (X := ⟨rx7, T, p, 2 * 2, mlA⟩) (pc := 40) (op := .LITERAL) rfl rfl (by run_tac dk) hT (by run_tac dk)) rfl (alt_no (alt := 46) (next := 51) (by run_tac dk) (run_dead (X := ⟨rx7, T, p, 2 * 2, mlA⟩) (pc := 47) (op := .LITERAL) rfl rfl (by run_tac dk) hT (by run_tac dk)) rfl (alt_no (alt := 51) (next := 56) (by run_tac dk) n3 rfl (alt_no (alt := 56) (next := 61) (by run_tac dk) n4 rfl (alt_end (alt := 61) rfl))))))) (by decide) (by run_tac dk)

theorem lz7 (p c : Nat) : ∀ (n j : Nat), T.size = c + j + n → ∃ e, ct T (ru nl T (c + j)) = .yes e ∧ Take ⟨rx7, T, p, 2 * 2, mlA⟩ #[] none 1 false (61 * (n + 1)) (65 * (n + 1)) 30 c j (.yes e) := by
  intro n
  induction n with
  | zero =>
    intro j hj
    have e : ru nl T (c + j) = c + j := ru_out (by omega)
    have z := ct7 T hT p (c + j)
    have z2 : ct T (c + j) = .yes (c + j) := by unfold ct; rw [ch_out (by omega), if_neg (by decide), if_pos (by simp; omega)]
    rw [z2] at z
    exact ⟨c + j, by rw [e, z2], take_yes (X := ⟨rx7, T, p, 2 * 2, mlA⟩) (pc := 30) (tail := 36) rfl z⟩
  | succ n ih =>
    intro j hj
    have z := ct7 T hT p (c + j)
    cases h : nl (ch T (c + j)) with
    | false =>
      have h' : (ch T (c + j) == 10) = true := by simpa [nl] using h
      have e : ru nl T (c + j) = c + j := ru_no h
      have z2 : ct T (c + j) = .yes (c + j + 1) := by unfold ct; rw [if_pos h']
      rw [z2] at z
      refine ⟨c + j + 1, by rw [e, z2], ?_⟩
      intro m m0 kept hc ha hp hq hw
      obtain ⟨n', hn, w⟩ := take_yes (X := ⟨rx7, T, p, 2 * 2, mlA⟩) (pc := 30) (tail := 36) rfl z m m0 kept hc ha hp hq (by (try dsimp only); omega)
      exact ⟨n', by omega, w⟩
    | true =>
      obtain ⟨e, he, tk⟩ := ih (j + 1) (by omega)
      have h' : (ch T (c + j) == 10) = false := by simpa [nl] using h
      have hl : c + j < T.size := by omega
      have z2 : ct T (c + j) = .no := by unfold ct; rw [h', if_neg Bool.false_ne_true, if_neg (by simp; omega)]
      rw [z2] at z
      refine ⟨e, by rw [ru_step hl, h, if_pos rfl]; exact he, ?_⟩
      have hacc : Acc rx7 (30 + 4) (T.getD (c + j) 0) (nl (T.getD (c + j) 0)) := tab_acc (by run_tac dk) hT hl
      rw [show nl (T.getD (c + j) 0) = true from h] at hacc
      intro m m0 kept hc ha hp hq hw
      obtain ⟨n', hn, w⟩ := take_more (X := ⟨rx7, T, p, 2 * 2, mlA⟩) (pc := 30) (tail := 36) rfl rfl z hl hacc tk m m0 kept hc ha hp hq (by (try dsimp only); omega)
      exact ⟨n', by omega, w⟩

theorem bd7 (p i : Nat) (hi : i ≤ T.size) : Run ⟨rx7, T, p, 2 * 2, mlA⟩ #[] none 1 false 1000 1100 30 i (.yes (cend T i)) := by
  have hl := hT.len
  obtain ⟨e, he, tk⟩ := lz7 T hT p i (T.size - i) 0 (by omega)
  rw [cend_ct hi, show ru nl T i = ru nl T (i + 0) from rfl, he]
  exact Run.mono (run_lazy (X := ⟨rx7, T, p, 2 * 2, mlA⟩) (pc := 30) (least := 0) (P := nl) rfl rfl (by run_tac dk) hi (fun j a b => absurd b (by omega)) rfl tk) (by omega) (by (try dsimp only); omega)


theorem m7 : Mt rx7 2 T p (if ch T p == 45 && (ch T (p + 1) == 45) then .yes (cend T p) else .no) := by
  -- the second way never comes
  have n2 : ∀ i, Run ⟨rx7, T, p, 2 * 2, mlA⟩ #[] none 0 false 1 0 21 i .no := fun i => run_dead (X := ⟨rx7, T, p, 2 * 2, mlA⟩) (pc := 21) (op := .LITERAL) rfl rfl (by run_tac dk) hT (by run_tac dk)
  cases h0 : ch T p == 45 with
  | false =>
    refine' Mt.of (pc := 10) rfl ?_ ?_ ?_; run_tac kp
    · exact run_mark (pc := 10) (i := 0) (l' := 0) rfl rfl (by run_tac dk) (by decide) rfl (by run_tac dk) (run_branch (pc := 12) rfl (by run_tac dk) (alt_no (alt := 13) (next := 20) (by run_tac dk) (run_not (X := ⟨rx7, T, p, 2 * 2, mlA⟩) (pc := 14) (op := .LITERAL) (· == 45) rfl rfl (by run_tac dk) hT (by run_tac dk) h0) rfl (alt_no (alt := 20) (next := 27) (by run_tac dk) (n2 p) rfl (alt_end (alt := 27) rfl))))
    all_goals (run_tac dk)
  | true =>
    have l0 : p < T.size := lt_of_ch (P := (· == 45)) h0 rfl
    have s0 : nl (ch T p) = true := by rw [beq_iff_eq.mp h0]; rfl
    cases h1 : ch T (p + 1) == 45 with
    | false =>
      refine' Mt.of (pc := 10) rfl ?_ ?_ ?_; run_tac kp
      · exact run_mark (pc := 10) (i := 0) (l' := 0) rfl rfl (by run_tac dk) (by decide) rfl (by run_tac dk) (run_branch (pc := 12) rfl (by run_tac dk) (alt_no (alt := 13) (next := 20) (by run_tac dk) (run_is (X := ⟨rx7, T, p, 2 * 2, mlA⟩) (pc := 14) (op := .LITERAL) (w := 2) (· == 45) rfl rfl (by run_tac dk) hT (by run_tac dk) rfl rfl h0 (run_not (X := ⟨rx7, T, p, 2 * 2, mlA⟩) (pc := 16) (op := .LITERAL) (· == 45) rfl rfl (by run_tac dk) hT (by run_tac dk) h1)) rfl (alt_no (alt := 20) (next := 27) (by run_tac dk) (n2 p) rfl (alt_end (alt := 27) rfl))))
      all_goals (run_tac dk)
    | true =>
      have l1 : p + 1 < T.size := lt_of_ch (P := (· == 45)) h1 rfl
      have s1 : nl (ch T (p + 1)) = true := by rw [beq_iff_eq.mp h1]; rfl
      have z := bd7 T hT p (p + 2) l1
      have ec : cend T (p + 2) = cend T p := by
        have e : ru nl T p = ru nl T (p + 2) := by rw [ru_step l0, s0, if_pos rfl, ru_step l1, s1, if_pos rfl]
        unfold cend
        show (if ru nl T (p + 2) < T.size then ru nl T (p + 2) + 1 else ru nl T (p + 2)) = (if ru nl T p < T.size then ru nl T p + 1 else ru nl T p)
        rw [e]
      rw [ec] at z
      refine' Mt.of (pc := 10) rfl ?_ ?_ ?_; run_tac kp
      · exact run_mark (pc := 10) (i := 0) (l' := 0) rfl rfl (by run_tac dk) (by decide) rfl (by run_tac dk) (run_branch (pc := 12) rfl (by run_tac dk) (alt_yes (alt := 13) (by run_tac dk) (run_is (X := ⟨rx7, T, p, 2 * 2, mlA⟩) (pc := 14) (op := .LITERAL) (w := 2) (· == 45) rfl rfl (by run_tac dk) hT (by run_tac dk) rfl rfl h0 (run_is (X := ⟨rx7, T, p, 2 * 2, mlA⟩) (pc := 16) (op := .LITERAL) (w := 2) (· == 45) rfl rfl (by run_tac dk) hT (by run_tac dk) rfl rfl h1
          (run_jump (pc := 18) (pc' := 28) (.inl rfl) rfl (by run_tac dk) (run_mark (pc := 28) (i := 1) (l' := 1) rfl rfl (by run_tac dk) (by decide) rfl (by run_tac dk) z))))))
      all_goals (run_tac dk)


theorem ct6 (p i : Nat) : Run ⟨rx6, T, p, 2 * 2, mlA⟩ #[] none 1 false 60 60 38 i (ct T i) := by
  unfold ct
  cases h : ch T i == 10 with
  | true =>
    exact Run.mono (run_mark (pc := 38) (i := 2) (l' := 2) rfl rfl (by run_tac dk) (by decide) rfl (by run_tac dk) (run_branch (pc := 40) rfl (by run_tac dk) (alt_no (alt := 41) (next := 48) (by run_tac dk) (run_dead (X := ⟨rx6, T, p, 2 * 2, mlA⟩) (pc := 42) (op := .LITERAL) rfl rfl (by run_tac dk) hT (by run_tac dk)) rfl (alt_no (alt := 48) (next := 53) (by run_tac dk) (run_dead (X := ⟨rx6, T, p, 2 * 2, mlA⟩) (pc := 49) (op := .LITERAL) rfl rfl (by run_tac dk) hT (by run_tac dk)) rfl
      (alt_yes (alt := 53) (by run_tac dk) (run_is (pc := 54) (op := .LITERAL) (w := 2) (· == 10) rfl rfl (by run_tac dk) hT (by run_tac dk) rfl rfl h (run_jump (pc := 56) (pc' := 64) (.inl rfl) rfl (by run_tac dk) (run_mark (pc := 64) (i := 3) (l' := 3) rfl rfl (by run_tac dk) (by decide) rfl (by run_tac dk) (run_success rfl (by run_tac dk)))))))))) (by decide) (by run_tac dk)
  | false =>
    have n3 : Run ⟨rx6, T, p, 2 * 2, mlA⟩ #[] none 2 false 1 0 54 i .no := run_not (pc := 54) (op := .LITERAL) (· == 10) rfl rfl (by run_tac dk) hT (by run_tac dk) h
    cases e : i == T.size with
    | true =>
      have n4 : Run ⟨rx6, T, p, 2 * 2, mlA⟩ #[] none 2 false 4 0 59 i (.yes i) := run_at (b := true) (kk := 5) (pc := 59) rfl rfl (by run_tac dk) (fun m h1 h2 h3 => (at_end h1 h2 h3 h).trans (by (try dsimp only); rw [e])) (fun _ => run_jump (pc := 61) (pc' := 64) (.inl rfl) rfl (by run_tac dk) (run_mark (pc := 64) (i := 3) (l' := 3) rfl rfl (by run_tac dk) (by decide) rfl (by run_tac dk) (run_success rfl (by run_tac dk)))) (fun h => nomatch h)
      exact Run.mono (run_mark (pc := 38) (i := 2) (l' := 2) rfl rfl (by run_tac dk) (by decide) rfl (by run_tac dk) (run_branch (pc := 40) rfl (by run_tac dk) (alt_no (alt := 41) (next := 48) (by run_tac dk) (run_dead (X := ⟨rx6, T, p, 2 * 2, mlA⟩) (pc := 42) (op := .LITERAL) rfl rfl (by run_tac dk) hT (by run_tac dk)) rfl (alt_no (alt := 48) (next := 53) (by run_tac dk) (run_dead (X := ⟨rx6, T, p, 2 * 2, mlA⟩) (pc := 49) (op := .LITERAL) rfl rfl (by run_tac dk) hT (by run_tac dk)) rfl (alt_no (alt := 53) (next := 58) (by run_tac dk) n3 rfl (alt_yes (alt := 58) (by run_tac dk) n4)))))) (by decide) (by run_tac dk)
    | false =>
      have n4 : Run ⟨rx6, T, p, 2 * 2, mlA⟩ #[] none 2 false 1 0 59 i .no := run_at (K := 0) (D := 0) (b := false) (kk := 5) (pc := 59) rfl rfl (by run_tac dk) (fun m h1 h2 h3 => (at_end h1 h2 h3 h).trans (by (try dsimp only); rw [e])) (fun h => nomatch h) (fun _ => rfl)
      exact Run.mono (run_mark (pc := 38) (i := 2) (l' := 2) rfl rfl (by run_tac dk) (by decide) rfl (by run_tac dk) (run_branch (pc := 40) rfl (by run_tac dk) (alt_no (alt := 41) (next := 48) (by run_tac dk) (run_dead (X := ⟨rx6, T, p, 2 * 2, mlA⟩) (pc := 42) (op := .LITERAL) rfl rfl (by run_tac dk) hT (by run_tac dk)) rfl (alt_no (alt := 48) (next := 53) (by run_tac dk) (run_dead (X := ⟨rx6, T, p, 2 * 2, mlA⟩) (pc := 49) (op := .LITERAL) rfl rfl (by run_tac dk) hT (by run_tac dk)) rfl (alt_no (alt := 53) (next := 58) (by run_tac dk) n3 rfl (alt_no (alt := 58) (next := 63) (by run_tac dk) n4 rfl (alt_end (alt := 63) rfl))))))) (by decide) (by run_tac dk)

theorem lz6 (p c : Nat) : ∀ (n j : Nat), T.size = c + j + n → ∃ e, ct T (ru nl T (c + j)) = .yes e ∧ Take ⟨rx6, T, p, 2 * 2, mlA⟩ #[] none 1 false (61 * (n + 1)) (65 * (n + 1)) 32 c j (.yes e) := by
  intro n
  induction n with
  | zero =>
    intro j hj
    have e : ru nl T (c + j) = c + j := ru_out (by omega)
    have z := ct6 T hT p (c + j)
    have z2 : ct T (c + j) = .yes (c + j) := by unfold ct; rw [ch_out (by omega), if_neg (by decide), if_pos (by simp; omega)]
    rw [z2] at z
    exact ⟨c + j, by rw [e, z2], take_yes (X := ⟨rx6, T, p, 2 * 2, mlA⟩) (pc := 32) (tail := 38) rfl z⟩
  | succ n ih =>
    intro j hj
    have z := ct6 T hT p (c + j)
    cases h : nl (ch T (c + j)) with
    | false =>
      have h' : (ch T (c + j) == 10) = true := by simpa [nl] using h
      have e : ru nl T (c + j) = c + j := ru_no h
      have z2 : ct T (c + j) = .yes (c + j + 1) := by unfold ct; rw [if_pos h']
      rw [z2] at z
      refine ⟨c + j + 1, by rw [e, z2], ?_⟩
      intro m m0 kept hc ha hp hq hw
      obtain ⟨n', hn, w⟩ := take_yes (X := ⟨rx6, T, p, 2 * 2, mlA⟩) (pc := 32) (tail := 38) rfl z m m0 kept hc ha hp hq (by (try dsimp only); omega)
      exact ⟨n', by omega, w⟩
    | true =>
      obtain ⟨e, he, tk⟩ := ih (j + 1) (by omega)
      have h' : (ch T (c + j) == 10) = false := by simpa [nl] using h
      have hl : c + j < T.size := by omega
      have z2 : ct T (c + j) = .no := by unfold ct; rw [h', if_neg Bool.false_ne_true, if_neg (by simp; omega)]
      rw [z2] at z
      refine ⟨e, by rw [ru_step hl, h, if_pos rfl]; exact he, ?_⟩
      have hacc : Acc rx6 (32 + 4) (T.getD (c + j) 0) (nl (T.getD (c + j) 0)) := tab_acc (by run_tac dk) hT hl
      rw [show nl (T.getD (c + j) 0) = true from h] at hacc
      intro m m0 kept hc ha hp hq hw
      obtain ⟨n', hn, w⟩ := take_more (X := ⟨rx6, T, p, 2 * 2, mlA⟩) (pc := 32) (tail := 38) rfl rfl z hl hacc tk m m0 kept hc ha hp hq (by (try dsimp only); omega)
      exact ⟨n', by omega, w⟩

theorem bd6 (p i : Nat) (hi : i ≤ T.size) : Run ⟨rx6, T, p, 2 * 2, mlA⟩ #[] none 1 false 1000 1100 32 i (.yes (cend T i)) := by
  have hl := hT.len
  obtain ⟨e, he, tk⟩ := lz6 T hT p i (T.size - i) 0 (by omega)
  rw [cend_ct hi, show ru nl T i = ru nl T (i + 0) from rfl, he]
  exact Run.mono (run_lazy (X := ⟨rx6, T, p, 2 * 2, mlA⟩) (pc := 32) (least := 0) (P := nl) rfl rfl (by run_tac dk) hi (fun j a b => absurd b (by omega)) rfl tk) (by omega) (by (try dsimp only); omega)


theorem m6 : Mt rx6 2 T p (if ch T p == 45 && (ch T (p + 1) == 45 && ch T (p + 2) == 43) then .yes (cend T p) else .no) := by
  -- the second way never comes
  have n2 : ∀ i, Run ⟨rx6, T, p, 2 * 2, mlA⟩ #[] none 0 false 1 0 21 i .no := fun i => run_dead (X := ⟨rx6, T, p, 2 * 2, mlA⟩) (pc := 21) (op := .LITERAL) rfl rfl (by run_tac dk) hT (by run_tac dk)
  cases h0 : ch T p == 45 with
  | false =>
    refine' Mt.of (pc := 10) rfl ?_ ?_ ?_; run_tac kp
    · exact run_mark (pc := 10) (i := 0) (l' := 0) rfl rfl (by run_tac dk) (by decide) rfl (by run_tac dk) (run_branch (pc := 12) rfl (by run_tac dk) (alt_no (alt := 13) (next := 20) (by run_tac dk) (run_not (X := ⟨rx6, T, p, 2 * 2, mlA⟩) (pc := 14) (op := .LITERAL) (· == 45) rfl rfl (by run_tac dk) hT (by run_tac dk) h0) rfl (alt_no (alt := 20) (next := 27) (by run_tac dk) (n2 p) rfl (alt_end (alt := 27) rfl))))
    all_goals (run_tac dk)
  | true =>
    have l0 : p < T.size := lt_of_ch (P := (· == 45)) h0 rfl
    have s0 : nl (ch T p) = true := by rw [beq_iff_eq.mp h0]; rfl
    cases h1 : ch T (p + 1) == 45 with
    | false =>
      refine' Mt.of (pc := 10) rfl ?_ ?_ ?_; run_tac kp
      · exact run_mark (pc := 10) (i := 0) (l' := 0) rfl rfl (by run_tac dk) (by decide) rfl (by run_tac dk) (run_branch (pc := 12) rfl (by run_tac dk) (alt_no (alt := 13) (next := 20) (by run_tac dk) (run_is (X := ⟨rx6, T, p, 2 * 2, mlA⟩) (pc := 14) (op := .LITERAL) (w := 2) (· == 45) rfl rfl (by run_tac dk) hT (by run_tac dk) rfl rfl h0 (run_not (X := ⟨rx6, T, p, 2 * 2, mlA⟩) (pc := 16) (op := .LITERAL) (· == 45) rfl rfl (by run_tac dk) hT (by run_tac dk) h1)) rfl (alt_no (alt := 20) (next := 27) (by run_tac dk) (n2 p) rfl (alt_end (alt := 27) rfl))))
      all_goals (run_tac dk)
    | true =>
      have l1 : p + 1 < T.size := lt_of_ch (P := (· == 45)) h1 rfl
      have s1 : nl (ch T (p + 1)) = true := by rw [beq_iff_eq.mp h1]; rfl
      cases h2 : ch T (p + 2) == 43 with
      | false =>
        have z : Run ⟨rx6, T, p, 2 * 2, mlA⟩ #[] none 0 false 8 0 14 p .no := Run.mono (run_is (X := ⟨rx6, T, p, 2 * 2, mlA⟩) (pc := 14) (op := .LITERAL) (w := 2) (· == 45) rfl rfl (by run_tac dk) hT (by run_tac dk) rfl rfl h0 (run_is (X := ⟨rx6, T, p, 2 * 2, mlA⟩) (pc := 16) (op := .LITERAL) (w := 2) (· == 45) rfl rfl (by run_tac dk) hT (by run_tac dk) rfl rfl h1
          (run_jump (pc := 18) (pc' := 28) (.inl rfl) rfl (by run_tac dk) (run_mark (pc := 28) (i := 1) (l' := 1) rfl rfl (by run_tac dk) (by decide) rfl (by run_tac dk) (run_not (X := ⟨rx6, T, p, 2 * 2, mlA⟩) (pc := 30) (op := .LITERAL) (· == 43) rfl rfl (by run_tac dk) hT (by run_tac dk) h2))))) (by decide) (by decide)
        refine' Mt.of (pc := 10) rfl ?_ ?_ ?_; run_tac kp
        · exact run_mark (pc := 10) (i := 0) (l' := 0) rfl rfl (by run_tac dk) (by decide) rfl (by run_tac dk) (run_branch (pc := 12) rfl (by run_tac dk) (alt_no (alt := 13) (next := 20) (by run_tac dk) z rfl (alt_no (alt := 20) (next := 27) (by run_tac dk) (n2 p) rfl (alt_end (alt := 27) rfl))))
        all_goals (run_tac dk)
      | true =>
        have l2 : p + 2 < T.size := lt_of_ch (P := (· == 43)) h2 rfl
        have s2 : nl (ch T (p + 2)) = true := by rw [beq_iff_eq.mp h2]; rfl
        have z := bd6 T hT p (p + 3) l2
        have ec : cend T (p + 3) = cend T p := by
          have e : ru nl T p = ru nl T (p + 3) := by rw [ru_step l0, s0, if_pos rfl, ru_step l1, s1, if_pos rfl, ru_step l2, s2, if_pos rfl]
          unfold cend
          show (if ru nl T (p + 3) < T.size then ru nl T (p + 3) + 1 else ru nl T (p + 3)) = (if ru nl T p < T.size then ru nl T p + 1 else ru nl T p)
          rw [e]
        rw [ec] at z
        refine' Mt.of (pc := 10) rfl ?_ ?_ ?_; run_tac kp
        · exact run_mark (pc := 10) (i := 0) (l' := 0) rfl rfl (by run_tac dk) (by decide) rfl (by run_tac dk) (run_branch (pc := 12) rfl (by run_tac dk) (alt_yes (alt := 13) (by run_tac dk) (run_is (X := ⟨rx6, T, p, 2 * 2, mlA⟩) (pc := 14) (op := .LITERAL) (w := 2) (· == 45) rfl rfl (by run_tac dk) hT (by run_tac dk) rfl rfl h0 (run_is (X := ⟨rx6, T, p, 2 * 2, mlA⟩) (pc := 16) (op := .LITERAL) (w := 2) (· == 45) rfl rfl (by run_tac dk) hT (by run_tac dk) rfl rfl h1
            (run_jump (pc := 18) (pc' := 28) (.inl rfl) rfl (by run_tac dk) (run_mark (pc := 28) (i := 1) (l' := 1) rfl rfl (by run_tac dk) (by decide) rfl (by run_tac dk) (run_is (X := ⟨rx6, T, p, 2 * 2, mlA⟩) (pc := 30) (op := .LITERAL) (w := 2) (· == 43) rfl rfl (by run_tac dk) hT (by run_tac dk) rfl rfl h2 z)))))))
        all_goals (run_tac dk)

end Mine
-- T1
set_option maxRecDepth 20000
namespace Mine
open PySem PySem.Calls PyProof.Rows

section
variable {X : Fm} {ρ ρ' : List (Str × PV)} {e l r : Expr} {p q : PV} {pos : Pos} {b : Bool} {o : Out} {ss : List Stmt} {st : Stmt}
theorem Ex.end (hw : ∀ x p, ρ'.lookup x = some p → ρ.lookup x = some p) : Ex X ρ [] (.next ρ') := fun _ _ s _ _ G h => wpAny_execs_nil (h _ _ (.refl _ s) (Gd.weak G hw))
theorem lk_one {x y : Str} (h : ρ.lookup x = some p) (e : List.lookup y [(x, p)] = some q) : ρ.lookup y = some q := by
  rw [List.lookup_cons] at e
  cases hb : y == x with
  | true => rw [hb] at e; cases e; rw [eq_of_beq hb]; exact h
  | false => rw [hb] at e; cases e
theorem Ev.as (h : Ev X ρ e p) (hp : p = q) : Ev X ρ e q := hp ▸ h
theorem Ts.as {c : Bool} (h : Ts X ρ e b) (hp : b = c) : Ts X ρ e c := hp ▸ h
theorem execs_append (a c : List Stmt) (env : Env) : execs (a ++ c) env = (do match ← execs a env with | .next => execs c env | f => pure f) := by
  induction a with
  | nil => rw [List.nil_append, execs_nil, pure_bind]
  | cons st a ih =>
    rw [List.cons_append, execs_cons, execs_cons, bind_assoc]
    congr 1
    funext f
    cases f with
    | next => exact ih
    | brk => rw [pure_bind]
    | cont => rw [pure_bind]
    | ret v => rw [pure_bind]
theorem execs_If (test : Expr) (body orelse : List Stmt) (pos : Pos) (ss : List Stmt) (env : Env) : execs (.If test body orelse pos :: ss) env = (do standAt pos; let b ← isTrue test env (eval test env); if b then execs (body ++ ss) env else execs (orelse ++ ss) env) := by
  rw [execs_cons, exec_If, bind_assoc]
  congr 1
  funext _
  rw [bind_assoc]
  congr 1
  funext b
  cases b with
  | true => rw [if_pos rfl, if_pos rfl, execs_append]; rfl
  | false => rw [if_neg Bool.false_ne_true, if_neg Bool.false_ne_true, execs_append]; rfl
theorem Ex.if {body orelse : List Stmt} (ht : Ts X ρ e b) (h1 : b = true → Ex X ρ (body ++ ss) o) (h2 : b = false → Ex X ρ (orelse ++ ss) o) : Ex X ρ (.If e body orelse pos :: ss) o := fun A R s E Q G h => by
  rw [execs_If]
  refine wpAny_bind (wpAny_standAt (wpAny_bind (ht A R s _ _ G fun s1 u1 => ?_)))
  cases b with
  | true => exact h1 rfl A R s1 _ _ (Gd.up G u1) fun f s2 u2 k => h f s2 ((u1.upL _).trans u2) k
  | false => exact h2 rfl A R s1 _ _ (Gd.up G u1) fun f s2 u2 k => h f s2 ((u1.upL _).trans u2) k
theorem Ex.asg {x : Str} {np : Pos} (hv : Ev X ρ e p) (hl : X.scope.names.lookup x = some .local) (hk : X.scope.kind = .function) (hs : swapsWith e (some (.Name x np)) pos.line X.env = pure false) (h : Ex X ((x, p) :: ρ) ss o) : Ex X ρ (.Assign [.Name x np] e pos :: ss) o :=
  Ex.cons (Ex1.assign hv hl hk hs) h
theorem Ex.asgAs {x : Str} {np : Pos} (hv : Ev X ρ e p) (hp : p = q) (hl : X.scope.names.lookup x = some .local) (hk : X.scope.kind = .function) (hs : swapsWith e (some (.Name x np)) pos.line X.env = pure false) (h : Ex X ((x, q) :: ρ) ss o) : Ex X ρ (.Assign [.Name x np] e pos :: ss) o :=
  Ex.asg (hp ▸ hv) hl hk hs h
theorem Ex.rets (hv : Ev X ρ e p) : Ex X ρ (.Return (some e) pos :: ss) (.ret p) := Ex.ret (Ex1.ret hv)
end


/-! ## signs of a text -/
theorem ch_some {T : Array Nat} {j : Nat} (h : j < T.size) : T[j]? = some (ch T j) := by
  unfold ch
  simp [Array.getD_eq_getD_getElem?, h]
section
variable {X : Fm} {ρ ρ' : List (Str × PV)} {e l r : Expr} {p q : PV} {pos : Pos} {b : Bool} {T : Array Nat}
theorem Ev.signN {n : Str} {np : Pos} {i : Int} {j : Nat} (hv : Ev X ρ e (.str ⟨T⟩)) (hi : Ev X ρ (.Name n np) (.int i)) (hij : i = (j : Int)) (hj : j < T.size) (hT : T.size ≤ 14)
    (ht : ∀ o r, letTemporaryGo e o r = pure () := by intro _ _; rfl) : Ev X ρ (.Subscript e (.Name n np) pos) (.str ⟨#[ch T j]⟩) := by
  subst hij
  exact Ev.itemName hv hi (Int.natCast_nonneg _) (by show (j : Int) < (T.size : Nat); omega) (by show T.size < _; omega) (ch_some hj) ht
theorem Ev.signB {op : Operator} {bp : Pos} {i : Int} {j : Nat} (hv : Ev X ρ e (.str ⟨T⟩)) (hi : Ev X ρ (.BinOp l op r bp) (.int i)) (hij : i = (j : Int)) (hj : j < T.size) (hT : T.size ≤ 14)
    (ht : ∀ o r, letTemporaryGo e o r = pure () := by intro _ _; rfl) : Ev X ρ (.Subscript e (.BinOp l op r bp) pos) (.str ⟨#[ch T j]⟩) := by
  subst hij
  exact Ev.itemBin hv hi (Int.natCast_nonneg _) (by show (j : Int) < (T.size : Nat); omega) (by show T.size < _; omega) (ch_some hj) ht
/-- S stands for P among the signs -/
def Sg (S : Str) (P : Nat → Bool) : Prop := P 0 = false ∧ ∀ c ∈ Sig, (!(Builtin.Str.occurrences S ⟨#[c]⟩ 0 S.length 1).isEmpty) = P c
theorem Ts.isIn {S : Str} {P : Nat → Bool} {c : Nat} (hl : Ev X ρ l (.str ⟨#[c]⟩)) (hr : Ev X ρ r (.str S)) (hS : Sg S P) (hc : c ∈ Sig) (hm : behindInMarks .In r = false := by with_unfolding_all rfl) : Ts X ρ (.Compare l [.In] [r] pos) (P c) := by
  rw [← hS.2 c hc]
  exact Ts.cmp hl hr Cm.ins hm
theorem Ts.isSign {S : Str} {c k : Nat} (hl : Ev X ρ l (.str ⟨#[c]⟩)) (hr : Ev X ρ r (.str S)) (hS : S.cps.toList = [k]) (hm : behindInMarks .Eq r = false := by with_unfolding_all rfl) : Ts X ρ (.Compare l [.Eq] [r] pos) (c == k) := by
  have z := Ts.cmp (pos := pos) hl hr Cm.eqs hm
  rw [hS] at z
  have e : ((⟨#[c]⟩ : Str).cps.toList == [k]) = (c == k) := by
    show ([c] == [k]) = _
    simp
  rw [e] at z
  exact z
theorem Ts.ltLen {i : Int} {j : Nat} {np : Pos} (hl : Ev X ρ l (.int i)) (hr : Ev X ρ e (.str ⟨T⟩)) (hij : i = (j : Int)) (hlen : GlobalIs X.h₀ "len" (.builtin "len")) (hT : T.size ≤ 14) (hs : starEach [e] X.env = [(false, eval e X.env)]) (hn : X.scope.names.lookup ("len" : Str) = some .globalImplicit) (hk : X.scope.kind = .function) {p2 : Pos} :
    Ts X ρ (.Compare l [.Lt] [.Call (.Name "len" np) [e] [] p2] pos) (decide (j < T.size)) := by
  subst hij
  have z := Ts.cmp (pos := pos) hl (Ev.lenStr (np := np) (pos := p2) hlen hr (by show T.size < _; omega) hs hn hk) Cm.lt
  have e : decide ((j : Int) < ((⟨T⟩ : Str).length : Nat)) = decide (j < T.size) := by
    show decide ((j : Int) < (T.size : Nat)) = _
    congr 1
    simp
  rw [e] at z
  exact z
end
/-- a def of the text, known by its name -/
def Known (prog : Program) (w : World) (h₀ : Heap) (d : Nat) (x : Str) (args : List PV) (q : PV) : Prop :=
  ∃ f o fd, GlobalIs h₀ x (.ref f) ∧ h₀.get? f = some o ∧ o.data = .func fd ∧ Fn prog w h₀ d (.ref f) args q
def Has (h₀ : Heap) (x : Str) (params : Arguments) (body : List Stmt) (scope : Scope) : Prop := ∃ f cd, GlobalIs h₀ x (.ref f) ∧ DefAt h₀ f x params body scope cd
theorem Has.known {prog : Program} {w : World} {h₀ : Heap} {d : Nat} {x : Str} {params : Arguments} {body : List Stmt} {scope : Scope} {args : List PV} {q : PV} (H : Has h₀ x params body scope)
    (h : ∀ f cd, DefAt h₀ f x params body scope cd → Fn prog w h₀ d (.ref f) args q) : Known prog w h₀ d x args q := by
  obtain ⟨f, cd, g, D⟩ := H
  obtain ⟨o, pm, doc, ho, hd⟩ := D.obj
  exact ⟨f, o, _, g, ho, hd, h f cd D⟩
theorem Ev.callK {X : Fm} {ρ : List (Str × PV)} {e : Expr} {q p : PV} {pos : Pos} {x : Str} {np : Pos} {es : List Expr} {ps : List PV} (ha : EvArgs X ρ (e :: es) (p :: ps)) (K : Known X.prog X.w X.h₀ X.d x (p :: ps) q)
    (hx : X.scope.names.lookup x = some .globalImplicit) (hk : X.scope.kind = .function) (hdb : (x == ("__debug__" : Str)) = false) (he : starEach (e :: es) X.env = (false, eval e X.env) :: starEach es X.env) :
    Ev X ρ (.Call (.Name x np) (e :: es) [] pos) q := by
  obtain ⟨f, o, fd, g, ho, hd, hf⟩ := K
  exact Ev.call g ho hd hf ha hx hk hdb he

open Lean Elab Tactic Meta in
def szk : TacticM Unit := do
  evalTactic (← `(tactic| first | exact (show 1 ≤ sizeLine by decide) | exact (show 2 ≤ sizeLine by decide) | exact (show 3 ≤ sizeLine by decide) | exact (show 0 ≤ sizeLine by decide) | run_tac dk))
open Lean Elab Tactic Meta in
/-- one goal: what a tree tells; the side goals are left behind, in order -/
def evN : Nat → Bool → TacticM Unit
  | 0, _ => pure ()
  | n + 1, dive => do
    let g ← getMainGoal
    let t := (← instantiateMVars (← g.getType)).consumeMData
    let rest ← getUnsolvedGoals
    let rest := rest.drop 1
    setGoals [g]
    let go (tac : TacticM Unit) : TacticM Unit := do
      tac
      -- each goal that came, in turn
      let gs ← getUnsolvedGoals
      let mut left := #[]
      for g' in gs do
        if ← g'.isAssigned then continue
        setGoals [g']
        let t' := (← instantiateMVars (← g'.getType)).consumeMData
        if t'.isEq then evalTactic (← `(tactic| first | rfl | skip))
        else if t'.isAppOf ``Ev || t'.isAppOf ``Ts || t'.isAppOf ``EvArgs || t'.isAppOf ``Cm then
          evN n dive
        left := left ++ (← getUnsolvedGoals).toArray
      setGoals left.toList
    let head (e : Lean.Expr) : Name := (e.consumeMData).getAppFn.constName?.getD `x
    if t.isAppOf ``Ev then
      let e := t.getAppArgs[2]!.consumeMData
      let h := head e
      if h == ``PySem.Expr.Constant then
        evalTactic (← `(tactic| first | exact Ev.int | exact Ev.str | exact Ev.none | exact Ev.bool))
      else if h == ``PySem.Expr.Name then
        evalTactic (← `(tactic| exact Ev.local (by run_tac lk) (by run_tac dk) rfl (by run_tac dk)))
      else if h == ``PySem.Expr.BinOp && !t.getAppArgs[3]!.getAppFn.isMVar && !(t.getAppArgs[3]!.isAppOf ``PV.int && t.getAppArgs[3]!.appArg!.getAppFn.isMVar) then
        go (do evalTactic (← `(tactic| refine' Ev.as ?_ ?_)); setGoals (← (← getUnsolvedGoals).filterM fun g => do Meta.isProp (← g.getType)))
      else if h == ``PySem.Expr.BinOp then
        let op := head e.getAppArgs[1]!
        if op == ``PySem.Operator.Add then go (do evalTactic (← `(tactic| refine' Ev.add ?_ ?_)))
        else if op == ``PySem.Operator.Sub then go (do evalTactic (← `(tactic| refine' Ev.sub ?_ ?_)))
        else if op == ``PySem.Operator.Mod then go (do evalTactic (← `(tactic| refine' Ev.mod ?_ ?_ ?_)))
        else pure ()
      else if h == ``PySem.Expr.Tuple then go (do evalTactic (← `(tactic| refine' Ev.tuple ?_ (by run_tac szk))))
      else if h == ``PySem.Expr.List then go (do evalTactic (← `(tactic| refine' Ev.list ?_ (by run_tac szk))))
      else if h == ``PySem.Expr.IfExp then pure ()
      else if h == ``PySem.Expr.Call then
        let f := e.getAppArgs[0]!.consumeMData
        if head f == ``PySem.Expr.Name && strOf f.getAppArgs[0]! == some "len" then
          go (do evalTactic (← `(tactic| refine' Ev.lenStr (by first | with_reducible assumption | assumption) ?_ ?_ rfl (by run_tac dk) rfl)))
        else if head f == ``PySem.Expr.Name then go (do evalTactic (← `(tactic| refine' Ev.callK ?_ ?_ (by run_tac dk) rfl (by run_tac dk) rfl)))
        else pure ()
      else if h == ``PySem.Expr.Subscript then
        let sl := head e.getAppArgs[1]!
        if sl == ``PySem.Expr.Slice then go (do evalTactic (← `(tactic| refine' Ev.slice ?_ ?_ ?_ ?_)))
        else if sl == ``PySem.Expr.Name then go (do evalTactic (← `(tactic| refine' Ev.signN ?_ ?_ (by rfl) ?_ (by first | with_reducible assumption | assumption))))
        else if sl == ``PySem.Expr.BinOp then go (do evalTactic (← `(tactic| refine' Ev.signB ?_ ?_ (by rfl) ?_ (by first | with_reducible assumption | assumption))))
        else pure ()
      else pure ()
    else if t.isAppOf ``EvArgs then
      let e := t.getAppArgs[2]!.consumeMData
      if e.isAppOf ``List.nil then evalTactic (← `(tactic| exact EvArgs.nil))
      else go (do evalTactic (← `(tactic| refine' EvArgs.cons ?_ ?_)))
    else if t.isAppOf ``Ts then
      let e := t.getAppArgs[2]!.consumeMData
      let h := head e
      if h == ``PySem.Expr.Compare then
        go (do evalTactic (← `(tactic| refine' Ts.cmp ?_ ?_ ?_)))
      else if h == ``PySem.Expr.BoolOp then
        if head e.getAppArgs[0]! == ``PySem.BoolOp.And then go (do evalTactic (← `(tactic| refine' Ts.and_if ?_ (fun hc => ?_))))
        else go (do evalTactic (← `(tactic| refine' Ts.or_if ?_ (fun hc => ?_))))
      else pure ()
    else if t.isAppOf ``Cm then
      evalTactic (← `(tactic| first | exact Cm.lt | exact Cm.le | exact Cm.gt | exact Cm.ge | exact Cm.eqs | exact Cm.nes | exact Cm.ins | exact Cm.inl | exact Cm.notInl | skip))
    setGoals ((← getUnsolvedGoals) ++ rest)
open Lean Elab Tactic Meta in
/-- what a tree tells -/
def ev : TacticM Unit := evN 30 true

/-! ## a run of signs -/
variable {prog : Program} {w : World} {h₀ : Heap} {d : Nat}
/-- the base of the walk -/
structure Base (h₀ : Heap) : Prop where
  lim : h₀.NoLimit
  len : GlobalIs h₀ "len" (.builtin "len")
  list : GlobalIs h₀ "list" (.type "list")
  run : Has h₀ "_law_run" runA runB runS
  fig : Has h₀ "_law_figures" figA figB figS
  flo : Has h₀ "_law_float" floA floB floS
  stg : Has h₀ "_law_string" stgA stgB stgS
  wrd : Has h₀ "_law_word" wrdA wrdB wrdS
  tok : Has h₀ "_law_token" tokA tokB tokS
  num : Has h₀ "_law_number" numA numB numS

theorem run_kn (B : Base h₀) {T : Array Nat} {S : Str} (hT : Tx T) {P : Nat → Bool} (hS : Sg S P) {i : Nat} (hi : i ≤ T.size) :
    Known prog w h₀ (d + 1) "_law_run" [.str ⟨T⟩, .int i, .str S] (.int (ru P T i)) := by
  refine B.run.known fun f cd D => ?_
  have hlen := hT.len
  have hl := B.len
  refine Fn.intro D B.lim ["text", "at", "signs"] (fun pm doc vs hv => ?_) (by decide +kernel) (fun L => ?_) rfl rfl rfl (by decide +kernel)
  · match vs, hv with
    | [a, b, c], _ => rfl
  · unfold runB
    refine Ex.asg (p := .int i) (by run_tac ev) (by run_tac dk) rfl rfl ?_
    refine (Ex.cons (ρ' := [("end", .int (ru P T i))]) (Ex1.while (wh_inv (fun n ρ => ∃ j : Nat, n = T.size - j ∧ j ≤ T.size ∧ ru P T i = ru P T j ∧ ρ.lookup ("end" : Str) = some (.int j) ∧ ρ.lookup ("text" : Str) = some (.str ⟨T⟩) ∧ ρ.lookup ("signs" : Str) = some (.str S)) _ ?_ (T.size - i) ⟨i, rfl, hi, rfl, by run_tac lk, by run_tac lk, by run_tac lk⟩)) (Ex.rets (by run_tac ev)))
    rintro n ρ ⟨j, rfl, hj, e, h1, h2, h3⟩
    have t1 : ∀ pa pb pc pd pe, Ts ⟨prog, w, h₀, d, "_law_run", runS, L, f, cd⟩ ρ (.Compare (.Name "end" pa) [.Lt] [.Call (.Name "len" pb) [.Name "text" pc] [] pd] pe) (decide (j < T.size)) := fun _ _ _ _ _ => by
      refine Ts.ltLen ?_ ?_ rfl hl hlen rfl (by run_tac dk) rfl <;> run_tac ev
    have t2 : ∀ pa pb pc pd pe, j < T.size → Ts ⟨prog, w, h₀, d, "_law_run", runS, L, f, cd⟩ ρ (.Compare (.Subscript (.Name "text" pa) (.Name "end" pb) pc) [.In] [.Name "signs" pd] pe) (P (ch T j)) := fun _ _ _ _ _ hlt => by
      refine Ts.isIn ?_ ?_ hS (hT.sig j hlt) <;> run_tac ev
      exact hlt
    have t := fun pos pa pb pc pd pe qa qb qc qd qe => Ts.and_if (pos := pos) (t1 pa pb pc pd pe) fun h => t2 qa qb qc qd qe (of_decide_eq_true h)
    cases hb : (decide (j < T.size) && P (ch T j)) with
    | true =>
      have hlt : j < T.size := by simp at hb; exact hb.1
      have hp : P (ch T j) = true := by simp at hb; exact hb.2
      rw [hb] at t
      exact .inr ⟨t _ _ _ _ _ _ _ _ _ _ _, .inl ⟨_, T.size - (j + 1), by omega, ⟨j + 1, rfl, hlt, (e.trans (ru_yes hp hS.1)), lk_hit, by run_tac lk, by run_tac lk⟩, Ex.asgAs (by run_tac ev) (by rfl) (by run_tac dk) rfl rfl Ex.nil⟩⟩
    | false =>
      rw [hb] at t
      refine .inl ⟨t _ _ _ _ _ _ _ _ _ _ _, Ex.end fun x p hx => lk_one ?_ hx⟩
      have hr : ru P T j = j := by
        by_cases hlt : j < T.size
        · exact ru_no (by simpa [hlt] using hb)
        · exact ru_out (Nat.le_of_not_lt hlt)
      rw [e, hr]; exact h1
end Mine
-- T2
set_option maxRecDepth 20000
namespace Mine
open PySem PySem.Calls PyProof.Rows

theorem sgDg : Sg "0123456789" dg := ⟨rfl, by decide +kernel⟩
theorem sgLt : Sg "asnieE" lt := ⟨rfl, by decide +kernel⟩
theorem sgWd : Sg "asnieE0123456789" wd := ⟨rfl, by decide +kernel⟩
theorem sgSp : Sg " \n" sp := ⟨rfl, by decide +kernel⟩
theorem sgEq : Sg "=" eqs := ⟨rfl, by decide +kernel⟩
theorem sgPm : Sg "+-" pm := ⟨rfl, by decide +kernel⟩
def ee (c : Nat) : Bool := c == 101 || c == 69
theorem sgEe : Sg "eE" ee := ⟨rfl, by decide +kernel⟩
def nm (c : Nat) : Bool := c == 45 || c == 46 || dg c
theorem sgNm : Sg "-.0123456789" nm := ⟨rfl, by decide +kernel⟩
theorem sgPu : Sg ".,;()" pu := ⟨rfl, by decide +kernel⟩

section
variable {X : Fm} {ρ : List (Str × PV)} {r : Expr} {T : Array Nat} {j : Nat} {n : Str} {pa pb pc pd pe qa qb qc qe pos : Pos}
theorem Ts.inAt {S : Str} {P : Nat → Bool} (hl : GlobalIs X.h₀ "len" (.builtin "len")) (hT : Tx T) (h1 : ρ.lookup n = some (.int j)) (h2 : ρ.lookup ("text" : Str) = some (.str ⟨T⟩)) (hr : Ev X ρ r (.str S)) (hS : Sg S P)
    (k1 : X.scope.names.lookup n = some .local) (k2 : X.scope.names.lookup ("text" : Str) = some .local) (k3 : X.scope.names.lookup ("len" : Str) = some .globalImplicit) (hk : X.scope.kind = .function) (hn : (n == ("__debug__" : Str)) = false) (hm : behindInMarks .In r = false) :
    Ts X ρ (.BoolOp .And [.Compare (.Name n pa) [.Lt] [.Call (.Name "len" pb) [.Name "text" pc] [] pd] pe, .Compare (.Subscript (.Name "text" qa) (.Name n qb) qc) [.In] [r] qe] pos) (P (ch T j)) := by
  have e : P (ch T j) = (decide (j < T.size) && P (ch T j)) := by
    by_cases h : j < T.size
    · rw [decide_eq_true h, Bool.true_and]
    · rw [decide_eq_false h, Bool.false_and, ch_out (Nat.le_of_not_lt h)]; exact hS.1
  rw [e]
  refine Ts.and_if ?_ fun h => ?_
  · exact Ts.ltLen (Ev.local h1 k1 hk hn) (Ev.local h2 k2 hk (by decide +kernel)) rfl hl hT.len rfl k3 hk
  · have h := of_decide_eq_true h
    exact Ts.isIn (Ev.signN (Ev.local h2 k2 hk (by decide +kernel)) (Ev.local h1 k1 hk hn) rfl h hT.len) hr hS (hT.sig j h) hm
theorem Ts.eqAt {S : Str} {k : Nat} (hl : GlobalIs X.h₀ "len" (.builtin "len")) (hT : Tx T) (h1 : ρ.lookup n = some (.int j)) (h2 : ρ.lookup ("text" : Str) = some (.str ⟨T⟩)) (hr : Ev X ρ r (.str S)) (hS : S.cps.toList = [k]) (hk0 : k ≠ 0)
    (k1 : X.scope.names.lookup n = some .local) (k2 : X.scope.names.lookup ("text" : Str) = some .local) (k3 : X.scope.names.lookup ("len" : Str) = some .globalImplicit) (hk : X.scope.kind = .function) (hn : (n == ("__debug__" : Str)) = false) (hm : behindInMarks .Eq r = false) :
    Ts X ρ (.BoolOp .And [.Compare (.Name n pa) [.Lt] [.Call (.Name "len" pb) [.Name "text" pc] [] pd] pe, .Compare (.Subscript (.Name "text" qa) (.Name n qb) qc) [.Eq] [r] qe] pos) (ch T j == k) := by
  have e : (ch T j == k) = (decide (j < T.size) && (ch T j == k)) := by
    by_cases h : j < T.size
    · rw [decide_eq_true h, Bool.true_and]
    · rw [decide_eq_false h, Bool.false_and, ch_out (Nat.le_of_not_lt h)]; simpa using fun h => hk0 h.symm
  rw [e]
  refine Ts.and_if ?_ fun h => ?_
  · exact Ts.ltLen (Ev.local h1 k1 hk hn) (Ev.local h2 k2 hk (by decide +kernel)) rfl hl hT.len rfl k3 hk
  · have h := of_decide_eq_true h
    exact Ts.isSign (Ev.signN (Ev.local h2 k2 hk (by decide +kernel)) (Ev.local h1 k1 hk hn) rfl h hT.len) hr hS hm
end

def PV.opt : Option Nat → PV
  | Option.none => .none
  | Option.some n => .int n

variable {prog : Program} {w : World} {h₀ : Heap} {d : Nat}
/-- where figures end ahead of a letter -/
def figO (T : Array Nat) (i least : Nat) : Option Nat :=
  if lt (ch T (ru dg T i)) then (if i + least < ru dg T i then some (ru dg T i - 1) else none) else (if i + least ≤ ru dg T i then some (ru dg T i) else none)
theorem fig_kn (B : Base h₀) {T : Array Nat} (hT : Tx T) {i least : Nat} (hi : i ≤ T.size) (hd : 1 ≤ d) : Known prog w h₀ (d + 1) "_law_figures" [.str ⟨T⟩, .int i, .int least] (.opt (figO T i least)) := by
  obtain ⟨d, rfl⟩ : ∃ k, d = k + 1 := ⟨d - 1, by omega⟩
  refine B.fig.known fun f cd D => ?_
  have hlen := hT.len
  have hl := B.len
  have hge := ru_ge dg T i
  refine Fn.intro D B.lim ["text", "at", "least"] (fun pm doc vs hv => ?_) (by decide +kernel) (fun L => ?_) rfl rfl rfl (by decide +kernel)
  · match vs, hv with
    | [a, b, c], _ => rfl
  · unfold figB
    refine Ex.asg (p := .int (ru dg T i)) ?_ (by run_tac dk) rfl rfl ?_
    · run_tac ev
      exact run_kn B hT sgDg hi
    refine Ex.if (Ts.inAt (j := ru dg T i) hl hT (by run_tac lk) (by run_tac lk) (by run_tac ev) sgLt (by run_tac dk) (by run_tac dk) (by run_tac dk) rfl (by run_tac dk) rfl) (fun h => ?_) (fun h => ?_)
    · refine Ex.asg (p := .int ((ru dg T i : Int) - 1)) (by run_tac ev) (by run_tac dk) rfl rfl (Ex.rets ?_)
      unfold figO
      rw [if_pos h]
      refine Ev.ifexp (b := decide (i + least < ru dg T i)) ?_ (fun h => ?_) (fun h => ?_)
      · refine Ts.as (b := decide ((ru dg T i : Int) - 1 - i ≥ least)) (by run_tac ev) ?_
        congr 1; apply propext; omega
      · rw [if_pos (of_decide_eq_true h)]
        have := of_decide_eq_true h
        refine Ev.as (p := .int ((ru dg T i : Int) - 1)) (by run_tac ev) ?_
        show PV.int _ = PV.int _
        congr 1; omega
      · rw [if_neg (of_decide_eq_false h)]
        exact Ev.none
    · refine Ex.rets ?_
      unfold figO
      rw [if_neg (by rw [h]; decide)]
      refine Ev.ifexp (b := decide (i + least ≤ ru dg T i)) ?_ (fun h => ?_) (fun h => ?_)
      · refine Ts.as (b := decide ((ru dg T i : Int) - i ≥ least)) (by run_tac ev) ?_
        congr 1; apply propext; omega
      · rw [if_pos (of_decide_eq_true h)]
        exact Ev.local (by run_tac lk) (by run_tac dk) rfl (by run_tac dk)
      · rw [if_neg (of_decide_eq_false h)]
        exact Ev.none
end Mine
-- T3
set_option maxRecDepth 20000
set_option maxHeartbeats 4000000
namespace Mine
open PySem PySem.Calls PyProof.Rows

section
variable {X : Fm} {ρ : List (Str × PV)} {e1 e2 e3 : Expr} {pos : Pos}
theorem Ts.and3 {c d f : Bool} (h1 : Ts X ρ e1 c) (h2 : c = true → Ts X ρ e2 d) (h3 : c = true → d = true → Ts X ρ e3 f) : Ts X ρ (.BoolOp .And [e1, e2, e3] pos) (c && (d && f)) := by
  cases c with
  | false => exact Ts.boolOp (TsAll.and_no h1)
  | true =>
    refine Ts.boolOp (TsAll.and_yes h1 ?_)
    cases d with
    | false => exact TsAll.and_no (h2 rfl)
    | true =>
      refine TsAll.and_yes (h2 rfl) ?_
      cases f with
      | false => exact TsAll.and_no (h3 rfl rfl)
      | true => exact TsAll.and_yes (h3 rfl rfl) TsAll.and_nil
theorem drop1 {x : Str} {q : PV} (h : ρ.lookup x = none) : ∀ y p, ρ.lookup y = some p → List.lookup y ((x, q) :: ρ) = some p := by
  intro y p e
  rw [List.lookup_cons]
  cases hb : y == x with
  | true => rw [eq_of_beq hb, h] at e; cases e
  | false => exact e
end


/-- fewer names -/
def Sub (ρ' ρ : List (Str × PV)) : Prop := ∀ x p, ρ'.lookup x = some p → ρ.lookup x = some p
theorem Sub.nil {ρ : List (Str × PV)} : Sub [] ρ := fun _ _ e => nomatch e
theorem Sub.cons {ρ' ρ : List (Str × PV)} {x : Str} {p : PV} (h : ρ.lookup x = some p) (hs : Sub ρ' ρ) : Sub ((x, p) :: ρ') ρ := by
  intro y q e
  rw [List.lookup_cons] at e
  cases hb : y == x with
  | true => rw [hb] at e; cases e; rw [eq_of_beq hb]; exact h
  | false => rw [hb] at e; exact hs y q e
def find1 (ρ : List (Str × PV)) (g : Nat → Option Nat) (n : Nat) : Out := match g n with
  | some v => .ret (.int v)
  | none => .next ρ
def findL (ρ : List (Str × PV)) (g : Nat → Option Nat) (l : List Nat) : Out := match l.findSome? g with
  | some v => .ret (.int v)
  | none => .next ρ
theorem turns_find {X : Fm} {ρ : List (Str × PV)} {x : Str} {body : List Stmt} {g : Nat → Option Nat} (h : ∀ n, Ex X ((x, .int (n : Nat)) :: ρ) body (find1 ρ g n)) : ∀ l : List Nat, Turns X x body (l.map fun n => PV.int (n : Nat)) ρ (findL ρ g l)
  | [] => Ex.nil
  | n :: l => by
    have z := h n
    unfold find1 at z
    cases e : g n with
    | some v =>
      rw [e] at z
      refine .inr ⟨.int v, ?_, z⟩
      unfold findL
      rw [List.findSome?_cons, e]
    | none =>
      rw [e] at z
      refine .inl ⟨ρ, z, ?_⟩
      have : findL ρ g (n :: l) = findL ρ g l := by
        unfold findL
        rw [List.findSome?_cons, e]
      rw [this]
      exact turns_find h l

open Lean Elab Tactic Meta PySem.W in
/-- the body of the first for (or while) in a def -/
def putLoop (n : String) : TacticM Unit := withMainContext do
  let cells ← stmtCells
  let some d := cells.find? (fun s => s.isAppOf ``Stmt.FunctionDef && strOf s.getAppArgs[0]! == some n) | throwError "def"
  let some l := d.getAppArgs[2]!.find? (fun x => x.isAppOf ``Stmt.For || x.isAppOf ``Stmt.While) | throwError "loop"
  (← getMainGoal).assign (if l.isAppOf ``Stmt.For then l.getAppArgs[2]! else l.getAppArgs[1]!)
def floLoop : List Stmt := by run_tac putLoop "_law_float"

variable {prog : Program} {w : World} {h₀ : Heap} {d : Nat}
def powO (T : Array Nat) (i : Nat) : Option Nat :=
  if ee (ch T i) then (if sgn T (i + 1) < ru dg T (sgn T (i + 1)) then some (ru dg T (sgn T (i + 1))) else none) else none
def endsO (T : Array Nat) (e : Nat) : List Nat := if (decide (e + 1 < T.size) && (ch T e == 46 && decide (e + 1 < ru dg T (e + 1)))) then [ru dg T (e + 1), e] else [e]
def floO (T : Array Nat) (i : Nat) : Option Nat :=
  if sgn T i < ru dg T (sgn T i) then
    (match (endsO T (ru dg T (sgn T i))).findSome? (powO T) with
    | some v => some v
    | none => if ch T (ru dg T (sgn T i)) == 46 then figO T (ru dg T (sgn T i) + 1) 0 else none)
  else if ch T (ru dg T (sgn T i)) == 46 then figO T (ru dg T (sgn T i) + 1) 1 else none

open Lean Elab Tactic Meta in
/-- the rest of a loop's body: its names -/
def dkn : TacticM Unit := do evalTactic (← `(tactic| first | (run_tac dk) | rfl))

theorem flo_kn (B : Base h₀) {T : Array Nat} (hT : Tx T) {i : Nat} (hi : i < T.size) (hd : 3 ≤ d) : Known prog w h₀ d "_law_float" [.str ⟨T⟩, .int i] (.opt (floO T i)) := by
  obtain ⟨d, rfl⟩ : ∃ k, d = k + 1 + 1 + 1 := ⟨d - 3, by omega⟩
  refine B.flo.known fun f cd D => ?_
  have hlen := hT.len
  have hl := B.len
  refine Fn.intro D B.lim ["text", "at"] (fun pm doc vs hv => ?_) (by decide +kernel) (fun L => ?_) rfl rfl rfl (by decide +kernel)
  · match vs, hv with
    | [a, b], _ => rfl
  · unfold floB
    have hsg : sgn T i ≤ T.size := sgn_le T hT (Nat.le_of_lt hi)
    refine Ex.asg (p := .int (sgn T i)) ?_ (by run_tac dk) rfl rfl ?_
    · refine Ev.ifexp (b := ch T i == 45) ?_ (fun h => ?_) (fun h => ?_)
      · exact Ts.isSign (c := ch T i) (by (run_tac ev); (exact hi)) (by run_tac ev) (by run_tac dk)
      · refine Ev.as (p := .int ((i : Int) + 1)) (by run_tac ev) ?_
        unfold sgn; rw [h]; rfl
      · refine Ev.as (p := .int i) (by run_tac ev) ?_
        unfold sgn; rw [h]; rfl
    have he : ru dg T (sgn T i) ≤ T.size := ru_le hsg
    refine Ex.asg (p := .int (ru dg T (sgn T i))) ?_ (by run_tac dk) rfl rfl ?_
    · run_tac ev
      exact run_kn B hT sgDg hsg
    generalize hE : ru dg T (sgn T i) = e at he
    refine Ex.if (b := decide (sgn T i < e)) ?_ (fun h => ?_) (fun h => ?_)
    · refine Ts.as (b := decide ((e : Int) > (sgn T i : Nat))) (by run_tac ev) ?_
      congr 1; apply propext; omega
    · have h := of_decide_eq_true h
      refine Ex.asg (p := .lst [.int e]) (by run_tac ev) (by run_tac dk) rfl rfl ?_
      refine Ex.cons (ρ' := [("ends", .lst ((endsO T e).map fun n => PV.int (n : Nat))), ("end", .int e), ("text", .str ⟨T⟩)]) (Ex1.ite (b := decide (e + 1 < T.size) && (ch T e == 46 && decide (e + 1 < ru dg T (e + 1)))) ?_ (fun hc => ?_) (fun hc => ?_)) ?_
      · refine Ts.and3 ?_ (fun h1 => ?_) (fun h1 h2 => ?_)
        · exact Ts.ltLen (i := (e : Int) + 1) (by run_tac ev) (by run_tac ev) (by rfl) hl hlen rfl (by run_tac dk) rfl
        · have h1 := of_decide_eq_true h1
          exact Ts.isSign (c := ch T e) (by (run_tac ev); (omega)) (by run_tac ev) (by run_tac dk)
        · have h1 := of_decide_eq_true h1
          refine Ts.as (b := decide ((ru dg T (e + 1) : Int) > (e : Int) + 1)) ?_ ?_
          · run_tac ev
            exact run_kn B hT sgDg (i := e + 1) (by omega)
          · congr 1; apply propext; omega
      · refine Ex.asg (p := .lst [.int (ru dg T (e + 1)), .int e]) ?_ (by run_tac dk) rfl rfl (Ex.end (Sub.cons ?_ (Sub.cons (by run_tac lk) (Sub.cons (by run_tac lk) Sub.nil))))
        · run_tac ev
          have hc1 := (Bool.and_eq_true_iff.mp hc).1
          exact run_kn B hT sgDg (i := e + 1) (by have := of_decide_eq_true hc1; omega)
        · unfold endsO; rw [if_pos hc]; exact lk_hit
      · refine Ex.end (Sub.cons ?_ (Sub.cons (by run_tac lk) (Sub.cons (by run_tac lk) Sub.nil)))
        unfold endsO; rw [hc, if_neg Bool.false_ne_true]; exact lk_hit
      -- the loop
      have turn := fun (body : List Stmt) (hb : ∀ n : Nat, Ex ⟨prog, w, h₀, d + 1 + 1, "_law_float", floS, L, f, cd⟩ [("one", .int n), ("ends", .lst ((endsO T e).map fun n => PV.int (n : Nat))), ("end", .int e), ("text", .str ⟨T⟩)] body (find1 [("ends", .lst ((endsO T e).map fun n => PV.int (n : Nat))), ("end", .int e), ("text", .str ⟨T⟩)] (powO T) n)) => turns_find hb (endsO T e)
      have hF : floO T i = (match (endsO T e).findSome? (powO T) with | some v => some v | none => if ch T e == 46 then figO T (e + 1) 0 else none) := by
        unfold floO; rw [hE, if_pos h]
      have dropOne : Sub [("ends", .lst ((endsO T e).map fun n => PV.int (n : Nat))), ("end", .int e), ("text", .str ⟨T⟩)] (("one", .int 0) :: [("ends", .lst ((endsO T e).map fun n => PV.int (n : Nat))), ("end", .int e), ("text", .str ⟨T⟩)]) :=
        Sub.cons (by run_tac lk) (Sub.cons (by run_tac lk) (Sub.cons (by run_tac lk) Sub.nil))
      have turn' : ∀ (n : Nat), Ex ⟨prog, w, h₀, d + 1 + 1, "_law_float", floS, L, f, cd⟩ [("one", .int n), ("ends", .lst ((endsO T e).map fun n => PV.int (n : Nat))), ("end", .int e), ("text", .str ⟨T⟩)] floLoop (find1 [("ends", .lst ((endsO T e).map fun n => PV.int (n : Nat))), ("end", .int e), ("text", .str ⟨T⟩)] (powO T) n) := by
        intro n
        unfold floLoop
        refine Ex.if (Ts.inAt (j := n) hl hT (by run_tac lk) (by run_tac lk) (by run_tac ev) sgEe (by run_tac dk) (by run_tac dk) (by run_tac dk) rfl (by run_tac dk) rfl) (fun h1 => ?_) (fun h1 => ?_)
        · have hn : n + 1 ≤ T.size := lt_of_ch h1 rfl
          have hs1 : sgn T (n + 1) ≤ T.size := sgn_le T hT hn
          refine Ex.asgAs (q := .int (n + 1 : Nat)) (by run_tac ev) (by rfl) (by run_tac dk) rfl rfl ?_
          refine Ex.cons (ρ' := [("power", .int (sgn T (n + 1))), ("ends", .lst ((endsO T e).map fun n => PV.int (n : Nat))), ("end", .int e), ("text", .str ⟨T⟩)]) (Ex1.ite (Ts.eqAt (j := n + 1) (k := 45) hl hT (by run_tac lk) (by run_tac lk) (by run_tac ev) (by run_tac dk) (by decide) (by run_tac dk) (by run_tac dk) (by run_tac dk) rfl (by run_tac dk) rfl) (fun h2 => ?_) (fun h2 => ?_)) ?_
          · refine Ex.asgAs (q := .int (sgn T (n + 1))) (by run_tac ev) ?_ (by run_tac dk) rfl rfl (Ex.end (Sub.cons (by run_tac lk) (Sub.cons (by run_tac lk) (Sub.cons (by run_tac lk) (Sub.cons (by run_tac lk) Sub.nil)))))
            unfold sgn; rw [if_pos h2]; rfl
          · refine Ex.end (Sub.cons ?_ (Sub.cons (by run_tac lk) (Sub.cons (by run_tac lk) (Sub.cons (by run_tac lk) Sub.nil))))
            unfold sgn; rw [h2]; exact lk_hit
          · have hp : powO T n = if sgn T (n + 1) < ru dg T (sgn T (n + 1)) then some (ru dg T (sgn T (n + 1))) else none := by unfold powO; rw [if_pos h1]
            refine Ex.if (b := decide (sgn T (n + 1) < ru dg T (sgn T (n + 1)))) ?_ (fun h3 => ?_) (fun h3 => ?_)
            · refine Ts.as (b := decide ((ru dg T (sgn T (n + 1)) : Int) > (sgn T (n + 1) : Nat))) ?_ ?_
              · run_tac ev
                exact run_kn B hT sgDg hs1
              · congr 1; apply propext; omega
            · have e1 : ∀ ρ, find1 ρ (powO T) n = .ret (.int (ru dg T (sgn T (n + 1)))) := by
                intro ρ; unfold find1; rw [hp, if_pos (of_decide_eq_true h3)]
              rw [e1]
              refine Ex.rets ?_
              run_tac ev
              exact run_kn B hT sgDg hs1
            · have e1 : ∀ ρ, find1 ρ (powO T) n = .next ρ := by
                intro ρ; unfold find1; rw [hp, if_neg (of_decide_eq_false h3)]
              rw [e1]
              exact Ex.end (Sub.cons (by run_tac lk) (Sub.cons (by run_tac lk) (Sub.cons (by run_tac lk) Sub.nil)))
        · have e1 : ∀ ρ, find1 ρ (powO T) n = .next ρ := by
            intro ρ; unfold find1 powO; rw [h1]; rfl
          rw [e1]
          exact Ex.end (Sub.cons (by run_tac lk) (Sub.cons (by run_tac lk) (Sub.cons (by run_tac lk) Sub.nil)))
      have tn := turn floLoop turn'
      unfold findL at tn
      rw [hF]
      cases hf : (endsO T e).findSome? (powO T) with
      | some v =>
        rw [hf] at tn
        exact Ex.ret (Ex1.for (items := (endsO T e).map fun n => PV.int (n : Nat)) (Ev.local (by run_tac lk) (by run_tac dk) rfl (by run_tac dk)) tn (by run_tac dk) rfl)
      | none =>
        rw [hf] at tn
        refine Ex.cons (Ex1.for (items := (endsO T e).map fun n => PV.int (n : Nat)) (Ev.local (by run_tac lk) (by run_tac dk) rfl (by run_tac dk)) tn (by run_tac dk) rfl) ?_
        refine Ex.if (Ts.eqAt (j := e) (k := 46) hl hT (by run_tac lk) (by run_tac lk) (by run_tac ev) (by run_tac dk) (by decide) (by run_tac dk) (by run_tac dk) (by run_tac dk) rfl (by run_tac dk) rfl) (fun h => ?_) (fun h => ?_)
        · rw [if_pos h]
          refine Ex.rets ?_
          run_tac ev
          exact fig_kn B hT (i := e + 1) (least := 0) (lt_of_ch (P := (· == 46)) h rfl) (by omega)
        · rw [h, if_neg Bool.false_ne_true]
          exact Ex.rets Ev.none
    · have h := of_decide_eq_false h
      have hF : floO T i = if ch T e == 46 then figO T (e + 1) 1 else none := by
        unfold floO; rw [hE, if_neg h]
      rw [hF]
      refine Ex.if (Ts.eqAt (j := e) (k := 46) hl hT (by run_tac lk) (by run_tac lk) (by run_tac ev) (by run_tac dk) (by decide) (by run_tac dk) (by run_tac dk) (by run_tac dk) rfl (by run_tac dk) rfl) (fun h => ?_) (fun h => ?_)
      · rw [if_pos h]
        refine Ex.rets ?_
        run_tac ev
        exact fig_kn B hT (i := e + 1) (least := 1) (lt_of_ch (P := (· == 46)) h rfl) (by omega)
      · rw [h, if_neg Bool.false_ne_true]
        exact Ex.rets Ev.none
end Mine
-- T4
set_option maxRecDepth 20000
set_option maxHeartbeats 4000000
namespace Mine
open PySem PySem.Calls PyProof.Rows

/-! ## slices -/
theorem slice_idx (i j n : Nat) : Builtin.Str.strSliceIndices (some (i : Int)) (some (j : Int)) 1 n = (List.range (min j n - min i n)).map fun k => min i n + k := by
  unfold Builtin.Str.strSliceIndices sliceRange
  have e1 : (if (1 : Int) > 0 then max 0 (min (if (i : Int) < 0 then (i : Int) + (n : Int) else (i : Int)) (n : Int)) else max (-1) (min (if (i : Int) < 0 then (i : Int) + (n : Int) else (i : Int)) ((n : Int) - 1))) = ((min i n : Nat) : Int) := by
    rw [if_pos (by decide), if_neg (by omega)]; omega
  have e2 : (if (1 : Int) > 0 then max 0 (min (if (j : Int) < 0 then (j : Int) + (n : Int) else (j : Int)) (n : Int)) else max (-1) (min (if (j : Int) < 0 then (j : Int) + (n : Int) else (j : Int)) ((n : Int) - 1))) = ((min j n : Nat) : Int) := by
    rw [if_pos (by decide), if_neg (by omega)]; omega
  simp only [e1, e2]
  rw [if_pos (by decide)]
  have e3 : (if ((min i n : Nat) : Int) < ((min j n : Nat) : Int) then (((min j n : Nat) : Int) - ((min i n : Nat) : Int) + 1 - 1) / 1 else 0).toNat = min j n - min i n := by
    by_cases h : ((min i n : Nat) : Int) < ((min j n : Nat) : Int)
    · rw [if_pos h, Int.ediv_one]; omega
    · rw [if_neg h]; omega
  rw [e3]
  apply List.map_congr_left
  intro k _
  omega
theorem filterMap_some {α β : Type} {f : α → Option β} {g : α → β} : ∀ {l : List α}, (∀ x ∈ l, f x = some (g x)) → l.filterMap f = l.map g
  | [], _ => rfl
  | a :: l, h => by
    rw [List.filterMap_cons, h a List.mem_cons_self, List.map_cons, filterMap_some fun x hx => h x (List.mem_cons_of_mem _ hx)]
theorem slice_ex (T : Array Nat) (i j : Nat) : Txt.slice ⟨T⟩ (some (i : Int)) (some (j : Int)) = ⟨T.extract i j⟩ := by
  have hl : (⟨T⟩ : Str).length = T.size := rfl
  unfold Txt.slice
  rw [hl, slice_idx]
  by_cases h : ((1 : Int) == 1 && ((List.range (min j T.size - min i T.size)).map fun k => min i T.size + k).length == T.size) = true
  · rw [if_pos h]
    have h2 : min j T.size - min i T.size = T.size := by simpa using h
    congr 1
    apply Array.ext
    · rw [Array.size_extract]; omega
    · intro k h1 h3
      rw [Array.getElem_extract]
      congr 1
      omega
  · rw [if_neg h]
    congr 1
    have e : ((List.range (min j T.size - min i T.size)).map fun k => min i T.size + k).filterMap (T[·]?) = ((List.range (min j T.size - min i T.size)).map fun k => T.getD (min i T.size + k) 0) := by
      rw [List.filterMap_map]
      apply filterMap_some
      intro k hk
      have hk := List.mem_range.mp hk
      have hlt : min i T.size + k < T.size := by omega
      simp [Array.getD_eq_getD_getElem?, hlt]
    show (List.filterMap (T[·]?) _).toArray = _
    rw [e]
    apply Array.ext
    · simp; omega
    · intro k h1 h3
      simp only [List.size_toArray, List.length_map, List.length_range] at h1
      rw [Array.getElem_extract]
      simp only [List.getElem_toArray, List.getElem_map, List.getElem_range]
      have hlt : min i T.size + k < T.size := by omega
      have : i + k < T.size := by omega
      have e2 : min i T.size = i := by omega
      simp [Array.getD_eq_getD_getElem?, e2, this]
theorem extract1 (T : Array Nat) (i k : Nat) (hk : k ≠ 0) : ((T.extract i (i + 1)).toList == [k]) = (ch T i == k) := by
  by_cases h : i < T.size
  · have : T.extract i (i + 1) = #[ch T i] := by
      apply Array.ext
      · rw [Array.size_extract]; show _ = 1; omega
      · intro j h1 h2
        have : j = 0 := by simp at h2; omega
        subst this
        rw [Array.getElem_extract]
        unfold ch; simp [Array.getD_eq_getD_getElem?, h]
    rw [this]; simp
  · have : T.extract i (i + 1) = #[] := by
      apply Array.eq_empty_of_size_eq_zero
      rw [Array.size_extract]; omega
    rw [this, ch_out (by omega)]
    show ([] == [k]) = (0 == k)
    cases k with
    | zero => exact absurd rfl hk
    | succ k => rfl

section
variable {X : Fm} {ρ : List (Str × PV)} {e l r : Expr} {pos sp : Pos} {T : Array Nat}
theorem Ev.cut {a b : Int} {i j : Nat} (hv : Ev X ρ e (.str ⟨T⟩)) (hl : Ev X ρ l (.int a)) (hr : Ev X ρ r (.int b)) (ha : a = (i : Int)) (hb : b = (j : Int)) (hT : T.size ≤ 14) (ht : ∀ o r, letTemporaryGo e o r = pure () := by intro _ _; rfl) :
    Ev X ρ (.Subscript e (.Slice (some l) (some r) Option.none sp) pos) (.str ⟨T.extract i j⟩) := by
  subst ha; subst hb
  have z := Ev.slice (pos := pos) (sp := sp) hv hl hr (by show T.size ≤ sizeLine; exact Nat.le_trans hT (by decide)) ht
  rw [slice_ex] at z
  exact z
/-- text[i:i + 1] == a sign -/
theorem Ts.cut1 {S : Str} {i k : Nat} (hl : Ev X ρ l (.str ⟨T.extract i (i + 1)⟩)) (hr : Ev X ρ r (.str S)) (hS : S.cps.toList = [k]) (hk : k ≠ 0) (hm : behindInMarks .Eq r = false := by with_unfolding_all rfl) : Ts X ρ (.Compare l [.Eq] [r] pos) (ch T i == k) := by
  have z := Ts.cmp (pos := pos) hl hr Cm.eqs hm
  rw [hS] at z
  rw [show ((⟨T.extract i (i + 1)⟩ : Str).cps.toList == [k]) = (ch T i == k) from extract1 T i k hk] at z
  exact z
end
end Mine
-- T5
set_option maxRecDepth 20000
set_option maxHeartbeats 4000000
namespace Mine
open PySem PySem.Calls PyProof.Rows
variable {prog : Program} {w : World} {h₀ : Heap} {d : Nat}

/-! ## the quoted text -/
def stgR (T : Array Nat) : Nat → Nat → Option Nat → Bool × Option Nat
  | 0, _, last => (false, last)
  | n + 1, i, last =>
    if i < T.size then (if ch T i == 39 && ch T (i + 1) == 39 then stgR T n (i + 2) (some (i + 1)) else if ch T i == 39 then (true, some (i + 1)) else stgR T n (i + 1) last) else (false, last)
theorem stg_strU (T : Array Nat) : ∀ (n i : Nat) (last : Option Nat), (stgR T n i last).2 = (match strU T n i with | .yes e => some e | .no => last)
  | 0, _, _ => rfl
  | n + 1, i, last => by
    unfold stgR strU
    by_cases h : i < T.size
    · rw [if_pos h]
      cases h1 : ch T i == 39 with
      | false =>
        rw [Bool.false_and, if_neg Bool.false_ne_true, if_neg Bool.false_ne_true, if_neg Bool.false_ne_true, if_pos h, stg_strU]
      | true =>
        rw [Bool.true_and, if_pos rfl, if_pos rfl]
        cases h2 : ch T (i + 1) == 39 with
        | false => rw [if_neg Bool.false_ne_true, if_neg Bool.false_ne_true]
        | true =>
          rw [if_pos rfl, if_pos rfl, stg_strU]
          cases strU T n (i + 2) <;> rfl
    · have : (ch T i == 39) = false := by rw [ch_out (Nat.le_of_not_lt h)]; rfl
      rw [if_neg h, this, if_neg Bool.false_ne_true, if_neg h]
def stgO (T : Array Nat) (i : Nat) : Option Nat := (stgR T 16 (i + 1) none).2
def stgOut (r : Bool × Option Nat) : Out := if r.1 then .ret (.opt r.2) else .next [("last", .opt r.2)]

open Lean Elab Tactic Meta PySem.W in
/-- the test of the first while in a def -/
def putTest (n : String) : TacticM Unit := withMainContext do
  let cells ← stmtCells
  let some d := cells.find? (fun s => s.isAppOf ``Stmt.FunctionDef && strOf s.getAppArgs[0]! == some n) | throwError "def"
  let some l := d.getAppArgs[2]!.find? (fun x => x.isAppOf ``Stmt.While) | throwError "loop"
  (← getMainGoal).assign l.getAppArgs[0]!
def stgTest : Expr := by run_tac putTest "_law_string"
def stgLoop : List Stmt := by run_tac putLoop "_law_string"

theorem stg_kn (B : Base h₀) {T : Array Nat} (hT : Tx T) {i : Nat} (hi : i < T.size) (hd : 3 ≤ d) : Known prog w h₀ d "_law_string" [.str ⟨T⟩, .int i] (.opt (stgO T i)) := by
  obtain ⟨d, rfl⟩ : ∃ k, d = k + 1 + 1 + 1 := ⟨d - 3, by omega⟩
  refine B.stg.known fun f cd D => ?_
  have hlen := hT.len
  have hl := B.len
  refine Fn.intro D B.lim ["text", "at"] (fun pm doc vs hv => ?_) (by decide +kernel) (fun L => ?_) rfl rfl rfl (by decide +kernel)
  · match vs, hv with
    | [a, b], _ => rfl
  · unfold stgB
    refine Ex.cons (Ex1.asg2 (p := .int (i + 1 : Nat)) (q := .none) (by (run_tac ev)) (by run_tac dk) (by run_tac dk) rfl rfl rfl) ?_
    have key : Wh ⟨prog, w, h₀, d + 1 + 1, "_law_string", stgS, L, f, cd⟩ [("end", .int (i + 1 : Nat)), ("last", .none), ("at", .int i), ("text", .str ⟨T⟩)] stgTest stgLoop (stgOut (stgR T 16 (i + 1) none)) := by
      obtain ⟨r, hr⟩ : ∃ r, r = stgR T 16 (i + 1) none := ⟨_, rfl⟩
      rw [← hr]
      refine wh_inv (fun n ρ => ∃ (j k : Nat) (last : Option Nat), n = T.size - j ∧ T.size < j + k ∧ r = stgR T k j last ∧ ρ.lookup ("end" : Str) = some (.int j) ∧ ρ.lookup ("text" : Str) = some (.str ⟨T⟩) ∧ ρ.lookup ("last" : Str) = some (.opt last)) _ ?_ (T.size - (i + 1)) ⟨i + 1, 16, none, rfl, by omega, hr, by run_tac lk, by run_tac lk, by run_tac lk⟩
      rintro n ρ ⟨j, k, last, rfl, hk, e, h1, h2, h3⟩
      have t1 : Ts ⟨prog, w, h₀, d + 1 + 1, "_law_string", stgS, L, f, cd⟩ ρ stgTest (decide (j < T.size)) := Ts.ltLen (i := j) (by run_tac ev) (by run_tac ev) (by rfl) hl hlen rfl (by run_tac dk) rfl
      by_cases hlt : j < T.size
      · obtain ⟨k, rfl⟩ : ∃ m, k = m + 1 := by
          cases k with
          | zero => omega
          | succ m => exact ⟨m, rfl⟩
        unfold stgR at e
        rw [decide_eq_true hlt] at t1
        rw [if_pos hlt] at e
        refine .inr ⟨t1, ?_⟩
        have q1 : ∀ pa pb pc pd pe, Ts ⟨prog, w, h₀, d + 1 + 1, "_law_string", stgS, L, f, cd⟩ ρ (.Compare (.Subscript (.Name "text" pa) (.Name "end" pb) pc) [.Eq] [.Constant (.str "'") 0 pd] pe) (ch T j == 39) := fun _ _ _ _ _ =>
          Ts.isSign (c := ch T j) (by (run_tac ev); (exact hlt)) (by run_tac ev) (by run_tac dk)
        unfold stgLoop
        cases h39 : ch T j == 39 with
        | false =>
          rw [h39, Bool.false_and, if_neg Bool.false_ne_true, if_neg Bool.false_ne_true] at e
          rw [h39] at q1
          refine .inl ⟨_, T.size - (j + 1), by omega, ⟨j + 1, k, last, rfl, by omega, e, lk_hit, by run_tac lk, by run_tac lk⟩, Ex.if (Ts.boolOp (TsAll.and_no (q1 _ _ _ _ _))) (fun h => nomatch h) (fun _ => Ex.if (q1 _ _ _ _ _) (fun h => nomatch h) (fun _ => Ex.asg (by run_tac ev) (by run_tac dk) rfl rfl Ex.nil))⟩
        | true =>
          rw [h39] at q1
          have q2 : ∀ pa pb pc pd pe pf pg ph pi pj pk, Ts ⟨prog, w, h₀, d + 1 + 1, "_law_string", stgS, L, f, cd⟩ ρ (.Compare (.Subscript (.Name "text" pa) (.Slice (some (.BinOp (.Name "end" pb) .Add (.Constant (.int 1) 0 pc) pd)) (some (.BinOp (.Name "end" pe) .Add (.Constant (.int 2) 0 pf) pg)) none ph) pi) [.Eq] [.Constant (.str "'") 0 pj] pk) (ch T (j + 1) == 39) := fun _ _ _ _ _ _ _ _ _ _ _ =>
            Ts.cut1 (i := j + 1) (k := 39) (Ev.cut (i := j + 1) (j := j + 1 + 1) (by run_tac ev) (by run_tac ev) (by run_tac ev) (by rfl) (by rfl) hlen) (by run_tac ev) (by run_tac dk) (by decide)
          cases h40 : ch T (j + 1) == 39 with
          | false =>
            rw [h40] at q2
            rw [h39, h40, Bool.true_and, if_neg Bool.false_ne_true, if_pos rfl] at e
            refine .inr ⟨.int (j + 1 : Nat), by rw [e]; rfl, Ex.if (Ts.and_if (d := false) (q1 _ _ _ _ _) fun _ => q2 _ _ _ _ _ _ _ _ _ _ _) (fun h => nomatch h) (fun _ => Ex.if (q1 _ _ _ _ _) (fun _ => Ex.rets (by run_tac ev)) (fun h => nomatch h))⟩
          | true =>
            rw [h40] at q2
            rw [h39, h40, Bool.true_and, if_pos rfl] at e
            refine .inl ⟨_, T.size - (j + 2), by omega, ⟨j + 2, k, some (j + 1), rfl, by omega, e, ?_, by run_tac lk, lk_hit⟩, Ex.if (Ts.and_if (d := true) (q1 _ _ _ _ _) fun _ => q2 _ _ _ _ _ _ _ _ _ _ _) (fun _ => Ex.cons (Ex1.asg2 (p := .int (j + 1 : Nat)) (q := .int (j + 2 : Nat)) (by run_tac ev) (by run_tac dk) (by run_tac dk) rfl rfl rfl) Ex.nil) (fun h => nomatch h)⟩
            run_tac lk
      · have hs : stgR T k j last = (false, last) := by
          cases k with
          | zero => rfl
          | succ k => unfold stgR; rw [if_neg hlt]
        rw [decide_eq_false hlt] at t1
        rw [e, hs]
        exact .inl ⟨t1, Ex.end (Sub.cons h3 Sub.nil)⟩
    have hO : stgO T i = (stgR T 16 (i + 1) none).2 := rfl
    rw [hO]
    cases hr : stgR T 16 (i + 1) none with
    | mk ret o =>
      rw [hr] at key
      cases ret with
      | true => exact Ex.ret (Ex1.while key)
      | false => exact Ex.cons (Ex1.while key) (Ex.rets (Ev.local lk_hit (by run_tac dk) rfl (by run_tac dk)))
end Mine
-- T6
set_option maxRecDepth 20000
set_option maxHeartbeats 4000000
namespace Mine
open PySem PySem.Calls PyProof.Rows

/-! ## list(text) -/
theorem isAll_of_get {h : Heap} : ∀ {vs : List Value} {ps : List PV}, vs.length = ps.length → (∀ (i : Nat) v, vs[i]? = some v → ∃ p, ps[i]? = some p ∧ Is h v p) → IsAll h vs ps
  | [], [], _, _ => .nil
  | [], _ :: _, e, _ => nomatch e
  | _ :: _, [], e, _ => nomatch e
  | v :: vs, p :: ps, e, hi => by
    obtain ⟨p', e', i⟩ := hi 0 v rfl
    cases e'
    exact .cons i (isAll_of_get (by simpa using e) fun i v hv => hi (i + 1) v hv)
def chars (x : Str) : List Str := x.cps.toList.map fun c => ⟨#[c]⟩
section
variable {X : Fm} {ρ : List (Str × PV)} {e l r : Expr} {pos np : Pos} {T : Array Nat}
theorem Ev.listStr {x : Str} (g : GlobalIs X.h₀ "list" (.type "list")) (hv : Ev X ρ e (.str x)) (hx : x.cps.size ≤ sizeLine) (hs : starEach [e] X.env = [(false, eval e X.env)]) (hn : X.scope.names.lookup ("list" : Str) = some .globalImplicit) (hk : X.scope.kind = .function) :
    Ev X ρ (.Call (.Name "list" np) [e] [] pos) (.lst ((chars x).map PV.str)) := fun A R s E Q G h =>
  Call_name1 hs (name_global g hn hk (by decide +kernel) G (PySem.callWith_type1 (hv A R s _ _ G fun v s1 u1 i1 => by
    cases i1
    refine call_list_str R.hand x _ (fun h' tk acc' c' k hS ha => ?_) hx
    have u2 : Up s1 { s1 with heap := h', toks := tk } := ⟨h', tk, rfl, k⟩
    refine h _ _ (u1.trans u2) (.lst (vs := acc'.toList) (n := c') (by simpa using hS) (isAll_of_get ?_ fun j v hv => ?_))
    · simp [chars, ha.1]
    · obtain ⟨c, u, hc, rfl⟩ := ha.2 j v (by simpa using hv)
      refine ⟨.str ⟨#[c]⟩, ?_, .str _ _⟩
      have hc' : x.cps.toList[j]? = some c := by simpa using hc
      simp [chars, hc'])))
end
theorem extract_out {T : Array Nat} {i : Nat} (h : T.size ≤ i) : T.extract i (i + 1) = #[] := by
  apply Array.eq_empty_of_size_eq_zero
  rw [Array.size_extract]; omega
theorem extract_in {T : Array Nat} {i : Nat} (h : i < T.size) : T.extract i (i + 1) = #[ch T i] := by
  apply Array.ext
  · rw [Array.size_extract]; show _ = 1; omega
  · intro j h1 h2
    have : j = 0 := by simp at h2; omega
    subst this
    rw [Array.getElem_extract]
    unfold ch; simp [Array.getD_eq_getD_getElem?, h]
theorem cut_digits {T : Array Nat} (hT : Tx T) (i : Nat) : ((chars "0123456789").any (· == ⟨T.extract i (i + 1)⟩)) = dg (ch T i) := by
  by_cases h : i < T.size
  · rw [extract_in h]
    have : ∀ c ∈ Sig, ((chars "0123456789").any (· == ⟨#[c]⟩)) = dg c := by decide +kernel
    exact this _ (hT.sig i h)
  · rw [extract_out (by omega), ch_out (by omega)]
    decide +kernel

/-! ## kinds -/
inductive Kd where
  | hint | com | ws | nl | wild | key | name | flo | int | err | str | pun | op | cmp
def Kd.path : Kd → List String
  | .hint => ["Comment", "Single", "Hint"]
  | .com => ["Comment", "Single"]
  | .ws => ["Text", "Whitespace"]
  | .nl => ["Text", "Whitespace", "Newline"]
  | .wild => ["Wildcard"]
  | .key => ["Keyword"]
  | .name => ["Name"]
  | .flo => ["Literal", "Number", "Float"]
  | .int => ["Literal", "Number", "Integer"]
  | .err => ["Error"]
  | .str => ["Literal", "String", "Single"]
  | .pun => ["Punctuation"]
  | .op => ["Operator"]
  | .cmp => ["Operator", "Comparison"]
def Kd.pv (k : Kd) : PV := .tup (k.path.map fun s => .str (Str.ofString s))
def tokPV (r : Nat × Kd) : PV := .tup [.int r.1, r.2.pv]

def wAsIn (T : Array Nat) (i e : Nat) : Bool := (["AS", "IN"] : List Str).any (· == Txt.upper ⟨T.extract i e⟩)
def wIs (T : Array Nat) (i e : Nat) : Bool := (Txt.upper ⟨T.extract i e⟩).cps.toList == (Str.ofString "IS").cps.toList
def wrdO (T : Array Nat) (i : Nat) : Nat × Kd :=
  if wAsIn T i (ru wd T i) then (ru wd T i, .key)
  else if ch T (ru sp T (ru wd T i)) == 46 && !dg (ch T (ru sp T (ru wd T i) + 1)) then (ru wd T i, .name)
  else if (decide (0 < i) && ch T (i - 1) == 46) || ch T (ru wd T i) == 40 then (ru wd T i, .name)
  else if wIs T i (ru wd T i) then (ru wd T i, .key) else (ru wd T i, .name)
end Mine
-- T7
set_option maxRecDepth 20000
set_option maxHeartbeats 4000000
namespace Mine
open PySem PySem.Calls PyProof.Rows
variable {prog : Program} {w : World} {h₀ : Heap} {d : Nat}

theorem ru_lt {P : Nat → Bool} {T : Array Nat} {i : Nat} (h0 : P 0 = false) (h : P (ch T i) = true) : i < ru P T i := by
  rw [ru_yes h h0]; exact ru_ge ..
theorem wrd_kn (B : Base h₀) {T : Array Nat} (hT : Tx T) {i : Nat} (hi : i < T.size) (hd : 3 ≤ d) : Known prog w h₀ d "_law_word" [.str ⟨T⟩, .int i] (tokPV (wrdO T i)) := by
  obtain ⟨d, rfl⟩ : ∃ k, d = k + 1 + 1 + 1 := ⟨d - 3, by omega⟩
  refine B.wrd.known fun f cd D => ?_
  have hlen := hT.len
  have hl := B.len
  refine Fn.intro D B.lim ["text", "at"] (fun pm doc vs hv => ?_) (by decide +kernel) (fun L => ?_) rfl rfl rfl (by decide +kernel)
  · match vs, hv with
    | [a, b], _ => rfl
  · unfold wrdB wrdO
    have he : ru wd T i ≤ T.size := ru_le (Nat.le_of_lt hi)
    refine Ex.asg (p := .int (ru wd T i)) ?_ (by run_tac dk) rfl rfl ?_
    · run_tac ev
      exact run_kn B hT sgWd (Nat.le_of_lt hi)
    generalize ru wd T i = e at he
    have hW : (⟨T.extract i e⟩ : Str).length ≤ 14 := by
      show (T.extract i e).size ≤ 14
      rw [Array.size_extract]; omega
    refine Ex.asg (p := .str (Txt.upper ⟨T.extract i e⟩)) (Ev.upper (Ev.cut (i := i) (j := e) (by run_tac ev) (by run_tac ev) (by run_tac ev) (by rfl) (by rfl) hlen) (fit_upper (by omega)) rfl rfl) (by run_tac dk) rfl rfl ?_
    refine Ex.if (b := wAsIn T i e) ?_ (fun h => ?_) (fun h => ?_)
    · exact Ts.cmp (by run_tac ev) (by run_tac ev) (Cm.inl (l := ["AS", "IN"]))
    · rw [if_pos h]
      exact Ex.rets (by run_tac ev)
    · rw [h, if_neg Bool.false_ne_true]
      refine Ex.asg (p := .int (ru sp T e)) ?_ (by run_tac dk) rfl rfl ?_
      · run_tac ev
        exact run_kn B hT sgSp he
      generalize ru sp T e = dot
      refine Ex.if (b := ch T dot == 46 && !dg (ch T (dot + 1))) (Ts.and_if ?_ fun _ => ?_) (fun h => ?_) (fun h => ?_)
      · exact Ts.cut1 (i := dot) (k := 46) (Ev.cut (i := dot) (j := dot + 1) (by run_tac ev) (by run_tac ev) (by run_tac ev) (by rfl) (by rfl) hlen) (by run_tac ev) (by run_tac dk) (by decide)
      · refine Ts.as (b := !((chars "0123456789").any (· == ⟨T.extract (dot + 1) (dot + 1 + 1)⟩))) (Ts.cmp (Ev.cut (i := dot + 1) (j := dot + 1 + 1) (by run_tac ev) (by run_tac ev) (by run_tac ev) (by rfl) (by rfl) hlen) (Ev.listStr (x := "0123456789") B.list (by run_tac ev) (by run_tac dk) rfl (by run_tac dk) rfl) Cm.notInl) ?_
        rw [cut_digits hT]
      · rw [if_pos h]
        exact Ex.rets (by run_tac ev)
      · rw [h, if_neg Bool.false_ne_true]
        refine Ex.if (b := (decide (0 < i) && ch T (i - 1) == 46) || ch T e == 40) (Ts.or_if (Ts.and_if (c := decide (0 < i)) ?_ fun h => ?_) fun _ => ?_) (fun h => ?_) (fun h => ?_)
        · refine Ts.as (b := decide ((i : Int) > 0)) (by run_tac ev) ?_
          congr 1; apply propext; omega
        · have h := of_decide_eq_true h
          refine Ts.isSign (c := ch T (i - 1)) (Ev.signB (i := (i : Int) - 1) (by run_tac ev) (by run_tac ev) ?_ ?_ hlen) (by run_tac ev) (by run_tac dk) <;> omega
        · exact Ts.cut1 (i := e) (k := 40) (Ev.cut (i := e) (j := e + 1) (by run_tac ev) (by run_tac ev) (by run_tac ev) (by rfl) (by rfl) hlen) (by run_tac ev) (by run_tac dk) (by decide)
        · rw [if_pos h]
          exact Ex.rets (by run_tac ev)
        · rw [h, if_neg Bool.false_ne_true]
          refine Ex.rets ?_
          cases hw : wIs T i e with
          | true =>
            rw [if_pos rfl]
            refine Ev.tuple (EvArgs.cons (by run_tac ev) (EvArgs.cons (Ev.ifexp (b := true) ?_ (fun _ => by run_tac ev) fun h => nomatch h) EvArgs.nil)) (by run_tac szk)
            rw [← hw]; exact Ts.cmp (by run_tac ev) (by run_tac ev) Cm.eqs
          | false =>
            rw [if_neg Bool.false_ne_true]
            refine Ev.tuple (EvArgs.cons (by run_tac ev) (EvArgs.cons (Ev.ifexp (b := false) ?_ (fun h => nomatch h) fun _ => by run_tac ev) EvArgs.nil)) (by run_tac szk)
            rw [← hw]; exact Ts.cmp (by run_tac ev) (by run_tac ev) Cm.eqs
end Mine
-- T8
set_option maxRecDepth 20000
set_option maxHeartbeats 4000000
namespace Mine
open PySem PySem.Calls PyProof.Rows

/-! ## text.find(sign, at) -/
section
variable {X : Fm} {ρ : List (Str × PV)} {e l r e1 e2 : Expr} {pos ap : Pos} {T : Array Nat} {p : PV} {b : Bool}
theorem Ev.find3 {x y : Str} {i : Int} (hv : Ev X ρ e (.str x)) (h1 : Ev X ρ e1 (.str y)) (h2 : Ev X ρ e2 (.int i)) (hbase : attributeBase e "find" X.env (eval e X.env) = eval e X.env) (hs : starEach [e1, e2] X.env = [(false, eval e1 X.env), (false, eval e2 X.env)]) (hline : (ap.endLine == pos.line) = true) :
    Ev X ρ (.Call (.Attribute e "find" ap) [e1, e2] [] pos) (.int (Txt.find3 x y i)) := fun A R s E Q G h =>
  PySem.Call_method2 hbase hs hline (hv A R s _ _ G fun v s1 u1 i1 => by
    cases i1
    refine ⟨"str", _, F.plainAttrs_str, F.slot_str_find, F.type_str_find, typeIs_str _ _ _, (fun _ e => nomatch e), ?_⟩
    refine Calls.callWith_builtin rfl (Calls.evalArgs_plain (Calls.spliced_cons (h1 A R s1 _ _ (Gd.up G u1) fun v s2 u2 i2 => Calls.spliced_cons (h2 A R s2 _ _ (Gd.up (Gd.up G u1) u2) fun v' s3 u3 i3 => Calls.spliced_nil ?_))))
    cases i2; cases i3
    exact SC.find3 (h _ _ (((u1.trans u2).trans u3).trans (.tok _ _)) (.int _ _)))
theorem Ts.notNone (hv : Ev X ρ e (.opt o)) (hr : Ev X ρ r .none) (hm : behindInMarks .IsNot r = false := by with_unfolding_all rfl) : Ts X ρ (.Compare e [.IsNot] [r] pos) o.isSome := by
  refine Ts.cmp hv hr (Cm.notNone fun h v i => ?_) hm
  cases o with
  | none => cases i; rfl
  | some n => cases i; rfl
theorem Ts.isNone (hv : Ev X ρ e (.opt o)) (hr : Ev X ρ r .none) (hm : behindInMarks .Is r = false := by with_unfolding_all rfl) : Ts X ρ (.Compare e [.Is] [r] pos) o.isNone := by
  refine Ts.cmp hv hr (Cm.isNone fun h v i => ?_) hm
  cases o with
  | none => cases i; rfl
  | some n => cases i; rfl
end
theorem extract2 (T : Array Nat) (i a b : Nat) (ha : a ≠ 0) (hb : b ≠ 0) : ((T.extract i (i + 2)).toList == [a, b]) = (ch T i == a && ch T (i + 1) == b) := by
  by_cases h1 : i + 1 < T.size
  · have : T.extract i (i + 2) = #[ch T i, ch T (i + 1)] := by
      apply Array.ext
      · rw [Array.size_extract]; show _ = 2; omega
      · intro j h2 h3
        have : j = 0 ∨ j = 1 := by simp at h3; omega
        rcases this with rfl | rfl
        · rw [Array.getElem_extract]; unfold ch; simp [Array.getD_eq_getD_getElem?, show i < T.size by omega]
        · rw [Array.getElem_extract]; unfold ch; simp [Array.getD_eq_getD_getElem?, h1]
    rw [this]; simp
  · have hz : (ch T (i + 1) == b) = false := by rw [ch_out (by omega)]; simpa using fun h => hb h.symm
    rw [hz, Bool.and_false]
    have hs : (T.extract i (i + 2)).toList.length ≠ 2 := by simp; omega
    apply beq_eq_false_iff_ne.mpr
    intro e
    rw [e] at hs
    exact hs rfl
theorem ru_is {P : Nat → Bool} {T : Array Nat} : ∀ (n i j : Nat), T.size - i = n → i ≤ j → j ≤ T.size → (∀ v, i ≤ v → v < j → P (ch T v) = true) → (j < T.size → P (ch T j) = false) → ru P T i = j
  | 0, i, j, hn, h1, h2, _, _ => by rw [ru_out (by omega)]; omega
  | n + 1, i, j, hn, h1, h2, ha, hb => by
    rw [ru_step (by omega)]
    by_cases e : i = j
    · subst e
      rw [hb (by omega)]; rfl
    · rw [ha i (Nat.le_refl _) (by omega), if_pos rfl]
      exact ru_is n (i + 1) j (by omega) (by omega) h2 (fun v a b => ha v (by omega) b) hb
theorem cend_find (T : Array Nat) (i : Nat) (hi : i < T.size) : (if 0 ≤ Txt.find3 ⟨T⟩ ⟨#[10]⟩ i then Txt.find3 ⟨T⟩ ⟨#[10]⟩ i + 1 else (T.size : Nat)) = ((cend T i : Nat) : Int) := by
  have hf : fromIndex (⟨T⟩ : Str).length (i : Int) = i := by
    unfold fromIndex
    rw [if_neg (by omega)]; omega
  have hch : ∀ v, (⟨T⟩ : Str).cps.getD v 0 = ch T v := fun _ => rfl
  rcases StrLaws.find3_spec ⟨T⟩ 10 i with ⟨h0, hn⟩ | ⟨k, h0, h1, h2, h3, hn⟩
  · rw [hf] at hn
    rw [h0, if_neg (by decide)]
    have e : ru nl T i = T.size := ru_is _ i T.size rfl (Nat.le_of_lt hi) (Nat.le_refl _) (fun v a b => bne_iff_ne.mpr (hn v a b)) (fun h => absurd h (Nat.lt_irrefl _))
    unfold cend
    show _ = (((if ru nl T i < T.size then ru nl T i + 1 else ru nl T i) : Nat) : Int)
    rw [e, if_neg (Nat.lt_irrefl _)]
  · rw [hf] at h1 hn
    have h2 : k < T.size := h2
    rw [h0, if_pos (Int.natCast_nonneg _)]
    have e : ru nl T i = k := ru_is _ i k rfl h1 (Nat.le_of_lt h2) (fun v a b => bne_iff_ne.mpr (hn v a b)) (fun _ => by show (ch T k != 10) = false; rw [show ch T k = 10 from h3]; rfl)
    unfold cend
    show _ = (((if ru nl T i < T.size then ru nl T i + 1 else ru nl T i) : Nat) : Int)
    rw [e, if_pos h2]; rfl

/-! ## the law's scanner -/
def restO (T : Array Nat) (i : Nat) : Nat × Kd :=
  if ch T i == 39 then (match stgO T i with | none => (i + 1, .err) | some e => (e, .str))
  else if pu (ch T i) then (i + 1, .pun) else if ch T i == 45 then (i + 1, .op) else if ch T i == 61 then (ru eqs T i, .cmp) else (ru pm T i, .op)
def numO (T : Array Nat) (i : Nat) : Nat × Kd :=
  match floO T i with
  | some e => (e, .flo)
  | none => match (if ch T i != 46 then figO T (sgn T i) 1 else none) with
    | some e => (e, .int)
    | none => if dg (ch T i) then (ru wd T i, .name) else restO T i
def tokO (T : Array Nat) (i : Nat) : Nat × Kd :=
  if ch T i == 45 && ch T (i + 1) == 45 then (cend T i, if ch T (i + 2) == 43 then .hint else .com)
  else if sp (ch T i) then (i + 1, if ch T i == 32 then .ws else .nl)
  else if ch T i == 42 then (i + 1, .wild)
  else if lt (ch T i) then wrdO T i
  else if nm (ch T i) then numO T i else restO T i
open Lean Elab Tactic Meta PySem.W in
/-- the statements of a def from the k-th on -/
def putFrom (n : String) (k : Nat) : TacticM Unit := withMainContext do
  let cells ← stmtCells
  let some d := cells.find? (fun s => s.isAppOf ``Stmt.FunctionDef && strOf s.getAppArgs[0]! == some n) | throwError "def"
  let some cs ← cellsD? d.getAppArgs[2]! | throwError "body"
  (← getMainGoal).assign (← mkListLit (mkConst ``Stmt) (cs.drop k))
def tokRest : List Stmt := by run_tac putFrom "_law_token" 6
end Mine
-- T9
set_option maxRecDepth 20000
set_option maxHeartbeats 8000000
namespace Mine
open PySem PySem.Calls PyProof.Rows
variable {prog : Program} {w : World} {h₀ : Heap} {d : Nat}

section
variable {X : Fm} {ρ : List (Str × PV)} {l r : Expr} {pos : Pos}
theorem Ts.notSign {S : Str} {c k : Nat} (hl : Ev X ρ l (.str ⟨#[c]⟩)) (hr : Ev X ρ r (.str S)) (hS : S.cps.toList = [k]) (hm : behindInMarks .NotEq r = false := by with_unfolding_all rfl) : Ts X ρ (.Compare l [.NotEq] [r] pos) (c != k) := by
  have z := Ts.cmp (pos := pos) hl hr Cm.nes hm
  rw [hS] at z
  have e : ((⟨#[c]⟩ : Str).cps.toList != [k]) = (c != k) := by
    show ([c] != [k]) = _
    simp [bne]
  rw [e] at z
  exact z
end

theorem rest_ex (B : Base h₀) {T : Array Nat} (hT : Tx T) {i : Nat} (hi : i < T.size) {f L : Addr} {cd : Value} (hd : 3 ≤ d) (ρ : List (Str × PV)) (h1 : ρ.lookup ("sign" : Str) = some (.str ⟨#[ch T i]⟩)) (h2 : ρ.lookup ("text" : Str) = some (.str ⟨T⟩)) (h3 : ρ.lookup ("at" : Str) = some (.int i)) :
    Ex ⟨prog, w, h₀, d, "_law_token", tokS, L, f, cd⟩ ρ tokRest (.ret (tokPV (restO T i))) := by
  have hlen := hT.len
  have hc := hT.sig i hi
  have hi' := Nat.le_of_lt hi
  obtain ⟨d, rfl⟩ : ∃ k, d = k + 1 := ⟨d - 1, by omega⟩
  unfold tokRest restO
  refine Ex.if (b := ch T i == 39) (Ts.isSign (by run_tac ev) (by run_tac ev) (by run_tac dk)) (fun h => ?_) (fun h => ?_)
  · rw [if_pos h]
    refine Ex.asg (p := .opt (stgO T i)) ?_ (by run_tac dk) rfl rfl (Ex.rets ?_)
    · run_tac ev
      exact stg_kn B hT hi (by omega)
    · cases ho : stgO T i with
      | none =>
        refine Ev.ifexp (b := true) (Ts.as (b := (none : Option Nat).isNone) (Ts.isNone (by run_tac ev) Ev.none) rfl) (fun _ => ?_) (fun h => nomatch h)
        run_tac ev
      | some e =>
        refine Ev.ifexp (b := false) (Ts.as (b := (some e).isNone) (Ts.isNone (by run_tac ev) Ev.none) rfl) (fun h => nomatch h) (fun _ => ?_)
        refine Ev.tuple (EvArgs.cons (Ev.local (p := .int e) lk_hit (by run_tac dk) rfl (by run_tac dk)) (EvArgs.cons (by run_tac ev) EvArgs.nil)) (by run_tac szk)
  · rw [h, if_neg Bool.false_ne_true]
    refine Ex.if (b := pu (ch T i)) (Ts.isIn (by run_tac ev) (by run_tac ev) sgPu hc) (fun h => ?_) (fun h => ?_)
    · rw [if_pos h]; exact Ex.rets (by run_tac ev)
    · rw [h, if_neg Bool.false_ne_true]
      refine Ex.if (b := ch T i == 45) (Ts.isSign (by run_tac ev) (by run_tac ev) (by run_tac dk)) (fun h => ?_) (fun h => ?_)
      · rw [if_pos h]; exact Ex.rets (by run_tac ev)
      · rw [h, if_neg Bool.false_ne_true]
        refine Ex.if (b := ch T i == 61) (Ts.isSign (by run_tac ev) (by run_tac ev) (by run_tac dk)) (fun h => ?_) (fun h => ?_)
        · rw [if_pos h]
          refine Ex.rets (Ev.tuple (EvArgs.cons (p := .int (ru eqs T i)) ?_ (EvArgs.cons (by run_tac ev) EvArgs.nil)) (by run_tac szk))
          run_tac ev
          exact run_kn B hT sgEq hi'
        · rw [h, if_neg Bool.false_ne_true]
          refine Ex.rets (Ev.tuple (EvArgs.cons (p := .int (ru pm T i)) ?_ (EvArgs.cons (by run_tac ev) EvArgs.nil)) (by run_tac szk))
          run_tac ev
          exact run_kn B hT sgPm hi'

theorem tok_kn (B : Base h₀) {T : Array Nat} (hT : Tx T) {i : Nat} (hi : i < T.size) (hd : 4 ≤ d) : Known prog w h₀ d "_law_token" [.str ⟨T⟩, .int i] (tokPV (tokO T i)) := by
  obtain ⟨d, rfl⟩ : ∃ k, d = k + 1 + 1 + 1 + 1 := ⟨d - 4, by omega⟩
  refine B.tok.known fun f cd D => ?_
  have hlen := hT.len
  have hl := B.len
  have hc := hT.sig i hi
  have hi' := Nat.le_of_lt hi
  refine Fn.intro D B.lim ["text", "at"] (fun pm doc vs hv => ?_) (by decide +kernel) (fun L => ?_) rfl rfl rfl (by decide +kernel)
  · match vs, hv with
    | [a, b], _ => rfl
  · have rest := fun ρ => rest_ex (prog := prog) (w := w) (d := d + 1 + 1 + 1) (f := f) (L := L) (cd := cd) B hT hi (by omega) ρ
    unfold tokB tokO
    refine Ex.cons (Ex1.asg2 (p := .str ⟨#[ch T i]⟩) (q := .str ⟨T.extract i (i + 2)⟩) (Ev.tuple (EvArgs.cons (by (run_tac ev); (exact hi)) (EvArgs.cons (Ev.cut (i := i) (j := i + 2) (by run_tac ev) (by run_tac ev) (by run_tac ev) (by rfl) (by rfl) hlen) EvArgs.nil)) (by run_tac szk)) (by run_tac dk) (by run_tac dk) rfl rfl rfl) ?_
    refine Ex.if (b := ch T i == 45 && ch T (i + 1) == 45) ?_ (fun h => ?_) (fun h => ?_)
    · refine Ts.as (Ts.cmp (by run_tac ev) (by run_tac ev) Cm.eqs) ?_
      rw [← extract2 T i 45 45 (by decide) (by decide)]
      congr 1
    · rw [if_pos h]
      refine Ex.asg (p := .int (Txt.find3 ⟨T⟩ ⟨#[10]⟩ i)) (Ev.find3 (by run_tac ev) (Ev.as (p := .str "\n") (by run_tac ev) (by rfl)) (by run_tac ev) rfl rfl rfl) (by run_tac dk) rfl rfl ?_
      have hcf := cend_find T i hi
      generalize Txt.find3 ⟨T⟩ ⟨#[10]⟩ i = F at hcf
      refine Ex.asg (p := .int (cend T i)) (Ev.ifexp (b := decide (F ≥ 0)) (by run_tac ev) (fun h => ?_) (fun h => ?_)) (by run_tac dk) rfl rfl ?_
      · refine Ev.as (p := .int (F + 1)) (by run_tac ev) ?_
        rw [← hcf, if_pos (of_decide_eq_true h)]
      · refine Ev.as (Ev.lenStr (x := ⟨T⟩) hl (by run_tac ev) (by show T.size < _; omega) rfl (by run_tac dk) rfl) ?_
        rw [← hcf, if_neg (of_decide_eq_false h)]; rfl
      · refine Ex.rets ?_
        cases hp : ch T (i + 2) == 43 with
        | true =>
          refine Ev.tuple (EvArgs.cons (by run_tac ev) (EvArgs.cons (Ev.ifexp (b := true) ?_ (fun _ => ?_) fun h => nomatch h) EvArgs.nil)) (by run_tac szk)
          · rw [← hp]
            exact Ts.cut1 (i := i + 2) (k := 43) (Ev.cut (i := i + 2) (j := i + 2 + 1) (by run_tac ev) (by run_tac ev) (by run_tac ev) (by rfl) (by rfl) hlen) (by run_tac ev) (by run_tac dk) (by decide)
          · rw [if_pos rfl]; run_tac ev
        | false =>
          refine Ev.tuple (EvArgs.cons (by run_tac ev) (EvArgs.cons (Ev.ifexp (b := false) ?_ (fun h => nomatch h) (fun _ => ?_)) EvArgs.nil)) (by run_tac szk)
          · rw [← hp]
            exact Ts.cut1 (i := i + 2) (k := 43) (Ev.cut (i := i + 2) (j := i + 2 + 1) (by run_tac ev) (by run_tac ev) (by run_tac ev) (by rfl) (by rfl) hlen) (by run_tac ev) (by run_tac dk) (by decide)
          · rw [if_neg Bool.false_ne_true]; run_tac ev
    · rw [h, if_neg Bool.false_ne_true]
      refine Ex.if (b := sp (ch T i)) (Ts.isIn (by run_tac ev) (by run_tac ev) sgSp hc) (fun h => ?_) (fun h => ?_)
      · rw [if_pos h]
        refine Ex.rets ?_
        cases hp : ch T i == 32 with
        | true =>
          refine Ev.tuple (EvArgs.cons (by run_tac ev) (EvArgs.cons (Ev.ifexp (b := true) ?_ (fun _ => ?_) fun h => nomatch h) EvArgs.nil)) (by run_tac szk)
          · rw [← hp]; exact Ts.isSign (by run_tac ev) (by run_tac ev) (by run_tac dk)
          · rw [if_pos rfl]; run_tac ev
        | false =>
          refine Ev.tuple (EvArgs.cons (by run_tac ev) (EvArgs.cons (Ev.ifexp (b := false) ?_ (fun h => nomatch h) (fun _ => ?_)) EvArgs.nil)) (by run_tac szk)
          · rw [← hp]; exact Ts.isSign (by run_tac ev) (by run_tac ev) (by run_tac dk)
          · rw [if_neg Bool.false_ne_true]; run_tac ev
      · rw [h, if_neg Bool.false_ne_true]
        refine Ex.if (b := ch T i == 42) (Ts.isSign (by run_tac ev) (by run_tac ev) (by run_tac dk)) (fun h => ?_) (fun h => ?_)
        · rw [if_pos h]; exact Ex.rets (by run_tac ev)
        · rw [h, if_neg Bool.false_ne_true]
          refine Ex.if (b := lt (ch T i)) (Ts.isIn (by run_tac ev) (by run_tac ev) sgLt hc) (fun h => ?_) (fun h => ?_)
          · rw [if_pos h]
            refine Ex.rets ?_
            refine Ev.callK (EvArgs.cons (by run_tac ev) (EvArgs.cons (by run_tac ev) EvArgs.nil)) (wrd_kn B hT hi (by show 3 ≤ d + 1 + 1 + 1; omega)) (by run_tac dk) rfl (by run_tac dk) rfl
          · rw [h, if_neg Bool.false_ne_true]
            refine Ex.if (b := nm (ch T i)) (Ts.isIn (by run_tac ev) (by run_tac ev) sgNm hc) (fun h => ?_) (fun h => ?_)
            · rw [if_pos h]
              unfold numO
              refine Ex.asg (p := .opt (floO T i)) ?_ (by run_tac dk) rfl rfl ?_
              · run_tac ev
                exact flo_kn B hT hi (by show 3 ≤ d + 1 + 1 + 1; omega)
              cases hfl : floO T i with
              | some e =>
                refine Ex.if (b := true) (Ts.as (b := (some e).isSome) (Ts.notNone (by run_tac ev) Ev.none) rfl) (fun _ => ?_) (fun h => nomatch h)
                exact Ex.rets (Ev.tuple (EvArgs.cons (Ev.local (p := .int e) lk_hit (by run_tac dk) rfl (by run_tac dk)) (EvArgs.cons (by run_tac ev) EvArgs.nil)) (by run_tac szk))
              | none =>
                refine Ex.if (b := false) (Ts.as (b := (none : Option Nat).isSome) (Ts.notNone (by run_tac ev) Ev.none) rfl) (fun h => nomatch h) (fun _ => ?_)
                refine Ex.asg (p := .int (sgn T i)) (Ev.ifexp (b := ch T i == 45) (Ts.isSign (by run_tac ev) (by run_tac ev) (by run_tac dk)) (fun h => ?_) (fun h => ?_)) (by run_tac dk) rfl rfl ?_
                · refine Ev.as (p := .int ((i : Int) + 1)) (by run_tac ev) ?_
                  unfold sgn; rw [h]; rfl
                · refine Ev.as (p := .int i) (by run_tac ev) ?_
                  unfold sgn; rw [h]; rfl
                refine Ex.asg (p := .opt (if ch T i != 46 then figO T (sgn T i) 1 else none)) (Ev.ifexp (b := ch T i != 46) (Ts.notSign (by run_tac ev) (by run_tac ev) (by run_tac dk)) (fun h => ?_) (fun h => ?_)) (by run_tac dk) rfl rfl ?_
                · rw [if_pos h]
                  refine Ev.callK (EvArgs.cons (by run_tac ev) (EvArgs.cons (by run_tac ev) (EvArgs.cons (by run_tac ev) EvArgs.nil))) (fig_kn B hT (i := sgn T i) (least := 1) (sgn_le T hT hi') (by omega)) (by run_tac dk) rfl (by run_tac dk) rfl
                · rw [h, if_neg Bool.false_ne_true]; exact Ev.none
                show Ex _ _ _ (.ret (tokPV (match (if ch T i != 46 then figO T (sgn T i) 1 else none) with
                  | some e => (e, .int)
                  | none => if dg (ch T i) then (ru wd T i, .name) else restO T i)))
                cases hfi : (if ch T i != 46 then figO T (sgn T i) 1 else none) with
                | some e =>
                  refine Ex.if (b := true) (Ts.as (b := (some e).isSome) (Ts.notNone (by run_tac ev) Ev.none) rfl) (fun _ => ?_) (fun h => nomatch h)
                  exact Ex.rets (Ev.tuple (EvArgs.cons (Ev.local (p := .int e) lk_hit (by run_tac dk) rfl (by run_tac dk)) (EvArgs.cons (by run_tac ev) EvArgs.nil)) (by run_tac szk))
                | none =>
                  refine Ex.if (b := false) (Ts.as (b := (none : Option Nat).isSome) (Ts.notNone (by run_tac ev) Ev.none) rfl) (fun h => nomatch h) (fun _ => ?_)
                  refine Ex.if (b := dg (ch T i)) (Ts.isIn (by run_tac ev) (by run_tac ev) sgDg hc) (fun h => ?_) (fun h => ?_)
                  · show Ex _ _ _ (.ret (tokPV (if dg (ch T i) then (ru wd T i, .name) else restO T i)))
                    rw [if_pos h]
                    refine Ex.rets (Ev.tuple (EvArgs.cons (p := .int (ru wd T i)) ?_ (EvArgs.cons (by run_tac ev) EvArgs.nil)) (by run_tac szk))
                    run_tac ev
                    exact run_kn B hT sgWd hi'
                  · show Ex _ _ _ (.ret (tokPV (if dg (ch T i) then (ru wd T i, .name) else restO T i)))
                    rw [h, if_neg Bool.false_ne_true]
                    exact rest _ (by run_tac lk) (by run_tac lk) (by run_tac lk)
            · rw [h, if_neg Bool.false_ne_true]
              exact rest _ (by run_tac lk) (by run_tac lk) (by run_tac lk)
end Mine
-- T10
set_option maxRecDepth 20000
set_option maxHeartbeats 4000000
namespace Mine
open PySem PySem.Calls PyProof.Rows
variable {prog : Program} {w : World} {h₀ : Heap} {d : Nat}
section
variable {X : Fm} {ρ : List (Str × PV)} {e l r : Expr} {pos np : Pos} {p : PV}
theorem Ev.lenList {ps : List PV} (g : GlobalIs X.h₀ "len" (.builtin "len")) (hv : Ev X ρ e (.lst ps)) (hx : ps.length < 2 ^ 62) (hs : starEach [e] X.env = [(false, eval e X.env)]) (hn : X.scope.names.lookup ("len" : Str) = some .globalImplicit) (hk : X.scope.kind = .function) :
    Ev X ρ (.Call (.Name "len" np) [e] [] pos) (.int (ps.length : Nat)) := fun A R s E Q G h =>
  Call_name1 hs (name_global g hn hk (by decide +kernel) G (PySem.callWith_builtin1 (hv A R s _ _ G fun v s1 u1 i1 => by
    cases i1 with
    | @lst a vs n _ ho hl =>
    have e := hl.length
    refine len_list (isList_of ho) (by simp only [List.size_toArray]; omega) (h _ _ (u1.trans (.tok _ _)) ?_)
    rw [List.size_toArray, e]; exact .int _ _)))
theorem Ev.itemL {n : Str} {ps : List PV} {i : Int} (hv : Ev X ρ e (.lst ps)) (hi : Ev X ρ (.Name n np) (.int i)) (h0 : 0 ≤ i) (hl : i < 2 ^ 62) (hc : ps[i.toNat]? = some p)
    (ht : ∀ o r, letTemporaryGo e o r = pure () := by intro _ _; rfl) : Ev X ρ (.Subscript e (.Name n np) pos) p := fun A R s E Q G h =>
  wpAny_Subscript_Name_late (hv A R s _ _ G fun v s1 u1 i1 => hi A R s1 _ _ (Gd.up G u1) fun v' s2 u2 i2 => by
    have i1' := i1.keep (h' := s2.heap) (.of u2.keep)
    cases i2
    cases i1' with
    | @lst a vs n _ ho ha =>
    obtain ⟨x, hx, ix⟩ : ∃ x, vs[i.toNat]? = some x ∧ Is s2.heap x p := by
      have hlt : i.toNat < ps.length := (List.getElem?_eq_some_iff.mp hc).1
      have hlt' : i.toNat < vs.length := by rw [ha.length]; exact hlt
      obtain ⟨q, hq, iq⟩ := isAll_get ha (i := i.toNat) (v := vs[i.toNat]) (by simp [hlt'])
      rw [hc] at hq; cases hq
      exact ⟨_, by simp [hlt'], iq⟩
    exact ⟨"list", _, slot_list_getitem.lookup, (isList_of ho).typeIs, wpAny_getItem_list (isList_of ho) h0 (by omega) (by simpa using hx) (h _ _ (u1.trans u2) ix)⟩) ht
theorem Ev.intOf {i : Int} (g : GlobalIs X.h₀ "int" (.type "int")) (hv : Ev X ρ e (.int i)) (hs : starEach [e] X.env = [(false, eval e X.env)]) (hn : X.scope.names.lookup ("int" : Str) = some .globalImplicit) (hk : X.scope.kind = .function) :
    Ev X ρ (.Call (.Name "int" np) [e] [] pos) (.int i) := fun A R s E Q G h =>
  Call_name1 hs (name_global g hn hk (by decide +kernel) G (PySem.callWith_type1 (hv A R s _ _ G fun v s1 u1 i1 => by
    cases i1
    exact call_int_int (h _ _ u1 (.int _ _)))))
theorem Ev.abs {i : Int} (g : GlobalIs X.h₀ "abs" (.builtin "abs")) (hv : Ev X ρ e (.int i)) (hs : starEach [e] X.env = [(false, eval e X.env)]) (hn : X.scope.names.lookup ("abs" : Str) = some .globalImplicit) (hk : X.scope.kind = .function) :
    Ev X ρ (.Call (.Name "abs" np) [e] [] pos) (.int (if i < 0 then -i else i)) := fun A R s E Q G h =>
  Call_name1 hs (name_global g hn hk (by decide +kernel) G (PySem.callWith_builtin1 (hv A R s _ _ G fun v s1 u1 i1 => by
    cases i1
    exact call_abs_int fun u tk => h _ _ (u1.trans (.tok _ _)) (.int _ _))))
end
structure Base2 (h₀ : Heap) : Prop extends Base h₀ where
  abs : GlobalIs h₀ "abs" (.builtin "abs")
  int : GlobalIs h₀ "int" (.type "int")
  range : GlobalIs h₀ "range" (.type "range")

def numV (ns : List Int) (k : Nat) (m : Int) : Int := match ns[k]? with
  | some x => (if x < 0 then -x else x).fmod 1000003
  | none => m
theorem num_kn (B : Base2 h₀) {ns : List Int} (hn : ns.length < 2 ^ 60) {k : Nat} (hk : k < 2 ^ 60) {m : Int} : Known prog w h₀ (d + 1) "_law_number" [.lst (ns.map PV.int), .int k, .int m] (.int (numV ns k m)) := by
  refine B.num.known fun f cd D => ?_
  have hl := B.len
  refine Fn.intro D B.lim ["script", "k", "missing"] (fun pm doc vs hv => ?_) (by decide +kernel) (fun L => ?_) rfl rfl rfl (by decide +kernel)
  · match vs, hv with
    | [a, b, c], _ => rfl
  · unfold numB numV
    refine Ex.rets (Ev.ifexp (b := decide (k < ns.length)) ?_ (fun h => ?_) (fun h => ?_))
    · refine Ts.as (b := decide ((((ns.map PV.int).length : Nat) : Int) > (k : Int))) (Ts.cmp (Ev.lenList hl (by run_tac ev) (by rw [List.length_map]; omega) rfl (by run_tac dk) rfl) (by run_tac ev) Cm.gt) ?_
      rw [List.length_map]
      congr 1; apply propext; omega
    · have h := of_decide_eq_true h
      have e : ns[k]? = some ns[k] := by simp [h]
      rw [e]
      refine Ev.mod (Ev.abs B.abs (Ev.intOf B.int (Ev.itemL (by run_tac ev) (by run_tac ev) (Int.natCast_nonneg _) (by omega) ?_) rfl (by run_tac dk) rfl) rfl (by run_tac dk) rfl) Ev.int (by decide)
      simp [h]
    · have h := of_decide_eq_false h
      have e : ns[k]? = none := by simp; omega
      rw [e]
      exact Ev.local (by run_tac lk) (by run_tac dk) rfl (by run_tac dk)
end Mine
-- T11
set_option maxRecDepth 20000
set_option maxHeartbeats 4000000
namespace Mine
open PySem PySem.Calls PyProof.Rows

theorem turns_range {X : Fm} {x : Str} {body : List Stmt} {N : Nat} {o : Out} (J : Nat → List (Str × PV) → Prop) (step : ∀ k ρ, k < N → J k ρ → ∃ ρ', Ex X ((x, .int (k : Nat)) :: ρ) body (.next ρ') ∧ J (k + 1) ρ') (fin : ∀ ρ, J N ρ → Ex X ρ [] o) :
    ∀ (n k : Nat) (ρ : List (Str × PV)), N - k = n → k ≤ N → J k ρ → Turns X x body (((List.range N).map fun k => PV.int (k : Nat)).drop k) ρ o
  | 0, k, ρ, hn, hk, hJ => by
    have : k = N := by omega
    subst this
    rw [List.drop_eq_nil_of_le (by simp)]
    exact fin ρ hJ
  | n + 1, k, ρ, hn, hk, hJ => by
    have hlt : k < ((List.range N).map fun k => PV.int (k : Nat)).length := by simp; omega
    rw [List.drop_eq_getElem_cons hlt]
    simp only [List.getElem_map, List.getElem_range]
    obtain ⟨ρ', hx, hJ'⟩ := step k ρ (by omega) hJ
    exact .inl ⟨ρ', hx, turns_range J step fin n (k + 1) ρ' (by omega) (by omega) hJ'⟩

/-! ## the text that the script builds -/
def signsL : List Nat := [97, 115, 32, 105, 110, 32, 105, 101, 49, 69, 46, 48, 39, 45, 43, 32, 10, 40, 44, 59, 61, 42, 41, 115, 50, 110]
theorem signs_is : (Str.ofString "as in ie1E.0'-+ \n(,;=*)s2n").cps = signsL.toArray := by decide +kernel
def signAt (ns : List Int) (k : Nat) : Nat := signsL.getD ((numV ns (1 + k) (11 * (k : Int) + 7)).fmod 26).toNat 0
def textN (ns : List Int) : Nat → Array Nat
  | 0 => #[]
  | k + 1 => (textN ns k).push (signAt ns k)
def lenN (ns : List Int) : Nat := (1 + (numV ns 0 12).fmod 14).toNat
def textO (ns : List Int) : Array Nat := textN ns (lenN ns)
theorem textN_size (ns : List Int) : ∀ k, (textN ns k).size = k
  | 0 => rfl
  | k + 1 => by
    show ((textN ns k).push (signAt ns k)).size = k + 1
    rw [Array.size_push, textN_size ns k]
theorem fmod_lt (a b : Int) (hb : 0 < b) : 0 ≤ a.fmod b ∧ a.fmod b < b := ⟨Int.fmod_nonneg_of_pos a hb, Int.fmod_lt_of_pos a hb⟩
theorem lenN_le (ns : List Int) : lenN ns ≤ 14 ∧ 1 ≤ lenN ns ∧ ((lenN ns : Nat) : Int) = 1 + (numV ns 0 12).fmod 14 := by
  have := fmod_lt (numV ns 0 12) 14 (by decide)
  unfold lenN
  omega
theorem sign_sig (ns : List Int) (k : Nat) : signAt ns k ∈ Sig := by
  unfold signAt
  have := fmod_lt (numV ns (1 + k) (11 * (k : Int) + 7)) 26 (by decide)
  have h : ∀ j : Fin 26, signsL.getD j.val 0 ∈ Sig := by decide +kernel
  exact h ⟨((numV ns (1 + k) (11 * (k : Int) + 7)).fmod 26).toNat, by omega⟩
theorem textN_tx (ns : List Int) : ∀ k, k ≤ 14 → Tx (textN ns k)
  | 0, _ => ⟨fun i h => absurd h (by show ¬ i < 0; omega), by show 0 ≤ 14; omega⟩
  | k + 1, hk => by
    have ih := textN_tx ns k (by omega)
    refine ⟨fun i hi => ?_, by rw [textN_size]; exact hk⟩
    show ((textN ns k).push (signAt ns k)).getD i 0 ∈ Sig
    rw [textN_size] at hi
    by_cases h : i < k
    · have := ih.sig i (by rw [textN_size]; exact h)
      rw [Array.getD_eq_getD_getElem?] at this ⊢
      rw [Array.getElem?_push, if_neg (by rw [textN_size]; omega)]
      exact this
    · have : i = k := by omega
      subst this
      rw [Array.getD_eq_getD_getElem?, Array.getElem?_push, if_pos (by rw [textN_size])]
      exact sign_sig ns i
theorem textO_tx (ns : List Int) : Tx (textO ns) := textN_tx ns _ (lenN_le ns).1

theorem Ev.mul11 {X : Fm} {ρ : List (Str × PV)} {l r : Expr} {pos : Pos} {b : Int} (hl : Ev X ρ l (.int 11)) (hr : Ev X ρ r (.int b)) : Ev X ρ (.BinOp l .Mult r pos) (.int (11 * b)) :=
  Ev.bin hl hr fun A s E Q v v' h1 h2 h => by cases h1; cases h2; exact P.mul_int (h _ _ (.tok s _) (.int _ _)) (IntMulOk.of_left (by decide))
def lawA : Arguments := by run_tac putDef "" "law" 1
def lawB : List Stmt := by run_tac putDef "" "law" 2
def lawS : Scope := by run_tac putDef "" "law" 6
open Lean Elab Tactic Meta PySem.W in
/-- the first k statements of a def -/
def putTake (n : String) (k : Nat) : TacticM Unit := withMainContext do
  let cells ← stmtCells
  let some d := cells.find? (fun s => s.isAppOf ``Stmt.FunctionDef && strOf s.getAppArgs[0]! == some n) | throwError "def"
  let some cs ← cellsD? d.getAppArgs[2]! | throwError "body"
  (← getMainGoal).assign (← mkListLit (mkConst ``Stmt) (cs.take k))
def law3 : List Stmt := by run_tac putTake "law" 3
variable {prog : Program} {w : World} {h₀ : Heap} {d : Nat}
theorem law_text (B : Base2 h₀) {ns : List Int} (hn : ns.length < 2 ^ 60) {L f : Addr} {cd : Value} :
    Ex ⟨prog, w, h₀, d + 1, "law", lawS, L, f, cd⟩ [("script", .lst (ns.map PV.int))] law3 (.next [("text", .str ⟨textO ns⟩)]) := by
  have hl := B.len
  obtain ⟨l1, l2, l3⟩ := lenN_le ns
  unfold law3
  refine Ex.asg (p := .str "as in ie1E.0'-+ \n(,;=*)s2n") (by run_tac ev) (by run_tac dk) rfl rfl ?_
  refine Ex.asg (p := .str "") (by run_tac ev) (by run_tac dk) rfl rfl ?_
  refine Ex.cons (Ex1.forRange (N := lenN ns) B.range ?_ (by omega) ?_ (by run_tac dk) rfl rfl (by run_tac dk)) Ex.nil
  · rw [l3]
    refine Ev.add Ev.int (Ev.mod ?_ Ev.int (by decide))
    run_tac ev
    exact num_kn B hn (k := 0) (by decide)
  · refine turns_range (fun k ρ => ρ.lookup ("text" : Str) = some (.str ⟨textN ns k⟩) ∧ ρ.lookup ("script" : Str) = some (.lst (ns.map PV.int)) ∧ ρ.lookup ("signs" : Str) = some (.str "as in ie1E.0'-+ \n(,;=*)s2n")) (fun k ρ hk ⟨h1, h2, h3⟩ => ?_) (fun ρ ⟨h1, _, _⟩ => Ex.end (Sub.cons h1 Sub.nil)) (lenN ns) 0 _ rfl (Nat.zero_le _) ⟨by run_tac lk, by run_tac lk, by run_tac lk⟩
    refine ⟨_, Ex.asg (p := .str ⟨textN ns (k + 1)⟩) ?_ (by run_tac dk) rfl rfl Ex.nil, lk_hit, by run_tac lk, by run_tac lk⟩
    have hf := fmod_lt (numV ns (1 + k) (11 * (k : Int) + 7)) 26 (by decide)
    have hsl : (Str.ofString "as in ie1E.0'-+ \n(,;=*)s2n").length = 26 := by
      show (Str.ofString "as in ie1E.0'-+ \n(,;=*)s2n").cps.size = 26
      rw [signs_is]; rfl
    refine Ev.as (Ev.cat (a := ⟨textN ns k⟩) (b := ⟨#[signAt ns k]⟩) (by run_tac ev) (Ev.itemBin (x := Str.ofString "as in ie1E.0'-+ \n(,;=*)s2n") (i := (numV ns (1 + k) (11 * (k : Int) + 7)).fmod 26) (by run_tac ev) (Ev.mod (Ev.callK (EvArgs.cons (by run_tac ev) (EvArgs.cons (Ev.as (q := .int (1 + k : Nat)) (by run_tac ev) ?_) (EvArgs.cons (Ev.add (Ev.mul11 Ev.int (by run_tac ev)) Ev.int) EvArgs.nil))) (num_kn B hn (k := 1 + k) (by omega)) (by run_tac dk) rfl (by run_tac dk) rfl) (Ev.as (Ev.lenStr hl (by run_tac ev) (by rw [hsl]; decide) rfl (by run_tac dk) rfl) (by rw [hsl]; rfl)) (by decide)) hf.1 (by rw [hsl]; exact hf.2) (by rw [hsl]; decide) ?_) ?_) ?_
    · show PV.int (1 + (k : Int)) = PV.int ((1 + k : Nat) : Int)
      congr 1
    · rw [signs_is]
      unfold signAt
      have : ((numV ns (1 + k) (11 * (k : Int) + 7)).fmod 26).toNat < signsL.length := by show _ < 26; omega
      simp [List.getD_eq_getElem?_getD, this]
    · show ((textN ns k) ++ #[signAt ns k]).size ≤ sizeLine
      rw [Array.size_append, textN_size]
      have : sizeLine = 16777216 := sizeLine_eq
      show k + 1 ≤ _
      omega
    · show PV.str ⟨textN ns k ++ #[signAt ns k]⟩ = PV.str ⟨(textN ns k).push (signAt ns k)⟩
      rw [Array.append_singleton]
end Mine
-- P1
set_option maxRecDepth 20000
set_option maxHeartbeats 4000000
namespace Mine
open PySem

/-! ## words in capitals -/
def up (c : Nat) : Nat := if 97 ≤ c && c ≤ 122 then c - 32 else c
theorem up_sig : ∀ c ∈ Sig, Unicode.upperOf c = [up c] := by decide +kernel
theorem flat_one {g : Nat → List Nat} {u : Nat → Nat} : ∀ (l : List Nat), (∀ c ∈ l, g c = [u c]) → (l.map fun c => g c).flatten = l.map u
  | [], _ => rfl
  | c :: l, h => by
    rw [List.map_cons, List.flatten_cons, h c List.mem_cons_self, flat_one l fun c hc => h c (List.mem_cons_of_mem _ hc)]
    rfl
theorem placed_one {g : Nat → List Nat} {u : Nat → Nat} (W : Array Nat) (h : ∀ c ∈ W.toList, g c = [u c]) : placed ⟨W⟩ (fun _ c => g c) = W.map u := by
  unfold placed
  apply Array.toList_inj.mp
  rw [Array.toList_flatten, Array.toList_mapIdx, Array.toList_map, ← flat_one W.toList h]
  congr 1
  rw [List.mapIdx_eq_zipIdx_map, List.map_map]
  show List.map (fun x : Nat × Nat => g x.1) (W.toList.zipIdx) = _
  rw [show (fun x : Nat × Nat => g x.1) = (fun c => g c) ∘ Prod.fst from rfl, ← List.map_map]
  congr 1
  exact List.zipIdx_map_fst _ _
theorem upper_word {T : Array Nat} (hT : Tx T) (i e : Nat) : Txt.upper ⟨T.extract i e⟩ = ⟨(T.extract i e).map up⟩ := by
  unfold Txt.upper
  congr 1
  refine placed_one _ fun c hc => up_sig c ?_
  have hc : c ∈ T.extract i e := Array.mem_toList_iff.mp hc
  obtain ⟨j, hj, rfl⟩ := Array.mem_iff_getElem.mp hc
  rw [Array.getElem_extract]
  have hlt : i + j < T.size := by rw [Array.size_extract] at hj; omega
  have := hT.sig (i + j) hlt
  simpa [Array.getD_eq_getD_getElem?, hlt] using this

/-- the word from i to e, sign by sign -/
theorem word2 {T : Array Nat} {i e : Nat} {a b x y : Nat} (hT : Tx T) (hie : i ≤ e) (he : e ≤ T.size) (hx : ∀ c ∈ Sig, (up c == x) = (c == a)) (hy : ∀ c ∈ Sig, (up c == y) = (c == b)) :
    ((Txt.upper ⟨T.extract i e⟩).cps.toList == [x, y]) = (decide (e = i + 2) && (ch T i == a && ch T (i + 1) == b)) := by
  rw [upper_word hT]
  by_cases h : e = i + 2
  · subst h
    have e1 : (T.extract i (i + 2)).map up = #[up (ch T i), up (ch T (i + 1))] := by
      apply Array.ext
      · rw [Array.size_map, Array.size_extract]; show _ = 2; omega
      · intro j h2 h3
        have : j = 0 ∨ j = 1 := by simp at h3; omega
        rw [Array.getElem_map, Array.getElem_extract]
        rcases this with rfl | rfl
        · unfold ch; simp [Array.getD_eq_getD_getElem?, show i < T.size by omega]
        · unfold ch; simp [Array.getD_eq_getD_getElem?, show i + 1 < T.size by omega]
    show (((T.extract i (i + 2)).map up).toList == [x, y]) = _
    have x1 : (up (ch T i) == x) = (ch T i == a) := hx _ (hT.sig i (by omega))
    have y1 : (up (ch T (i + 1)) == y) = (ch T (i + 1) == b) := hy _ (hT.sig (i + 1) (by omega))
    rw [e1, decide_eq_true rfl, Bool.true_and, ← x1, ← y1]
    show ([up (ch T i), up (ch T (i + 1))] == [x, y]) = (up (ch T i) == x && up (ch T (i + 1)) == y)
    simp
  · rw [decide_eq_false h, Bool.false_and]
    apply beq_eq_false_iff_ne.mpr
    intro hc
    have hl : ((T.extract i e).map up).toList.length = 2 := by
      have : ((⟨(T.extract i e).map up⟩ : Str).cps.toList).length = [x, y].length := by rw [hc]
      exact this
    rw [Array.length_toList, Array.size_map, Array.size_extract] at hl
    omega
theorem str_beq {a b : Str} : (a == b) = (a.cps.toList == b.cps.toList) := by
  cases h : (a.cps.toList == b.cps.toList) with
  | true =>
    have : a.cps.toList = b.cps.toList := eq_of_beq h
    have : a = b := by cases a; cases b; simp only [Str.mk.injEq]; exact Array.toList_inj.mp this
    rw [this]; simp
  | false =>
    apply beq_eq_false_iff_ne.mpr
    intro e
    rw [e] at h; simp at h
theorem wIs_eq {T : Array Nat} {i e : Nat} (hT : Tx T) (hie : i ≤ e) (he : e ≤ T.size) : wIs T i e = (decide (e = i + 2) && (ch T i == 105 && ch T (i + 1) == 115)) := by
  unfold wIs
  rw [show (Str.ofString "IS").cps.toList = [73, 83] by decide +kernel]
  exact word2 hT hie he (by decide +kernel) (by decide +kernel)
theorem wAsIn_eq {T : Array Nat} {i e : Nat} (hT : Tx T) (hie : i ≤ e) (he : e ≤ T.size) : wAsIn T i e = (decide (e = i + 2) && asin T i) := by
  unfold wAsIn
  have h1 : ((Str.ofString "AS") == Txt.upper ⟨T.extract i e⟩) = (decide (e = i + 2) && (ch T i == 97 && ch T (i + 1) == 115)) := by
    rw [BEq.comm, str_beq, show (Str.ofString "AS").cps.toList = [65, 83] by decide +kernel]
    exact word2 hT hie he (by decide +kernel) (by decide +kernel)
  have h2 : ((Str.ofString "IN") == Txt.upper ⟨T.extract i e⟩) = (decide (e = i + 2) && (ch T i == 105 && ch T (i + 1) == 110)) := by
    rw [BEq.comm, str_beq, show (Str.ofString "IN").cps.toList = [73, 78] by decide +kernel]
    exact word2 hT hie he (by decide +kernel) (by decide +kernel)
  show ((Str.ofString "AS") == Txt.upper ⟨T.extract i e⟩ || ((Str.ofString "IN") == Txt.upper ⟨T.extract i e⟩ || false)) = _
  rw [h1, h2]
  unfold asin
  cases decide (e = i + 2) <;> simp [Bool.or_comm]
end Mine
-- P2
set_option maxRecDepth 20000
set_option maxHeartbeats 4000000
namespace Mine
open PySem

/-- the first pattern that matches -/
def lexO (T : Array Nat) (p : Nat) : Nat × Kd :=
  if ch T p == 45 && (ch T (p + 1) == 45 && ch T (p + 2) == 43) then (cend T p, .hint) else
  if ch T p == 45 && (ch T (p + 1) == 45) then (cend T p, .com) else
  if ch T p == 10 then (p + 1, .nl) else
  if sp (ch T p) then (p + 1, .ws) else
  if ch T p == 42 then (p + 1, .wild) else
  if asin T p && !wd (ch T (p + 2)) then (p + 2, .key) else
  if lt (ch T p) && dotAt T (ru wd T p) then (ru wd T p, .name) else
  if decide (1 ≤ p) && (ch T (p - 1) == 46 && lt (ch T p)) then (ru wd T (p + 1), .name) else
  if lt (ch T p) && ch T (ru wd T p) == 40 then (ru wd T p, .name) else
  match flt25 T (sgn T p) with
  | .yes e => (e, .flo)
  | .no =>
  match (if lt (ch T p) then .no else flt26 T (sgn T p)) with
  | .yes e => (e, .flo)
  | .no =>
  match (if lt (ch T p) then .no else int27 T (sgn T p)) with
  | .yes e => (e, .int)
  | .no =>
  match (if ch T p == 39 then strU T 16 (p + 1) else .no) with
  | .yes e => (e, .str)
  | .no =>
  if wd (ch T p) then (ru wd T p, if wIs T p (ru wd T p) then .key else .name) else
  if pu (ch T p) then (p + 1, .pun) else
  if ch T p == 45 then (p + 1, .op) else
  if eqs (ch T p) then (ru eqs T p, .cmp) else
  if pm (ch T p) then (ru pm T p, .op) else (p + 1, .err)

theorem lt_facts : ∀ c ∈ Sig, lt c = true → (c == 45) = false ∧ (c == 10) = false ∧ sp c = false ∧ (c == 42) = false ∧ dg c = false ∧ (c == 39) = false ∧ (c == 46) = false ∧ wd c = true := by decide +kernel
theorem dg_facts : ∀ c ∈ Sig, dg c = true → (c == 45) = false ∧ (c == 10) = false ∧ sp c = false ∧ (c == 42) = false ∧ lt c = false ∧ (c == 39) = false ∧ (c == 46) = false ∧ wd c = true ∧ nm c = true ∧ (c == 105) = false ∧ (c == 97) = false := by decide +kernel
theorem no_facts : ∀ c ∈ Sig, lt c = false → dg c = false → wd c = false ∧ (c == 105) = false ∧ (c == 97) = false := by decide +kernel

theorem flt25_dot {T : Array Nat} (i : Nat) (h : dg (ch T i) = false) : flt25 T i = .no := by
  unfold flt25; rw [ru_no h, if_neg (Nat.lt_irrefl _)]
theorem int27_dot {T : Array Nat} (i : Nat) (h : dg (ch T i) = false) : int27 T i = .no := by
  unfold int27; rw [ru_no h, if_pos (Nat.le_refl _)]

/-- words -/
theorem tok_word {T : Array Nat} (hT : Tx T) {p : Nat} (hp : p < T.size) (h : lt (ch T p) = true) : tokO T p = lexO T p := by
  obtain ⟨f1, f2, f3, f4, f5, f6, f7, f8⟩ := lt_facts (ch T p) (hT.sig p hp) h
  have hw : ru wd T (p + 1) = ru wd T p := (ru_yes f8 rfl).symm
  have hge : p + 1 ≤ ru wd T p := by rw [← hw]; exact ru_ge ..
  have hle : ru wd T p ≤ T.size := ru_le (Nat.le_of_lt hp)
  have hs : sgn T p = p := by unfold sgn; rw [f1]; rfl
  unfold tokO lexO wrdO
  have f1' : (ch T p == 45) = false := f1
  have f2' : (ch T p == 10) = false := f2
  have f3' : sp (ch T p) = false := f3
  have f4' : (ch T p == 42) = false := f4
  have f6' : (ch T p == 39) = false := f6
  have f8' : wd (ch T p) = true := f8
  rw [f1', f2', f3', f4', h, f6', f8', hs, flt25_dot p f5, hw, wAsIn_eq hT (by omega) hle]
  simp only [Bool.false_and, Bool.false_eq_true, if_false, if_true, Bool.true_and, Bool.and_true]
  -- AS, IN
  have e1 : (decide (ru wd T p = p + 2) && asin T p) = (asin T p && !wd (ch T (p + 2))) := by
    cases ha : asin T p with
    | false => simp
    | true =>
      have w1 : wd (ch T (p + 1)) = true := by
        unfold asin at ha
        simp only [Bool.or_eq_true, Bool.and_eq_true, beq_iff_eq] at ha
        rcases ha with ⟨_, a⟩ | ⟨_, a⟩ <;> rw [a] <;> rfl
      have e2 : ru wd T p = ru wd T (p + 2) := by rw [← hw, ru_yes w1 rfl]
      rw [Bool.and_true, Bool.true_and]
      cases w2 : wd (ch T (p + 2)) with
      | false => rw [e2, ru_no w2]; simp
      | true =>
        rw [e2, ru_yes w2 rfl]
        have := ru_ge wd T (p + 2 + 1)
        simp; omega
  rw [e1]
  by_cases c1 : (asin T p && !wd (ch T (p + 2))) = true
  · rw [if_pos c1, if_pos c1]
    rw [← e1] at c1
    simp only [Bool.and_eq_true, decide_eq_true_eq] at c1
    rw [c1.1]
  · rw [if_neg c1, if_neg c1]
    show (if dotAt T (ru wd T p) = true then _ else _) = _
    by_cases c2 : dotAt T (ru wd T p) = true
    · rw [if_pos c2, if_pos c2]
    · rw [if_neg c2, if_neg c2]
      have e3 : (decide (0 < p) && ch T (p - 1) == 46) = (decide (1 ≤ p) && ch T (p - 1) == 46) := rfl
      rw [e3]
      cases c3 : (decide (1 ≤ p) && ch T (p - 1) == 46) with
      | true => simp
      | false =>
        simp only [Bool.false_or, Bool.false_eq_true, if_false]
        by_cases c4 : (ch T (ru wd T p) == 40) = true
        · rw [if_pos c4, if_pos c4]
        · rw [if_neg c4, if_neg c4]
          cases wIs T p (ru wd T p) <;> rfl

/-- numbers -/
theorem findL1 {T : Array Nat} {i : Nat} : [i].findSome? (powO T) = powO T i := by
  rw [List.findSome?_cons]
  cases powO T i <;> rfl
def Res.opt : Res → Option Nat
  | .no => none
  | .yes e => some e
theorem powO_pow25 (T : Array Nat) (i : Nat) : powO T i = (pow25 T i).opt := by
  unfold powO pow25
  show (if ee (ch T i) = true then _ else _) = Res.opt (if ee (ch T i) = true then _ else _)
  cases ee (ch T i) with
  | false => rfl
  | true =>
    rw [if_pos rfl, if_pos rfl]
    by_cases h : sgn T (i + 1) < ru dg T (sgn T (i + 1))
    · rw [if_pos h, if_pos h]; rfl
    · rw [if_neg h, if_neg h]; rfl
theorem ends_exp (T : Array Nat) (e : Nat) : (endsO T e).findSome? (powO T) = (exp25 T e).opt := by
  unfold endsO exp25
  cases hd : ch T e == 46 with
  | false =>
    rw [Bool.false_and, Bool.and_false, if_neg Bool.false_ne_true, if_neg Bool.false_ne_true, findL1, powO_pow25]
  | true =>
    have hp : powO T e = none := by
      unfold powO; rw [show ch T e = 46 from eq_of_beq hd]; rfl
    rw [Bool.true_and, if_pos rfl]
    by_cases h : e + 1 < ru dg T (e + 1)
    · have hl : e + 1 < T.size := by
        apply Nat.lt_of_not_le
        intro hn
        rw [ru_out hn] at h; omega
      rw [decide_eq_true h, decide_eq_true hl, Bool.true_and, if_pos rfl, if_pos h, List.findSome?_cons, powO_pow25]
      cases hq : pow25 T (ru dg T (e + 1)) with
      | yes v => rfl
      | no =>
        show [e].findSome? (powO T) = none
        rw [findL1, hp]
    · rw [decide_eq_false h, Bool.and_false, if_neg Bool.false_ne_true, if_neg h, findL1, hp]; rfl
theorem figO0 (T : Array Nat) (i : Nat) : figO T i 0 = (figs T i (ru dg T i)).opt := by
  have := ru_ge dg T i
  unfold figO figs
  cases lt (ch T (ru dg T i)) with
  | true =>
    rw [if_pos rfl, if_neg (show ¬ (true = false) by decide), Nat.add_zero]
    by_cases h : i < ru dg T i
    · rw [if_pos h, if_pos h]; rfl
    · rw [if_neg h, if_neg h]; rfl
  | false => rw [if_neg Bool.false_ne_true, if_pos rfl, Nat.add_zero, if_pos this]; rfl
theorem figO1 (T : Array Nat) (i : Nat) : figO T i 1 = (if ru dg T i ≤ i then Res.no else figs T (i + 1) (ru dg T i)).opt := by
  have := ru_ge dg T i
  unfold figO figs
  by_cases h : ru dg T i ≤ i
  · rw [if_pos h, if_neg (show ¬ (i + 1 < ru dg T i) by omega), if_neg (show ¬ (i + 1 ≤ ru dg T i) by omega)]
    cases lt (ch T (ru dg T i)) <;> rfl
  · rw [if_neg h]
    cases lt (ch T (ru dg T i)) with
    | true =>
      rw [if_pos rfl, if_neg (show ¬ (true = false) by decide)]
      by_cases h : i + 1 < ru dg T i
      · rw [if_pos h, if_pos h]; rfl
      · rw [if_neg h, if_neg h]; rfl
    | false => rw [if_neg Bool.false_ne_true, if_pos rfl, if_pos (show i + 1 ≤ ru dg T i by omega)]; rfl
theorem floO_eq (T : Array Nat) (p : Nat) : floO T p = (match flt25 T (sgn T p) with | .yes e => some e | .no => (flt26 T (sgn T p)).opt) := by
  unfold floO flt25 flt26
  generalize sgn T p = f
  by_cases h : f < ru dg T f
  · rw [if_pos h, if_pos h, if_pos h, ends_exp]
    cases exp25 T (ru dg T f) with
    | yes e => rfl
    | no =>
      show (if (ch T (ru dg T f) == 46) = true then figO T (ru dg T f + 1) 0 else none) = _
      cases ch T (ru dg T f) == 46 with
      | false => rfl
      | true => rw [if_pos rfl, figO0]; rfl
  · have he : ru dg T f = f := by have := ru_ge dg T f; omega
    rw [if_neg h, if_neg h, if_neg h, he]
    show (if (ch T f == 46) = true then figO T (f + 1) 1 else none) = (if (ch T f == 46) = true then _ else Res.no).opt
    cases ch T f == 46 with
    | false => rfl
    | true => rw [if_pos rfl, if_pos rfl, figO1]
theorem int_eq (T : Array Nat) (i : Nat) : figO T i 1 = (int27 T i).opt := figO1 T i
end Mine
-- P3
set_option maxRecDepth 20000
set_option maxHeartbeats 4000000
namespace Mine
open PySem

theorem oth_facts : ∀ c ∈ Sig, lt c = false → (c == 105) = false ∧ (c == 97) = false ∧ wd c = dg c := by decide +kernel
theorem nm_facts : ∀ c ∈ Sig, nm c = true → lt c = false → dg c = false → (c == 39) = false ∧ (pu c = true ∨ c = 45) := by decide +kernel
theorem dg_facts2 : ∀ c ∈ Sig, dg c = true → (c == 39) = false ∧ (c == 45) = false ∧ (c == 46) = false := by decide +kernel
theorem rest_facts : ∀ c ∈ Sig, nm c = false → lt c = false → sp c = false → (c == 42) = false → dg c = false ∧ (c == 45) = false ∧ (c == 46) = false ∧ (c = 39 ∨ (c == 39) = false ∧ (pu c = true ∨ pu c = false ∧ (c = 61 ∨ c = 43))) := by decide +kernel

theorem rest_lex {T : Array Nat} (p : Nat) (c39 : ch T p = 39 ∨ (ch T p == 39) = false ∧ (pu (ch T p) = true ∨ pu (ch T p) = false ∧ (ch T p = 61 ∨ ch T p = 43 ∨ ch T p = 45))) :
    restO T p = (match (if ch T p == 39 then strU T 16 (p + 1) else .no) with
      | .yes e => (e, .str)
      | .no =>
        if pu (ch T p) then (p + 1, .pun) else
        if ch T p == 45 then (p + 1, .op) else
        if eqs (ch T p) then (ru eqs T p, .cmp) else
        if pm (ch T p) then (ru pm T p, .op) else (p + 1, .err)) := by
  unfold restO
  rcases c39 with h | ⟨h, h2⟩
  · have hs : stgO T p = (strU T 16 (p + 1)).opt := by
      unfold stgO
      rw [stg_strU]
      cases strU T 16 (p + 1) <;> rfl
    rw [h, hs]
    cases strU T 16 (p + 1) <;> rfl
  · rw [h]
    rcases h2 with h2 | ⟨h2, h3 | h3 | h3⟩
    · rw [h2]; rfl
    · rw [h2, h3]; rfl
    · rw [h2, h3]; rfl
    · rw [h2, h3]; rfl

theorem tok_lex {T : Array Nat} (hT : Tx T) {p : Nat} (hp : p < T.size) : tokO T p = lexO T p := by
  have hs : ch T p ∈ Sig := hT.sig p hp
  cases hl : lt (ch T p) with
  | true => exact tok_word hT hp hl
  | false =>
  obtain ⟨g1, g2, g3⟩ := oth_facts _ hs hl
  have ha : asin T p = false := by unfold asin; rw [g1, g2]; rfl
  unfold tokO lexO
  rw [hl, ha, g3]
  simp only [Bool.false_and, Bool.and_false, Bool.false_eq_true, if_false]
  cases hc : (ch T p == 45 && ch T (p + 1) == 45) with
  | true =>
    obtain ⟨a, b⟩ := Bool.and_eq_true_iff.mp hc
    rw [if_pos rfl, a, b]
    cases ch T (p + 2) == 43 <;> rfl
  | false =>
    have hc2 : (ch T p == 45 && (ch T (p + 1) == 45 && ch T (p + 2) == 43)) = false := by
      cases h : ch T p == 45 with
      | false => rfl
      | true =>
        rw [h, Bool.true_and] at hc
        rw [hc]; rfl
    rw [hc2, if_neg Bool.false_ne_true, if_neg Bool.false_ne_true, if_neg Bool.false_ne_true]
    cases hsp : sp (ch T p) with
    | true =>
      have : ch T p = 10 ∨ ch T p = 32 := by
        have : ∀ c ∈ Sig, sp c = true → c = 10 ∨ c = 32 := by decide +kernel
        exact this _ hs hsp
      rcases this with h | h <;> rw [h] <;> rfl
    | false =>
      have h10 : (ch T p == 10) = false := by
        have : ∀ c ∈ Sig, sp c = false → (c == 10) = false := by decide +kernel
        exact this _ hs hsp
      rw [h10, if_neg Bool.false_ne_true, if_neg Bool.false_ne_true, if_neg Bool.false_ne_true]
      cases h42 : ch T p == 42 with
      | true => rfl
      | false =>
        rw [if_neg Bool.false_ne_true, if_neg Bool.false_ne_true]
        cases hn : nm (ch T p) with
        | true =>
          rw [if_pos rfl]
          unfold numO
          rw [floO_eq]
          have hi : (if ch T p != 46 then figO T (sgn T p) 1 else none) = (int27 T (sgn T p)).opt := by
            cases h46 : ch T p == 46 with
            | false =>
              rw [if_pos (by rw [bne, h46]; rfl)]
              exact int_eq T _
            | true =>
              have h46 := eq_of_beq h46
              rw [if_neg (by rw [h46]; decide)]
              have : sgn T p = p := by unfold sgn; rw [h46]; rfl
              rw [this, int27_dot p (by rw [h46]; rfl)]; rfl
          rw [hi]
          cases flt25 T (sgn T p) with
          | yes e => rfl
          | no =>
            show (match (flt26 T (sgn T p)).opt with | some e => (e, Kd.flo) | none => _) = _
            cases flt26 T (sgn T p) with
            | yes e => rfl
            | no =>
              show (match (int27 T (sgn T p)).opt with | some e => (e, Kd.int) | none => _) = _
              cases int27 T (sgn T p) with
              | yes e => rfl
              | no =>
                show (if dg (ch T p) = true then (ru wd T p, Kd.name) else restO T p) = _
                cases hd : dg (ch T p) with
                | true =>
                  obtain ⟨d1, d2, d3⟩ := dg_facts2 _ hs hd
                  have hwi : wIs T p (ru wd T p) = false := by
                    rw [wIs_eq hT (ru_ge ..) (ru_le (Nat.le_of_lt hp)), g1]; simp
                  rw [d1, hwi]; rfl
                | false =>
                  obtain ⟨d1, d2⟩ := nm_facts _ hs hn hl hd
                  rw [if_neg Bool.false_ne_true, rest_lex p (.inr ⟨d1, by
                    rcases d2 with d2 | d2
                    · exact .inl d2
                    · exact .inr ⟨by rw [d2]; rfl, .inr (.inr d2)⟩⟩)]
                  rw [d1]; rfl
        | false =>
          obtain ⟨d1, d2, d3, d4⟩ := rest_facts _ hs hn hl hsp h42
          have hsg : sgn T p = p := by unfold sgn; rw [d2]; rfl
          have h26 : flt26 T p = .no := by
            unfold flt26; rw [ru_no d1, if_neg (Nat.lt_irrefl _), d3]; rfl
          rw [if_neg Bool.false_ne_true, hsg, flt25_dot p d1, h26, int27_dot p d1, d1, rest_lex p (by
            rcases d4 with h | ⟨h, h2⟩
            · exact .inl h
            · refine .inr ⟨h, ?_⟩
              rcases h2 with h2 | ⟨h2, h3⟩
              · exact .inl h2
              · exact .inr ⟨h2, by rcases h3 with h3 | h3; exact .inl h3; exact .inr (.inl h3)⟩)]
          rfl
end Mine
-- Rx18
set_option maxRecDepth 20000
namespace Mine
open PySem PySem.Sre

/-- what the machine of match comes to -/
def Fin1 (p : Nat) : Res → M → Prop
  | .no, m => m.outcome = some .failed
  | .yes e, m => m.outcome = some .matched ∧ m.handed = e ∧ m.start = p ∧ WS m.marks m.lastmark

theorem say_ends {m : M} {b : Bool} (ho : m.outcome = none) (ha : m.answer = some b) (hf : m.frames = []) : (M.runFor 1 m) = { m with outcome := some (if b then .matched else .failed) } := by
  rw [runFor_succ]
  show m.step = _
  unfold M.step
  rw [ho, ha, hf]; simp

/-- what match gives, by any invariant of the marks -/
def Ma (C : Array Nat) (G : Nat) (T : Array Nat) (p : Nat) (r : Res) : Prop :=
  ∃ ml : ML, (∀ l ms, ml.W l ms → WS ms l) ∧ ml.I (-1) p (Array.replicate (2 * G) none) ∧ ∃ K D, K ≤ 1000000 ∧ D ≤ 1000000 ∧ Run ⟨C, T, p, 2 * G, ml⟩ #[] none (-1) false K D (header C).2 p r
theorem Mt.ma {C T : Array Nat} {G p : Nat} {r : Res} (h : Mt C G T p r) : Ma C G T p r := by
  refine ⟨mlA, fun _ _ h => h, ⟨fun g b hg _ => by omega, fun g b e hg _ _ => by omega⟩, h⟩
theorem Mt28.ma {T : Array Nat} {p : Nat} {r : Res} (h : Mt28 T p r) : Ma rx28 1 T p r := by
  obtain ⟨K, D, hK, hD, h⟩ := h
  exact ⟨mlK 0 0, fun _ _ h => h, ⟨fun h => absurd h (by decide), fun h => absurd h (by decide), by decide⟩, K, D, hK, hD, h⟩

theorem mt_ends {C T : Array Nat} {G p : Nat} {r : Res} (h : Ma C G T p r) (hmin : ∀ e, r = .yes e → p + (header C).1 ≤ T.size) :
    ∃ n, n ≤ 1000001 ∧ Fin1 p r (M.runFor n (forMatch C T G p T.size false false)) := by
  obtain ⟨ml, hW, hI, K, D, hK, hD, run⟩ := h
  by_cases hc : ((header C).1 != 0 && (decide (p ≤ T.size) && decide (T.size - p < (header C).1))) = true
  · have hr : r = .no := by
      cases r with
      | no => rfl
      | yes e =>
        have := hmin e rfl
        simp at hc
        omega
    subst hr
    refine ⟨1, by omega, ?_⟩
    have e : forMatch C T G p T.size false false = forMatch C T G p T.size false false := rfl
    have ha : (forMatch C T G p T.size false false).answer = some false := by
      unfold forMatch
      simp only []
      rw [if_pos (by simpa [Bool.and_assoc] using hc)]
      rfl
    have ho : (forMatch C T G p T.size false false).outcome = none := by
      unfold forMatch
      simp only []
      rw [if_pos (by simpa [Bool.and_assoc] using hc)]
      rfl
    have hf : (forMatch C T G p T.size false false).frames = [] := by
      unfold forMatch
      simp only []
      rw [if_pos (by simpa [Bool.and_assoc] using hc)]
      rfl
    rw [say_ends ho ha hf]; rfl
  · have hfresh : ∀ (P : M → Prop), (∀ m : M, m.code = C → m.text = T → m.lim = T.size → m.wholeText = false → m.mustAdvance = false → m.start = p → m.outcome = none → m.marks = Array.replicate (2 * G) none → m.loops = #[] → m.inner = none → m.lastmark = -1 → m.answer = none → m.pc = (header C).2 → m.pos = p → m.weight = 0 → m.frames = [] → P m) → P (forMatch C T G p T.size false false) := by
      intro P hP
      unfold forMatch
      simp only []
      rw [if_neg (by simpa [Bool.and_assoc] using hc)]
      exact hP _ rfl rfl rfl rfl rfl rfl rfl rfl rfl rfl rfl rfl rfl rfl rfl rfl
    refine hfresh (fun m => ∃ n, n ≤ 1000001 ∧ Fin1 p r (M.runFor n m)) fun m h1 h2 h3 h4 h5 h6 h7 h8 h9 h10 h11 h12 h13 h14 h15 h16 => ?_
    have core : Core ⟨C, T, p, 2 * G, ml⟩ #[] none (-1) p m := by
      refine ⟨⟨h1, h2, h3, h4, h5, h6, h7, by rw [h8]; simp⟩, h9, h10, h11, ?_⟩
      rw [h8]
      exact hI
    obtain ⟨n, hn, m', e1, e2, e3, e4, e5⟩ := run m core h12 h13 h14 (by rw [h15]; omega)
    refine ⟨n + 1, by omega, ?_⟩
    rw [runFor_add, e1]
    have hf : m'.frames = [] := e2.trans h16
    cases r with
    | no =>
      rw [say_ends e4.out e5.1 hf]; rfl
    | yes e =>
      rw [say_ends e4.out e5.1 hf]
      exact ⟨rfl, e5.2.1, e4.start, hW _ _ e5.2.2.1⟩
end Mine
-- Rx19
set_option maxRecDepth 20000
namespace Mine
open PySem PySem.Sre PySem.Builtin PySem.Builtin.Re

section
variable {Md : Model} {A : Around} {E : Value → Shared → Prop} {s : Shared}
theorem wp_drive : ∀ (turns n : Nat) (m : M) (Q : M → Shared → Prop), n ≤ 4 * turns → m.outcome = none → (M.runFor n m).outcome.isSome = true → Q (M.runFor n m) s → wpAny Md A (reDrive turns m) Q E s
  | 0, n, m, Q, hn, ho, hs, _ => by
    have : n = 0 := by omega
    subst this
    have : m.outcome.isSome = true := hs
    rw [ho] at this; cases this
  | turns + 1, n, m, Q, hn, ho, hs, hq => by
    show wpAny Md A (if (M.runFor reTurnSteps m).outcome.isSome then pure (M.runFor reTurnSteps m) else do rule "sre.turn"; reDrive turns (M.runFor reTurnSteps m)) Q E s
    by_cases h4 : (M.runFor 4 m).outcome.isSome = true
    · rw [if_pos (show (M.runFor reTurnSteps m).outcome.isSome = true from h4)]
      refine wpAny_pure ?_
      show Q (M.runFor 4 m) s
      have e : M.runFor 4 m = M.runFor n m := by
        by_cases hle : n ≤ 4
        · have : M.runFor 4 m = M.runFor (4 - n) (M.runFor n m) := by rw [← runFor_add]; congr 1; omega
          rw [this, runFor_done hs]
        · have : M.runFor n m = M.runFor (n - 4) (M.runFor 4 m) := by rw [← runFor_add]; congr 1; omega
          rw [this, runFor_done h4]
      rw [e]; exact hq
    · rw [if_neg (show ¬ (M.runFor reTurnSteps m).outcome.isSome = true from h4)]
      refine wpAny_bind (wpAny_rule ?_)
      have hgt : 4 < n := by
        apply Nat.lt_of_not_le
        intro hle
        apply h4
        have : M.runFor 4 m = M.runFor (4 - n) (M.runFor n m) := by rw [← runFor_add]; congr 1; omega
        rw [this, runFor_done hs]; exact hs
      have e : M.runFor n m = M.runFor (n - 4) (M.runFor 4 m) := by rw [← runFor_add]; congr 1; omega
      rw [e] at hs hq
      refine wp_drive turns (n - 4) (M.runFor 4 m) Q (by omega) ?_ hs hq
      cases ho4 : (M.runFor 4 m).outcome with
      | none => rfl
      | some x => rw [ho4] at h4; exact absurd rfl h4

theorem fm_out {C T : Array Nat} {G p lim : Nat} : (forMatch C T G p lim false false).outcome = none := by
  unfold forMatch
  simp only []
  split <;> rfl
/-- match, run to its end -/
theorem wp_match {C T : Array Nat} {G p : Nat} {r : Res} {Q : Option M → Shared → Prop} (h : Ma C G T p r) (hmin : ∀ e, r = .yes e → p + (header C).1 ≤ T.size)
    (hq : match r with | .no => Q none s | .yes e => ∀ m : M, m.handed = e → m.start = p → WS m.marks m.lastmark → Q (some m) s) : wpAny Md A (reRunToEnd (forMatch C T G p T.size false false)) Q E s := by
  obtain ⟨n, hn, fin⟩ := mt_ends h hmin
  unfold reRunToEnd
  have hs : (M.runFor n (forMatch C T G p T.size false false)).outcome.isSome = true := by
    cases r with
    | no => have fin : (M.runFor n (forMatch C T G p T.size false false)).outcome = some .failed := fin
            rw [fin]; rfl
    | yes e => rw [fin.1]; rfl
  refine wpAny_bind (wp_drive _ n _ _ (by have : n ≤ 1000001 := hn; omega) fm_out hs ?_)
  refine wpAny_bind (wpAny_forIn_list _ (fun _ _ s' => s' = s) _ (fun i rest b s' e => ?_) (fun b s' e => ?_) _ _ rfl)
  · subst e
    split
    · exact wpAny_bind (wpAny_rule (wpAny_pure rfl))
    · exact wpAny_pure rfl
  · subst e
    cases r with
    | no =>
      have fin : (M.runFor n (forMatch C T G p T.size false false)).outcome = some .failed := fin
      rw [fin]
      exact wpAny_pure hq
    | yes e =>
      obtain ⟨f1, f2, f3, f4⟩ := fin
      rw [f1]
      exact wpAny_pure (hq _ f2 f3 f4)
end
end Mine
-- Rx20
set_option maxRecDepth 100000
namespace Mine
open PySem PySem.Sre PySem.Builtin PySem.Builtin.Re

theorem plain_re_Pattern : PlainAttrs "re.Pattern" :=
  ⟨⟨"object.__getattribute__", by run_tac qrfl, by first | run_tac qdec | decide +kernel⟩, by run_tac qrfl⟩
theorem owner_re_Pattern : Manifest.owners.lookup (String.ofList ['n', 'r', 'e', 't', 't', 'a', 'P', '.', 'e', 'r'].reverse) = some Manifest.sig_re_Pattern := by kernel_rfl

theorem plain_re_Match : PlainAttrs "re.Match" :=
  ⟨⟨"object.__getattribute__", by run_tac qrfl, by first | run_tac qdec | decide +kernel⟩, by run_tac qrfl⟩
theorem owner_re_Match : Manifest.owners.lookup (String.ofList ['h', 'c', 't', 'a', 'M', '.', 'e', 'r'].reverse) = some Manifest.sig_re_Match := by kernel_rfl

theorem slot_re_Pattern_match : Slot "re.Pattern" "match" "re.Pattern.match" :=
  .of (owner := "re.Pattern") (n := "match") (by run_tac qrfl) (by first | run_tac qdec | decide +kernel) (by first | run_tac qdec | decide +kernel) (by first | run_tac qdec | decide +kernel)
    (by first | exact .inl (by first | run_tac qdec | decide +kernel) | exact .inr (by first | run_tac qdec | decide +kernel)) (by run_tac qrfl)
theorem type_re_Pattern_match : typeOf (.builtin "re.Pattern.match") = pure (.type "method_descriptor") := by run_tac qrfl
theorem entry_re_Pattern_match : entryFor table "re.Pattern.match" = some Builtin.«re.Pattern.match» := entryFor_of_tree (by kernel_rfl)
theorem args_re_Pattern_match (a b c : Value) : argsOk "re.Pattern.match" ⟨[a, b, c], []⟩ := by
  unfold argsOk; rw [signature?_of (id := "re.Pattern.match") (n := ['h', 'c', 't', 'a', 'm']) (o := ['n', 'r', 'e', 't', 't', 'a', 'P', '.', 'e', 'r']) (by kernel_rfl) owner_re_Pattern]; kernel_rfl

theorem slot_re_Match_group : Slot "re.Match" "group" "re.Match.group" :=
  .of (owner := "re.Match") (n := "group") (by run_tac qrfl) (by first | run_tac qdec | decide +kernel) (by first | run_tac qdec | decide +kernel) (by first | run_tac qdec | decide +kernel)
    (by first | exact .inl (by first | run_tac qdec | decide +kernel) | exact .inr (by first | run_tac qdec | decide +kernel)) (by run_tac qrfl)
theorem type_re_Match_group : typeOf (.builtin "re.Match.group") = pure (.type "method_descriptor") := by run_tac qrfl
theorem entry_re_Match_group : entryFor table "re.Match.group" = some Builtin.«re.Match.group» := entryFor_of_tree (by kernel_rfl)
theorem args_re_Match_group (a : Value) : argsOk "re.Match.group" ⟨[a], []⟩ := by
  unfold argsOk; rw [signature?_of (id := "re.Match.group") (n := ['p', 'u', 'o', 'r', 'g']) (o := ['h', 'c', 't', 'a', 'M', '.', 'e', 'r']) (by kernel_rfl) owner_re_Match]; kernel_rfl

theorem slot_re_Match_end : Slot "re.Match" "end" "re.Match.end" :=
  .of (owner := "re.Match") (n := "end") (by run_tac qrfl) (by first | run_tac qdec | decide +kernel) (by first | run_tac qdec | decide +kernel) (by first | run_tac qdec | decide +kernel)
    (by first | exact .inl (by first | run_tac qdec | decide +kernel) | exact .inr (by first | run_tac qdec | decide +kernel)) (by run_tac qrfl)
theorem type_re_Match_end : typeOf (.builtin "re.Match.end") = pure (.type "method_descriptor") := by run_tac qrfl
theorem entry_re_Match_end : entryFor table "re.Match.end" = some Builtin.«re.Match.end» := entryFor_of_tree (by kernel_rfl)
theorem args_re_Match_end (a : Value) : argsOk "re.Match.end" ⟨[a], []⟩ := by
  unfold argsOk; rw [signature?_of (id := "re.Match.end") (n := ['d', 'n', 'e']) (o := ['h', 'c', 't', 'a', 'M', '.', 'e', 'r']) (by kernel_rfl) owner_re_Match]; kernel_rfl

end Mine
-- Rx21
set_option maxRecDepth 20000
namespace Mine
open PySem PySem.Sre PySem.Builtin PySem.Builtin.Re

/-- a pattern's object -/
structure PatAt (h : Heap) (a : Addr) (G : Nat) (C : Array Nat) : Prop where
  ex : ∃ o vs ca oc ws n, h.get? a = some o ∧ o.cls = .type "re.Pattern" ∧ o.dict = none ∧ o.data = .fields vs ∧ reRawNat (vs.getD 2 .none) = G ∧ reRawNat (vs.getD 6 .none) = 0 ∧ vs.getD 5 .none = .ref ca ∧ h.get? ca = some oc ∧ oc.data = .seq ws n ∧ (ws.map reRawOf).map (·.toNat) = C
theorem PatAt.keep {h h' : Heap} {a : Addr} {G : Nat} {C : Array Nat} (P : PatAt h a G C) (k : ∀ b o, h.get? b = some o → h'.get? b = some o) : PatAt h' a G C := by
  obtain ⟨o, vs, ca, oc, ws, n, h1, h2, h3, h4, h5, h6, h7, h8, h9, h10⟩ := P.ex
  exact ⟨o, vs, ca, oc, ws, n, k _ _ h1, h2, h3, h4, h5, h6, h7, k _ _ h8, h9, h10⟩
/-- what a match's object holds -/
structure MatchAt (h : Heap) (a : Addr) (T : Array Nat) (p e : Nat) : Prop where
  ex : ∃ o vs t sa os rest n, h.get? a = some o ∧ o.cls = .type "re.Match" ∧ o.dict = none ∧ o.data = .fields vs ∧ vs.getD 0 .none = .str ⟨T⟩ t ∧ vs.getD 5 .none = .ref sa ∧ h.get? sa = some os ∧ os.data = .seq (rawInt p :: rawInt e :: rest).toArray n
theorem MatchAt.keep {h h' : Heap} {a : Addr} {T : Array Nat} {p e : Nat} (P : MatchAt h a T p e) (k : ∀ b o, h.get? b = some o → h'.get? b = some o) : MatchAt h' a T p e := by
  obtain ⟨o, vs, t, sa, os, rest, n, h1, h2, h3, h4, h5, h6, h7, h8⟩ := P.ex
  exact ⟨o, vs, t, sa, os, rest, n, k _ _ h1, h2, h3, h4, h5, h6, k _ _ h7, h8⟩

section
variable {prog : Program} {w : World} {A : Around} {E : Value → Shared → Prop} {s : Shared}
theorem wp_target {a : Addr} {G : Nat} {C T : Array Nat} {t u : Tok} {p : Nat} {Q : ReTarget → Shared → Prop} (P : PatAt s.heap a G C) (hp : p ≤ T.size) (hT : T.size ≤ 14)
    (h : Q { pattern := .ref a, string := .str ⟨T⟩ t, code := C, text := T, kind := 0, groups := G, pos := p, lim := T.size } s) :
    wpAny (model prog w) A (reTarget "re.Pattern.match" "match" ⟨[.ref a, .str ⟨T⟩ t, .int p u], []⟩) Q E s := by
  obtain ⟨o, vs, ca, oc, ws, n, h1, h2, h3, h4, h5, h6, h7, h8, h9, h10⟩ := P.ex
  unfold reTarget
  refine wpAny_bind (wpAny_of_eq (a := [some (.str ⟨T⟩ t), some (.int p u), none]) rfl ?_)
  refine wpAny_bind (wpAny_mono (Q := fun i s' => i = (p : Int) ∧ s' = s) (E := E) ?_ ?_ fun _ _ x => x)
  · unfold reSsize
    refine wpAny_bind (wpAny_of_eq (a := (p : Int)) rfl ?_)
    rw [if_neg (by simp; omega)]
    exact wpAny_pure ⟨rfl, rfl⟩
  · rintro i s' ⟨rfl, rfl⟩
    refine wpAny_bind (wpAny_pure ?_)
    refine wpAny_bind (wpAny_fieldsOf h1 h4 ?_)
    refine wpAny_bind (wpAny_of_eq (a := (T, 0)) rfl ?_)
    simp only [h6]
    rw [if_neg (by decide)]
    rw [if_neg (by decide)]
    refine wpAny_bind (wpAny_of_eq (a := ()) rfl ?_)
    refine wpAny_bind (wpAny_mono (Q := fun xs s'' => xs = ws.map reRawOf ∧ s'' = s') (E := E) ?_ ?_ fun _ _ x => x)
    · unfold reRawItems seqItems?
      rw [h7]
      refine wpAny_bind (wpAny_bind (wpAny_load h8 ?_))
      rw [h9]
      exact wpAny_pure (wpAny_pure ⟨rfl, rfl⟩)
    · rintro xs s'' ⟨rfl, rfl⟩
      refine wpAny_pure ?_
      rw [h10, h5, show min ((p : Int)).toNat T.size = p by omega, show min (2 ^ 63 - 1 : Int).toNat T.size = T.size by omega]
      exact h

def spansOf (groups : Nat) (m : M) : List Value := (List.range groups).flatMap fun g =>
    match if ((2 * g + 1 : Nat) : Int) ≤ m.lastmark then (m.marks.getD (2 * g) none, m.marks.getD (2 * g + 1) none) else (none, none) with
    | (some b, some e) => [rawInt b, rawInt e]
    | _ => [rawInt (-1), rawInt (-1)]
theorem spans_len (m : M) : ∀ l : List Nat, (l.flatMap fun g =>
    match if ((2 * g + 1 : Nat) : Int) ≤ m.lastmark then (m.marks.getD (2 * g) none, m.marks.getD (2 * g + 1) none) else (none, none) with
    | (some b, some e) => [rawInt b, rawInt e]
    | _ => [rawInt (-1), rawInt (-1)]).length = 2 * l.length
  | [] => rfl
  | g :: l => by
    rw [List.flatMap_cons, List.length_append, spans_len m l, List.length_cons]
    split <;> simp <;> omega
theorem wp_newMatch {G p e : Nat} {T : Array Nat} {t : Tok} {pat : Value} {m : M} {lim : Nat} {Q : Value → Shared → Prop} (hG : G ≤ 10) (hh : m.handed = e) (hs : m.start = p) (hw : WS m.marks m.lastmark)
    (hq : ∀ a s', Mine.Up s s' → MatchAt s'.heap a T p e → Q (.ref a) s') : wpAny (model prog w) A (reNewMatch pat (.str ⟨T⟩ t) G p lim m) Q E s := by
  unfold reNewMatch
  have hany : ((List.range G).any (fun g => match m.marks.getD (2 * g) none, m.marks.getD (2 * g + 1) none with | some b, some e => ((2 * g + 1 : Nat) : Int) ≤ m.lastmark && e < b | _, _ => false)) = false := by
    rw [List.any_eq_false]
    intro g _
    cases hb : m.marks.getD (2 * g) none with
    | none => simp
    | some b =>
      cases he : m.marks.getD (2 * g + 1) none with
      | none => simp
      | some x =>
        simp only [Bool.and_eq_true, decide_eq_true_eq, not_and]
        intro hl
        have := hw g b x hl hb he
        omega
  simp only []
  refine wpAny_ite_split (fun hc => absurd (show false = true from hany.symm.trans hc) Bool.false_ne_true) fun _ => ?_
  have hlen := spans_len m (List.range G)
  rw [List.length_range] at hlen
  generalize hl : List.flatMap _ (List.range G) = l at hlen
  have hl' : l.length = 2 * G := hlen
  unfold newTuple newFields
  refine wpAny_bind (wpAny_newObj_type ?_ (by show (rawInt _ :: rawInt _ :: _ : List Value).toArray.size ≤ sizeLine; simp [hl']; exact Nat.le_trans (show 2 * G + 1 + 1 ≤ 30 by omega) (by decide)))
  refine wpAny_newObj_type ?_ (by show (6 : Nat) ≤ sizeLine + 2; decide)
  rw [hs, hh]
  exact hq _ _ ((Mine.Up.push s _ s.toks).trans (Mine.Up.push _ _ _)) ⟨_, _, t, s.heap.objs.size, _, l, 0, Heap.get?_push_size _ rfl, rfl, rfl, rfl, rfl, rfl, Heap.get?_push_of_some _ (Heap.get?_push_size _ rfl), rfl⟩

/-- pattern.match(text, p) -/
theorem wp_patmatch {a : Addr} {G : Nat} {C T : Array Nat} {t u : Tok} {p : Nat} {r : Res} {Q : Value → Shared → Prop} (P : PatAt s.heap a G C) (hp : p ≤ T.size) (hT : T.size ≤ 14) (hG : G ≤ 10) (h : Ma C G T p r) (hmin : ∀ e, r = .yes e → p + (header C).1 ≤ T.size)
    (hq : match r with | .no => Q .none s | .yes e => ∀ a s', Mine.Up s s' → MatchAt s'.heap a T p e → Q (.ref a) s') : wpAny (model prog w) A (call (.builtin "re.Pattern.match") [.ref a, .str ⟨T⟩ t, .int p u]) Q E s := by
  have hty : s.TypeIs (.ref a) "re.Pattern" := by
    obtain ⟨o, vs, ca, oc, ws, n, h1, h2, _⟩ := P.ex
    exact ⟨o, h1, h2⟩
  refine wpAny_call_entry slot_re_Pattern_match hty entry_re_Pattern_match ?_ (args_re_Pattern_match _ _ _)
  show wpAny _ _ (reTarget "re.Pattern.match" "match" ⟨[.ref a, .str ⟨T⟩ t, .int p u], []⟩ >>= fun t => reAnswer t (Sre.forMatch t.code t.text t.groups t.pos t.lim false false)) _ _ _
  refine wpAny_bind (wp_target P hp hT ?_)
  unfold reAnswer
  refine wpAny_bind (wp_match h hmin ?_)
  cases r with
  | no => exact wpAny_pure ⟨_, rfl, hq⟩
  | yes e =>
    intro m h1 h2 h3
    exact wpAny_bind (wp_newMatch hG h1 h2 h3 fun a s' u k => wpAny_pure ⟨_, rfl, hq a s' u k⟩)
end
end Mine
-- Rx22
set_option maxRecDepth 20000
namespace Mine
open PySem PySem.Sre PySem.Builtin PySem.Builtin.Re
section
variable {prog : Program} {w : World} {A : Around} {E : Value → Shared → Prop} {s : Shared} {a : Addr} {T : Array Nat} {p e : Nat} {Q : Value → Shared → Prop}
theorem MatchAt.typeIs (M : MatchAt s.heap a T p e) : s.TypeIs (.ref a) "re.Match" := by
  obtain ⟨o, vs, t, sa, os, rest, n, h1, h2, _⟩ := M.ex
  exact ⟨o, h1, h2⟩
theorem wp_found (M : MatchAt s.heap a T p e) {Q : ReFound → Shared → Prop} (h : ∀ x : ReFound, (∃ t, x.fields.getD 0 .none = .str ⟨T⟩ t) → x.spans.getD 0 (-1) = p → x.spans.getD 1 (-1) = e → Q x s) : wpAny (model prog w) A (reFound (.ref a)) Q E s := by
  obtain ⟨o, vs, t, sa, os, rest, n, h1, h2, h3, h4, h5, h6, h7, h8⟩ := M.ex
  unfold reFound
  refine wpAny_bind (wpAny_fieldsOf h1 h4 ?_)
  refine wpAny_bind (wpAny_mono (Q := fun xs s'' => xs = (rawInt p :: rawInt e :: rest).toArray.map reRawOf ∧ s'' = s) (E := E) ?_ ?_ fun _ _ x => x)
  · unfold reRawItems seqItems?
    rw [h6]
    refine wpAny_bind (wpAny_bind (wpAny_load h7 ?_))
    rw [h8]
    exact wpAny_pure (wpAny_pure ⟨rfl, rfl⟩)
  · rintro xs s'' ⟨rfl, rfl⟩
    exact wpAny_pure (h _ ⟨t, h5⟩ (by simp [reRawOf, rawInt]) (by simp [reRawOf, rawInt]))
theorem wp_group (M : MatchAt s.heap a T p e) (hT : T.size ≤ 14) (h : ∀ t, Q (.str ⟨T.extract p e⟩ t) { s with toks := s.toks + 1 }) : wpAny (model prog w) A (call (.builtin "re.Match.group") [.ref a]) Q E s := by
  refine wpAny_call_entry slot_re_Match_group M.typeIs entry_re_Match_group ?_ (args_re_Match_group _)
  show wpAny _ _ (reFound (.ref a) >>= fun x => reGroupText x 0 .none >>= ret) _ _ _
  refine wpAny_bind (wp_found M fun x ⟨t, h0⟩ h1 h2 => wpAny_bind ?_)
  unfold reGroupText
  simp only [Nat.mul_zero, Nat.zero_add, h1, h2]
  rw [if_neg (by simp), h0]
  refine wpAny_bind (wpAny_of_eq (a := (T, 0)) rfl ?_)
  show wpAny _ _ (mkStr ⟨T.extract p e⟩) _ _ _
  unfold mkStr
  rw [if_neg (by show ¬ (T.extract p e).size > sizeLine; rw [Array.size_extract]; have : sizeLine = 16777216 := sizeLine_eq; omega)]
  exact wpAny_bind (wpAny_fresh (wpAny_pure (wpAny_pure ⟨_, rfl, h _⟩)))
theorem wp_end (M : MatchAt s.heap a T p e) (h : ∀ t, Q (.int e t) { s with toks := s.toks + 1 }) : wpAny (model prog w) A (call (.builtin "re.Match.end") [.ref a]) Q E s := by
  refine wpAny_call_entry slot_re_Match_end M.typeIs entry_re_Match_end ?_ (args_re_Match_end _)
  show wpAny _ _ ((reOneGroup "Match.end" "end" ⟨[.ref a], []⟩) >>= fun x => retInt (x.1.spans.getD (2 * x.2 + 1) (-1))) _ _ _
  refine wpAny_bind ?_
  unfold reOneGroup
  refine wpAny_bind (wpAny_of_eq (a := (.ref a, [])) rfl ?_)
  refine wpAny_bind (wp_found M fun x _ h1 h2 => wpAny_bind (wpAny_pure (wpAny_pure ?_)))
  simp only [Nat.mul_zero, Nat.zero_add, h2]
  unfold retInt mkInt
  exact wpAny_bind (wpAny_bind (wpAny_fresh (wpAny_pure (wpAny_pure ⟨_, rfl, h _⟩))))
end
end Mine
-- L1
set_option maxRecDepth 20000
set_option maxHeartbeats 4000000
namespace Mine
open PySem PySem.Sre

/-- a pattern: its code, its groups, what match gives, the kind it tells (none: by the word) -/
structure Pt where
  C : Array Nat
  G : Nat
  r : Array Nat → Nat → Res
  act : Option Kd

def r6 (T : Array Nat) (p : Nat) : Res := if ch T p == 45 && (ch T (p + 1) == 45 && ch T (p + 2) == 43) then .yes (cend T p) else .no
def r7 (T : Array Nat) (p : Nat) : Res := if ch T p == 45 && (ch T (p + 1) == 45) then .yes (cend T p) else .no
def r8 (T : Array Nat) (p : Nat) : Res := if ch T p == 10 then .yes (p + 1) else .no
def r9 (T : Array Nat) (p : Nat) : Res := if sp (ch T p) then .yes (p + 1) else .no
def r12 (T : Array Nat) (p : Nat) : Res := if ch T p == 42 then .yes (p + 1) else .no
def r19 (T : Array Nat) (p : Nat) : Res := if asin T p && !wd (ch T (p + 2)) then .yes (p + 2) else .no
def r21 (T : Array Nat) (p : Nat) : Res := if lt (ch T p) && dotAt T (ru wd T p) then .yes (ru wd T p) else .no
def r22 (T : Array Nat) (p : Nat) : Res := if decide (1 ≤ p) && (ch T (p - 1) == 46 && lt (ch T p)) then .yes (ru wd T (p + 1)) else .no
def r23 (T : Array Nat) (p : Nat) : Res := if lt (ch T p) && ch T (ru wd T p) == 40 then .yes (ru wd T p) else .no
def r25 (T : Array Nat) (p : Nat) : Res := flt25 T (sgn T p)
def r26 (T : Array Nat) (p : Nat) : Res := if lt (ch T p) then .no else flt26 T (sgn T p)
def r27 (T : Array Nat) (p : Nat) : Res := if lt (ch T p) then .no else int27 T (sgn T p)
def r28 (T : Array Nat) (p : Nat) : Res := if ch T p == 39 then strU T 16 (p + 1) else .no
def r50 (T : Array Nat) (p : Nat) : Res := if wd (ch T p) then .yes (ru wd T p) else .no
def r51 (T : Array Nat) (p : Nat) : Res := if pu (ch T p) then .yes (p + 1) else .no
def r52 (T : Array Nat) (p : Nat) : Res := if ch T p == 45 then .yes (p + 1) else .no
def r53 (T : Array Nat) (p : Nat) : Res := if eqs (ch T p) then .yes (ru eqs T p) else .no
def r54 (T : Array Nat) (p : Nat) : Res := if pm (ch T p) then .yes (ru pm T p) else .no
def pts : List Pt := [
  ⟨rx6, 2, r6, some .hint⟩,
  ⟨rx7, 2, r7, some .com⟩,
  ⟨rx8, 1, r8, some .nl⟩,
  ⟨rx9, 0, r9, some .ws⟩,
  ⟨rx10, 0, fun _ _ => .no, some .err⟩,
  ⟨rx11, 0, fun _ _ => .no, some .err⟩,
  ⟨rx12, 0, r12, some .wild⟩,
  ⟨rx13, 1, fun _ _ => .no, some .err⟩,
  ⟨rx14, 1, fun _ _ => .no, some .err⟩,
  ⟨rx15, 0, fun _ _ => .no, some .err⟩,
  ⟨rx16, 1, fun _ _ => .no, some .err⟩,
  ⟨rx17, 0, fun _ _ => .no, some .err⟩,
  ⟨rx18, 0, fun _ _ => .no, some .err⟩,
  ⟨rx19, 1, r19, some .key⟩,
  ⟨rx20, 1, fun _ _ => .no, some .err⟩,
  ⟨rx21, 0, r21, some .name⟩,
  ⟨rx22, 0, r22, some .name⟩,
  ⟨rx23, 0, r23, some .name⟩,
  ⟨rx24, 0, fun _ _ => .no, some .err⟩,
  ⟨rx25, 1, r25, some .flo⟩,
  ⟨rx26, 2, r26, some .flo⟩,
  ⟨rx27, 0, r27, some .int⟩,
  ⟨rx28, 1, r28, some .str⟩,
  ⟨rx29, 1, fun _ _ => .no, some .err⟩,
  ⟨rx30, 1, fun _ _ => .no, some .err⟩,
  ⟨rx31, 1, fun _ _ => .no, some .err⟩,
  ⟨rx32, 4, fun _ _ => .no, some .err⟩,
  ⟨rx33, 1, fun _ _ => .no, some .err⟩,
  ⟨rx34, 1, fun _ _ => .no, some .err⟩,
  ⟨rx35, 0, fun _ _ => .no, some .err⟩,
  ⟨rx36, 3, fun _ _ => .no, some .err⟩,
  ⟨rx37, 1, fun _ _ => .no, some .err⟩,
  ⟨rx38, 1, fun _ _ => .no, some .err⟩,
  ⟨rx39, 0, fun _ _ => .no, some .err⟩,
  ⟨rx40, 1, fun _ _ => .no, some .err⟩,
  ⟨rx41, 0, fun _ _ => .no, some .err⟩,
  ⟨rx42, 0, fun _ _ => .no, some .err⟩,
  ⟨rx43, 0, fun _ _ => .no, some .err⟩,
  ⟨rx44, 0, fun _ _ => .no, some .err⟩,
  ⟨rx45, 0, fun _ _ => .no, some .err⟩,
  ⟨rx46, 1, fun _ _ => .no, some .err⟩,
  ⟨rx47, 1, fun _ _ => .no, some .err⟩,
  ⟨rx48, 2, fun _ _ => .no, some .err⟩,
  ⟨rx49, 4, fun _ _ => .no, some .err⟩,
  ⟨rx50, 0, r50, none⟩,
  ⟨rx51, 0, r51, some .pun⟩,
  ⟨rx52, 1, r52, some .op⟩,
  ⟨rx53, 0, r53, some .cmp⟩,
  ⟨rx54, 0, r54, some .op⟩]

def Res.elim {α : Type} (r : Res) (f : Nat → α) (g : α) : α := match r with
  | .yes e => f e
  | .no => g
theorem elim_ite {α : Type} (c : Bool) (e : Nat) (f : Nat → α) (g : α) : Res.elim (if c = true then .yes e else .no) f g = if c = true then f e else g := by cases c <;> rfl
def actO (T : Array Nat) (p e : Nat) : Option Kd → Kd
  | some k => k
  | none => if wIs T p e then .key else .name
def firstM (T : Array Nat) (p : Nat) : List Pt → Nat × Kd
  | [] => (p + 1, .err)
  | x :: l => (x.r T p).elim (fun e => (e, actO T p e x.act)) (firstM T p l)
theorem elim_no {α : Type} (f : Nat → α) (g : α) : Res.elim .no f g = g := rfl
theorem first_lex (T : Array Nat) (p : Nat) : firstM T p pts = lexO T p := by
  unfold pts
  simp only [firstM, elim_no, r6, r7, r8, r9, r12, r19, r21, r22, r23, r28, r50, r51, r52, r53, r54, elim_ite, actO]
  rfl

/-! ## how far a match reaches -/
theorem figs_le {T : Array Nat} {f e v : Nat} (h : figs T f e = .yes v) (hf : f ≤ e) : f ≤ v ∧ v ≤ e := by
  unfold figs at h
  split at h
  · cases h; omega
  · split at h <;> cases h; omega
theorem pow_le {T : Array Nat} {i v : Nat} (h : pow25 T i = .yes v) : i + 2 ≤ v ∧ v ≤ T.size := by
  unfold pow25 at h
  split at h
  · rename_i hc
    split at h
    · cases h
      rename_i hlt
      have hs : i + 1 ≤ sgn T (i + 1) := by unfold sgn; split <;> omega
      refine ⟨by omega, ?_⟩
      apply ru_le
      apply Nat.le_of_not_lt
      intro hn
      rw [ru_out (by omega)] at hlt; omega
    · cases h
  · cases h
theorem flt25_le {T : Array Nat} {f v : Nat} (h : flt25 T f = .yes v) : f + 3 ≤ v ∧ v ≤ T.size := by
  unfold flt25 exp25 at h
  split at h
  · split at h
    · split at h
      · have := pow_le h; omega
      · cases h
    · have := pow_le h; omega
  · cases h
theorem flt26_le {T : Array Nat} {f v : Nat} (h : flt26 T f = .yes v) (hf : f ≤ T.size) : f + 2 ≤ v ∧ v ≤ T.size := by
  unfold flt26 at h
  split at h
  · split at h
    · rename_i hc
      have hl : ru dg T f < T.size := lt_of_ch (P := (· == 46)) hc rfl
      have := figs_le h (ru_ge ..)
      have h2 : ru dg T (ru dg T f + 1) ≤ T.size := ru_le hl
      omega
    · cases h
  · split at h
    · rename_i hc
      split at h
      · cases h
      · have hl : f < T.size := lt_of_ch (P := (· == 46)) hc rfl
        have := figs_le h (by omega)
        have h2 : ru dg T (f + 1) ≤ T.size := ru_le hl
        omega
    · cases h
theorem int27_le {T : Array Nat} {f v : Nat} (h : int27 T f = .yes v) (hf : f ≤ T.size) : f + 1 ≤ v ∧ v ≤ T.size := by
  unfold int27 at h
  split at h
  · cases h
  · have := figs_le h (by omega)
    have h2 : ru dg T f ≤ T.size := ru_le hf
    omega
theorem strU_le {T : Array Nat} : ∀ (n i v : Nat), strU T n i = .yes v → i + 1 ≤ v ∧ v ≤ T.size
  | 0, _, _, h => by cases h
  | n + 1, i, v, h => by
    unfold strU at h
    split at h
    · rename_i h1
      have l1 : i < T.size := lt_of_ch (P := (· == 39)) h1 rfl
      split at h
      · split at h
        · rename_i e he
          cases h
          have := strU_le n _ _ he; omega
        · cases h; omega
      · cases h; omega
    · split at h
      · have := strU_le n _ _ h; omega
      · cases h
end Mine
-- L2
set_option maxRecDepth 20000
set_option maxHeartbeats 4000000
namespace Mine
open PySem PySem.Sre

def PtOk (x : Pt) : Prop := ∀ T p, Tx T → p < T.size → Ma x.C x.G T p (x.r T p) ∧ x.G ≤ 10 ∧ ∀ e, x.r T p = .yes e → p < e ∧ e ≤ T.size ∧ p + (header x.C).1 ≤ T.size
theorem ok_no {C : Array Nat} {G : Nat} {a : Option Kd} (hG : G ≤ 10) (h : ∀ T, Tx T → ∀ p, Mt C G T p .no) : PtOk ⟨C, G, fun _ _ => .no, a⟩ := fun T p hT _ => ⟨(h T hT p).ma, hG, fun _ h => by cases h⟩
theorem ok_if {C : Array Nat} {G : Nat} {a : Option Kd} {c : Array Nat → Nat → Bool} {f : Array Nat → Nat → Nat} (hG : G ≤ 10) (h : ∀ T, Tx T → ∀ p, Mt C G T p (if c T p = true then .yes (f T p) else .no))
    (hr : ∀ T, Tx T → ∀ p, p < T.size → c T p = true → p < f T p ∧ f T p ≤ T.size ∧ p + (header C).1 ≤ T.size) : PtOk ⟨C, G, fun T p => if c T p = true then .yes (f T p) else .no, a⟩ := fun T p hT hp => by
  refine ⟨(h T hT p).ma, hG, fun e he => ?_⟩
  have he : (if c T p = true then Res.yes (f T p) else .no) = .yes e := he
  by_cases hc : c T p = true
  · rw [if_pos hc] at he; cases he; exact hr T hT p hp hc
  · rw [if_neg hc] at he; cases he
theorem cend_le {T : Array Nat} {p : Nat} (hp : p < T.size) (h : ch T p = 45) : p < cend T p ∧ cend T p ≤ T.size := by
  have h1 : ru nl T p = ru nl T (p + 1) := by rw [ru_step hp, h]; rfl
  have h2 := ru_ge nl T (p + 1)
  have h3 : ru nl T p ≤ T.size := ru_le (Nat.le_of_lt hp)
  unfold cend
  show p < (if ru nl T p < T.size then ru nl T p + 1 else ru nl T p) ∧ (if ru nl T p < T.size then ru nl T p + 1 else ru nl T p) ≤ T.size
  split <;> omega
theorem ru_in2 {P : Nat → Bool} {T : Array Nat} {p : Nat} (h0 : P 0 = false) (hp : p < T.size) (h : P (ch T p) = true) : p < ru P T p ∧ ru P T p ≤ T.size := ⟨ru_lt h0 h, ru_le (Nat.le_of_lt hp)⟩
theorem sgn_ge (T : Array Nat) (p : Nat) : p ≤ sgn T p := by unfold sgn; split <;> omega
theorem wd_of_lt {c : Nat} (h : lt c = true) : wd c = true := lt_wd h

theorem ok6 : PtOk ⟨rx6, 2, r6, some .hint⟩ :=
  ok_if (by decide) (fun T hT p => m6 T hT p) fun T hT p hp h => by
    simp only [Bool.and_eq_true, beq_iff_eq] at h
    have := cend_le hp h.1
    have h3 : p + 2 < T.size := lt_of_ch (P := (· == 43)) (beq_iff_eq.mpr h.2.2) rfl
    exact ⟨this.1, this.2, by show p + 3 ≤ T.size; omega⟩
theorem ok7 : PtOk ⟨rx7, 2, r7, some .com⟩ :=
  ok_if (by decide) (fun T hT p => m7 T hT p) fun T hT p hp h => by
    simp only [Bool.and_eq_true, beq_iff_eq] at h
    have := cend_le hp h.1
    have h3 : p + 1 < T.size := lt_of_ch (P := (· == 45)) (beq_iff_eq.mpr h.2) rfl
    exact ⟨this.1, this.2, by show p + 2 ≤ T.size; omega⟩
theorem ok8 : PtOk ⟨rx8, 1, r8, some .nl⟩ :=
  ok_if (by decide) (fun T hT p => m8 T hT p) fun T hT p hp h => ⟨Nat.lt_succ_self p, hp, hp⟩
theorem ok9 : PtOk ⟨rx9, 0, r9, some .ws⟩ :=
  ok_if (by decide) (fun T hT p => m9 T hT p) fun T hT p hp h => ⟨Nat.lt_succ_self p, hp, hp⟩
theorem ok10 : PtOk ⟨rx10, 0, fun _ _ => .no, some .err⟩ := ok_no (by decide) no10
theorem ok11 : PtOk ⟨rx11, 0, fun _ _ => .no, some .err⟩ := ok_no (by decide) no11
theorem ok12 : PtOk ⟨rx12, 0, r12, some .wild⟩ :=
  ok_if (by decide) (fun T hT p => m12 T hT p) fun T hT p hp h => ⟨Nat.lt_succ_self p, hp, hp⟩
theorem ok13 : PtOk ⟨rx13, 1, fun _ _ => .no, some .err⟩ := ok_no (by decide) no13
theorem ok14 : PtOk ⟨rx14, 1, fun _ _ => .no, some .err⟩ := ok_no (by decide) no14
theorem ok15 : PtOk ⟨rx15, 0, fun _ _ => .no, some .err⟩ := ok_no (by decide) no15
theorem ok16 : PtOk ⟨rx16, 1, fun _ _ => .no, some .err⟩ := ok_no (by decide) no16
theorem ok17 : PtOk ⟨rx17, 0, fun _ _ => .no, some .err⟩ := ok_no (by decide) no17
theorem ok18 : PtOk ⟨rx18, 0, fun _ _ => .no, some .err⟩ := ok_no (by decide) no18
theorem ok19 : PtOk ⟨rx19, 1, r19, some .key⟩ :=
  ok_if (by decide) (fun T hT p => m19 T hT p) fun T hT p hp h => by
    have h2 : p + 1 < T.size := by
      have h := (Bool.and_eq_true_iff.mp h).1
      unfold asin at h
      simp only [Bool.or_eq_true, Bool.and_eq_true] at h
      rcases h with ⟨_, h⟩ | ⟨_, h⟩
      · exact lt_of_ch (P := (· == 110)) h rfl
      · exact lt_of_ch (P := (· == 115)) h rfl
    exact ⟨by omega, h2, h2⟩
theorem ok20 : PtOk ⟨rx20, 1, fun _ _ => .no, some .err⟩ := ok_no (by decide) no20
theorem ok21 : PtOk ⟨rx21, 0, r21, some .name⟩ :=
  ok_if (by decide) (fun T hT p => m21 T hT p) fun T hT p hp h => by
    have := ru_in2 (P := wd) rfl hp (wd_of_lt (Bool.and_eq_true_iff.mp h).1)
    exact ⟨this.1, this.2, hp⟩
theorem ok22 : PtOk ⟨rx22, 0, r22, some .name⟩ :=
  ok_if (by decide) (fun T hT p => m22 T hT p) fun T hT p hp h => by
    have := ru_ge wd T (p + 1)
    have h2 : ru wd T (p + 1) ≤ T.size := ru_le hp
    exact ⟨by omega, h2, hp⟩
theorem ok23 : PtOk ⟨rx23, 0, r23, some .name⟩ :=
  ok_if (by decide) (fun T hT p => m23 T hT p) fun T hT p hp h => by
    have := ru_in2 (P := wd) rfl hp (wd_of_lt (Bool.and_eq_true_iff.mp h).1)
    exact ⟨this.1, this.2, hp⟩
theorem ok24 : PtOk ⟨rx24, 0, fun _ _ => .no, some .err⟩ := ok_no (by decide) no24
theorem ok25 : PtOk ⟨rx25, 1, r25, some .flo⟩ :=
  fun T p hT hp => ⟨(m25 T hT p (Nat.le_of_lt hp)).ma, by show (1 : Nat) ≤ 10; decide, fun e he => by
    have := flt25_le (show flt25 T (sgn T p) = .yes e from he)
    have := sgn_ge T p
    exact ⟨by omega, by omega, by show p + 3 ≤ T.size; omega⟩⟩
theorem ok26 : PtOk ⟨rx26, 2, r26, some .flo⟩ :=
  fun T p hT hp => ⟨(m26 T hT p (Nat.le_of_lt hp)).ma, by show (2 : Nat) ≤ 10; decide, fun e he => by
    have he : (if lt (ch T p) = true then Res.no else flt26 T (sgn T p)) = .yes e := he
    split at he
    · cases he
    · have := flt26_le he (sgn_le T hT (Nat.le_of_lt hp))
      have := sgn_ge T p
      exact ⟨by omega, by omega, by show p + 2 ≤ T.size; omega⟩⟩
theorem ok27 : PtOk ⟨rx27, 0, r27, some .int⟩ :=
  fun T p hT hp => ⟨(m27 T hT p (Nat.le_of_lt hp)).ma, by show (0 : Nat) ≤ 10; decide, fun e he => by
    have he : (if lt (ch T p) = true then Res.no else int27 T (sgn T p)) = .yes e := he
    split at he
    · cases he
    · have := int27_le he (sgn_le T hT (Nat.le_of_lt hp))
      have := sgn_ge T p
      exact ⟨by omega, by omega, by show p + 1 ≤ T.size; omega⟩⟩
theorem ok28 : PtOk ⟨rx28, 1, r28, some .str⟩ :=
  fun T p hT hp => ⟨(m28 T hT p).ma, by show (1 : Nat) ≤ 10; decide, fun e he => by
    have he : (if (ch T p == 39) = true then strU T 16 (p + 1) else Res.no) = .yes e := he
    split at he
    · have := strU_le _ _ _ he
      exact ⟨by omega, by omega, by show p + 2 ≤ T.size; omega⟩
    · cases he⟩
theorem ok29 : PtOk ⟨rx29, 1, fun _ _ => .no, some .err⟩ := ok_no (by decide) no29
theorem ok30 : PtOk ⟨rx30, 1, fun _ _ => .no, some .err⟩ := ok_no (by decide) no30
theorem ok31 : PtOk ⟨rx31, 1, fun _ _ => .no, some .err⟩ := ok_no (by decide) no31
theorem ok32 : PtOk ⟨rx32, 4, fun _ _ => .no, some .err⟩ := ok_no (by decide) no32
theorem ok33 : PtOk ⟨rx33, 1, fun _ _ => .no, some .err⟩ := ok_no (by decide) no33
theorem ok34 : PtOk ⟨rx34, 1, fun _ _ => .no, some .err⟩ := ok_no (by decide) no34
theorem ok35 : PtOk ⟨rx35, 0, fun _ _ => .no, some .err⟩ := ok_no (by decide) no35
theorem ok36 : PtOk ⟨rx36, 3, fun _ _ => .no, some .err⟩ := ok_no (by decide) no36
theorem ok37 : PtOk ⟨rx37, 1, fun _ _ => .no, some .err⟩ := ok_no (by decide) no37
theorem ok38 : PtOk ⟨rx38, 1, fun _ _ => .no, some .err⟩ := ok_no (by decide) no38
theorem ok39 : PtOk ⟨rx39, 0, fun _ _ => .no, some .err⟩ := ok_no (by decide) no39
theorem ok40 : PtOk ⟨rx40, 1, fun _ _ => .no, some .err⟩ := ok_no (by decide) no40
theorem ok41 : PtOk ⟨rx41, 0, fun _ _ => .no, some .err⟩ := ok_no (by decide) no41
theorem ok42 : PtOk ⟨rx42, 0, fun _ _ => .no, some .err⟩ := ok_no (by decide) no42
theorem ok43 : PtOk ⟨rx43, 0, fun _ _ => .no, some .err⟩ := ok_no (by decide) no43
theorem ok44 : PtOk ⟨rx44, 0, fun _ _ => .no, some .err⟩ := ok_no (by decide) no44
theorem ok45 : PtOk ⟨rx45, 0, fun _ _ => .no, some .err⟩ := ok_no (by decide) no45
theorem ok46 : PtOk ⟨rx46, 1, fun _ _ => .no, some .err⟩ := ok_no (by decide) no46
theorem ok47 : PtOk ⟨rx47, 1, fun _ _ => .no, some .err⟩ := ok_no (by decide) no47
theorem ok48 : PtOk ⟨rx48, 2, fun _ _ => .no, some .err⟩ := ok_no (by decide) no48
theorem ok49 : PtOk ⟨rx49, 4, fun _ _ => .no, some .err⟩ := ok_no (by decide) no49
theorem ok50 : PtOk ⟨rx50, 0, r50, none⟩ :=
  ok_if (by decide) (fun T hT p => m50 T hT p) fun T hT p hp h => ⟨(ru_in2 rfl hp h).1, (ru_in2 rfl hp h).2, hp⟩
theorem ok51 : PtOk ⟨rx51, 0, r51, some .pun⟩ :=
  ok_if (by decide) (fun T hT p => m51 T hT p) fun T hT p hp h => ⟨Nat.lt_succ_self p, hp, hp⟩
theorem ok52 : PtOk ⟨rx52, 1, r52, some .op⟩ :=
  ok_if (by decide) (fun T hT p => m52 T hT p) fun T hT p hp h => ⟨Nat.lt_succ_self p, hp, hp⟩
theorem ok53 : PtOk ⟨rx53, 0, r53, some .cmp⟩ :=
  ok_if (by decide) (fun T hT p => m53 T hT p) fun T hT p hp h => ⟨(ru_in2 rfl hp h).1, (ru_in2 rfl hp h).2, hp⟩
theorem ok54 : PtOk ⟨rx54, 0, r54, some .op⟩ :=
  ok_if (by decide) (fun T hT p => m54 T hT p) fun T hT p hp h => ⟨(ru_in2 rfl hp h).1, (ru_in2 rfl hp h).2, hp⟩
theorem pts_ok : ∀ x ∈ pts, PtOk x := by
  unfold pts
  exact (List.forall_mem_cons.mpr ⟨ok6, (List.forall_mem_cons.mpr ⟨ok7, (List.forall_mem_cons.mpr ⟨ok8, (List.forall_mem_cons.mpr ⟨ok9, (List.forall_mem_cons.mpr ⟨ok10, (List.forall_mem_cons.mpr ⟨ok11, (List.forall_mem_cons.mpr ⟨ok12, (List.forall_mem_cons.mpr ⟨ok13, (List.forall_mem_cons.mpr ⟨ok14, (List.forall_mem_cons.mpr ⟨ok15, (List.forall_mem_cons.mpr ⟨ok16, (List.forall_mem_cons.mpr ⟨ok17, (List.forall_mem_cons.mpr ⟨ok18, (List.forall_mem_cons.mpr ⟨ok19, (List.forall_mem_cons.mpr ⟨ok20, (List.forall_mem_cons.mpr ⟨ok21, (List.forall_mem_cons.mpr ⟨ok22, (List.forall_mem_cons.mpr ⟨ok23, (List.forall_mem_cons.mpr ⟨ok24, (List.forall_mem_cons.mpr ⟨ok25, (List.forall_mem_cons.mpr ⟨ok26, (List.forall_mem_cons.mpr ⟨ok27, (List.forall_mem_cons.mpr ⟨ok28, (List.forall_mem_cons.mpr ⟨ok29, (List.forall_mem_cons.mpr ⟨ok30, (List.forall_mem_cons.mpr ⟨ok31, (List.forall_mem_cons.mpr ⟨ok32, (List.forall_mem_cons.mpr ⟨ok33, (List.forall_mem_cons.mpr ⟨ok34, (List.forall_mem_cons.mpr ⟨ok35, (List.forall_mem_cons.mpr ⟨ok36, (List.forall_mem_cons.mpr ⟨ok37, (List.forall_mem_cons.mpr ⟨ok38, (List.forall_mem_cons.mpr ⟨ok39, (List.forall_mem_cons.mpr ⟨ok40, (List.forall_mem_cons.mpr ⟨ok41, (List.forall_mem_cons.mpr ⟨ok42, (List.forall_mem_cons.mpr ⟨ok43, (List.forall_mem_cons.mpr ⟨ok44, (List.forall_mem_cons.mpr ⟨ok45, (List.forall_mem_cons.mpr ⟨ok46, (List.forall_mem_cons.mpr ⟨ok47, (List.forall_mem_cons.mpr ⟨ok48, (List.forall_mem_cons.mpr ⟨ok49, (List.forall_mem_cons.mpr ⟨ok50, (List.forall_mem_cons.mpr ⟨ok51, (List.forall_mem_cons.mpr ⟨ok52, (List.forall_mem_cons.mpr ⟨ok53, (List.forall_mem_cons.mpr ⟨ok54, (fun _ h => nomatch h)⟩)⟩)⟩)⟩)⟩)⟩)⟩)⟩)⟩)⟩)⟩)⟩)⟩)⟩)⟩)⟩)⟩)⟩)⟩)⟩)⟩)⟩)⟩)⟩)⟩)⟩)⟩)⟩)⟩)⟩)⟩)⟩)⟩)⟩)⟩)⟩)⟩)⟩)⟩)⟩)⟩)⟩)⟩)⟩)⟩)⟩)⟩)⟩)⟩)
end Mine
-- T12
set_option maxRecDepth 20000
set_option maxHeartbeats 4000000
namespace Mine
open PySem PySem.Calls PyProof.Rows

/-! ## the tokens of a text -/
theorem firstM_le {T : Array Nat} (hT : Tx T) {p : Nat} (hp : p < T.size) : ∀ l : List Pt, (∀ x ∈ l, PtOk x) → p < (firstM T p l).1 ∧ (firstM T p l).1 ≤ T.size
  | [], _ => ⟨Nat.lt_succ_self p, hp⟩
  | x :: l, h => by
    have ih := firstM_le hT hp l fun y hy => h y (List.mem_cons_of_mem _ hy)
    have hx := (h x List.mem_cons_self T p hT hp).2.2
    unfold firstM
    cases hr : x.r T p with
    | no => exact ih
    | yes e => exact ⟨(hx e hr).1, (hx e hr).2.1⟩
theorem tok_le {T : Array Nat} (hT : Tx T) {p : Nat} (hp : p < T.size) : p < (tokO T p).1 ∧ (tokO T p).1 ≤ T.size := by
  rw [tok_lex hT hp, ← first_lex]
  exact firstM_le hT hp pts pts_ok
def toks (T : Array Nat) : Nat → Nat → List (Nat × Nat × Kd)
  | 0, _ => []
  | n + 1, p => if p < T.size then (p, tokO T p) :: toks T n (tokO T p).1 else []
def duePV (T : Array Nat) (t : Nat × Nat × Kd) : PV := .tup [t.2.2.pv, .str ⟨T.extract t.1 t.2.1⟩]
theorem kd_noL (k : Kd) : k.pv.noL = true := by cases k <;> decide
theorem due_noL (T : Array Nat) (t : Nat × Nat × Kd) : (duePV T t).noL = true := by
  simp [duePV, PV.noL, PV.noLs, kd_noL]
theorem dues_noL (T : Array Nat) : ∀ l : List (Nat × Nat × Kd), PV.noLs (l.map (duePV T)) = true
  | [] => by simp [PV.noLs]
  | t :: l => by simp [PV.noLs, due_noL, dues_noL T l]

theorem look_noL {x : Str} {p : PV} : ∀ {ρ : List (Str × PV)}, (ρ.all fun x => x.2.noL) = true → ρ.lookup x = some p → p.noL = true
  | [], _, e => nomatch e
  | (y, q) :: ρ, h, e => by
    rw [List.all_cons, Bool.and_eq_true] at h
    rw [List.lookup_cons] at e
    cases hb : x == y with
    | true => rw [hb] at e; cases e; exact h.1
    | false => rw [hb] at e; exact look_noL h.2 e
theorem isAll_append {h : Heap} : ∀ {vs : List Value} {ps : List PV} {v : Value} {p : PV}, IsAll h vs ps → Is h v p → IsAll h (vs ++ [v]) (ps ++ [p])
  | _, _, _, _, .nil, i => .cons i .nil
  | _, _, _, _, .cons hv hl, i => .cons hv (isAll_append hl i)

def lawTest : Expr := by run_tac putTest "law"
open Lean Elab Tactic Meta PySem.W in
/-- the body of the first while in a def -/
def putWhile (n : String) : TacticM Unit := withMainContext do
  let cells ← stmtCells
  let some d := cells.find? (fun s => s.isAppOf ``Stmt.FunctionDef && strOf s.getAppArgs[0]! == some n) | throwError "def"
  let some l := d.getAppArgs[2]!.find? (fun x => x.isAppOf ``Stmt.While) | throwError "loop"
  (← getMainGoal).assign l.getAppArgs[1]!
def lawBody : List Stmt := by run_tac putWhile "law"
variable {prog : Program} {w : World} {h₀ : Heap} {d : Nat}
abbrev lawX (prog : Program) (w : World) (h₀ : Heap) (d : Nat) (L f : Addr) (cd : Value) : Fm := ⟨prog, w, h₀, d, "law", lawS, L, f, cd⟩

/-- what holds between the turns -/
def DueInv (X : Fm) (T : Array Nat) (D : Addr) (all : List (Nat × Nat × Kd)) (s0 : Shared) (n : Nat) (s : Shared) : Prop :=
  ∃ (p k : Nat) (done : List (Nat × Nat × Kd)) (vs : List Value), n = T.size - p ∧ p ≤ T.size ∧ T.size < p + k ∧ all = done ++ toks T k p ∧ Ht s0 s ∧ X.Gd [("at", .int p), ("text", .str ⟨T⟩), ("due", .obj (.ref D))] s ∧ PlainL s.heap D vs.toArray ∧ IsAll s.heap vs (done.map (duePV T)) ∧ done.length ≤ p

theorem due_turn (B : Base2 h₀) {T : Array Nat} (hT : Tx T) (hd : 4 ≤ d) {L f D : Addr} {cd : Value} (hD : h₀.objs.size ≤ D) {all : List (Nat × Nat × Kd)} {s0 s : Shared} {n : Nat} {A : Around} (R : Rm d A) {E : Value → Shared → Prop} {Q : Flow → Shared → Prop}
    (I : DueInv (lawX prog w h₀ d L f cd) T D all s0 n s) (hn : n ≠ 0) (h : ∀ s' m, m < n → DueInv (lawX prog w h₀ d L f cd) T D all s0 m s' → Q .next s') :
    wpAny (model prog w) A (execs lawBody (lawX prog w h₀ d L f cd).env) Q E s := by
  obtain ⟨p, k, done, vs, rfl, hp, hk, hall, ht, G, P, ia, hlen⟩ := I
  have hlt : p < T.size := by omega
  obtain ⟨t1, t2⟩ := tok_le hT hlt
  have hl14 := hT.len
  obtain ⟨k, rfl⟩ : ∃ m, k = m + 1 := ⟨k - 1, by omega⟩
  have hDL : D ≠ L := by
    obtain ⟨m, F, _⟩ := Gd.fr G
    obtain ⟨o, n', ho, hc, _, hdt⟩ := P
    obtain ⟨o2, es, ep, ho2, hd2, _⟩ := F.ns
    intro e
    subst e
    rw [ho] at ho2; cases ho2; rw [hdt] at hd2; cases hd2
  unfold lawBody
  -- end, path = _law_token(text, at)
  refine wpAny_execs_cons (Ex1.asgCall2 (X := lawX prog w h₀ d L f cd) (p := .int (tokO T p).1) (q := (tokO T p).2.pv) (Ev.callK (EvArgs.cons (by run_tac ev) (EvArgs.cons (by run_tac ev) EvArgs.nil)) (tok_kn B.toBase hT hlt hd) (by run_tac dk) rfl (by run_tac dk) rfl) (by run_tac dk) (by run_tac dk) rfl rfl rfl A R s _ _ G fun fl s1 u1 G1 => ?_)
  cases fl with
  | brk | cont | ret => exact G1.elim
  | next =>
  have G1 : (lawX prog w h₀ d L f cd).Gd [("path", (tokO T p).2.pv), ("end", .int (tokO T p).1), ("at", .int p), ("text", .str ⟨T⟩), ("due", .obj (.ref D))] s1 := G1
  have P1 := u1.plainL P hDL
  have ia1 := ia.keepT (Gd.keepT_upL G u1) (dues_noL T done)
  -- due.append((path, text[at:end]))
  refine wpAny_execs_cons (wpAny_Expr (wpAny_Call_append rfl rfl rfl rfl (Ev.local (X := lawX prog w h₀ d L f cd) (ρ := [("path", (tokO T p).2.pv), ("end", .int (tokO T p).1), ("at", .int p), ("text", .str ⟨T⟩), ("due", .obj (.ref D))]) (p := .obj (.ref D)) (by run_tac lk) (by run_tac dk) rfl (by run_tac dk) A R s1 _ _ G1 fun v s2 u2 i2 => ?_)))
  cases i2
  have G2 := Gd.up G1 u2
  have P2 := (u2.upL L).plainL P1 hDL
  refine ⟨D, vs.toArray, rfl, P2, ?_⟩
  refine Ev.tuple (X := lawX prog w h₀ d L f cd) (ρ := [("path", (tokO T p).2.pv), ("end", .int (tokO T p).1), ("at", .int p), ("text", .str ⟨T⟩), ("due", .obj (.ref D))]) (ps := [(tokO T p).2.pv, .str ⟨T.extract p (tokO T p).1⟩]) (EvArgs.cons (Ev.local (by run_tac lk) (by run_tac dk) rfl (by run_tac dk)) (EvArgs.cons (Ev.cut (i := p) (j := (tokO T p).1) (by run_tac ev) (by run_tac ev) (by run_tac ev) (by rfl) (by rfl) hl14) EvArgs.nil)) (by run_tac szk) A R s2 _ _ G2 fun y s3 u3 i3 => ?_
  have G3 := Gd.up G2 u3
  have P3 := (u3.upL L).plainL P2 hDL
  have ia3 := (ia1.keep (.of u2.keep)).keep (.of u3.keep)
  have hvl : vs.length = done.length := by rw [ia3.length, List.length_map]
  refine list_append_plainL P3 (fun h' P' hs => ?_) (by rw [List.size_toArray, hvl]; have : sizeLine = 16777216 := sizeLine_eq; omega)
  have kt := keepT_same P3 hs
  have G4 : (lawX prog w h₀ d L f cd).Gd [("path", (tokO T p).2.pv), ("end", .int (tokO T p).1), ("at", .int p), ("text", .str ⟨T⟩), ("due", .obj (.ref D))] { s3 with heap := h' } := by
    refine Gd.sameT G3 P3 hs hD fun x q e => look_noL ?_ e
    simp [PV.noL, kd_noL]
  have ia4 : IsAll h' (vs ++ [y]) ((done ++ [(p, tokO T p)]).map (duePV T)) := by
    rw [List.map_append]
    exact isAll_append (ia3.keepT kt (dues_noL T done)) (i3.keepT kt (due_noL T (p, tokO T p)))
  have P4 : PlainL h' D (vs ++ [y]).toArray := by
    have : vs.toArray.push y = (vs ++ [y]).toArray := by simp
    rw [← this]; exact P'
  -- at = end
  refine (Ex.asg (X := lawX prog w h₀ d L f cd) (p := .int (tokO T p).1) (by run_tac ev) (by run_tac dk) rfl rfl Ex.nil) A R { s3 with heap := h' } _ _ G4 fun fl s5 u5 k5 => ?_
  cases fl with
  | brk | cont | ret => exact k5.elim
  | next =>
  have k5 : (lawX prog w h₀ d L f cd).Gd [("at", .int (tokO T p).1), ("path", (tokO T p).2.pv), ("end", .int (tokO T p).1), ("at", .int p), ("text", .str ⟨T⟩), ("due", .obj (.ref D))] s5 := k5
  refine h s5 (T.size - (tokO T p).1) (by omega) ⟨(tokO T p).1, k, done ++ [(p, tokO T p)], vs ++ [y], rfl, t2, by omega, ?_, ?_, ?_, ?_, ?_, ?_⟩
  · rw [hall]
    show done ++ (if p < T.size then (p, tokO T p) :: toks T k (tokO T p).1 else []) = _
    rw [if_pos hlt, List.append_assoc]; rfl
  · exact (((ht.trans u1.ht).trans u2.ht).trans u3.ht).trans (Ht.trans ⟨h', s3.toks, rfl⟩ u5.ht)
  · exact Gd.weak k5 (Sub.cons (by run_tac lk) (Sub.cons (by run_tac lk) (Sub.cons (by run_tac lk) Sub.nil)))
  · exact u5.plainL P4 hDL
  · exact ia4.keepT (Gd.keepT_upL G4 u5) (dues_noL T _)
  · rw [List.length_append]
    show done.length + 1 ≤ _
    omega
end Mine
-- T13
set_option maxRecDepth 20000
set_option maxHeartbeats 4000000
namespace Mine
open PySem PySem.Calls PyProof.Rows
variable {prog : Program} {w : World} {h₀ : Heap} {d : Nat}
open Lean Elab Tactic Meta PySem.W in
/-- the statements of a def from the i-th to the k-th -/
def putPart (n : String) (i k : Nat) : TacticM Unit := withMainContext do
  let cells ← stmtCells
  let some d := cells.find? (fun s => s.isAppOf ``Stmt.FunctionDef && strOf s.getAppArgs[0]! == some n) | throwError "def"
  let some cs ← cellsD? d.getAppArgs[2]! | throwError "body"
  (← getMainGoal).assign (← mkListLit (mkConst ``Stmt) ((cs.drop i).take (k - i)))
def law35 : List Stmt := by run_tac putPart "law" 3 5

theorem law_due (B : Base2 h₀) {T : Array Nat} (hT : Tx T) (hd : 4 ≤ d) {L f : Addr} {cd : Value} {A : Around} (R : Rm d A) {E : Value → Shared → Prop} {Q : Flow → Shared → Prop} {s : Shared}
    (G : (lawX prog w h₀ d L f cd).Gd [("text", .str ⟨T⟩)] s)
    (h : ∀ s' D vs, Ht s s' → h₀.objs.size ≤ D → (lawX prog w h₀ d L f cd).Gd [("text", .str ⟨T⟩), ("due", .obj (.ref D))] s' → PlainL s'.heap D vs.toArray → IsAll s'.heap vs ((toks T 15 0).map (duePV T)) → Q .next s') :
    wpAny (model prog w) A (execs law35 (lawX prog w h₀ d L f cd).env) Q E s := by
  have hl14 := hT.len
  unfold law35
  -- due, at = ([], 0)
  refine wpAny_execs_cons (Assign_Tuple_swapped (names := ["due", "at"]) (wpAny_Tuple (wpAny_items_cons (wpAny_List (wpAny_items_nil ⟨by decide, wpAny_items_cons (wpAny_Constant_int (wpAny_items_nil ⟨(show 2 ≤ sizeLine by decide), ?_⟩))⟩)))) rfl rfl)
  have hsz : h₀.objs.size ≤ s.heap.objs.size := Gd.size G
  let o1 : Obj := { cls := .type "list", data := .seq ([] : List Value).toArray }
  let s1 : Shared := { s with heap := s.heap.push o1, toks := s.toks + 1 }
  let o2 : Obj := { cls := .type "tuple", data := .seq [.ref s.heap.objs.size, .int 0 s.toks].toArray }
  let s2 : Shared := { s1 with heap := s1.heap.push o2 }
  have u1 : Up s s1 := .push s o1 _
  have u2 : Up s1 s2 := .push s1 o2 s1.toks
  have un := fun (Q : List Value → Shared → Prop) => unpackItems_tuple (prog := prog) (w := w) (A := A) (E := E) (s := s2) (t := s1.heap.objs.size) (items := [.ref s.heap.objs.size, .int 0 s.toks].toArray) (Q := Q) R.hand ⟨o2, Heap.get?_push_size _ rfl, rfl, 0, rfl⟩
  refine un _ fun h' he => ?_
  have u3 := Up.ext he
  have u := (u1.trans u2).trans u3
  have P1 : PlainL s1.heap s.heap.objs.size ([] : List Value).toArray := ⟨o1, 0, Heap.get?_push_size _ rfl, rfl, rfl, rfl⟩
  have P3 : PlainL h' s.heap.objs.size ([] : List Value).toArray := (P1.keeps u2.keep).keeps u3.keep
  have G3 : (lawX prog w h₀ d L f cd).Gd [("text", .str ⟨T⟩)] { s2 with heap := h' } := Gd.up G u
  have hDL : s.heap.objs.size ≠ L := by
    obtain ⟨m, F, _⟩ := Gd.fr G
    exact Ne.symm (Nat.ne_of_lt F.ns.lt)
  refine assignInOrder_cons (bindName_ (storeB (p := .int (0 : Nat)) G3 (.int 0 _) (by run_tac dk) rfl fun s4 u4 k4 G4 => ?_))
  refine assignInOrder_cons (bindName_ (storeB (p := .obj (.ref s.heap.objs.size)) G4 (.obj _) (by run_tac dk) rfl fun s5 u5 k5 G5 => assignInOrder_nil ?_))
  have P5 := u5.plainL (u4.plainL P3 hDL) hDL
  have G5 : (lawX prog w h₀ d L f cd).Gd [("due", .obj (.ref s.heap.objs.size)), ("at", .int (0 : Nat)), ("text", .str ⟨T⟩)] s5 := G5
  -- the loop
  refine wpAny_execs_cons (wpAny_While (codeAny_whileLoop (DueInv (lawX prog w h₀ d L f cd) T s.heap.objs.size (toks T 15 0) s) (fun n s6 I => ?_) (T.size - 0) ⟨0, 15, [], [], rfl, Nat.zero_le _, by omega, rfl, (u.ht.trans u4.ht).trans u5.ht, Gd.weak G5 (Sub.cons (by run_tac lk) (Sub.cons (by run_tac lk) (Sub.cons (by run_tac lk) Sub.nil))), P5, .nil, Nat.le_refl _⟩))
  obtain ⟨p, k, done, vs, hn, hp, hk, hall, ht, G6, P6, ia, hlen⟩ := id I
  have test : ∀ pa pb pc pd pe, Ts (lawX prog w h₀ d L f cd) [("at", .int p), ("text", .str ⟨T⟩), ("due", .obj (.ref s.heap.objs.size))] (.Compare (.Name "at" pa) [.Lt] [.Call (.Name "len" pb) [.Name "text" pc] [] pd] pe) (decide (p < T.size)) := fun _ _ _ _ _ =>
    Ts.ltLen (i := p) (by run_tac ev) (by run_tac ev) (by rfl) B.len hl14 rfl (by run_tac dk) rfl
  refine test _ _ _ _ _ A R s6 _ _ G6 fun s7 u7 => ?_
  have I7 : DueInv (lawX prog w h₀ d L f cd) T s.heap.objs.size (toks T 15 0) s n s7 :=
    ⟨p, k, done, vs, hn, hp, hk, hall, ht.trans u7.ht, Gd.up G6 u7, (u7.upL L).plainL P6 hDL, ia.keep (.of u7.keep), hlen⟩
  by_cases hlt : p < T.size
  · rw [if_pos (decide_eq_true hlt)]
    exact due_turn B hT hd hsz R I7 (by omega) fun s' m hm I' => ⟨m, hm, I'⟩
  · rw [if_neg (by rw [decide_eq_false hlt]; exact Bool.false_ne_true)]
    refine wpAny_execs_nil (wpAny_execs_nil ?_)
    obtain ⟨p, k, done, vs, hn', hp', hk', hall', ht', G7, P7, ia7, hlen'⟩ := I7
    have hpn : p = T.size := by omega
    have e : toks T 15 0 = done := by
      rw [hall']
      cases k with
      | zero => simp [toks]
      | succ k => rw [toks, if_neg (by omega), List.append_nil]
    exact h s7 _ vs ht' hsz (Gd.weak G7 (Sub.cons (by run_tac lk) (Sub.cons (by run_tac lk) Sub.nil))) P7 (by rw [e]; exact ia7)
end Mine
-- J8
set_option maxRecDepth 100000
set_option maxHeartbeats 4000000
namespace Mine
open PySem PySem.Calls PyProof.Rows PySem.W

/-! ## frames and what changes beside them -/
def noSeq (h : Heap) (b : Addr) : Prop := ∀ c vs n, h.get? b ≠ some { cls := c, data := .seq vs n }
theorem keepS_kx {h h' : Heap} {S : List Addr} (k : Kx S h h') (hS : ∀ b ∈ S, noSeq h b) : KeepS h h' := by
  intro a c vs n e
  by_cases ha : a ∈ S
  · exact absurd e (hS a ha _ _ _)
  · exact k a _ ha e
theorem Gd.kx {h₀ : Heap} {L : Addr} {ρ : List (Str × PV)} {s : Shared} {S : List Addr} {h' : Heap} {tk : Nat} (G : Gd h₀ L ρ s) (k : Kx S s.heap h') (hS : ∀ b ∈ S, noSeq s.heap b) (h0 : ∀ b ∈ S, h₀.get? b = none) (hL : L ∉ S) : Gd h₀ L ρ { s with heap := h', toks := tk } := by
  obtain ⟨m, F, hm⟩ := G
  have ks := keepS_kx k hS
  obtain ⟨oL, es, ep, ho, r⟩ := F.ns
  refine ⟨m, ⟨⟨oL, es, ep, k _ _ hL ho, r⟩, fun b o e => k b o (fun hb => by rw [h0 b hb] at e; cases e) (F.keep b o e), F.above⟩, fun x p e => ?_⟩
  obtain ⟨v, h1, h2⟩ := hm x p e
  exact ⟨v, h1, h2.keep ks⟩
/-- the base is told anew: one of its objects has changed -/
theorem Gd.rebase {h₀ : Heap} {L : Addr} {ρ : List (Str × PV)} {s : Shared} {h' : Heap} {tk : Nat} {x : Addr} {o o' : Obj} (G : Gd h₀ L ρ s) (hx : h₀.get? x = some o) (hs : Heap.SameBut x s.heap h') (hx' : h'.get? x = some o') (hn : noSeq s.heap x) (hf : o'.isFreed = false) :
    Gd (h₀.update x fun _ => o') L ρ { s with heap := h', toks := tk } := by
  obtain ⟨m, F, hm⟩ := G
  have hLx : L ≠ x := Nat.ne_of_gt (Nat.lt_of_lt_of_le (Heap.lt_size hx) F.above)
  have ks : KeepS s.heap h' := keepS_kx (Kx.of_same hs (.head [])) fun b hb => by rw [List.mem_singleton.mp hb]; exact hn
  refine ⟨m, ⟨F.ns.sameBut hs hLx, fun b o₂ e => ?_, ?_⟩, fun y p e => ?_⟩
  · by_cases hb : b = x
    · subst hb
      rw [Heap.get?_update_self _ hx hf] at e
      cases e; exact hx'
    · rw [Heap.get?_update_other _ _ (Ne.symm hb)] at e
      exact (hs.2 b hb).trans (F.keep b o₂ e)
  · rw [(Heap.SameBut.update h₀ x fun _ => o').1]; exact F.above
  · obtain ⟨v, h1, h2⟩ := hm y p e
    exact ⟨v, h1, h2.keep ks⟩

/-! ## a call of a def of the text, its frame in hand -/
structure FnAt (h : Heap) (f : Addr) (name qual : Str) (params : Arguments) (body : List Stmt) (scope : Scope) (dV kV cd : Value) : Prop where
  obj : ∃ o doc pm an ct, h.get? f = some o ∧ o.cls = .type "function" ∧ o.data = .func (fnOf name qual params body scope dV kV doc pm an cd ct)
  code : h.CodeRec cd qual
theorem FnAt.keeps {h h' : Heap} {f : Addr} {name qual : Str} {params : Arguments} {body : List Stmt} {scope : Scope} {dV kV cd : Value} (F : FnAt h f name qual params body scope dV kV cd) (k : ∀ b o, h.get? b = some o → h'.get? b = some o) : FnAt h' f name qual params body scope dV kV cd :=
  ⟨let ⟨o, doc, pm, an, ct, a, r⟩ := F.obj; ⟨o, doc, pm, an, ct, k _ _ a, r⟩, F.code.keeps k⟩
section
variable {prog : Program} {w : World} {A : Around} {E : Value → Shared → Prop} {s : Shared}
theorem call_fn {f : Addr} {name qual : Str} {params : Arguments} {body : List Stmt} {scope : Scope} {dV kV cd : Value} {args : Args} {binds : List (Str × Value)} {R : Result → Shared → Prop} (F : FnAt s.heap f name qual params body scope dV kV cd) (hlim : s.heap.NoLimit) (hroom : A.depth < recursionLimit)
    (hbind : ∀ doc pm an ct, BindsTo s (fnOf name qual params body scope dV kV doc pm an cd ct) args binds) (hloc : ∀ y ∈ binds, scope.names.lookup y.1 = some .local)
    (h : ∀ h₁, h₁.Ns s.heap.objs.size (fun x => binds.reverse.lookup x) → (∀ b o, s.heap.get? b = some o → h₁.get? b = some o) →
      wpAny (model prog w) (A.deeper (envOf qual scope s.heap.objs.size f cd)) (execs body (envOf qual scope s.heap.objs.size f cd))
        (fun fl s' => R (.ok (.ret (match fl with | .ret v => v | _ => .none))) s')
        (fun e s' => wpAny (model prog w) (A.deeper (envOf qual scope s.heap.objs.size f cd)) (leaving (envOf qual scope s.heap.objs.size f cd) e) (fun _ s'' => R (.error e) s'') NoE s')
        { s with heap := h₁, toks := s.toks + binds.length })
    (hcell : ∀ x ∈ scope.names, x.2 ≠ .cell) (hco : scope.isCoroutine = false := by rfl) (hgen : scope.isGenerator = false := by rfl) (hk : scope.kind = .function := by rfl) :
    codeAny (model prog w) A (.call (.ref f) args) R s := by
  obtain ⟨o, doc, pm, an, ct, ho, _, hd⟩ := F.obj
  refine codeAny_call_def (fd := fnOf name qual params body scope dV kV doc pm an cd ct) (body := body) (binds := binds) hroom ho hd hlim F.code rfl (hbind doc pm an ct) hcell hloc (fun h₁ hns hk₁ => ?_) hco hgen hk
  exact wpAny_mono (h h₁ hns hk₁) (fun _ _ x => x) fun e s' x => wpAny_mono x (fun _ _ y => y) fun _ _ y => y.elim
end

/-! ## fields and slots of an object of the base -/
variable {X : Fm} {ρ : List (Str × PV)} {e : Expr} {q : PV} {pos : Pos} {K : Frag} {x C dx p : Addr} {f : Nat → Option Value} {i : Nat} {v : Value} {nm : Str}
theorem Ev.slot (hK : K.In X.h₀) (P : PlainCls K C) (S : SlotOk K C p i nm) (I : SlAt X.h₀ x C dx f) (hv : f i = some v) (hh : handedIn v = true) (hq : ∀ h, Is h v q) (he : Ev X ρ e (.obj (.ref x)))
    (hn : ∀ A E s (Q : Value → Shared → Prop), wpAny (model X.prog X.w) A (eval e X.env) (fun o s₁ => wpAny (model X.prog X.w) A (getAttr o nm true) Q E s₁) E s → wpAny (model X.prog X.w) A (eval (.Attribute e nm pos) X.env) Q E s) : Ev X ρ (.Attribute e nm pos) q := fun A R s E Q G h => by
  refine hn _ _ _ _ (he A R s _ _ G fun v' s1 u1 i1 => ?_)
  cases i1
  have G1 : X.Gd ρ s1 := Gd.up G u1
  have k : ∀ b o, X.h₀.get? b = some o → s1.heap.get? b = some o := Gd.base G1
  exact sl_read (hK.keeps k) P S (I.keep (S := []) (Kx.of_keep k) (by simp) (by simp)) hv hh (h v _ (u1.trans (.tok _ _)) (hq _))
end Mine
-- N1
set_option maxRecDepth 100000
set_option maxHeartbeats 4000000
namespace Mine
open PySem PySem.Calls PyProof.Rows PySem.W

/-! ## islice's __next__ -/
def nxtA : Arguments := by run_tac putDef "islice" "__next__" 1
def nxtB : List Stmt := by run_tac putDef "islice" "__next__" 2
def nxtS : Scope := by run_tac putDef "islice" "__next__" 6

/-- where the class islice and its parts lie -/
structure Isl where
  (C fI fT fN pi pn ps pt pc : Addr)
  (ii jn js jt jc : Nat)
structure IslOk (K : Frag) (J : Isl) : Prop where
  cls : PlainCls K J.C
  oi : SlotOk K J.C J.pi J.ii "_it"
  on : SlotOk K J.C J.pn J.jn "_next"
  os : SlotOk K J.C J.ps J.js "_stop"
  ot : SlotOk K J.C J.pt J.jt "_step"
  oc : SlotOk K J.C J.pc J.jc "_cnt"
  nd : [J.ii, J.jn, J.js, J.jt, J.jc].Nodup
structure IslSt (J : Isl) (f : Nat → Option Value) (e : Addr) (n k : Nat) : Prop where
  it : f J.ii = some (.ref e)
  next : ∃ t, f J.jn = some (.int k t)
  stop : ∃ t, f J.js = some (.int n t)
  step : ∃ t, f J.jt = some (.int 1 t)
  cnt : ∃ t, f J.jc = some (.int k t)

section
variable {X : Fm} {ρ : List (Str × PV)} {e : Expr} {p : PV} {pos : Pos}
theorem Ev.neg {i : Int} (h : Ev X ρ e (.int i)) : Ev X ρ (.UnaryOp .USub e pos) (.int (-i)) := fun A R s E Q G k =>
  wpAny_UnaryOp (h A R s _ _ G fun v s1 u1 i1 => by
    cases i1
    exact P.neg_int (k _ _ (u1.trans (.tok _ _)) (.int _ _)))
theorem Cm.eqi {prog : Program} {w : World} {a b : Int} : Cm prog w .Eq (.int a) (.int b) (a == b) := fun A s E Q v v' _ h1 h2 h => by cases h1; cases h2; exact P.eq_int (h _ (.refl s))
theorem Cm.nei {prog : Program} {w : World} {a b : Int} : Cm prog w .NotEq (.int a) (.int b) (a != b) := fun A s E Q v v' _ h1 h2 h => by cases h1; cases h2; exact P.ne_int (h _ (.refl s))
theorem Ex1.while0 {test : Expr} {body : List Stmt} (h : Ts X ρ test false) : Ex1 X ρ (.While test body [] pos) (.next ρ) :=
  Ex1.while (wh_inv (fun _ ρ' => ρ' = ρ) _ (fun n ρ' e => by subst e; exact .inl ⟨h, Ex.nil⟩) 0 rfl)
end
theorem GlobalIs.keeps {h h' : Heap} {x : Str} {v : Value} (g : GlobalIs h x v) (k : ∀ b o, h.get? b = some o → h'.get? b = some o) : GlobalIs h' x v := by
  obtain ⟨mg, hg, g⟩ := g
  exact ⟨mg, hg.keeps k, g.imp id fun ⟨a, mb, hb, c⟩ => ⟨a, mb, hb.keeps k, c⟩⟩

section
variable {prog : Program} {w : World} {A : Around} {E : Value → Shared → Prop} {s : Shared}
theorem en_callNext {e it : Addr} {x : Str} {t : Tok} {i c : Nat} {Q : Value → Shared → Prop} (X : EnAt s.heap e it x t i) (hx : x.cps[i]? = some c)
    (hQ : ∀ h' a, EnAt h' e it x t (i + 1) → Kx [e, it] s.heap h' → s.heap.objs.size ≤ h'.objs.size → Q (.ref a) { s with heap := h', toks := s.toks + 2 }) : wpAny (model prog w) A (call (.builtin "next") [.ref e]) Q E s := by
  have hT : s.TypeIs (.ref e) "enumerate" := let ⟨_, _, _, y, _⟩ := X.rcd; ⟨_, y, rfl⟩
  refine call_function_entry (by decide +kernel) (by decide +kernel) kdk_entry_next (kdk_args_next _) ?_
  unfold Builtin.«next»
  refine wpAny_bind (m := someArgs "next" 1 2 _) (wpAny_of_eq (a := [Value.ref e]) (by first | rfl | kernel_rfl) ?_)
  dsimp only
  refine wpAny_bind (wpAny_specialOf (name := Str.ofString "__next__") hT PySem.F.slot_enumerate_next.lookup ?_)
  refine wpAny_ite_split (fun hab => absurd hab (by decide)) (fun _ => ?_)
  refine wpAny_bind (wpAny_callSpecial?_slot (name := Str.ofString "__next__") hT PySem.F.slot_enumerate_next
    (wpAny_call_entry PySem.F.slot_enumerate_next hT PySem.F.entry_enumerate_next
      (en_next X hx fun h' a tk tk' p1 p2 p3 p4 p5 => wpAny_pure ⟨_, rfl, hQ h' a p1 p4 p5⟩) (PySem.F.args_enumerate_next_1 _)))
end
end Mine
-- N2
set_option maxRecDepth 100000
set_option maxHeartbeats 4000000
namespace Mine
open PySem PySem.Calls PyProof.Rows PySem.W

/-- what the base tells of the names that islice's body asks for -/
structure IslBase (h₀ : Heap) (K : Frag) (J : Isl) : Prop where
  inn : K.In h₀
  ok : IslOk K J
  lim : h₀.NoLimit
  next : GlobalIs h₀ "next" (.builtin "next")
  stop : GlobalIs h₀ "StopIteration" (.type "StopIteration")
  base : GlobalIs h₀ "BaseException" (.type "BaseException")
  nxt : ∃ cd, FnAt h₀ J.fN "__next__" "islice.__next__" nxtA nxtB nxtS .none .none cd

theorem ht_of (s : Shared) (h' : Heap) (tk : Nat) : Ht s { s with heap := h', toks := tk } := ⟨h', tk, rfl⟩
theorem Kx.keeps0 {h₀ h h' : Heap} {S : List Addr} (k : Kx S h h') (k0 : ∀ b o, h₀.get? b = some o → h.get? b = some o) (hS : ∀ b ∈ S, h₀.get? b = none) : ∀ b o, h₀.get? b = some o → h'.get? b = some o := fun b o e =>
  k b o (fun m => by rw [hS b m] at e; cases e) (k0 b o e)
theorem slAt_noSeq {h : Heap} {x C dx : Addr} {f : Nat → Option Value} (I : SlAt h x C dx f) : noSeq h x := fun c vs n e => by
  obtain ⟨sl, a, _⟩ := I.at_
  rw [a] at e; cases e
theorem enRec_noSeq {h : Heap} {e it : Addr} {i : Int} (I : EnRec h e it i) : noSeq h e := fun c vs n q => by
  obtain ⟨_, _, _, a, _⟩ := I
  rw [a] at q; cases q
theorem enItr_noSeq {h : Heap} {e it : Addr} {x : Str} {t : Tok} {i : Nat} (I : EnAt h e it x t i) : noSeq h it := fun c vs n q => by
  obtain ⟨o, ho, hc, hd⟩ := I.itr
  rw [ho] at q; cases q; cases hd

theorem sl_rebase {X : Fm} {ρ : List (Str × PV)} {s : Shared} {C x dx : Addr} {f f' : Nat → Option Value} {h' : Heap} {tk : Nat} {h₀ : Heap} (G : X.Gd ρ s) (IB : SlAt X.h₀ x C dx f) (I' : SlAt h' x C dx f') (hs : Heap.SameBut x s.heap h') (hn : noSeq s.heap x)
    (k0 : ∀ b o, h₀.get? b = some o → X.h₀.get? b = some o) (hx : h₀.get? x = none) :
    ∃ B', Fm.Gd { X with h₀ := B' } ρ { s with heap := h', toks := tk } ∧ SlAt B' x C dx f' ∧ (∀ b o, h₀.get? b = some o → B'.get? b = some o) ∧ (∀ b, b ≠ x → B'.get? b = X.h₀.get? b) := by
  obtain ⟨⟨sl, a, _⟩, hd, hne⟩ := IB
  obtain ⟨⟨sl', a', b'⟩, hd', _⟩ := I'
  refine ⟨X.h₀.update x fun _ => slObj C dx sl', Gd.rebase G a hs a' hn rfl, ⟨⟨sl', Heap.get?_update_self _ a rfl, b'⟩, (Heap.get?_update_other _ _ (Ne.symm hne)).trans hd, hne⟩, fun b o q => (Heap.get?_update_other _ _ fun z => ?_).trans (k0 b o q), fun b hb => Heap.get?_update_other _ _ (Ne.symm hb)⟩
  rw [← z, hx] at q; cases q
theorem upL_all {L : Addr} {s s' : Shared} (u : UpL L s s') {h : Heap} (hk : ∀ b o, h.get? b = some o → s.heap.get? b = some o) (hL : h.objs.size ≤ L) : ∃ h' tk, s' = { s with heap := h', toks := tk } ∧ ∀ b o, h.get? b = some o → h'.get? b = some o := by
  obtain ⟨h', tk, rfl, k⟩ := u
  exact ⟨h', tk, rfl, fun b o q => k b o (Nat.ne_of_lt (Nat.lt_of_lt_of_le (Heap.lt_size q) hL)) (hk b o q)⟩
theorem name_base {X : Fm} {x : Str} {v : Value} {pos : Pos} {A : Around} {s : Shared} {E : Value → Shared → Prop} {Q : Value → Shared → Prop} {M : Model} {h₀ : Heap} (g : GlobalIs h₀ x v) (k : ∀ b o, h₀.get? b = some o → s.heap.get? b = some o) (hx : X.scope.names.lookup x = some .globalImplicit) (hk : X.scope.kind = .function)
    (hd : (x == ("__debug__" : Str)) = false) (h : Q v s) : wpAny M A (eval (.Name x pos) X.env) Q E s := by
  obtain ⟨mg, hg, g⟩ := g
  rcases g with g | ⟨g, mb, hb, g2⟩
  · exact Name_function_global hk hx (loadGlobal_global (env := X.env) (hg.keeps k) g h) hd
  · exact Name_function_global hk hx (loadGlobal_builtin (env := X.env) (hg.keeps k) g (hb.keeps k) g2 h) hd
theorem name_ns {X : Fm} {x : Str} {v : Value} {pos : Pos} {A : Around} {s : Shared} {E : Value → Shared → Prop} {Q : Value → Shared → Prop} {M : Model} {m : Str → Option Value} (hn : s.heap.Ns X.L m) (hv : m x = some v) (hl : X.scope.names.lookup x = some .local) (hk : X.scope.kind = .function)
    (hd : (x == ("__debug__" : Str)) = false) (h : Q v s) : wpAny M A (eval (.Name x pos) X.env) Q E s := wpAny_Name (wpAny_loadName_local hk hl hn hv h) hd
theorem FrOk.keeps {h h' : Heap} {l : List Env} (F : FrOk h l) (k : ∀ b o, h.get? b = some o → h'.get? b = some o) : FrOk h' l := F.keep fun _ _ _ n => n.keeps k
/-- self.nm += value -/
theorem aug_slot {X : Fm} {ρ : List (Str × PV)} {s : Shared} {A : Around} {E : Value → Shared → Prop} {Q : Flow → Shared → Prop} {h₀ : Heap} {K : Frag} {x C dx p : Addr} {f : Nat → Option Value} {i : Nat} {nm : Str} {value : Expr} {a b : Int} {ta : Tok} {p1 p2 p3 : Pos}
    (hK : K.In h₀) (k0 : ∀ b o, h₀.get? b = some o → X.h₀.get? b = some o) (hx0 : h₀.get? x = none) (P : PlainCls K C) (S : SlotOk K C p i nm) (IB : SlAt X.h₀ x C dx f) (hv : f i = some (.int a ta)) (hval : Ev X ρ value (.int b))
    (hself : Ev X ρ (.Name "self" p1) (.obj (.ref x))) (R : Rm X.d A) (G : X.Gd ρ s)
    (hQ : ∀ B' h' tk t', Fm.Gd { X with h₀ := B' } ρ { s with heap := h', toks := tk } → SlAt B' x C dx (fun j => if j = i then some (.int (a + b) t') else f j) → (∀ b o, h₀.get? b = some o → B'.get? b = some o) → Kx [x] s.heap h' →
      SlAt h' x C dx (fun j => if j = i then some (.int (a + b) t') else f j) → Q .next { s with heap := h', toks := tk }) :
    wpAny (model X.prog X.w) A (exec (.AugAssign (.Attribute (.Name "self" p1) nm p2) .Add value p3) X.env) Q E s := by
  refine wpAny_AugAssign_AttributeAny (hself A R s _ _ G fun v s1 u1 i1 => ?_)
  cases i1
  have G1 := Gd.up G u1
  have kB : ∀ b o, X.h₀.get? b = some o → s1.heap.get? b = some o := Gd.base G1
  have I1 : SlAt s1.heap x C dx f := IB.keep (S := []) (Kx.of_keep kB) (by simp) (by simp)
  refine sl_read (hK.keeps fun b o q => kB b o (k0 b o q)) P S I1 hv rfl ?_
  have u2 : Up s1 { s1 with toks := s1.toks + 1 } := .tok _ _
  refine hval A R _ _ _ (Gd.up G1 u2) fun v s3 u3 i3 => ?_
  cases i3
  have G3 := Gd.up (Gd.up G1 u2) u3
  refine AutoIntOps.iadd_0 ?_
  have k3 : ∀ b o, X.h₀.get? b = some o → s3.heap.get? b = some o := Gd.base G3
  have I3 : SlAt s3.heap x C dx f := IB.keep (S := []) (Kx.of_keep k3) (by simp) (by simp)
  refine sl_write (s := { s3 with toks := s3.toks + 1 }) (hK.keeps fun b o q => k3 b o (k0 b o q)) P S I3 fun h' I' hs' => ?_
  obtain ⟨B', g', IB', k', _⟩ := sl_rebase (tk := s3.toks + 1 + 1) (Gd.up G3 (.tok s3 (s3.toks + 1))) IB I' hs' (slAt_noSeq I3) k0 hx0
  have u := (u1.trans u2).trans u3
  obtain ⟨hu, tku, eu, ku⟩ := u
  have e' : ({ s3 with heap := h', toks := s3.toks + 1 + 1 } : Shared) = { s with heap := h', toks := s3.toks + 1 + 1 } := by rw [eu]
  show Q .next { s3 with heap := h', toks := s3.toks + 1 + 1 }
  rw [e']
  refine hQ B' h' _ s3.toks (by rw [← e']; exact g') IB' k' (fun b o nb q => (Kx.of_same hs' (.head [])) b o nb ?_) I'
  show s3.heap.get? b = some o
  rw [eu]; exact ku b o q
abbrev nxtX (prog : Program) (w : World) (B : Heap) (d : Nat) (L f : Addr) (cd : Value) : Fm := ⟨prog, w, B, d, "islice.__next__", nxtS, L, f, cd⟩
variable {prog : Program} {w : World} {A : Around} {E : Value → Shared → Prop} {Q : Value → Shared → Prop} {s : Shared} {h₀ : Heap} {K : Frag} {J : Isl} {outer : List Env} {d : Nat} {e it x dx : Addr} {T : Str} {t : Tok} {i n k : Nat} {f : Nat → Option Value}
theorem nxt_walk (B₀ : IslBase h₀ K J) (k0 : ∀ b o, h₀.get? b = some o → s.heap.get? b = some o) (hA : A.frames = some outer) (hF : FrOk s.heap outer) (R : Rm (d + 1) A)
    (En : EnAt s.heap e it T t i) (I : SlAt s.heap x J.C dx f) (St : IslSt J f e n k) (hk : k ≤ n) (hc : k < n → ∃ c, T.cps[i]? = some c)
    (d1 : ∀ b ∈ [e, it, x, dx], b ∉ fras outer ∧ h₀.get? b = none) (d0 : ∀ b ∈ fras outer, h₀.get? b = none) (d2 : x ≠ e ∧ x ≠ it ∧ dx ≠ e ∧ dx ≠ it)
    (hQ : k < n → ∀ v h' tk f', Kx [e, it, x] s.heap h' → EnAt h' e it T t (i + 1) → SlAt h' x J.C dx f' → IslSt J f' e n (k + 1) → Q v { s with heap := h', toks := tk })
    (hE : k = n → ∀ ex h' tk, Kx (x :: fras outer) s.heap h' → (∀ L' m, L' ∈ fras outer → s.heap.Ns L' m → h'.Ns L' m) → (∃ o, h'.get? ex = some o ∧ o.cls = .type "StopIteration") → E (.ref ex) { s with heap := h', toks := tk }) :
    wpAny (model prog w) A (call (.ref J.fN) [.ref x]) Q E s := by
  obtain ⟨cd, FN⟩ := B₀.nxt
  obtain ⟨oi, on, os, ot, oc⟩ := And.intro B₀.ok.oi (And.intro B₀.ok.on (And.intro B₀.ok.os (And.intro B₀.ok.ot B₀.ok.oc)))
  obtain ⟨nd1, nd2, nd3, nd4, nd5, nd6, nd7⟩ : J.ii ≠ J.jn ∧ J.ii ≠ J.jc ∧ J.jn ≠ J.js ∧ J.jn ≠ J.jt ∧ J.jn ≠ J.jc ∧ J.js ≠ J.jc ∧ J.jt ≠ J.jc := by
    have := B₀.ok.nd
    simp only [List.nodup_cons, List.mem_cons, List.not_mem_nil, or_false, not_or] at this
    obtain ⟨⟨a1, a2, a3, a4⟩, ⟨b1, b2, b3⟩, ⟨c1, c2⟩, e1, _⟩ := this
    exact ⟨a1, a4, b1, b2, b3, c2, e1⟩
  refine wpAny_call (call_fn (binds := [("self", .ref x)]) (FN.keeps k0) (B₀.lim.keeps k0) (by have := R.depth; omega) (fun doc pm an ct => BindsTo.of_eq (by rfl)) (fun y hy => by rw [List.mem_singleton.mp hy]; run_tac dk) (fun h₁ hns hk₁ => ?_) (by decide +kernel))
  obtain ⟨L, hL⟩ : ∃ L, L = s.heap.objs.size := ⟨_, rfl⟩
  obtain ⟨B, hBe⟩ : ∃ B, B = hideAll s.heap [e, it] := ⟨_, rfl⟩
  obtain ⟨s1, hs1⟩ : ∃ s1 : Shared, s1 = { s with heap := h₁, toks := s.toks + 1 } := ⟨_, rfl⟩
  have RA := R.deeper (envOf "islice.__next__" nxtS L J.fN cd)
  have hB : ∀ b o, B.get? b = some o → s.heap.get? b = some o := fun b o q => of_hideAll _ (hBe ▸ q)
  have hkB : ∀ {h' : Heap}, (∀ b o, B.get? b = some o → h'.get? b = some o) → Kx [e, it] s.heap h' := fun kk b o nn q => kk b o (hBe ▸ hideAll_get _ q nn)
  have k0B : ∀ b o, h₀.get? b = some o → B.get? b = some o := fun b o q => hBe ▸ hideAll_get _ (k0 b o q) (fun m => by
    have := (d1 b (by rcases List.mem_cons.mp m with rfl | m; exact .head _; rw [List.mem_singleton.mp m]; exact .tail _ (.head _))).2
    rw [this] at q; cases q)
  have KB : K.In B := B₀.inn.keeps k0B
  have IB : SlAt B x J.C dx f := ⟨let ⟨sl, a, b⟩ := I.at_; ⟨sl, hBe ▸ hideAll_get _ a (by simp [d2.1, d2.2.1]), b⟩, hBe ▸ hideAll_get _ I.dct (by simp [d2.2.2.1, d2.2.2.2]), I.ne⟩
  have gself : (nxtX prog w B d L J.fN cd).Gd [("self", .obj (.ref x))] s1 := by
    subst hs1 hL hBe
    refine ⟨_, ⟨hns, fun b o q => hk₁ b o (hB b o q), Nat.le_of_eq (hideAll_size _ _)⟩, fun y p q => ?_⟩
    rw [List.lookup_cons] at q
    cases hy : y == ("self" : Str) with
    | true =>
      rw [hy] at q; cases q
      have := eq_of_beq hy
      subst this
      exact ⟨.ref x, by simp, .obj _⟩
    | false => rw [hy] at q; cases q
  have gN := B₀.next.keeps k0B
  have gS := B₀.stop.keeps k0B
  have gB := B₀.base.keeps k0B
  obtain ⟨tn, hjn⟩ := St.next
  obtain ⟨ts, hjs⟩ := St.stop
  obtain ⟨tt, hjt⟩ := St.step
  obtain ⟨tc, hjc⟩ := St.cnt
  have an : ∀ {X : Fm} (n' : Str) (np : Pos) (nm : Str) (ap : Pos) A E s (Q : Value → Shared → Prop), wpAny (model X.prog X.w) A (eval (.Name n' np) X.env) (fun o s₁ => wpAny (model X.prog X.w) A (getAttr o nm true) Q E s₁) E s → wpAny (model X.prog X.w) A (eval (.Attribute (.Name n' np) nm ap) X.env) Q E s :=
    fun n' np nm ap A E s Q h => Attribute_Name_ h
  rw [← hL]
  show wpAny (model prog w) (A.deeper (envOf "islice.__next__" nxtS L J.fN cd)) (execs nxtB (envOf "islice.__next__" nxtS L J.fN cd)) (fun fl s' => Q (match fl with | .ret v => v | _ => .none) s')
    (fun ex s' => wpAny (model prog w) (A.deeper (envOf "islice.__next__" nxtS L J.fN cd)) (leaving (envOf "islice.__next__" nxtS L J.fN cd) ex) (fun _ s'' => E ex s'') NoE s') { s with heap := h₁, toks := s.toks + 1 }
  rw [← hs1]
  unfold nxtB
  -- it = self._it
  refine wpAny_execs_cons (Ex1.assign (X := nxtX prog w B d L J.fN cd) (p := .obj (.ref e)) (Ev.slot KB B₀.ok.cls oi IB St.it rfl (fun _ => .obj _) (by run_tac ev) (an _ _ _ _)) (by run_tac dk) rfl rfl _ RA s1 _ _ gself fun fl s2 u2 g2 => ?_)
  cases fl with
  | brk | cont | ret => exact g2.elim
  | next =>
  -- if it is None
  refine wpAny_execs_cons (Ex1.ite (X := nxtX prog w B d L J.fN cd) (b := false) (Ts.cmp (p := .obj (.ref e)) (q := .none) (by run_tac ev) Ev.none (Cm.isNone fun h v hv => by cases hv; rfl)) (fun q => by cases q) (fun _ => Ex.nil) _ RA s2 _ _ g2 fun fl s3 u3 g3 => ?_)
  cases fl with
  | brk | cont | ret => exact g3.elim
  | next =>
  -- stop = self._stop
  refine wpAny_execs_cons (Ex1.assign (X := nxtX prog w B d L J.fN cd) (p := .int n) (Ev.slot KB B₀.ok.cls os IB hjs rfl (fun _ => .int _ _) (by run_tac ev) (an _ _ _ _)) (by run_tac dk) rfl rfl _ RA s3 _ _ g3 fun fl s4 u4 g4 => ?_)
  cases fl with
  | brk | cont | ret => exact g4.elim
  | next =>
  obtain ⟨h4, tk4, e4, k4⟩ : ∃ h' tk, s4 = { s with heap := h', toks := tk } ∧ ∀ b o, s.heap.get? b = some o → h'.get? b = some o := by
    obtain ⟨h', tk, e, k⟩ := upL_all ((u2.trans u3).trans u4) (h := s.heap) (by rw [hs1]; exact hk₁) (Nat.le_of_eq hL.symm)
    exact ⟨h', tk, by rw [e, hs1], k⟩
  -- try
  refine wpAny_execs_cons (wpAny_Try_except ?_)
  have g4 : (nxtX prog w B d L J.fN cd).Gd [("stop", .int n), ("it", .obj (.ref e)), ("self", .obj (.ref x))] s4 := g4
  have tcnt : ∀ pa pb, Ev (nxtX prog w B d L J.fN cd) [("stop", .int n), ("it", .obj (.ref e)), ("self", .obj (.ref x))] (.Attribute (.Name "self" pa) "_cnt" pb) (.int k) := fun pa pb => Ev.slot KB B₀.ok.cls oc IB hjc rfl (fun _ => .int _ _) (by run_tac ev) (an _ _ _ _)
  have tnxt : ∀ pa pb, Ev (nxtX prog w B d L J.fN cd) [("stop", .int n), ("it", .obj (.ref e)), ("self", .obj (.ref x))] (.Attribute (.Name "self" pa) "_next" pb) (.int k) := fun pa pb => Ev.slot KB B₀.ok.cls on IB hjn rfl (fun _ => .int _ _) (by run_tac ev) (an _ _ _ _)
  have tstop : ∀ pa, Ev (nxtX prog w B d L J.fN cd) [("stop", .int n), ("it", .obj (.ref e)), ("self", .obj (.ref x))] (.Name "stop" pa) (.int n) := fun pa => by run_tac ev
  refine wpAny_execs_cons (Ex1.while0 (X := nxtX prog w B d L J.fN cd) (Ts.as (Ts.cmp (tcnt _ _) (tnxt _ _) Cm.lt) (by simp)) _ RA s4 _ _ g4 fun fl s5 u5 g5 => ?_)
  cases fl with
  | brk | cont | ret => exact g5.elim
  | next =>
  have g5 : (nxtX prog w B d L J.fN cd).Gd [("stop", .int n), ("it", .obj (.ref e)), ("self", .obj (.ref x))] s5 := g5
  have ti : ∀ p1 p2 p3 p4 p5 p6 p7 p8 p9, Ts (nxtX prog w B d L J.fN cd) [("stop", .int n), ("it", .obj (.ref e)), ("self", .obj (.ref x))] (.BoolOp .And [.Compare (.Name "stop" p1) [.NotEq] [.UnaryOp .USub (.Constant (.int 1) 0 p2) p3] p4, .Compare (.Attribute (.Name "self" p5) "_cnt" p6) [.GtE] [.Name "stop" p7] p8] p9) (decide (k = n)) := fun p1 p2 p3 p4 p5 p6 p7 p8 p9 => by
    refine Ts.as (Ts.and_if (Ts.cmp (tstop _) (Ev.neg Ev.int) Cm.nei) fun _ => Ts.cmp (tcnt _ _) (tstop _) Cm.ge) ?_
    have : ((n : Int) != -1) = true := by rw [bne_iff_ne]; omega
    rw [this, Bool.true_and]
    congr 1
    apply propext; omega
  obtain ⟨h5, tk5, e5, k5⟩ := upL_all u5 (h := s.heap) (by rw [e4]; exact k4) (Nat.le_of_eq hL.symm)
  rw [e4] at e5
  rcases Nat.lt_or_eq_of_le hk with hlt | heq
  · -- it tells an item
    refine wpAny_execs_cons (Ex1.ite (X := nxtX prog w B d L J.fN cd) (Ts.as (ti _ _ _ _ _ _ _ _ _) (decide_eq_false (Nat.ne_of_lt hlt))) (fun q => by cases q) (fun _ => Ex.nil) _ RA s5 _ _ g5 fun fl s6 u6 g6 => ?_)
    cases fl with
    | brk | cont | ret => exact g6.elim
    | next =>
    have g6 : (nxtX prog w B d L J.fN cd).Gd [("stop", .int n), ("it", .obj (.ref e)), ("self", .obj (.ref x))] s6 := g6
    obtain ⟨h6, tk6, e6, k6⟩ := upL_all u6 (h := s.heap) (by rw [e5]; exact k5) (Nat.le_of_eq hL.symm)
    obtain ⟨c, hcc⟩ := hc hlt
    have hL6 : ∀ {y : Addr}, y < s.heap.objs.size → y ≠ L := fun hy => by rw [hL]; exact Nat.ne_of_lt hy
    -- item = next(it)
    refine wpAny_execs_cons (wpAny_Assign_Name (Call_name1 rfl (name_global (X := nxtX prog w B d L J.fN cd) gN (by run_tac dk) rfl (by run_tac dk) g6 (PySem.callWith_builtin1 (Ev.local (X := nxtX prog w B d L J.fN cd) (ρ := [("stop", .int n), ("it", .obj (.ref e)), ("self", .obj (.ref x))]) (p := .obj (.ref e)) (by run_tac lk) (by run_tac dk) rfl (by run_tac dk) _ RA s6 _ _ g6 fun v s7 u7 i7 => ?_)))) rfl)
    cases i7
    have g7 := Gd.up g6 u7
    obtain ⟨h7, tk7, e7, k7'⟩ := u7
    have k7 : ∀ b o, s.heap.get? b = some o → h7.get? b = some o := fun b o q => k7' b o (by rw [e6]; exact k6 b o q)
    have En7 : EnAt s7.heap e it T t i := En.keep (S := []) (Kx.of_keep (by rw [e7]; exact k7)) (by simp) (by simp)
    refine en_callNext En7 hcc fun h8 ai En8 k8 _ => ?_
    have g8 : (nxtX prog w B d L J.fN cd).Gd [("stop", .int n), ("it", .obj (.ref e)), ("self", .obj (.ref x))] { s7 with heap := h8, toks := s7.toks + 2 } := by
      refine Gd.kx g7 k8 (fun b hb => ?_) (fun b hb => by rw [hBe]; exact hideAll_none _ hb) (fun hb => ?_)
      · rcases List.mem_cons.mp hb with rfl | hb
        · exact enRec_noSeq En7.rcd
        · rw [List.mem_singleton.mp hb]; exact enItr_noSeq En7
      · rcases List.mem_cons.mp hb with hb | hb
        · exact hL6 En.lt.1 hb.symm
        · exact hL6 En.lt.2 (List.mem_singleton.mp hb).symm
    have kx8 : Kx [e, it] s.heap h8 := fun b o nb q => k8 b o nb (by rw [e7]; exact k7 b o q)
    refine store (X := nxtX prog w B d L J.fN cd) (p := .obj (.ref ai)) g8 (.obj _) (by run_tac dk) rfl fun s9 u9 g9 => ?_
    have g9 : (nxtX prog w B d L J.fN cd).Gd [("item", .obj (.ref ai)), ("stop", .int n), ("it", .obj (.ref e)), ("self", .obj (.ref x))] s9 := g9
    obtain ⟨h9, tk9, e9, k9⟩ := u9
    have kx9 : Kx [e, it] s.heap h9 := fun b o nb q => k9 b o (hL6 (Heap.lt_size q)) (kx8 b o nb q)
    have En9 : EnAt h9 e it T t (i + 1) := En8.keep (S := [L]) (fun b o nb q => k9 b o (fun z => nb (by rw [z]; exact .head _)) q) (by simp [hL6 En.lt.1]) (by simp [hL6 En.lt.2])
    refine wpAny_execs_nil (wpAny_execs_nil ?_)
    have I9 : SlAt h9 x J.C dx f := I.keep kx9 (by simp [d2.1, d2.2.1]) (by simp [d2.2.2.1, d2.2.2.2])
    have es9 : s9 = { s with heap := h9, toks := tk9 } := by rw [e9, e7, e6, e5]
    subst es9
    have x0 := (d1 x (by simp)).2
    -- self._cnt += 1
    refine wpAny_execs_cons (aug_slot (X := nxtX prog w B d L J.fN cd) (b := 1) B₀.inn k0B x0 B₀.ok.cls oc IB hjc Ev.int (by run_tac ev) RA g9 fun B1 h10 tk10 t10 g10 IB1 k0B1 kx10 I10 => ?_)
    -- self._next += self._step
    refine wpAny_execs_cons (aug_slot (X := nxtX prog w B1 d L J.fN cd) (ta := tn) (a := k) (b := 1) B₀.inn k0B1 x0 B₀.ok.cls on IB1 (by show (if J.jn = J.jc then _ else f J.jn) = _; rw [if_neg nd5]; exact hjn)
      (Ev.slot (B₀.inn.keeps k0B1) B₀.ok.cls ot IB1 (by show (if J.jt = J.jc then _ else f J.jt) = _; rw [if_neg nd7]; exact hjt) rfl (fun _ => .int _ _) (by run_tac ev) (an _ _ _ _)) (by run_tac ev) RA g10 fun B2 h11 tk11 t11 g11 IB2 k0B2 kx11 I11 => ?_)
    -- if stop != -1 and self._next > stop
    have g11 : (nxtX prog w B2 d L J.fN cd).Gd [("item", .obj (.ref ai)), ("stop", .int n), ("it", .obj (.ref e)), ("self", .obj (.ref x))] { s with heap := h11, toks := tk11 } := g11
    refine wpAny_execs_cons (Ex1.ite (X := nxtX prog w B2 d L J.fN cd) (b := false) (Ts.as (Ts.and_if (Ts.cmp (p := .int n) (by run_tac ev) (Ev.neg Ev.int) Cm.nei) fun _ => Ts.cmp (q := .int n) (Ev.slot (q := .int ((k : Int) + 1)) (B₀.inn.keeps k0B2) B₀.ok.cls on IB2 (if_pos rfl) rfl (fun _ => .int _ _) (by run_tac ev) (an _ _ _ _)) (by run_tac ev) Cm.gt) ?_) (fun q => by cases q) (fun _ => Ex.nil) _ RA _ _ _ g11 fun fl s12 u12 g12 => ?_)
    · have : ¬ ((k : Int) + 1 > n) := by omega
      rw [decide_eq_false this, Bool.and_false]
    cases fl with
    | brk | cont | ret => exact g12.elim
    | next =>
    have g12 : (nxtX prog w B2 d L J.fN cd).Gd [("item", .obj (.ref ai)), ("stop", .int n), ("it", .obj (.ref e)), ("self", .obj (.ref x))] s12 := g12
    obtain ⟨h12, tk12, e12, k12⟩ := u12
    -- return item
    refine wpAny_execs_cons (wpAny_Return_some (Ev.local (X := nxtX prog w B2 d L J.fN cd) (ρ := [("item", .obj (.ref ai)), ("stop", .int n), ("it", .obj (.ref e)), ("self", .obj (.ref x))]) (p := .obj (.ref ai)) (by run_tac lk) (by run_tac dk) rfl (by run_tac dk) _ RA s12 _ _ g12 fun v s13 u13 i13 => ?_))
    cases i13
    obtain ⟨h13, tk13, e13, k13⟩ := u13
    have e13 : s13 = { s with heap := h13, toks := tk13 } := by rw [e13, e12]
    have kE : Kx [x, L] h9 h13 := fun b o nb q => k13 b o (by
      rw [e12]
      exact k12 b o (fun z => nb (by rw [z]; simp)) (kx11 b o (fun z => nb (by rw [List.mem_singleton.mp z]; simp)) (kx10 b o (fun z => nb (by rw [List.mem_singleton.mp z]; simp)) q)))
    have kF : Kx [L] h11 h13 := fun b o nb q => k13 b o (by rw [e12]; exact k12 b o (fun z => nb (by rw [z]; simp)) q)
    rw [e13]
    refine hQ hlt _ h13 tk13 _ (fun b o nb q => kE b o (fun z => ?_) (kx9 b o (fun z => nb ?_) q)) (En9.keep kE ?_ ?_) (I11.keep kF ?_ ?_) ⟨?_, ⟨t11, ?_⟩, ⟨ts, ?_⟩, ⟨tt, ?_⟩, ⟨t10, ?_⟩⟩
    · rcases List.mem_cons.mp z with rfl | z
      · exact nb (by simp)
      · exact hL6 (Heap.lt_size q) (List.mem_singleton.mp z)
    · rcases List.mem_cons.mp z with rfl | z
      · simp
      · rw [List.mem_singleton.mp z]; simp
    · simp [Ne.symm d2.1, hL6 En.lt.1]
    · simp [Ne.symm d2.2.1, hL6 En.lt.2]
    · simp [hL6 I.lt.1]
    · simp [hL6 I.lt.2]
    · show (if J.ii = J.jn then _ else if J.ii = J.jc then _ else f J.ii) = _
      rw [if_neg nd1, if_neg nd2]; exact St.it
    · exact if_pos rfl
    · show (if J.js = J.jn then _ else if J.js = J.jc then _ else f J.js) = _
      rw [if_neg (Ne.symm nd3), if_neg nd6]; exact hjs
    · show (if J.jt = J.jn then _ else if J.jt = J.jc then _ else f J.jt) = _
      rw [if_neg (Ne.symm nd4), if_neg nd7]; exact hjt
    · show (if J.jc = J.jn then _ else if J.jc = J.jc then _ else f J.jc) = _
      rw [if_neg (Ne.symm nd5), if_pos rfl]; rfl
  · -- it raises
    refine wpAny_execs_cons (wpAny_If (ti _ _ _ _ _ _ _ _ _ _ RA s5 _ _ g5 fun s6 u6 => ?_))
    rw [if_pos (decide_eq_true heq)]
    have g6 := Gd.up g5 u6
    obtain ⟨h6, tk6, rfl, k6'⟩ := u6
    have k6 : ∀ b o, s.heap.get? b = some o → h6.get? b = some o := fun b o q => k6' b o (by rw [e5]; exact k5 b o q)
    refine wpAny_execs_cons (owsi_raiseC RA.hand (name_global (X := nxtX prog w B d L J.fN cd) gS (by run_tac dk) rfl (by run_tac dk) g6 ⟨rfl, rfl⟩) fun h7 ex hm => ?_)
    obtain ⟨m6, F6, hm6⟩ := Gd.fr g6
    obtain ⟨v6, hv6, iv6⟩ := hm6 ("self" : Str) (.obj (.ref x)) (by run_tac lk)
    cases iv6
    have hfe : fras (envOf "islice.__next__" nxtS L J.fN cd :: outer) = L :: fras outer := rfl
    have hLn : h₀.get? L = none := by
      cases q : h₀.get? L with
      | none => rfl
      | some o =>
        have := Heap.lt_size (k0 _ _ q)
        exact absurd this (by rw [hL]; exact Nat.lt_irrefl _)
    have x0 := d1 x (by simp)
    have dx0 := d1 dx (by simp)
    have i6 : SlAt h6 x J.C dx f := I.keep (S := []) (Kx.of_keep k6) (by simp) (by simp)
    have hdL : dx ≠ L := by rw [hL]; exact Nat.ne_of_lt I.lt.2
    have hS0 : ∀ b ∈ x :: L :: fras outer, h₀.get? b = none := fun b hb => by
      rcases List.mem_cons.mp hb with rfl | hb
      · exact x0.2
      · rcases List.mem_cons.mp hb with rfl | hb
        · exact hLn
        · exact d0 b hb
    refine stop_out (s := { s5 with heap := h6, toks := tk6 }) (L := L) (outer := outer) (K := K) (C := J.C) (p := J.pi) (i := J.ii) (f := f) (dx := dx) (Around.frames_deeper hA) rfl (by show nxtS.kind ≠ _; decide +kernel) ⟨m6, F6.ns⟩ (hF.keeps k6)
      (fun h' kx => B₀.inn.keeps (Kx.keeps0 kx (fun b o q => k6 b o (k0 b o q)) (by rw [hfe]; exact hS0))) B₀.ok.cls oi i6 (by rw [hfe]; simp [hdL, dx0.1]) hm
      (fun A' E' h' Q' kx hq => name_base (X := nxtX prog w B d L J.fN cd) (s := { s5 with heap := h', toks := tk6 }) B₀.base (Kx.keeps0 kx (fun b o q => k6 b o (k0 b o q)) (by rw [hfe]; exact hS0)) (by run_tac dk) rfl (by run_tac dk) hq)
      (fun A' E' h' Q' kn hq => name_ns (X := nxtX prog w B d L J.fN cd) (s := { s5 with heap := h', toks := tk6 }) (kn m6 F6.ns) hv6 (by run_tac dk) rfl (by run_tac dk) hq)
      rfl (fun h' kx kn hex => ?_)
    have hz := hE heq ex h' (tk6 + 1) (fun b o nb q => kx b o (by
      rw [hfe]
      intro hb
      rcases List.mem_cons.mp hb with rfl | hb
      · exact nb (.head _)
      · rcases List.mem_cons.mp hb with rfl | hb
        · rw [hL] at q; exact absurd (Heap.lt_size q) (Nat.lt_irrefl _)
        · exact nb (.tail _ hb)) (k6 b o q)) (fun L' m hL' hn => kn L' m hL' (hn.keeps k6)) hex
    rw [e5]
    exact hz
end Mine
-- J9
set_option maxRecDepth 100000
set_option maxHeartbeats 4000000
namespace Mine
open PySem PySem.Calls PyProof.Rows
variable {X : Fm} {ρ ρ' : List (Str × PV)} {e : Expr} {p q : PV} {pos : Pos} {o : Out} {s : Shared}
/-- the turns of a for, and what comes behind them -/
def TurnsE (X : Fm) (x : Str) (body orelse : List Stmt) : List PV → List (Str × PV) → Out → Prop
  | [], ρ, o => Ex X ρ orelse o
  | p :: ps, ρ, o => (∃ ρ', Ex X ((x, p) :: ρ) body (.next ρ') ∧ TurnsE X x body orelse ps ρ' o) ∨ (∃ q, o = .ret q ∧ Ex X ((x, p) :: ρ) body (.ret q))
theorem isTuple_of {h : Heap} {a : Addr} {vs : List Value} {n : Nat} (e : h.get? a = some { cls := .type "tuple", data := .seq vs.toArray n }) : h.IsTuple a vs.toArray := ⟨_, e, rfl, n, rfl⟩

theorem Ex1.forE {x : Str} {px : Pos} {items : List PV} {body orelse : List Stmt} {iter : Expr} (hi : Ev X ρ iter (.lst items)) (ht : TurnsE X x body orelse items ρ o) (hl : X.scope.names.lookup x = some .local) (hk : X.scope.kind = .function)
    (hs : ∀ x, foldedSetIterable iter X.env x = pure x := by intro _; rfl) : Ex1 X ρ (.For (.Name x px) iter body orelse pos) o := fun A R s E Q G h => by
  refine wpAny_For (hi A R s _ _ G fun v s1 u1 i1 => ?_) hs
  cases i1 with
  | @lst ax vs ep _ ho ha =>
  refine wpAny_pyIter_list (isList_of ho) ?_
  have G1 : X.Gd ρ s1 := Gd.up G u1
  -- the iterator's own place
  obtain ⟨m1, F1, _⟩ := Gd.fr G1
  have hLI : X.L ≠ s1.heap.objs.size := Nat.ne_of_lt F1.ns.lt
  have haI : ax ≠ s1.heap.objs.size := Nat.ne_of_lt (Heap.lt_size ho)
  have hsz : X.h₀.objs.size ≤ s1.heap.objs.size := Nat.le_trans F1.above (Nat.le_of_lt F1.ns.lt)
  have hlen : vs.length = items.length := ha.length
  have below : ∀ b o, s.heap.get? b = some o → b ≠ s1.heap.objs.size := fun b o e => Nat.ne_of_lt (Heap.lt_size (u1.keep _ _ e))
  have upI : ∀ (s' : Shared) (h' : Heap), UpL X.L s s' → Heap.ExtBut s1.heap.objs.size s'.heap h' → UpL X.L s { s' with heap := h' } := by
    rintro s' h' ⟨h2, tk, rfl, k⟩ he
    exact ⟨h', tk, rfl, fun b o hb e => he b o (below b o e) (k b o hb e)⟩
  refine codeAny_forLoop (fun n s' => ∃ i ρ', n = items.length + 1 - i ∧ i ≤ items.length ∧ UpL X.L s s' ∧ X.Gd ρ' s' ∧ s'.heap.IsListIter s1.heap.objs.size ax i ∧ IsAll s'.heap vs items ∧ s'.heap.get? ax = some { cls := .type "list", data := .seq vs.toArray ep } ∧ TurnsE X x body orelse (items.drop i) ρ' o) ?_ (items.length + 1)
    ⟨0, ρ, rfl, Nat.zero_le _, ((u1.trans (.push _ _ _)).upL _), Gd.up G1 (.push _ _ _), ⟨_, Heap.get?_push_size _ rfl, rfl, rfl⟩, ha.keep (.of (Up.push s1 _ s1.toks).keep), Heap.get?_push_of_some _ ho, ht⟩ (fun _ => rfl)
  rintro n s' ⟨i, ρ', rfl, hi, us, G', hit, ha', ho', ht'⟩
  have hns : ∀ c vs n, s'.heap.get? s1.heap.objs.size ≠ some { cls := c, data := .seq vs n } := by
    intro c vs n e
    obtain ⟨oi, hoi, _, hd⟩ := hit
    rw [hoi] at e; cases e; cases hd
  cases hv : vs[i]? with
  | none =>
    have hge : items.length ≤ i := by rw [← hlen]; exact List.getElem?_eq_none_iff.mp hv
    rw [List.drop_eq_nil_of_le hge] at ht'
    refine wpAny_pyNext_list_end R.hand hit (isList_of ho') (by simpa using hv) fun h₁ he₁ => ?_
    exact ht' A R _ _ _ (Gd.extBut G' hLI hsz hns he₁) fun f s2 u2 k => h f s2 ((upI _ _ us he₁).trans u2) k
  | some v =>
    obtain ⟨p, hp, iv⟩ := isAll_get ha' hv
    have hlt : i < items.length := (List.getElem?_eq_some_iff.mp hp).1
    rw [List.drop_eq_getElem_cons hlt, show items[i] = p from (List.getElem?_eq_some_iff.mp hp).2] at ht'
    refine wpAny_pyNext_list_item hit (isList_of ho') (x := v) (by simpa using hv) fun h₁ hit₁ hs₁ => ?_
    have he₁ := hs₁.extBut
    have ks := keepS_ext hns he₁
    refine wpAny_assign_Name (store (X := X) (ρ := ρ') (s := { s' with heap := h₁ }) (Gd.extBut G' hLI hsz hns he₁) (iv.keep ks) hl hk fun s2 u2 G2 => ?_)
    have keep2 : ∀ c vs n a, a ≠ X.L → h₁.get? a = some { cls := c, data := .seq vs n } → s2.heap.get? a = some { cls := c, data := .seq vs n } := by
      obtain ⟨h2, tk, rfl, k⟩ := u2
      exact fun c vs n a ha e => k a _ ha e
    have hLseq : ∀ c vs n, h₁.get? X.L ≠ some { cls := c, data := .seq vs n } := by
      intro c vs n e
      obtain ⟨m, F, _⟩ := Gd.fr G'
      obtain ⟨oL, es, ep', hoL, hd, _⟩ := F.ns
      have := he₁ X.L oL hLI hoL
      rw [this] at e; cases e; cases hd
    have ks2 : KeepS h₁ s2.heap := by
      intro a c vs n e
      by_cases ha : a = X.L
      · subst ha; exact absurd e (hLseq _ _ _)
      · exact keep2 _ _ _ _ ha e
    have hit2 : s2.heap.IsListIter s1.heap.objs.size ax (i + 1) := by
      obtain ⟨oi, hoi, hr⟩ := hit₁
      obtain ⟨h2, tk, rfl, k⟩ := u2
      exact ⟨oi, k _ _ (Ne.symm hLI) hoi, hr⟩
    have us2 := (upI _ _ us he₁).trans u2
    have go : ∀ (out : Out), Ex X ((x, p) :: ρ') body out → (∀ f s3, UpL X.L s2 s3 → out.ok X f s3 → match f with
        | .next | .cont => ∃ m, m < items.length + 1 - i ∧ ∃ i ρ', m = items.length + 1 - i ∧ i ≤ items.length ∧ UpL X.L s s3 ∧ X.Gd ρ' s3 ∧ s3.heap.IsListIter s1.heap.objs.size ax i ∧ IsAll s3.heap vs items ∧ s3.heap.get? ax = some { cls := .type "list", data := .seq vs.toArray ep } ∧ TurnsE X x body orelse (items.drop i) ρ' o
        | .brk => Q .next s3
        | .ret v => Q (.ret v) s3) → wpAny (model X.prog X.w) A (execs body X.env) (fun f s₃ => match f with
          | .next | .cont => ∃ m, m < items.length + 1 - i ∧ ∃ i ρ', m = items.length + 1 - i ∧ i ≤ items.length ∧ UpL X.L s s₃ ∧ X.Gd ρ' s₃ ∧ s₃.heap.IsListIter s1.heap.objs.size ax i ∧ IsAll s₃.heap vs items ∧ s₃.heap.get? ax = some { cls := .type "list", data := .seq vs.toArray ep } ∧ TurnsE X x body orelse (items.drop i) ρ' o
          | .brk => Q .next s₃
          | .ret v => Q (.ret v) s₃) (notedBy (model X.prog X.w) A X.env fun e s' => cameBackBy (model X.prog X.w) A X.env E e s') s2 := fun out hx hf =>
      hx A R s2 _ _ G2 fun f s3 u3 k => hf f s3 u3 k
    rcases ht' with ⟨ρ₂, hx, ht₂⟩ | ⟨q, rfl, hx⟩
    · refine go _ hx fun f s3 u3 k => ?_
      cases f with
      | next =>
        refine ⟨items.length + 1 - (i + 1), by omega, i + 1, ρ₂, rfl, hlt, us2.trans u3, k, ?_, ?_, ?_, ht₂⟩
        · obtain ⟨oi, hoi, hr⟩ := hit2
          obtain ⟨h3, tk, rfl, k3⟩ := u3
          exact ⟨oi, k3 _ _ (Ne.symm hLI) hoi, hr⟩
        · refine (ha'.keep ks).keep (h' := s3.heap) ?_
          intro a c vs n e
          have e2 := ks2 a c vs n e
          by_cases ha : a = X.L
          · subst ha; exact absurd e (hLseq _ _ _)
          · obtain ⟨h3, tk, rfl, k3⟩ := u3; exact k3 a _ ha e2
        · have haL : ax ≠ X.L := by
            intro e; subst e
            exact hLseq _ _ _ (ks _ _ _ _ ho')
          have e2 := ks2 _ _ _ _ (ks _ _ _ _ ho')
          obtain ⟨h3, tk, rfl, k3⟩ := u3; exact k3 ax _ haL e2
      | brk | cont | ret => exact k.elim
    · refine go _ hx fun f s3 u3 k => ?_
      cases f with
      | ret v => exact h _ _ (us2.trans u3) k
      | brk | cont | next => exact k.elim

theorem Ex1.forT {x : Str} {px : Pos} {items : List PV} {body orelse : List Stmt} {iter : Expr} (hi : Ev X ρ iter (.tup items)) (ht : TurnsE X x body orelse items ρ o) (hl : X.scope.names.lookup x = some .local) (hk : X.scope.kind = .function)
    (hs : ∀ x, foldedSetIterable iter X.env x = pure x := by intro _; rfl) : Ex1 X ρ (.For (.Name x px) iter body orelse pos) o := fun A R s E Q G h => by
  refine wpAny_For (hi A R s _ _ G fun v s1 u1 i1 => ?_) hs
  cases i1 with
  | @tup ax vs ep _ ho ha =>
  refine wpAny_pyIter_tuple (isTuple_of ho) ?_
  have G1 : X.Gd ρ s1 := Gd.up G u1
  -- the iterator's own place
  obtain ⟨m1, F1, _⟩ := Gd.fr G1
  have hLI : X.L ≠ s1.heap.objs.size := Nat.ne_of_lt F1.ns.lt
  have haI : ax ≠ s1.heap.objs.size := Nat.ne_of_lt (Heap.lt_size ho)
  have hsz : X.h₀.objs.size ≤ s1.heap.objs.size := Nat.le_trans F1.above (Nat.le_of_lt F1.ns.lt)
  have hlen : vs.length = items.length := ha.length
  have below : ∀ b o, s.heap.get? b = some o → b ≠ s1.heap.objs.size := fun b o e => Nat.ne_of_lt (Heap.lt_size (u1.keep _ _ e))
  have upI : ∀ (s' : Shared) (h' : Heap), UpL X.L s s' → Heap.ExtBut s1.heap.objs.size s'.heap h' → UpL X.L s { s' with heap := h' } := by
    rintro s' h' ⟨h2, tk, rfl, k⟩ he
    exact ⟨h', tk, rfl, fun b o hb e => he b o (below b o e) (k b o hb e)⟩
  refine codeAny_forLoop (fun n s' => ∃ i ρ', n = items.length + 1 - i ∧ i ≤ items.length ∧ UpL X.L s s' ∧ X.Gd ρ' s' ∧ s'.heap.IsTupleIter s1.heap.objs.size ax i ∧ IsAll s'.heap vs items ∧ s'.heap.get? ax = some { cls := .type "tuple", data := .seq vs.toArray ep } ∧ TurnsE X x body orelse (items.drop i) ρ' o) ?_ (items.length + 1)
    ⟨0, ρ, rfl, Nat.zero_le _, ((u1.trans (.push _ _ _)).upL _), Gd.up G1 (.push _ _ _), ⟨_, Heap.get?_push_size _ rfl, rfl, rfl⟩, ha.keep (.of (Up.push s1 _ s1.toks).keep), Heap.get?_push_of_some _ ho, ht⟩ (fun _ => rfl)
  rintro n s' ⟨i, ρ', rfl, hi, us, G', hit, ha', ho', ht'⟩
  have hns : ∀ c vs n, s'.heap.get? s1.heap.objs.size ≠ some { cls := c, data := .seq vs n } := by
    intro c vs n e
    obtain ⟨oi, hoi, _, hd⟩ := hit
    rw [hoi] at e; cases e; cases hd
  cases hv : vs[i]? with
  | none =>
    have hge : items.length ≤ i := by rw [← hlen]; exact List.getElem?_eq_none_iff.mp hv
    rw [List.drop_eq_nil_of_le hge] at ht'
    refine wpAny_pyNext_tuple_end R.hand hit (isTuple_of ho') (by simpa using hv) fun h₁ he₁ => ?_
    exact ht' A R _ _ _ (Gd.extBut G' hLI hsz hns he₁) fun f s2 u2 k => h f s2 ((upI _ _ us he₁).trans u2) k
  | some v =>
    obtain ⟨p, hp, iv⟩ := isAll_get ha' hv
    have hlt : i < items.length := (List.getElem?_eq_some_iff.mp hp).1
    rw [List.drop_eq_getElem_cons hlt, show items[i] = p from (List.getElem?_eq_some_iff.mp hp).2] at ht'
    refine wpAny_pyNext_tuple_item hit (isTuple_of ho') (x := v) (by simpa using hv) fun h₁ hit₁ hs₁ => ?_
    have he₁ := hs₁.extBut
    have ks := keepS_ext hns he₁
    refine wpAny_assign_Name (store (X := X) (ρ := ρ') (s := { s' with heap := h₁ }) (Gd.extBut G' hLI hsz hns he₁) (iv.keep ks) hl hk fun s2 u2 G2 => ?_)
    have keep2 : ∀ c vs n a, a ≠ X.L → h₁.get? a = some { cls := c, data := .seq vs n } → s2.heap.get? a = some { cls := c, data := .seq vs n } := by
      obtain ⟨h2, tk, rfl, k⟩ := u2
      exact fun c vs n a ha e => k a _ ha e
    have hLseq : ∀ c vs n, h₁.get? X.L ≠ some { cls := c, data := .seq vs n } := by
      intro c vs n e
      obtain ⟨m, F, _⟩ := Gd.fr G'
      obtain ⟨oL, es, ep', hoL, hd, _⟩ := F.ns
      have := he₁ X.L oL hLI hoL
      rw [this] at e; cases e; cases hd
    have ks2 : KeepS h₁ s2.heap := by
      intro a c vs n e
      by_cases ha : a = X.L
      · subst ha; exact absurd e (hLseq _ _ _)
      · exact keep2 _ _ _ _ ha e
    have hit2 : s2.heap.IsTupleIter s1.heap.objs.size ax (i + 1) := by
      obtain ⟨oi, hoi, hr⟩ := hit₁
      obtain ⟨h2, tk, rfl, k⟩ := u2
      exact ⟨oi, k _ _ (Ne.symm hLI) hoi, hr⟩
    have us2 := (upI _ _ us he₁).trans u2
    have go : ∀ (out : Out), Ex X ((x, p) :: ρ') body out → (∀ f s3, UpL X.L s2 s3 → out.ok X f s3 → match f with
        | .next | .cont => ∃ m, m < items.length + 1 - i ∧ ∃ i ρ', m = items.length + 1 - i ∧ i ≤ items.length ∧ UpL X.L s s3 ∧ X.Gd ρ' s3 ∧ s3.heap.IsTupleIter s1.heap.objs.size ax i ∧ IsAll s3.heap vs items ∧ s3.heap.get? ax = some { cls := .type "tuple", data := .seq vs.toArray ep } ∧ TurnsE X x body orelse (items.drop i) ρ' o
        | .brk => Q .next s3
        | .ret v => Q (.ret v) s3) → wpAny (model X.prog X.w) A (execs body X.env) (fun f s₃ => match f with
          | .next | .cont => ∃ m, m < items.length + 1 - i ∧ ∃ i ρ', m = items.length + 1 - i ∧ i ≤ items.length ∧ UpL X.L s s₃ ∧ X.Gd ρ' s₃ ∧ s₃.heap.IsTupleIter s1.heap.objs.size ax i ∧ IsAll s₃.heap vs items ∧ s₃.heap.get? ax = some { cls := .type "tuple", data := .seq vs.toArray ep } ∧ TurnsE X x body orelse (items.drop i) ρ' o
          | .brk => Q .next s₃
          | .ret v => Q (.ret v) s₃) (notedBy (model X.prog X.w) A X.env fun e s' => cameBackBy (model X.prog X.w) A X.env E e s') s2 := fun out hx hf =>
      hx A R s2 _ _ G2 fun f s3 u3 k => hf f s3 u3 k
    rcases ht' with ⟨ρ₂, hx, ht₂⟩ | ⟨q, rfl, hx⟩
    · refine go _ hx fun f s3 u3 k => ?_
      cases f with
      | next =>
        refine ⟨items.length + 1 - (i + 1), by omega, i + 1, ρ₂, rfl, hlt, us2.trans u3, k, ?_, ?_, ?_, ht₂⟩
        · obtain ⟨oi, hoi, hr⟩ := hit2
          obtain ⟨h3, tk, rfl, k3⟩ := u3
          exact ⟨oi, k3 _ _ (Ne.symm hLI) hoi, hr⟩
        · refine (ha'.keep ks).keep (h' := s3.heap) ?_
          intro a c vs n e
          have e2 := ks2 a c vs n e
          by_cases ha : a = X.L
          · subst ha; exact absurd e (hLseq _ _ _)
          · obtain ⟨h3, tk, rfl, k3⟩ := u3; exact k3 a _ ha e2
        · have haL : ax ≠ X.L := by
            intro e; subst e
            exact hLseq _ _ _ (ks _ _ _ _ ho')
          have e2 := ks2 _ _ _ _ (ks _ _ _ _ ho')
          obtain ⟨h3, tk, rfl, k3⟩ := u3; exact k3 ax _ haL e2
      | brk | cont | ret => exact k.elim
    · refine go _ hx fun f s3 u3 k => ?_
      cases f with
      | ret v => exact h _ _ (us2.trans u3) k
      | brk | cont | next => exact k.elim
end Mine
-- N3
set_option maxRecDepth 100000
set_option maxHeartbeats 4000000
set_option linter.unusedVariables false
namespace Mine
open PySem PySem.Calls PyProof.Rows PySem.W

/-! ## _is_int, _whole -/
def isiA : Arguments := by run_tac putDef "" "_is_int" 1
def isiB : List Stmt := by run_tac putDef "" "_is_int" 2
def isiS : Scope := by run_tac putDef "" "_is_int" 6
def whoA : Arguments := by run_tac putDef "" "_whole" 1
def whoB : List Stmt := by run_tac putDef "" "_whole" 2
def whoS : Scope := by run_tac putDef "" "_whole" 6
def iniA : Arguments := by run_tac putDef "islice" "__init__" 1
def iniB : List Stmt := by run_tac putDef "islice" "__init__" 2
def iniS : Scope := by run_tac putDef "islice" "__init__" 6

section
variable {X : Fm} {ρ : List (Str × PV)} {e l r : Expr} {p q : PV} {pos np : Pos} {v : Value} {ss : List Stmt} {o : Out}
theorem Ev.glob {x : Str} (g : GlobalIs X.h₀ x v) (hx : X.scope.names.lookup x = some .globalImplicit) (hk : X.scope.kind = .function) (hd : (x == ("__debug__" : Str)) = false) : Ev X ρ (.Name x pos) (.obj v) := fun A R s E Q G h =>
  name_global g hx hk hd G (h v s (.refl s) (.obj v))
theorem Ev.typeInt {i : Int} (g : GlobalIs X.h₀ "type" (.type "type")) (hv : Ev X ρ e (.int i)) (hs : starEach [e] X.env = [(false, eval e X.env)]) (hn : X.scope.names.lookup ("type" : Str) = some .globalImplicit) (hk : X.scope.kind = .function) :
    Ev X ρ (.Call (.Name "type" np) [e] [] pos) (.obj (.type "int")) := fun A R s E Q G h =>
  Call_name1 hs (name_global g hn hk (by decide +kernel) G (PySem.callWith_type1 (hv A R s _ _ G fun v s1 u1 i1 => by
    cases i1
    exact call_type_of (Tx := "int") rfl (by decide +kernel) (h _ _ u1 (.obj _)))))
theorem Cm.isTy {prog : Program} {w : World} {a : String} : Cm prog w .Is (.obj (.type a)) (.obj (.type a)) true := fun A s E Q v v' _ h1 h2 h => by
  cases h1; cases h2
  refine wpAny_bind (m := isSame _ _) (wpAny_of_eq (a := true) ?_ (wpAny_pure (h s (.refl s))))
  show pure (Value.type a == Value.type a) = _
  simp
theorem Ev.orT (hl : Ev X ρ l (.bool true)) : Ev X ρ (.BoolOp .Or [l, r] pos) (.bool true) := fun A R s E Q G h =>
  BoolOp_or (hl A R s _ _ G fun v s1 u1 i1 => by
    cases i1
    exact wpAny_truthy_bool (h _ s1 u1 (.bool _)))
theorem Ts.not {b : Bool} (h : Ts X ρ e b) : Ts X ρ (.UnaryOp .Not e pos) (!b) := fun A R s E Q G k => isTrue_not (h A R s _ _ G fun s1 u1 => k s1 u1)
theorem Ts.plainB {b : Bool} (h : Ev X ρ e (.bool b)) (he : ∀ whole, isTrue e X.env whole = (do let v ← whole; standAt e.pos; holding [v] (truthy v))) : Ts X ρ e b := fun A R s E Q G k =>
  isTrue_plain (h A R s _ _ G fun v s1 u1 i1 => by
    cases i1
    exact wpAny_truthy_bool (k s1 u1)) (he _)
/-- a statement that is a call, its value none -/
theorem Ex1.expr (h : Ev X ρ e .none) (hi : interactive X.env = false) (hs : swapsWith e none pos.line X.env = pure false) : Ex1 X ρ (.Expr e pos) (.next ρ) := fun A R s E Q G k =>
  wpAny_Expr (h A R s _ _ G fun v s1 u1 i1 => by
    cases i1
    exact k _ s1 (u1.upL _) (Gd.up G u1)) hi hs
theorem Ev.lenTup {ps : List PV} (g : GlobalIs X.h₀ "len" (.builtin "len")) (hv : Ev X ρ e (.tup ps)) (hx : ps.length < 2 ^ 62) (hs : starEach [e] X.env = [(false, eval e X.env)]) (hn : X.scope.names.lookup ("len" : Str) = some .globalImplicit) (hk : X.scope.kind = .function) :
    Ev X ρ (.Call (.Name "len" np) [e] [] pos) (.int (ps.length : Nat)) := fun A R s E Q G h =>
  Call_name1 hs (name_global g hn hk (by decide +kernel) G (PySem.callWith_builtin1 (hv A R s _ _ G fun v s1 u1 i1 => by
    cases i1 with
    | @tup a vs n _ ho hl =>
    have e := hl.length
    refine len_tuple (isTup_of ho) (by simp only [List.size_toArray]; omega) (h _ _ (u1.trans ((Up.tok _ _).trans (.tok _ _))) ?_)
    rw [List.size_toArray, e]; exact .int _ _)))
end
/-- a call of a def that is known falls to no value -/
theorem Fn.introN {prog : Program} {w : World} {h₀ : Heap} {d : Nat} {f : Addr} {name : Str} {params : Arguments} {body : List Stmt} {scope : Scope} {cd : Value} {args : List PV} (D : DefAt h₀ f name params body scope cd) (hlim : h₀.NoLimit) (ns : List Str)
    (hbind : ∀ pm doc vs, vs.length = args.length → bindArgs (docDef name params body scope pm cd doc) ⟨vs, []⟩ = pure (ns.zip vs)) (hloc : ∀ x ∈ ns, scope.names.lookup x = some .local)
    (h : ∀ L, ∃ ρ, Ex ⟨prog, w, h₀, d, name, scope, L, f, cd⟩ (ns.zip args).reverse body (.next ρ))
    (hco : scope.isCoroutine = false) (hgen : scope.isGenerator = false) (hk : scope.kind = .function) (hcell : ∀ x ∈ scope.names, x.2 ≠ .cell) : Fn prog w h₀ (d + 1) (.ref f) args .none := fun A R s E Q vs k hsz i K => by
  obtain ⟨⟨o, pm, doc, ho, hd⟩, hc⟩ := D
  refine wpAny_call (call_plain_ret (by have := R.depth; omega) (k _ _ ho) hd (hlim.keeps k) (hc.keeps k) (hbind pm doc vs i.length) (fun x hx => hloc _ (List.of_mem_zip hx).1) (fun h₁ F₁ => ?_) hco hgen hk hcell)
  obtain ⟨ρ, hx⟩ := h s.heap.objs.size
  refine hx (A.deeper _) (R.deeper _) _ _ _ ?_ fun f s' u x => ?_
  · refine ⟨_, ⟨F₁.ns, fun b o e => F₁.keep _ _ (k b o e), hsz⟩, fun x q e => ?_⟩
    · have := isAll_zip (i.keep (.of F₁.keep)) (acc := []) (accv := []) (fun _ _ e => nomatch e) (by rw [List.append_nil]; exact e)
      rw [List.append_nil] at this
      exact this
  · cases f with
    | next =>
      obtain ⟨h', tk, rfl, kk⟩ := u
      exact K .none _ ⟨h', tk, rfl, fun b o e => kk b o (Nat.ne_of_lt (Heap.lt_size e)) (F₁.keep _ _ e)⟩ .none
    | brk | cont | ret => exact x.elim

variable {prog : Program} {w : World} {h₀ : Heap} {d : Nat}
structure WhoBase (h₀ : Heap) : Prop where
  lim : h₀.NoLimit
  typ : GlobalIs h₀ "type" (.type "type")
  int : GlobalIs h₀ "int" (.type "int")
  isi : Has h₀ "_is_int" isiA isiB isiS
  who : Has h₀ "_whole" whoA whoB whoS
theorem isi_kn (B : WhoBase h₀) {i : Int} : Known prog w h₀ (d + 1) "_is_int" [.int i] (.bool true) := by
  refine B.isi.known fun f cd D => ?_
  refine Fn.intro D B.lim ["x"] (fun pm doc vs hv => ?_) (by decide +kernel) (fun L => ?_) rfl rfl rfl (by decide +kernel)
  · match vs, hv with
    | [a], _ => rfl
  · unfold isiB
    refine Ex.asg (Ev.typeInt B.typ (i := i) (by run_tac ev) rfl (by run_tac dk) rfl) (by run_tac dk) rfl rfl (Ex.rets (Ev.orT (Ev.cmp (by run_tac ev) (Ev.glob B.int (by run_tac dk) rfl (by run_tac dk)) Cm.isTy)))
theorem who_kn (B : WhoBase h₀) {i : Int} {x : Str} (h1 : -999999 ≤ i) (h2 : i ≤ 999999) : Known prog w h₀ (d + 2) "_whole" [.int i, .int 999999, .str x] .none := by
  refine B.who.known fun f cd D => ?_
  refine Fn.introN (d := d + 1) D B.lim ["x", "top", "what"] (fun pm doc vs hv => ?_) (by decide +kernel) (fun L => ⟨((["x", "top", "what"] : List Str).zip [PV.int i, .int 999999, .str x]).reverse, ?_⟩) rfl rfl rfl (by decide +kernel)
  · match vs, hv with
    | [a, b, c], _ => rfl
  · unfold whoB
    refine Ex.if (b := false) (Ts.not (Ts.plainB (b := true) (Ev.callK (EvArgs.cons (by run_tac ev) EvArgs.nil) (isi_kn B (i := i)) (by run_tac dk) rfl (by run_tac dk) rfl) fun _ => rfl)) (fun q => by cases q) (fun _ => ?_)
    refine Ex.if (b := false) (Ts.as (Ts.or_if (Ts.cmp (p := .int i) (q := .int 999999) (by run_tac ev) (by run_tac ev) Cm.gt) fun _ => Ts.cmp (p := .int i) (by run_tac ev) (Ev.neg Ev.int) Cm.lt) ?_) (fun q => by cases q) (fun _ => Ex.nil)
    rw [decide_eq_false (by omega), decide_eq_false (by omega)]; rfl
end Mine
-- N4
set_option maxRecDepth 100000
set_option maxHeartbeats 4000000
set_option linter.unusedVariables false
namespace Mine
open PySem PySem.Calls PyProof.Rows PySem.W

section
variable {prog : Program} {w : World} {A : Around} {E : Value → Shared → Prop} {s : Shared}
/-- a call of a def whose last arguments are packed -/
theorem call_fnT {f : Addr} {name qual : Str} {params : Arguments} {body : List Stmt} {scope : Scope} {cd : Value} {args : Args} {vs : List Value} {binds : Value → List (Str × Value)} {R : Result → Shared → Prop} (F : FnAt s.heap f name qual params body scope .none .none cd) (hlim : s.heap.NoLimit) (hroom : A.depth < recursionLimit)
    (hbind : ∀ doc pm an ct, bindArgs (fnOf name qual params body scope .none .none doc pm an cd ct) args = (newTuple vs >>= fun t => pure (binds t))) (hloc : ∀ t, ∀ y ∈ binds t, scope.names.lookup y.1 = some .local) (hvs : vs.length ≤ sizeLine)
    (h : ∀ h₁, h₁.Ns (s.heap.objs.size + 1) (fun x => (binds (.ref s.heap.objs.size)).reverse.lookup x) → (∀ b o, (s.heap.push { cls := .type "tuple", data := .seq vs.toArray }).get? b = some o → h₁.get? b = some o) →
      wpAny (model prog w) (A.deeper (envOf qual scope (s.heap.objs.size + 1) f cd)) (execs body (envOf qual scope (s.heap.objs.size + 1) f cd))
        (fun fl s' => R (.ok (.ret (match fl with | .ret v => v | _ => .none))) s')
        (fun e s' => wpAny (model prog w) (A.deeper (envOf qual scope (s.heap.objs.size + 1) f cd)) (leaving (envOf qual scope (s.heap.objs.size + 1) f cd) e) (fun _ s'' => R (.error e) s'') NoE s')
        { s with heap := h₁, toks := s.toks + (binds (.ref s.heap.objs.size)).length })
    (hcell : ∀ x ∈ scope.names, x.2 ≠ .cell) (hco : scope.isCoroutine = false := by rfl) (hgen : scope.isGenerator = false := by rfl) (hk : scope.kind = .function := by rfl) :
    codeAny (model prog w) A (.call (.ref f) args) R s := by
  obtain ⟨o, doc, pm, an, ct, ho, _, hd⟩ := F.obj
  refine codeAny_call_function (fd := fnOf name qual params body scope .none .none doc pm an cd ct) hroom ho hd hco hgen rfl F.code ?_
  rw [hbind]
  refine wpAny_bind (wpAny_newTuple (wpAny_pure ?_) hvs)
  have hsz : (s.heap.push { cls := .type "tuple", data := .seq vs.toArray }).objs.size = s.heap.objs.size + 1 := Heap.size_push ..
  refine wpAny_newFunctionEnv hcell (hloc _) (fun h₀ hns₀ hsb₀ => ⟨(hlim.keeps fun b o e => Heap.get?_push_of_some _ e).fresh _ hsb₀, ?_⟩) hk
  show codeAny (model prog w) A (.func body (callEnv (fnOf name qual params body scope .none .none doc pm an cd ct) (s.heap.push { cls := .type "tuple", data := .seq vs.toArray }).objs.size f)) R _
  replace hns₀ : h₀.Ns (s.heap.push { cls := .type "tuple", data := .seq vs.toArray }).objs.size (fun x => (binds (.ref s.heap.objs.size)).reverse.lookup x) := hns₀
  rw [hsz] at hns₀ ⊢
  refine codeAny_func (wpAny_mono (h h₀ hns₀ fun b o e => ?_) (fun _ _ x => x) fun e s' x => wpAny_mono x (fun _ _ y => y) fun _ _ y => y.elim)
  exact hsb₀.extBut b o (Nat.ne_of_lt (Heap.lt_size e)) (Heap.get?_push_of_some _ e)
end
/-- self.nm = value -/
theorem set_slot {X : Fm} {ρ : List (Str × PV)} {s : Shared} {A : Around} {E : Value → Shared → Prop} {Q : Flow → Shared → Prop} {h₀ : Heap} {K : Frag} {x C dx p : Addr} {f : Nat → Option Value} {i : Nat} {nm : Str} {value : Expr} {q : PV} {p1 p2 p3 : Pos} {W : Value → Prop}
    (hK : K.In h₀) (k0 : ∀ b o, h₀.get? b = some o → X.h₀.get? b = some o) (hx0 : h₀.get? x = none) (P : PlainCls K C) (S : SlotOk K C p i nm) (IB : SlAt X.h₀ x C dx f) (hval : Ev X ρ value q) (hW : ∀ h v, Is h v q → W v)
    (hself : Ev X ρ (.Name "self" p1) (.obj (.ref x))) (R : Rm X.d A) (G : X.Gd ρ s) (hs : swapsWith value (some (.Attribute (.Name "self" p1) nm p2)) p3.line X.env = pure false)
    (hQ : ∀ B' h' tk v, W v → Fm.Gd { X with h₀ := B' } ρ { s with heap := h', toks := tk } → SlAt B' x C dx (fun j => if j = i then some v else f j) → (∀ b o, h₀.get? b = some o → B'.get? b = some o) → (∀ b, b ≠ x → B'.get? b = X.h₀.get? b) → Kx [x] s.heap h' →
      SlAt h' x C dx (fun j => if j = i then some v else f j) → Q .next { s with heap := h', toks := tk }) :
    wpAny (model X.prog X.w) A (exec (.Assign [.Attribute (.Name "self" p1) nm p2] value p3) X.env) Q E s := by
  refine plainObj_wpAny_Assign_Attribute (hval A R s _ _ G fun v s1 u1 i1 => ?_) hs
  have G1 := Gd.up G u1
  refine hself A R s1 _ _ G1 fun v2 s2 u2 i2 => ?_
  cases i2
  have G2 := Gd.up G1 u2
  have k2 : ∀ b o, X.h₀.get? b = some o → s2.heap.get? b = some o := Gd.base G2
  have I2 : SlAt s2.heap x C dx f := IB.keep (S := []) (Kx.of_keep k2) (by simp) (by simp)
  refine sl_write (hK.keeps fun b o z => k2 b o (k0 b o z)) P S I2 fun h' I' hs' => ?_
  obtain ⟨B', g', IB', k', kb'⟩ := sl_rebase (tk := s2.toks + 1) G2 IB I' hs' (slAt_noSeq I2) k0 hx0
  obtain ⟨hu, tku, eu, ku⟩ := u1.trans u2
  have e' : ({ s2 with heap := h', toks := s2.toks + 1 } : Shared) = { s with heap := h', toks := s2.toks + 1 } := by rw [eu]
  rw [e']
  refine hQ B' h' _ v (hW _ _ i1) (by rw [← e']; exact g') IB' k' kb' (fun b o nb z => (Kx.of_same hs' (.head [])) b o nb ?_) I'
  rw [eu]; exact ku b o z

section
variable {X : Fm} {ρ : List (Str × PV)} {e l r : Expr} {p q : PV} {pos np : Pos} {v : Value} {ss : List Stmt} {o : Out}
theorem Ev.item0T {k : Nat} {cp : Pos} {ps : List PV} (hv : Ev X ρ e (.tup (p :: ps))) (ht : ∀ o r, letTemporaryGo e o r = pure ()) : Ev X ρ (.Subscript e (.Constant (.int 0) k cp) pos) p := fun A R s E Q G h => by
  refine wpAny_Subscript_Constant_late (hv A R s _ _ G fun v s1 u1 i1 => wpAny_Constant_int ?_) ht
  cases i1 with
  | @tup a vs n _ ho hl =>
  cases hl with
  | @cons v0 _ vs _ h0 hl =>
  have u2 := u1.trans (Up.tok s1 (s1.toks + 1))
  exact ⟨"tuple", _, PySem.F.slot_tuple_getitem.lookup, ⟨_, ho, rfl⟩, getItem_tuple (j := 0) (isTup_of ho) (by decide) (by decide) (by simp [seqIndex?]) (by simp) (h v0 _ u2 h0)⟩
theorem Ev.iterEn {en it : Addr} {x : Str} {t : Tok} {i : Nat} (g : GlobalIs X.h₀ "iter" (.builtin "iter")) (hv : Ev X ρ e (.obj (.ref en))) (En : EnAt X.h₀ en it x t i) (hs : starEach [e] X.env = [(false, eval e X.env)]) (hn : X.scope.names.lookup ("iter" : Str) = some .globalImplicit) (hk : X.scope.kind = .function) :
    Ev X ρ (.Call (.Name "iter" np) [e] [] pos) (.obj (.ref en)) := fun A R s E Q G h =>
  Call_name1 hs (name_global g hn hk (by decide +kernel) G (PySem.callWith_builtin1 (hv A R s _ _ G fun v s1 u1 i1 => by
    cases i1
    have kB : ∀ b o, X.h₀.get? b = some o → s1.heap.get? b = some o := Gd.base (Gd.up G u1)
    have En1 := En.keep (S := []) (Kx.of_keep kB) (by simp) (by simp)
    have hT : s1.TypeIs (.ref en) "enumerate" := let ⟨_, _, _, y, _⟩ := En1.rcd; ⟨_, y, rfl⟩
    refine call_function_entry (by decide +kernel) (by decide +kernel) kdk_entry_iter (kdk_args_iter _) ?_
    unfold Builtin.«iter»
    refine wpAny_bind (m := someArgs "iter" 1 2 _) (wpAny_of_eq (a := [Value.ref en]) (by first | rfl | kernel_rfl) ?_)
    show wpAny _ _ (pyIter (.ref en) >>= _) _ _ _
    refine wpAny_bind (wpAny_pyIter_slot hT PySem.F.slot_enumerate_iter (wpAny_call_entry PySem.F.slot_enumerate_iter hT PySem.F.entry_enumerate_iter ?_ (PySem.F.args_enumerate_iter_1 _)))
    show wpAny _ _ (ret (.ref en)) _ _ s1
    exact wpAny_pure ⟨_, rfl, "enumerate", _, hT, PySem.F.slot_enumerate_next.lookup, wpAny_pure ⟨_, rfl, h _ _ u1 (.obj _)⟩⟩)))
end

/-- what the base tells for islice's making -/
structure IniBase (h₀ : Heap) (K : Frag) (J : Isl) : Prop extends IslBase h₀ K J, WhoBase h₀ where
  len : GlobalIs h₀ "len" (.builtin "len")
  iter : GlobalIs h₀ "iter" (.builtin "iter")
  ini : ∃ cd, FnAt h₀ J.fI "__init__" "islice.__init__" iniA iniB iniS .none .none cd
abbrev iniX (prog : Program) (w : World) (B : Heap) (d : Nat) (L f : Addr) (cd : Value) : Fm := ⟨prog, w, B, d, "islice.__init__", iniS, L, f, cd⟩
open Lean Elab Tactic Meta PySem.W in
/-- the statements i to j of a method -/
def putPartM (c n : String) (i j : Nat) : TacticM Unit := withMainContext do
  let cells ← stmtCells
  let some k := cells.find? (fun s => s.isAppOf ``Stmt.ClassDef && strOf s.getAppArgs[0]! == some c) | throwError "class"
  let some cs ← cellsD? k.getAppArgs[3]! | throwError "class body"
  let some d := cs.find? (fun s => s.isAppOf ``Stmt.FunctionDef && strOf s.getAppArgs[0]! == some n) | throwError "def"
  let some ss ← cellsD? d.getAppArgs[2]! | throwError "body"
  (← getMainGoal).assign (← mkListLit (mkConst ``Stmt) ((ss.drop i).take (j - i)))
def iniB0 : List Stmt := by run_tac putPartM "islice" "__init__" 0 10
def iniB1 : List Stmt := by run_tac putPartM "islice" "__init__" 10 20
theorem iniB_eq : iniB = iniB0 ++ iniB1 := rfl
theorem ini_pure {prog : Program} {w : World} {B : Heap} {d : Nat} {L f : Addr} {cd : Value} (W : WhoBase B) (gl : GlobalIs B "len" (.builtin "len")) {x e : Addr} {n : Nat} (hn : n ≤ 14) :
    Ex (iniX prog w B (d + 2) L f cd) [("args", .tup [.int n]), ("iterable", .obj (.ref e)), ("self", .obj (.ref x))] iniB0
      (.next [("start", .int 0), ("stop", .int n), ("step", .int 1), ("iterable", .obj (.ref e)), ("self", .obj (.ref x))]) := by
  have tl : ∀ {ρ : List (Str × PV)} (p1 p2 p3 : Pos), ρ.lookup ("args" : Str) = some (.tup [.int n]) → Ev (iniX prog w B (d + 2) L f cd) ρ (.Call (.Name "len" p1) [.Name "args" p2] [] p3) (.int 1) := fun p1 p2 p3 h =>
    Ev.lenTup (ps := [.int n]) gl (by run_tac ev) (by show 1 < _; decide) rfl (by run_tac dk) rfl
  unfold iniB0
  -- if len(args) < 1 or len(args) > 3
  refine Ex.if (b := false) (Ts.as (Ts.or_if (Ts.cmp (tl _ _ _ (by run_tac lk)) Ev.int Cm.lt) fun _ => Ts.cmp (tl _ _ _ (by run_tac lk)) Ev.int Cm.gt) (by decide)) (fun q => by cases q) (fun _ => ?_)
  -- for a in args
  refine Ex.cons (ρ' := [("a", .int n), ("args", .tup [.int n]), ("iterable", .obj (.ref e)), ("self", .obj (.ref x))]) (Ex1.forT (items := [.int n]) (by run_tac ev) (.inl ⟨[("a", .int n), ("args", .tup [.int n]), ("iterable", .obj (.ref e)), ("self", .obj (.ref x))], ?_, Ex.nil⟩) (by run_tac dk) rfl (fun _ => rfl)) ?_
  · refine Ex.if (b := true) (Ts.cmp (p := .int n) (by run_tac ev) Ev.none (Cm.notNone fun h v hv => by cases hv; rfl)) (fun _ => ?_) (fun q => by cases q)
    refine Ex.cons (Ex1.expr (Ev.callK (EvArgs.cons (by run_tac ev) (EvArgs.cons (by run_tac ev) (EvArgs.cons (by run_tac ev) EvArgs.nil))) (who_kn W (by omega) (by omega)) (by run_tac dk) rfl (by run_tac dk) rfl) rfl rfl) Ex.nil
  refine Ex.asg (p := .int 0) (by run_tac ev) (by run_tac dk) rfl rfl ?_
  refine Ex.asg (p := .int (-1)) (Ev.neg Ev.int) (by run_tac dk) rfl rfl ?_
  refine Ex.asg (p := .int 1) (by run_tac ev) (by run_tac dk) rfl rfl ?_
  refine Ex.if (b := true) (Ts.as (Ts.cmp (tl _ _ _ (by run_tac lk)) Ev.int Cm.eqi) (by decide)) (fun _ => ?_) (fun q => by cases q)
  refine Ex.asg (p := .int n) (Ev.item0T (ps := []) (by run_tac ev) (fun _ _ => rfl)) (by run_tac dk) rfl rfl ?_
  refine Ex.if (b := true) (Ts.cmp (p := .int n) (by run_tac ev) Ev.none (Cm.notNone fun h v hv => by cases hv; rfl)) (fun _ => ?_) (fun q => by cases q)
  refine Ex.asg (p := .int n) (by run_tac ev) (by run_tac dk) rfl rfl ?_
  refine Ex.if (b := false) (Ts.as (Ts.cmp (p := .int n) (by run_tac ev) (Ev.neg Ev.int) Cm.eqi) (by rw [beq_eq_false_iff_ne]; omega)) (fun q => by cases q) (fun _ => ?_)
  refine Ex.if (b := false) (Ts.as (Ts.or_if (Ts.cmp (p := .int 0) (by run_tac ev) Ev.int Cm.lt) fun _ => Ts.cmp (p := .int n) (by run_tac ev) (Ev.neg Ev.int) Cm.lt) (by rw [decide_eq_false (by omega), decide_eq_false (by omega)]; rfl)) (fun q => by cases q) (fun _ => ?_)
  refine Ex.if (b := false) (Ts.boolOp (TsAll.and_no (Ts.as (Ts.cmp (tl _ _ _ (by run_tac lk)) Ev.int Cm.eqi) (by decide)))) (fun q => by cases q) (fun _ => ?_)
  refine Ex.if (b := false) (Ts.as (Ts.cmp (p := .int 1) (by run_tac ev) Ev.int Cm.lt) (by decide)) (fun q => by cases q) (fun _ => ?_)
  exact Ex.end (Sub.cons (by run_tac lk) (Sub.cons (by run_tac lk) (Sub.cons (by run_tac lk) (Sub.cons (by run_tac lk) (Sub.cons (by run_tac lk) Sub.nil)))))
end Mine
-- N5
set_option maxRecDepth 100000
set_option maxHeartbeats 4000000
set_option linter.unusedVariables false
namespace Mine
open PySem PySem.Calls PyProof.Rows PySem.W

theorem DefAt.keeps {h h' : Heap} {f : Addr} {name : Str} {params : Arguments} {body : List Stmt} {scope : Scope} {cd : Value} (D : DefAt h f name params body scope cd) (k : ∀ b o, h.get? b = some o → h'.get? b = some o) : DefAt h' f name params body scope cd :=
  ⟨let ⟨o, pm, doc, a, b⟩ := D.obj; ⟨o, pm, doc, k _ _ a, b⟩, D.code.keeps k⟩
theorem Has.keeps {h h' : Heap} {x : Str} {params : Arguments} {body : List Stmt} {scope : Scope} (H : Has h x params body scope) (k : ∀ b o, h.get? b = some o → h'.get? b = some o) : Has h' x params body scope :=
  let ⟨f, cd, g, D⟩ := H; ⟨f, cd, g.keeps k, D.keeps k⟩
theorem WhoBase.keeps {h h' : Heap} (B : WhoBase h) (k : ∀ b o, h.get? b = some o → h'.get? b = some o) : WhoBase h' := ⟨B.lim.keeps k, B.typ.keeps k, B.int.keeps k, B.isi.keeps k, B.who.keeps k⟩

variable {prog : Program} {w : World} {A : Around} {s : Shared} {h₀ : Heap} {K : Frag} {J : Isl} {outer : List Env} {d : Nat} {e it x dx : Addr} {T : Str} {t : Tok} {i n k : Nat} {f : Nat → Option Value}
theorem ini_walk {R : Result → Shared → Prop} (B₀ : IniBase h₀ K J) (k0 : ∀ b o, h₀.get? b = some o → s.heap.get? b = some o) (Ra : Rm (d + 3) A) (En : EnAt s.heap e it T t i) (I : SlAt s.heap x J.C dx f) (hn : n ≤ 14) (hx0 : h₀.get? x = none) {tn : Tok}
    (hQ : ∀ h' tk f', Kx [x] s.heap h' → SlAt h' x J.C dx f' → IslSt J f' e n 0 → R (.ok (.ret .none)) { s with heap := h', toks := tk }) :
    codeAny (model prog w) A (.call (.ref J.fI) ⟨[.ref x, .ref e, .int n tn], []⟩) R s := by
  obtain ⟨cd, FN⟩ := B₀.ini
  obtain ⟨oi, on, os, ot, oc⟩ := And.intro B₀.ok.oi (And.intro B₀.ok.on (And.intro B₀.ok.os (And.intro B₀.ok.ot B₀.ok.oc)))
  obtain ⟨⟨nd1, nd2, nd3, nd4⟩, ⟨nd5, nd6, nd7⟩, ⟨nd8, nd9⟩, nd10⟩ : (J.ii ≠ J.jn ∧ J.ii ≠ J.js ∧ J.ii ≠ J.jt ∧ J.ii ≠ J.jc) ∧ (J.jn ≠ J.js ∧ J.jn ≠ J.jt ∧ J.jn ≠ J.jc) ∧ (J.js ≠ J.jt ∧ J.js ≠ J.jc) ∧ J.jt ≠ J.jc := by
    have := B₀.ok.nd
    simp only [List.nodup_cons, List.mem_cons, List.not_mem_nil, or_false, not_or] at this
    obtain ⟨a, b, c, e1, _⟩ := this
    exact ⟨a, b, c, e1⟩
  refine call_fnT (vs := [.int n tn]) (binds := fun v => [("self", .ref x), ("iterable", .ref e), ("args", v)]) (FN.keeps k0) (B₀.toIslBase.lim.keeps k0) (by have := Ra.depth; omega) (fun doc pm an ct => by rfl) (fun v y hy => ?_) (by show 1 ≤ sizeLine; decide) (fun h₁ hns hk₁ => ?_) (by decide +kernel)
  · rcases List.mem_cons.mp hy with rfl | hy
    · run_tac dk
    · rcases List.mem_cons.mp hy with rfl | hy
      · run_tac dk
      · rw [List.mem_singleton.mp hy]; run_tac dk
  obtain ⟨L, hL⟩ : ∃ L, L = s.heap.objs.size + 1 := ⟨_, rfl⟩
  obtain ⟨B, hBe⟩ : ∃ B, B = s.heap.push { cls := .type "tuple", data := .seq ([.int n tn] : List Value).toArray } := ⟨_, rfl⟩
  obtain ⟨s1, hs1⟩ : ∃ s1 : Shared, s1 = { s with heap := h₁, toks := s.toks + 3 } := ⟨_, rfl⟩
  have RA := Ra.deeper (d := d + 2) (envOf "islice.__init__" iniS L J.fI cd)
  have hsB : ∀ b o, s.heap.get? b = some o → B.get? b = some o := fun b o q => by rw [hBe]; exact Heap.get?_push_of_some _ q
  have hB : ∀ b o, B.get? b = some o → h₁.get? b = some o := fun b o q => hk₁ b o (hBe ▸ q)
  have k0B : ∀ b o, h₀.get? b = some o → B.get? b = some o := fun b o q => hsB _ _ (k0 b o q)
  have KB : K.In B := B₀.inn.keeps k0B
  have IB : SlAt B x J.C dx f := I.keep (S := []) (Kx.of_keep hsB) (by simp) (by simp)
  have EB : EnAt B e it T t i := En.keep (S := []) (Kx.of_keep hsB) (by simp) (by simp)
  have g1 : (iniX prog w B (d + 2) L J.fI cd).Gd [("args", .tup [.int n]), ("iterable", .obj (.ref e)), ("self", .obj (.ref x))] s1 := by
    have hz : B.objs.size ≤ L := by rw [hBe, hL, Heap.size_push]; exact Nat.le_refl _
    have tup : h₁.get? s.heap.objs.size = some { cls := .type "tuple", data := .seq ([.int n tn] : List Value).toArray } := hk₁ _ _ (Heap.get?_push_size _ rfl)
    subst hs1
    refine ⟨_, ⟨hL ▸ hns, hB, hz⟩, fun y p q => ?_⟩
    have all : IsAll h₁ [.ref x, .ref e, .ref s.heap.objs.size] [.obj (.ref x), .obj (.ref e), .tup [.int n]] := .cons (.obj _) (.cons (.obj _) (.cons (.tup tup (.cons (.int _ _) .nil)) .nil))
    have := isAll_zip (ns := ["self", "iterable", "args"]) all (acc := []) (accv := []) (fun _ _ e => nomatch e) (x := y) (p := p) (by rw [List.append_nil]; exact q)
    rw [List.append_nil] at this
    exact this
  rw [← hL]
  show wpAny (model prog w) (A.deeper (envOf "islice.__init__" iniS L J.fI cd)) (execs iniB (envOf "islice.__init__" iniS L J.fI cd)) (fun fl s' => R (.ok (.ret (match fl with | .ret v => v | _ => .none))) s')
    (fun ex s' => wpAny (model prog w) (A.deeper (envOf "islice.__init__" iniS L J.fI cd)) (leaving (envOf "islice.__init__" iniS L J.fI cd) ex) (fun _ s'' => R (.error ex) s'') NoE s') { s with heap := h₁, toks := s.toks + 3 }
  rw [← hs1, iniB_eq, execs_append]
  refine wpAny_bind (ini_pure (B₀.toWhoBase.keeps k0B) (B₀.len.keeps k0B) hn _ RA s1 _ _ g1 fun fl s2 u2 g2 => ?_)
  cases fl with
  | brk | cont | ret => exact g2.elim
  | next =>
  have g2 : (iniX prog w B (d + 2) L J.fI cd).Gd [("start", .int 0), ("stop", .int n), ("step", .int 1), ("iterable", .obj (.ref e)), ("self", .obj (.ref x))] s2 := g2
  obtain ⟨h2, tk2, e2, k2⟩ := upL_all u2 (h := s.heap) (fun b o q => by rw [hs1]; exact hB _ _ (hsB _ _ q)) (by rw [hL]; exact Nat.le_succ _)
  have e2 : s2 = { s with heap := h2, toks := tk2 } := by rw [e2, hs1]
  subst e2
  show wpAny (model prog w) _ (execs iniB1 _) _ _ _
  unfold iniB1
  -- self._it = iter(iterable)
  refine wpAny_execs_cons (set_slot (X := iniX prog w B (d + 2) L J.fI cd) (W := fun v => v = .ref e) B₀.inn k0B hx0 B₀.ok.cls oi IB (Ev.iterEn (B₀.iter.keeps k0B) (by run_tac ev) EB rfl (by run_tac dk) rfl) (fun h v hv => by cases hv; rfl) (by run_tac ev) RA g2 rfl fun B1 h3 tk3 v3 hv3 g3 IB1 k0B1 kb1 kx3 I3 => ?_)
  -- self._next = start + 0
  refine wpAny_execs_cons (set_slot (X := iniX prog w B1 (d + 2) L J.fI cd) (q := .int 0) (W := fun v => ∃ t, v = .int 0 t) B₀.inn k0B1 hx0 B₀.ok.cls on IB1 (Ev.as (Ev.add (a := 0) (by run_tac ev) Ev.int) rfl) (fun h v hv => by cases hv; exact ⟨_, rfl⟩) (by run_tac ev) RA g3 rfl fun B2 h4 tk4 v4 hv4 g4 IB2 k0B2 kb2 kx4 I4 => ?_)
  -- self._stop = stop + 0
  refine wpAny_execs_cons (set_slot (X := iniX prog w B2 (d + 2) L J.fI cd) (q := .int n) (W := fun v => ∃ t, v = .int n t) B₀.inn k0B2 hx0 B₀.ok.cls os IB2 (Ev.as (Ev.add (a := n) (by run_tac ev) Ev.int) (by rw [Int.add_zero])) (fun h v hv => by cases hv; exact ⟨_, rfl⟩) (by run_tac ev) RA g4 rfl fun B3 h5 tk5 v5 hv5 g5 IB3 k0B3 kb3 kx5 I5 => ?_)
  -- self._step = step + 0
  refine wpAny_execs_cons (set_slot (X := iniX prog w B3 (d + 2) L J.fI cd) (q := .int 1) (W := fun v => ∃ t, v = .int 1 t) B₀.inn k0B3 hx0 B₀.ok.cls ot IB3 (Ev.as (Ev.add (a := 1) (by run_tac ev) Ev.int) rfl) (fun h v hv => by cases hv; exact ⟨_, rfl⟩) (by run_tac ev) RA g5 rfl fun B4 h6 tk6 v6 hv6 g6 IB4 k0B4 kb4 kx6 I6 => ?_)
  -- self._cnt = 0
  refine wpAny_execs_cons (set_slot (X := iniX prog w B4 (d + 2) L J.fI cd) (q := .int 0) (W := fun v => ∃ t, v = .int 0 t) B₀.inn k0B4 hx0 B₀.ok.cls oc IB4 (by run_tac ev) (fun h v hv => by cases hv; exact ⟨_, rfl⟩) (by run_tac ev) RA g6 rfl fun B5 h7 tk7 v7 hv7 g7 IB5 k0B5 kb5 kx7 I7 => ?_)
  refine wpAny_execs_nil ?_
  subst hv3
  obtain ⟨t4, rfl⟩ := hv4
  obtain ⟨t5, rfl⟩ := hv5
  obtain ⟨t6, rfl⟩ := hv6
  obtain ⟨t7, rfl⟩ := hv7
  have kx : Kx [x] h2 h7 := (((kx3.trans kx4).trans kx5).trans kx6).trans kx7
  refine hQ h7 tk7 _ (fun b o nb q => kx b o nb (k2 b o q)) I7 ⟨?_, ⟨t4, ?_⟩, ⟨t5, ?_⟩, ⟨t6, ?_⟩, ⟨t7, ?_⟩⟩
  · show (if J.ii = J.jc then _ else if J.ii = J.jt then _ else if J.ii = J.js then _ else if J.ii = J.jn then _ else if J.ii = J.ii then _ else f J.ii) = _
    rw [if_neg nd4, if_neg nd3, if_neg nd2, if_neg nd1, if_pos rfl]
  · show (if J.jn = J.jc then _ else if J.jn = J.jt then _ else if J.jn = J.js then _ else if J.jn = J.jn then _ else _) = _
    rw [if_neg nd7, if_neg nd6, if_neg nd5, if_pos rfl]; rfl
  · show (if J.js = J.jc then _ else if J.js = J.jt then _ else if J.js = J.js then _ else _) = _
    rw [if_neg nd9, if_neg nd8, if_pos rfl]
  · show (if J.jt = J.jc then _ else if J.jt = J.jt then _ else _) = _
    rw [if_neg nd10, if_pos rfl]
  · exact if_pos rfl
end Mine
-- D0
set_option maxRecDepth 100000
set_option maxHeartbeats 4000000
set_option linter.unusedVariables false
namespace Mine
open PySem PySem.Calls PyProof.Rows PySem.W

/-! ## a deque that keeps nothing drinks an islice -/
section
variable {M : Model} {A : Around} {E : Value → Shared → Prop} {s : Shared} {K : Frag} {x C f : Addr} {ox : Obj} {od : Option Obj}
theorem own_pyNext {Q : Option Value → Shared → Prop} (X : K.In s.heap) (I : InstAt s.heap x ox C od) (hs : findIn K (.ref C) "__next__" = some (some (.ref f))) (hf : typeIn K (.ref f) = some (.type "function"))
    (h : wpAny M A (call (.ref f) [.ref x]) (fun v s' => Q (some v) s') (fun e s' => ∃ ex, e = .ref ex ∧ (∃ o, s'.heap.get? ex = some o ∧ o.cls = .type "StopIteration") ∧ Q none s') s) : wpAny M A (pyNext (.ref x)) Q E s := by
  unfold pyNext
  refine wpAny_bind (wpAny_attempt (special_fn (name := "__next__") (args := []) X I hs hf (wpAny_mono h (fun v s' hq => wpAny_pure hq) (fun e s' he => ?_))))
  obtain ⟨ex, rfl, ⟨o, ho, hc⟩, hq⟩ := he
  exact wpAny_bind (wpAny_isInstance (T := "StopIteration") (b := true) ⟨o, ho, hc⟩ isSubtype_stop (wpAny_pure hq))
end

abbrev dqObj (c : Int) : Obj := { cls := .type "collections.deque", data := .fields #[rawInt 0, rawInt c] }
theorem entry_dq_loop : entryFor table "collections.deque.extend.loop" = some Builtin.«collections.deque.extend.loop» := entryFor_of_tree (by kernel_rfl)
theorem entry_dq_extend : entryFor table "collections.deque.extend" = some Builtin.«collections.deque.extend» := entryFor_of_tree (by kernel_rfl)
theorem entry_dq_init : entryFor table "collections.deque.__init__" = some Builtin.«collections.deque.__init__» := entryFor_of_tree (by kernel_rfl)
theorem entry_dq_new : entryFor table "collections.deque.__new__" = some Builtin.«collections.deque.__new__» := entryFor_of_tree (by kernel_rfl)

theorem den_builtin {prog : Program} {w : World} {id : String} {b : Builtin} {args : Args} (h : entryFor table id = some b) : (model prog w).den (.builtin id args) = b args := by
  show (match entryFor table id with | some b => b args | none => unsupported ((withoutEnding? id "#data").getD id)) = _
  rw [h]
/-- the base's word of the class's methods -/
structure IslMeth (K : Frag) (J : Isl) : Prop where
  mnext : findIn K (.ref J.C) "__next__" = some (some (.ref J.fN))
  mnextF : typeIn K (.ref J.fN) = some (.type "function")

variable {prog : Program} {w : World} {A : Around} {E : Value → Shared → Prop} {Q : Value → Shared → Prop} {s : Shared} {h₀ : Heap} {K : Frag} {J : Isl} {outer : List Env} {d : Nat} {e it x dx D : Addr} {T : Str} {t : Tok} {i n k : Nat} {f : Nat → Option Value}

theorem dq_loop {R : Result → Shared → Prop} {c : Int} (B₀ : IslBase h₀ K J) (Mt : IslMeth K J) (k0 : ∀ b o, h₀.get? b = some o → s.heap.get? b = some o) (hA : A.frames = some outer) (hF : FrOk s.heap outer) (Ra : Rm (d + 1) A)
    (En : EnAt s.heap e it T t i) (I : SlAt s.heap x J.C dx f) (St : IslSt J f e n 0) (hc : i + n ≤ T.cps.size) (hD : s.heap.get? D = some (dqObj c)) (hDn : D ≠ e ∧ D ≠ it ∧ D ≠ x)
    (d1 : ∀ b ∈ [e, it, x, dx], b ∉ fras outer ∧ h₀.get? b = none) (d0 : ∀ b ∈ fras outer, h₀.get? b = none) (d2 : x ≠ e ∧ x ≠ it ∧ dx ≠ e ∧ dx ≠ it)
    (hR : ∀ h' tk, Kx (e :: it :: x :: fras outer) s.heap h' → (∀ L' m, L' ∈ fras outer → s.heap.Ns L' m → h'.Ns L' m) → EnAt h' e it T t (i + n) → R (.ok (.ret .none)) { s with heap := h', toks := tk }) :
    codeAny (model prog w) A (.builtin "collections.deque.extend.loop" ⟨[.ref D, .ref x, rawInt 0], []⟩) R s := by
  have hpl : plainId "collections.deque.extend.loop" = true := by decide +kernel
  refine codeAny_loop' (plainId_quiet hpl _) (fun m s' => ∃ h' tk k f', m = n - k ∧ k ≤ n ∧ s' = { s with heap := h', toks := tk } ∧ Kx [e, it, x] s.heap h' ∧ EnAt h' e it T t (i + k) ∧ SlAt h' x J.C dx f' ∧ IslSt J f' e n k) ?_ (n - 0)
    ⟨s.heap, s.toks, 0, f, rfl, Nat.zero_le _, rfl, Kx.refl _ _, En, I, St⟩
  rintro m s' ⟨h', tk, k, f', rfl, hk, rfl, kx, En', I', St'⟩
  rw [den_builtin entry_dq_loop, Around.under_plainId hpl]
  have hxn : ∀ b ∈ [e, it, x], h₀.get? b = none := fun b hb => (d1 b (by
    rcases List.mem_cons.mp hb with rfl | hb
    · simp
    · rcases List.mem_cons.mp hb with rfl | hb
      · simp
      · rw [List.mem_singleton.mp hb]; simp)).2
  have k0' : ∀ b o, h₀.get? b = some o → h'.get? b = some o := kx.keeps0 k0 hxn
  have hF' : FrOk h' outer := hF.keep fun L hL m hn => by
    obtain ⟨o, es, ep, ho, r⟩ := hn
    refine ⟨o, es, ep, kx _ _ (fun hb => ?_) ho, r⟩
    have : L ∈ [e, it, x, dx] := by
      rcases List.mem_cons.mp hb with rfl | hb
      · simp
      · rcases List.mem_cons.mp hb with rfl | hb
        · simp
        · rw [List.mem_singleton.mp hb]; simp
    exact (d1 L this).1 hL
  have hD' : h'.get? D = some (dqObj c) := kx _ _ (by simp [hDn.1, hDn.2.1, hDn.2.2]) hD
  obtain ⟨sl, hxo, hfo⟩ := I'.at_
  have II : InstAt h' x (slObj J.C dx sl) J.C (some emptyDict) := ⟨hxo, rfl, rfl, I'.dct⟩
  show wpAny _ A.in1 (pyNext (.ref x) >>= _) _ _ _
  refine wpAny_bind (own_pyNext (s := { s with heap := h', toks := tk }) (B₀.inn.keeps k0') II Mt.mnext Mt.mnextF ?_)
  refine nxt_walk (s := { s with heap := h', toks := tk }) (outer := outer) (d := d) (f := f') (n := n) (k := k) (T := T) (t := t) (i := i + k) B₀ k0' hA hF' ⟨Ra.depth, Ra.hand⟩ En' I' St' hk (fun hlt => ?_) d1 d0 d2 (fun hlt v h2 tk2 f2 kx2 En2 I2 St2 => ?_) (fun heq ex h2 tk2 kx2 hn2 hex => ?_)
  · exact ⟨T.cps[i + k]'(by omega), by simp⟩
  · -- an item
    show wpAny _ A.in1 (field (.ref D) 0 >>= _) _ _ _
    have hD2 : h2.get? D = some (dqObj c) := kx2 _ _ (by simp [hDn.1, hDn.2.1, hDn.2.2]) hD'
    refine wpAny_bind (wpAny_field (s := { s with heap := h2, toks := tk2 }) hD2 rfl (x := rawInt 0) rfl ?_)
    rw [if_neg (by simp)]
    refine wpAny_bind ?_
    unfold Builtin.Deque.maxlen
    refine wpAny_bind (wpAny_field (s := { s with heap := h2, toks := tk2 }) hD2 rfl (x := rawInt 0) rfl ?_)
    refine wpAny_pure ?_
    refine wpAny_pure (.inl ⟨rfl, n - (k + 1), by omega, h2, tk2, k + 1, f2, rfl, hlt, rfl, kx.trans (kx2.mono (by simp)), ?_, I2, St2⟩)
    rw [← Nat.add_assoc]; exact En2
  · -- the end
    refine ⟨ex, rfl, hex, wpAny_pure ?_⟩
    refine hR h2 tk2 ((kx.mono fun b hb => ?_).trans (kx2.mono fun b hb => ?_)) (fun L' m hL' hn => hn2 L' m hL' ?_) ?_
    · rcases List.mem_cons.mp hb with rfl | hb
      · simp
      · rcases List.mem_cons.mp hb with rfl | hb
        · simp
        · rw [List.mem_singleton.mp hb]; simp
    · exact .tail _ (.tail _ hb)
    · obtain ⟨o, es, ep, ho, r⟩ := hn
      refine ⟨o, es, ep, kx _ _ (fun hb => ?_) ho, r⟩
      have : L' ∈ [e, it, x, dx] := by
        rcases List.mem_cons.mp hb with rfl | hb
        · simp
        · rcases List.mem_cons.mp hb with rfl | hb
          · simp
          · rw [List.mem_singleton.mp hb]; simp
      exact (d1 L' this).1 hL'
    · subst heq
      have de := (d1 e (by simp)).1
      have di := (d1 it (by simp)).1
      exact En'.keep kx2 (by simp [Ne.symm d2.1, de]) (by simp [Ne.symm d2.2.1, di])
end Mine
-- D1
set_option maxRecDepth 100000
set_option maxHeartbeats 4000000
set_option linter.unusedVariables false
namespace Mine
open PySem PySem.Calls PyProof.Rows PySem.W

namespace DQ
theorem notType : (Value.type "collections.deque" == Value.type "type") = false := by first | run_tac qdec | decide +kernel
theorem canCreate : ((Manifest.find? "collections.deque").bind (·.mro.findSome? fun t => (Manifest.find? t).bind fun b => if b.noNew then some true else if b.attrs.any (·.1 == "__new__") then some false else none)).getD false = false := by run_tac qrfl
theorem mro : ∃ c tl, mroOf (.type "collections.deque") = pure (c :: tl) := ⟨.type "collections.deque", [.type "object"], by run_tac qrfl⟩
theorem made : Bind.madeBy (.type "collections.deque") = pure (some "collections.deque.__new__") := by run_tac qrfl
theorem plainNew : plainId "collections.deque.__new__" = true := by first | run_tac qdec | decide +kernel
theorem sub : isSubtype (.type "collections.deque") (.type "collections.deque") = pure true := by run_tac qrfl
theorem init : Slot "collections.deque" "__init__" "collections.deque.__init__" :=
  .of (owner := "collections.deque") (n := "__init__") (by run_tac qrfl) (by first | run_tac qdec | decide +kernel) (by first | run_tac qdec | decide +kernel) (by first | run_tac qdec | decide +kernel)
    (by first | exact .inl (by first | run_tac qdec | decide +kernel) | exact .inr (by first | run_tac qdec | decide +kernel)) (by run_tac qrfl)
theorem checkCall (a b : Value) : checkTypeCall "collections.deque" ⟨[a], [("maxlen", b)]⟩ = pure () := by run_tac qrfl
theorem newOk (a b : Value) : checkBuiltinCall "collections.deque.__new__" ⟨[.type "collections.deque", a], [("maxlen", b)]⟩ = pure () := by run_tac qrfl
theorem initOk (a b c : Value) : argsOk "collections.deque.__init__" ⟨[a, b], [("maxlen", c)]⟩ := by unfold argsOk; run_tac qrfl
theorem noDict : typeHasDict (.type "collections.deque") = false := by first | run_tac qdec | decide +kernel
end DQ
section
variable {prog : Program} {w : World} {A : Around} {E : Value → Shared → Prop} {s : Shared} {R : Result → Shared → Prop}
theorem dq_new {a b : Value} (h : R (.ok (.ret (.ref s.heap.objs.size))) { s with heap := s.heap.push { cls := .type "collections.deque", data := .fields #[.none, rawInt 0] } }) :
    codeAny (model prog w) A (.call (.builtin "collections.deque.__new__") ⟨[.type "collections.deque", a], [("maxlen", b)]⟩) R s := by
  refine codeAny_call_builtin DQ.plainNew entry_dq_new (wpAny_of_eq (DQ.newOk a b) ?_)
  have hsub : isSubtype (.type "collections.deque") (.type Builtin.Deque.ty) = pure true := DQ.sub
  have hnd := DQ.noDict
  obtain ⟨hp, g, d, tk, os⟩ := s
  unfold Builtin.«collections.deque.__new__» Builtin.Deque.newArgs Builtin.Deque.new
  repeat (run_tac stepD)
  rw [if_neg (by decide)]
  repeat (run_tac stepD)
  rw [if_neg (by decide)]
  repeat (run_tac stepD)
  rw [if_neg (by decide)]
  repeat (run_tac stepD)
  rw [hnd, if_neg Bool.false_ne_true]
  repeat (run_tac stepD)
  rw [if_neg (by decide)]
  repeat (run_tac stepD)
theorem dq_init_eq (D x : Addr) (tm : Tok) : Builtin.«collections.deque.__init__» ⟨[.ref D, .ref x], [("maxlen", .int 0 tm)]⟩ = (do
    setField (.ref D) 0 (rawInt 0)
    Builtin.Deque.clear (.ref D)
    Builtin.Deque.extend (.ref D) (.ref x)
    ret .none) := by kernel_rfl
theorem dq_init {D x : Addr} {tm : Tok} {E' : Value → Shared → Prop} {Q : Fin → Shared → Prop} (hD : s.heap.get? D = some { cls := .type "collections.deque", data := .fields #[.none, rawInt 0] })
    (h : ∀ h', h'.get? D = some (dqObj 0) → Heap.SameBut D s.heap h' → wpAny (model prog w) A (runValue (.builtin "collections.deque.extend" ⟨[.ref D, .ref x], []⟩)) (fun _ s' => Q (.done (.ret .none)) s') E' { s with heap := h' }) :
    wpAny (model prog w) A (Builtin.«collections.deque.__init__» ⟨[.ref D, .ref x], [("maxlen", .int 0 tm)]⟩) Q E' s := by
  rw [dq_init_eq]
  refine wpAny_bind (wpAny_setField_rec hD (by simp) fun h' hD' hs' => ?_)
  replace hD' : h'.get? D = some (dqObj 0) := hD'
  refine wpAny_bind ?_
  unfold Builtin.Deque.clear Builtin.Deque.items
  refine wpAny_bind (wpAny_bind (wpAny_fieldsOf (s := { s with heap := h' }) hD' rfl (wpAny_pure ?_)))
  rw [if_neg (by simp)]
  refine wpAny_pure (wpAny_bind ?_)
  unfold Builtin.Deque.extend
  refine wpAny_bind (wpAny_mono (h h' hD' hs') (fun _ _ q => wpAny_pure (wpAny_pure q)) fun _ _ q => q)
theorem dq_extend {D x : Addr} {R' : Result → Shared → Prop} (hD : s.heap.get? D = some (dqObj 0)) (hne : D ≠ x)
    (hit : wpAny (model prog w) A.in1 (pyIter (.ref x)) (fun it s' => it = .ref x ∧ s'.heap.get? D = some (dqObj 0) ∧ codeAny (model prog w) A (.builtin "collections.deque.extend.loop" ⟨[.ref D, .ref x, rawInt 0], []⟩) R' s') (fun e s' => R' (.error e) s') s) :
    codeAny (model prog w) A (.builtin "collections.deque.extend" ⟨[.ref D, .ref x], []⟩) R' s := by
  have hpl : plainId "collections.deque.extend" = true := by first | run_tac qdec | decide +kernel
  refine codeAny_builtin entry_dq_extend ?_
  rw [Around.under_plainId hpl]
  have e : Builtin.«collections.deque.extend» ⟨[.ref D, .ref x], []⟩ = (if (Value.ref D == Value.ref x) = true then (do
        rule "collections.deque.extend.itself"
        Builtin.Deque.ownIterOnly "collections.deque.extend" (.ref D)
        let xs ← Builtin.Deque.items (.ref D)
        holding xs.toList (do for x in xs do Builtin.Deque.pushRight (.ref D) x)
        return ← ret .none) else (do
      let first ← field (.ref D) 0
      again (.builtin "collections.deque.extend.loop" ⟨[.ref D, ← pyIter (.ref x), first], []⟩))) := by kernel_rfl
  rw [e, if_neg (by simp [hne])]
  refine wpAny_bind (wpAny_field hD rfl (x := rawInt 0) rfl ?_)
  refine wpAny_bind (wpAny_mono hit (fun it s' hq => ?_) fun _ _ q => q)
  obtain ⟨rfl, _, hq⟩ := hq
  exact wpAny_pure ⟨plainId_quiet (by first | run_tac qdec | decide +kernel) _, hq⟩
end
end Mine
-- D2
set_option maxRecDepth 100000
set_option maxHeartbeats 4000000
set_option linter.unusedVariables false
namespace Mine
open PySem PySem.Calls PyProof.Rows PySem.W
section
variable {prog : Program} {w : World} {A : Around} {E : Value → Shared → Prop} {s : Shared}
theorem dq_call {x : Addr} {tm : Tok} {Q : Value → Shared → Prop}
    (h : ∀ A' h', A'.frames = A.frames → A'.depth = A.depth → A'.handled = A.handled → h'.get? s.heap.objs.size = some (dqObj 0) → (∀ b o, s.heap.get? b = some o → h'.get? b = some o) →
      codeAny (model prog w) A' (.builtin "collections.deque.extend" ⟨[.ref s.heap.objs.size, .ref x], []⟩) (fun r s' => match r with | .ok (.ret v) => v = .none ∧ Q (.ref s.heap.objs.size) s' | .ok _ => False | .error e => E e s') { s with heap := h' }) :
    wpAny (model prog w) A (call (.type "collections.deque") [.ref x] [("maxlen", .int 0 tm)]) Q E s := by
  obtain ⟨c, tl, hmro⟩ := DQ.mro
  have hmade := DQ.made
  have hsub := DQ.sub
  refine wpAny_call (codeAny_of_tree ?_)
  show wpAny _ _ (callAny (.type "collections.deque") _) _ _ _
  refine wpAny_pure ⟨Code.quiet_builtin _ (by decide +kernel), codeAny_builtin PySem.F.entry_type_call ?_⟩
  rw [Around.under_plain (weight_type_call_type "collections.deque" _ _) rfl]
  have h1 := DQ.notType
  have h2 := DQ.canCreate
  have h3 := DQ.checkCall (.ref x) (.int 0 tm)
  repeat (run_tac stepD)
  rw [h1, if_neg Bool.false_ne_true]
  repeat (run_tac stepD)
  rw [h2, if_neg Bool.false_ne_true]
  repeat (run_tac stepD)
  rw [if_neg (show ¬ ((c :: tl).isEmpty = true) from Bool.false_ne_true)]
  repeat (run_tac stepD)
  refine dq_new ?_
  have hz : (s.heap.push { cls := .type "collections.deque", data := .fields #[.none, rawInt 0] }).get? s.heap.objs.size = some { cls := .type "collections.deque", data := .fields #[.none, rawInt 0] } := Heap.get?_push_size _ rfl
  show wpAny (model prog w) A.in1 (isInstance (.ref s.heap.objs.size) (.type "collections.deque") >>= _) _ _ _
  refine wpAny_bind (wpAny_isInstance (T := "collections.deque") (b := true) ⟨_, hz, rfl⟩ hsub ?_)
  rw [if_neg (by decide)]
  refine wpAny_bind (wpAny_holding (wpAny_callSpecial?_slot (name := Str.ofString "__init__") ⟨_, hz, rfl⟩ DQ.init ?_))
  have hT : Shared.TypeIs { s with heap := s.heap.push { cls := .type "collections.deque", data := .fields #[.none, rawInt 0] } } (.ref s.heap.objs.size) "collections.deque" := ⟨_, hz, rfl⟩
  refine wpAny_call (codeAny_call_builtin DQ.init.plain entry_dq_init (DQ.init.check _ _ _ _ _ _ _ _ hT (DQ.initOk _ _ _) (dq_init hz fun h' hD' hs' => ?_)))
  refine wpAny_runValue (codeAny_mono (h A.in1.in1 h' rfl rfl rfl hD' fun b o q => hs'.extBut b o (Nat.ne_of_lt (Heap.lt_size q)) (Heap.get?_push_of_some _ q)) fun r s' hr => ?_)
  cases r with
  | error e => exact hr
  | ok fl =>
    cases fl with
    | ret v =>
      obtain ⟨rfl, hq⟩ := hr
      show wpAny (model prog w) A.in1 _ _ _ _
      repeat (run_tac stepD)
      rw [if_neg (show ¬ ((Value.none != Value.none) = true) from by decide)]
      repeat (any_goals (first | run_tac stepD | (show _ ∧ _; exact ⟨rfl, hq⟩) | exact hq))
    | _ => exact hr.elim
end
end Mine
-- D3
set_option maxRecDepth 100000
set_option maxHeartbeats 4000000
set_option linter.unusedVariables false
namespace Mine
open PySem PySem.Calls PyProof.Rows PySem.W

def conA : Arguments := by run_tac putDef "" "consume" 1
def conB : List Stmt := by run_tac putDef "" "consume" 2
def conS : Scope := by run_tac putDef "" "consume" 6
def itrA : Arguments := by run_tac putDef "islice" "__iter__" 1
def itrB : List Stmt := by run_tac putDef "islice" "__iter__" 2
def itrS : Scope := by run_tac putDef "islice" "__iter__" 6

section
variable {M : Model} {A : Around} {E : Value → Shared → Prop} {s : Shared} {K : Frag} {x C f : Addr} {ox : Obj} {od : Option Obj}
theorem own_pyIter {Q : Value → Shared → Prop} (X : K.In s.heap) (I : InstAt s.heap x ox C od) (hs : findIn K (.ref C) "__iter__" = some (some (.ref f))) (hf : typeIn K (.ref f) = some (.type "function"))
    (h : wpAny M A (call (.ref f) [.ref x]) (fun v s' => v = .ref x ∧ (∃ g, Looks M s'.heap (specialOf (.ref x) "__next__") (some g)) ∧ Q (.ref x) s') E s) : wpAny M A (pyIter (.ref x)) Q E s := by
  have fin : wpAny M A (call (.ref f) [.ref x] >>= fun v => pure (some v)) (fun r s' => r = some (.ref x) ∧ (∃ g, Looks M s'.heap (specialOf (.ref x) "__next__") (some g)) ∧ Q (.ref x) s') E s :=
    wpAny_bind (wpAny_mono h (fun v s' h' => wpAny_pure ⟨by rw [h'.1], h'.2⟩) fun _ _ z => z)
  have one : ∀ refuse : Sem Value, wpAny M A (callSpecialIfBoundUnlessNone? (.ref x) "__iter__" refuse) (fun r s' => r = some (.ref x) ∧ (∃ g, Looks M s'.heap (specialOf (.ref x) "__next__") (some g)) ∧ Q (.ref x) s') E s := by
    intro refuse
    simp only [callSpecialIfBoundUnlessNone?, bindSpecialIfBound?]
    refine wpAny_holding (wpAny_bind (wpAny_bind (wpAny_bind (I.type.here ((looks_findIn X hs).here ?_)))))
    refine wpAny_bind (wpAny_askSetting (wpAny_ite ?_))
    have fin2 : wpAny M A (if (Value.ref f == Value.none) = true then (refuse >>= fun v => pure (some v)) else (call (.ref f) [.ref x] >>= fun v => pure (some v))) (fun r s' => r = some (.ref x) ∧ (∃ g, Looks M s'.heap (specialOf (.ref x) "__next__") (some g)) ∧ Q (.ref x) s') E s := by
      rw [if_neg (show ¬ ((Value.ref f == Value.none) = true) from Bool.false_ne_true)]
      exact fin
    split
    · exact wpAny_bind ((bind_fn X _ hf).here (wpAny_pure (by exact fin2)))
    · exact wpAny_tryCatch (wpAny_bind ((bind_fn X _ hf).here (wpAny_pure (by exact fin2))))
  unfold pyIter
  refine wpAny_bind (wpAny_bind (I.type.here ((looks_findIn X hs).here ?_)))
  show wpAny M A (callSpecialIfBoundUnlessNone? (.ref x) "__iter__" _ >>= _) Q E s
  refine wpAny_bind (wpAny_mono (one _) (fun r s' hr => ?_) fun _ _ z => z)
  obtain ⟨rfl, ⟨g, hg⟩, hv⟩ := hr
  exact wpAny_bind (hg.here (wpAny_pure hv))
end

/-- what the base tells for consume -/
structure ConBase (h₀ : Heap) (K : Frag) (J : Isl) : Prop extends IniBase h₀ K J, IslMeth K J where
  makes : makesIn K J.C = true
  keep : keepIn K (.ref J.C) = true
  init : findIn K (.ref J.C) "__init__" = some (some (.ref J.fI))
  initF : typeIn K (.ref J.fI) = some (.type "function")
  itr : findIn K (.ref J.C) "__iter__" = some (some (.ref J.fT))
  itrF : typeIn K (.ref J.fT) = some (.type "function")
  itrAt : ∃ cd, FnAt h₀ J.fT "__iter__" "islice.__iter__" itrA itrB itrS .none .none cd
  deque : GlobalIs h₀ "deque" (.type "collections.deque")
  islice : GlobalIs h₀ "islice" (.ref J.C)
  con : ∃ f cd, GlobalIs h₀ "consume" (.ref f) ∧ FnAt h₀ f "consume" "consume" conA conB conS .none .none cd

variable {prog : Program} {w : World} {A : Around} {E : Value → Shared → Prop} {Q : Value → Shared → Prop} {s : Shared} {h₀ : Heap} {K : Frag} {J : Isl} {outer : List Env} {d : Nat} {e it x dx D : Addr} {T : Str} {t : Tok} {i n k : Nat} {f : Nat → Option Value}
abbrev itrX (prog : Program) (w : World) (B : Heap) (d : Nat) (L f : Addr) (cd : Value) : Fm := ⟨prog, w, B, d, "islice.__iter__", itrS, L, f, cd⟩
theorem itr_walk (B₀ : ConBase h₀ K J) (k0 : ∀ b o, h₀.get? b = some o → s.heap.get? b = some o) (hroom : A.depth < recursionLimit)
    (hQ : ∀ h' tk, (∀ b o, s.heap.get? b = some o → h'.get? b = some o) → Q (.ref x) { s with heap := h', toks := tk }) : wpAny (model prog w) A (call (.ref J.fT) [.ref x]) Q E s := by
  obtain ⟨cd, FN⟩ := B₀.itrAt
  refine wpAny_call (call_fn (binds := [("self", .ref x)]) (FN.keeps k0) (B₀.toIslBase.lim.keeps k0) hroom (fun doc pm an ct => BindsTo.of_eq (by rfl)) (fun y hy => by rw [List.mem_singleton.mp hy]; run_tac dk) (fun h₁ hns hk₁ => ?_) (by decide +kernel))
  unfold itrB
  refine wpAny_execs_cons (wpAny_Return_some (name_ns (X := itrX prog w h₀ 0 s.heap.objs.size J.fT cd) hns rfl (by run_tac dk) rfl (by run_tac dk) ?_))
  exact hQ h₁ _ hk₁
end Mine
-- D4
set_option maxRecDepth 100000
set_option maxHeartbeats 4000000
set_option linter.unusedVariables false
namespace Mine
open PySem PySem.Calls PyProof.Rows PySem.W

variable {prog : Program} {w : World} {A : Around} {E : Value → Shared → Prop} {Q : Value → Shared → Prop} {s : Shared} {h₀ : Heap} {K : Frag} {J : Isl} {outer : List Env} {d : Nat} {e it x dx D : Addr} {T : Str} {t : Tok} {i n k : Nat} {f : Nat → Option Value}
/-- islice(e, n) is made -/
theorem isl_make {R : Result → Shared → Prop} {tn : Tok} (B₀ : ConBase h₀ K J) (k0 : ∀ b o, h₀.get? b = some o → s.heap.get? b = some o) (hz : h₀.objs.size ≤ s.heap.objs.size) (Ra : Rm (d + 4) A) (En : EnAt s.heap e it T t i) (hn : n ≤ 14)
    (hR : ∀ h' tk x dx f, s.heap.objs.size ≤ x → s.heap.objs.size ≤ dx → (∀ b o, s.heap.get? b = some o → h'.get? b = some o) → SlAt h' x J.C dx f → IslSt J f e n 0 → R (.ok (.ret (.ref x))) { s with heap := h', toks := tk }) :
    codeAny (model prog w) A (.call (.ref J.C) ⟨[.ref e, .int n tn], []⟩) R s := by
  obtain ⟨h, g, dr, tk, os⟩ := s
  have X : K.In h := B₀.inn.keeps k0
  refine make_core (makes_of X B₀.makes) (looks_findIn X B₀.init) (fun self => bind_fn X self B₀.initF) (.inl rfl) ?_
  have kp : ∀ b o, h.get? b = some o → ((h.push emptyDict).push (instObj J.C h.objs.size)).get? b = some o := fun b o q => Heap.get?_push_of_some _ (Heap.get?_push_of_some _ q)
  have hx : ((h.push emptyDict).push (instObj J.C h.objs.size)).get? (h.objs.size + 1) = some (instObj J.C h.objs.size) := by
    have := Heap.get?_push_size (h.push emptyDict) (o := instObj J.C h.objs.size) rfl
    rwa [Heap.size_push] at this
  have hd : ((h.push emptyDict).push (instObj J.C h.objs.size)).get? h.objs.size = some emptyDict := Heap.get?_push_of_some _ (Heap.get?_push_size _ rfl)
  have hxn : h₀.get? (h.objs.size + 1) = none := Heap.get?_none_of_le (Nat.le_succ_of_le hz)
  refine ini_walk (A := A.under (.builtin "type.__call__" ⟨.ref J.C :: [.ref e, .int n tn], []⟩)) (s := ⟨(h.push emptyDict).push (instObj J.C h.objs.size), g, dr, tk, os⟩) (f := fun _ => none) (dx := h.objs.size) (T := T) (t := t) (i := i) (it := it) (d := d) B₀.toIniBase (fun b o q => kp b o (k0 b o q)) ⟨?_, Ra.hand⟩ (En.keep (S := []) (Kx.of_keep kp) (by simp) (by simp))
    ⟨⟨#[], hx, fun i => by simp⟩, hd, by show h.objs.size ≠ h.objs.size + 1; omega⟩ hn hxn fun h' tk' f' kx I' St' => ?_
  · show A.depth + 1 + (d + 3) < recursionLimit
    have := Ra.depth; omega
  · refine ⟨rfl, ?_⟩
    exact hR h' tk' _ _ f' (Nat.le_succ _) (Nat.le_refl _) (fun b o q => kx b o (by simp only [List.mem_singleton]; have := Heap.lt_size q; exact Nat.ne_of_lt (Nat.lt_succ_of_lt this)) (kp b o q)) I' St'
end Mine
-- D5
set_option maxRecDepth 100000
set_option maxHeartbeats 4000000
set_option linter.unusedVariables false
namespace Mine
open PySem PySem.Calls PyProof.Rows PySem.W

abbrev conX (prog : Program) (w : World) (B : Heap) (d : Nat) (L f : Addr) (cd : Value) : Fm := ⟨prog, w, B, d, "consume", conS, L, f, cd⟩
variable {prog : Program} {w : World} {A : Around} {E : Value → Shared → Prop} {Q : Value → Shared → Prop} {s : Shared} {h₀ : Heap} {K : Frag} {J : Isl} {outer : List Env} {d : Nat} {e it x dx D fC : Addr} {cd : Value} {T : Str} {t tn : Tok} {i n k : Nat} {f : Nat → Option Value}
theorem con_walk (B₀ : ConBase h₀ K J) (FC : FnAt h₀ fC "consume" "consume" conA conB conS .none .none cd) (k0 : ∀ b o, h₀.get? b = some o → s.heap.get? b = some o) (hz : h₀.objs.size ≤ s.heap.objs.size) (hA : A.frames = some outer) (hF : FrOk s.heap outer) (Ra : Rm (d + 5) A)
    (En : EnAt s.heap e it T t i) (hn : n ≤ 14) (hc : i + n ≤ T.cps.size) (d1 : ∀ b ∈ [e, it], b ∉ fras outer ∧ h₀.get? b = none) (d0 : ∀ b ∈ fras outer, h₀.get? b = none)
    (hQ : ∀ h' tk, Kx (e :: it :: fras outer) s.heap h' → (∀ L' m, L' ∈ fras outer → s.heap.Ns L' m → h'.Ns L' m) → EnAt h' e it T t (i + n) → Q .none { s with heap := h', toks := tk }) :
    wpAny (model prog w) A (call (.ref fC) [.ref e, .int n tn]) Q E s := by
  refine wpAny_call (call_fn (binds := [("iterator", .ref e), ("n", .int n tn)]) (FC.keeps k0) (B₀.toIslBase.lim.keeps k0) (by have := Ra.depth; omega) (fun doc pm an ct => BindsTo.of_eq (by rfl)) (fun y hy => ?_) (fun h₁ hns hk₁ => ?_) (by decide +kernel))
  · rcases List.mem_cons.mp hy with rfl | hy
    · run_tac dk
    · rw [List.mem_singleton.mp hy]; run_tac dk
  obtain ⟨L, hL⟩ : ∃ L, L = s.heap.objs.size := ⟨_, rfl⟩
  rw [← hL] at hns ⊢
  have RA := Ra.deeper (d := d + 4) (envOf "consume" conS L fC cd)
  have hA' : (A.deeper (envOf "consume" conS L fC cd)).frames = some (envOf "consume" conS L fC cd :: outer) := Around.frames_deeper hA
  generalize A.deeper (envOf "consume" conS L fC cd) = A₁ at RA hA' ⊢
  have k1 : ∀ b o, h₀.get? b = some o → h₁.get? b = some o := fun b o q => hk₁ b o (k0 b o q)
  show wpAny (model prog w) A₁ (execs conB (conX prog w h₀ 0 L fC cd).env) (fun fl s' => Q (match fl with | .ret v => v | _ => .none) s') (fun ex s' => wpAny (model prog w) A₁ (leaving (conX prog w h₀ 0 L fC cd).env ex) (fun _ s'' => E ex s'') NoE s') { s with heap := h₁, toks := s.toks + 2 }
  unfold conB
  refine wpAny_execs_cons (wpAny_Expr_any (wpAny_Call_Name_kw (name_base (X := conX prog w h₀ 0 L fC cd) (s := { s with heap := h₁, toks := s.toks + 2 }) B₀.deque k1 (by run_tac dk) rfl (by run_tac dk) ?_)) rfl rfl)
  refine callWith_of (P := fun _ => True) rfl (fun h _ => ⟨Keeper.machine, .inr (.inl rfl), Looks.of_pure rfl⟩) (evalArgs_kw2 rfl (wpAny_items_cons ?_))
  refine wpAny_Call_Name_kw (name_base (X := conX prog w h₀ 0 L fC cd) (s := { s with heap := h₁, toks := s.toks + 2 }) B₀.islice k1 (by run_tac dk) rfl (by run_tac dk) ?_)
  refine callWith_KW (h₀ := h₀) B₀.inn B₀.keep rfl (wpAny_items_cons (name_ns (X := conX prog w h₀ 0 L fC cd) (s := { s with heap := h₁, toks := s.toks + 2 }) hns rfl (by run_tac dk) rfl (by run_tac dk) (wpAny_items_cons (name_ns (X := conX prog w h₀ 0 L fC cd) (s := { s with heap := h₁, toks := s.toks + 2 }) hns rfl (by run_tac dk) rfl (by run_tac dk) (wpAny_items_nil (kwAll_nil ⟨B₀.inn.keeps k1, ?_⟩))))))
  have En1 : EnAt h₁ e it T t i := En.keep (S := []) (Kx.of_keep hk₁) (by simp) (by simp)
  have hz1 : s.heap.objs.size < h₁.objs.size := by rw [← hL]; exact hns.lt
  refine wpAny_call (isl_make (s := { s with heap := h₁, toks := s.toks + 2 }) (d := d) (T := T) (t := t) (i := i) (it := it) B₀ k1 (by show _ ≤ h₁.objs.size; omega) RA En1 hn fun h2 tk2 x dx f hx hdx k2 I2 St2 => ?_)
  replace hx : h₁.objs.size ≤ x := hx
  replace hdx : h₁.objs.size ≤ dx := hdx
  replace k2 : ∀ b o, h₁.get? b = some o → h2.get? b = some o := k2
  show wpAny _ _ (spliced (backTo _ (starEach [] _))) _ _ _
  refine wpAny_items_nil (kwAll_cons (wpAny_Constant_int (kwAll_nil ⟨trivial, ?_⟩)))
  show wpAny (model prog w) A₁ (call (.type "collections.deque") [.ref x] [("maxlen", .int 0 tk2)]) _ _ { s with heap := h2, toks := tk2 + 1 }
  refine dq_call (s := { s with heap := h2, toks := tk2 + 1 }) fun A' h3 e1 e2 e3 hD k3 => ?_
  replace k3 : ∀ b o, h2.get? b = some o → h3.get? b = some o := k3
  replace hD : h3.get? h2.objs.size = some (dqObj 0) := hD
  have hx2 : x < h2.objs.size := I2.lt.1
  have hdx2 : dx < h2.objs.size := I2.lt.2
  have ks2 : ∀ b o, s.heap.get? b = some o → h2.get? b = some o := fun b o q => k2 b o (hk₁ b o q)
  have hDx : h2.objs.size ≠ x := Nat.ne_of_gt hx2
  refine dq_extend hD hDx ?_
  obtain ⟨sl, hxo, hfo⟩ := I2.at_
  have k03 : ∀ b o, h₀.get? b = some o → h3.get? b = some o := fun b o q => k3 b o (k2 b o (k1 b o q))
  have I3 : InstAt h3 x (slObj J.C dx sl) J.C (some emptyDict) := ⟨k3 _ _ hxo, rfl, rfl, k3 _ _ I2.dct⟩
  refine own_pyIter (s := { s with heap := h3, toks := tk2 + 1 }) (B₀.inn.keeps k03) I3 B₀.itr B₀.itrF (itr_walk (s := { s with heap := h3, toks := tk2 + 1 }) B₀ k03 (by show A'.depth < _; rw [e2]; have := RA.depth; omega) fun h4 tk4 k4 => ?_)
  replace k4 : ∀ b o, h3.get? b = some o → h4.get? b = some o := k4
  have k04 : ∀ b o, h₀.get? b = some o → h4.get? b = some o := fun b o q => k4 b o (k03 b o q)
  have I4 : InstAt h4 x (slObj J.C dx sl) J.C (some emptyDict) := ⟨k4 _ _ I3.at_, rfl, rfl, k4 _ _ I3.dict⟩
  refine ⟨rfl, ⟨.ref J.fN, (I4.type).andThen (looks_findIn (B₀.inn.keeps k04) B₀.mnext)⟩, rfl, k4 _ _ hD, ?_⟩
  have ks4 : ∀ b o, s.heap.get? b = some o → h4.get? b = some o := fun b o q => k4 b o (k3 b o (ks2 b o q))
  have k24 : ∀ b o, h2.get? b = some o → h4.get? b = some o := fun b o q => k4 b o (k3 b o q)
  have hfe : fras (envOf "consume" conS L fC cd :: outer) = L :: fras outer := rfl
  have frl : ∀ b ∈ fras outer, b < s.heap.objs.size := fun b hb => by
    obtain ⟨env, he, hf⟩ := List.mem_filterMap.mp hb
    obtain ⟨_, L', m, hf', hn'⟩ := hF env he
    rw [hf] at hf'; cases hf'
    exact hn'.lt
  have big : ∀ {b : Addr}, h₁.objs.size ≤ b → b ∉ L :: fras outer ∧ h₀.get? b = none := fun {b} hb => by
    refine ⟨fun hm => ?_, Heap.get?_none_of_le (by omega)⟩
    rcases List.mem_cons.mp hm with rfl | hm
    · have : b < h₁.objs.size := hns.lt
      omega
    · exact absurd (Nat.lt_of_lt_of_le (frl b hm) (Nat.le_of_lt hz1)) (Nat.not_lt.mpr hb)
  have hLn : h₀.get? L = none := Heap.get?_none_of_le (by rw [hL]; exact hz)
  have F4 : FrOk h4 (envOf "consume" conS L fC cd :: outer) := fun env he => by
    cases he with
    | head => exact ⟨by show conS.kind ≠ _; decide +kernel, L, _, rfl, (hns.keeps fun b o q => k24 b o (k2 b o q))⟩
    | tail _ he =>
      obtain ⟨a, L', m, b, c⟩ := hF env he
      exact ⟨a, L', m, b, c.keeps ks4⟩
  have esm : e < s.heap.objs.size ∧ it < s.heap.objs.size := En.lt
  have hsz2 : s.heap.objs.size ≤ h2.objs.size := by omega
  have ux : ∀ {y : Addr}, h₁.objs.size ≤ y → ∀ {z : Addr}, z < s.heap.objs.size → y ≠ z := fun hy _ hz' => Nat.ne_of_gt (Nat.lt_of_lt_of_le hz' (Nat.le_trans (Nat.le_of_lt hz1) hy))
  have d1' : ∀ b ∈ [e, it, x, dx], b ∉ L :: fras outer ∧ h₀.get? b = none := fun b hb => by
    rcases List.mem_cons.mp hb with rfl | hb
    · exact ⟨by simp [hL, Nat.ne_of_lt esm.1, (d1 b (by simp)).1], (d1 b (by simp)).2⟩
    · rcases List.mem_cons.mp hb with rfl | hb
      · exact ⟨by simp [hL, Nat.ne_of_lt esm.2, (d1 b (by simp)).1], (d1 b (by simp)).2⟩
      · rcases List.mem_cons.mp hb with rfl | hb
        · exact big hx
        · rw [List.mem_singleton.mp hb]; exact big hdx
  refine dq_loop (s := { s with heap := h4, toks := tk4 }) (outer := envOf "consume" conS L fC cd :: outer) (d := d) (f := f) (i := i) (n := n) (T := T) (t := t) (c := 0) (D := h2.objs.size) (dx := dx) (e := e) (it := it) B₀.toIslBase B₀.toIslMeth k04 (e1.trans hA') F4 ⟨by rw [e2]; have := RA.depth; omega, by rw [e3]; exact RA.hand⟩
    (En.keep (S := []) (Kx.of_keep ks4) (by simp) (by simp)) (I2.keep (S := []) (Kx.of_keep k24) (by simp) (by simp)) St2 hc (k4 _ _ hD) ⟨Nat.ne_of_gt (Nat.lt_of_lt_of_le esm.1 hsz2), Nat.ne_of_gt (Nat.lt_of_lt_of_le esm.2 hsz2), hDx⟩ d1' (fun b hb => ?_) ⟨ux hx esm.1, ux hx esm.2, ux hdx esm.1, ux hdx esm.2⟩ fun h5 tk5 kx5 hn5 En5 => ?_
  · rcases List.mem_cons.mp hb with rfl | hb
    · exact hLn
    · exact d0 b hb
  · refine ⟨rfl, ?_⟩
    refine wpAny_execs_nil (hQ h5 tk5 (fun b o nb q => kx5 b o (fun hm => ?_) (ks4 b o q)) (fun L' m hL' hn' => hn5 L' m (.tail _ hL') (hn'.keeps ks4)) En5)
    have hb := Heap.lt_size q
    rcases List.mem_cons.mp hm with rfl | hm
    · exact nb (.head _)
    · rcases List.mem_cons.mp hm with rfl | hm
      · exact nb (.tail _ (.head _))
      · rcases List.mem_cons.mp hm with rfl | hm
        · exact ux hx hb rfl
        · rcases List.mem_cons.mp hm with rfl | hm
          · exact absurd hL (Nat.ne_of_lt hb)
          · exact nb (.tail _ (.tail _ hm))
end Mine
-- G0
set_option maxRecDepth 100000
set_option maxHeartbeats 4000000
set_option linter.unusedVariables false
namespace Mine
open PySem PySem.Calls PyProof.Rows PySem.W

/-! ## the lexer: what the base tells -/
def fdsA : Arguments := by run_tac putDef "" "find_delimited_spans" 1
def fdsB : List Stmt := by run_tac putDef "" "find_delimited_spans" 2
def fdsS : Scope := by run_tac putDef "" "find_delimited_spans" 6
def iskA : Arguments := by run_tac putDef "Lexer" "is_keyword" 1
def iskB : List Stmt := by run_tac putDef "Lexer" "is_keyword" 2
def iskS : Scope := by run_tac putDef "Lexer" "is_keyword" 6
def gtA : Arguments := by run_tac putDef "Lexer" "get_tokens" 1
def gtB : List Stmt := by run_tac putDef "Lexer" "get_tokens" 2
def gtS : Scope := by run_tac putDef "Lexer" "get_tokens" 6

section
variable {X : Fm} {ρ : List (Str × PV)} {e l r e1 e2 : Expr} {p q : PV} {pos np : Pos} {v : Value} {ss : List Stmt} {o : Out}
theorem Cm.inNo {prog : Program} {w : World} {a b : Str} (h : ∀ i, i + a.length ≤ b.length → Builtin.Str.subAt b a i = false) : Cm prog w .In (.str a) (.str b) false := fun A s E Q v v' hh h1 h2 k => by
  have e : (!(Builtin.Str.occurrences b a 0 b.length 1).isEmpty) = false := by
    cases hb : (!(Builtin.Str.occurrences b a 0 b.length 1).isEmpty) with
    | false => rfl
    | true =>
      obtain ⟨i, hi, hs⟩ := (StrLaws.found_iff b a).mp hb
      rw [h i hi] at hs; cases hs
  have := Cm.ins (prog := prog) (w := w) (a := a) (b := b) A s E Q v v' hh h1 h2
  rw [e] at this
  exact this k
/-- a call of a built-in function -/
theorem Ev.callB {x : Str} {id : String} {es : List Expr} {ps : List PV} (g : GlobalIs X.h₀ x (.builtin id)) (ha : EvArgs X ρ (e :: es) ps) (hx : X.scope.names.lookup x = some .globalImplicit) (hk : X.scope.kind = .function) (hd : (x == ("__debug__" : Str)) = false)
    (he : starEach (e :: es) X.env = (false, eval e X.env) :: starEach es X.env) (hpl : ((backTo pos (starEach (e :: es) X.env)).any (·.1) || (backToKw pos (keywordEach [] X.env)).any (·.1.isNone)) = false)
    (h : ∀ A, Rm X.d A → ∀ (s : Shared) (E : Value → Shared → Prop) (Q : Value → Shared → Prop) vs, X.Gd ρ s → IsAll s.heap vs ps → (∀ v s', Up s s' → Is s'.heap v q → Q v s') → wpAny (model X.prog X.w) A (PySem.call (.builtin id) vs) Q E s) :
    Ev X ρ (.Call (.Name x np) (e :: es) [] pos) q := fun A R s E Q G k =>
  wpAny_Call_Name_kw (name_global g hx hk hd G (callWith_of (P := fun _ => True) hpl (fun h _ => ⟨Keeper.machine, .inr (.inl rfl), Looks.of_pure rfl⟩) (evalArgs_kw2 rfl (ha A R pos s _ _ G fun vs s1 u1 i1 => kwAll_nil ⟨trivial,
    h A R s1 E Q vs (Gd.up G u1) i1 fun v s2 u2 i2 => k v s2 (u1.trans u2) i2⟩) he)))
theorem isAll_two {h : Heap} {vs : List Value} (i : IsAll h vs [p, q]) : ∃ v1 v2, vs = [v1, v2] ∧ Is h v1 p ∧ Is h v2 q := isAll2 i
/-- isinstance of a text -/
theorem Ev.isiStr {K : Frag} {x : Str} {c : Value} {b : Bool} (hK : K.In X.h₀) (g : GlobalIs X.h₀ "isinstance" (.builtin "isinstance")) (ha : EvArgs X ρ [e1, e2] [.str x, .obj c]) (hk : kitOne K (.type "str") c = some b)
    (he : starEach [e1, e2] X.env = (false, eval e1 X.env) :: starEach [e2] X.env) (hpl : ((backTo pos (starEach [e1, e2] X.env)).any (·.1) || (backToKw pos (keywordEach [] X.env)).any (·.1.isNone)) = false)
    (hn : X.scope.names.lookup ("isinstance" : Str) = some .globalImplicit) (hf : X.scope.kind = .function) : Ev X ρ (.Call (.Name "isinstance" np) [e1, e2] [] pos) (.bool b) :=
  Ev.callB g ha hn hf (by decide +kernel) he hpl fun A R s E Q vs G i h => by
    obtain ⟨v1, v2, rfl, i1, i2⟩ := isAll2 i
    cases i1; cases i2
    exact kia_one kitx_str (hK.keeps (Gd.base G)) trivial hk (by intro z; cases z) fun tk => h _ _ (.tok _ _) (.bool _)
theorem Ev.isiObj {K : Frag} {a C : Addr} {oa : Obj} (hK : K.In X.h₀) (g : GlobalIs X.h₀ "isinstance" (.builtin "isinstance")) (hv : EvArgs X ρ [e1, e2] [.obj (.ref a), .obj (.ref C)]) (ha : X.h₀.get? a = some oa) (hcl : oa.cls = .ref C)
    (he : starEach [e1, e2] X.env = (false, eval e1 X.env) :: starEach [e2] X.env) (hpl : ((backTo pos (starEach [e1, e2] X.env)).any (·.1) || (backToKw pos (keywordEach [] X.env)).any (·.1.isNone)) = false)
    (hn : X.scope.names.lookup ("isinstance" : Str) = some .globalImplicit) (hf : X.scope.kind = .function) : Ev X ρ (.Call (.Name "isinstance" np) [e1, e2] [] pos) (.bool true) :=
  Ev.callB g hv hn hf (by decide +kernel) he hpl fun A R s E Q vs G i h => by
    obtain ⟨v1, v2, rfl, i1, i2⟩ := isAll2 i
    cases i1; cases i2
    refine isi_call (hK.keeps (Gd.base G)) (fun M => by have z : Looks M s.heap (typeOf (.ref a)) oa.cls := (Looks.ld (part := Option.none) (Gd.base G _ _ ha)).andThen .now; rw [hcl] at z; exact z) ?_ (by intro z; cases z) (h _ _ (.refl _) (.bool _))
    unfold isIn; simp
end

/-! ## find_delimited_spans -/
variable {prog : Program} {w : World} {h₀ : Heap} {d : Nat}
structure FdsBase (h₀ : Heap) (ns : Addr) : Prop where
  lim : h₀.NoLimit
  spans : GlobalIs h₀ "_NO_SPANS" (.ref ns)
  fds : Has h₀ "find_delimited_spans" fdsA fdsB fdsS
theorem subAt_no {T : Array Nat} (hT : Tx T) {y : Str} {c : Nat} (hy : y.cps.toList[0]? = some c) (hc : c ∉ Sig) : ∀ i, i + y.length ≤ (⟨T⟩ : Str).length → Builtin.Str.subAt ⟨T⟩ y i = false := by
  intro i hi
  cases hb : Builtin.Str.subAt ⟨T⟩ y i with
  | false => rfl
  | true =>
    rw [StrLaws.subAt_eq] at hb
    have e := eq_of_beq hb
    have hl : 0 < y.length := by
      have h := (List.getElem?_eq_some_iff.mp hy).1
      show 0 < y.cps.size
      simpa using h
    have hi' : i + y.length ≤ T.size := hi
    have e2 : ((T.toList.drop i).take y.length)[0]? = some c := by rw [← hy]; exact congrArg (·[0]?) e
    rw [List.getElem?_take_of_lt hl, List.getElem?_drop, Nat.add_zero] at e2
    have hlt : i < T.size := by omega
    have := hT.sig i hlt
    have e3 : T.getD i 0 = c := by
      rw [Array.getElem?_toList] at e2
      simp [Array.getD_eq_getD_getElem?, e2]
    rw [e3] at this
    exact absurd this hc
theorem fds_kn {ns : Addr} (B : FdsBase h₀ ns) {T : Array Nat} (hT : Tx T) : Known prog w h₀ (d + 1) "find_delimited_spans" [.str ⟨T⟩] (.obj (.ref ns)) := by
  refine B.fds.known fun f cd D => ?_
  refine Fn.intro D B.lim ["text"] (fun pm doc vs hv => ?_) (by decide +kernel) (fun L => ?_) rfl rfl rfl (by decide +kernel)
  · match vs, hv with
    | [a], _ => rfl
  · unfold fdsB
    refine Ex.asg (p := .bool false) (Ev.cmp Ev.str (p := .str "$") (q := .str ⟨T⟩) (by run_tac ev) (Cm.inNo (subAt_no hT (c := 36) rfl (by decide)))) (by run_tac dk) rfl rfl ?_
    refine Ex.asg (p := .bool false) (Ev.cmp Ev.str (p := .str "/*") (q := .str ⟨T⟩) (by run_tac ev) (Cm.inNo (subAt_no hT (c := 47) rfl (by decide)))) (by run_tac dk) rfl rfl ?_
    refine Ex.if (b := true) (Ts.and_if (c := true) (d := true) (Ts.not (b := false) (Ts.plainB (by run_tac ev) fun _ => rfl)) fun _ => Ts.not (b := false) (Ts.plainB (by run_tac ev) fun _ => rfl)) (fun _ => ?_) (fun q => by cases q)
    exact Ex.rets (Ev.glob B.spans (by run_tac dk) rfl (by run_tac dk))
end Mine
-- G1
set_option maxRecDepth 100000
set_option maxHeartbeats 4000000
set_option linter.unusedVariables false
namespace Mine
open PySem PySem.Calls PyProof.Rows PySem.W

/-! ## flat values -/
def PV.flat : PV → Bool
  | .tup _ => false
  | .lst _ => false
  | _ => true
theorem Is.flat {h h' : Heap} {v : Value} {p : PV} (i : Is h v p) (hf : p.flat = true) : Is h' v p := by
  cases i with
  | none => exact .none
  | bool b => exact .bool b
  | int i t => exact .int i t
  | str x t => exact .str x t
  | obj v => exact .obj v
  | tup _ _ => cases hf
  | lst _ _ => cases hf
theorem Gd.kxF {h₀ : Heap} {L : Addr} {ρ : List (Str × PV)} {s : Shared} {S : List Addr} {h' : Heap} {tk : Nat} (G : Gd h₀ L ρ s) (k : Kx S s.heap h') (hf : ∀ x p, ρ.lookup x = some p → p.flat = true) (h0 : ∀ b ∈ S, h₀.get? b = none) (hN : ∀ m, s.heap.Ns L m → h'.Ns L m) :
    Gd h₀ L ρ { s with heap := h', toks := tk } := by
  obtain ⟨m, F, hm⟩ := G
  refine ⟨m, ⟨hN m F.ns, fun b o e => k b o (fun hb => by rw [h0 b hb] at e; cases e) (F.keep b o e), F.above⟩, fun x p e => ?_⟩
  obtain ⟨v, h1, h2⟩ := hm x p e
  exact ⟨v, h1, h2.flat (hf x p e)⟩
theorem flat_cons {ρ : List (Str × PV)} {y : Str} {q : PV} (hq : q.flat = true) (h : ∀ x p, ρ.lookup x = some p → p.flat = true) : ∀ x p, List.lookup x ((y, q) :: ρ) = some p → p.flat = true := by
  intro x p e
  rw [List.lookup_cons] at e
  cases hb : x == y with
  | true => rw [hb] at e; cases e; exact hq
  | false => rw [hb] at e; exact h x p e
theorem flat_nil : ∀ x p, List.lookup x ([] : List (Str × PV)) = some p → p.flat = true := fun _ _ e => nomatch e

/-! ## a match is true -/
theorem nb_match : typeLookup (.type "re.Match") "__bool__" = pure none := by rw [typeLookup_type, builtinLookup_eq_fast]; kernel_rfl
theorem nl_match : typeLookup (.type "re.Match") "__len__" = pure none := by rw [typeLookup_type, builtinLookup_eq_fast]; kernel_rfl
section
variable {prog : Program} {w : World} {A : Around} {E : Value → Shared → Prop} {s : Shared}
theorem truthy_match {a : Addr} {Q : Bool → Shared → Prop} (hT : s.TypeIs (.ref a) "re.Match") (h : Q true s) : wpAny (model prog w) A (truthy (.ref a)) Q E s := by
  unfold truthy
  refine wpAny_bind (wpAny_callSpecial?_none (name := Str.ofString "__bool__") hT nb_match ?_)
  refine wpAny_bind (wpAny_specialOf (name := Str.ofString "__len__") hT nl_match ?_)
  exact wpAny_pure h
end

/-! ## names of one's own -/
theorem InstAt_keeps {h h' : Heap} {x : Addr} {ox : Obj} {C : Addr} {od : Option Obj} (I : InstAt h x ox C od) (k : ∀ b o, h.get? b = some o → h'.get? b = some o) : InstAt h' x ox C od :=
  ⟨k _ _ I.at_, I.cls, I.no, by
    have := I.dict
    revert this
    cases ox.dict <;> cases od <;> intro this
    · exact this
    · exact this
    · exact this
    · exact k _ _ this⟩
section
variable {X : Fm} {ρ : List (Str × PV)} {e l r e1 e2 : Expr} {p q : PV} {pos np : Pos} {v : Value} {ss : List Stmt} {o : Out} {K : Frag} {x C : Addr} {ox : Obj} {od : Option Obj} {nm : Str}
theorem Ev.attrV (hK : K.In X.h₀) (P : PlainCls K C) (I : InstAt X.h₀ x ox C od) (hf : findObj K C od nm = some (.value v)) (hh : handedIn v = true) (hq : Is X.h₀ v q) (he : Ev X ρ e (.obj (.ref x)))
    (hn : ∀ A E s (Q : Value → Shared → Prop), wpAny (model X.prog X.w) A (eval e X.env) (fun o s₁ => wpAny (model X.prog X.w) A (getAttr o nm true) Q E s₁) E s → wpAny (model X.prog X.w) A (eval (.Attribute e nm pos) X.env) Q E s) : Ev X ρ (.Attribute e nm pos) q := fun A R s E Q G h => by
  refine hn _ _ _ _ (he A R s _ _ G fun v' s1 u1 i1 => ?_)
  cases i1
  have G1 : X.Gd ρ s1 := Gd.up G u1
  have k : ∀ b o, X.h₀.get? b = some o → s1.heap.get? b = some o := Gd.base G1
  exact get_value (hK.keeps k) (InstAt_keeps I k) P.ga hf hh (h v _ (u1.trans (.tok _ _)) (hq.keep (.of k)))
theorem an_name (n' : Str) (np : Pos) (nm : Str) (ap : Pos) : ∀ A E s (Q : Value → Shared → Prop), wpAny (model X.prog X.w) A (eval (.Name n' np) X.env) (fun o s₁ => wpAny (model X.prog X.w) A (getAttr o nm true) Q E s₁) E s → wpAny (model X.prog X.w) A (eval (.Attribute (.Name n' np) nm ap) X.env) Q E s :=
  fun A E s Q h => Attribute_Name_ h
theorem MapOf_keeps {prog : Program} {w : World} {T : Type} [DecidableEq T] {knd : KeyKind prog w T} {h h' : Heap} {a : Addr} {f : T → Option Value} (M : h.MapOf knd a f) (k : ∀ b o, h.get? b = some o → h'.get? b = some o) : h'.MapOf knd a f :=
  let ⟨o, es, ep, ho, r⟩ := M; ⟨o, es, ep, k _ _ ho, r⟩
theorem Ts.inMap {a : Str} {d : Addr} {f : Str → Option Value} (M : X.h₀.MapOf (strKind X.prog X.w) d f) (hd : (d == sysModules) = false) (hl : Ev X ρ l (.str a)) (hr : Ev X ρ r (.obj (.ref d))) (hm : behindInMarks .In r = false) : Ts X ρ (.Compare l [.In] [r] pos) (f a).isSome := fun A R s E Q G h =>
  wpAny_isTrue_Compare1 (hl A R s _ _ G fun v s1 u1 i1 => hr A R s1 _ _ (Gd.up G u1) fun v' s2 u2 i2 => by
    cases i1; cases i2
    exact wpAny_in_of (strKind_is _ _ _ _) hd (MapOf_keeps M (Gd.base (Gd.up (Gd.up G u1) u2))) (wpAny_truthy_bool (h _ ((u1.trans u2).trans (.tok _ _))))) hm
theorem Ts.inMapI {i : Int} {d : Addr} {f : Int → Option Value} (M : X.h₀.MapOf (intKind X.prog X.w) d f) (hd : (d == sysModules) = false) (hl : Ev X ρ l (.int i)) (hr : Ev X ρ r (.obj (.ref d))) (hm : behindInMarks .In r = false) : Ts X ρ (.Compare l [.In] [r] pos) (f i).isSome := fun A R s E Q G h =>
  wpAny_isTrue_Compare1 (hl A R s _ _ G fun v s1 u1 i1 => hr A R s1 _ _ (Gd.up G u1) fun v' s2 u2 i2 => by
    cases i1; cases i2
    exact wpAny_in_of (intKind_is _ _ _ _) hd (MapOf_keeps M (Gd.base (Gd.up (Gd.up G u1) u2))) (wpAny_truthy_bool (h _ ((u1.trans u2).trans (.tok _ _))))) hm
theorem Ev.itemMap {a n : Str} {d : Addr} {f : Str → Option Value} (M : X.h₀.MapOf (strKind X.prog X.w) d f) (hv : f a = some v) (hl : Ev X ρ e (.obj (.ref d))) (hr : Ev X ρ (.Name n np) (.str a)) (ht : ∀ o r, letTemporaryGo e o r = pure ()) : Ev X ρ (.Subscript e (.Name n np) pos) (.obj v) := fun A R s E Q G h =>
  wpAny_Subscript_Name_late (hl A R s _ _ G fun v s1 u1 i1 => hr A R s1 _ _ (Gd.up G u1) fun v' s2 u2 i2 => by
    cases i1; cases i2
    have M2 := MapOf_keeps M (Gd.base (Gd.up (Gd.up G u1) u2))
    exact ⟨"dict", _, slot_dict_getitem.lookup, M2.typeIs, wpAny_getItem_of (strKind_is _ _ _ _) M2 hv (h _ _ ((u1.trans u2).trans (.tok _ _)) (.obj _))⟩) ht
end
theorem Fn.introF {prog : Program} {w : World} {h₀ : Heap} {d : Nat} {f : Addr} {name qual : Str} {params : Arguments} {body : List Stmt} {scope : Scope} {cd : Value} {args : List PV} {p : PV} (D : FnAt h₀ f name qual params body scope .none .none cd) (hlim : h₀.NoLimit) (ns : List Str)
    (hbind : ∀ s doc pm an ct vs, vs.length = args.length → BindsTo s (fnOf name qual params body scope .none .none doc pm an cd ct) ⟨vs, []⟩ (ns.zip vs)) (hloc : ∀ x ∈ ns, scope.names.lookup x = some .local)
    (h : ∀ L, Ex ⟨prog, w, h₀, d, qual, scope, L, f, cd⟩ (ns.zip args).reverse body (.ret p))
    (hco : scope.isCoroutine = false) (hgen : scope.isGenerator = false) (hk : scope.kind = .function) (hcell : ∀ x ∈ scope.names, x.2 ≠ .cell) : Fn prog w h₀ (d + 1) (.ref f) args p := fun A R s E Q vs k hsz i K => by
  refine wpAny_call (call_fn (D.keeps k) (hlim.keeps k) (by have := R.depth; omega) (fun doc pm an ct => hbind s doc pm an ct vs i.length) (fun y hy => hloc _ (List.of_mem_zip hy).1) (fun h₁ hns hk₁ => ?_) hcell hco hgen hk)
  refine h s.heap.objs.size (A.deeper _) (R.deeper _) { s with heap := h₁, toks := s.toks + (ns.zip vs).length } _ _ ?_ fun f s' u x => ?_
  · refine ⟨_, ⟨hns, fun b o e => hk₁ _ _ (k b o e), hsz⟩, fun x q e => ?_⟩
    have := isAll_zip (i.keep (.of hk₁)) (acc := []) (accv := []) (fun _ _ e => nomatch e) (by rw [List.append_nil]; exact e)
    rw [List.append_nil] at this
    exact this
  · cases f with
    | ret v =>
      obtain ⟨h', tk, rfl, kk⟩ := u
      exact K v _ ⟨h', tk, rfl, fun b o e => kk b o (Nat.ne_of_lt (Heap.lt_size e)) (hk₁ _ _ e)⟩ x
    | brk | cont | next => exact x.elim

/-! ## is_keyword -/
def kcKeys : List Str := (["SELECT", "INSERT", "DELETE", "UPDATE", "UPSERT", "REPLACE", "MERGE", "DROP", "CREATE", "ALTER", "TRUNCATE", "GRANT", "REVOKE", "WHERE", "FROM", "INNER", "JOIN", "STRAIGHT_JOIN", "AND", "OR", "LIKE", "ON", "IN", "SET", "BY", "GROUP", "ORDER", "LEFT", "OUTER", "FULL", "IF", "END", "THEN", "LOOP", "AS", "ELSE", "FOR", "WHILE", "CASE", "WHEN", "MIN", "MAX", "DISTINCT"] : List String).map Str.ofString
def kwKeys : List Str := (["ABS", "ADD", "ALL", "AT", "AVG", "BEGIN", "BETWEEN", "CALL", "CAST", "COLUMN", "COMMIT", "CONSTRAINT", "COUNT", "CROSS", "CURRENT_DATE", "CURRENT_TIME", "CURRENT_TIMESTAMP", "DAY", "DECLARE", "DEFAULT", "DEFERRED", "DESCRIBE", "DO", "END-EXEC", "EXCEPT", "EXCLUSIVE", "EXECUTE", "EXISTS", "EXPLAIN", "FALSE", "FETCH", "FUNCTION", "HAVING", "HOUR", "IMMEDIATE", "INDEX", "INTERSECT", "INTO", "IS", "ISNULL", "KEY", "LIMIT", "MINUTE", "MONTH", "NOT", "NULL", "OF", "OFFSET", "PRIMARY", "PROCEDURE", "RETURNING", "RETURNS", "ROLE", "ROLLBACK", "SECOND", "START", "SUM", "TABLE", "TO", "TRIGGER", "TRUE", "UNION", "UNIQUE", "USING", "VALUES", "VIEW", "WITH", "WORK", "YEAR", "BIGINT", "BOOLEAN", "CHAR", "DATE", "DECIMAL", "FLOAT", "INT", "INTEGER", "INTERVAL", "NUMERIC", "REAL", "SMALLINT", "TEXT", "VARCHAR"] : List String).map Str.ofString
theorem kc_only : ∀ k ∈ kcKeys, (k.cps.toList.all fun c => (Sig.map up).contains c) = true → (["AS", "IN"] : List Str).any (· == k) = true := by decide +kernel
theorem kw_only : ∀ k ∈ kwKeys, (k.cps.toList.all fun c => (Sig.map up).contains c) = true → k = "IS" := by decide +kernel
theorem word_sig {T : Array Nat} (hT : Tx T) (i e : Nat) : ((Txt.upper ⟨T.extract i e⟩).cps.toList.all fun c => (Sig.map up).contains c) = true := by
  rw [upper_word hT, List.all_eq_true]
  intro c hc
  have hc : c ∈ ((T.extract i e).map up).toList := hc
  rw [Array.toList_map] at hc
  obtain ⟨a, ha, rfl⟩ := List.mem_map.mp hc
  have ha : a ∈ T.extract i e := Array.mem_toList_iff.mp ha
  obtain ⟨j, hj, rfl⟩ := Array.mem_iff_getElem.mp ha
  rw [Array.getElem_extract]
  have hlt : i + j < T.size := by rw [Array.size_extract] at hj; omega
  have := hT.sig (i + j) hlt
  rw [List.contains_iff_mem]
  refine List.mem_map_of_mem ?_
  simpa [Array.getD_eq_getD_getElem?, hlt] using this
/-- what the base tells of the lexer -/
structure LexBase (prog : Program) (w : World) (h₀ : Heap) (K : Frag) (C lx kl kc kw : Addr) (tt : Kd → Addr) : Prop where
  inn : K.In h₀
  lim : h₀.NoLimit
  pc : PlainCls K C
  name : GlobalIs h₀ "Name" (.ref (tt .name))
  kls : Is h₀ (.ref kl) (.lst [.obj (.ref kc), .obj (.ref kw)])
  kcs : (kc == sysModules) = false
  kws : (kw == sysModules) = false
  kcm : ∃ f, h₀.MapOf (strKind prog w) kc f ∧ ∀ k, (f k).isSome = true → k ∈ kcKeys
  kwm : ∃ f, h₀.MapOf (strKind prog w) kw f ∧ (∀ k, (f k).isSome = true → k ∈ kwKeys) ∧ f "IS" = some (.ref (tt .key))
  ins : ∃ ox od, InstAt h₀ lx ox C (some od) ∧ findObj K C (some od) "_keywords" = some (.value (.ref kl)) ∧ handedIn (.ref kl) = true
variable {prog : Program} {w : World} {h₀ : Heap} {d : Nat} {K : Frag} {C lx kl kc kw fk : Addr} {tt : Kd → Addr} {cd : Value}
theorem isk_fn (B : LexBase prog w h₀ K C lx kl kc kw tt) (D : FnAt h₀ fk "is_keyword" "Lexer.is_keyword" iskA iskB iskS .none .none cd) {T : Array Nat} (hT : Tx T) {i e : Nat} (hA : wAsIn T i e = false) :
    Fn prog w h₀ (d + 1) (.ref fk) [.obj (.ref lx), .str ⟨T.extract i e⟩] (.tup [.obj (.ref (tt (if wIs T i e then .key else .name))), .str ⟨T.extract i e⟩]) := by
  have hlen : (T.extract i e).size ≤ 14 := by rw [Array.size_extract]; have := hT.len; omega
  obtain ⟨f1, M1, k1⟩ := B.kcm
  obtain ⟨f2, M2, k2, k3⟩ := B.kwm
  obtain ⟨ox, od, I, hkl, hhl⟩ := B.ins
  have n1 : (f1 (Txt.upper ⟨T.extract i e⟩)).isSome = false := by
    cases hb : (f1 (Txt.upper ⟨T.extract i e⟩)).isSome with
    | false => rfl
    | true =>
      have := kc_only _ (k1 _ hb) (word_sig hT i e)
      unfold wAsIn at hA
      rw [hA] at this; cases this
  have n2 : (f2 (Txt.upper ⟨T.extract i e⟩)).isSome = wIs T i e := by
    cases hb : (f2 (Txt.upper ⟨T.extract i e⟩)).isSome with
    | false =>
      cases hw : wIs T i e with
      | false => rfl
      | true =>
        have e1 : Txt.upper ⟨T.extract i e⟩ = "IS" := by
          have := eq_of_beq hw
          have h2 := Array.toList_inj.mp this
          cases h : Txt.upper ⟨T.extract i e⟩
          rw [h] at h2
          exact congrArg Str.mk h2
        rw [e1, k3] at hb; cases hb
    | true =>
      have := kw_only _ (k2 _ hb) (word_sig hT i e)
      unfold wIs
      rw [this]; rfl
  refine Fn.introF D B.lim ["self", "value"] (fun s doc pm an ct vs hv => ?_) (by decide +kernel) (fun L => ?_) rfl rfl rfl (by decide +kernel)
  · match vs, hv with
    | [a, b], _ => exact BindsTo.of_eq (by rfl)
  · unfold iskB
    refine Ex.asg (p := .str (Txt.upper ⟨T.extract i e⟩)) (Ev.upper (by run_tac ev) (fit_upper (by show (T.extract i e).size ≤ _; omega)) rfl rfl) (by run_tac dk) rfl rfl ?_
    refine Ex.ret (Ex1.forE (items := [.obj (.ref kc), .obj (.ref kw)]) (Ev.attrV B.inn B.pc I hkl hhl B.kls (by run_tac ev) ?_) ?_ (by run_tac dk) rfl)
    · exact an_name _ _ _ _
    · refine .inl ⟨_, Ex.if (b := false) (n1 ▸ Ts.inMap M1 B.kcs (by run_tac ev) (by run_tac ev) rfl) (fun q => by cases q) (fun _ => Ex.nil), ?_⟩
      cases hw : wIs T i e with
      | false =>
        refine .inl ⟨_, Ex.if (b := false) ((n2.trans hw) ▸ Ts.inMap M2 B.kws (by run_tac ev) (by run_tac ev) rfl) (fun q => by cases q) (fun _ => Ex.nil), ?_⟩
        exact Ex.rets (Ev.tuple (EvArgs.cons (Ev.glob B.name (by run_tac dk) rfl (by run_tac dk)) (EvArgs.cons (by run_tac ev) EvArgs.nil)) (by show (2 : Nat) ≤ sizeLine; decide))
      | true =>
        have hv : f2 (Txt.upper ⟨T.extract i e⟩) = some (.ref (tt .key)) := by
          have e1 : Txt.upper ⟨T.extract i e⟩ = "IS" := kw_only _ (k2 _ (n2.trans hw)) (word_sig hT i e)
          rw [e1]; exact k3
        refine .inr ⟨_, rfl, ?_⟩
        refine Ex.if (b := true) ((n2.trans hw) ▸ Ts.inMap M2 B.kws (by run_tac ev) (by run_tac ev) rfl) (fun _ => ?_) (fun q => by cases q)
        exact Ex.rets (Ev.tuple (EvArgs.cons (Ev.itemMap M2 hv (by run_tac ev) (by run_tac ev) (fun _ _ => rfl)) (EvArgs.cons (by run_tac ev) EvArgs.nil)) (by show (2 : Nat) ≤ sizeLine; decide))
end Mine
-- G2
set_option maxRecDepth 100000
set_option maxHeartbeats 4000000
set_option linter.unusedVariables false
namespace Mine
open PySem PySem.Calls PyProof.Rows PySem.W PySem.Sre PySem.Builtin PySem.Builtin.Re

section
variable {prog : Program} {w : World} {A : Around} {E : Value → Shared → Prop} {s : Shared}
/-- the match is made of new objects -/
theorem wp_newMatchN {G p e : Nat} {T : Array Nat} {t : Tok} {pat : Value} {m : M} {lim : Nat} {Q : Value → Shared → Prop} (hG : G ≤ 10) (hh : m.handed = e) (hs : m.start = p) (hw : WS m.marks m.lastmark)
    (hq : ∀ a s', Mine.Up s s' → (∀ h', (∀ b o, s.heap.get? b = none → s'.heap.get? b = some o → h'.get? b = some o) → MatchAt h' a T p e) → Q (.ref a) s') : wpAny (model prog w) A (reNewMatch pat (.str ⟨T⟩ t) G p lim m) Q E s := by
  unfold reNewMatch
  have hany : ((List.range G).any (fun g => match m.marks.getD (2 * g) none, m.marks.getD (2 * g + 1) none with | some b, some e => ((2 * g + 1 : Nat) : Int) ≤ m.lastmark && e < b | _, _ => false)) = false := by
    rw [List.any_eq_false]
    intro g _
    cases hb : m.marks.getD (2 * g) none with
    | none => simp
    | some b =>
      cases he : m.marks.getD (2 * g + 1) none with
      | none => simp
      | some x =>
        simp only [Bool.and_eq_true, decide_eq_true_eq, not_and]
        intro hl
        have := hw g b x hl hb he
        omega
  simp only []
  refine wpAny_ite_split (fun hc => absurd (show false = true from hany.symm.trans hc) Bool.false_ne_true) fun _ => ?_
  have hlen := spans_len m (List.range G)
  rw [List.length_range] at hlen
  generalize hl : List.flatMap _ (List.range G) = l at hlen
  have hl' : l.length = 2 * G := hlen
  unfold newTuple newFields
  refine wpAny_bind (wpAny_newObj_type ?_ (by show (rawInt _ :: rawInt _ :: _ : List Value).toArray.size ≤ sizeLine; simp [hl']; exact Nat.le_trans (show 2 * G + 1 + 1 ≤ 30 by omega) (by decide)))
  refine wpAny_newObj_type ?_ (by show (6 : Nat) ≤ sizeLine + 2; decide)
  rw [hs, hh]
  refine hq _ _ ((Mine.Up.push s _ s.toks).trans (Mine.Up.push _ _ _)) fun h' k => ⟨_, _, t, s.heap.objs.size, _, l, 0, k _ _ (Heap.get?_none_of_le ?_) (Heap.get?_push_size _ rfl), rfl, rfl, rfl, rfl, rfl, k _ _ (Heap.get?_none_of_le (Nat.le_refl _)) (Heap.get?_push_of_some _ (Heap.get?_push_size _ rfl)), rfl⟩
  show s.heap.objs.size ≤ (s.heap.push _).objs.size
  rw [Heap.size_push]; exact Nat.le_succ _
theorem wp_patmatchN {a : Addr} {G : Nat} {C T : Array Nat} {t u : Tok} {p : Nat} {r : Res} {Q : Value → Shared → Prop} (P : PatAt s.heap a G C) (hp : p ≤ T.size) (hT : T.size ≤ 14) (hG : G ≤ 10) (h : Ma C G T p r) (hmin : ∀ e, r = .yes e → p + (header C).1 ≤ T.size)
    (hq : match r with | .no => Q .none s | .yes e => ∀ a s', Mine.Up s s' → (∀ h', (∀ b o, s.heap.get? b = none → s'.heap.get? b = some o → h'.get? b = some o) → MatchAt h' a T p e) → Q (.ref a) s') : wpAny (model prog w) A (PySem.call (.builtin "re.Pattern.match") [.ref a, .str ⟨T⟩ t, .int p u]) Q E s := by
  have hty : s.TypeIs (.ref a) "re.Pattern" := by
    obtain ⟨o, vs, ca, oc, ws, n, h1, h2, _⟩ := P.ex
    exact ⟨o, h1, h2⟩
  refine wpAny_call_entry slot_re_Pattern_match hty entry_re_Pattern_match ?_ (args_re_Pattern_match _ _ _)
  show wpAny _ _ (reTarget "re.Pattern.match" "match" ⟨[.ref a, .str ⟨T⟩ t, .int p u], []⟩ >>= fun t => reAnswer t (Sre.forMatch t.code t.text t.groups t.pos t.lim false false)) _ _ _
  refine wpAny_bind (wp_target P hp hT ?_)
  unfold reAnswer
  refine wpAny_bind (wp_match h hmin ?_)
  cases r with
  | no => exact wpAny_pure ⟨_, rfl, hq⟩
  | yes e =>
    intro m h1 h2 h3
    exact wpAny_bind (wp_newMatchN hG h1 h2 h3 fun a s' u k => wpAny_pure ⟨_, rfl, hq a s' u k⟩)

/-! ## the enumerate in a for -/
theorem en_let {elts : List Expr} {x1} {pos : Pos} {e it a : Addr} {x : Str} {t : Tok} {i : Nat} {Q : Unit → Shared → Prop} (X : EnAt s.heap e it x t i)
    (hQ : ∀ h', EnAt h' e it x t i → Kx [e, it] s.heap h' → Q () { s with heap := h' }) : wpAny (model prog w) A (letOwnedTupleGo (.Tuple elts x1 pos) (.ref e) (.ref a)) Q E s := by
  obtain ⟨⟨f0, b, old, he, hf⟩, hit, hne⟩ := X
  unfold letOwnedTupleGo
  refine wpAny_bind (wpAny_load he ?_)
  dsimp only
  split
  · refine wpAny_bind (wpAny_rule ?_)
    show wpAny _ _ (setField (.ref e) 0 .none) Q E s
    exact wpAny_setField_rec he (by simp) fun h' he' hs' => hQ h' ⟨⟨.none, b, old, he', .inl rfl⟩, let ⟨o, ho, r⟩ := hit; ⟨o, hs'.extBut _ _ (Ne.symm hne) ho, r⟩, hne⟩ (Kx.of_same hs' (by simp))
  · exact wpAny_pure (hQ s.heap ⟨⟨f0, b, old, he, hf⟩, hit, hne⟩ (Kx.refl _ _))
theorem li_let {elts : List Expr} {x1} {pos : Pos} {I l : Addr} {v : Value} {i : Nat} {Q : Unit → Shared → Prop} (hit : s.heap.IsListIter I l i) (h : Q () s) : wpAny (model prog w) A (letOwnedTupleGo (.Tuple elts x1 pos) (.ref I) v) Q E s := by
  obtain ⟨⟨c, dd, dt, sl⟩, ho, hc, hd⟩ := hit
  dsimp only at hc hd
  subst hc; subst hd
  unfold letOwnedTupleGo
  cases v with
  | ref a =>
    refine wpAny_bind (wpAny_load ho ?_)
    dsimp only
    rw [if_neg (by
      rw [Bool.and_eq_true]
      rintro ⟨h1, _⟩
      exact absurd h1 (by decide))]
    exact wpAny_pure h
  | _ => exact wpAny_pure h
end

section
variable {X : Fm} {ρ : List (Str × PV)} {p q : PV} {s : Shared} {A : Around} {E : Value → Shared → Prop} {Q : Unit → Shared → Prop}
/-- a pair is taken apart -/
theorem asgTup {x y : Str} {px py tp : Pos} {k : Nat} {a : Addr} {v1 v2 : Value} {n : Nat} (G : X.Gd ρ s) (ho : s.heap.get? a = some { cls := .type "tuple", data := .seq #[v1, v2] n }) (i1 : Is s.heap v1 p) (i2 : Is s.heap v2 q) (hx : X.scope.names.lookup x = some .local) (hy : X.scope.names.lookup y = some .local) (hk : X.scope.kind = .function)
    (hh : A.handled = none) (h : ∀ s', UpL X.L s s' → X.Gd ((y, q) :: (x, p) :: ρ) s' → Q () s') : wpAny (model X.prog X.w) A (assign (.Tuple [.Name x px, .Name y py] k tp) X.env (.ref a)) Q E s := by
  rw [arm_assign_Tuple]
  refine wpAny_bind (wpAny_standAt (PyProof.Rows.unpack_tuple hh (isTup_of (vs := [v1, v2]) ho) rfl rfl fun h' he => ?_))
  have u2 := Up.ext he
  have G2 : X.Gd ρ _ := Gd.up G u2
  refine assignInOrder_cons (wpAny_assign_Name (storeB G2 (i1.keep (.of u2.keep)) hx hk fun s3 u3 k3 G3 => ?_))
  refine assignInOrder_cons (wpAny_assign_Name (storeB G3 ((i2.keep (.of u2.keep)).keep k3) hy hk fun s4 u4 k4 G4 => ?_))
  exact assignInOrder_nil (h s4 (((u2.upL _).trans u3).trans u4) G4)
end

/-! ## what a stretch keeps -/
structure GK (Lw : Addr) (S : List Addr) (s s' : Shared) : Prop where
  ht : Ht s s'
  kx : Kx S s.heap s'.heap
  ns : ∀ m, s.heap.Ns Lw m → s'.heap.Ns Lw m
theorem GK.refl (Lw : Addr) (S : List Addr) (s : Shared) : GK Lw S s s := ⟨.refl s, .refl _ _, fun _ x => x⟩
theorem GK.trans {Lw : Addr} {S : List Addr} {a b c : Shared} (x : GK Lw S a b) (y : GK Lw S b c) : GK Lw S a c := ⟨x.ht.trans y.ht, x.kx.trans y.kx, fun m z => y.ns m (x.ns m z)⟩
theorem GK.mono {Lw : Addr} {S S' : List Addr} {a b : Shared} (x : GK Lw S a b) (h : ∀ y ∈ S, y ∈ S') : GK Lw S' a b := ⟨x.ht, x.kx.mono h, x.ns⟩
theorem GK.up {Lw : Addr} {S : List Addr} {s s' : Shared} (u : Up s s') : GK Lw S s s' := ⟨u.ht, Kx.of_keep u.keep, fun m x => x.keeps u.keep⟩
theorem ns_ext {h h' : Heap} {L : Addr} {m : Str → Option Value} (x : h.Ns L m) (k : ∀ o, h.get? L = some o → h'.get? L = some o) : h'.Ns L m := by
  obtain ⟨o, es, ep, ho, r⟩ := x
  exact ⟨o, es, ep, k _ ho, r⟩
theorem GK.upL {Lw L : Addr} {S : List Addr} {s s' : Shared} (u : UpL L s s') (hL : L ∈ S) (hn : Lw ≠ L) : GK Lw S s s' := by
  have ht := u.ht
  obtain ⟨h', tk, rfl, k⟩ := u
  exact ⟨ht, fun b o hb e => k b o (fun q => hb (q ▸ hL)) e, fun m x => ns_ext x fun o e => k _ _ hn e⟩
theorem GK.kx' {Lw : Addr} {S S' : List Addr} {s : Shared} {h' : Heap} {tk : Nat} (k : Kx S' s.heap h') (hS : ∀ b ∈ S', b ∈ S) (hn : Lw ∉ S') : GK Lw S s { s with heap := h', toks := tk } :=
  ⟨⟨h', tk, rfl⟩, k.mono hS, fun m x => ns_ext x fun o e => k _ _ hn e⟩
/-- a new object that changes does not count -/
theorem GK.drop {Lw I : Addr} {S : List Addr} {s s' : Shared} (x : GK Lw (I :: S) s s') (hI : s.heap.get? I = none) : GK Lw S s s' :=
  ⟨x.ht, fun b o hb e => x.kx b o (fun hm => by
    rcases List.mem_cons.mp hm with rfl | hm
    · rw [hI] at e; cases e
    · exact hb hm) e, x.ns⟩
theorem GK.en {Lw : Addr} {S : List Addr} {s s' : Shared} (g : GK Lw S s s') {e it : Addr} {x : Str} {t : Tok} {i : Nat} (X : EnAt s.heap e it x t i) (he : e ∉ S) (hi : it ∉ S) : EnAt s'.heap e it x t i := X.keep g.kx he hi
end Mine
-- G3
set_option maxRecDepth 100000
set_option maxHeartbeats 4000000
set_option linter.unusedVariables false
namespace Mine
open PySem PySem.Calls PyProof.Rows PySem.W PySem.Sre PySem.Builtin PySem.Builtin.Re

section
variable {X : Fm} {ρ : List (Str × PV)} {p q : PV} {s : Shared} {A : Around} {E : Value → Shared → Prop} {Q : Value → Shared → Prop} {n nm : Str} {np ap pos : Pos} {a : Addr} {T id : String} {es : List Expr} {e : Expr} {ps : List PV}
theorem meth_call (G : X.Gd ρ s) (R : Rm X.d A) (hn : Ev X ρ (.Name n np) (.obj (.ref a))) (pa : PlainAttrs T) (slot : Slot T nm id) (hty : typeOf (.builtin id) = pure (.type "method_descriptor"))
    (hT : ∃ o, s.heap.get? a = some o ∧ o.cls = .type T ∧ o.dict = none) (ha : EvArgs X ρ (e :: es) ps)
    (hbase : attributeBase (.Name n np) nm X.env (eval (.Name n np) X.env) = eval (.Name n np) X.env)
    (hfew : ((backTo pos (starEach (e :: es) X.env)).all (fun x => !x.1) && (backToKw pos (keywordEach [] X.env)).all (fun x => x.1.isSome)
      && decide ((e :: es).length + ([] : List Keyword).length + (if ([] : List Keyword).isEmpty then 0 else 1) < 30)) = true)
    (hline : (ap.endLine == pos.line) = true) (hpl : ((backTo pos (starEach (e :: es) X.env)).any (·.1) || (backToKw pos (keywordEach [] X.env)).any (·.1.isNone)) = false) (he : starEach (e :: es) X.env = (false, eval e X.env) :: starEach es X.env)
    (h : ∀ vs s1, Mine.Up s s1 → IsAll s1.heap vs ps → wpAny (model X.prog X.w) A (PySem.call (.builtin id) (.ref a :: vs)) Q E s1) :
    wpAny (model X.prog X.w) A (eval (.Call (.Attribute (.Name n np) nm ap) (e :: es) [] pos) X.env) Q E s := by
  refine wpAny_Call_method hbase hfew hline pa slot hty (hn A R s _ _ G fun v s1 u1 i1 => ?_)
  cases i1
  obtain ⟨o, ho, hc, hd⟩ := hT
  refine ⟨⟨o, u1.keep _ _ ho, hc⟩, fun b hb => by cases hb; exact ⟨o, u1.keep _ _ ho, hd⟩, ?_⟩
  show wpAny _ _ (callWith pos (.builtin id) [.ref a] (backTo pos (starEach (e :: es) X.env)) (backToKw pos (keywordEach [] X.env))) _ _ _
  refine callWith_of (P := fun _ => True) hpl (fun h _ => ⟨Keeper.machine, .inr (.inl rfl), Looks.of_pure rfl⟩) (evalArgs_kw2 rfl (ha A R pos s1 _ _ (Gd.up G u1) fun vs s2 u2 i2 => kwAll_nil ⟨trivial, ?_⟩) he)
  exact h vs s2 (u1.trans u2) i2
theorem meth_call0 (G : X.Gd ρ s) (R : Rm X.d A) (hn : Ev X ρ (.Name n np) (.obj (.ref a))) (pa : PlainAttrs T) (slot : Slot T nm id) (hty : typeOf (.builtin id) = pure (.type "method_descriptor"))
    (hT : ∃ o, s.heap.get? a = some o ∧ o.cls = .type T ∧ o.dict = none)
    (hbase : attributeBase (.Name n np) nm X.env (eval (.Name n np) X.env) = eval (.Name n np) X.env)
    (hline : (ap.endLine == pos.line) = true)
    (h : ∀ s1, Mine.Up s s1 → wpAny (model X.prog X.w) A (PySem.call (.builtin id) [.ref a]) Q E s1) :
    wpAny (model X.prog X.w) A (eval (.Call (.Attribute (.Name n np) nm ap) [] [] pos) X.env) Q E s := by
  refine wpAny_Call_method hbase (by rfl) hline pa slot hty (hn A R s _ _ G fun v s1 u1 i1 => ?_)
  cases i1
  obtain ⟨o, ho, hc, hd⟩ := hT
  refine ⟨⟨o, u1.keep _ _ ho, hc⟩, fun b hb => by cases hb; exact ⟨o, u1.keep _ _ ho, hd⟩, ?_⟩
  show wpAny _ _ (callWith pos (.builtin id) [.ref a] (backTo pos (starEach [] X.env)) (backToKw pos (keywordEach [] X.env))) _ _ _
  refine callWith_of (P := fun _ => True) (by rfl) (fun h _ => ⟨Keeper.machine, .inr (.inl rfl), Looks.of_pure rfl⟩) (evalArgs_kw2_nil rfl (kwAll_nil ⟨trivial, ?_⟩))
  exact h s1 u1
end
theorem PatAt.plain {h : Heap} {a : Addr} {G : Nat} {C : Array Nat} (P : PatAt h a G C) : ∃ o, h.get? a = some o ∧ o.cls = .type "re.Pattern" ∧ o.dict = none := by
  obtain ⟨o, vs, ca, oc, ws, n, h1, h2, h3, _⟩ := P.ex
  exact ⟨o, h1, h2, h3⟩
theorem MatchAt.plain {h : Heap} {a : Addr} {T : Array Nat} {p e : Nat} (P : MatchAt h a T p e) : ∃ o, h.get? a = some o ∧ o.cls = .type "re.Match" ∧ o.dict = none := by
  obtain ⟨o, vs, t, sa, os, rest, n, h1, h2, h3, _⟩ := P.ex
  exact ⟨o, h1, h2, h3⟩

/-! ## the frame of get_tokens -/
abbrev gtX (prog : Program) (w : World) (B : Heap) (L f : Addr) (cd : Value) : Fm := ⟨prog, w, B, 8, "Lexer.get_tokens", gtS, L, f, cd⟩
def gr0 (e ns od lx : Addr) (T : Array Nat) : List (Str × PV) := [("iterable", .obj (.ref e)), ("span_openers", .obj (.ref od)), ("delimited_spans", .obj (.ref ns)), ("encoding", .none), ("text", .str ⟨T⟩), ("self", .obj (.ref lx))]
def gr1 (e ns od lx : Addr) (T : Array Nat) (i : Nat) : List (Str × PV) := ("char", .str ⟨#[ch T i]⟩) :: ("pos", .int i) :: gr0 e ns od lx T
def gr2 (e ns od lx : Addr) (T : Array Nat) (i : Nat) (pa : Addr) (q : PV) : List (Str × PV) := ("action", q) :: ("rexmatch", .obj (.ref pa)) :: gr1 e ns od lx T i
def gr3 (e ns od lx : Addr) (T : Array Nat) (i : Nat) (pa : Addr) (q m : PV) : List (Str × PV) := ("m", m) :: gr2 e ns od lx T i pa q

section
variable {prog : Program} {w : World} {B : Heap} {Lg fG : Addr} {cd : Value} {e ns od lx pa a : Addr} {T : Array Nat} {i x : Nat} {q : PV} {s : Shared} {A : Around} {E : Value → Shared → Prop} {Q : Value → Shared → Prop}
/-- rexmatch.match(text, pos) -/
theorem gt_match {np ap tp pp pos : Pos} {G : Nat} {C : Array Nat} {r : Res} (g : (gtX prog w B Lg fG cd).Gd (gr2 e ns od lx T i pa q) s) (R : Rm 8 A) (P : PatAt B pa G C) (hp : i ≤ T.size) (hT : T.size ≤ 14) (hG : G ≤ 10) (h : Ma C G T i r) (hmin : ∀ e, r = .yes e → i + (header C).1 ≤ T.size)
    (hline : (ap.endLine == pos.line) = true)
    (hq : match r with | .no => ∀ s', Mine.Up s s' → Q .none s' | .yes x => ∀ a s', Mine.Up s s' → (∀ h', (∀ b o, s.heap.get? b = none → s'.heap.get? b = some o → h'.get? b = some o) → MatchAt h' a T i x) → Q (.ref a) s') :
    wpAny (model prog w) A (eval (.Call (.Attribute (.Name "rexmatch" np) "match" ap) [.Name "text" tp, .Name "pos" pp] [] pos) (gtX prog w B Lg fG cd).env) Q E s := by
  have hb := Gd.base g
  refine meth_call (X := gtX prog w B Lg fG cd) (ρ := gr2 e ns od lx T i pa q) (a := pa) (ps := [.str ⟨T⟩, .int i]) g R (by unfold gr2 gr1 gr0; run_tac ev) plain_re_Pattern slot_re_Pattern_match type_re_Pattern_match (P.keep hb).plain
    (EvArgs.cons (by unfold gr2 gr1 gr0; run_tac ev) (EvArgs.cons (by unfold gr2 gr1 gr0; run_tac ev) EvArgs.nil)) rfl rfl hline rfl rfl fun vs s1 u1 i1 => ?_
  obtain ⟨v1, v2, rfl, i1, i2⟩ := isAll2 i1
  cases i1; cases i2
  refine wp_patmatchN ((P.keep hb).keep u1.keep) hp hT hG h hmin ?_
  cases r with
  | no => exact hq s1 u1
  | yes x =>
    intro a s2 u2 k
    refine hq a s2 (u1.trans u2) fun h' kk => k h' fun b o hb e => kk b o ?_ e
    cases hn : s.heap.get? b with
    | none => rfl
    | some o' => have := u1.keep _ _ hn; rw [hb] at this; cases this
/-- m.group() -/
theorem gt_group {mp ap pos : Pos} {ρ : List (Str × PV)} (g : (gtX prog w B Lg fG cd).Gd ρ s) (R : Rm 8 A) (hn : Ev (gtX prog w B Lg fG cd) ρ (.Name "m" mp) (.obj (.ref a))) (M : ∀ h', (∀ b o, s.heap.get? b = some o → h'.get? b = some o) → MatchAt h' a T i x) (hT : T.size ≤ 14) (hline : (ap.endLine == pos.line) = true)
    (hq : ∀ s' t, Mine.Up s s' → Q (.str ⟨T.extract i x⟩ t) s') : wpAny (model prog w) A (eval (.Call (.Attribute (.Name "m" mp) "group" ap) [] [] pos) (gtX prog w B Lg fG cd).env) Q E s :=
  meth_call0 (X := gtX prog w B Lg fG cd) g R hn plain_re_Match slot_re_Match_group type_re_Match_group (M _ fun _ _ e => e).plain rfl hline fun s1 u1 =>
    wp_group (M _ u1.keep) hT fun t => hq _ t (u1.trans (.tok _ _))
theorem gt_end {mp ap pos : Pos} {ρ : List (Str × PV)} (g : (gtX prog w B Lg fG cd).Gd ρ s) (R : Rm 8 A) (hn : Ev (gtX prog w B Lg fG cd) ρ (.Name "m" mp) (.obj (.ref a))) (M : ∀ h', (∀ b o, s.heap.get? b = some o → h'.get? b = some o) → MatchAt h' a T i x) (hline : (ap.endLine == pos.line) = true)
    (hq : ∀ s' t, Mine.Up s s' → Q (.int x t) s') : wpAny (model prog w) A (eval (.Call (.Attribute (.Name "m" mp) "end" ap) [] [] pos) (gtX prog w B Lg fG cd).env) Q E s :=
  meth_call0 (X := gtX prog w B Lg fG cd) g R hn plain_re_Match slot_re_Match_end type_re_Match_end (M _ fun _ _ e => e).plain rfl hline fun s1 u1 =>
    wp_end (M _ u1.keep) fun t => hq _ t (u1.trans (.tok _ _))
/-- (action, m.group()) -/
theorem gt_y1 {mp ap gp cp pos : Pos} {k : Nat} {v : Value} {ρ : List (Str × PV)} (g : (gtX prog w B Lg fG cd).Gd ρ s) (R : Rm 8 A) (hn : Ev (gtX prog w B Lg fG cd) ρ (.Name "m" mp) (.obj (.ref a))) (ha : Ev (gtX prog w B Lg fG cd) ρ (.Name "action" ap) (.obj v)) (M : ∀ h', (∀ b o, s.heap.get? b = some o → h'.get? b = some o) → MatchAt h' a T i x) (hT : T.size ≤ 14) (hline : (gp.endLine == cp.line) = true)
    (hq : ∀ s' y t, Mine.Up s s' → s'.heap.get? y = some { cls := .type "tuple", data := .seq #[v, .str ⟨T.extract i x⟩ t] } → Q (.ref y) s') :
    wpAny (model prog w) A (eval (.Tuple [.Name "action" ap, .Call (.Attribute (.Name "m" mp) "group" gp) [] [] cp] k pos) (gtX prog w B Lg fG cd).env) Q E s := by
  refine wpAny_Tuple (wpAny_items_cons (ha A R s _ _ g fun v' s1 u1 i1 => ?_) rfl)
  cases i1
  refine wpAny_items_cons (gt_group (Gd.up g u1) R hn (fun h' k => M h' fun b o e => k b o (u1.keep b o e)) hT hline fun s2 t u2 => ?_) rfl
  refine wpAny_items_nil ⟨by show (2 : Nat) ≤ sizeLine; decide, ?_⟩
  exact hq _ _ t ((u1.trans u2).trans (.push _ _ _)) (Heap.get?_push_size _ rfl)
end
end Mine
-- G4
set_option maxRecDepth 100000
set_option maxHeartbeats 4000000
set_option linter.unusedVariables false
namespace Mine
open PySem PySem.Calls PyProof.Rows PySem.W

/-! ## what the base tells of get_tokens -/
def ActOk (tt : Kd → Addr) (act : Option Kd) (q : PV) : Prop := (∀ k, act = some k → k ≠ .err → q = .obj (.ref (tt k))) ∧ (act = none → q = .str "PROCESS_AS_KEYWORD")
structure Nam where
  C : Addr
  lx : Addr
  pt : Addr
  kl : Addr
  kc : Addr
  kw : Addr
  ns : Addr
  od : Addr
  CT : Addr
  fk : Addr
  tt : Kd → Addr
structure GtBase (prog : Program) (w : World) (h₀ : Heap) (K : Frag) (J : Isl) (N : Nam) : Prop where
  con : ConBase h₀ K J
  fds : FdsBase h₀ N.ns
  lex : LexBase prog w h₀ K N.C N.lx N.kl N.kc N.kw N.tt
  isi : GlobalIs h₀ "isinstance" (.builtin "isinstance")
  str : GlobalIs h₀ "str" (.type "str")
  enu : GlobalIs h₀ "enumerate" (.type "enumerate")
  tyC : GlobalIs h₀ "_TokenType" (.ref N.CT)
  pk : ∃ tk, GlobalIs h₀ "PROCESS_AS_KEYWORD" (.str "PROCESS_AS_KEYWORD" tk)
  err : GlobalIs h₀ "Error" (.ref (N.tt .err))
  tok : ∀ k, ∃ o, h₀.get? (N.tt k) = some o ∧ o.cls = .ref N.CT
  kst : kitOne K (.type "str") (.type "str") = some true
  kstC : kitOne K (.type "str") (.ref N.CT) = some false
  isk : findIn K (.ref N.C) "is_keyword" = some (some (.ref N.fk))
  iskF : typeIn K (.ref N.fk) = some (.type "function")
  iskK : keepIn K (.ref N.fk) = true
  iskA : ∃ cd, FnAt h₀ N.fk "is_keyword" "Lexer.is_keyword" Mine.iskA iskB iskS .none .none cd
  ins : ∃ ox od, InstAt h₀ N.lx ox N.C (some od) ∧ findObj K N.C (some od) "_SQL_REGEX" = some (.value (.ref N.pt)) ∧ handedIn (.ref N.pt) = true ∧ shadowIn (some od) "is_keyword" = some false
  opn : ∃ CD p dx f i, PlainCls K CD ∧ SlotOk K CD p i "openers" ∧ SlAt h₀ N.ns CD dx f ∧ f i = some (.ref N.od) ∧ handedIn (.ref N.od) = true
  odm : h₀.MapOf (intKind prog w) N.od (fun _ => none)
  ods : (N.od == sysModules) = false
  tab : ∃ (items : List Value) (n : Nat), h₀.get? N.pt = some { cls := .type "list", data := .seq items.toArray n } ∧ items.length = 49 ∧
    ∀ (j : Nat) (x : Pt), pts[j]? = some x → ∃ (a pa : Addr) (q : PV) (v2 : Value) (n' : Nat), items[j]? = some (.ref a) ∧ h₀.get? a = some { cls := .type "tuple", data := .seq #[.ref pa, v2] n' } ∧ Is h₀ v2 q ∧ PatAt h₀ pa x.G x.C ∧ q.flat = true ∧ ActOk N.tt x.act q

theorem pts_err : ∀ x ∈ pts, x.act = some .err → ∀ T p, x.r T p = .no := by
  unfold pts
  exact (List.forall_mem_cons.mpr ⟨(fun h => nomatch h), (List.forall_mem_cons.mpr ⟨(fun h => nomatch h), (List.forall_mem_cons.mpr ⟨(fun h => nomatch h), (List.forall_mem_cons.mpr ⟨(fun h => nomatch h), (List.forall_mem_cons.mpr ⟨(fun _ _ _ => rfl), (List.forall_mem_cons.mpr ⟨(fun _ _ _ => rfl), (List.forall_mem_cons.mpr ⟨(fun h => nomatch h), (List.forall_mem_cons.mpr ⟨(fun _ _ _ => rfl), (List.forall_mem_cons.mpr ⟨(fun _ _ _ => rfl), (List.forall_mem_cons.mpr ⟨(fun _ _ _ => rfl), (List.forall_mem_cons.mpr ⟨(fun _ _ _ => rfl), (List.forall_mem_cons.mpr ⟨(fun _ _ _ => rfl), (List.forall_mem_cons.mpr ⟨(fun _ _ _ => rfl), (List.forall_mem_cons.mpr ⟨(fun h => nomatch h), (List.forall_mem_cons.mpr ⟨(fun _ _ _ => rfl), (List.forall_mem_cons.mpr ⟨(fun h => nomatch h), (List.forall_mem_cons.mpr ⟨(fun h => nomatch h), (List.forall_mem_cons.mpr ⟨(fun h => nomatch h), (List.forall_mem_cons.mpr ⟨(fun _ _ _ => rfl), (List.forall_mem_cons.mpr ⟨(fun h => nomatch h), (List.forall_mem_cons.mpr ⟨(fun h => nomatch h), (List.forall_mem_cons.mpr ⟨(fun h => nomatch h), (List.forall_mem_cons.mpr ⟨(fun h => nomatch h), (List.forall_mem_cons.mpr ⟨(fun _ _ _ => rfl), (List.forall_mem_cons.mpr ⟨(fun _ _ _ => rfl), (List.forall_mem_cons.mpr ⟨(fun _ _ _ => rfl), (List.forall_mem_cons.mpr ⟨(fun _ _ _ => rfl), (List.forall_mem_cons.mpr ⟨(fun _ _ _ => rfl), (List.forall_mem_cons.mpr ⟨(fun _ _ _ => rfl), (List.forall_mem_cons.mpr ⟨(fun _ _ _ => rfl), (List.forall_mem_cons.mpr ⟨(fun _ _ _ => rfl), (List.forall_mem_cons.mpr ⟨(fun _ _ _ => rfl), (List.forall_mem_cons.mpr ⟨(fun _ _ _ => rfl), (List.forall_mem_cons.mpr ⟨(fun _ _ _ => rfl), (List.forall_mem_cons.mpr ⟨(fun _ _ _ => rfl), (List.forall_mem_cons.mpr ⟨(fun _ _ _ => rfl), (List.forall_mem_cons.mpr ⟨(fun _ _ _ => rfl), (List.forall_mem_cons.mpr ⟨(fun _ _ _ => rfl), (List.forall_mem_cons.mpr ⟨(fun _ _ _ => rfl), (List.forall_mem_cons.mpr ⟨(fun _ _ _ => rfl), (List.forall_mem_cons.mpr ⟨(fun _ _ _ => rfl), (List.forall_mem_cons.mpr ⟨(fun _ _ _ => rfl), (List.forall_mem_cons.mpr ⟨(fun _ _ _ => rfl), (List.forall_mem_cons.mpr ⟨(fun _ _ _ => rfl), (List.forall_mem_cons.mpr ⟨(fun h => nomatch h), (List.forall_mem_cons.mpr ⟨(fun h => nomatch h), (List.forall_mem_cons.mpr ⟨(fun h => nomatch h), (List.forall_mem_cons.mpr ⟨(fun h => nomatch h), (List.forall_mem_cons.mpr ⟨(fun h => nomatch h), fun _ h => nomatch h⟩)⟩)⟩)⟩)⟩)⟩)⟩)⟩)⟩)⟩)⟩)⟩)⟩)⟩)⟩)⟩)⟩)⟩)⟩)⟩)⟩)⟩)⟩)⟩)⟩)⟩)⟩)⟩)⟩)⟩)⟩)⟩)⟩)⟩)⟩)⟩)⟩)⟩)⟩)⟩)⟩)⟩)⟩)⟩)⟩)⟩)⟩)⟩)⟩)
theorem pts_none : ∀ (j : Nat) (x : Pt), pts[j]? = some x → x.act = none → j = 44 := by
  intro j x hx ha
  have hj : j < 49 := (List.getElem?_eq_some_iff.mp hx).1
  have h2 : (pts.map (·.act.isNone))[j]? = some true := by rw [List.getElem?_map, hx]; show some x.act.isNone = _; rw [ha]; rfl
  have := (by decide +kernel : ∀ j < 49, (pts.map (·.act.isNone))[j]? = some true → j = 44)
  exact this j hj h2

section
variable {prog : Program} {w : World} {B : Heap} {K : Frag} {J : Isl} {N : Nam} {Lg fG : Addr} {cd : Value} {e pa a : Addr} {T : Array Nat} {i x : Nat} {q : PV} {s : Shared} {A : Around} {E : Value → Shared → Prop}
abbrev grA (N : Nam) (e : Addr) (T : Array Nat) (i : Nat) (pa : Addr) (q m : PV) := gr3 e N.ns N.od N.lx T i pa q m

theorem gt_notM {np up : Pos} {ρ : List (Str × PV)} {Q : Bool → Shared → Prop} (g : (gtX prog w B Lg fG cd).Gd ρ s) (R : Rm 8 A) (hn : Ev (gtX prog w B Lg fG cd) ρ (.Name "m" np) (.obj (.ref a))) (M : ∀ h', (∀ b o, s.heap.get? b = some o → h'.get? b = some o) → MatchAt h' a T i x) (hq : ∀ s', Mine.Up s s' → Q false s') :
    wpAny (model prog w) A (isTrue (.UnaryOp .Not (.Name "m" np) up) (gtX prog w B Lg fG cd).env (eval (.UnaryOp .Not (.Name "m" np) up) (gtX prog w B Lg fG cd).env)) Q E s :=
  isTrue_not (isTrue_plain (hn A R s _ _ g fun v s1 u1 i1 => by
    cases i1
    exact truthy_match (M _ u1.keep).typeIs (hq s1 u1)) rfl)
theorem gt_notNone {np up : Pos} {X : Fm} {ρ : List (Str × PV)} (hn : Ev X ρ (.Name "m" np) .none) : Ts X ρ (.UnaryOp .Not (.Name "m" np) up) true := fun A R s E Q G k =>
  isTrue_not (isTrue_plain (hn A R s _ _ G fun v s1 u1 i1 => by
    cases i1
    exact truthy_none (k s1 u1)) rfl)
theorem Ex.cont {X : Fm} {ρ : List (Str × PV)} {pos : Pos} {ss : List Stmt} : Ex X ρ (.Continue pos :: ss) (.cont ρ) := fun A R s E Q G h => wpAny_execs_cons (wpAny_Continue (h .cont s (.refl _ s) G))
/-- self.is_keyword(m.group()) -/
theorem gt_y2 {sp ap mp gp cp pos : Pos} {ρ : List (Str × PV)} {Q : Value → Shared → Prop} (Bs : GtBase prog w B K J N) (hT : Tx T) (g : (gtX prog w B Lg fG cd).Gd ρ s) (R : Rm 8 A) (hs : Ev (gtX prog w B Lg fG cd) ρ (.Name "self" sp) (.obj (.ref N.lx))) (hn : Ev (gtX prog w B Lg fG cd) ρ (.Name "m" mp) (.obj (.ref a)))
    (M : ∀ h', (∀ b o, s.heap.get? b = some o → h'.get? b = some o) → MatchAt h' a T i x) (hA : wAsIn T i x = false) (hline : (gp.endLine == cp.line) = true) {pl : Sem Bool}
    (he : eval (.Call (.Attribute (.Name "self" sp) "is_keyword" ap) [.Call (.Attribute (.Name "m" mp) "group" gp) [] [] cp] [] pos) (gtX prog w B Lg fG cd).env = (do
      let ov ← eval (.Name "self" sp) (gtX prog w B Lg fG cd).env
      standAt ap.atName
      let (f, first) ← holding [ov] (getMethod ov "is_keyword" pl)
      callWith pos f first (backTo pos (starEach [.Call (.Attribute (.Name "m" mp) "group" gp) [] [] cp] (gtX prog w B Lg fG cd).env)) (backToKw pos (keywordEach [] (gtX prog w B Lg fG cd).env))))
    (hq : ∀ s' y t, Mine.Up s s' → (∃ n, s'.heap.get? y = some { cls := .type "tuple", data := .seq #[.ref (N.tt (if wIs T i x then .key else .name)), .str ⟨T.extract i x⟩ t] n }) → Q (.ref y) s') :
    wpAny (model prog w) A (eval (.Call (.Attribute (.Name "self" sp) "is_keyword" ap) [.Call (.Attribute (.Name "m" mp) "group" gp) [] [] cp] [] pos) (gtX prog w B Lg fG cd).env) Q E s := by
  obtain ⟨cdk, FK⟩ := Bs.iskA
  obtain ⟨ox, od, I, h1, h2, h3⟩ := Bs.ins
  refine methodCall_KW (pl := pl) (hs A R s _ _ g fun v s1 u1 i1 => ?_) he
  cases i1
  have g1 := Gd.up g u1
  have k1 := Gd.base g1
  refine method_fn (Bs.lex.inn.keeps k1) (InstAt_keeps I k1) Bs.lex.pc.ga Bs.lex.pc.gt Bs.isk Bs.iskF h3 ?_
  refine callWith_KW (h₀ := B) Bs.lex.inn Bs.iskK rfl (wpAny_items_cons (gt_group g1 R hn (fun h' k => M h' fun b o e => k b o (u1.keep b o e)) hT.len hline fun s2 t u2 => wpAny_items_nil (kwAll_nil ⟨Bs.lex.inn.keeps fun b o e => u2.keep _ _ (k1 b o e), ?_⟩)))
  have g2 := Gd.up g1 u2
  refine isk_fn (d := 7) Bs.lex FK hT hA A R s2 _ _ _ (Gd.base g2) (Gd.size g2) (.cons (.obj _) (.cons (.str _ _) .nil)) fun v s3 u3 i3 => ?_
  cases i3 with
  | @tup y vs n _ ho hl =>
    obtain ⟨v1, v2, rfl, i1, i2⟩ := isAll2 hl
    cases i1; cases i2
    exact hq s3 y _ ((u1.trans u2).trans u3) ⟨n, ho⟩
/-- consume(iterable, m.end() - pos - 1) -/
theorem gt_con {np ip mp ap ep pp p1 p2 op cp pos : Pos} {k : Nat} {ρ : List (Str × PV)} {outer : List Env} {it : Addr} {t : Tok} {Q : Flow → Shared → Prop} (Bs : GtBase prog w B K J N) (hT : Tx T) (g : (gtX prog w B Lg fG cd).Gd ρ s) (R : Rm 8 A) (hA : A.frames = some outer) (hF : FrOk s.heap outer)
    (hi : Ev (gtX prog w B Lg fG cd) ρ (.Name "iterable" ip) (.obj (.ref e))) (hn : Ev (gtX prog w B Lg fG cd) ρ (.Name "m" mp) (.obj (.ref a))) (hp : Ev (gtX prog w B Lg fG cd) ρ (.Name "pos" pp) (.int i))
    (M : ∀ h', (∀ b o, s.heap.get? b = some o → h'.get? b = some o) → MatchAt h' a T i x) (En : EnAt s.heap e it ⟨T⟩ t (i + 1)) (hx : i < x) (hx2 : x ≤ T.size) (hline : (ap.endLine == ep.line) = true)
    (d1 : ∀ b ∈ [e, it], b ∉ fras outer ∧ B.get? b = none) (d0 : ∀ b ∈ fras outer, B.get? b = none)
    (hQ : ∀ s1 h' tk, Mine.Up s s1 → Kx (e :: it :: fras outer) s1.heap h' → (∀ L' m, L' ∈ fras outer → s1.heap.Ns L' m → h'.Ns L' m) → EnAt h' e it ⟨T⟩ t x → Q .next { s1 with heap := h', toks := tk }) :
    wpAny (model prog w) A (exec (.Expr (.Call (.Name "consume" np) [.Name "iterable" ip, .BinOp (.BinOp (.Call (.Attribute (.Name "m" mp) "end" ap) [] [] ep) .Sub (.Name "pos" pp) p1) .Sub (.Constant (.int 1) k op) p2] [] cp) pos) (gtX prog w B Lg fG cd).env) Q E s := by
  obtain ⟨fC, cdC, gC, FC⟩ := Bs.con.con
  refine wpAny_Expr_any (wpAny_Call_Name_kw (name_global (X := gtX prog w B Lg fG cd) gC (by run_tac dk) rfl (by run_tac dk) g ?_)) rfl rfl
  obtain ⟨oC, doc, pm, an, ct, hoC, _, hdC⟩ := FC.obj
  refine callWith_def hdC (wpAny_items_cons (hi A R s _ _ g fun v0 s0 u0 i0 => ?_)) rfl
  cases i0
  refine wpAny_items_cons (wpAny_BinOp (wpAny_BinOp (gt_end (Gd.up g u0) R hn (fun h' k => M h' fun b o e => k b o (u0.keep b o e)) hline fun s1 t1 u1 => hp A R s1 _ _ (Gd.up (Gd.up g u0) u1) fun v s2 u2 i2 => ?_)))
  cases i2
  refine P.sub_int (wpAny_Constant_int (P.sub_int ?_))
  have u : Mine.Up s s2 := (u0.trans u1).trans u2
  refine wpAny_items_nil ⟨u.keep _ _ (Gd.base g _ _ hoC), ?_⟩
  have g2 := Gd.up g u
  have hu := ((u.trans (.tok s2 (s2.toks + 1))).trans (.tok _ (s2.toks + 1 + 1))).trans (.tok _ (s2.toks + 1 + 1 + 1))
  have e1 : (x : Int) - (i : Int) - 1 = ((x - i - 1 : Nat) : Int) := by omega
  rw [e1]
  have hlen := hT.len
  have hsz : x - i - 1 ≤ 14 := by omega
  refine con_walk (n := x - i - 1) (i := i + 1) (d := 3) (T := ⟨T⟩) (t := t) Bs.con FC (Gd.base g2) (Gd.size g2) hA (fun env he => let ⟨a, L, m, b, c⟩ := hF env he; ⟨a, L, m, b, c.keeps u.keep⟩) R (En.keep (S := []) (Kx.of_keep u.keep) (by simp) (by simp)) hsz (by show i + 1 + (x - i - 1) ≤ T.size; omega) d1 d0 fun h' tk k1 n1 En' => ?_
  have e2 : i + 1 + (x - i - 1) = x := by omega
  rw [e2] at En'
  exact hQ { s2 with toks := s2.toks + 1 + 1 + 1 } h' tk hu k1 n1 En'
end
end Mine
-- G5
set_option maxRecDepth 100000
set_option maxHeartbeats 4000000
set_option linter.unusedVariables false
namespace Mine
open PySem PySem.Calls PyProof.Rows PySem.W

/-! ## the first pattern that matches -/
theorem firstM_at {T : Array Nat} {p e : Nat} {x : Pt} (hr : x.r T p = .yes e) : ∀ (l : List Pt) (j : Nat), (∀ (j' : Nat) (y : Pt), j' < j → l[j']? = some y → y.r T p = .no) → l[j]? = some x → firstM T p l = (e, actO T p e x.act)
  | [], j, _, hx => by cases hx
  | y :: l, 0, _, hx => by
    cases hx
    unfold firstM
    rw [hr]; rfl
  | y :: l, j + 1, hn, hx => by
    unfold firstM
    rw [hn 0 y (Nat.succ_pos j) rfl]
    exact firstM_at hr l j (fun j' z hj hz => hn (j' + 1) z (Nat.succ_lt_succ hj) hz) hx
theorem firstM_no {T : Array Nat} {p : Nat} : ∀ (l : List Pt), (∀ (j' : Nat) (y : Pt), l[j']? = some y → y.r T p = .no) → firstM T p l = (p + 1, .err)
  | [], _ => rfl
  | y :: l, hn => by
    unfold firstM
    rw [hn 0 y rfl]
    exact firstM_no l fun j' z hz => hn (j' + 1) z hz
theorem kw_word {T : Array Nat} (hT : Tx T) {i e : Nat} {x : Pt} {j : Nat} (hx : pts[j]? = some x) (ha : x.act = none) (hr : x.r T i = .yes e) (hi : i < e) (he : e ≤ T.size) (hn : ∀ (j' : Nat) (y : Pt), j' < j → pts[j']? = some y → y.r T i = .no) : wAsIn T i e = false := by
  have hj := pts_none j x hx ha
  subst hj
  have h19 : r19 T i = .no := hn 13 _ (by decide) (show pts[13]? = some ⟨rx19, 1, r19, some .key⟩ from rfl)
  have hx' : x = ⟨rx50, 0, r50, none⟩ := by
    have h2 : pts[44]? = some ⟨rx50, 0, r50, none⟩ := rfl
    rw [h2] at hx; cases hx; rfl
  subst hx'
  have h50 : r50 T i = .yes e := hr
  unfold r50 at h50
  split at h50
  · cases h50
    rw [wAsIn_eq hT (Nat.le_of_lt hi) he]
    by_cases h : ru wd T i = i + 2
    · unfold r19 at h19
      have hw : wd (ch T (i + 2)) = false := by rw [← h]; exact ru_end i rfl
      rw [hw] at h19
      cases ha : asin T i with
      | false => simp
      | true => rw [ha] at h19; cases h19
    · rw [decide_eq_false h]; rfl
  · cases h50

/-! ## the pieces of the text -/
def bodyOf : Stmt → List Stmt
  | .For _ _ b _ _ => b
  | _ => []
def elseOf : Stmt → List Stmt
  | .For _ _ _ b _ => b
  | _ => []
def tgtOf : Stmt → Expr
  | .For t _ _ _ _ => t
  | _ => .Constant .none 0 ⟨0, 0, 0, 0⟩
open Lean Elab Tactic Meta in
def putWh (n : Name) : TacticM Unit := withMainContext do
  let some v := (← getConstInfo n).value? | throwError "no value"
  (← getMainGoal).assign (← whnf v)
def gtO0 : List Stmt := bodyOf (gtB.getD 4 (.Pass ⟨0, 0, 0, 0⟩))
def gtO : List Stmt := by run_tac putWh ``gtO0
def gtTO0 : Expr := tgtOf (gtB.getD 4 (.Pass ⟨0, 0, 0, 0⟩))
def gtTO : Expr := by run_tac putWh ``gtTO0
def gtI0 : List Stmt := bodyOf (gtO.getD 1 (.Pass ⟨0, 0, 0, 0⟩))
def gtI : List Stmt := by run_tac putWh ``gtI0
def gtE0 : List Stmt := elseOf (gtO.getD 1 (.Pass ⟨0, 0, 0, 0⟩))
def gtE : List Stmt := by run_tac putWh ``gtE0
def gtTI0 : Expr := tgtOf (gtO.getD 1 (.Pass ⟨0, 0, 0, 0⟩))
def gtTI : Expr := by run_tac putWh ``gtTI0

/-- what the consumer may change -/
structure CR (Td Lc : Addr) (h h' : Heap) : Prop where
  kx : Kx [Td, Lc] h h'
  td : ∃ o, h'.get? Td = some o
  lc : ∃ o, h'.get? Lc = some o
structure GtAd (B : Heap) (e it Lg Lw Td Lc : Addr) : Prop where
  eg : e ≠ Lg
  ew : e ≠ Lw
  ig : it ≠ Lg
  iw : it ≠ Lw
  wg : Lw ≠ Lg
  td : Td ∉ [e, it, Lg, Lw]
  lc : Lc ∉ [e, it, Lg, Lw]
  b0 : ∀ b ∈ [e, it, Lg, Lw, Td, Lc], B.get? b = none

section
variable {prog : Program} {w : World} {B : Heap} {K : Frag} {J : Isl} {N : Nam} {Lg Lw Td Lc fG : Addr} {cd : Value} {e it I : Addr} {T : Array Nat} {t : Tok} {i n : Nat} {s s₀ s₁ : Shared} {A : Around} {ew : Env}
  {R : GenEnd} {Y : Protocol} {c₁ : Code} {fs : List Frame} {Kf : Flow → Sem PySem.Fin} {Hf : Value → Sem PySem.Fin} {gdf : Bool → Bool} {lvf : List Value → List Value} {g0 : Bool} {l0 : List Value} {p₁ : Pos} {kp : List Value}
abbrev gtFr (env : Env) (Kf : Flow → Sem PySem.Fin) (Hf : Value → Sem PySem.Fin) (gdf : Bool → Bool) (lvf : List Value → List Value) (g0 : Bool) (l0 : List Value) (c₁ : Code) (p₁ : Pos) (kp : List Value) : Frame := .ret (retK env Kf Hf gdf lvf) none g0 l0 c₁ p₁ kp

/-- what the consumer is told, and what comes when the token is drunk -/
structure GtGo (prog : Program) (w : World) (A : Around) (R : GenEnd) (Y : Protocol) (n : Nat) (s₀ : Shared) (N : Nam) (X : Fm) (e it Lg Lw Td Lc : Addr) (T : Array Nat) (t : Tok) (i : Nat) (c₁ : Code) (k : Sem PySem.Fin) (fs : List Frame) : Prop where
  hY : ∀ s' y tk n', s'.heap.get? y = some { cls := .type "tuple", data := .seq #[.ref (N.tt (lexO T i).2), .str ⟨T.extract i (lexO T i).1⟩ tk] n' } → GK Lw [e, it, Lg, Lw] s₀ s' → ∀ kap : Resume → Shared → Prop, (∀ s'', CR Td Lc s'.heap s''.heap → kap (.send .none) s'') → Y n s₀ (.ref y) s' kap
  next : ∀ sy s', (∀ b ∈ [e, it, Lg, Lw], noSeq sy.heap b) → GK Lw [e, it, Lg, Lw] sy s' → X.Gd (gr0 e N.ns N.od N.lx T) s' → EnAt s'.heap e it ⟨T⟩ t (lexO T i).1 → (∃ m, s'.heap.Ns Lw m) → (∃ o, s'.heap.get? Td = some o) → (∃ o, s'.heap.get? Lc = some o) → Seg (model prog w) A R Y n sy c₁ k fs s'

theorem Gd.tail {X : Fm} {ρ : List (Str × PV)} {y : Str} {q : PV} {s : Shared} (g : X.Gd ((y, q) :: ρ) s) (h : ρ.lookup y = none) : X.Gd ρ s := Gd.weak g fun x p e => by
  rw [List.lookup_cons]
  cases hb : x == y with
  | false => exact e
  | true => rw [eq_of_beq hb, h] at e; cases e
theorem gr_m {X : Fm} {s : Shared} {e ns od lx pa : Addr} {q m : PV} (g : X.Gd (gr3 e ns od lx T i pa q m) s) : X.Gd (gr2 e ns od lx T i pa q) s := Gd.tail g rfl
theorem gr_1 {X : Fm} {s : Shared} {e ns od lx pa : Addr} {q : PV} (g : X.Gd (gr2 e ns od lx T i pa q) s) : X.Gd (gr1 e ns od lx T i) s := Gd.tail (Gd.tail g rfl) rfl
theorem gr_0 {X : Fm} {s : Shared} {e ns od lx : Addr} (g : X.Gd (gr1 e ns od lx T i) s) : X.Gd (gr0 e ns od lx T) s := Gd.tail (Gd.tail g rfl) rfl

theorem nsq {X : Fm} {ρ : List (Str × PV)} {sy : Shared} {j : Nat} (hX : X.L = Lg) (g : X.Gd ρ sy) (En : EnAt sy.heap e it ⟨T⟩ t j) (hw : ∃ m, sy.heap.Ns Lw m) : ∀ b ∈ [e, it, Lg, Lw], noSeq sy.heap b := by
  obtain ⟨m, F, _⟩ := Gd.fr g
  obtain ⟨mw, hmw⟩ := hw
  rw [hX] at F
  intro b hb c vs n q
  rcases List.mem_cons.mp hb with rfl | hb
  · obtain ⟨_, _, _, ho, _⟩ := En.rcd; rw [ho] at q; cases q
  rcases List.mem_cons.mp hb with rfl | hb
  · obtain ⟨o, ho, _, hd⟩ := En.itr; rw [ho] at q; cases q; cases hd
  rcases List.mem_cons.mp hb with rfl | hb
  · obtain ⟨o, _, _, ho, hd, _⟩ := F.ns; rw [ho] at q; cases q; cases hd
  rw [List.mem_singleton.mp hb] at q
  obtain ⟨o, _, _, ho, hd, _⟩ := hmw; rw [ho] at q; cases q; cases hd
/-- behind a yield of the loop: consume, break -/
theorem gt_rest {np ip mp ap ep pp p1 p2 op cp pos bp : Pos} {k : Nat} {a pa : Addr} {q : PV} {H : Value → Sem PySem.Fin} {gd : Bool → Bool} {lv : List Value → List Value} {sy : Shared} (Bs : GtBase prog w B K J N) (hT : Tx T) (D : GtAd B e it Lg Lw Td Lc) (hew : ew.scope.kind ≠ .module ∧ ew.frame = some Lw)
    (Go : GtGo prog w A R Y n s₀ N (gtX prog w B Lg fG cd) e it Lg Lw Td Lc T t i c₁ (Kf .next) fs) {c : Code}
    (hR : Rm 8 (A.over c (gtFr (gtX prog w B Lg fG cd).env Kf Hf gdf lvf g0 l0 c₁ p₁ kp :: fs))) (hA : (A.over c (gtFr (gtX prog w B Lg fG cd).env Kf Hf gdf lvf g0 l0 c₁ p₁ kp :: fs)).frames = some [(gtX prog w B Lg fG cd).env, ew])
    (g : (gtX prog w B Lg fG cd).Gd (gr3 e N.ns N.od N.lx T i pa q (.obj (.ref a))) sy) (M : ∀ h', (∀ b o, sy.heap.get? b = some o → h'.get? b = some o) → MatchAt h' a T i (lexO T i).1)
    (En : EnAt sy.heap e it ⟨T⟩ t (i + 1)) (hx : i < (lexO T i).1) (hx2 : (lexO T i).1 ≤ T.size) (hw : ∃ m, sy.heap.Ns Lw m) (htd : ∃ o, sy.heap.get? Td = some o) (hlc : ∃ o, sy.heap.get? Lc = some o) (hline : (ap.endLine == ep.line) = true) {tgtE : Expr} {it0 : Value} {bd els : List Stmt} :
    Seg (model prog w) A R Y n sy c ((execs [.Expr (.Call (.Name "consume" np) [.Name "iterable" ip, .BinOp (.BinOp (.Call (.Attribute (.Name "m" mp) "end" ap) [] [] ep) .Sub (.Name "pos" pp) p1) .Sub (.Constant (.int 1) k op) p2] [] cp) pos, .Break bp] (gtX prog w B Lg fG cd).env).wrap
      (turnK tgtE it0 bd els (gtX prog w B Lg fG cd).env) H gd lv) (gtFr (gtX prog w B Lg fG cd).env Kf Hf gdf lvf g0 l0 c₁ p₁ kp :: fs) sy := by
  refine seg_execs_cons (sg_wrap ?_)
  have hfr : fras [(gtX prog w B Lg fG cd).env, ew] = [Lg, Lw] := by
    show Lg :: fras [ew] = [Lg, Lw]
    unfold fras
    rw [List.filterMap_cons, hew.2]; rfl
  obtain ⟨mw, hmw⟩ := hw
  obtain ⟨mg, Fg, _⟩ := Gd.fr g
  have hF : FrOk sy.heap [(gtX prog w B Lg fG cd).env, ew] := fun env he => by
    rcases List.mem_cons.mp he with rfl | he
    · exact ⟨by show gtS.kind ≠ _; decide +kernel, Lg, mg, rfl, Fg.ns⟩
    · rw [List.mem_singleton.mp he]; exact ⟨hew.1, Lw, mw, hew.2, hmw⟩
  refine gt_con (w := w) (outer := [(gtX prog w B Lg fG cd).env, ew]) (t := t) (it := it) (x := (lexO T i).1) Bs hT g hR hA hF (by unfold gr3 gr2 gr1 gr0; run_tac ev) (by unfold gr3; run_tac ev) (by unfold gr3 gr2 gr1; run_tac ev) M En hx hx2 hline (fun b hb => ?_) (fun b hb => ?_) fun s1 h' tk u1 k1 n1 En' => ?_
  · rw [hfr]
    rcases List.mem_cons.mp hb with rfl | hb
    · exact ⟨by simp [D.eg, D.ew], D.b0 _ (by simp)⟩
    · rw [List.mem_singleton.mp hb]; exact ⟨by simp [D.ig, D.iw], D.b0 _ (by simp)⟩
  · rw [hfr] at hb
    rcases List.mem_cons.mp hb with rfl | hb
    · exact D.b0 _ (by simp)
    · rw [List.mem_singleton.mp hb]; exact D.b0 _ (by simp)
  · rw [hfr] at k1 n1
    have gk : GK Lw [e, it, Lg, Lw] sy { s1 with heap := h', toks := tk } := (GK.up u1).trans ⟨⟨h', tk, rfl⟩, k1, fun m z => n1 Lw m (by simp) z⟩
    have g1 : (gtX prog w B Lg fG cd).Gd (gr0 e N.ns N.od N.lx T) s1 := Gd.up (gr_0 (gr_1 (gr_m g))) u1
    have g2 : (gtX prog w B Lg fG cd).Gd (gr0 e N.ns N.od N.lx T) { s1 with heap := h', toks := tk } := Gd.kxF g1 k1 (by unfold gr0; exact flat_cons rfl (flat_cons rfl (flat_cons rfl (flat_cons rfl (flat_cons rfl (flat_cons rfl flat_nil)))))) (fun b hb => D.b0 b (List.mem_append_left (bs := [Td, Lc]) hb)) (fun m z => n1 Lg m (by simp) z)
    refine seg_execs_cons (sg_wrap (wpAny_Break ?_))
    refine sg_left (Go.next sy _ (nsq rfl g En ⟨mw, hmw⟩) gk g2 En' ⟨mw, gk.ns _ hmw⟩ ?_ ?_)
    · obtain ⟨o, ho⟩ := htd; exact ⟨o, gk.kx _ _ D.td ho⟩
    · obtain ⟨o, ho⟩ := hlc; exact ⟨o, gk.kx _ _ D.lc ho⟩
end
end Mine
-- G6
set_option maxRecDepth 100000
set_option maxHeartbeats 4000000
set_option linter.unusedVariables false
namespace Mine
open PySem PySem.Calls PyProof.Rows PySem.W

/-- a match that is made of objects that h3 has not -/
def MF (h3 : Heap) (T : Array Nat) (i x : Nat) (a : Addr) (h : Heap) : Prop := ∀ h', (∀ b o, h3.get? b = none → h.get? b = some o → h'.get? b = some o) → MatchAt h' a T i x
theorem MF.kx {h3 h h2 : Heap} {T : Array Nat} {i x : Nat} {a : Addr} {S : List Addr} (F : MF h3 T i x a h) (k : Kx S h h2) (hS : ∀ b ∈ S, ∃ o, h3.get? b = some o) : MF h3 T i x a h2 := fun h' kk => F h' fun b o hn e => kk b o hn (k b o (fun hb => by obtain ⟨o', ho⟩ := hS b hb; rw [hn] at ho; cases ho) e)
theorem MF.up {h3 : Heap} {s s2 : Shared} {T : Array Nat} {i x : Nat} {a : Addr} (F : MF h3 T i x a s.heap) (u : Up s s2) : MF h3 T i x a s2.heap := F.kx (S := []) (Kx.of_keep u.keep) (by simp)
theorem MF.all {h3 h : Heap} {T : Array Nat} {i x : Nat} {a : Addr} (F : MF h3 T i x a h) : ∀ h', (∀ b o, h.get? b = some o → h'.get? b = some o) → MatchAt h' a T i x := fun h' k => F h' fun b o _ e => k b o e
theorem Ev.globI {X : Fm} {ρ : List (Str × PV)} {x : Str} {v : Value} {q : PV} {pos : Pos} (g : GlobalIs X.h₀ x v) (hq : ∀ h, Is h v q) (hx : X.scope.names.lookup x = some .globalImplicit) (hk : X.scope.kind = .function) (hd : (x == ("__debug__" : Str)) = false) : Ev X ρ (.Name x pos) q := fun A R s E Q G h =>
  name_global g hx hk hd G (h v s (.refl s) (hq _))

section
variable {prog : Program} {w : World} {B : Heap} {K : Frag} {J : Isl} {N : Nam} {Lg Lw Td Lc fG : Addr} {cd : Value} {e it I : Addr} {T : Array Nat} {t : Tok} {i n : Nat} {s s₀ s₁ : Shared} {A : Around} {ew : Env}
  {R : GenEnd} {Y : Protocol} {c₁ : Code} {fs : List Frame} {Kf : Flow → Sem PySem.Fin} {Hf : Value → Sem PySem.Fin} {gdf : Bool → Bool} {lvf : List Value → List Value} {g0 : Bool} {l0 : List Value} {p₁ : Pos} {kp : List Value}
/-- the token is handed out -/
theorem gt_close {X : Fm} {ρ : List (Str × PV)} {KN : Sem PySem.Fin} {c : Code} {y : Addr} {tk : Tok} {n' : Nat} {s8 : Shared} {fs2 : List Frame} (D : GtAd B e it Lg Lw Td Lc) (hX : X.h₀ = B) (hXL : X.L = Lg)
    (Go : GtGo prog w A R Y n s₀ N X e it Lg Lw Td Lc T t i c₁ (Kf .next) fs)
    (hy : s8.heap.get? y = some { cls := .type "tuple", data := .seq #[.ref (N.tt (lexO T i).2), .str ⟨T.extract i (lexO T i).1⟩ tk] n' }) (gk : GK Lw [e, it, Lg, Lw] s₀ s8) (g : X.Gd ρ s8) (hf : ∀ x p, ρ.lookup x = some p → p.flat = true)
    (En : EnAt s8.heap e it ⟨T⟩ t (i + 1)) (hw : ∃ m, s8.heap.Ns Lw m)
    (hk : ∀ sy, Kx [Td, Lc] s8.heap sy.heap → X.Gd ρ sy → EnAt sy.heap e it ⟨T⟩ t (i + 1) → (∃ m, sy.heap.Ns Lw m) → (∃ o, sy.heap.get? Td = some o) → (∃ o, sy.heap.get? Lc = some o) → Seg (model prog w) A R Y n sy c KN fs2 sy) :
    ∀ kap : Resume → Shared → Prop, (∀ (x : Value) (s'' : Shared), (match x with | .ref _ => False | _ => Seg (model prog w) A R Y n s'' c KN fs2 s'') → kap (.send x) s'') → Y n s₀ (.ref y) s8 kap := fun kap hkap =>
  Go.hY s8 y tk n' hy gk kap fun s'' cr => hkap .none s'' (by
    have d1 : Td ∉ [e, it, Lg, Lw] := D.td
    have d2 : Lc ∉ [e, it, Lg, Lw] := D.lc
    simp only [List.mem_cons, List.not_mem_nil, or_false, not_or] at d1 d2
    obtain ⟨mw, hmw⟩ := hw
    have hb := D.b0
    refine hk s'' cr.kx ?_ (En.keep cr.kx ?_ ?_) ⟨mw, ns_ext hmw fun o ho => cr.kx _ _ ?_ ho⟩ cr.td cr.lc
    · have : X.Gd ρ { s8 with heap := s''.heap, toks := s''.toks } := Gd.kxF g cr.kx hf (fun b hb' => by rw [hX]; exact D.b0 b (List.mem_append_right (as := [e, it, Lg, Lw]) hb')) (fun m z => ns_ext z fun o ho => cr.kx _ _ (by rw [hXL]; simp [Ne.symm d1.2.2.1, Ne.symm d2.2.2.1]) ho)
      exact this
    · simp [Ne.symm d1.1, Ne.symm d2.1]
    · simp [Ne.symm d1.2.1, Ne.symm d2.2.1]
    · simp [Ne.symm d1.2.2.2, Ne.symm d2.2.2.2])

theorem ext_one {T : Array Nat} {i : Nat} (h : i < T.size) : T.extract i (i + 1) = #[ch T i] := by
  apply Array.ext
  · rw [Array.size_extract]; show _ = 1; omega
  · intro j h1 h2
    have : j = 0 := by simp at h2; omega
    subst this
    rw [Array.getElem_extract]
    unfold ch; simp [Array.getD_eq_getD_getElem?, h]

/-- no pattern matches: (Error, char) -/
theorem gt_else {c : Code} (Bs : GtBase prog w B K J N) (hT : Tx T) (hi : i < T.size) (D : GtAd B e it Lg Lw Td Lc) (hew : ew.scope.kind ≠ .module ∧ ew.frame = some Lw)
    (Go : GtGo prog w A R Y n s₀ N (gtX prog w B Lg fG cd) e it Lg Lw Td Lc T t i c₁ (Kf .next) fs)
    (hfs : splitAtGen (gtFr (gtX prog w B Lg fG cd).env Kf Hf gdf lvf g0 l0 c₁ p₁ kp :: fs) = none) (hfg : (gtFr (gtX prog w B Lg fG cd).env Kf Hf gdf lvf g0 l0 c₁ p₁ kp :: fs).any Frame.guarded = false)
    (hR : Rm 8 (A.over (.block gtE (gtX prog w B Lg fG cd).env) (gtFr (gtX prog w B Lg fG cd).env Kf Hf gdf lvf g0 l0 c₁ p₁ kp :: fs)))
    (g : (gtX prog w B Lg fG cd).Gd (gr1 e N.ns N.od N.lx T i) s) (gk : GK Lw [e, it, Lg, Lw] s₀ s) (En : EnAt s.heap e it ⟨T⟩ t (i + 1)) (hw : ∃ m, s.heap.Ns Lw m) (hl : lexO T i = (i + 1, .err)) :
    Seg (model prog w) A R Y (n + 1) s₀ (.block gtE (gtX prog w B Lg fG cd).env) ((model prog w).den (.block gtE (gtX prog w B Lg fG cd).env)) (gtFr (gtX prog w B Lg fG cd).env Kf Hf gdf lvf g0 l0 c₁ p₁ kp :: fs) s := by
  refine sg_block ?_
  have hf1 : ∀ x p, (gr1 e N.ns N.od N.lx T i).lookup x = some p → p.flat = true := by unfold gr1 gr0; exact flat_cons rfl (flat_cons rfl (flat_cons rfl (flat_cons rfl (flat_cons rfl (flat_cons rfl (flat_cons rfl (flat_cons rfl flat_nil)))))))
  have ev : ∀ {p1 p2 p3 : Pos} {k : Nat}, Ev (gtX prog w B Lg fG cd) (gr1 e N.ns N.od N.lx T i) (.Tuple [.Name "Error" p1, .Name "char" p2] k p3) (.tup [.obj (.ref (N.tt .err)), .str ⟨#[ch T i]⟩]) :=
    Ev.tuple (EvArgs.cons (Ev.glob Bs.err (by run_tac dk) rfl (by run_tac dk)) (EvArgs.cons (by unfold gr1; run_tac ev) EvArgs.nil)) (by show (2 : Nat) ≤ sizeLine; decide)
  unfold gtE
  refine seg_execs_cons (seg_Expr_Yield hfs rfl hfg (ev _ hR s _ _ g fun v s1 u1 i1 => ?_))
  cases i1 with
  | @tup y vs n' _ ho hvs =>
  obtain ⟨v1, v2, rfl, i1, i2⟩ := isAll2 hvs
  cases i1; cases i2
  refine gt_close (Kf := Kf) (tk := ‹Tok›) D rfl rfl Go (ρ := gr1 e N.ns N.od N.lx T i) (n' := n') ?_ (gk.trans (GK.up u1)) (Gd.up g u1) hf1 (En.keep (S := []) (Kx.of_keep u1.keep) (by simp) (by simp)) (let ⟨m, hm⟩ := hw; ⟨m, hm.keeps u1.keep⟩) fun sy kx gy Ey wy ty ly => ?_
  · rw [hl]
    show s1.heap.get? y = some { cls := .type "tuple", data := .seq #[.ref (N.tt .err), .str ⟨T.extract i (i + 1)⟩ _] n' }
    rw [ext_one hi]; exact ho
  · refine seg_execs_nil (sg_left (Go.next sy sy (nsq rfl gy Ey wy) (GK.refl _ _ _) (gr_0 gy) ?_ wy ty ly))
    rw [hl]; exact Ey
end
end Mine
-- G7
set_option maxRecDepth 100000
set_option maxHeartbeats 4000000
set_option linter.unusedVariables false
namespace Mine
open PySem PySem.Calls PyProof.Rows PySem.W

def gtT0 : List Stmt := gtI.tail
def gtT : List Stmt := by run_tac putWh ``gtT0
section
variable {prog : Program} {w : World} {B : Heap} {K : Frag} {J : Isl} {N : Nam} {Lg Lw Td Lc fG : Addr} {cd : Value} {e it I : Addr} {T : Array Nat} {t : Tok} {i n : Nat} {s s₀ s₁ : Shared} {A : Around} {ew : Env}
  {R : GenEnd} {Y : Protocol} {c₁ : Code} {fs : List Frame} {Kf : Flow → Sem PySem.Fin} {Hf : Value → Sem PySem.Fin} {gdf : Bool → Bool} {lvf : List Value → List Value} {g0 : Bool} {l0 : List Value} {p₁ : Pos} {kp : List Value}
theorem flat3 {e ns od lx pa : Addr} {i : Nat} {q m : PV} (hq : q.flat = true) (hm : m.flat = true) : ∀ x p, (gr3 e ns od lx T i pa q m).lookup x = some p → p.flat = true := by
  unfold gr3 gr2 gr1 gr0
  exact flat_cons hm (flat_cons hq (flat_cons rfl (flat_cons rfl (flat_cons rfl (flat_cons rfl (flat_cons rfl (flat_cons rfl (flat_cons rfl (flat_cons rfl (flat_cons rfl flat_nil))))))))))

/-- a pattern matches -/
theorem gt_hit {pa a : Addr} {q : PV} {x : Pt} {j : Nat} {xe : Nat} {h3 : Heap} {TI : Expr} {GI GE : List Stmt} (Bs : GtBase prog w B K J N) (hT : Tx T) (hi : i < T.size) (D : GtAd B e it Lg Lw Td Lc) (hew : ew.scope.kind ≠ .module ∧ ew.frame = some Lw)
    (Go : GtGo prog w A R Y n s₀ N (gtX prog w B Lg fG cd) e it Lg Lw Td Lc T t i c₁ (Kf .next) fs) {it0 : Value}
    (hfs : splitAtGen (gtFr (gtX prog w B Lg fG cd).env Kf Hf gdf lvf g0 l0 c₁ p₁ kp :: fs) = none) (hfg : (gtFr (gtX prog w B Lg fG cd).env Kf Hf gdf lvf g0 l0 c₁ p₁ kp :: fs).any Frame.guarded = false)
    (hR : Rm 8 (A.over (.forLoop TI it0 GI GE (gtX prog w B Lg fG cd).env) (gtFr (gtX prog w B Lg fG cd).env Kf Hf gdf lvf g0 l0 c₁ p₁ kp :: fs)))
    (hA : (A.over (.forLoop TI it0 GI GE (gtX prog w B Lg fG cd).env) (gtFr (gtX prog w B Lg fG cd).env Kf Hf gdf lvf g0 l0 c₁ p₁ kp :: fs)).frames = some [(gtX prog w B Lg fG cd).env, ew])
    (hx : pts[j]? = some x) (hr : x.r T i = .yes xe) (hn : ∀ (j' : Nat) (y : Pt), j' < j → pts[j']? = some y → y.r T i = .no) (hact : ActOk N.tt x.act q) (hqf : q.flat = true)
    (g : (gtX prog w B Lg fG cd).Gd (gr3 e N.ns N.od N.lx T i pa q (.obj (.ref a))) s) (F : MF h3 T i xe a s.heap) (h3d : (∃ o, h3.get? Td = some o) ∧ ∃ o, h3.get? Lc = some o) (gk : GK Lw [e, it, Lg, Lw] s₀ s) (En : EnAt s.heap e it ⟨T⟩ t (i + 1)) (hw : ∃ m, s.heap.Ns Lw m) :
    Seg (model prog w) A R Y (n + 1) s₀ (.forLoop TI it0 GI GE (gtX prog w B Lg fG cd).env) ((execs gtT (gtX prog w B Lg fG cd).env).wrap (turnK TI it0 GI GE (gtX prog w B Lg fG cd).env) (turnH (gtX prog w B Lg fG cd).env) id id)
      (gtFr (gtX prog w B Lg fG cd).env Kf Hf gdf lvf g0 l0 c₁ p₁ kp :: fs) s := by
  obtain ⟨hM, hG, hlt⟩ := pts_ok x (List.mem_of_getElem? hx) T i hT hi
  obtain ⟨l1, l2, l3⟩ := hlt xe hr
  have hl : lexO T i = (xe, actO T i xe x.act) := by rw [← first_lex]; exact firstM_at hr pts j hn hx
  have hl1 : (lexO T i).1 = xe := by rw [hl]
  have hl2 : (lexO T i).2 = actO T i xe x.act := by rw [hl]
  have hb3 : ∀ b ∈ [Td, Lc], ∃ o, h3.get? b = some o := fun b hb => by
    rcases List.mem_cons.mp hb with rfl | hb
    · exact h3d.1
    · rw [List.mem_singleton.mp hb]; exact h3d.2
  have hf3 : ∀ y p, (gr3 e N.ns N.od N.lx T i pa q (.obj (.ref a))).lookup y = some p → p.flat = true := flat3 hqf rfl
  unfold gtT
  refine seg_execs_cons (sg_If ?_)
  refine gt_notM g hR (by unfold gr3; run_tac ev) F.all fun s6 u6 => ?_
  rw [if_neg Bool.false_ne_true]
  have g6 := Gd.up g u6
  have F6 := F.up u6
  have hnerr : x.act ≠ some .err := fun ha => by
    have := pts_err x (List.mem_of_getElem? hx) ha T i
    rw [this] at hr; cases hr
  cases ha : x.act with
  | some k =>
    have hk : k ≠ .err := fun hk => hnerr (by rw [ha, hk])
    have hq := hact.1 k ha hk
    subst hq
    obtain ⟨ot, hot, hcl⟩ := Bs.tok k
    refine seg_execs_cons (sg_If ?_)
    refine Ts.plainB (Ev.isiObj (K := K) (C := N.CT) Bs.con.inn Bs.isi (EvArgs.cons (by unfold gr3 gr2; run_tac ev) (EvArgs.cons (Ev.glob Bs.tyC (by run_tac dk) rfl (by run_tac dk)) EvArgs.nil)) hot hcl rfl rfl (by run_tac dk) rfl) (fun _ => rfl) _ hR s6 _ _ g6 fun s7 u7 => ?_
    rw [if_pos rfl]
    refine seg_execs_cons (seg_Expr_Yield hfs rfl hfg (gt_y1 (Gd.up g6 u7) hR (by unfold gr3; run_tac ev) (by unfold gr3 gr2; run_tac ev) (F6.up u7).all hT.len rfl fun s8 y tk u8 hy => ?_))
    have uu : Mine.Up s s8 := (u6.trans u7).trans u8
    refine gt_close (Kf := Kf) (tk := tk) (n' := 0) D rfl rfl Go (ρ := gr3 e N.ns N.od N.lx T i pa (.obj (.ref (N.tt k))) (.obj (.ref a))) ?_ (gk.trans (GK.up uu)) (Gd.up g uu) hf3 (En.keep (S := []) (Kx.of_keep uu.keep) (by simp) (by simp)) (let ⟨m, hm⟩ := hw; ⟨m, hm.keeps uu.keep⟩) fun sy kx gy Ey wy ty ly => ?_
    · rw [hl1, hl2, ha]; exact hy
    · refine seg_execs_nil (seg_execs_nil ?_)
      refine gt_rest (it := it) (t := t) (i := i) Bs hT D hew Go hR hA gy (by rw [hl1]; exact ((F.up uu).kx kx hb3).all) Ey (by rw [hl1]; exact l1) (by rw [hl1]; exact l2) wy ty ly ?_
      rfl
  | none =>
    have hq := hact.2 ha
    subst hq
    obtain ⟨tpk, hpk⟩ := Bs.pk
    have hA2 := kw_word hT hx ha hr l1 l2 hn
    refine seg_execs_cons (sg_If ?_)
    refine Ts.plainB (Ev.isiStr (K := K) (c := .ref N.CT) (b := false) Bs.con.inn Bs.isi (EvArgs.cons (by unfold gr3 gr2; run_tac ev) (EvArgs.cons (Ev.glob Bs.tyC (by run_tac dk) rfl (by run_tac dk)) EvArgs.nil)) Bs.kstC rfl rfl (by run_tac dk) rfl) (fun _ => rfl) _ hR s6 _ _ g6 fun s7 u7 => ?_
    rw [if_neg Bool.false_ne_true]
    refine seg_execs_cons (sg_If ?_)
    have hTs : ∀ {p1 p2 p3 : Pos}, Ts (gtX prog w B Lg fG cd) (gr3 e N.ns N.od N.lx T i pa (.str "PROCESS_AS_KEYWORD") (.obj (.ref a))) (.Compare (.Name "action" p1) [.Eq] [.Name "PROCESS_AS_KEYWORD" p2] p3) true := fun {p1 p2 p3} =>
      Ts.as (Ts.cmp (p := .str "PROCESS_AS_KEYWORD") (q := .str "PROCESS_AS_KEYWORD") (by unfold gr3 gr2; run_tac ev) (Ev.globI hpk (fun _ => .str _ _) (by run_tac dk) rfl (by run_tac dk)) Cm.eqs rfl) (by decide +kernel)
    refine hTs _ hR s7 _ _ (Gd.up g6 u7) fun s8 u8 => ?_
    rw [if_pos rfl]
    have g8 := Gd.up (Gd.up g6 u7) u8
    refine seg_execs_cons (seg_Expr_Yield hfs rfl hfg (gt_y2 (pl := _) Bs hT g8 hR (by unfold gr3 gr2 gr1 gr0; run_tac ev) (by unfold gr3; run_tac ev) ((F6.up u7).up u8).all hA2 rfl (by rfl) fun s9 y tk u9 hy => ?_))
    obtain ⟨n', hy⟩ := hy
    have uu : Mine.Up s s9 := ((u6.trans u7).trans u8).trans u9
    refine gt_close (Kf := Kf) (tk := tk) (n' := n') D rfl rfl Go (ρ := gr3 e N.ns N.od N.lx T i pa (.str "PROCESS_AS_KEYWORD") (.obj (.ref a))) ?_ (gk.trans (GK.up uu)) (Gd.up g uu) hf3 (En.keep (S := []) (Kx.of_keep uu.keep) (by simp) (by simp)) (let ⟨m, hm⟩ := hw; ⟨m, hm.keeps uu.keep⟩) fun sy kx gy Ey wy ty ly => ?_
    · rw [hl1, hl2, ha]; exact hy
    · refine seg_execs_nil (seg_execs_nil (seg_execs_nil ?_))
      refine gt_rest (it := it) (t := t) (i := i) Bs hT D hew Go hR hA gy (by rw [hl1]; exact ((F.up uu).kx kx hb3).all) Ey (by rw [hl1]; exact l1) (by rw [hl1]; exact l2) wy ty ly ?_
      rfl
end
end Mine
-- G8
set_option maxRecDepth 100000
set_option maxHeartbeats 4000000
set_option linter.unusedVariables false
namespace Mine
open PySem PySem.Calls PyProof.Rows PySem.W

section
variable {prog : Program} {w : World} {B : Heap} {K : Frag} {J : Isl} {N : Nam} {Lg Lw Td Lc fG : Addr} {cd : Value} {e it I : Addr} {T : Array Nat} {t : Tok} {i n : Nat} {s s₀ s₁ : Shared} {A : Around} {ew : Env}
  {R : GenEnd} {Y : Protocol} {c₁ : Code} {fs : List Frame} {Kf : Flow → Sem PySem.Fin} {Hf : Value → Sem PySem.Fin} {gdf : Bool → Bool} {lvf : List Value → List Value} {g0 : Bool} {l0 : List Value} {p₁ : Pos} {kp : List Value}
/-- the patterns, one by one -/
theorem gt_inner (Bs : GtBase prog w B K J N) (hT : Tx T) (hi : i < T.size) (D : GtAd B e it Lg Lw Td Lc) (hew : ew.scope.kind ≠ .module ∧ ew.frame = some Lw)
    (Go : GtGo prog w A R Y n s₀ N (gtX prog w B Lg fG cd) e it Lg Lw Td Lc T t i c₁ (Kf .next) fs)
    (hfs : splitAtGen (gtFr (gtX prog w B Lg fG cd).env Kf Hf gdf lvf g0 l0 c₁ p₁ kp :: fs) = none) (hfg : (gtFr (gtX prog w B Lg fG cd).env Kf Hf gdf lvf g0 l0 c₁ p₁ kp :: fs).any Frame.guarded = false)
    (hR : Rm 8 (A.over (.forLoop gtTI (.ref I) gtI gtE (gtX prog w B Lg fG cd).env) (gtFr (gtX prog w B Lg fG cd).env Kf Hf gdf lvf g0 l0 c₁ p₁ kp :: fs)))
    (hA : (A.over (.forLoop gtTI (.ref I) gtI gtE (gtX prog w B Lg fG cd).env) (gtFr (gtX prog w B Lg fG cd).env Kf Hf gdf lvf g0 l0 c₁ p₁ kp :: fs)).frames = some [(gtX prog w B Lg fG cd).env, ew])
    (hRb : Rm 8 (A.over (.block gtE (gtX prog w B Lg fG cd).env) (gtFr (gtX prog w B Lg fG cd).env Kf Hf gdf lvf g0 l0 c₁ p₁ kp :: fs)))
    (hI0 : s₁.heap.get? I = none) (hIg : Lg ≠ I ∧ B.objs.size ≤ I) (hw : ∃ m, s₁.heap.Ns Lw m) (htd : ∃ o, s₁.heap.get? Td = some o) (hlc : ∃ o, s₁.heap.get? Lc = some o) (gk0 : GK Lw [e, it, Lg, Lw] s₀ s₁) (hIe : e ≠ I ∧ it ≠ I) :
    ∀ (k j : Nat), k + j = 49 → ∀ s, (gtX prog w B Lg fG cd).Gd (gr1 e N.ns N.od N.lx T i) s → s.heap.IsListIter I N.pt j → EnAt s.heap e it ⟨T⟩ t (i + 1) → GK Lw [I, e, it, Lg, Lw] s₁ s → (∀ (j' : Nat) (y : Pt), j' < j → pts[j']? = some y → y.r T i = .no) →
      Seg (model prog w) A R Y (n + 1) s₀ (.forLoop gtTI (.ref I) gtI gtE (gtX prog w B Lg fG cd).env) ((model prog w).den (.forLoop gtTI (.ref I) gtI gtE (gtX prog w B Lg fG cd).env)) (gtFr (gtX prog w B Lg fG cd).env Kf Hf gdf lvf g0 l0 c₁ p₁ kp :: fs) s := by
  obtain ⟨items, nn, hpt, hlen, htab⟩ := Bs.tab
  obtain ⟨mw, hmw⟩ := hw
  have hwI : Lw ≠ I := fun q => by rw [← q] at hI0; obtain ⟨o, _, _, ho, _⟩ := hmw; rw [hI0] at ho; cases ho
  have hil : ∀ {s : Shared}, (gtX prog w B Lg fG cd).Gd (gr1 e N.ns N.od N.lx T i) s → s.heap.IsList N.pt items.toArray := fun {s} g => ⟨_, Gd.base g _ _ hpt, rfl, nn, rfl⟩
  have hseq : ∀ {s : Shared} {j : Nat}, s.heap.IsListIter I N.pt j → ∀ c vs n, s.heap.get? I ≠ some { cls := c, data := .seq vs n } := fun {s j} hit c vs n q => by
    obtain ⟨oi, hoi, _, hd⟩ := hit
    rw [hoi] at q; cases q; cases hd
  intro k
  induction k with
  | zero =>
    intro j hj s g hit En gk hn
    have hj : j = 49 := by omega
    subst hj
    refine sg_forLoop (wpAny_pyNext_list_end hR.hand hit (hil g) (by rw [List.getElem?_toArray]; exact List.getElem?_eq_none_iff.mpr (by omega)) fun h₁ he₁ => ?_)
    have kI : Kx [I, e, it, Lg, Lw] s.heap h₁ := Kx.of_ext he₁ (.head _)
    have gk1 : GK Lw [I, e, it, Lg, Lw] s₁ { s with heap := h₁ } := gk.trans ⟨⟨h₁, s.toks, rfl⟩, kI, fun m z => z.extBut he₁ hwI⟩
    refine gt_else (c := .block gtE (gtX prog w B Lg fG cd).env) Bs hT hi D hew Go hfs hfg hRb (Gd.extBut g hIg.1 hIg.2 (hseq hit) he₁) (gk0.trans (gk1.drop hI0)) (En.keep (S := [I]) (Kx.of_ext he₁ (.head _)) (by simp [hIe.1]) (by simp [hIe.2])) ⟨mw, gk1.ns _ hmw⟩ ?_
    rw [← first_lex]
    exact firstM_no pts fun j' y hy => hn j' y (List.getElem?_eq_some_iff.mp hy).1 hy
  | succ k ih =>
    intro j hj s g hit En gk hn
    have hjl : j < 49 := by omega
    obtain ⟨x, hx⟩ : ∃ x, pts[j]? = some x := ⟨_, List.getElem?_eq_getElem (show j < pts.length from hjl)⟩
    obtain ⟨a, pa, q, v2, n', hia, hoa, hv2, hpa, hqf, hact⟩ := htab j x hx
    refine sg_forLoop (wpAny_pyNext_list_item hit (hil g) (x := .ref a) (by rw [List.getElem?_toArray]; exact hia) fun h₁ hit₁ hs₁ => ?_)
    have he₁ := hs₁.extBut
    have g1 : (gtX prog w B Lg fG cd).Gd (gr1 e N.ns N.od N.lx T i) { s with heap := h₁ } := Gd.extBut g hIg.1 hIg.2 (hseq hit) he₁
    refine li_let (s := { s with heap := h₁ }) hit₁ (asgTup (s := { s with heap := h₁ }) (p := .obj (.ref pa)) (q := q) g1 (Gd.base g1 _ _ hoa) (.obj _) (hv2.keep (.of (Gd.base g1))) (by run_tac dk) (by run_tac dk) rfl hR.hand fun s3 u3 g3 => ?_)
    have gk3 : GK Lw [I, e, it, Lg, Lw] s₁ s3 := (gk.trans (GK.kx' (S' := [I]) (tk := s.toks) (Kx.of_ext he₁ (.head _)) (by simp) (by simp [hwI]))).trans (GK.upL u3 (by simp [gtX]) D.wg)
    have En3 : EnAt s3.heap e it ⟨T⟩ t (i + 1) := by
      have E1 : EnAt h₁ e it ⟨T⟩ t (i + 1) := En.keep (S := [I]) (Kx.of_ext he₁ (.head _)) (by simp [hIe.1]) (by simp [hIe.2])
      obtain ⟨h', tk, rfl, kk⟩ := u3
      exact E1.keep (S := [Lg]) (fun b o hb e => kk b o (by simpa using hb) e) (by simp [D.eg]) (by simp [D.ig])
    have hit3 : s3.heap.IsListIter I N.pt (j + 1) := by
      obtain ⟨h', tk, rfl, kk⟩ := u3
      obtain ⟨o, ho, r⟩ := hit₁
      exact ⟨o, kk _ _ (Ne.symm hIg.1) ho, r⟩
    have td3 : (∃ o, s3.heap.get? Td = some o) ∧ ∃ o, s3.heap.get? Lc = some o := by
      obtain ⟨o1, h1⟩ := htd
      obtain ⟨o2, h2⟩ := hlc
      have n1 : Td ≠ I := fun q => by rw [q, hI0] at h1; cases h1
      have n2 : Lc ≠ I := fun q => by rw [q, hI0] at h2; cases h2
      have dt := D.td
      have dl := D.lc
      refine ⟨⟨o1, gk3.kx _ _ ?_ h1⟩, ⟨o2, gk3.kx _ _ ?_ h2⟩⟩
      · intro hm
        rcases List.mem_cons.mp hm with q | hm
        · exact n1 q
        · exact dt hm
      · intro hm
        rcases List.mem_cons.mp hm with q | hm
        · exact n2 q
        · exact dl hm
    obtain ⟨hM, hG, hlt⟩ := pts_ok x (List.mem_of_getElem? hx) T i hT hi
    have hlenT := hT.len
    have g3' : (gtX prog w B Lg fG cd).Gd (gr2 e N.ns N.od N.lx T i pa q) s3 := g3
    cases hr : x.r T i with
    | no =>
      rw [hr] at hM hlt
      refine sg_wrap ?_
      conv in execs gtI _ => unfold gtI
      refine wpAny_execs_cons (wpAny_Assign_Name (gt_match (r := .no) g3' hR hpa (Nat.le_of_lt hi) hlenT hG hM (fun _ h => nomatch h) rfl fun s4 u4 => ?_) rfl)
      refine store (X := gtX prog w B Lg fG cd) (ρ := gr2 e N.ns N.od N.lx T i pa q) (p := .none) (Gd.up g3' u4) .none (by run_tac dk) rfl fun s5 u5 g5 => ?_
      have tail : ∀ {p1 p2 p3 p4 : Pos} {els ss : List Stmt}, Ex (gtX prog w B Lg fG cd) (gr3 e N.ns N.od N.lx T i pa q .none) (.If (.UnaryOp .Not (.Name "m" p1) p2) [.Continue p3] els p4 :: ss) (.cont (gr3 e N.ns N.od N.lx T i pa q .none)) := fun {p1 p2 p3 p4 els ss} =>
        Ex.if (b := true) (gt_notNone (by unfold gr3; run_tac ev)) (fun _ => Ex.cont) (fun q => by cases q)
      refine tail _ hR s5 _ _ g5 fun fl s6 u6 g6 => ?_
      cases fl with
      | next | brk | ret => exact g6.elim
      | cont =>
        have uu : UpL Lg s3 s6 := ((u4.upL _).trans u5).trans u6
        refine seg_again rfl (ih (j + 1) (by omega) s6 (gr_1 (gr_m g6)) ?_ ?_ (gk3.trans (GK.upL uu (by simp) D.wg)) ?_)
        · obtain ⟨h', tk, rfl, kk⟩ := uu
          obtain ⟨o, ho, r⟩ := hit3
          exact ⟨o, kk _ _ (Ne.symm hIg.1) ho, r⟩
        · obtain ⟨h', tk, rfl, kk⟩ := uu
          exact En3.keep (S := [Lg]) (fun b o hb e => kk b o (by simpa using hb) e) (by simp [D.eg]) (by simp [D.ig])
        · intro j' y hj' hy
          by_cases hjj : j' = j
          · subst hjj; rw [hx] at hy; cases hy; exact hr
          · exact hn j' y (by omega) hy
    | yes xe =>
      rw [hr] at hM
      obtain ⟨l1, l2, l3⟩ := hlt xe hr
      have hcons : gtI = gtI.head (by decide) :: gtT := rfl
      rw [show (execs gtI (gtX prog w B Lg fG cd).env) = execs (gtI.head (by decide) :: gtT) (gtX prog w B Lg fG cd).env from rfl]
      refine seg_execs_cons (sg_wrap ?_)
      refine wpAny_Assign_Name (gt_match (r := .yes xe) g3' hR hpa (Nat.le_of_lt hi) hlenT hG hM (fun e he => (hlt e (by rw [hr]; exact he)).2.2) rfl fun a s4 u4 F4 => ?_) rfl
      refine store (X := gtX prog w B Lg fG cd) (ρ := gr2 e N.ns N.od N.lx T i pa q) (p := .obj (.ref a)) (Gd.up g3' u4) (.obj _) (by run_tac dk) rfl fun s5 u5 g5 => ?_
      have uu : UpL Lg s3 s5 := (u4.upL _).trans u5
      have F5 : MF s3.heap T i xe a s5.heap := by
        have F4' : MF s3.heap T i xe a s4.heap := F4
        obtain ⟨m, Fr3, _⟩ := Gd.fr g3
        obtain ⟨h', tk, rfl, kk⟩ := u5
        exact F4'.kx (S := [Lg]) (fun b o hb e => kk b o (by simpa using hb) e) (fun b hb => by
          rw [List.mem_singleton.mp hb]
          obtain ⟨o, _, _, ho, _⟩ := Fr3.ns
          exact ⟨o, ho⟩)
      have gk5 := gk3.trans (GK.upL (Lw := Lw) (S := [I, e, it, Lg, Lw]) uu (by simp) D.wg)
      refine gt_hit (it := it) (t := t) Bs hT hi D hew Go hfs hfg hR hA hx hr hn hact hqf g5 F5 td3 (gk0.trans (gk5.drop hI0)) ?_ ⟨mw, gk5.ns _ hmw⟩
      obtain ⟨h', tk, rfl, kk⟩ := uu
      exact En3.keep (S := [Lg]) (fun b o hb e => kk b o (by simpa using hb) e) (by simp [D.eg]) (by simp [D.ig])
end
end Mine
-- G9
set_option maxRecDepth 100000
set_option maxHeartbeats 4000000
set_option linter.unusedVariables false
namespace Mine
open PySem PySem.Calls PyProof.Rows PySem.W

/-! ## what consumer and generator promise each other -/
structure GR (bd Lg Lw : Addr) (s₀ s' : Shared) : Prop where
  ht : Ht s₀ s'
  old : ∀ b o, b < bd → b ≠ Lg → b ≠ Lw → s₀.heap.get? b = some o → s'.heap.get? b = some o
  seq : KeepS s₀.heap s'.heap
  ns : ∀ m, s₀.heap.Ns Lw m → s'.heap.Ns Lw m
def GtY (tt : Kd → Addr) (T : Array Nat) (all : List (Nat × Nat × Kd)) (bd Lg Lw Td Lc : Addr) : Protocol := fun m s₀ v s' kap =>
  ∃ tok y tk n', all[all.length - 1 - m]? = some tok ∧ v = .ref y ∧ s'.heap.get? y = some { cls := .type "tuple", data := .seq #[.ref (tt tok.2.2), .str ⟨T.extract tok.1 tok.2.1⟩ tk] n' } ∧ GR bd Lg Lw s₀ s' ∧ ∀ s'', CR Td Lc s'.heap s''.heap → kap (.send .none) s''
def GtR (bd Lg Lw : Addr) : GenEnd := fun n s₀ r s₁ => r = .ok (.ret .none) ∧ n = 0 ∧ GR bd Lg Lw s₀ s₁

section
variable {prog : Program} {w : World} {B : Heap} {K : Frag} {J : Isl} {N : Nam} {Lg Lw Td Lc fG bd : Addr} {cd : Value} {e it I : Addr} {T : Array Nat} {t : Tok} {i n : Nat} {s s₀ s₁ : Shared} {A : Around} {ew : Env}
  {R : GenEnd} {Y : Protocol} {c₁ : Code} {fs : List Frame} {Kf : Flow → Sem PySem.Fin} {Hf : Value → Sem PySem.Fin} {gdf : Bool → Bool} {lvf : List Value → List Value} {g0 : Bool} {l0 : List Value} {p₁ : Pos} {kp : List Value}
theorem GR.of (g : GK Lw [e, it, Lg, Lw] s₀ s) (hn : ∀ b ∈ [e, it, Lg, Lw], noSeq s₀.heap b) (he : bd ≤ e) (hi : bd ≤ it) : GR bd Lg Lw s₀ s :=
  ⟨g.ht, fun b o hb h1 h2 q => g.kx b o (by
    have n1 : b ≠ e := Nat.ne_of_lt (Nat.lt_of_lt_of_le hb he)
    have n2 : b ≠ it := Nat.ne_of_lt (Nat.lt_of_lt_of_le hb hi)
    simp [n1, n2, h1, h2]) q, keepS_kx g.kx hn, g.ns⟩
theorem rm_over {c c₁ : Code} {k k₁ : Result → Sem PySem.Fin} {g g₁ : Bool} {l l₁ : List Value} {p p₁ : Pos} {kp kp₁ : List Value} {c₂ : Code} (hh : A.handled = none) (hd : A.depth + 20 < recursionLimit) (h0 : c.weight = 0) (h1 : c₁.weight ≤ 1) (h2 : c₂.weight ≤ 1) :
    Rm 8 (A.over c [.ret k none g l c₁ p kp, .ret k₁ none g₁ l₁ c₂ p₁ kp₁]) ∧ Rm 8 (A.over c [.ret k none g l c₁ p kp]) := by
  refine ⟨⟨?_, hh⟩, ⟨?_, hh⟩⟩
  · show A.depth + (c₁.weight + (c₂.weight + 0)) + c.weight + 8 < recursionLimit
    omega
  · show A.depth + (c₁.weight + 0) + c.weight + 8 < recursionLimit
    omega

theorem firstM_range (hT : Tx T) (hi : i < T.size) : ∀ (l : List Pt), (∀ x ∈ l, PtOk x) → i < (firstM T i l).1 ∧ (firstM T i l).1 ≤ T.size
  | [], _ => ⟨Nat.lt_succ_self i, hi⟩
  | x :: l, h => by
    unfold firstM
    cases hr : x.r T i with
    | no => exact firstM_range hT hi l fun y hy => h y (List.mem_cons_of_mem _ hy)
    | yes xe =>
      obtain ⟨l1, l2, _⟩ := (h x (List.mem_cons_self ..) T i hT hi).2.2 xe hr
      exact ⟨l1, l2⟩
/-- the text, sign by sign -/
theorem gt_outer {all : List (Nat × Nat × Kd)} {K1 : Flow → Sem PySem.Fin} {H1 : Value → Sem PySem.Fin} {gd1 : Bool → Bool} {lv1 : List Value → List Value} {l1 kp1 : List Value} {p1 : Pos} (Bs : GtBase prog w B K J N) (hT : Tx T) (D : GtAd B e it Lg Lw Td Lc) (hew : ew.scope.kind ≠ .module ∧ ew.frame = some Lw) (hA : A.frames = some [ew]) (hh : A.handled = none) (hd : A.depth + 20 < recursionLimit) (he : bd ≤ e) (hi : bd ≤ it)
    (hEnd : ∀ s₀ s, GR bd Lg Lw s₀ s → Seg (model prog w) A (GtR bd Lg Lw) (GtY N.tt T all bd Lg Lw Td Lc) 0 s₀ (.func gtB (gtX prog w B Lg fG cd).env) (K1 .next) [] s) :
    ∀ (f i : Nat), i ≤ T.size → T.size - i < f → ∀ pre, all = pre ++ toks T f i → ∀ s₀ s, (gtX prog w B Lg fG cd).Gd (gr0 e N.ns N.od N.lx T) s → EnAt s.heap e it ⟨T⟩ t i → GK Lw [e, it, Lg, Lw] s₀ s → (∃ m, s.heap.Ns Lw m) → (∃ o, s.heap.get? Td = some o) → (∃ o, s.heap.get? Lc = some o) → (∀ b ∈ [e, it, Lg, Lw], noSeq s₀.heap b) →
      Seg (model prog w) A (GtR bd Lg Lw) (GtY N.tt T all bd Lg Lw Td Lc) (toks T f i).length s₀ (.forLoop gtTO (.ref e) gtO [] (gtX prog w B Lg fG cd).env) ((model prog w).den (.forLoop gtTO (.ref e) gtO [] (gtX prog w B Lg fG cd).env)) [gtFr (gtX prog w B Lg fG cd).env K1 H1 gd1 lv1 false l1 (.func gtB (gtX prog w B Lg fG cd).env) p1 kp1] s := by
  intro f
  induction f with
  | zero => intro i hi1 hf; omega
  | succ f ih =>
    intro i hile hf pre hall s₀ s g En gk hw htd hlc hns
    have hand : ∀ c, (A.over c [gtFr (gtX prog w B Lg fG cd).env K1 H1 gd1 lv1 false l1 (.func gtB (gtX prog w B Lg fG cd).env) p1 kp1]).handled = none := fun c => hh
    by_cases hlt : i < T.size
    · have htoks : toks T (f + 1) i = (i, lexO T i) :: toks T f (lexO T i).1 := by
        show (if i < T.size then _ else _) = _
        rw [if_pos hlt, tok_lex hT hlt]
      rw [htoks] at hall ⊢
      obtain ⟨mw, hmw⟩ := hw
      refine sg_forLoop (en_pyNext En (ch_some hlt) fun h1 a tk tk' En1 ho hge kx1 hz => ?_)
      refine en_let (s := { s with heap := h1, toks := s.toks + 2 }) En1 fun h2 En2 kx2 => ?_
      have kx12 : Kx [e, it] s.heap h2 := kx1.trans kx2
      have esm := En.lt
      have hae : a ≠ e ∧ a ≠ it := ⟨Nat.ne_of_gt (Nat.lt_of_lt_of_le esm.1 hge), Nat.ne_of_gt (Nat.lt_of_lt_of_le esm.2 hge)⟩
      have g2 : (gtX prog w B Lg fG cd).Gd (gr0 e N.ns N.od N.lx T) { s with heap := h2, toks := s.toks + 2 } :=
        Gd.kxF g kx12 (by unfold gr0; exact flat_cons rfl (flat_cons rfl (flat_cons rfl (flat_cons rfl (flat_cons rfl (flat_cons rfl flat_nil)))))) (fun b hb => D.b0 b (List.mem_append_left (bs := [Lg, Lw, Td, Lc]) hb)) (fun m z => ns_ext z fun o q => kx12 _ _ (by simp [Ne.symm D.eg, Ne.symm D.ig]) q)
      refine asgTup (X := gtX prog w B Lg fG cd) (s := { s with heap := h2, toks := s.toks + 2 }) (p := .int i) (q := .str ⟨#[ch T i]⟩) g2 (kx2 a _ (by simp [hae.1, hae.2]) ho) (.int _ _) (.str _ _) (by run_tac dk) (by run_tac dk) rfl hh fun s3 u3 g3 => ?_
      have g3' : (gtX prog w B Lg fG cd).Gd (gr1 e N.ns N.od N.lx T i) s3 := g3
      have gk3 : GK Lw [e, it, Lg, Lw] s s3 := (GK.kx' (S' := [e, it]) (tk := s.toks + 2) kx12 (by simp) (by simp [Ne.symm D.ew, Ne.symm D.iw])).trans (GK.upL u3 (by simp) D.wg)
      have En3 : EnAt s3.heap e it ⟨T⟩ t (i + 1) := by
        obtain ⟨h', tk, rfl, kk⟩ := u3
        exact En2.keep (S := [Lg]) (fun b o hb q => kk b o (by simpa using hb) q) (by simp [D.eg]) (by simp [D.ig])
      conv in execs gtO _ => unfold gtO
      refine seg_execs_cons (sg_wrap ?_)
      have hif : ∀ {q1 q2 q3 q4 : Pos} {body : List Stmt}, Ex1 (gtX prog w B Lg fG cd) (gr1 e N.ns N.od N.lx T i) (.If (.Compare (.Name "pos" q1) [.In] [.Name "span_openers" q2] q3) body [] q4) (.next (gr1 e N.ns N.od N.lx T i)) := fun {q1 q2 q3 q4 body} =>
        Ex1.ite (b := false) (Ts.inMapI (i := i) (f := fun _ => none) Bs.odm Bs.ods (by unfold gr1; run_tac ev) (by unfold gr1 gr0; run_tac ev) rfl) (fun q => by cases q) (fun _ => Ex.nil)
      have hw8 := fun (c c₁ c₂ : Code) k k₁ g g₁ l l₁ p p₁ kp kp₁ => @rm_over A c c₁ k k₁ g g₁ l l₁ p p₁ kp kp₁ c₂ hh hd
      refine hif _ (hw8 _ _ (.func gtB (gtX prog w B Lg fG cd).env) _ (fun _ => .pure (.done .next)) _ false _ [] _ default _ [] (by rfl) (by exact Nat.le_refl 1) (by exact Nat.le_refl 1)).2 s3 _ _ g3' fun fl s4 u4 g4 => ?_
      cases fl with
      | brk | cont | ret => exact g4.elim
      | next =>
        refine seg_execs_cons (sg_For ?_ (fun _ => rfl))
        obtain ⟨ox, od, Ii, hsq, hhp, _⟩ := Bs.ins
        have hat : ∀ {q1 q2 : Pos}, Ev (gtX prog w B Lg fG cd) (gr1 e N.ns N.od N.lx T i) (.Attribute (.Name "self" q1) "_SQL_REGEX" q2) (.obj (.ref N.pt)) := fun {q1 q2} => Ev.attrV Bs.con.inn Bs.lex.pc Ii hsq hhp (.obj _) (by unfold gr1 gr0; run_tac ev) (an_name _ _ _ _)
        refine hat _ (hw8 _ _ (.func gtB (gtX prog w B Lg fG cd).env) _ (fun _ => .pure (.done .next)) _ false _ [] _ default _ [] (by rfl) (by exact Nat.le_refl 1) (by exact Nat.le_refl 1)).2 s4 _ _ g4 fun v s5 u5 i5 => ?_
        cases i5
        have g5 := Gd.up g4 u5
        obtain ⟨items, nn, hpt, hlen, htab⟩ := Bs.tab
        refine wpAny_pyIter_list (items := items.toArray) ⟨_, Gd.base g5 _ _ hpt, rfl, nn, rfl⟩ ?_
        intro p2
        have gk5 : GK Lw [e, it, Lg, Lw] s₀ s5 := (gk.trans gk3).trans ((GK.upL u4 (by simp) D.wg).trans (GK.up u5))
        have En5 : EnAt s5.heap e it ⟨T⟩ t (i + 1) := by
          have E4 : EnAt s4.heap e it ⟨T⟩ t (i + 1) := by
            obtain ⟨h', tk, rfl, kk⟩ := u4
            exact En3.keep (S := [Lg]) (fun b o hb q => kk b o (by simpa using hb) q) (by simp [D.eg]) (by simp [D.ig])
          exact E4.keep (S := []) (Kx.of_keep u5.keep) (by simp) (by simp)
        have gks : GK Lw [e, it, Lg, Lw] s s5 := gk3.trans ((GK.upL u4 (by simp) D.wg).trans (GK.up u5))
        obtain ⟨mg, Fg, _⟩ := Gd.fr g5
        have hup : Mine.Up s5 { s5 with heap := s5.heap.push { cls := .type "list_iterator", data := .fields #[.ref N.pt, .int 0 0] } } := .push _ _ _
        have es5 := En5.lt
        have ko : ∀ {d : Addr}, d ∉ [e, it, Lg, Lw] → (∃ o, s.heap.get? d = some o) → ∃ o, s5.heap.get? d = some o := fun {d} hd ⟨o, ho⟩ => ⟨o, gks.kx _ _ hd ho⟩
        refine gt_inner (A := A) (i := i) (n := (toks T f (lexO T i).1).length) (s₁ := s5) (I := s5.heap.objs.size) (it := it) (t := t) (Lw := Lw) (Td := Td) (Lc := Lc) Bs hT hlt D hew ⟨?_, ?_⟩ (by rfl) (by rfl) (hw8 _ _ _ _ _ _ _ _ _ _ _ _ _ (by rfl) (by exact Nat.zero_le 1) (by exact Nat.le_refl 1)).1 ?_ (hw8 _ _ _ _ _ _ _ _ _ _ _ _ _ (by rfl) (by exact Nat.zero_le 1) (by exact Nat.le_refl 1)).1
          (Heap.get?_none_of_le (Nat.le_refl _)) ⟨Nat.ne_of_lt Fg.ns.lt, Gd.size g5⟩ ⟨mw, gks.ns _ hmw⟩ (ko D.td htd) (ko D.lc hlc) gk5 ⟨Nat.ne_of_lt es5.1, Nat.ne_of_lt es5.2⟩ 49 0 rfl _ (Gd.up g5 hup) ⟨_, Heap.get?_push_size _ rfl, rfl, rfl⟩ (En5.keep (S := []) (Kx.of_keep hup.keep) (by simp) (by simp)) (GK.up hup) (fun j' y hj => by omega)
        · intro s' y tk n' hy hg kap hkap
          refine ⟨(i, lexO T i), y, tk, n', ?_, rfl, hy, GR.of hg hns he hi, hkap⟩
          rw [hall, List.length_append, List.length_cons]
          rw [show pre.length + ((toks T f (lexO T i).1).length + 1) - 1 - (toks T f (lexO T i).1).length = pre.length by omega]
          rw [List.getElem?_append_right (Nat.le_refl _), Nat.sub_self]; rfl
        · intro sy s' hnsy gky gy Ey wy ty ly
          refine seg_execs_nil (seg_again rfl ?_)
          have hl : i < (lexO T i).1 ∧ (lexO T i).1 ≤ T.size := by
            rw [← first_lex]; exact firstM_range hT hlt pts pts_ok
          exact ih (lexO T i).1 hl.2 (by omega) (pre ++ [(i, lexO T i)]) (by rw [hall]; simp) sy s' gy Ey gky wy ty ly hnsy
        · show (A.frames.map _) = _
          rw [hA]; rfl
    · have hie : i = T.size := by omega
      subst hie
      have htoks : toks T (f + 1) T.size = [] := by
        show (if T.size < T.size then _ else _) = _
        rw [if_neg (Nat.lt_irrefl _)]
      rw [htoks]
      refine sg_forLoop (en_pyEnd (hand _) En (by show T[T.size]? = none; simp) fun h' kx => ?_)
      refine sg_block (seg_execs_nil (sg_left (hEnd s₀ _ (GR.of (gk.trans (GK.kx' (S' := [e, it]) (tk := s.toks) kx (by simp) (by simp [Ne.symm D.ew, Ne.symm D.iw]))) hns he hi))))
end
end Mine
-- G10
set_option maxRecDepth 100000
set_option maxHeartbeats 4000000
set_option linter.unusedVariables false
namespace Mine
open PySem PySem.Calls PyProof.Rows PySem.W

section
variable {prog : Program} {w : World} {B : Heap} {K : Frag} {J : Isl} {N : Nam} {Lg Lw Td Lc fG bd : Addr} {cd : Value} {T : Array Nat} {s : Shared} {A : Around} {ew : Env}
theorem Ex.pass {X : Fm} {ρ : List (Str × PV)} {pos : Pos} : Ex X ρ [.Pass pos] (.next ρ) := fun A R s E Q G h => wpAny_execs_cons (wpAny_Pass (wpAny_execs_nil (h .next s (.refl _ s) G)))
theorem ascii_sig : ∀ c ∈ Sig, decide (c < 128) = true := by decide
theorem ascii_tx (hT : Tx T) : strIterType ⟨T⟩ = "str_ascii_iterator" := by
  unfold strIterType
  rw [if_pos]
  rw [Array.all_eq_true]
  intro i hi
  have := ascii_sig _ (hT.sig i hi)
  have e : T.getD i 0 = T[i] := by simp [Array.getD_eq_getD_getElem?, hi]
  rw [e] at this
  exact this

/-- the generator from its start -/
theorem gt_start (Bs : GtBase prog w B K J N) (hT : Tx T) (hew : ew.scope.kind ≠ .module ∧ ew.frame = some Lw) (hA : A.frames = some [ew]) (hh : A.handled = none) (hd : A.depth + 20 < recursionLimit)
    (g : (gtX prog w B Lg fG cd).Gd [("encoding", .none), ("text", .str ⟨T⟩), ("self", .obj (.ref N.lx))] s) (hw : ∃ m, s.heap.Ns Lw m) (htd : ∃ o, s.heap.get? Td = some o) (hlc : ∃ o, s.heap.get? Lc = some o)
    (dw : Lw ≠ Lg) (dt : Td ∉ [Lg, Lw]) (dl : Lc ∉ [Lg, Lw]) (b0 : ∀ b ∈ [Lg, Lw, Td, Lc], B.get? b = none) (hbd : ∀ h' : Heap, (∀ b o, b ≠ Lg → s.heap.get? b = some o → h'.get? b = some o) → bd ≤ h'.objs.size) :
    Seg (model prog w) A (GtR bd Lg Lw) (GtY N.tt T (toks T 15 0) bd Lg Lw Td Lc) (toks T 15 0).length s (.func gtB (gtX prog w B Lg fG cd).env) ((model prog w).den (.func gtB (gtX prog w B Lg fG cd).env)) [] s := by
  refine seg_func ?_
  have hR : Rm 8 (A.over (.func gtB (gtX prog w B Lg fG cd).env) []) := ⟨by show A.depth + 0 + 1 + 8 < _; omega, hh⟩
  conv in execs gtB _ => unfold gtB
  -- isinstance(text, str)
  refine seg_execs_cons (sg_wrap ?_)
  have h1 : ∀ {p1 p2 p3 p4 p5 p6 : Pos} {els : List Stmt}, Ex1 (gtX prog w B Lg fG cd) [("encoding", .none), ("text", .str ⟨T⟩), ("self", .obj (.ref N.lx))] (.If (.Call (.Name "isinstance" p1) [.Name "text" p2, .Name "str" p3] [] p4) [.Pass p5] els p6) (.next [("encoding", .none), ("text", .str ⟨T⟩), ("self", .obj (.ref N.lx))]) := fun {p1 p2 p3 p4 p5 p6 els} =>
    Ex1.ite (b := true) (Ts.plainB (Ev.isiStr (K := K) (c := .type "str") (b := true) Bs.con.inn Bs.isi (EvArgs.cons (by run_tac ev) (EvArgs.cons (Ev.glob Bs.str (by run_tac dk) rfl (by run_tac dk)) EvArgs.nil)) Bs.kst rfl rfl (by run_tac dk) rfl) (fun _ => rfl)) (fun _ => Ex.pass) (fun q => by cases q)
  refine h1 _ hR s _ _ g fun fl s1 u1 g1 => ?_
  cases fl with
  | brk | cont | ret => exact g1.elim
  | next =>
  -- delimited_spans = find_delimited_spans(text)
  refine seg_execs_cons (sg_wrap ?_)
  have h2 : ∀ {p1 p2 p3 p4 p5 : Pos} , swapsWith (.Call (.Name "find_delimited_spans" p2) [.Name "text" p3] [] p4) (some (.Name "delimited_spans" p1)) p5.line (gtX prog w B Lg fG cd).env = pure false → Ex1 (gtX prog w B Lg fG cd) [("encoding", .none), ("text", .str ⟨T⟩), ("self", .obj (.ref N.lx))] (.Assign [.Name "delimited_spans" p1] (.Call (.Name "find_delimited_spans" p2) [.Name "text" p3] [] p4) p5) (.next [("delimited_spans", .obj (.ref N.ns)), ("encoding", .none), ("text", .str ⟨T⟩), ("self", .obj (.ref N.lx))]) := fun hs =>
    Ex1.assign (Ev.callK (EvArgs.cons (by run_tac ev) EvArgs.nil) (fds_kn (d := 7) Bs.fds hT) (by run_tac dk) rfl (by run_tac dk) rfl) (by run_tac dk) rfl hs
  refine h2 rfl _ hR s1 _ _ g1 fun fl s2 u2 g2 => ?_
  cases fl with
  | brk | cont | ret => exact g2.elim
  | next =>
  -- span_openers = delimited_spans.openers
  refine seg_execs_cons (sg_wrap ?_)
  obtain ⟨CD, pD, dxD, fD, iD, PD, SD, ID, hvD, hhD⟩ := Bs.opn
  have h3 : ∀ {p1 p2 p3 p4 : Pos} , swapsWith (.Attribute (.Name "delimited_spans" p2) "openers" p3) (some (.Name "span_openers" p1)) p4.line (gtX prog w B Lg fG cd).env = pure false → Ex1 (gtX prog w B Lg fG cd) [("delimited_spans", .obj (.ref N.ns)), ("encoding", .none), ("text", .str ⟨T⟩), ("self", .obj (.ref N.lx))] (.Assign [.Name "span_openers" p1] (.Attribute (.Name "delimited_spans" p2) "openers" p3) p4) (.next [("span_openers", .obj (.ref N.od)), ("delimited_spans", .obj (.ref N.ns)), ("encoding", .none), ("text", .str ⟨T⟩), ("self", .obj (.ref N.lx))]) := fun hs =>
    Ex1.assign (Ev.slot Bs.con.inn PD SD ID hvD hhD (fun _ => .obj _) (by run_tac ev) (an_name _ _ _ _)) (by run_tac dk) rfl hs
  refine h3 rfl _ hR s2 _ _ g2 fun fl s3 u3 g3 => ?_
  cases fl with
  | brk | cont | ret => exact g3.elim
  | next =>
  -- iterable = enumerate(text)
  refine seg_execs_cons (sg_wrap ?_)
  have htx : ∀ {p : Pos}, Ev (gtX prog w B Lg fG cd) [("span_openers", .obj (.ref N.od)), ("delimited_spans", .obj (.ref N.ns)), ("encoding", .none), ("text", .str ⟨T⟩), ("self", .obj (.ref N.lx))] (.Name "text" p) (.str ⟨T⟩) := fun {p} => by run_tac ev
  refine wpAny_Assign_Name (Call_name1 rfl (name_global (X := gtX prog w B Lg fG cd) Bs.enu (by run_tac dk) rfl (by run_tac dk) g3 (PySem.callWith_type1 (htx _ hR s3 _ _ g3 fun v s4 u4 i4 => ?_)))) rfl
  cases i4 with
  | str _ t =>
  refine call_enumerate_str fun h5 he5 hi5 hz5 hk5 => ?_
  have g4 := Gd.up g3 u4
  have u5 : Mine.Up s4 { s4 with heap := h5 } := ⟨h5, s4.toks, rfl, hk5⟩
  obtain ⟨e, he⟩ : ∃ e, e = s4.heap.objs.size + 1 := ⟨_, rfl⟩
  obtain ⟨it, hit⟩ : ∃ it, it = s4.heap.objs.size := ⟨_, rfl⟩
  rw [← he, ← hit] at he5
  rw [← hit] at hi5
  rw [ascii_tx hT] at hi5
  rw [← he]
  refine store (X := gtX prog w B Lg fG cd) (p := .obj (.ref e)) (Gd.up g4 u5) (.obj _) (by run_tac dk) rfl fun s6 u6 g6 => ?_
  -- what is kept
  have ul : UpL Lg s s6 := ((((u1.trans u2).trans u3).trans (u4.upL _)).trans (u5.upL _)).trans u6
  have ul4 : UpL Lg s s4 := ((u1.trans u2).trans u3).trans (u4.upL _)
  have k4 : ∀ b o, b ≠ Lg → s.heap.get? b = some o → s4.heap.get? b = some o := by
    obtain ⟨h', tk, rfl, kk⟩ := ul4
    exact kk
  have hbd4 := hbd s4.heap k4
  have lt4 : ∀ {b : Addr}, b ≠ Lg → (∃ o, s.heap.get? b = some o) → b < s4.heap.objs.size := fun hb ⟨o, ho⟩ => Heap.lt_size (k4 _ o hb ho)
  obtain ⟨mw, hmw⟩ := hw
  have hwo : ∃ o, s.heap.get? Lw = some o := let ⟨o, _, _, ho, _⟩ := hmw; ⟨o, ho⟩
  obtain ⟨mg, Fg, _⟩ := Gd.fr g4
  have ltg : Lg < s4.heap.objs.size := Fg.ns.lt
  simp only [List.mem_cons, List.not_mem_nil, or_false, not_or] at dt dl
  have lw4 := lt4 dw hwo
  have lt4' := lt4 dt.1 htd
  have lc4 := lt4 dl.1 hlc
  have hBs : B.objs.size ≤ s4.heap.objs.size := Gd.size g4
  have D : GtAd B e it Lg Lw Td Lc := {
    eg := by rw [he]; exact Nat.ne_of_gt (Nat.lt_succ_of_lt ltg)
    ew := by rw [he]; exact Nat.ne_of_gt (Nat.lt_succ_of_lt lw4)
    ig := by rw [hit]; exact Nat.ne_of_gt ltg
    iw := by rw [hit]; exact Nat.ne_of_gt lw4
    wg := dw
    td := by
      have n1 : Td ≠ e := by rw [he]; exact Nat.ne_of_lt (Nat.lt_succ_of_lt lt4')
      have n2 : Td ≠ it := by rw [hit]; exact Nat.ne_of_lt lt4'
      simp [n1, n2, dt.1, dt.2]
    lc := by
      have n1 : Lc ≠ e := by rw [he]; exact Nat.ne_of_lt (Nat.lt_succ_of_lt lc4)
      have n2 : Lc ≠ it := by rw [hit]; exact Nat.ne_of_lt lc4
      simp [n1, n2, dl.1, dl.2]
    b0 := fun b hb => by
      rcases List.mem_cons.mp hb with rfl | hb
      · exact Heap.get?_none_of_le (by rw [he]; exact Nat.le_succ_of_le hBs)
      rcases List.mem_cons.mp hb with rfl | hb
      · exact Heap.get?_none_of_le (by rw [hit]; exact hBs)
      · exact b0 b hb }
  have En5 : EnAt h5 e it ⟨T⟩ t 0 := ⟨⟨.none, false, .none, he5, .inl rfl⟩, hi5, by rw [he, hit]; exact Nat.succ_ne_self _⟩
  have En6 : EnAt s6.heap e it ⟨T⟩ t 0 := by
    obtain ⟨h', tk, rfl, kk⟩ := u6
    exact En5.keep (S := [Lg]) (fun b o hb q => kk b o (by simpa using hb) q) (by simp [D.eg]) (by simp [D.ig])
  have gk : GK Lw [e, it, Lg, Lw] s s6 := GK.upL ul (by simp) dw
  have ko : ∀ {d : Addr}, d ∉ [e, it, Lg, Lw] → (∃ o, s.heap.get? d = some o) → ∃ o, s6.heap.get? d = some o := fun {d} hd ⟨o, ho⟩ => ⟨o, gk.kx _ _ hd ho⟩
  have gone : ∀ {b : Addr}, b ≠ Lg → s4.heap.objs.size ≤ b → s.heap.get? b = none := fun {b} hb hle => by
    cases hq : s.heap.get? b with
    | none => rfl
    | some o => have := Heap.lt_size (k4 b o hb hq); exact absurd this (Nat.not_lt.mpr hle)
  have hns : ∀ b ∈ [e, it, Lg, Lw], noSeq s.heap b := fun b hb => by
    intro c vs n q
    rcases List.mem_cons.mp hb with rfl | hb
    · rw [gone D.eg (by rw [he]; exact Nat.le_succ _)] at q; cases q
    rcases List.mem_cons.mp hb with rfl | hb
    · rw [gone D.ig (by rw [hit]; exact Nat.le_refl _)] at q; cases q
    rcases List.mem_cons.mp hb with rfl | hb
    · obtain ⟨m, F, _⟩ := Gd.fr g
      obtain ⟨o, _, _, ho, hd, _⟩ := F.ns
      rw [ho] at q; cases q; cases hd
    · rw [List.mem_singleton.mp hb] at q
      obtain ⟨o, _, _, ho, hd, _⟩ := hmw
      rw [ho] at q; cases q; cases hd
  have g6' : (gtX prog w B Lg fG cd).Gd (gr0 e N.ns N.od N.lx T) s6 := g6
  -- the loop
  refine seg_execs_cons (sg_For ?_ (fun _ => rfl))
  have hie : ∀ {p : Pos}, Ev (gtX prog w B Lg fG cd) (gr0 e N.ns N.od N.lx T) (.Name "iterable" p) (.obj (.ref e)) := fun {p} => by unfold gr0; run_tac ev
  refine hie _ hR s6 _ _ g6' fun v s7 u7 i7 => ?_
  cases i7
  have En7 : EnAt s7.heap e it ⟨T⟩ t 0 := En6.keep (S := []) (Kx.of_keep u7.keep) (by simp) (by simp)
  obtain ⟨f0, bb, old, he7, _⟩ := En7.rcd
  have hT7 : s7.TypeIs (.ref e) "enumerate" := ⟨_, he7, rfl⟩
  refine wpAny_pyIter_slot hT7 F.slot_enumerate_iter (wpAny_call_entry F.slot_enumerate_iter hT7 F.entry_enumerate_iter ?_ (F.args_enumerate_iter_1 _))
  show wpAny _ _ (ret (.ref e)) _ _ s7
  refine wpAny_pure ⟨_, rfl, "enumerate", _, hT7, F.slot_enumerate_next.lookup, fun p => ?_⟩
  refine gt_outer (it := it) (t := t) (all := toks T 15 0) Bs hT D hew hA hh hd (by rw [he]; exact Nat.le_succ_of_le hbd4) (by rw [hit]; exact hbd4) (fun s₀ s gr => ?_) 15 0 (Nat.zero_le _) (by have := hT.len; omega) [] rfl s s7 (Gd.up g6' u7) En7 (gk.trans (GK.up u7)) ⟨mw, (gk.trans (GK.up u7)).ns _ hmw⟩ ?_ ?_ hns
  · exact seg_execs_nil (seg_end (.ok (.ret .none)) ⟨rfl, rfl, gr⟩)
  · obtain ⟨o, ho⟩ := ko D.td htd; exact ⟨o, u7.keep _ _ ho⟩
  · obtain ⟨o, ho⟩ := ko D.lc hlc; exact ⟨o, u7.keep _ _ ho⟩
end
end Mine
-- M0
set_option maxRecDepth 100000
set_option maxHeartbeats 4000000
set_option linter.unusedVariables false
namespace Mine
open PySem PySem.Calls PyProof.Rows PySem.W

/-! ## an object and its dict -/
theorem ns_lookIn {h : Heap} {a : Addr} {m : Str → Option Value} {name : Str} {o : Obj} (hn : h.Ns a m) (ho : h.get? a = some o) : lookIn name o = some (m name) := by
  obtain ⟨o', es, ep, ho', hd, hk, hm⟩ := hn
  rw [ho] at ho'; cases ho'
  have hany : es.toList.any (·.refKey) = false := by
    rw [List.any_eq_false]
    intro e he
    obtain ⟨n, t, h⟩ := hk e (Array.mem_toList_iff.mp he)
    simp [DictEntry.refKey, h]
  unfold lookIn
  rw [hd]
  dsimp only
  rw [← hm name]
  unfold nsFind findBy
  rw [← Array.find?_toList]
  cases hf : es.toList.find? (fun e => e.key.isStr name) with
  | some e => rfl
  | none => rw [hany]; rfl
theorem findObj_own {K : Frag} {C : Addr} {od : Obj} {name : Str} {v : Value} (hh : (clsIn K C).any (·.hasDict) = true) (hf : findIn K (.ref C) name = some none) (hl : lookIn name od = some (some v)) : findObj K C (some od) name = some (.value v) := by
  obtain ⟨cd, hc, hd⟩ := any_some hh
  unfold findObj
  rw [hc, hf]
  simp only [Option.bind_some]
  unfold PySem.W.ownOf
  rw [if_pos hd]
  dsimp only
  rw [hl]
  rfl
/-- a namespace of at most k names -/
def NsK (k : Nat) (h : Heap) (a : Addr) (m : Str → Option Value) : Prop := ∃ o es ep, h.get? a = some o ∧ o.data = .dict es ep ∧ StrKeys es ∧ (∀ name, nsFind es name = m name) ∧ es.size ≤ k
theorem NsK.ns {k : Nat} {h : Heap} {a : Addr} {m : Str → Option Value} (x : NsK k h a m) : h.Ns a m := let ⟨o, es, ep, a, b, c, d, _⟩ := x; ⟨o, es, ep, a, b, c, d⟩
theorem NsK.at {k : Nat} {h h' : Heap} {a : Addr} {m : Str → Option Value} (x : NsK k h a m) (hk : ∀ o, h.get? a = some o → h'.get? a = some o) : NsK k h' a m := let ⟨o, es, ep, a, r⟩ := x; ⟨o, es, ep, hk _ a, r⟩
theorem wpAny_nsSetK {M : Model} {A : Around} {E : Value → Shared → Prop} {s : Shared} {k : Nat} {a : Addr} {m : Str → Option Value} {name : Str} {v : Value} {Q : Unit → Shared → Prop} (hn : NsK k s.heap a m)
    (hQ : ∀ h', NsK (k + 1) h' a (fun x => if x = name then some v else m x) → Heap.SameBut a s.heap h' → Q () { s with heap := h', toks := s.toks + 1 }) : wpAny M A (nsSet a name v) Q E s := fun Γ p _ => by
  obtain ⟨o, es, ep, ho, hd, hk, hm, hz⟩ := hn
  simp only [nsSet, strHash, Sem.wp_bind', Sem.wp_cmd_ask, Sem.wp_pure', Sem.wp_cmd_mkText]
  rw [Sem.wp_loadPart_of M Γ _ p { s with toks := s.toks + 1 } (o := o) _ ho]
  have hany : es.any (·.refKey) = false := by
    rw [Array.any_eq_false']; intro e he; obtain ⟨n, t, h⟩ := hk e he; simp [DictEntry.refKey, h]
  simp only [hd, aRefKeyMayBeTheName_eq, aRefKeyMayBeTheNameByArray, hany, Bool.and_false, Bool.false_eq_true, if_false, Sem.wp_cmd_updatePart]
  refine ⟨by rw [ho]; rfl, hQ _ ?_ (Heap.SameBut.update ..)⟩
  obtain ⟨c, d, dt, sl⟩ := o
  subst hd
  cases hi : es.findIdx? (·.key.isStr name) with
  | some i =>
    refine ⟨_, _, ep, Heap.get?_update_self _ ho (by simp only [Obj.putName_eq, Obj.putNameByArray, hi]; rfl), by simp only [Obj.putName_eq, Obj.putNameByArray, hi]; rfl, hk.modify _ _, fun x => ?_, by rw [Array.size_modify]; omega⟩
    show _ = if x = name then some v else m x
    rw [← hm]; exact findBy_modify (fun n v => v.isStr n) Value.isStr_inj es name x v i hi
  | none =>
    refine ⟨_, _, ep + 1, Heap.get?_update_self _ ho (by simp only [Obj.putName_eq, Obj.putNameByArray, hi]; rfl), by simp only [Obj.putName_eq, Obj.putNameByArray, hi]; rfl, hk.push _ _ _ _, fun x => ?_, by rw [Array.size_push]; omega⟩
    show _ = if x = name then some v else m x
    rw [← hm]
    exact findBy_push (fun n v => v.isStr n) es name x _ _ v (fun y => by
      show (name == y) = decide (y = name)
      by_cases h : y = name
      · subst h; simp
      · simp [h, Ne.symm h]) (by simpa using hi)
/-- the object lx of C with its dict dx -/
structure Lx (k : Nat) (h : Heap) (C lx dx : Addr) (m : Str → Option Value) : Prop where
  at_ : h.get? lx = some (instObj C dx)
  nsk : NsK k h dx m
theorem Lx.ns {k : Nat} {h : Heap} {C lx dx : Addr} {m : Str → Option Value} (x : Lx k h C lx dx m) : h.Ns dx m := x.nsk.ns
theorem Lx.keeps {k : Nat} {h h' : Heap} {C lx dx : Addr} {m : Str → Option Value} (x : Lx k h C lx dx m) (kk : ∀ b o, h.get? b = some o → h'.get? b = some o) : Lx k h' C lx dx m := ⟨kk _ _ x.at_, x.nsk.at fun o => kk _ o⟩
theorem Lx.inst {k : Nat} {h : Heap} {C lx dx : Addr} {m : Str → Option Value} (x : Lx k h C lx dx m) : ∃ od, h.get? dx = some od ∧ InstAt h lx (instObj C dx) C (some od) ∧ ∀ name, lookIn name od = some (m name) := by
  obtain ⟨o, es, ep, ho, r⟩ := id x.ns
  exact ⟨o, ho, ⟨x.at_, rfl, rfl, ho⟩, fun name => ns_lookIn x.ns ho⟩
theorem Lx.ne {k : Nat} {h : Heap} {C lx dx : Addr} {m : Str → Option Value} (x : Lx k h C lx dx m) : dx ≠ lx := by
  intro e
  obtain ⟨o, es, ep, ho, hd, _⟩ := x.ns
  rw [e, x.at_] at ho; cases ho; cases hd

section
variable {prog : Program} {w : World} {A : Around} {E : Value → Shared → Prop} {s : Shared} {K : Frag} {C lx dx : Addr} {m : Str → Option Value} {name : Str} {v : Value} {k : Nat}
theorem sa_ns {Q : Unit → Shared → Prop} (X : K.In s.heap) (P : PlainCls K C) (hh : (clsIn K C).any (·.hasDict) = true) (ht : takerIn K C name = some none) (I : Lx k s.heap C lx dx m) (hkk : k < 1000)
    (h : ∀ h', Lx (k + 1) h' C lx dx (fun y => if y = name then some v else m y) → Heap.SameBut dx s.heap h' → Q () { s with heap := h', toks := s.toks + 1 + 1 }) : wpAny (model prog w) A (setAttr (.ref lx) name v) Q E s := by
  obtain ⟨hp, g, d, tk, os⟩ := s
  obtain ⟨od, hod, Ii, hlk⟩ := I.inst
  refine set_plain X Ii P.sa (osa_open (s := ⟨hp, g, d, tk + 1, os⟩) X Ii P.over ht fun b => ?_)
  obtain ⟨cd, hc, hd'⟩ := any_some hh
  refine wpAny_bind (wpAny_pure (wpAny_bind (wpAny_bind (wpAny_loadPart I.at_ (wpAny_bind ((looks_clsIn X hc).at ?_))))))
  rw [hd']
  refine wpAny_pure (a := some dx) (wpAny_bind (wpAny_pure (wpAny_bind (wpAny_nsSetK (s := ⟨hp, g, d, tk + 1, os⟩) I.nsk fun h' hn hs => ?_))))
  obtain ⟨o', es', ep', ho', hd2, _, _, hz'⟩ := id hn
  refine wpAny_bind (wpAny_lookBehind ho' (by rw [hd2]; exact pastItsLine_dict (by rw [sizeLine_eq]; omega)) ?_)
  exact wpAny_pure (h h' ⟨(hs.2 _ (Ne.symm I.ne)).trans I.at_, hn⟩ hs)
theorem at_ns {Q : Value → Shared → Prop} {b : Bool} (X : K.In s.heap) (P : PlainCls K C) (hh : (clsIn K C).any (·.hasDict) = true) (hf : findIn K (.ref C) name = some none) (I : Lx k s.heap C lx dx m) (hv : m name = some v) (hi : handedIn v = true)
    (h : Q v { s with toks := s.toks + 1 }) : wpAny (model prog w) A (getAttr (.ref lx) name b) Q E s := by
  obtain ⟨od, hod, Ii, hlk⟩ := I.inst
  exact get_value X Ii P.ga (findObj_own hh hf (by rw [hlk, hv])) hi h
/-- C() of a class without an __init__ -/
theorem lex_make {R : Result → Shared → Prop} (X : K.In s.heap) (hm : makesIn K C = true) (hi : findIn K (.ref C) "__init__" = some (some (.builtin "object.__init__")))
    (h : ∀ x dx h', Lx 0 h' C x dx (fun _ => none) → (∀ b o, s.heap.get? b = some o → h'.get? b = some o) → s.heap.get? x = none → s.heap.get? dx = none → R (.ok (.ret (.ref x))) { s with heap := h' }) : codeAny (model prog w) A (.call (.ref C) ⟨[], []⟩) R s := by
  obtain ⟨hh, g, d, t, os⟩ := s
  have Y := makes_of (M := model prog w) X hm
  have kp : ∀ b o, hh.get? b = some o → ((hh.push emptyDict).push (instObj C hh.objs.size)).get? b = some o := fun b o q => Heap.get?_push_of_some _ (Heap.get?_push_of_some _ q)
  have hx : ((hh.push emptyDict).push (instObj C hh.objs.size)).get? (hh.objs.size + 1) = some (instObj C hh.objs.size) := by
    have := Heap.get?_push_size (hh.push emptyDict) (o := instObj C hh.objs.size) rfl
    rwa [Heap.size_push] at this
  have hd : ((hh.push emptyDict).push (instObj C hh.objs.size)).get? hh.objs.size = some emptyDict := Heap.get?_push_of_some _ (Heap.get?_push_size _ rfl)
  refine make_core Y (looks_findIn X hi) (fun self => Looks.of_pure (oi_bind self)) (.inr ⟨rfl, rfl⟩) ?_
  have t1 : Looks (model prog w) ((hh.push emptyDict).push (instObj C hh.objs.size)) (typeOf (.ref (hh.objs.size + 1))) (.ref C) := (Looks.ld (part := none) hx).andThen .now
  have t2 : Looks (model prog w) ((hh.push emptyDict).push (instObj C hh.objs.size)) (isInstance (.ref (hh.objs.size + 1)) (.type "object")) true := t1.andThen (Y.top.keeps kp)
  refine codeAny_call_builtin oi_plain entry_oi (@check_slot (model prog w) _ _ _ "object.__init__" "object" "__init__" (.ref (hh.objs.size + 1)) [] [] _ oi_kind oi_split t2 (oi_args (.ref (hh.objs.size + 1))) ?_)
  rw [oi_run]
  refine wpAny_pure (And.intro rfl (h _ hh.objs.size _ ⟨hx, ⟨_, #[], 0, hd, rfl, fun e he => by simp at he, fun _ => rfl, Nat.le_refl _⟩⟩ kp (Heap.get?_none_of_le (Nat.le_succ _)) (Heap.get?_none_of_le (Nat.le_refl _))))
end
end Mine
-- M1
set_option maxRecDepth 100000
set_option maxHeartbeats 4000000
set_option linter.unusedVariables false
namespace Mine
open PySem PySem.Calls PyProof.Rows PySem.W

def clA : Arguments := by run_tac putDef "Lexer" "clear" 1
def clB : List Stmt := by run_tac putDef "Lexer" "clear" 2
def clS : Scope := by run_tac putDef "Lexer" "clear" 6
def seA : Arguments := by run_tac putDef "Lexer" "set_SQL_REGEX" 1
def seB : List Stmt := by run_tac putDef "Lexer" "set_SQL_REGEX" 2
def seS : Scope := by run_tac putDef "Lexer" "set_SQL_REGEX" 6
def adA : Arguments := by run_tac putDef "Lexer" "add_keywords" 1
def adB : List Stmt := by run_tac putDef "Lexer" "add_keywords" 2
def adS : Scope := by run_tac putDef "Lexer" "add_keywords" 6
def diA : Arguments := by run_tac putDef "Lexer" "default_initialization" 1
def diB : List Stmt := by run_tac putDef "Lexer" "default_initialization" 2
def diS : Scope := by run_tac putDef "Lexer" "default_initialization" 6
def tkA : Arguments := by run_tac putDef "" "tokenize" 1
def tkB : List Stmt := by run_tac putDef "" "tokenize" 2
def tkS : Scope := by run_tac putDef "" "tokenize" 6

/-- a list, its object told in full -/
def LsAt (h : Heap) (l : Addr) (its : Array Value) : Prop := ∃ n, h.get? l = some { cls := .type "list", data := .seq its n }
theorem LsAt.at {h h' : Heap} {l : Addr} {its : Array Value} (x : LsAt h l its) (k : ∀ o, h.get? l = some o → h'.get? l = some o) : LsAt h' l its := let ⟨n, e⟩ := x; ⟨n, k _ e⟩
theorem LsAt.plain {h : Heap} {l : Addr} {its : Array Value} (x : LsAt h l its) : PlainL h l its := let ⟨n, e⟩ := x; ⟨_, n, e, rfl, rfl, rfl⟩
section
variable {prog : Program} {w : World} {A : Around} {E : Value → Shared → Prop} {s : Shared}
theorem ls_append {l : Addr} {its : Array Value} {x : Value} {Q : Value → Shared → Prop} (hl : LsAt s.heap l its) (hQ : ∀ h', LsAt h' l (its.push x) → Heap.SameBut l s.heap h' → Q .none { s with heap := h' }) (hsz : its.size ≤ sizeLine) :
    wpAny (model prog w) A (call (.builtin "list.append") [.ref l, x]) Q E s := by
  obtain ⟨n, ho⟩ := hl
  have hd : (({ cls := .type "list", data := .seq its n } : Obj)).data = .seq its n := rfl
  refine wpAny_call_entry slot_list_append (s := s) ⟨_, ho, rfl⟩ entry_list_append ?_ (args_list_append _ _)
  show wpAny _ _ (updateSeq l (·.push x) >>= fun _ => ret .none) _ _ s
  refine wpAny_bind ?_
  refine wpAny_updateSeq ho hd (wpAny_pure ⟨.none, rfl, hQ _ ?_ (Heap.SameBut.update ..)⟩)
  exact ⟨_, Heap.get?_update_self _ ho rfl⟩
end

/-- what the base tells of the class Lexer -/
structure LexCls (h₀ : Heap) (K : Frag) (C : Addr) : Prop where
  inn : K.In h₀
  lim : h₀.NoLimit
  pc : PlainCls K C
  makes : makesIn K C = true
  keep : keepIn K (.ref C) = true
  init : findIn K (.ref C) "__init__" = some (some (.builtin "object.__init__"))
  hasd : (clsIn K C).any (·.hasDict) = true
  t1 : takerIn K C "_SQL_REGEX" = some none
  t2 : takerIn K C "_keywords" = some none
  f1 : findIn K (.ref C) "_SQL_REGEX" = some none
  f2 : findIn K (.ref C) "_keywords" = some none

abbrev mX (prog : Program) (w : World) (B : Heap) (q : Str) (S : Scope) (L f : Addr) (cd : Value) : Fm := ⟨prog, w, B, 0, q, S, L, f, cd⟩
section
variable {prog : Program} {w : World} {A : Around} {E : Value → Shared → Prop} {Q : Value → Shared → Prop} {s : Shared} {h₀ : Heap} {K : Frag} {C lx dx f : Addr} {cd v : Value} {k : Nat} {m : Str → Option Value}
theorem clear_walk (LS : LexCls h₀ K C) (FC : FnAt h₀ f "clear" "Lexer.clear" clA clB clS .none .none cd) (k0 : ∀ b o, h₀.get? b = some o → s.heap.get? b = some o) (hroom : A.depth < recursionLimit) (hd0 : h₀.get? dx = none) (I : Lx k s.heap C lx dx m) (hk : k < 900)
    (hQ : ∀ h' tk l1 kl, Lx (k + 1 + 1) h' C lx dx (fun y => if y = "_keywords" then some (.ref kl) else if y = "_SQL_REGEX" then some (.ref l1) else m y) → LsAt h' kl #[] → s.heap.get? kl = none → h₀.get? kl = none → Kx [dx] s.heap h' → Q .none { s with heap := h', toks := tk }) :
    wpAny (model prog w) A (call (.ref f) [.ref lx]) Q E s := by
  refine wpAny_call (call_fn (binds := [("self", .ref lx)]) (FC.keeps k0) (LS.lim.keeps k0) hroom (fun doc pm an ct => BindsTo.of_eq (by rfl)) (fun y hy => by rw [List.mem_singleton.mp hy]; run_tac dk) (fun h₁ hns hk₁ => ?_) (by decide +kernel))
  have dxlt : dx < s.heap.objs.size := I.ns.lt
  have hL : s.heap.objs.size ≠ dx := Nat.ne_of_gt dxlt
  obtain ⟨L, hLe⟩ : ∃ L, L = s.heap.objs.size := ⟨_, rfl⟩
  rw [← hLe] at hns hL ⊢
  generalize A.deeper (envOf "Lexer.clear" clS L f cd) = A₁
  have k1 : ∀ b o, h₀.get? b = some o → h₁.get? b = some o := fun b o q => hk₁ b o (k0 b o q)
  show wpAny (model prog w) A₁ (execs clB (mX prog w h₀ "Lexer.clear" clS L f cd).env) _ _ { s with heap := h₁, toks := s.toks + 1 }
  unfold clB
  -- self._SQL_REGEX = []
  refine wpAny_execs_cons (plainObj_wpAny_Assign_Attribute (wpAny_List (wpAny_items_nil ⟨Nat.zero_le _, ?_⟩)) rfl)
  have hu1 : ∀ b o, h₁.get? b = some o → (h₁.push { cls := .type "list", data := .seq ([] : List Value).toArray }).get? b = some o := fun b o q => Heap.get?_push_of_some _ q
  refine name_ns (X := mX prog w h₀ "Lexer.clear" clS L f cd) (s := { s with heap := h₁.push { cls := .type "list", data := .seq ([] : List Value).toArray }, toks := s.toks + 1 }) (hns.keeps hu1) rfl (by run_tac dk) rfl (by run_tac dk) ?_
  refine sa_ns (s := { s with heap := h₁.push { cls := .type "list", data := .seq ([] : List Value).toArray }, toks := s.toks + 1 }) (LS.inn.keeps fun b o q => hu1 b o (k1 b o q)) LS.pc LS.hasd LS.t1 ((I.keeps hk₁).keeps hu1) (by omega) fun h2 I2 hs2 => ?_
  have k2 : Kx [dx] h₁ h2 := (Kx.of_keep hu1).trans (Kx.of_same hs2 (.head _))
  have k02 : ∀ b o, h₀.get? b = some o → h2.get? b = some o := k2.keeps0 k1 (by simp [hd0])
  have hns2 : h2.Ns L _ := ns_ext hns fun o q => k2 _ _ (by simpa using hL) q
  -- self._keywords = []
  refine wpAny_execs_cons (plainObj_wpAny_Assign_Attribute (wpAny_List (wpAny_items_nil ⟨Nat.zero_le _, ?_⟩)) rfl)
  obtain ⟨kl, hkl⟩ : ∃ kl, kl = h2.objs.size := ⟨_, rfl⟩
  have hu2 : ∀ b o, h2.get? b = some o → (h2.push { cls := .type "list", data := .seq ([] : List Value).toArray }).get? b = some o := fun b o q => Heap.get?_push_of_some _ q
  refine name_ns (X := mX prog w h₀ "Lexer.clear" clS L f cd) (s := { s with heap := h2.push { cls := .type "list", data := .seq ([] : List Value).toArray }, toks := s.toks + 1 + 1 + 1 }) (hns2.keeps hu2) rfl (by run_tac dk) rfl (by run_tac dk) ?_
  refine sa_ns (s := { s with heap := h2.push { cls := .type "list", data := .seq ([] : List Value).toArray }, toks := s.toks + 1 + 1 + 1 }) (LS.inn.keeps fun b o q => hu2 b o (k02 b o q)) LS.pc LS.hasd LS.t2 (I2.keeps hu2) (by omega) fun h3 I3 hs3 => ?_
  have k3 : Kx [dx] h2 h3 := (Kx.of_keep hu2).trans (Kx.of_same hs3 (.head _))
  have kdx : kl ≠ dx := by
    have := I2.ns.lt
    rw [hkl]; exact Nat.ne_of_gt this
  refine wpAny_execs_nil (hQ h3 _ h₁.objs.size kl ?_ ?_ ?_ ?_ (((Kx.of_keep hk₁).trans k2).trans k3))
  · rw [← hkl] at I3; exact I3
  · exact ⟨0, hs3.extBut _ _ kdx (by rw [hkl]; exact Heap.get?_push_size _ rfl)⟩
  · cases q : s.heap.get? kl with
    | none => rfl
    | some o =>
      have := Heap.lt_size (k2 _ _ (by simpa using kdx) (hk₁ _ _ q))
      exact absurd hkl (Nat.ne_of_lt this)
  · cases q : h₀.get? kl with
    | none => rfl
    | some o =>
      have := Heap.lt_size (k02 _ _ q)
      exact absurd hkl (Nat.ne_of_lt this)
theorem set_walk (LS : LexCls h₀ K C) (FC : FnAt h₀ f "set_SQL_REGEX" "Lexer.set_SQL_REGEX" seA seB seS .none .none cd) (k0 : ∀ b o, h₀.get? b = some o → s.heap.get? b = some o) (hroom : A.depth < recursionLimit) (hd0 : h₀.get? dx = none) (I : Lx k s.heap C lx dx m) (hk : k < 900)
    (hQ : ∀ h' tk, Lx (k + 1) h' C lx dx (fun y => if y = "_SQL_REGEX" then some v else m y) → Kx [dx] s.heap h' → Q .none { s with heap := h', toks := tk }) :
    wpAny (model prog w) A (call (.ref f) [.ref lx, v]) Q E s := by
  refine wpAny_call (call_fn (binds := [("self", .ref lx), ("SQL_REGEX", v)]) (FC.keeps k0) (LS.lim.keeps k0) hroom (fun doc pm an ct => BindsTo.of_eq (by rfl)) (fun y hy => ?_) (fun h₁ hns hk₁ => ?_) (by decide +kernel))
  · rcases List.mem_cons.mp hy with rfl | hy
    · run_tac dk
    · rw [List.mem_singleton.mp hy]; run_tac dk
  obtain ⟨L, hLe⟩ : ∃ L, L = s.heap.objs.size := ⟨_, rfl⟩
  rw [← hLe] at hns ⊢
  generalize A.deeper (envOf "Lexer.set_SQL_REGEX" seS L f cd) = A₁
  have k1 : ∀ b o, h₀.get? b = some o → h₁.get? b = some o := fun b o q => hk₁ b o (k0 b o q)
  show wpAny (model prog w) A₁ (execs seB (mX prog w h₀ "Lexer.set_SQL_REGEX" seS L f cd).env) _ _ { s with heap := h₁, toks := s.toks + 2 }
  unfold seB
  refine wpAny_execs_cons (plainObj_wpAny_Assign_Attribute (name_ns (X := mX prog w h₀ "Lexer.set_SQL_REGEX" seS L f cd) (s := { s with heap := h₁, toks := s.toks + 2 }) hns rfl (by run_tac dk) rfl (by run_tac dk) ?_) rfl)
  refine name_ns (X := mX prog w h₀ "Lexer.set_SQL_REGEX" seS L f cd) (s := { s with heap := h₁, toks := s.toks + 2 }) hns rfl (by run_tac dk) rfl (by run_tac dk) ?_
  refine sa_ns (s := { s with heap := h₁, toks := s.toks + 2 }) (LS.inn.keeps k1) LS.pc LS.hasd LS.t1 (I.keeps hk₁) (by omega) fun h2 I2 hs2 => ?_
  exact wpAny_execs_nil (hQ h2 _ I2 ((Kx.of_keep hk₁).trans (Kx.of_same hs2 (.head _))))
theorem add_walk {kl : Addr} {its : Array Value} (LS : LexCls h₀ K C) (FC : FnAt h₀ f "add_keywords" "Lexer.add_keywords" adA adB adS .none .none cd) (k0 : ∀ b o, h₀.get? b = some o → s.heap.get? b = some o) (hroom : A.depth < recursionLimit) (I : Lx k s.heap C lx dx m) (hm : m "_keywords" = some (.ref kl)) (hl : LsAt s.heap kl its) (hz : its.size ≤ sizeLine)
    (hQ : ∀ h' tk, LsAt h' kl (its.push v) → Kx [kl] s.heap h' → Q .none { s with heap := h', toks := tk }) :
    wpAny (model prog w) A (call (.ref f) [.ref lx, v]) Q E s := by
  refine wpAny_call (call_fn (binds := [("self", .ref lx), ("keywords", v)]) (FC.keeps k0) (LS.lim.keeps k0) hroom (fun doc pm an ct => BindsTo.of_eq (by rfl)) (fun y hy => ?_) (fun h₁ hns hk₁ => ?_) (by decide +kernel))
  · rcases List.mem_cons.mp hy with rfl | hy
    · run_tac dk
    · rw [List.mem_singleton.mp hy]; run_tac dk
  obtain ⟨L, hLe⟩ : ∃ L, L = s.heap.objs.size := ⟨_, rfl⟩
  rw [← hLe] at hns ⊢
  generalize A.deeper (envOf "Lexer.add_keywords" adS L f cd) = A₁
  have k1 : ∀ b o, h₀.get? b = some o → h₁.get? b = some o := fun b o q => hk₁ b o (k0 b o q)
  show wpAny (model prog w) A₁ (execs adB (mX prog w h₀ "Lexer.add_keywords" adS L f cd).env) _ _ { s with heap := h₁, toks := s.toks + 2 }
  unfold adB
  refine wpAny_execs_cons (wpAny_Expr (wpAny_Call_append rfl rfl rfl rfl (Attribute_Name_ (name_ns (X := mX prog w h₀ "Lexer.add_keywords" adS L f cd) (s := { s with heap := h₁, toks := s.toks + 2 }) hns rfl (by run_tac dk) rfl (by run_tac dk) ?_))) rfl rfl)
  refine at_ns (s := { s with heap := h₁, toks := s.toks + 2 }) (LS.inn.keeps k1) LS.pc LS.hasd LS.f2 (I.keeps hk₁) hm rfl ?_
  have hl1 : LsAt h₁ kl its := hl.at fun o q => hk₁ _ _ q
  refine ⟨kl, its, rfl, hl1.plain, ?_⟩
  refine name_ns (X := mX prog w h₀ "Lexer.add_keywords" adS L f cd) (s := { s with heap := h₁, toks := s.toks + 2 + 1 }) hns rfl (by run_tac dk) rfl (by run_tac dk) ?_
  refine ls_append (s := { s with heap := h₁, toks := s.toks + 2 + 1 }) hl1 (fun h' hl' hs => ?_) hz
  exact wpAny_execs_nil (hQ h' _ hl' ((Kx.of_keep hk₁).trans (Kx.of_same hs (.head _))))
end
end Mine
-- M2
set_option maxRecDepth 100000
set_option maxHeartbeats 4000000
set_option linter.unusedVariables false
namespace Mine
open PySem PySem.Calls PyProof.Rows PySem.W

structure MethAt (h₀ : Heap) (K : Frag) (C : Addr) (nm qual : Str) (a : Arguments) (b : List Stmt) (S : Scope) (dV : Value) (f : Addr) : Prop where
  fi : findIn K (.ref C) nm = some (some (.ref f))
  ft : typeIn K (.ref f) = some (.type "function")
  fk : keepIn K (.ref f) = true
  fn : ∃ cd, FnAt h₀ f nm qual a b S dV .none cd
structure DiBase (h₀ : Heap) (K : Frag) (C pt kc kw : Addr) : Prop where
  cls : LexCls h₀ K C
  clr : ∃ f, MethAt h₀ K C "clear" "Lexer.clear" clA clB clS .none f
  set : ∃ f, MethAt h₀ K C "set_SQL_REGEX" "Lexer.set_SQL_REGEX" seA seB seS .none f
  add : ∃ f, MethAt h₀ K C "add_keywords" "Lexer.add_keywords" adA adB adS .none f
  gpt : GlobalIs h₀ "SQL_REGEX" (.ref pt)
  gkc : GlobalIs h₀ "KEYWORDS_COMMON" (.ref kc)
  gkw : GlobalIs h₀ "KEYWORDS" (.ref kw)
section
variable {prog : Program} {w : World} {A : Around} {E : Value → Shared → Prop} {Q : Value → Shared → Prop} {s : Shared} {h₀ : Heap} {K : Frag} {C lx dx f pt kc kw : Addr} {cd v : Value} {k : Nat} {m : Str → Option Value}
theorem meth_lx {nm qual : Str} {a : Arguments} {b : List Stmt} {S : Scope} {dV : Value} {pl : Sem Bool} {Q : Value × List Value → Shared → Prop} (LS : LexCls h₀ K C) (M : MethAt h₀ K C nm qual a b S dV f) (k0 : ∀ b o, h₀.get? b = some o → s.heap.get? b = some o) (I : Lx k s.heap C lx dx m) (hm : m nm = none) (h : Q (.ref f, [.ref lx]) s) :
    wpAny (model prog w) A (getMethod (.ref lx) nm pl) Q E s := by
  obtain ⟨od, hod, Ii, hlk⟩ := I.inst
  exact method_fn (LS.inn.keeps k0) Ii LS.pc.ga LS.pc.gt M.fi M.ft (by show (lookIn nm od).map _ = _; rw [hlk, hm]; rfl) h

theorem di_walk (B : DiBase h₀ K C pt kc kw) (FC : FnAt h₀ f "default_initialization" "Lexer.default_initialization" diA diB diS .none .none cd) (k0 : ∀ b o, h₀.get? b = some o → s.heap.get? b = some o) (hroom : A.depth + 5 < recursionLimit) (hd0 : h₀.get? dx = none) (I : Lx k s.heap C lx dx (fun _ => none)) (hk : k < 100)
    (hQ : ∀ h' tk kl m', Lx (k + 3) h' C lx dx m' → m' "_SQL_REGEX" = some (.ref pt) → m' "_keywords" = some (.ref kl) → m' "is_keyword" = none → m' "get_tokens" = none → LsAt h' kl #[.ref kc, .ref kw] → s.heap.get? kl = none → h₀.get? kl = none → Kx [dx] s.heap h' → Q .none { s with heap := h', toks := tk }) :
    wpAny (model prog w) A (call (.ref f) [.ref lx]) Q E s := by
  obtain ⟨fc, Mc⟩ := B.clr
  obtain ⟨fs, Ms⟩ := B.set
  obtain ⟨fa, Ma⟩ := B.add
  obtain ⟨cdc, Fc⟩ := Mc.fn
  obtain ⟨cds, Fs⟩ := Ms.fn
  obtain ⟨cda, Fa⟩ := Ma.fn
  have LS := B.cls
  refine wpAny_call (call_fn (binds := [("self", .ref lx)]) (FC.keeps k0) (LS.lim.keeps k0) (by omega) (fun doc pm an ct => BindsTo.of_eq (by rfl)) (fun y hy => by rw [List.mem_singleton.mp hy]; run_tac dk) (fun h₁ hns hk₁ => ?_) (by decide +kernel))
  have dxlt : dx < s.heap.objs.size := I.ns.lt
  have hL : s.heap.objs.size ≠ dx := Nat.ne_of_gt dxlt
  obtain ⟨L, hLe⟩ : ∃ L, L = s.heap.objs.size := ⟨_, rfl⟩
  rw [← hLe] at hns hL ⊢
  have hroom1 : (A.deeper (envOf "Lexer.default_initialization" diS L f cd)).depth < recursionLimit := by show A.depth + 1 < _; omega
  generalize A.deeper (envOf "Lexer.default_initialization" diS L f cd) = A₁ at hroom1 ⊢
  have k1 : ∀ b o, h₀.get? b = some o → h₁.get? b = some o := fun b o q => hk₁ b o (k0 b o q)
  show wpAny (model prog w) A₁ (execs diB (mX prog w h₀ "Lexer.default_initialization" diS L f cd).env) _ _ { s with heap := h₁, toks := s.toks + 1 }
  have I1 := I.keeps hk₁
  unfold diB
  -- self.clear()
  refine wpAny_execs_cons (wpAny_Expr_any (methodCall_KW (name_ns (X := mX prog w h₀ "Lexer.default_initialization" diS L f cd) (s := { s with heap := h₁, toks := s.toks + 1 }) hns rfl (by run_tac dk) rfl (by run_tac dk) ?_)) rfl rfl)
  refine meth_lx (s := { s with heap := h₁, toks := s.toks + 1 }) LS Mc k1 I1 rfl ?_
  refine callWith_KW0 (h₀ := h₀) LS.inn Mc.fk rfl (kwAll_nil ⟨LS.inn.keeps k1, ?_⟩)
  refine clear_walk (s := { s with heap := h₁, toks := s.toks + 1 }) LS Fc k1 hroom1 hd0 I1 (by omega) fun h2 tk2 l1 kl I2 hl2 hn2 hn02 kx2 => ?_
  have kdx : kl ≠ dx := fun q => by rw [q] at hn2; have : h₁.get? dx = none := hn2; obtain ⟨o, _, _, ho, _⟩ := I1.ns; rw [this] at ho; cases ho
  have k02 : ∀ b o, h₀.get? b = some o → h2.get? b = some o := Kx.keeps0 (h := h₁) kx2 k1 (by simp [hd0])
  have hns2 : h2.Ns L _ := ns_ext hns fun o q => kx2 _ _ (by simpa using hL) q
  -- self.set_SQL_REGEX(SQL_REGEX)
  refine wpAny_execs_cons (wpAny_Expr_any (methodCall_KW (name_ns (X := mX prog w h₀ "Lexer.default_initialization" diS L f cd) (s := { s with heap := h2, toks := tk2 }) hns2 rfl (by run_tac dk) rfl (by run_tac dk) ?_)) rfl rfl)
  refine meth_lx (s := { s with heap := h2, toks := tk2 }) LS Ms k02 I2 (by rw [if_neg (by decide +kernel), if_neg (by decide +kernel)]) ?_
  refine callWith_KW (h₀ := h₀) LS.inn Ms.fk rfl (wpAny_items_cons (name_base (X := mX prog w h₀ "Lexer.default_initialization" diS L f cd) (s := { s with heap := h2, toks := tk2 }) B.gpt k02 (by run_tac dk) rfl (by run_tac dk) (wpAny_items_nil (kwAll_nil ⟨LS.inn.keeps k02, ?_⟩))))
  refine set_walk (s := { s with heap := h2, toks := tk2 }) LS Fs k02 hroom1 hd0 I2 (by omega) fun h3 tk3 I3 kx3 => ?_
  have k03 : ∀ b o, h₀.get? b = some o → h3.get? b = some o := Kx.keeps0 (h := h2) kx3 k02 (by simp [hd0])
  have hns3 : h3.Ns L _ := ns_ext hns2 fun o q => kx3 _ _ (by simpa using hL) q
  have hl3 : LsAt h3 kl #[] := hl2.at fun o q => kx3 _ _ (by simpa using kdx) q
  have mkw : (fun y : Str => if y = "_SQL_REGEX" then some (Value.ref pt) else if y = "_keywords" then some (.ref kl) else if y = "_SQL_REGEX" then some (.ref l1) else none) "_keywords" = some (.ref kl) := by
    show (if ("_keywords" : Str) = "_SQL_REGEX" then some (Value.ref pt) else _) = _
    rw [if_neg (by decide +kernel), if_pos rfl]
  have mno : ∀ nm : Str, nm ≠ "_SQL_REGEX" → nm ≠ "_keywords" → (fun y : Str => if y = "_SQL_REGEX" then some (Value.ref pt) else if y = "_keywords" then some (.ref kl) else if y = "_SQL_REGEX" then some (.ref l1) else none) nm = none := fun nm h1 h2 => by
    show (if nm = "_SQL_REGEX" then some (Value.ref pt) else _) = _
    rw [if_neg h1, if_neg h2, if_neg h1]
  have kl0L : kl ≠ L := fun q => by rw [q] at hn2; have : h₁.get? L = none := hn2; obtain ⟨o, _, _, ho, _⟩ := hns; rw [this] at ho; cases ho
  -- self.add_keywords(KEYWORDS_COMMON)
  refine wpAny_execs_cons (wpAny_Expr_any (methodCall_KW (name_ns (X := mX prog w h₀ "Lexer.default_initialization" diS L f cd) (s := { s with heap := h3, toks := tk3 }) hns3 rfl (by run_tac dk) rfl (by run_tac dk) ?_)) rfl rfl)
  refine meth_lx (s := { s with heap := h3, toks := tk3 }) LS Ma k03 I3 (mno _ (by decide +kernel) (by decide +kernel)) ?_
  refine callWith_KW (h₀ := h₀) LS.inn Ma.fk rfl (wpAny_items_cons (name_base (X := mX prog w h₀ "Lexer.default_initialization" diS L f cd) (s := { s with heap := h3, toks := tk3 }) B.gkc k03 (by run_tac dk) rfl (by run_tac dk) (wpAny_items_nil (kwAll_nil ⟨LS.inn.keeps k03, ?_⟩))))
  refine add_walk (s := { s with heap := h3, toks := tk3 }) LS Fa k03 hroom1 I3 mkw hl3 (by simp) fun h4 tk4 hl4 kx4 => ?_
  have kl0 : ∀ b ∈ [kl], h₀.get? b = none := by simp [hn02]
  have k04 : ∀ b o, h₀.get? b = some o → h4.get? b = some o := Kx.keeps0 (h := h3) kx4 k03 kl0
  have hns4 : h4.Ns L _ := ns_ext hns3 fun o q => kx4 _ _ (by simpa using Ne.symm kl0L) q
  have kllx : lx ≠ kl := fun q => by rw [← q] at hn2; have : h₁.get? lx = none := hn2; rw [I1.at_] at this; cases this
  have I4 : Lx (k + 1 + 1 + 1) h4 C lx dx _ := ⟨kx4 _ _ (by simpa using kllx) I3.at_, I3.nsk.at fun o q => kx4 _ _ (by simpa using Ne.symm kdx) q⟩
  -- self.add_keywords(KEYWORDS)
  refine wpAny_execs_cons (wpAny_Expr_any (methodCall_KW (name_ns (X := mX prog w h₀ "Lexer.default_initialization" diS L f cd) (s := { s with heap := h4, toks := tk4 }) hns4 rfl (by run_tac dk) rfl (by run_tac dk) ?_)) rfl rfl)
  refine meth_lx (s := { s with heap := h4, toks := tk4 }) LS Ma k04 I4 (mno _ (by decide +kernel) (by decide +kernel)) ?_
  refine callWith_KW (h₀ := h₀) LS.inn Ma.fk rfl (wpAny_items_cons (name_base (X := mX prog w h₀ "Lexer.default_initialization" diS L f cd) (s := { s with heap := h4, toks := tk4 }) B.gkw k04 (by run_tac dk) rfl (by run_tac dk) (wpAny_items_nil (kwAll_nil ⟨LS.inn.keeps k04, ?_⟩))))
  refine add_walk (s := { s with heap := h4, toks := tk4 }) LS Fa k04 hroom1 I4 mkw hl4 (by simp; decide) fun h5 tk5 hl5 kx5 => ?_
  have I5 : Lx (k + 1 + 1 + 1) h5 C lx dx _ := ⟨kx5 _ _ (by simpa using kllx) I4.at_, I4.nsk.at fun o q => kx5 _ _ (by simpa using Ne.symm kdx) q⟩
  have sno : s.heap.get? kl = none := by
    cases q : s.heap.get? kl with
    | none => rfl
    | some o => have := hk₁ _ _ q; rw [show h₁.get? kl = none from hn2] at this; cases this
  refine wpAny_execs_nil (hQ h5 tk5 kl _ I5 (by rw [if_pos rfl]) mkw (mno _ (by decide +kernel) (by decide +kernel)) (mno _ (by decide +kernel) (by decide +kernel)) hl5 sno hn02 fun b o hb q => ?_)
  have nkl : b ≠ kl := fun e => by rw [e, sno] at q; cases q
  exact kx5 _ _ (by simpa using nkl) (kx4 _ _ (by simpa using nkl) (kx3 _ _ hb (kx2 _ _ hb (hk₁ _ _ q))))
end
end Mine
-- M3
set_option maxRecDepth 100000
set_option maxHeartbeats 4000000
set_option linter.unusedVariables false
namespace Mine
open PySem PySem.Calls PyProof.Rows PySem.W

theorem ConBase.keeps {h h' : Heap} {K : Frag} {J : Isl} (B : ConBase h K J) (k : ∀ b o, h.get? b = some o → h'.get? b = some o) : ConBase h' K J :=
  { inn := B.inn.keeps k, ok := B.ok, lim := B.toIslBase.lim.keeps k, next := B.next.keeps k, stop := B.stop.keeps k, base := B.base.keeps k
    nxt := let ⟨cd, F⟩ := B.nxt; ⟨cd, F.keeps k⟩
    typ := B.typ.keeps k, int := B.int.keeps k, isi := B.isi.keeps k, who := B.who.keeps k, len := B.len.keeps k, iter := B.iter.keeps k
    ini := let ⟨cd, F⟩ := B.ini; ⟨cd, F.keeps k⟩
    mnext := B.mnext, mnextF := B.mnextF, makes := B.makes, keep := B.keep, init := B.init, initF := B.initF, itr := B.itr, itrF := B.itrF
    itrAt := let ⟨cd, F⟩ := B.itrAt; ⟨cd, F.keeps k⟩
    deque := B.deque.keeps k, islice := B.islice.keeps k
    con := let ⟨f, cd, g, F⟩ := B.con; ⟨f, cd, g.keeps k, F.keeps k⟩ }
theorem FdsBase.keeps {h h' : Heap} {ns : Addr} (B : FdsBase h ns) (k : ∀ b o, h.get? b = some o → h'.get? b = some o) : FdsBase h' ns := ⟨B.lim.keeps k, B.spans.keeps k, B.fds.keeps k⟩

/-- what the base of the whole tells of tokenize -/
structure TokBase (prog : Program) (w : World) (h₀ : Heap) (K : Frag) (J : Isl) (N : Nam) : Prop where
  con : ConBase h₀ K J
  fds : FdsBase h₀ N.ns
  di : DiBase h₀ K N.C N.pt N.kc N.kw
  dim : ∃ f, MethAt h₀ K N.C "default_initialization" "Lexer.default_initialization" diA diB diS .none f
  isk : MethAt h₀ K N.C "is_keyword" "Lexer.is_keyword" iskA iskB iskS .none N.fk
  gt : ∃ f dt n, MethAt h₀ K N.C "get_tokens" "Lexer.get_tokens" gtA gtB gtS (.ref dt) f ∧ h₀.get? dt = some { cls := .type "tuple", data := .seq #[.none] n }
  lexer : GlobalIs h₀ "Lexer" (.ref N.C)
  name : GlobalIs h₀ "Name" (.ref (N.tt .name))
  kcs : (N.kc == sysModules) = false
  kws : (N.kw == sysModules) = false
  kcm : ∃ f, h₀.MapOf (strKind prog w) N.kc f ∧ ∀ k, (f k).isSome = true → k ∈ kcKeys
  kwm : ∃ f, h₀.MapOf (strKind prog w) N.kw f ∧ (∀ k, (f k).isSome = true → k ∈ kwKeys) ∧ f "IS" = some (.ref (N.tt .key))
  isi : GlobalIs h₀ "isinstance" (.builtin "isinstance")
  str : GlobalIs h₀ "str" (.type "str")
  enu : GlobalIs h₀ "enumerate" (.type "enumerate")
  tyC : GlobalIs h₀ "_TokenType" (.ref N.CT)
  pk : ∃ tk, GlobalIs h₀ "PROCESS_AS_KEYWORD" (.str "PROCESS_AS_KEYWORD" tk)
  err : GlobalIs h₀ "Error" (.ref (N.tt .err))
  tok : ∀ k, ∃ o, h₀.get? (N.tt k) = some o ∧ o.cls = .ref N.CT
  kst : kitOne K (.type "str") (.type "str") = some true
  kstC : kitOne K (.type "str") (.ref N.CT) = some false
  opn : ∃ CD p dx f i, PlainCls K CD ∧ SlotOk K CD p i "openers" ∧ SlAt h₀ N.ns CD dx f ∧ f i = some (.ref N.od) ∧ handedIn (.ref N.od) = true
  odm : h₀.MapOf (intKind prog w) N.od (fun _ => none)
  ods : (N.od == sysModules) = false
  tab : ∃ (items : List Value) (n : Nat), h₀.get? N.pt = some { cls := .type "list", data := .seq items.toArray n } ∧ items.length = 49 ∧
    ∀ (j : Nat) (x : Pt), pts[j]? = some x → ∃ (a pa : Addr) (q : PV) (v2 : Value) (n' : Nat), items[j]? = some (.ref a) ∧ h₀.get? a = some { cls := .type "tuple", data := .seq #[.ref pa, v2] n' } ∧ Is h₀ v2 q ∧ PatAt h₀ pa x.G x.C ∧ q.flat = true ∧ ActOk N.tt x.act q

theorem TokBase.gtb {prog : Program} {w : World} {h₀ B : Heap} {K : Frag} {J : Isl} {N : Nam} {lx dx kl : Addr} {kk : Nat} {m : Str → Option Value} (T : TokBase prog w h₀ K J N) (k : ∀ b o, h₀.get? b = some o → B.get? b = some o) (I : Lx kk B N.C lx dx m) (m1 : m "_SQL_REGEX" = some (.ref N.pt)) (m2 : m "_keywords" = some (.ref kl)) (m3 : m "is_keyword" = none)
    (hl : LsAt B kl #[.ref N.kc, .ref N.kw]) : GtBase prog w B K J { N with lx := lx, kl := kl } := by
  obtain ⟨od, hod, Ii, hlk⟩ := I.inst
  obtain ⟨cdk, Fk⟩ := T.isk.fn
  obtain ⟨nl, hl⟩ := hl
  have LS := T.di.cls
  exact {
    con := T.con.keeps k
    fds := T.fds.keeps k
    lex := { inn := LS.inn.keeps k, lim := LS.lim.keeps k, pc := LS.pc, name := T.name.keeps k, kls := Is.lst (vs := [.ref N.kc, .ref N.kw]) hl (.cons (.obj _) (.cons (.obj _) .nil)), kcs := T.kcs, kws := T.kws
             kcm := let ⟨f, M, r⟩ := T.kcm; ⟨f, MapOf_keeps M k, r⟩
             kwm := let ⟨f, M, r⟩ := T.kwm; ⟨f, MapOf_keeps M k, r⟩
             ins := ⟨_, od, Ii, findObj_own LS.hasd LS.f2 (by rw [hlk, m2]), rfl⟩ }
    isi := T.isi.keeps k, str := T.str.keeps k, enu := T.enu.keeps k, tyC := T.tyC.keeps k
    pk := let ⟨tk, g⟩ := T.pk; ⟨tk, g.keeps k⟩
    err := T.err.keeps k
    tok := fun kd => let ⟨o, ho, hc⟩ := T.tok kd; ⟨o, k _ _ ho, hc⟩
    kst := T.kst, kstC := T.kstC, isk := T.isk.fi, iskF := T.isk.ft, iskK := T.isk.fk, iskA := ⟨cdk, Fk.keeps k⟩
    ins := ⟨_, od, Ii, findObj_own LS.hasd LS.f1 (by rw [hlk, m1]), rfl, by show (lookIn _ od).map _ = _; rw [hlk, m3]; rfl⟩
    opn := let ⟨CD, p, dx, f, i, a, b, c, d, e⟩ := T.opn; ⟨CD, p, dx, f, i, a, b, c.keep (S := []) (Kx.of_keep k) (by simp) (by simp), d, e⟩
    odm := MapOf_keeps T.odm k
    ods := T.ods
    tab := let ⟨items, n, h1, h2, h3⟩ := T.tab
      ⟨items, n, k _ _ h1, h2, fun j x hx => let ⟨a, pa, q, v2, n', e1, e2, e3, e4, e5⟩ := h3 j x hx; ⟨a, pa, q, v2, n', e1, k _ _ e2, e3.keep (.of k), e4.keep k, e5⟩⟩ }

section
variable {prog : Program} {w : World} {A : Around} {E : Value → Shared → Prop} {Q : Value → Shared → Prop} {s : Shared} {h₀ : Heap} {K : Frag} {J : Isl} {N : Nam} {Lw fT dt : Addr} {cdT : Value} {nT : Nat} {T : Array Nat} {t : Tok}
theorem tok_walk (TB : TokBase prog w h₀ K J N) (FT : FnAt h₀ fT "tokenize" "tokenize" tkA tkB tkS (.ref dt) .none cdT) (hdt : h₀.get? dt = some { cls := .type "tuple", data := .seq #[.none] nT }) (k0 : ∀ b o, h₀.get? b = some o → s.heap.get? b = some o) (hz : h₀.objs.size ≤ s.heap.objs.size) (hroom : A.depth + 10 < recursionLimit) (hLw0 : h₀.get? Lw = none) (hLw : ∃ o, s.heap.get? Lw = some o)
    (hQ : ∀ h' tk B N' Lg fG cdG ga, (∀ b o, s.heap.get? b = some o → h'.get? b = some o) → GtBase prog w B K J N' → N'.tt = N.tt → N'.CT = N.CT → (gtX prog w B Lg fG cdG).Gd [("encoding", .none), ("text", .str ⟨T⟩), ("self", .obj (.ref N'.lx))] { s with heap := h', toks := tk } → h'.IsGen ga s.gens.size → B.get? Lw = none → B.objs.size ≤ Lg → Lw ≠ Lg → ga ≠ Lg → s.heap.get? Lg = none →
      Q (.ref ga) { s with heap := h', toks := tk, gens := s.gens.push (.fresh (.func gtB (gtX prog w B Lg fG cdG).env)) }) :
    wpAny (model prog w) A (call (.ref fT) [.str ⟨T⟩ t]) Q E s := by
  obtain ⟨fd, Md⟩ := TB.dim
  obtain ⟨cdd, Fd⟩ := Md.fn
  obtain ⟨fG, dtG, nG, MG, hdtG⟩ := TB.gt
  obtain ⟨cdG, FG⟩ := MG.fn
  have LS := TB.di.cls
  refine wpAny_call (call_fn (binds := [("sql", .str ⟨T⟩ t), ("encoding", .none)]) (FT.keeps k0) (LS.lim.keeps k0) (by omega) (fun doc pm an ct => BindsTo.of_defaults (T := dt) rfl (k0 _ _ hdt) rfl (by rfl) (by rfl)) (fun y hy => ?_) (fun h₁ hns hk₁ => ?_) (by decide +kernel))
  · rcases List.mem_cons.mp hy with rfl | hy
    · run_tac dk
    · rw [List.mem_singleton.mp hy]; run_tac dk
  obtain ⟨L, hLe⟩ : ∃ L, L = s.heap.objs.size := ⟨_, rfl⟩
  rw [← hLe] at hns ⊢
  have hroom1 : (A.deeper (envOf "tokenize" tkS L fT cdT)).depth + 9 < recursionLimit := by show A.depth + 1 + 9 < _; omega
  generalize A.deeper (envOf "tokenize" tkS L fT cdT) = A₁ at hroom1 ⊢
  have k1 : ∀ b o, h₀.get? b = some o → h₁.get? b = some o := fun b o q => hk₁ b o (k0 b o q)
  have hL0 : h₀.get? L = none := Heap.get?_none_of_le (by rw [hLe]; exact hz)
  have hLs : s.heap.get? L = none := Heap.get?_none_of_le (Nat.le_of_eq hLe.symm)
  show wpAny (model prog w) A₁ (execs tkB (mX prog w h₀ "tokenize" tkS L fT cdT).env) _ _ { s with heap := h₁, toks := s.toks + 2 }
  unfold tkB
  -- lexer = Lexer()
  refine wpAny_execs_cons (wpAny_Assign_Name (wpAny_Call_Name_kw (name_base (X := mX prog w h₀ "tokenize" tkS L fT cdT) (s := { s with heap := h₁, toks := s.toks + 2 }) TB.lexer k1 (by run_tac dk) rfl (by run_tac dk) ?_)) rfl)
  refine callWith_KW0 (h₀ := h₀) LS.inn LS.keep rfl (kwAll_nil ⟨LS.inn.keeps k1, ?_⟩)
  refine wpAny_call (lex_make (s := { s with heap := h₁, toks := s.toks + 2 }) (LS.inn.keeps k1) LS.makes LS.init fun lx dx h2 I2 k2 hlxn hdxn => ?_)
  replace k2 : ∀ b o, h₁.get? b = some o → h2.get? b = some o := k2
  replace hlxn : h₁.get? lx = none := hlxn
  replace hdxn : h₁.get? dx = none := hdxn
  have nolx : ∀ {b : Addr} {o : Obj}, h₁.get? b = some o → b ≠ lx ∧ b ≠ dx := fun {b o} q => ⟨fun e => (by rw [e, hlxn] at q; cases q), fun e => (by rw [e, hdxn] at q; cases q)⟩
  have hLdx : L ≠ dx := by obtain ⟨o, _, _, ho, _⟩ := hns; exact (nolx ho).2
  have hLlx : L ≠ lx := by obtain ⟨o, _, _, ho, _⟩ := hns; exact (nolx ho).1
  have hns2 := hns.keeps k2
  refine wpAny_storeName_local (env := (mX prog w h₀ "tokenize" tkS L fT cdT).env) (by show tkS.names.lookup _ = _; run_tac dk) hns2 (fun h3 hns3 hs3 => ?_) rfl
  have I3 : Lx 0 h3 N.C lx dx (fun _ => none) := ⟨(hs3.2 _ (Ne.symm hLlx)).trans I2.at_, I2.nsk.at fun o q => (hs3.2 _ (Ne.symm hLdx)).trans q⟩
  have k3 : Kx [L] h₁ h3 := (Kx.of_keep k2).trans (Kx.of_same hs3 (.head _))
  have k03 : ∀ b o, h₀.get? b = some o → h3.get? b = some o := k3.keeps0 k1 (by simp [hL0])
  have hd0 : h₀.get? dx = none := by
    cases q : h₀.get? dx with
    | none => rfl
    | some o => exact absurd ((k1 _ _ q).symm.trans hdxn) (fun z => by cases z)
  -- lexer.default_initialization()
  refine wpAny_execs_cons (wpAny_Expr_any (methodCall_KW (name_ns (X := mX prog w h₀ "tokenize" tkS L fT cdT) (s := { s with heap := h3, toks := s.toks + 2 + 1 }) (v := .ref lx) hns3 (by rw [if_pos rfl]) (by run_tac dk) rfl (by run_tac dk) ?_)) rfl rfl)
  refine meth_lx (s := { s with heap := h3, toks := s.toks + 2 + 1 }) LS Md k03 I3 rfl ?_
  refine callWith_KW0 (h₀ := h₀) LS.inn Md.fk rfl (kwAll_nil ⟨LS.inn.keeps k03, ?_⟩)
  refine di_walk (s := { s with heap := h3, toks := s.toks + 2 + 1 }) TB.di Fd k03 (by omega) hd0 I3 (by omega) fun h4 tk4 kl m4 I4 m41 m42 m43 m44 hl4 hkln hkl0 kx4 => ?_
  replace kx4 : Kx [dx] h3 h4 := kx4
  replace hkln : h3.get? kl = none := hkln
  replace hns3 : h3.Ns L _ := hns3
  have hns4 := ns_ext hns3 (h' := h4) fun o q => kx4 _ _ (by simpa using hLdx) q
  have k04 : ∀ b o, h₀.get? b = some o → h4.get? b = some o := kx4.keeps0 k03 (by simp [hd0])
  have ks4 : ∀ b o, s.heap.get? b = some o → h4.get? b = some o := fun b o q => by
    have q1 := hk₁ _ _ q
    have nL : b ≠ L := fun e => by rw [e, hLs] at q; cases q
    exact kx4 _ _ (by simpa using (nolx q1).2) (k3 _ _ (by simpa using nL) q1)
  -- return lexer.get_tokens(sql, encoding)
  refine wpAny_execs_cons (wpAny_Return_some (methodCall_KW (name_ns (X := mX prog w h₀ "tokenize" tkS L fT cdT) (s := { s with heap := h4, toks := tk4 }) (v := .ref lx) hns4 (by rw [if_pos rfl]) (by run_tac dk) rfl (by run_tac dk) ?_)))
  refine meth_lx (s := { s with heap := h4, toks := tk4 }) LS MG k04 I4 m44 ?_
  refine callWith_KW (h₀ := h₀) LS.inn MG.fk rfl (wpAny_items_cons (name_ns (X := mX prog w h₀ "tokenize" tkS L fT cdT) (s := { s with heap := h4, toks := tk4 }) (v := .str ⟨T⟩ t) hns4 (by rw [if_neg (by decide +kernel)]; rfl) (by run_tac dk) rfl (by run_tac dk)
    (wpAny_items_cons (name_ns (X := mX prog w h₀ "tokenize" tkS L fT cdT) (s := { s with heap := h4, toks := tk4 }) (v := .none) hns4 (by rw [if_neg (by decide +kernel)]; rfl) (by run_tac dk) rfl (by run_tac dk) (wpAny_items_nil (kwAll_nil ⟨LS.inn.keeps k04, ?_⟩))))))
  obtain ⟨oG, doc, pm, an, ct, hoG, _, hdG⟩ := FG.obj
  have hbindG : BindsTo { s with heap := h4, toks := tk4 } (fnOf "get_tokens" "Lexer.get_tokens" gtA gtB gtS (.ref dtG) .none doc pm an cdG ct) ⟨[.ref lx, .str ⟨T⟩ t, .none], []⟩ [("self", .ref lx), ("text", .str ⟨T⟩ t), ("encoding", .none)] :=
    BindsTo.of_defaults (T := dtG) rfl (k04 _ _ hdtG) rfl (by rfl) (by rfl)
  refine wpAny_call (codeAny_call_generator (s := { s with heap := h4, toks := tk4 }) (body := gtB) (by omega) (k04 _ _ hoG) hdG rfl rfl rfl (FG.code.keeps k04) (hbindG _ _ _ _ ?_))
  refine wpAny_newFunctionEnv (s := { s with heap := h4, toks := tk4 }) (by show ∀ x ∈ gtS.names, x.2 ≠ .cell; decide +kernel) (fun y hy => ?_) (fun h5 hns5 hsb5 => ?_) rfl
  · rcases List.mem_cons.mp hy with rfl | hy
    · show gtS.names.lookup _ = _; run_tac dk
    rcases List.mem_cons.mp hy with rfl | hy
    · show gtS.names.lookup _ = _; run_tac dk
    · rw [List.mem_singleton.mp hy]; show gtS.names.lookup _ = _; run_tac dk
  obtain ⟨Lg, hLg⟩ : ∃ Lg, Lg = h4.objs.size := ⟨_, rfl⟩
  replace hns5 : h5.Ns h4.objs.size (fun x => List.lookup x [("encoding", Value.none), ("text", .str ⟨T⟩ t), ("self", .ref lx)]) := hns5
  replace hsb5 : Heap.SameBut h4.objs.size (h4.push { cls := .type "frame", data := .dict #[] }) h5 := hsb5
  refine ⟨(LS.lim.keeps k04).fresh _ hsb5, ?_⟩
  have k45 : ∀ b o, h4.get? b = some o → h5.get? b = some o := fun b o q => hsb5.extBut b o (Nat.ne_of_lt (Heap.lt_size q)) (Heap.get?_push_of_some _ q)
  rw [← hLg] at hns5
  have hLgL : ∀ {b : Addr} {o : Obj}, h4.get? b = some o → b ≠ Lg := fun {b o} q => by rw [hLg]; exact Nat.ne_of_lt (Heap.lt_size q)
  obtain ⟨oLw, hoLw⟩ := hLw
  have hLw4 := ks4 _ _ hoLw
  have hB : ∀ b o, (hideAll h4 [Lw]).get? b = some o → h4.get? b = some o := fun b o => of_hideAll _
  have h0B : ∀ b o, h₀.get? b = some o → (hideAll h4 [Lw]).get? b = some o := fun b o q => hideAll_get _ (k04 _ _ q) (by
    rw [List.mem_singleton]; intro e; rw [e, hLw0] at q; cases q)
  have hLwdx : Lw ≠ dx ∧ Lw ≠ lx := ⟨(nolx (hk₁ _ _ hoLw)).2, (nolx (hk₁ _ _ hoLw)).1⟩
  have hLwL : Lw ≠ L := fun e => by rw [e, hLs] at hoLw; cases hoLw
  have hLwkl : Lw ≠ kl := fun e => by
    have : h3.get? Lw = some oLw := k3 _ _ (by simpa using hLwL) (hk₁ _ _ hoLw)
    rw [e, hkln] at this; cases this
  have IB : Lx (0 + 3) (hideAll h4 [Lw]) N.C lx dx m4 := ⟨hideAll_get _ I4.at_ (by simpa using Ne.symm hLwdx.2), I4.nsk.at fun o q => hideAll_get _ q (by simpa using Ne.symm hLwdx.1)⟩
  have GB := TB.gtb h0B IB m41 m42 m43 (hl4.at fun o q => hideAll_get _ q (by simpa using Ne.symm hLwkl))
  have kp : ∀ (g : Obj) b o, h4.get? b = some o → (h5.push g).get? b = some o := fun g b o q => Heap.get?_push_of_some _ (k45 b o q)
  subst hLg
  show Q (.ref h5.objs.size) _
  refine hQ _ _ (hideAll h4 [Lw]) _ h4.objs.size fG cdG h5.objs.size (fun b o q => kp _ _ _ (ks4 _ _ q)) GB rfl rfl ?_ ?_ (hideAll_none _ (.head _)) (by rw [hideAll_size]; exact Nat.le_refl _) (hLgL hLw4) (Nat.ne_of_gt hns5.lt) ?_
  · refine ⟨fun x => List.lookup x [("encoding", Value.none), ("text", .str ⟨T⟩ t), ("self", .ref lx)], ⟨hns5.push _, fun b o q => kp _ _ _ (hB _ _ q), by show _ ≤ h4.objs.size; rw [hideAll_size]; exact Nat.le_refl _⟩, fun x p q => ?_⟩
    exact isAll_zip (ns := ["self", "text", "encoding"]) (vs := [.ref lx, .str ⟨T⟩ t, .none]) (ps := [.obj (.ref lx), .str ⟨T⟩, .none]) (.cons (.obj _) (.cons (.str _ _) (.cons .none .nil))) (acc := []) (accv := []) (fun _ _ e => nomatch e) q
  · exact ⟨_, _, _, Heap.get?_push_size _ rfl, rfl, rfl, rfl⟩
  · cases q : s.heap.get? h4.objs.size with
    | none => rfl
    | some o => exact absurd rfl (hLgL (ks4 _ _ q))
end
end Mine
-- W0
set_option maxRecDepth 100000
set_option maxHeartbeats 4000000
set_option linter.unusedVariables false
namespace Mine
open PySem PySem.Calls PyProof.Rows PySem.W

section
variable {prog : Program} {w : World} {A : Around} {E : Value → Shared → Prop} {R : Result → Shared → Prop} {s : Shared}
/-- a list comprehension whose loop lets an owned tuple go -/
theorem compLoop_let {elt target iter : Expr} {scope : Scope} {pos : Pos} {it acc : Value} {env : Env} (I : Nat → Shared → Prop)
    (turn : ∀ n s, I n s → wpAny (model prog w) A (pyNext it) (fun r s₁ => match r with
      | none => R (.ok .next) s₁
      | some v => wpAny (model prog w) A (letOwnedTupleGo target it v) (fun _ s₂ => wpAny (model prog w) A (assign target env v) (fun _ s₃ => wpAny (model prog w) A (eval elt env) (fun x s₄ =>
          wpAny (model prog w) A (call (.builtin "list.append") [acc, x]) (fun _ s₅ => ∃ m, m < n ∧ I m s₅) NoE s₄) NoE s₃) NoE s₂) NoE s₁) NoE s)
    (n : Nat) (h : I n s) : codeAny (model prog w) A (.compLoop (.ListComp elt [⟨target, iter, [], 0⟩] scope pos) 0 it acc env) R s := by
  refine codeAny_loop rfl I (fun n s hI => ?_) n h
  show wpAny _ _ ((compTurn (.ListComp elt [⟨target, iter, [], 0⟩] scope pos) 0 it acc env).onRaise (fun x => do noteFrame x env; theTreesLotGoes x)) _ _ s
  refine wpAny_noted ?_
  rw [compTurn_list1]
  refine wpAny_bind (wpAny_standAt (wpAny_bind (wpAny_mono (turn n s hI) (fun r s₁ h₁ => ?_) fun _ _ h' => h'.elim)))
  cases r with
  | none => exact wpAny_pure h₁
  | some v =>
    refine wpAny_bind (wpAny_mono h₁ (fun _ s₂ h₂ => ?_) fun _ _ h' => h'.elim)
    exact wpAny_bind (wpAny_mono h₂ (fun _ s₃ h₃ => wpAny_bind (wpAny_bind (wpAny_mono h₃ (fun x s₄ h₄ => wpAny_bind (wpAny_mono h₄
      (fun _ s₅ h₅ => wpAny_pure (wpAny_pure ⟨rfl, h₅⟩)) fun _ _ h' => h'.elim)) fun _ _ h' => h'.elim))) fun _ _ h' => h'.elim)
theorem gen_let {elts : List Expr} {x1} {pos : Pos} {a : Addr} {g : Nat} {v : Value} {Q : Unit → Shared → Prop} (hg : s.heap.IsGen a g) (h : Q () s) : wpAny (model prog w) A (letOwnedTupleGo (.Tuple elts x1 pos) (.ref a) v) Q E s := by
  obtain ⟨⟨c, dd, dt, sl⟩, nm, qn, ho, hc, hd, hs⟩ := hg
  dsimp only at hc hd
  subst hc; subst hd
  unfold letOwnedTupleGo
  cases v with
  | ref b =>
    refine wpAny_bind (wpAny_load ho ?_)
    dsimp only
    rw [if_neg (by
      rw [Bool.and_eq_true]
      rintro ⟨h1, _⟩
      exact absurd h1 (by decide))]
    exact wpAny_pure h
  | _ => exact wpAny_pure h
/-- next of a generator that is a def's -/
theorem pyNext_genD {a : Addr} {g n : Nat} {gs : GenState} {P : Nat → Shared → Shared → Prop} {Y : Protocol} {Q : Option Value → Shared → Prop} (hh : A.handled = none)
    (hl : s.heap.NoLimit) (hroom : A.depth < recursionLimit)
    (hg : s.heap.IsGen a g) (hgs : s.gens[g]? = some gs)
    (hgo : gs.Goes (model prog w) A.in1 (fun n s₀ r s₁ => r = .ok (.ret .none) ∧ P n s₀ s₁) Y n (.send .none) (s.setGen g .running))
    (hY : ∀ v s₁ gs', gs'.bare = true → Y (n - 1) (s.setGen g .running) v s₁ (fun r' s'' => match n with
        | 0 => False
        | m + 1 => gs'.Goes (model prog w) A.in1 (fun n s₀ r s₁ => r = .ok (.ret .none) ∧ P n s₀ s₁) Y m r' s'') → Q (some v) (s₁.setGen g gs'))
    (hP : ∀ s₁, P n (s.setGen g .running) s₁ → ∀ h', (∀ b o, s₁.heap.get? b = some o → h'.get? b = some o) → Q none { s₁.setGen g .finished with heap := h' }) :
    wpAny (model prog w) A (pyNext (.ref a)) Q E s := by
  unfold pyNext
  refine wpAny_bind (wpAny_attempt (wpAny_callSpecial?_slot (name := Str.ofString "__next__") hg.typeIs slot_gen_next
    (wpAny_call_entry slot_gen_next hg.typeIs entry_gen_next ?_ (args_gen_next _))))
  show wpAny _ A.in1 (Builtin.Generator.genWake (.ref a) (.send .none)) _ _ s
  unfold Builtin.Generator.genWake
  refine wpAny_bind (wpAny_holding (wpAny_genNumber hg (wpAny_bind (wpAny_genState hgs ?_))))
  cases gs with
  | running => exact hgo.elim
  | finished => exact hgo.elim
  | _ =>
    refine wpAny_bind (wpAny_roomToWake hl hroom ?_)
    show wpAny _ A.in1 (.resume g (.send .none) [] _) _ _ s
    refine wpAny_resumeQ hgs hgo (fun x s₁ hx => ?_) (fun v s₁ gs' hb hv => ?_)
    · obtain ⟨rfl, hp⟩ := hx
      show wpAny _ A.in1 (newExc (.type "StopIteration") [] >>= _) _ _ _
      refine wpAny_bind ?_
      simp only [newExc, newTuple]
      refine wpAny_bind (wpAny_newObj_type ?_ (by size_fits))
      refine wpAny_bind (m := firstArgMember _ _) (wpAny_of_eq (a := Value.none) (by first | rfl | (simp only [firstArgMember]; rfl)) ?_)
      refine wpAny_newObj_type ?_ (by size_fits)
      simp only [raiseNew]
      refine wpAny_bind (wpAny_bind (wpAny_handled ?_))
      first | rw [show A.in1.handled = none from hh] | rw [hh]
      refine wpAny_throw ?_
      refine wpAny_bind (wpAny_isInstance (T := "StopIteration") (b := true) ⟨_, Heap.get?_push_size _ rfl, rfl⟩ isSubtype_stop ?_)
      exact wpAny_pure (hP s₁ hp _ fun b o hb => Heap.get?_push_of_some _ (Heap.get?_push_of_some _ hb))
    · exact wpAny_pure ⟨v, rfl, wpAny_pure (hY v s₁ gs' hb hv)⟩
end
theorem set_push {α : Type} (G : Array α) (a b : α) : (G.push a).setIfInBounds G.size b = G.push b := by
  apply Array.toList_inj.mp
  rw [Array.toList_setIfInBounds, Array.toList_push, Array.toList_push, ← Array.length_toList, List.set_append_right _ _ (Nat.le_refl _), Nat.sub_self]
  rfl
theorem isAll_keepT {h h' : Heap} (k : KeepT h h') {vs : List Value} {T : Array Nat} {l : List (Nat × Nat × Kd)} (i : IsAll h vs (l.map (duePV T))) : IsAll h' vs (l.map (duePV T)) := i.keepT k (dues_noL T l)
end Mine
-- W1
set_option maxRecDepth 100000
set_option maxHeartbeats 4000000
set_option linter.unusedVariables false
namespace Mine
open PySem PySem.Calls PyProof.Rows PySem.W

/-- what the base tells of the law's end -/
structure LawEnd (h₀ : Heap) (K : Frag) (N : Nam) : Prop where
  inn : K.In h₀
  lim : h₀.NoLimit
  pcT : PlainCls K N.CT
  path : ∀ k, ∃ ox od v, InstAt h₀ (N.tt k) ox N.CT (some od) ∧ findObj K N.CT (some od) "path" = some (.value v) ∧ handedIn v = true ∧ Is h₀ v k.pv
section
variable {prog : Program} {w : World} {A : Around} {E : Value → Shared → Prop} {R : Result → Shared → Prop} {s : Shared}
theorem asgTupC {cenv : Env} {m : Str → Option Value} {x y : Str} {px py tp : Pos} {k n : Nat} {a : Addr} {v1 v2 : Value} {Q : Unit → Shared → Prop} (hn : s.heap.Ns cenv.locals m) (ho : s.heap.get? a = some { cls := .type "tuple", data := .seq #[v1, v2] n }) (hx : cenv.kindOf x = some .local) (hy : cenv.kindOf y = some .local)
    (hp : (cenv.scope.kind == .class || (cenv.scope.kind == .module && cenv.locals != cenv.globals)) = false) (hh : A.handled = none)
    (h : ∀ h' tk, h'.Ns cenv.locals (fun z => if z = y then some v2 else if z = x then some v1 else m z) → Kx [cenv.locals] s.heap h' → Q () { s with heap := h', toks := tk }) :
    wpAny (model prog w) A (assign (.Tuple [.Name x px, .Name y py] k tp) cenv (.ref a)) Q E s := by
  rw [arm_assign_Tuple]
  refine wpAny_bind (wpAny_standAt (PyProof.Rows.unpack_tuple hh (isTup_of (vs := [v1, v2]) ho) rfl rfl fun h1 he => ?_))
  have k1 : ∀ b o, s.heap.get? b = some o → h1.get? b = some o := fun b o q => he b o (Nat.ne_of_lt (Heap.lt_size q)) q
  refine assignInOrder_cons (wpAny_assign_Name (wpAny_storeName_local (s := { s with heap := h1 }) hx (hn.keeps k1) (fun h2 hn2 hs2 => ?_) hp))
  refine assignInOrder_cons (wpAny_assign_Name (wpAny_storeName_local hy hn2 (fun h3 hn3 hs3 => ?_) hp))
  exact assignInOrder_nil (h h3 _ hn3 (((Kx.of_keep k1).trans (Kx.of_same hs2 (.head _))).trans (Kx.of_same hs3 (.head _))))

theorem told_loop {sB : Shared} {h₀ B : Heap} {K : Frag} {J : Isl} {N' : Nam} {T : Array Nat} {Lw Lg Td Lc ga fG : Addr} {cdG : Value} {G₀ : Array GenState} {ew cenv : Env} {iter : Expr} {scope : Scope} {p1 p2 p3 p4 q1 q2 q3 pos : Pos} {k k' : Nat}
    (GB : GtBase prog w B K J N') (LE : LawEnd h₀ K N') (hT : Tx T) (hew : ew.scope.kind ≠ .module ∧ ew.frame = some Lw) (hA : A.frames = some [ew]) (hh : A.handled = none) (hd : A.depth + 30 < recursionLimit)
    (hgens : sB.gens = G₀.push (.fresh (.func gtB (gtX prog w B Lg fG cdG).env))) (g : (gtX prog w B Lg fG cdG).Gd [("encoding", .none), ("text", .str ⟨T⟩), ("self", .obj (.ref N'.lx))] sB) (hga : sB.heap.IsGen ga G₀.size) (hgn : ga ∉ [Lg, Lw, Td, Lc])
    (hw : ∃ m, sB.heap.Ns Lw m) (hl : LsAt sB.heap Td #[]) (hc : ∃ m, sB.heap.Ns Lc m) (hcl : cenv.locals = Lc) (dw : Lw ≠ Lg) (dt : Td ∉ [Lg, Lw]) (dl : Lc ∉ [Lg, Lw]) (b0 : ∀ b ∈ [Lg, Lw, Td, Lc], B.get? b = none) (hsz : sB.heap.objs.size = Lc + 1)
    (k0 : ∀ b o, h₀.get? b = some o → sB.heap.get? b = some o) (h0n : ∀ b ∈ [Lg, Lw, Td, Lc], h₀.get? b = none) (hx : cenv.kindOf "kind" = some .local) (hy : cenv.kindOf "value" = some .local) (hkf : cenv.scope.kind = .function)
    (hR : ∀ h tk vs, (∀ b o, b ∉ [Lg, Lw, Td, Lc] → sB.heap.get? b = some o → h.get? b = some o) → (∀ m, sB.heap.Ns Lw m → h.Ns Lw m) → (∃ m, h.Ns Lc m) → LsAt h Td vs.toArray → IsAll h vs ((toks T 15 0).map (duePV T)) → R (.ok .next) { sB with heap := h, toks := tk, gens := G₀.push .finished }) :
    codeAny (model prog w) A (.compLoop (.ListComp (.Tuple [.Attribute (.Name "kind" p1) "path" p2, .Name "value" p3] k p4) [⟨.Tuple [.Name "kind" q1, .Name "value" q2] k' q3, iter, [], 0⟩] scope pos) 0 (.ref ga) (.ref Td) cenv) R sB := by
  obtain ⟨all, hall⟩ : ∃ all, all = toks T 15 0 := ⟨_, rfl⟩
  obtain ⟨bd, hbd⟩ : ∃ bd, bd = Lc + 1 := ⟨_, rfl⟩
  have hp : (cenv.scope.kind == .class || (cenv.scope.kind == .module && cenv.locals != cenv.globals)) = false := by rw [hkf]; rfl
  simp only [List.mem_cons, List.not_mem_nil, or_false, not_or] at dt dl hgn
  have hTdLc : Td ≠ Lc := by
    obtain ⟨n, ho⟩ := hl
    obtain ⟨m, o, _, _, ho', hd', _⟩ := hc
    intro e; rw [e] at ho; rw [ho] at ho'; cases ho'; cases hd'
  have hoT : ∃ o, sB.heap.get? Td = some o := let ⟨n, ho⟩ := hl; ⟨_, ho⟩
  have hoC : ∃ o, sB.heap.get? Lc = some o := let ⟨m, o, _, _, ho, _⟩ := hc; ⟨o, ho⟩
  have hA1 : A.in1.frames = some [ew] := hA
  have hd1 : A.in1.depth + 20 < recursionLimit := by show A.depth + 20 < recursionLimit; omega
  have hlen14 : all.length ≤ sizeLine := by
    have : ∀ (f i : Nat), (toks T f i).length ≤ f := fun f => by
      induction f with
      | zero => intro i; exact Nat.zero_le _
      | succ f ih =>
        intro i
        show (if i < T.size then _ else _ : List (Nat × Nat × Kd)).length ≤ f + 1
        split
        · exact Nat.succ_le_succ (ih _)
        · exact Nat.zero_le _
    rw [hall]
    exact Nat.le_trans (this 15 0) (by decide)
  have key : ∀ (n : Nat) (s : Shared), (∃ (j : Nat) (vs : List Value) (h : Heap) (tk : Nat) (gs : GenState), n = all.length + 1 - j ∧ j ≤ all.length ∧ s = { sB with heap := h, toks := tk, gens := G₀.push gs } ∧ gs.bare = true ∧
      gs.Goes (model prog w) A.in1 (GtR bd Lg Lw) (GtY N'.tt T all bd Lg Lw Td Lc) (all.length - j) (.send .none) (s.setGen G₀.size .running) ∧ (∀ b o, b ∉ [Lg, Lw, Td, Lc] → sB.heap.get? b = some o → h.get? b = some o) ∧ (∀ m, sB.heap.Ns Lw m → h.Ns Lw m) ∧ (∃ m, h.Ns Lc m) ∧
      LsAt h Td vs.toArray ∧ IsAll h vs ((all.take j).map (duePV T))) → wpAny (model prog w) A (pyNext (.ref ga)) (fun r s₁ => match r with
      | none => R (.ok .next) s₁
      | some v => wpAny (model prog w) A (letOwnedTupleGo (.Tuple [.Name "kind" q1, .Name "value" q2] k' q3) (.ref ga) v) (fun _ s₂ => wpAny (model prog w) A (assign (.Tuple [.Name "kind" q1, .Name "value" q2] k' q3) cenv v) (fun _ s₃ => wpAny (model prog w) A (eval (.Tuple [.Attribute (.Name "kind" p1) "path" p2, .Name "value" p3] k p4) cenv) (fun x s₄ =>
          wpAny (model prog w) A (call (.builtin "list.append") [.ref Td, x]) (fun _ s₅ => ∃ m, m < n ∧ (∃ (j : Nat) (vs : List Value) (h : Heap) (tk : Nat) (gs : GenState), m = all.length + 1 - j ∧ j ≤ all.length ∧ s₅ = { sB with heap := h, toks := tk, gens := G₀.push gs } ∧ gs.bare = true ∧
      gs.Goes (model prog w) A.in1 (GtR bd Lg Lw) (GtY N'.tt T all bd Lg Lw Td Lc) (all.length - j) (.send .none) (s₅.setGen G₀.size .running) ∧ (∀ b o, b ∉ [Lg, Lw, Td, Lc] → sB.heap.get? b = some o → h.get? b = some o) ∧ (∀ m, sB.heap.Ns Lw m → h.Ns Lw m) ∧ (∃ m, h.Ns Lc m) ∧
      LsAt h Td vs.toArray ∧ IsAll h vs ((all.take j).map (duePV T)))) NoE s₄) NoE s₃) NoE s₂) NoE s₁) NoE s := by
    rintro n s ⟨j, vs, h, tk, gs, rfl, hj, rfl, hbare, hgo, old, nsw, nsc, lst, told⟩
    have hga1 : h.IsGen ga G₀.size := by
      obtain ⟨o, nm, qn, ho, r⟩ := hga
      exact ⟨o, nm, qn, old _ _ (by simp [hgn]) ho, r⟩
    have k01 : ∀ b o, h₀.get? b = some o → h.get? b = some o := fun b o q => old b o (fun hm => by rw [h0n b hm] at q; cases q) (k0 _ _ q)
    have hTd1 : ∃ o, h.get? Td = some o := let ⟨n, ho⟩ := lst; ⟨_, ho⟩
    have hLc1 : ∃ o, h.get? Lc = some o := let ⟨m, o, _, _, ho, _⟩ := nsc; ⟨o, ho⟩
    have ltTd : Td < bd := by
      obtain ⟨o, ho⟩ := hoT
      have := Heap.lt_size ho
      rw [hsz] at this; rw [hbd]; exact this
    have ltLc : Lc < bd := by rw [hbd]; exact Nat.lt_succ_self _
    cases hN : all.length - j with
    | zero =>
      rw [hN] at hgo
      refine pyNext_genD (s := { sB with heap := h, toks := tk, gens := G₀.push gs }) (n := 0) (P := fun n s₀ s₁ => n = 0 ∧ GR bd Lg Lw s₀ s₁) (Y := GtY N'.tt T all bd Lg Lw Td Lc) hh (LE.lim.keeps k01) (by omega) hga1 (by show (G₀.push gs)[G₀.size]? = _; simp) hgo (fun v s₁ gs' hb hy => ?_) (fun s₁ hp h' hk => ?_)
      · obtain ⟨tok, y, tky, n', htok, rfl, hyo, gr, hkap⟩ := hy
        obtain ⟨oT, hoT1⟩ := hTd1
        obtain ⟨oC, hoC1⟩ := hLc1
        exact (hkap s₁ ⟨Kx.refl _ _, ⟨oT, gr.old _ _ ltTd dt.1 dt.2 hoT1⟩, ⟨oC, gr.old _ _ ltLc dl.1 dl.2 hoC1⟩⟩).elim
      · obtain ⟨_, gr⟩ := hp
        obtain ⟨h₁, tk₁, rfl⟩ := gr.ht
        have hj2 : j = all.length := by omega
        rw [hj2, List.take_length] at told
        have e : ({ Shared.setGen { Shared.setGen { sB with heap := h, toks := tk, gens := G₀.push gs } G₀.size .running with heap := h₁, toks := tk₁ } G₀.size .finished with heap := h' } : Shared) = { sB with heap := h', toks := tk₁, gens := G₀.push .finished } := by
          unfold Shared.setGen
          dsimp only
          rw [set_push, set_push]
        show R (.ok .next) _
        rw [e]
        have k1 : ∀ b o, b < bd → b ≠ Lg → b ≠ Lw → h.get? b = some o → h'.get? b = some o := fun b o h1 h2 h3 q => hk _ _ (gr.old b o h1 h2 h3 q)
        refine hR h' tk₁ vs (fun b o hb q => k1 b o ?_ ?_ ?_ (old b o hb q)) (fun m z => (gr.ns m (nsw m z)).keeps hk) ?_ (lst.at fun o q => k1 _ _ ltTd dt.1 dt.2 q) ?_
        · have := Heap.lt_size q
          rw [hsz] at this; rw [hbd]; exact this
        · intro e; exact hb (by simp [e])
        · intro e; exact hb (by simp [e])
        · obtain ⟨m, z⟩ := nsc; exact ⟨m, ns_ext z fun o q => k1 _ _ ltLc dl.1 dl.2 q⟩
        · rw [← hall]
          exact isAll_keepT (fun a vs n q => hk _ _ (gr.seq a _ vs n q)) told
    | succ M =>
      rw [hN] at hgo
      refine pyNext_genD (s := { sB with heap := h, toks := tk, gens := G₀.push gs }) (n := M + 1) (P := fun n s₀ s₁ => n = 0 ∧ GR bd Lg Lw s₀ s₁) (Y := GtY N'.tt T all bd Lg Lw Td Lc) hh (LE.lim.keeps k01) (by omega) hga1 (by show (G₀.push gs)[G₀.size]? = _; simp) hgo (fun v s₁ gs' hb hy => ?_) (fun s₁ hp h' hk => absurd hp.1 (Nat.succ_ne_zero M))
      obtain ⟨tok, y, tky, n', htok, rfl, hyo, gr, hkap⟩ := hy
      obtain ⟨h₁, tk₁, rfl⟩ := gr.ht
      have hidx : all.length - 1 - (M + 1 - 1) = j := by omega
      rw [hidx] at htok
      have e : (Shared.setGen { Shared.setGen { sB with heap := h, toks := tk, gens := G₀.push gs } G₀.size .running with heap := h₁, toks := tk₁ } G₀.size gs' : Shared) = { sB with heap := h₁, toks := tk₁, gens := G₀.push gs' } := by
        unfold Shared.setGen
        dsimp only
        rw [set_push, set_push]
      show wpAny _ _ _ _ _ (Shared.setGen _ _ _)
      rw [e]
      have k1 : ∀ b o, b < bd → b ≠ Lg → b ≠ Lw → h.get? b = some o → h₁.get? b = some o := fun b o h1 h2 h3 q => gr.old b o h1 h2 h3 q
      have old1 : ∀ b o, b ∉ [Lg, Lw, Td, Lc] → sB.heap.get? b = some o → h₁.get? b = some o := fun b o hb q => k1 b o (by have := Heap.lt_size q; rw [hsz] at this; rw [hbd]; exact this) (fun e => hb (by simp [e])) (fun e => hb (by simp [e])) (old b o hb q)
      have nsw1 : ∀ m, sB.heap.Ns Lw m → h₁.Ns Lw m := fun m z => gr.ns m (nsw m z)
      have lst1 : LsAt h₁ Td vs.toArray := lst.at fun o q => k1 _ _ ltTd dt.1 dt.2 q
      have told1 : IsAll h₁ vs ((all.take j).map (duePV T)) := isAll_keepT (fun a vs n q => gr.seq a _ vs n q) told
      obtain ⟨mc, nsc⟩ := nsc
      have nsc1 : h₁.Ns Lc mc := ns_ext nsc fun o q => k1 _ _ ltLc dl.1 dl.2 q
      have hga2 : h₁.IsGen ga G₀.size := by
        obtain ⟨o, nm, qn, ho, r⟩ := hga
        exact ⟨o, nm, qn, old1 _ _ (by simp [hgn]) ho, r⟩
      refine gen_let (s := { sB with heap := h₁, toks := tk₁, gens := G₀.push gs' }) hga2 ?_
      refine asgTupC (s := { sB with heap := h₁, toks := tk₁, gens := G₀.push gs' }) (m := mc) (by rw [hcl]; exact nsc1) hyo hx hy hp hh fun h₂ tk₂ hn2 kx2 => ?_
      rw [hcl] at hn2 kx2
      replace kx2 : Kx [Lc] h₁ h₂ := kx2
      have old2 : ∀ b o, b ∉ [Lg, Lw, Td, Lc] → sB.heap.get? b = some o → h₂.get? b = some o := fun b o hb q => kx2 b o (fun hm => hb (by rw [List.mem_singleton.mp hm]; simp)) (old1 b o hb q)
      have k02 : ∀ b o, h₀.get? b = some o → h₂.get? b = some o := fun b o q => old2 b o (fun hm => by rw [h0n b hm] at q; cases q) (k0 _ _ q)
      -- (kind.path, value)
      obtain ⟨ox, od, pv, Ip, hfp, hhp, hip⟩ := LE.path tok.2.2
      refine wpAny_Tuple (wpAny_items_cons (Attribute_Name_ (wpAny_Name (wpAny_loadName_local (m := _) hkf hx (by rw [hcl]; exact hn2) (v := .ref (N'.tt tok.2.2)) (by rw [if_neg (by decide +kernel), if_pos rfl]) ?_) (by decide +kernel))) rfl)
      refine get_value (s := { sB with heap := h₂, toks := tk₂, gens := G₀.push gs' }) (LE.inn.keeps k02) (InstAt_keeps Ip k02) LE.pcT.ga hfp hhp ?_
      refine wpAny_items_cons (wpAny_Name (wpAny_loadName_local (m := _) hkf hy (by rw [hcl]; exact hn2) (v := .str ⟨T.extract tok.1 tok.2.1⟩ tky) (by rw [if_pos rfl]) ?_) (by decide +kernel)) rfl
      refine wpAny_items_nil ⟨by show (2 : Nat) ≤ sizeLine; decide, ?_⟩
      have kp : ∀ b o, h₂.get? b = some o → (h₂.push { cls := .type "tuple", data := .seq #[pv, .str ⟨T.extract tok.1 tok.2.1⟩ tky] }).get? b = some o := fun b o q => Heap.get?_push_of_some _ q
      have hLcT : noSeq h₁ Lc := fun c vs n q => by
        obtain ⟨o, _, _, ho, hd, _⟩ := nsc1
        rw [ho] at q; cases q; cases hd
      have ks2 : KeepS h₁ h₂ := keepS_kx kx2 (by simp [hLcT])
      have lst2 : LsAt (h₂.push { cls := .type "tuple", data := .seq #[pv, .str ⟨T.extract tok.1 tok.2.1⟩ tky] }) Td vs.toArray := lst1.at fun o q => kp _ _ (kx2 _ _ (by simpa using hTdLc) q)
      have told2 : IsAll (h₂.push { cls := .type "tuple", data := .seq #[pv, .str ⟨T.extract tok.1 tok.2.1⟩ tky] }) vs ((all.take j).map (duePV T)) := (told1.keep ks2).keep (.of kp)
      have hvl : vs.length ≤ all.length := by
        have := told1.length
        rw [List.length_map, List.length_take] at this; omega
      refine ls_append (s := { sB with heap := h₂.push { cls := .type "tuple", data := .seq #[pv, .str ⟨T.extract tok.1 tok.2.1⟩ tky] }, toks := tk₂ + 1, gens := G₀.push gs' }) lst2 (fun h₃ lst3 hs3 => ?_) (by rw [List.size_toArray]; omega)
      have kT := keepT_same lst2.plain hs3
      have item : Is (h₂.push { cls := .type "tuple", data := .seq #[pv, .str ⟨T.extract tok.1 tok.2.1⟩ tky] }) (.ref h₂.objs.size) (duePV T tok) :=
        Is.tup (vs := [pv, .str ⟨T.extract tok.1 tok.2.1⟩ tky]) (n := 0) (Heap.get?_push_size _ rfl) (.cons (hip.keep (.of fun b o q => kp b o (k02 b o q))) (.cons (.str _ _) .nil))
      have hCR : CR Td Lc h₁ h₃ := ⟨fun b o hb q => by
          simp only [List.mem_cons, List.not_mem_nil, or_false, not_or] at hb
          exact hs3.extBut b o hb.1 (kp _ _ (kx2 _ _ (by simpa using hb.2) q)), let ⟨n, z⟩ := lst3; ⟨_, z⟩, by
          obtain ⟨o, _, _, ho, _⟩ := hn2
          exact ⟨o, hs3.extBut _ _ (Ne.symm hTdLc) (kp _ _ ho)⟩⟩
      refine ⟨all.length + 1 - (j + 1), by omega, j + 1, vs ++ [.ref h₂.objs.size], h₃, tk₂ + 1, gs', rfl, by omega, rfl, hb, ?_, ?_, ?_, ?_, ?_, ?_⟩
      · have e2 : all.length - (j + 1) = M := by omega
        rw [e2]
        exact hkap _ hCR
      · exact fun b o hb q => hs3.extBut b o (fun e => hb (by simp [e])) (kp _ _ (old2 b o hb q))
      · exact fun m z => ns_ext (nsw1 m z) fun o q => hs3.extBut _ _ (Ne.symm dt.2) (kp _ _ (kx2 _ _ (by simpa using Ne.symm dl.2) q))
      · exact ⟨_, ns_ext hn2 fun o q => hs3.extBut _ _ (Ne.symm hTdLc) (kp _ _ q)⟩
      · have : vs.toArray.push (Value.ref h₂.objs.size) = (vs ++ [Value.ref h₂.objs.size]).toArray := by simp
        rw [← this]; exact lst3
      · rw [List.take_add_one, htok, List.map_append]
        exact isAll_append (isAll_keepT kT told2) (item.keepT kT (due_noL T tok))
  refine compLoop_let (fun n s => _) key (all.length + 1) ⟨0, [], sB.heap, sB.toks, .fresh (.func gtB (gtX prog w B Lg fG cdG).env), rfl, Nat.zero_le _, by rw [← hgens], rfl, ⟨rfl, ?_⟩, fun b o _ q => q, fun m z => z, hc, hl, .nil⟩
  have e3 : (sB.setGen G₀.size .running).heap = sB.heap := rfl
  rw [hall]
  refine gt_start (A := A.in1) (s := sB.setGen G₀.size .running) (Td := Td) (Lc := Lc) (Lw := Lw) GB hT hew hA1 hh hd1 g hw hoT hoC dw (by simp [dt]) (by simp [dl]) b0 fun h' hk => ?_
  obtain ⟨o, ho⟩ := hoC
  have := Heap.lt_size (hk Lc o dl.1 ho)
  rw [hbd]; exact this
end
end Mine
-- W2
set_option maxRecDepth 100000
set_option maxHeartbeats 4000000
set_option linter.unusedVariables false
namespace Mine
open PySem PySem.Calls PyProof.Rows PySem.W PySem.SeqAt

/-! ## equal values -/
section
variable {A : Around} {s : Shared}
theorem eqAt_all : ∀ {ps : List PV} {vs us : List Value}, IsAll s.heap vs ps → IsAll s.heap us ps → (∀ p ∈ ps, ∀ v u, Is s.heap v p → Is s.heap u p → EqAt A s v u true) → ∀ j (h1 : j < vs.length) (h2 : j < us.length), EqAt A s vs[j] us[j] true
  | [], _, _, .nil, .nil, _, j, h1, _ => absurd h1 (Nat.not_lt_zero _)
  | p :: ps, _, _, .cons hv hl, .cons hu hl', h, 0, _, _ => h p (.head _) _ _ hv hu
  | p :: ps, _, _, .cons hv hl, .cons hu hl', h, j + 1, h1, h2 => eqAt_all hl hl' (fun q hq => h q (.tail _ hq)) j (Nat.lt_of_succ_lt_succ h1) (Nat.lt_of_succ_lt_succ h2)
theorem eqAt_str {x : Str} {v u : Value} (hv : Is s.heap v (.str x)) (hu : Is s.heap u (.str x)) : EqAt A s v u true := by
  cases hv; cases hu
  have := (eqGives_str x x ‹Tok› ‹Tok›).at A s
  rw [beq_self_eq_true] at this
  exact (eqGives_str x x _ _).at A s |> fun h => by rw [beq_self_eq_true] at h; exact h
theorem eqAt_tup {ps : List PV} {v u : Value} (hp : ∀ p ∈ ps, ∀ v u, Is s.heap v p → Is s.heap u p → EqAt A.in1 s v u true) (hun : A.units < cLine) (hv : Is s.heap v (.tup ps)) (hu : Is s.heap u (.tup ps)) : EqAt A s v u true := by
  cases hv with
  | @tup a vs n _ ho hl =>
  cases hu with
  | @tup b us m _ ho' hl' =>
  by_cases hab : a = b
  · subst hab; exact EqAt.same _
  · have e1 := hl.length
    have e2 := hl'.length
    have := RcAt.tuples (A := A) (s := s) (l := a) (b := b) (items := vs.toArray) (items2 := us.toArray) (e := fun _ => true) ⟨_, ho, rfl, n, rfl⟩ ⟨_, ho', rfl, m, rfl⟩ hun (fun j h1 h2 => by
      have := eqAt_all hl hl' hp j (by simpa using h1) (by simpa using h2)
      simpa using this)
    have e3 : ((List.range (min vs.toArray.size us.toArray.size)).all (fun _ => true) && vs.toArray.size == us.toArray.size) = true := by
      simp [e1, e2]
    rw [e3] at this
    exact EqAt.of_refs hab this
theorem eqAt_due {T : Array Nat} {t : Nat × Nat × Kd} {v u : Value} (hun : A.units + 2 < cLine) (hv : Is s.heap v (duePV T t)) (hu : Is s.heap u (duePV T t)) : EqAt A s v u true := by
  refine eqAt_tup (fun p hp v u h1 h2 => ?_) (by omega) hv hu
  rcases List.mem_cons.mp hp with rfl | hp
  · refine eqAt_tup (fun p hp v u h1 h2 => ?_) (by show A.units + 1 < _; omega) h1 h2
    obtain ⟨x, _, rfl⟩ := List.mem_map.mp hp
    exact eqAt_str h1 h2
  · rw [List.mem_singleton.mp hp] at h1 h2
    exact eqAt_str h1 h2
theorem eq_dues {prog : Program} {w : World} {E : Value → Shared → Prop} {Q : Value → Shared → Prop} {T : Array Nat} {l : List (Nat × Nat × Kd)} {vs us : List Value} {C D : Addr} (hC : PlainL s.heap C vs.toArray) (hD : PlainL s.heap D us.toArray) (i1 : IsAll s.heap vs (l.map (duePV T))) (i2 : IsAll s.heap us (l.map (duePV T))) (hun : A.units + 4 < cLine)
    (h : Q (.bool true) s) : wpAny (model prog w) A (compareOp .Eq (.ref C) (.ref D)) Q E s := by
  have e1 := i1.length
  have e2 := i2.length
  refine eq_listAt (items := vs.toArray) (items2 := us.toArray) (e := fun _ => true) hC.isList hD.isList (by simp [e1, e2]) (by omega) (fun j h1 h2 => ?_) (by rw [show ((List.range vs.toArray.size).all fun _ => true) = true by simp]; exact h)
  have := eqAt_all (A := A.in1) i1 i2 (fun p hp v u h1 h2 => by
    obtain ⟨t, _, rfl⟩ := List.mem_map.mp hp
    exact eqAt_due (by show A.units + 1 + 2 < _; omega) h1 h2) j (by simpa using h1) (by simpa using h2)
  simpa using this
end

/-! ## the texts put together -/
theorem join_cons (x : Str) : ∀ l : List Str, Str.join "" (x :: l) = x ++ Str.join "" l
  | [] => (Str.append_empty x).symm
  | y :: r => by
    show x ++ ("" : Str) ++ Str.join "" (y :: r) = _
    rw [show (x ++ ("" : Str)) = x from Str.append_empty x]
def txts (T : Array Nat) (l : List (Nat × Nat × Kd)) : List Str := l.map fun t => ⟨T.extract t.1 t.2.1⟩
theorem join_toks {T : Array Nat} (hT : Tx T) : ∀ (f i : Nat), i ≤ T.size → T.size - i < f → Str.join "" (txts T (toks T f i)) = ⟨T.extract i T.size⟩
  | 0, i, _, h => by omega
  | f + 1, i, hi, h => by
    by_cases hlt : i < T.size
    · have e : toks T (f + 1) i = (i, tokO T i) :: toks T f (tokO T i).1 := by
        show (if i < T.size then _ else _) = _
        rw [if_pos hlt]
      obtain ⟨t1, t2⟩ := tok_le hT hlt
      rw [e]
      show Str.join "" (⟨T.extract i (tokO T i).1⟩ :: txts T (toks T f (tokO T i).1)) = _
      rw [join_cons, join_toks hT f _ t2 (by omega)]
      show (⟨T.extract i (tokO T i).1 ++ T.extract (tokO T i).1 T.size⟩ : Str) = _
      congr 1
      rw [Array.extract_append_extract, Nat.min_eq_left (Nat.le_of_lt t1), Nat.max_eq_right t2]
    · have e : toks T (f + 1) i = [] := by
        show (if i < T.size then _ else _) = _
        rw [if_neg hlt]
      rw [e]
      have : i = T.size := by omega
      subst this
      show Str.empty = _
      simp [Str.empty]
theorem txts_le {T : Array Nat} (hT : Tx T) (l : List (Nat × Nat × Kd)) : ∀ y ∈ txts T l, y.length ≤ 14 := fun y hy => by
  obtain ⟨t, _, rfl⟩ := List.mem_map.mp hy
  show (T.extract _ _).size ≤ 14
  rw [Array.size_extract]
  have := hT.len
  omega
theorem toks_len (T : Array Nat) : ∀ (f i : Nat), (toks T f i).length ≤ f := fun f => by
  induction f with
  | zero => intro i; exact Nat.zero_le _
  | succ f ih =>
    intro i
    show (if i < T.size then _ else _ : List (Nat × Nat × Kd)).length ≤ f + 1
    split
    · exact Nat.succ_le_succ (ih _)
    · exact Nat.zero_le _
theorem strs_of {h : Heap} : ∀ {vs : List Value} {xs : List Str}, IsAll h vs (xs.map PV.str) → ∃ l : List (Str × Tok), vs = strValues l ∧ l.map (·.1) = xs
  | [], [], _ => ⟨[], rfl, rfl⟩
  | _ :: _, [], i => nomatch i
  | [], _ :: _, i => nomatch i
  | _ :: _, x :: xs, i => by
    cases i with
    | cons hv hl =>
      obtain ⟨l, rfl, rfl⟩ := strs_of hl
      cases hv with
      | str _ t => exact ⟨(x, t) :: l, rfl, rfl⟩
end Mine
-- W3
set_option maxRecDepth 100000
set_option maxHeartbeats 4000000
set_option linter.unusedVariables false
namespace Mine
open PySem PySem.Calls PyProof.Rows PySem.W

section
variable {prog : Program} {w : World} {A : Around} {E : Value → Shared → Prop} {Q : Flow → Shared → Prop} {s : Shared} {h₀ : Heap} {K : Frag} {J : Isl} {N : Nam} {T : Array Nat} {L f D fT dt : Addr} {cd cdT : Value} {nT d : Nat}
/-- told = [(kind.path, value) for kind, value in tokenize(text)] -/
theorem told_stmt {sc : Scope} {p1 p2 p3 p4 q1 q2 q3 t1 t2 t3 c1 c2 c3 : Pos} {k k' : Nat} {vs : List Value} (TB : TokBase prog w h₀ K J N) (LE : LawEnd h₀ K N) (gT : GlobalIs h₀ "tokenize" (.ref fT)) (FT : FnAt h₀ fT "tokenize" "tokenize" tkA tkB tkS (.ref dt) .none cdT) (hdt : h₀.get? dt = some { cls := .type "tuple", data := .seq #[.none] nT }) (hT : Tx T)
    (hA : A.frames = some [(lawX prog w h₀ d L f cd).env]) (R : Rm d A) (hd : A.depth + 30 < recursionLimit) (G : (lawX prog w h₀ d L f cd).Gd [("text", .str ⟨T⟩), ("due", .obj (.ref D))] s)
    (hsc : sc = { kind := .function, names := [(".0", .local), ("kind", .local), ("value", .local)], isGenerator := false, isCoroutine := false })
    (hs1 : swapsWith (.ListComp (.Tuple [.Attribute (.Name "kind" p1) "path" p2, .Name "value" p3] k p4) [⟨.Tuple [.Name "kind" q1, .Name "value" q2] k' q3, .Call (.Name "tokenize" t1) [.Name "text" t2] [] t3, [], 0⟩] sc c1) (some (.Name "told" c2)) c3.line (lawX prog w h₀ d L f cd).env = pure true)
    (hQ : ∀ s' C us, (∀ b o, b ≠ L → s.heap.get? b = some o → s'.heap.get? b = some o) → s'.gens = s.gens.push .finished → s'.drawn = s.drawn → s'.os = s.os → (lawX prog w h₀ d L f cd).Gd [("told", .obj (.ref C)), ("text", .str ⟨T⟩), ("due", .obj (.ref D))] s' → PlainL s'.heap C us.toArray → IsAll s'.heap us ((toks T 15 0).map (duePV T)) → Q .next s') :
    wpAny (model prog w) A (exec (.Assign [.Name "told" c2] (.ListComp (.Tuple [.Attribute (.Name "kind" p1) "path" p2, .Name "value" p3] k p4) [⟨.Tuple [.Name "kind" q1, .Name "value" q2] k' q3, .Call (.Name "tokenize" t1) [.Name "text" t2] [] t3, [], 0⟩] sc c1) c3) (lawX prog w h₀ d L f cd).env) Q E s := by
  subst hsc
  rw [exec_Assign_Name_used _ _ _ _ hs1]
  refine wpAny_bind (wpAny_standAt (wpAny_bind ?_))
  show wpAny _ A (do let _ ← comprehension (.ListComp (.Tuple [.Attribute (.Name "kind" p1) "path" p2, .Name "value" p3] k p4) [⟨.Tuple [.Name "kind" q1, .Name "value" q2] k' q3, .Call (.Name "tokenize" t1) [.Name "text" t2] [] t3, [], 0⟩] _ c1) _ (lawX prog w h₀ d L f cd).env _ (newList []) false (eval (.Call (.Name "tokenize" t1) [.Name "text" t2] [] t3) (lawX prog w h₀ d L f cd).env) (some (assign (.Name "told" c2) (lawX prog w h₀ d L f cd).env))) _ _ s
  refine wpAny_bind (wpAny_mono (wpAny_comprehension_use (Q := fun _ s' => Q .next s') rfl (fun _ => rfl) (by decide +kernel) rfl (by decide +kernel) ?_) (fun _ s' hq => wpAny_pure (wpAny_pure hq)) fun _ _ e => e)
  refine wpAny_Call_Name_kw (name_global (X := lawX prog w h₀ d L f cd) gT (by run_tac dk) rfl (by run_tac dk) G ?_)
  obtain ⟨oT, docT, pmT, anT, ctT, hoT, _, hdT⟩ := FT.obj
  have htx : ∀ {p : Pos}, Ev (lawX prog w h₀ d L f cd) [("text", .str ⟨T⟩), ("due", .obj (.ref D))] (.Name "text" p) (.str ⟨T⟩) := fun {p} => by run_tac ev
  refine callWith_def hdT (wpAny_items_cons (htx A R s _ _ G fun v s1 u1 i1 => ?_)) rfl
  cases i1 with
  | str _ t =>
  have G1 := Gd.up G u1
  refine wpAny_items_nil ⟨u1.keep _ _ (Gd.base G _ _ hoT), ?_⟩
  obtain ⟨mL, FL, hmL⟩ := Gd.fr G1
  have k01 : ∀ b o, h₀.get? b = some o → s1.heap.get? b = some o := Gd.base G1
  have hL0 : h₀.get? L = none := Heap.get?_none_of_le FL.above
  have hLs : ∃ o, s1.heap.get? L = some o := let ⟨o, _, _, ho, _⟩ := FL.ns; ⟨o, ho⟩
  refine tok_walk (Lw := L) TB FT hdt k01 (Gd.size G1) (by omega) hL0 hLs fun h2 tk2 B N' Lg fG cdG ga k2 GB htt hct gG hga hBw hBs hwg hgag hsLg => ?_
  have hss : s1.gens = s.gens ∧ s1.drawn = s.drawn ∧ s1.os = s.os := by obtain ⟨h', tk, rfl, _⟩ := u1; exact ⟨rfl, rfl, rfl⟩
  refine wpAny_pyIter_gen (s := { s1 with heap := h2, toks := tk2, gens := s1.gens.push (.fresh (.func gtB (gtX prog w B Lg fG cdG).env)) }) hga ?_
  unfold newList
  refine wpAny_newObj_type ?_ (by show (0 : Nat) ≤ sizeLine; exact Nat.zero_le _)
  obtain ⟨Td, hTd⟩ : ∃ Td, Td = h2.objs.size := ⟨_, rfl⟩
  refine wpAny_newFunctionEnv (by decide +kernel) (fun y hy => absurd hy (List.not_mem_nil)) (fun h3 hns3 hsb3 => ?_) rfl
  obtain ⟨h2', hh2'⟩ : ∃ h2', h2' = h2.push { cls := .type "list", data := .seq ([] : List Value).toArray } := ⟨_, rfl⟩
  have hz2' : h2'.objs.size = Td + 1 := by rw [hh2', Heap.size_push, hTd]
  replace hns3 : h3.Ns h2'.objs.size (fun _ => none) := by rw [hh2']; exact hns3
  replace hsb3 : Heap.SameBut h2'.objs.size (h2'.push { cls := .type "dict", data := .dict #[] }) h3 := by rw [hh2']; exact hsb3
  rw [← hTd]
  obtain ⟨Lc, hLcd⟩ : ∃ Lc, Lc = (h2.push { cls := .type "list", data := .seq ([] : List Value).toArray }).objs.size := ⟨_, rfl⟩
  have hLc : Lc = Td + 1 := by rw [hLcd, Heap.size_push, hTd]
  have hLc2 : h2'.objs.size = Lc := by rw [hz2', hLc]
  rw [hLc2] at hns3 hsb3
  have k23 : ∀ b o, h2.get? b = some o → h3.get? b = some o := fun b o q => by
    have lt : b < Td := by rw [hTd]; exact Heap.lt_size q
    exact hsb3.extBut b o (Nat.ne_of_lt (by rw [hLc]; exact Nat.lt_succ_of_lt lt)) (Heap.get?_push_of_some _ (by rw [hh2']; exact Heap.get?_push_of_some _ q))
  have k13 : ∀ b o, s1.heap.get? b = some o → h3.get? b = some o := fun b o q => k23 b o (k2 b o q)
  have hTd3 : h3.get? Td = some { cls := .type "list", data := .seq #[] } := by
    refine hsb3.extBut _ _ (by rw [hLc]; exact Nat.ne_of_lt (Nat.lt_succ_self _)) (Heap.get?_push_of_some _ ?_)
    rw [hh2', hTd]; exact Heap.get?_push_size _ rfl
  have hsz3 : h3.objs.size = Lc + 1 := by rw [hsb3.1, Heap.size_push, hLc2]
  have lt2 : ∀ {b : Addr}, (∃ o, h2.get? b = some o) → b < Td := fun ⟨o, ho⟩ => by rw [hTd]; exact Heap.lt_size ho
  have gG3 : (gtX prog w B Lg fG cdG).Gd [("encoding", .none), ("text", .str ⟨T⟩), ("self", .obj (.ref N'.lx))] { s1 with heap := h3, toks := tk2, gens := s1.gens.push (.fresh (.func gtB (gtX prog w B Lg fG cdG).env)) } :=
    Gd.kxF (s := { s1 with heap := h2, toks := tk2 }) (tk := tk2) (S := []) gG (Kx.of_keep k23) (flat_cons rfl (flat_cons rfl (flat_cons rfl flat_nil))) (by simp) fun m z => z.keeps k23
  obtain ⟨mg, Fg, _⟩ := Gd.fr gG
  have ltg : Lg < Td := lt2 (let ⟨o, _, _, ho, _⟩ := Fg.ns; ⟨o, ho⟩)
  have ltL : L < Td := lt2 (let ⟨o, ho⟩ := hLs; ⟨o, k2 _ _ ho⟩)
  have ltga : ga < Td := lt2 (let ⟨o, _, _, ho, _⟩ := hga; ⟨o, ho⟩)
  have hgaL : ga ≠ L := by
    intro e
    obtain ⟨o, nm, qn, ho, hc, hdd, _⟩ := hga
    obtain ⟨o2, es, ep, ho2, hd2, _⟩ := FL.ns
    rw [e, k2 _ _ ho2] at ho; cases ho; rw [hd2] at hdd; cases hdd
  have nT : ∀ {b : Addr}, b < Td → b ≠ Td ∧ b ≠ Lc := fun {b} hb => ⟨Nat.ne_of_lt hb, by rw [hLc]; exact Nat.ne_of_lt (Nat.lt_succ_of_lt hb)⟩
  have h0n : ∀ b ∈ [Lg, L, Td, Lc], h₀.get? b = none := fun b hb => by
    cases q : h₀.get? b with
    | none => rfl
    | some o =>
      exfalso
      have q1 := k01 _ _ q
      have lt := lt2 ⟨o, k2 _ _ q1⟩
      simp only [List.mem_cons, List.not_mem_nil, or_false] at hb
      rcases hb with rfl | rfl | rfl | rfl
      · rw [hsLg] at q1; cases q1
      · rw [hL0] at q; cases q
      · exact Nat.lt_irrefl _ lt
      · exact (nT lt).2 rfl
  have b0 : ∀ b ∈ [Lg, L, Td, Lc], B.get? b = none := fun b hb => by
    simp only [List.mem_cons, List.not_mem_nil, or_false] at hb
    rcases hb with rfl | rfl | rfl | rfl
    · exact Heap.get?_none_of_le hBs
    · exact hBw
    · exact Heap.get?_none_of_le (Nat.le_of_lt (Nat.lt_of_le_of_lt hBs ltg))
    · rw [hLc]; exact Heap.get?_none_of_le (Nat.le_succ_of_le (Nat.le_of_lt (Nat.lt_of_le_of_lt hBs ltg)))
  have LE' : LawEnd h₀ K N' := by
    refine ⟨LE.inn, LE.lim, ?_, ?_⟩
    · rw [hct]; exact LE.pcT
    · rw [hct, htt]; exact LE.path
  have fin : ∀ (h4 : Heap) (tk4 : Nat) (us : List Value), (∀ b o, b ∉ [Lg, L, Td, Lc] → h3.get? b = some o → h4.get? b = some o) → (∀ m, h3.Ns L m → h4.Ns L m) → (∃ m, h4.Ns Lc m) → LsAt h4 Td us.toArray → IsAll h4 us ((toks T 15 0).map (duePV T)) →
      wpAny (model prog w) A (assign (.Name "told" c2) (lawX prog w h₀ d L f cd).env (.ref Td)) (fun _ s'' => ∃ m, s''.heap.Ns Lc m ∧ ∀ h', Heap.SameBut Lc s''.heap h' → Q .next { s'' with heap := h' }) E { s1 with heap := h4, toks := tk4, gens := s1.gens.push .finished } := by
    rintro h4 tk4 us old nsw ⟨mc, nsc⟩ lst ia
    have G4 : (lawX prog w h₀ d L f cd).Gd [("text", .str ⟨T⟩), ("due", .obj (.ref D))] { s1 with heap := h4, toks := tk4, gens := s1.gens.push .finished } := by
      refine ⟨mL, ⟨nsw _ (FL.ns.keeps k13), fun b o q => ?_, FL.above⟩, fun x p q => ?_⟩
      · have hb : b ∉ [Lg, L, Td, Lc] := fun hm => by rw [h0n b hm] at q; cases q
        exact old b o hb (k13 _ _ (k01 _ _ q))
      · obtain ⟨v, h1, h2⟩ := hmL x p q
        exact ⟨v, h1, h2.flat (flat_cons rfl (flat_cons rfl flat_nil) x p q)⟩
    refine wpAny_assign_Name (store (X := lawX prog w h₀ d L f cd) (p := .obj (.ref Td)) G4 (.obj _) (by run_tac dk) rfl fun s6 u6 G6 => ?_)
    have hTdL : Td ≠ L := Nat.ne_of_gt ltL
    have hLcL : Lc ≠ L := Ne.symm (nT ltL).2
    have hLcTd : Td ≠ Lc := by rw [hLc]; exact Nat.ne_of_lt (Nat.lt_succ_self _)
    have nsc6 : s6.heap.Ns Lc mc := by
      obtain ⟨h', tk, rfl, kk⟩ := u6
      exact ns_ext nsc fun o q => kk _ _ hLcL q
    refine ⟨mc, nsc6, fun h7 hs7 => ?_⟩
    have hLcs : noSeq s6.heap Lc := fun c vs n q => by
      obtain ⟨o, _, _, ho, hd, _⟩ := nsc6
      rw [ho] at q; cases q; cases hd
    have ks7 : KeepS s6.heap h7 := keepS_kx (S := [Lc]) (Kx.of_same hs7 (.head _)) (by simp [hLcs])
    have ia6 := isAll_keepT (Gd.keepT_upL G4 u6) ia
    have l6 := u6.plainL lst.plain hTdL
    have G7 : (lawX prog w h₀ d L f cd).Gd [("told", .obj (.ref Td)), ("text", .str ⟨T⟩), ("due", .obj (.ref D))] { s6 with heap := h7 } :=
      Gd.kxF (S := [Lc]) (tk := s6.toks) G6 (Kx.of_same hs7 (.head _)) (flat_cons rfl (flat_cons rfl (flat_cons rfl flat_nil))) (fun b hb => by rw [List.mem_singleton.mp hb]; exact h0n _ (by simp)) fun m z => z.sameBut hs7 (Ne.symm hLcL)
    refine hQ { s6 with heap := h7 } Td us (fun b o hb q => ?_) ?_ ?_ ?_ G7 (l6.extBut hs7.extBut hLcTd) (ia6.keep ks7)
    · have q1 := u1.keep _ _ q
      have lt := lt2 ⟨o, k2 _ _ q1⟩
      have nLg : b ≠ Lg := fun e => by rw [e, hsLg] at q1; cases q1
      have hm : b ∉ [Lg, L, Td, Lc] := by simp [hb, nLg, (nT lt).1, (nT lt).2]
      obtain ⟨h', tk, rfl, kk⟩ := u6
      exact (hs7.2 b (nT lt).2).trans (kk b o hb (old b o hm (k13 _ _ q1)))
    · obtain ⟨h', tk, rfl, kk⟩ := u6
      show s1.gens.push _ = _
      rw [hss.1]
    · obtain ⟨h', tk, rfl, kk⟩ := u6; exact hss.2.1
    · obtain ⟨h', tk, rfl, kk⟩ := u6; exact hss.2.2
  have loop : codeAny (model prog w) A (.compLoop (.ListComp (.Tuple [.Attribute (.Name "kind" p1) "path" p2, .Name "value" p3] k p4) [⟨.Tuple [.Name "kind" q1, .Name "value" q2] k' q3, .Call (.Name "tokenize" t1) [.Name "text" t2] [] t3, [], 0⟩] { kind := .function, names := [(".0", .local), ("kind", .local), ("value", .local)], isGenerator := false, isCoroutine := false } c1) 0 (.ref ga) (.ref Td)
      (compEnv { kind := .function, names := [(".0", .local), ("kind", .local), ("value", .local)], isGenerator := false, isCoroutine := false } Lc (lawX prog w h₀ d L f cd).env))
      (fun r s' => match r with
        | .ok _ => wpAny (model prog w) A (assign (.Name "told" c2) (lawX prog w h₀ d L f cd).env (.ref Td)) (fun _ s'' => ∃ m, s''.heap.Ns Lc m ∧ ∀ h', Heap.SameBut Lc s''.heap h' → Q .next { s'' with heap := h' }) E s'
        | .error x => ∃ m, s'.heap.Ns Lc m ∧ ∀ h', Heap.SameBut Lc s'.heap h' → wpAny (model prog w) A (passOn "comprehension.variables-let-go" x (compEnv { kind := .function, names := [(".0", .local), ("kind", .local), ("value", .local)], isGenerator := false, isCoroutine := false } Lc (lawX prog w h₀ d L f cd).env)) (fun (_ : Value) s' => Q .next s') E { s' with heap := h' })
      { s1 with heap := h3, toks := tk2, gens := s1.gens.push (.fresh (.func gtB (gtX prog w B Lg fG cdG).env)) } := by
    refine told_loop (sB := { s1 with heap := h3, toks := tk2, gens := s1.gens.push (.fresh (.func gtB (gtX prog w B Lg fG cdG).env)) }) (ew := (lawX prog w h₀ d L f cd).env) (G₀ := s1.gens) (Lw := L) (Lg := Lg) (Td := Td) (Lc := Lc) GB LE' hT ⟨by show lawS.kind ≠ _; decide +kernel, rfl⟩ hA R.hand hd rfl gG3 (let ⟨o, nm, qn, ho, r⟩ := hga; ⟨o, nm, qn, k23 _ _ ho, r⟩)
      (by simp [hgag, hgaL, (nT ltga).1, (nT ltga).2]) ⟨mL, FL.ns.keeps k13⟩ ⟨0, hTd3⟩ ⟨_, hns3⟩ rfl hwg (by simp [Nat.ne_of_gt ltg, Nat.ne_of_gt ltL]) (by simp [Ne.symm (nT ltg).2, Ne.symm (nT ltL).2]) b0 hsz3 (fun b o q => k13 _ _ (k01 _ _ q)) h0n rfl rfl rfl
      fun h4 tk4 us old nsw nsc lst ia => fin h4 tk4 us old nsw nsc lst ia
  clear fin
  subst hLcd
  subst hTd
  refine codeAny_compStart_list ?_ (wpAny_pyIter_gen (let ⟨o, nm, qn, ho, r⟩ := hga; ⟨o, nm, qn, k23 _ _ ho, r⟩) ?_)
  · exact loop
  · exact loop
end
end Mine
-- W4
set_option maxRecDepth 100000
set_option maxHeartbeats 4000000
set_option linter.unusedVariables false
namespace Mine
open PySem PySem.Calls PyProof.Rows PySem.W

section
variable {prog : Program} {w : World} {A : Around} {E : Value → Shared → Prop} {s : Shared} {T : Array Nat}
/-- [value for path, value in told] -/
theorem vals_comp {Q : Value → Shared → Prop} {env : Env} {sc : Scope} {iter : Expr} {p3 q1 q2 q3 c1 : Pos} {k' : Nat} {C : Addr} {us : List Value} {all : List (Nat × Nat × Kd)} (hh : A.handled = none) (hall : all.length ≤ 15)
    (hsc : sc = { kind := .function, names := [(".0", .local), ("path", .local), ("value", .local)], isGenerator := false, isCoroutine := false }) (hC : PlainL s.heap C us.toArray) (ia : IsAll s.heap us (all.map (duePV T)))
    (hit : ∀ (Q : Value → Shared → Prop), (∀ s1, Mine.Up s s1 → Q (.ref C) s1) → wpAny (model prog w) A (eval iter env) Q E s) (hs : ∀ x, foldedSetIterable iter env x = pure x)
    (hQ : ∀ s' V vs, Mine.Up s s' → s'.heap.IsList V vs.toArray → IsAll s'.heap vs ((txts T all).map PV.str) → Q (.ref V) s') :
    wpAny (model prog w) A (eval (.ListComp (.Name "value" p3) [⟨.Tuple [.Name "path" q1, .Name "value" q2] k' q3, iter, [], 0⟩] sc c1) env) Q E s := by
  subst hsc
  refine wpAny_ListComp (by decide +kernel) rfl (by decide +kernel) (hit _ fun s1 u1 => ?_) hs
  have C1 : PlainL s1.heap C us.toArray := hC.keeps u1.keep
  have ia1 : IsAll s1.heap us (all.map (duePV T)) := ia.keep (.of u1.keep)
  have hlen : us.length = all.length := by rw [ia1.length, List.length_map]
  refine wpAny_pyIter_list C1.isList ?_
  unfold newList
  refine wpAny_newObj_type ?_ (by show (0 : Nat) ≤ sizeLine; exact Nat.zero_le _)
  refine wpAny_newFunctionEnv (by decide +kernel) (fun y hy => absurd hy (List.not_mem_nil)) (fun h3 hns3 hsb3 => ?_) rfl
  obtain ⟨I, hI⟩ : ∃ I, I = s1.heap.objs.size := ⟨_, rfl⟩
  obtain ⟨h1, hh1⟩ : ∃ h1, h1 = s1.heap.push { cls := .type "list_iterator", data := .fields #[.ref C, .int 0 0] } := ⟨_, rfl⟩
  obtain ⟨h2, hh2⟩ : ∃ h2, h2 = h1.push { cls := .type "list", data := .seq ([] : List Value).toArray } := ⟨_, rfl⟩
  obtain ⟨V, hV⟩ : ∃ V, V = h1.objs.size := ⟨_, rfl⟩
  obtain ⟨Lc, hLc⟩ : ∃ Lc, Lc = h2.objs.size := ⟨_, rfl⟩
  have zV : V = I + 1 := by rw [hV, hh1, Heap.size_push, hI]
  have zL : Lc = I + 1 + 1 := by rw [hLc, hh2, Heap.size_push, ← hV, zV]
  replace hns3 : h3.Ns Lc (fun _ => none) := by rw [hLc, hh2, hh1]; exact hns3
  replace hsb3 : Heap.SameBut Lc (h2.push { cls := .type "dict", data := .dict #[] }) h3 := by rw [hLc, hh2, hh1]; exact hsb3
  have nIV : I ≠ V := by rw [zV]; exact Nat.ne_of_lt (Nat.lt_succ_self _)
  have nIL : I ≠ Lc := by rw [zL]; exact Nat.ne_of_lt (Nat.lt_succ_of_lt (Nat.lt_succ_self _))
  have nVL : V ≠ Lc := by rw [zV, zL]; exact Nat.ne_of_lt (Nat.lt_succ_self _)
  have nb : ∀ {b : Addr}, b < I → b ≠ I ∧ b ≠ V ∧ b ≠ Lc := fun {b} hb => ⟨Nat.ne_of_lt hb, by rw [zV]; exact Nat.ne_of_lt (Nat.lt_succ_of_lt hb), by rw [zL]; exact Nat.ne_of_lt (Nat.lt_succ_of_lt (Nat.lt_succ_of_lt hb))⟩
  have hI2 : h2.get? I = some { cls := .type "list_iterator", data := .fields #[.ref C, .int 0 0] } := by
    rw [hh2, hh1, hI]; exact Heap.get?_push_of_some _ (Heap.get?_push_size _ rfl)
  have hV2 : h2.get? V = some { cls := .type "list", data := .seq #[] } := by
    rw [hh2, hV]; exact Heap.get?_push_size _ rfl
  have k13 : ∀ b o, s1.heap.get? b = some o → h3.get? b = some o := fun b o q => by
    have lt : b < I := by rw [hI]; exact Heap.lt_size q
    exact hsb3.extBut b o (nb lt).2.2 (Heap.get?_push_of_some _ (by rw [hh2, hh1]; exact Heap.get?_push_of_some _ (Heap.get?_push_of_some _ q)))
  have hI3 := hsb3.extBut I _ nIL (Heap.get?_push_of_some _ hI2)
  have hV3 := hsb3.extBut V _ nVL (Heap.get?_push_of_some _ hV2)
  have loop : codeAny (model prog w) A (.compLoop (.ListComp (.Name "value" p3) [⟨.Tuple [.Name "path" q1, .Name "value" q2] k' q3, iter, [], 0⟩] { kind := .function, names := [(".0", .local), ("path", .local), ("value", .local)], isGenerator := false, isCoroutine := false } c1) 0 (.ref I) (.ref V)
      (compEnv { kind := .function, names := [(".0", .local), ("path", .local), ("value", .local)], isGenerator := false, isCoroutine := false } Lc env))
      (fun r s' => ∃ m, s'.heap.Ns Lc m ∧ ∀ h', Heap.SameBut Lc s'.heap h' → match r with
        | .ok _ => Q (.ref V) { s' with heap := h' }
        | .error x => wpAny (model prog w) A (passOn "comprehension.variables-let-go" x (compEnv { kind := .function, names := [(".0", .local), ("path", .local), ("value", .local)], isGenerator := false, isCoroutine := false } Lc env)) Q E { s' with heap := h' })
      { s1 with heap := h3 } := by
    refine compLoop_let (fun n s2 => ∃ (j : Nat) (vs : List Value) (h : Heap) (tk : Nat), n = all.length + 1 - j ∧ j ≤ all.length ∧ s2 = { s1 with heap := h, toks := tk } ∧ h.IsListIter I C j ∧ (∀ b o, s1.heap.get? b = some o → h.get? b = some o) ∧ (∃ m, h.Ns Lc m) ∧ LsAt h V vs.toArray ∧ IsAll h vs ((txts T (all.take j)).map PV.str)) ?_ (all.length + 1)
      ⟨0, [], h3, s1.toks, rfl, Nat.zero_le _, rfl, ⟨_, hI3, rfl, rfl⟩, k13, ⟨_, hns3⟩, ⟨0, hV3⟩, .nil⟩
    rintro n s2 ⟨j, vs, h, tk, rfl, hj, rfl, hit', old, ⟨mc, nsc⟩, lst, vals⟩
    have Cj : PlainL h C us.toArray := C1.keeps old
    cases hv : us[j]? with
    | none =>
      have hge : all.length ≤ j := by rw [← hlen]; exact List.getElem?_eq_none_iff.mp hv
      have hje : j = all.length := by omega
      rw [hje, List.take_length] at vals
      refine wpAny_pyNext_list_end (s := { s1 with heap := h, toks := tk }) hh hit' Cj.isList (by simpa using hv) fun h4 he4 => ?_
      refine ⟨mc, nsc.extBut he4 (Ne.symm nIL), fun h5 hs5 => ?_⟩
      obtain ⟨h0, tk0, rfl, k0⟩ := u1
      refine hQ _ V vs ⟨h5, tk, rfl, fun b o q => ?_⟩ ?_ ?_
      · have q1 := k0 b o q
        have lt : b < I := by rw [hI]; exact Heap.lt_size q1
        exact (hs5.2 b (nb lt).2.2).trans (he4 b o (nb lt).1 (old b o q1))
      · obtain ⟨nv, z⟩ := lst
        exact ⟨_, (hs5.2 V nVL).trans (he4 _ _ (Ne.symm nIV) z), rfl, nv, rfl⟩
      · have strKeep : ∀ {a b : Heap} {vs : List Value} {xs : List Str}, IsAll a vs (xs.map PV.str) → IsAll b vs (xs.map PV.str) := by
          intro a b vs xs
          induction xs generalizing vs with
          | nil => intro i; cases i; exact .nil
          | cons x xs ih => intro i; cases i with | cons hv hl => exact .cons (hv.flat rfl) (ih hl)
        exact strKeep vals
    | some v =>
      obtain ⟨p, hp, iv⟩ := isAll_get ia1 hv
      rw [List.getElem?_map] at hp
      obtain ⟨tok, htok, rfl⟩ := Option.map_eq_some_iff.mp hp
      have hlt : j < all.length := (List.getElem?_eq_some_iff.mp htok).1
      refine wpAny_pyNext_list_item (s := { s1 with heap := h, toks := tk }) hit' Cj.isList (x := v) (by simpa using hv) fun h4 hit4 hs4 => ?_
      replace hs4 : Heap.SameBut I h h4 := hs4
      cases iv with
      | @tup a ws nw _ ho hl =>
      obtain ⟨w1, w2, rfl, i1, i2⟩ := isAll2 hl
      cases i2 with
      | str _ t2 =>
      have k4 : ∀ b o, s1.heap.get? b = some o → h4.get? b = some o := fun b o q => by
        have lt : b < I := by rw [hI]; exact Heap.lt_size q
        exact (hs4.2 b (nb lt).1).trans (old b o q)
      refine li_let (s := { s1 with heap := h4, toks := tk }) hit4 ?_
      refine asgTupC (s := { s1 with heap := h4, toks := tk }) (cenv := compEnv _ Lc env) (m := mc) (nsc.sameBut hs4 (Ne.symm nIL)) (k4 _ _ ho) rfl rfl rfl hh fun h5 tk5 hn5 kx5 => ?_
      replace hn5 : h5.Ns Lc _ := hn5
      replace kx5 : Kx [Lc] h4 h5 := kx5
      refine wpAny_Name (wpAny_loadName_local (m := _) rfl rfl hn5 (v := .str ⟨T.extract tok.1 tok.2.1⟩ t2) (by rw [if_pos rfl]) ?_) (by decide +kernel)
      have lst5 : LsAt h5 V vs.toArray := lst.at fun o q => kx5 _ _ (by simpa using nVL) (hs4.extBut _ _ (Ne.symm nIV) q)
      have hvl : vs.length ≤ 15 := by
        have := vals.length
        unfold txts at this
        rw [List.length_map, List.length_map, List.length_take] at this; omega
      refine ls_append (s := { s1 with heap := h5, toks := tk5 }) lst5 (fun h6 lst6 hs6 => ?_) (by rw [List.size_toArray]; exact Nat.le_trans hvl (by decide))
      refine ⟨all.length + 1 - (j + 1), by omega, j + 1, vs ++ [.str ⟨T.extract tok.1 tok.2.1⟩ t2], h6, tk5, rfl, hlt, rfl, ?_, fun b o q => ?_, ⟨_, ns_ext hn5 fun o q => hs6.extBut _ _ (Ne.symm nVL) q⟩, ?_, ?_⟩
      · obtain ⟨o, ho4, r⟩ := hit4
        exact ⟨o, hs6.extBut _ _ nIV (kx5 _ _ (by simpa using nIL) ho4), r⟩
      · have lt : b < I := by rw [hI]; exact Heap.lt_size q
        exact hs6.extBut b o (nb lt).2.1 (kx5 b o (by simpa using (nb lt).2.2) (k4 b o q))
      · have : vs.toArray.push (Value.str ⟨T.extract tok.1 tok.2.1⟩ t2) = (vs ++ [Value.str ⟨T.extract tok.1 tok.2.1⟩ t2]).toArray := by simp
        rw [← this]; exact lst6
      · have strKeep : ∀ {a b : Heap} {vs : List Value} {xs : List Str}, IsAll a vs (xs.map PV.str) → IsAll b vs (xs.map PV.str) := by
          intro a b vs xs
          induction xs generalizing vs with
          | nil => intro i; cases i; exact .nil
          | cons x xs ih => intro i; cases i with | cons hv hl => exact .cons (hv.flat rfl) (ih hl)
        rw [List.take_add_one, htok]
        show IsAll h6 _ ((txts T (all.take j ++ [tok])).map PV.str)
        unfold txts
        rw [List.map_append, List.map_append]
        exact isAll_append (strKeep vals) (.str _ _)
  subst hLc hV hI hh2 hh1
  refine codeAny_compStart_list ?_ (wpAny_pyIter_listiter (l := C) (i := 0) ⟨_, hI3, rfl, rfl⟩ ?_)
  · exact loop
  · exact loop
end
end Mine
-- W5
set_option maxRecDepth 100000
set_option maxHeartbeats 4000000
set_option linter.unusedVariables false
namespace Mine
open PySem PySem.Calls PyProof.Rows PySem.W

def law57 : List Stmt := by run_tac putPart "law" 5 7
def lawSt : List Stmt := by run_tac putDef "" "law" 2
theorem lawSt_eq : lawSt = law3 ++ (law35 ++ law57) := rfl
section
variable {prog : Program} {w : World} {A : Around} {E : Value → Shared → Prop} {s : Shared} {h₀ : Heap} {K : Frag} {J : Isl} {N : Nam} {T : Array Nat} {L f D C fT dt : Addr} {cd cdT : Value} {nT d : Nat} {us vs : List Value}
theorem law_ret {Q : Flow → Shared → Prop} {p1 p2 p3 p4 p5 p6 p7 p8 p9 q1 q2 q3 c1 c2 : Pos} {k k' : Nat} {sc : Scope} (hT : Tx T) (R : Rm d A) (hu : A.units + 10 < cLine) (G : (lawX prog w h₀ d L f cd).Gd [("told", .obj (.ref C)), ("text", .str ⟨T⟩), ("due", .obj (.ref D))] s)
    (hC : PlainL s.heap C us.toArray) (ia : IsAll s.heap us ((toks T 15 0).map (duePV T))) (hD : PlainL s.heap D vs.toArray) (ib : IsAll s.heap vs ((toks T 15 0).map (duePV T)))
    (hsc : sc = { kind := .function, names := [(".0", .local), ("path", .local), ("value", .local)], isGenerator := false, isCoroutine := false }) (hline : (p4.endLine == p5.line) = true)
    (hQ : ∀ s', Mine.Up s s' → Q (.ret (.bool true)) s') :
    wpAny (model prog w) A (exec (.Return (some (.BoolOp .And [.Compare (.Name "told" p1) [.Eq] [.Name "due" p2] p3, .Compare (.Call (.Attribute (.Constant (.str "") k c2) "join" p4) [.ListComp (.Name "value" q1) [⟨.Tuple [.Name "path" q2, .Name "value" q3] k' p9, .Name "told" c1, [], 0⟩] sc p8] [] p5) [.Eq] [.Name "text" p6] p7] L1)) L2) (lawX prog w h₀ d L f cd).env) Q E s := by
  have n1 : ∀ {p : Pos}, Ev (lawX prog w h₀ d L f cd) [("told", .obj (.ref C)), ("text", .str ⟨T⟩), ("due", .obj (.ref D))] (.Name "told" p) (.obj (.ref C)) := fun {p} => by run_tac ev
  have n2 : ∀ {p : Pos}, Ev (lawX prog w h₀ d L f cd) [("told", .obj (.ref C)), ("text", .str ⟨T⟩), ("due", .obj (.ref D))] (.Name "due" p) (.obj (.ref D)) := fun {p} => by run_tac ev
  have n3 : ∀ {p : Pos}, Ev (lawX prog w h₀ d L f cd) [("told", .obj (.ref C)), ("text", .str ⟨T⟩), ("due", .obj (.ref D))] (.Name "text" p) (.str ⟨T⟩) := fun {p} => by run_tac ev
  refine wpAny_Return_some (BoolOp_and (wpAny_Compare1 (n1 A R s _ _ G fun v1 s1 u1 i1 => n2 A R s1 _ _ (Gd.up G u1) fun v2 s2 u2 i2 => ?_) (by with_unfolding_all rfl)))
  cases i1; cases i2
  have u := u1.trans u2
  refine eq_dues (hC.keeps u.keep) (hD.keeps u.keep) (ia.keep (.of u.keep)) (ib.keep (.of u.keep)) (by omega) (wpAny_truthy_bool ?_)
  rw [if_pos rfl]
  with_reducible refine BoolOp_one (wpAny_Compare1 ?cm1 ?cm2)
  case cm2 => with_unfolding_all rfl
  have hall : (toks T 15 0).length ≤ 15 := toks_len T 15 0
  with_reducible refine wpAny_Call_method (T := "str") (id := "str.join") ?r1 ?r2 hline F.plainAttrs_str F.slot_str_join F.type_str_join (wpAny_Constant_str ?m)
  case r1 => exact rfl
  case r2 => rfl
  refine ⟨typeIs_str _ _ _, fun a ha => (nomatch ha), ?_⟩
  show wpAny _ _ (callWith p5 (.builtin "str.join") _ (backTo p5 (starEach _ (lawX prog w h₀ d L f cd).env)) (backToKw p5 (keywordEach [] (lawX prog w h₀ d L f cd).env))) _ _ _
  refine callWith_of (P := fun _ => True) (by rfl) (fun h _ => ⟨Keeper.machine, .inr (.inl rfl), Looks.of_pure rfl⟩) (evalArgs_kw2 rfl (wpAny_items_cons ?_ rfl) rfl)
  have u3 : Mine.Up s { s2 with toks := s2.toks + 1 } := u.trans (.tok _ _)
  refine vals_comp (s := { s2 with toks := s2.toks + 1 }) R.hand hall hsc (hC.keeps u.keep) (ia.keep (.of u.keep)) (fun Q' h' => n1 A R _ _ _ (Gd.up G u3) fun v s4 u4 i4 => by cases i4; exact h' s4 u4) (fun _ => rfl) fun s4 V ws u4 hV iV => ?_
  refine wpAny_items_nil (kwAll_nil ⟨trivial, ?_⟩)
  obtain ⟨l, rfl, hl⟩ := strs_of iV
  refine SC.join hV hl ?_ fun t' kk => ?_
  · unfold JoinOk
    rw [StrLaws.joinFits (B := 14) (txts_le hT _) (by
      show (txts T (toks T 15 0)).length * 14 + (txts T (toks T 15 0)).length * 0 ≤ _
      unfold txts; rw [List.length_map]; omega)]
    rfl
  have ej : Txt.join "" (txts T (toks T 15 0)) = ⟨T⟩ := by
    have := join_toks hT 15 0 (Nat.zero_le _) (by have := hT.len; omega)
    rw [Array.extract_size] at this
    unfold Txt.join
    rw [StrLaws.glued_eq_join]
    exact this
  have uu : Mine.Up s { s4 with toks := kk } := (u3.trans u4).trans (.tok _ _)
  refine n3 A R _ _ _ (Gd.up G uu) fun v5 s5 u5 i5 => ?_
  cases i5
  show wpAny _ _ (compareOp .Eq (.str (Txt.join "" (txts T (toks T 15 0))) t') _) _ _ _
  rw [ej]
  refine P.eq_str ?_
  rw [beq_self_eq_true]
  exact hQ s5 (uu.trans u5)

/-- what the base tells of the law -/
structure LawBase (prog : Program) (w : World) (h₀ : Heap) (K : Frag) (J : Isl) (N : Nam) : Prop where
  b2 : Base2 h₀
  tok : TokBase prog w h₀ K J N
  fin : LawEnd h₀ K N
  tkf : ∃ f dt cd n, GlobalIs h₀ "tokenize" (.ref f) ∧ FnAt h₀ f "tokenize" "tokenize" tkA tkB tkS (.ref dt) .none cd ∧ h₀.get? dt = some { cls := .type "tuple", data := .seq #[.none] n }
theorem law_all {Q : Flow → Shared → Prop} {ns : List Int} (LB : LawBase prog w h₀ K J N) (hn : ns.length < 2 ^ 60) (hA : A.frames = some [(lawX prog w h₀ 9 L f cd).env]) (R : Rm 9 A) (hd : A.depth + 30 < recursionLimit) (hu : A.units + 10 < cLine) (G : (lawX prog w h₀ 9 L f cd).Gd [("script", .lst (ns.map PV.int))] s)
    (hQ : ∀ s', (∀ b o, h₀.get? b = some o → s'.heap.get? b = some o) → s'.gens = s.gens.push .finished → s'.os = s.os → Q (.ret (.bool true)) s') :
    wpAny (model prog w) A (execs lawSt (lawX prog w h₀ 9 L f cd).env) Q E s := by
  obtain ⟨fT, dt, cdT, nT, gT, FT, hdt⟩ := LB.tkf
  have hT := textO_tx ns
  have e1 : lawSt = law3 ++ (law35 ++ law57) := rfl
  rw [e1, execs_append]
  refine wpAny_bind (law_text (d := 8) LB.b2 hn A R s _ _ G fun fl s1 u1 g1 => ?_)
  cases fl with
  | brk | cont | ret => exact g1.elim
  | next =>
  show wpAny _ _ (execs (law35 ++ law57) _) _ _ _
  rw [execs_append]
  refine wpAny_bind (law_due LB.b2 hT (by decide) R g1 fun s2 D vs ht2 hD0 g2 PD ib => ?_)
  show wpAny _ _ (execs law57 _) _ _ _
  unfold law57
  refine wpAny_execs_cons ?_
  have h12 : s2.gens = s.gens ∧ s2.os = s.os := by
    obtain ⟨h', tk, rfl, _⟩ := u1
    obtain ⟨h'', tk2, rfl⟩ := ht2
    exact ⟨rfl, rfl⟩
  refine told_stmt (vs := vs) LB.tok LB.fin gT FT hdt hT hA R hd g2 rfl rfl fun s3 C us k3 hg3 hd3 ho3 g3 PC ia => ?_
  have nDL : D ≠ L := by
    obtain ⟨m, F, _⟩ := Gd.fr g2
    obtain ⟨o, n', ho, hc, _, hdt⟩ := PD
    obtain ⟨o2, es, ep, ho2, hd2, _⟩ := F.ns
    intro e
    subst e
    rw [ho] at ho2; cases ho2; rw [hdt] at hd2; cases hd2
  have PD3 : PlainL s3.heap D vs.toArray := let ⟨o, n, ho, r⟩ := PD; ⟨o, n, k3 _ _ nDL ho, r⟩
  have hLt : noSeq s2.heap L := fun c vs n q => by
    obtain ⟨m, F, _⟩ := Gd.fr g2
    obtain ⟨o, _, _, ho, hd, _⟩ := F.ns
    rw [ho] at q; cases q; cases hd
  have ks : KeepS s2.heap s3.heap := keepS_kx (S := [L]) (fun b o hb q => k3 b o (by simpa using hb) q) (by simp [hLt])
  refine wpAny_execs_cons (law_ret hT R hu g3 PC ia PD3 (ib.keep ks) rfl rfl fun s4 u4 => ?_)
  refine hQ s4 (fun b o q => u4.keep _ _ (Gd.base g3 _ _ q)) ?_ ?_
  · obtain ⟨h', tk, rfl, _⟩ := u4
    show s3.gens = _
    rw [hg3, h12.1]
  · obtain ⟨h', tk, rfl, _⟩ := u4
    show s3.os = _
    rw [ho3, h12.2]
end
end Mine
-- W6
set_option maxRecDepth 100000
set_option maxHeartbeats 4000000
set_option linter.unusedVariables false
namespace Mine
open PySem PySem.Calls PyProof.Rows PySem.W PySem.Spec

theorem ints_items {R : WRecords} : ∀ {xs : List WData}, WShape.hasItems R xs .int = true → ∃ ns : List Int, xs = ns.map WData.int
  | [], _ => ⟨[], rfl⟩
  | x :: xs, h => by
    simp only [WShape.hasItems, Bool.and_eq_true] at h
    obtain ⟨i, rfl⟩ := hasW_int h.1
    obtain ⟨ns, rfl⟩ := ints_items h.2
    exact ⟨i :: ns, rfl⟩
theorem ints_well {P : Params} {h : Heap} : ∀ {vs : List Value} {ns : List Int}, WellAll P h vs (ns.map WData.int) → IsAll h vs (ns.map PV.int)
  | [], [], _ => .nil
  | _ :: _, [], i => nomatch i
  | [], _ :: _, i => nomatch i
  | _ :: _, n :: ns, i => by
    cases i with
    | cons hv hl =>
      cases hv
      exact .cons (.int _ _) (ints_well hl)
abbrev lawRow : OpenRow := PySem.Challenge.rw_er0026_01.row
theorem law_short {xs : List WData} (h : lawRow.pre.holds lawRow.records { args := [.list xs] } = true) : xs.length < 2 ^ 60 := by
  have h1 : lawRow.pre = .and (.not (.lt (.lit (.int 63)) (.len (.arg 0)))) (.lit (.bool true)) := rfl
  rw [h1] at h
  unfold WTm.holds at h
  simp [WTm.value] at h
  have e : W.less? (WData.int 63) (WData.int (xs.length : Int)) = some (decide ((63 : Int) < (xs.length : Int))) := rfl
  rw [e] at h
  by_cases hl : (63 : Int) < (xs.length : Int)
  · rw [decide_eq_true hl] at h; cases h
  · omega
theorem post_ok (ns : List Int) : lawRow.claim.post [.list (ns.map WData.int)] (.bool true) [.list (ns.map WData.int)] = true := by
  have h1 : lawRow.post = .eq .res (.lit (.bool true)) := rfl
  refine postW_of (r := lawRow.toRowW) (by rfl) (X := true) ?_ rfl
  rw [show lawRow.toRowW.post = .eq .res (.lit (.bool true)) from rfl]
  simp [WTm.value]
  first | rfl | decide | (unfold PySem.W.same; rfl)
theorem law_walkX {q : Program} {loose : List Str} {XP : (Str → Option Value) → Heap → Prop} {Kh : Params → Array Obj} {n : Nat} {d : DefRec} {kwd : List (Str × Expr)} (hname : d.name = "law") (hpar : d.params = lawA) (hbody : d.body = lawSt) (hsc : d.scope = lawS) (hkwd : kwd = [])
    (base : ∀ (w : World) (h : Heap), (∀ b o, (Heap.get? { objs := Kh w.params } b) = some o → h.get? b = some o) → ∃ K J N, LawBase PySem.Challenge.pw_er0026_01 w h K J N) :
    WalkX q loose XP (fun s => (s.heap.objs, s.toks)) (fun w => (Kh w.params, n)) lawRow.toRowW d kwd (fun f vs => PySem.call f vs) := by
  intro w s₀ s₁ mg mb G Y a o pm cd doc dV kV ho hdata hcd hdf hmg hg args vals as Ld hpre hlay hrd hwell hlow
  obtain ⟨dn, dp, db, ds⟩ := d
  dsimp only at hname hpar hbody hsc
  subst hname; subst hpar; subst hbody; subst hsc
  obtain ⟨d1, r1, rfl, hs1, hr1⟩ := hasAllW_cons (pre_splitW hpre).1
  have hr1 := hasAllW_nil hr1
  subst hr1
  obtain ⟨xs, rfl, hxs⟩ := hasW_list hs1
  have hlen := law_short (pre_splitW hpre).2
  obtain ⟨ns, rfl⟩ := ints_items hxs
  rw [List.length_map] at hlen
  have hk0 : ∀ b o, (Heap.get? { objs := Kh w.params } b) = some o → s₁.heap.get? b = some o := fun b o e => Ld.keeps b o (by
    have e1 : s₀.heap.objs = Kh w.params := congrArg Prod.fst Y
    unfold Heap.get? at e ⊢
    rw [e1]; exact e)
  obtain ⟨K, J, N, LB⟩ := base w s₁.heap hk0
  cases hwell with
  | cons hv hl =>
  cases hl
  cases hv with
  | @list l vs _ hget hall =>
  have hvs := ints_well hall
  have hlim : s₁.heap.NoLimit := LB.b2.lim
  refine wpAny_call (codeAny_call_def (body := lawSt) (binds := [("script", .ref l)]) (by decide) ho hdata hlim hcd rfl ?_ (by show ∀ x ∈ lawS.names, x.2 ≠ .cell; decide +kernel) (fun y hy => by rw [List.mem_singleton.mp hy]; show lawS.names.lookup _ = _; run_tac dk) (fun h₁ hns hk₁ => ?_))
  · rcases hdf.pos with ⟨_, rfl⟩ | ⟨hne, _⟩
    · rcases hdf.kw with ⟨_, rfl⟩ | ⟨hne, _⟩
      · exact BindsTo.of_eq (by rfl)
      · exact absurd hkwd hne
    · exact absurd (show lawA.defaults = [] by rfl) hne
  · obtain ⟨L, hL⟩ : ∃ L, L = s₁.heap.objs.size := ⟨_, rfl⟩
    rw [← hL] at hns ⊢
    show wpAny (model PySem.Challenge.pw_er0026_01 w) (callerA.deeper (lawX PySem.Challenge.pw_er0026_01 w s₁.heap 9 L a cd).env) (execs lawSt (lawX PySem.Challenge.pw_er0026_01 w s₁.heap 9 L a cd).env) _ _ _
    refine law_all (s := { s₁ with heap := h₁, toks := s₁.toks + 1 }) (ns := ns) LB hlen (Around.frames_deeper (rfl : callerA.frames = some [])) ⟨by show 1 + claimMargin + 1 + 9 < recursionLimit; decide, rfl⟩ (by show 1 + claimMargin + 1 + 30 < recursionLimit; decide) (by show 4 + 3 + 10 < cLine; decide) ?_ fun s' k hgens hos => ?_
    · refine ⟨_, ⟨hns, hk₁, by rw [hL]; exact Nat.le_refl _⟩, fun x p e => ?_⟩
      exact isAll_zip (ns := ["script"]) (vs := [.ref l]) (ps := [.lst (ns.map PV.int)]) (.cons (Is.lst (hk₁ _ _ hget) (hvs.keep (.of hk₁))) .nil) (acc := []) (accv := []) (fun _ _ e => nomatch e) e
    · refine ⟨.inl ⟨.bool true, .bool true, [], rfl, fun _ => rfl, ReadsW.bool true, post_ok ns, fun _ => ⟨List.nodup_nil, fun _ hm => (nomatch hm)⟩⟩, .of_keep k, hos, ?_⟩
      rw [hgens]
      show AllBare (s₁.gens.push .finished)
      rw [hg]
      exact AllBare.push .empty rfl
end Mine
-- B0
set_option maxRecDepth 100000
set_option maxHeartbeats 4000000
set_option linter.unusedVariables false
namespace Mine
open PySem PySem.Calls PyProof.Rows PySem.W

noncomputable abbrev told (P : Params) : Heap := { objs := Kh P }
open Lean Meta Elab Tactic in
/-- the told heap as a tree -/
def putTree : TacticM Unit := do
  let v ← withLocalDeclD `P (mkConst ``Params) fun q => do
    mkLambdaFVars #[q] (treeE q ((Array.range 780).map fun i => mkConst ((`Mine).str s!"zo{i}")) 1 0)
  (← getMainGoal).assign v
noncomputable def Kt : Params → BT := by run_tac putTree
theorem told_tree (P : Params) : told P = absHeap (Kt P) 780 {} := by kernel_rfl
theorem get_told {P : Params} {i : Nat} {o : Obj} (h : Nat.blt i 780 = true) (g : (Kt P).get i = some o) (a : alive o = some o) : (told P).get? i = some o := by
  rw [told_tree, abs_get (Nat.le_of_ble_eq_true h) g, a]
def nlk (l : List DictEntry) (x : Str) : Option Value := (l.find? fun e => e.key.isStr x).map (·.val)
def strB (e : DictEntry) : Bool := match e.key with
  | .str _ _ => true
  | _ => false
def esOf (o : Obj) : Array DictEntry := match o.data with
  | .dict es _ => es
  | _ => #[]
theorem ns_of {h : Heap} {a : Addr} {o : Obj} {es : Array DictEntry} {ep : Nat} (ho : h.get? a = some o) (hd : o.data = .dict es ep) (hs : es.toList.all strB = true) : h.Ns a (nlk es.toList) := by
  refine ⟨o, es, ep, ho, hd, fun e he => ?_, fun x => ?_⟩
  · have := List.all_eq_true.mp hs e (Array.mem_toList_iff.mpr he)
    unfold strB at this
    split at this
    · exact ⟨_, _, ‹_›⟩
    · cases this
  · unfold nsFind findBy nlk
    rw [Array.find?_toList]
theorem gl_main {h : Heap} {m : Str → Option Value} {x : Str} {v : Value} (n : h.Ns mainGlobals m) (e : m x = some v) : GlobalIs h x v := ⟨m, n, .inl e⟩
theorem gl_bi {h : Heap} {m m0 : Str → Option Value} {x : Str} {v : Value} (n : h.Ns mainGlobals m) (n0 : h.Ns builtinsNs m0) (e : m x = none) (e0 : m0 x = some v) : GlobalIs h x v := ⟨m, n, .inr ⟨e, m0, n0, e0⟩⟩
theorem fn_of {h : Heap} {f c : Addr} {name qual : Str} {params : Arguments} {body : List Stmt} {scope : Scope} {dV kV doc pm ct : Value} {an} {o oc : Obj} {vs : Array Value} {t : Tok} (ho : h.get? f = some o) (hc : o.cls = .type "function") (hd : o.data = .func (fnOf name qual params body scope dV kV doc pm an (.ref c) ct))
    (hoc : h.get? c = some oc) (hvs : oc.data = .fields vs) (hq : vs[1]? = some (.str qual t)) : FnAt h f name qual params body scope dV kV (.ref c) := ⟨⟨o, doc, pm, an, ct, ho, hc, hd⟩, ⟨c, oc, vs, t, rfl, hoc, hvs, hq⟩⟩
theorem has_of {h : Heap} {f c : Addr} {name : Str} {params : Arguments} {body : List Stmt} {scope : Scope} {pm doc : Value} {o oc : Obj} {vs : Array Value} {t : Tok} (g : GlobalIs h name (.ref f)) (ho : h.get? f = some o) (hd : o.data = .func (docDef name params body scope pm (.ref c) doc))
    (hoc : h.get? c = some oc) (hvs : oc.data = .fields vs) (hq : vs[1]? = some (.str name t)) : Has h name params body scope := ⟨f, .ref c, g, ⟨o, pm, doc, ho, hd⟩, ⟨c, oc, vs, t, rfl, hoc, hvs, hq⟩⟩
theorem pat_of {h : Heap} {a ca : Addr} {o oc : Obj} {vs ws : Array Value} {n G : Nat} {C : Array Nat} (ho : h.get? a = some o) (h1 : o.cls = .type "re.Pattern") (h2 : o.dict = none) (h3 : o.data = .fields vs) (h4 : Builtin.Re.reRawNat (vs.getD 2 .none) = G) (h5 : Builtin.Re.reRawNat (vs.getD 6 .none) = 0) (h6 : vs.getD 5 .none = .ref ca)
    (hoc : h.get? ca = some oc) (h7 : oc.data = .seq ws n) (h8 : ws.toList.map (fun v => (Builtin.Re.reRawOf v).toNat) = C.toList) : PatAt h a G C :=
  ⟨o, vs, ca, oc, ws, n, ho, h1, h2, h3, h4, h5, h6, hoc, h7, by
    apply Array.toList_inj.mp
    rw [Array.toList_map, Array.toList_map, List.map_map]
    exact h8⟩
theorem g0 (P : Params) : (told P).get? 0 = some (zo0 P) := get_told (by kernel_rfl) (by kernel_rfl) (by kernel_rfl)
theorem g2 (P : Params) : (told P).get? 2 = some (zo2 P) := get_told (by kernel_rfl) (by kernel_rfl) (by kernel_rfl)
theorem g3 (P : Params) : (told P).get? 3 = some (zo3 P) := get_told (by kernel_rfl) (by kernel_rfl) (by kernel_rfl)
theorem g779 (P : Params) : (told P).get? 779 = some (zo779 P) := get_told (by kernel_rfl) (by kernel_rfl) (by kernel_rfl)
theorem m3 (P : Params) : nlk (esOf (zo3 P)).toList "tokenize" = some (.ref 725) := by kernel_rfl
theorem ns3 {P : Params} {h : Heap} (hk : ∀ b o, (told P).get? b = some o → h.get? b = some o) : h.Ns mainGlobals (nlk (esOf (zo3 P)).toList) := ns_of (ep := (match (zo3 P).data with | .dict _ n => n | _ => 0)) (hk _ _ (g3 P)) (by kernel_rfl) (by kernel_rfl)
end Mine
-- B1
set_option maxRecDepth 100000
set_option maxHeartbeats 8000000
set_option linter.unusedVariables false
namespace Mine
open PySem PySem.Calls PyProof.Rows PySem.W

theorem g69 (P : Params) : (told P).get? 69 = some (zo69 P) := get_told (by kernel_rfl) (by kernel_rfl) (by kernel_rfl)
theorem g70 (P : Params) : (told P).get? 70 = some (zo70 P) := get_told (by kernel_rfl) (by kernel_rfl) (by kernel_rfl)
theorem g74 (P : Params) : (told P).get? 74 = some (zo74 P) := get_told (by kernel_rfl) (by kernel_rfl) (by kernel_rfl)
theorem g75 (P : Params) : (told P).get? 75 = some (zo75 P) := get_told (by kernel_rfl) (by kernel_rfl) (by kernel_rfl)
theorem g79 (P : Params) : (told P).get? 79 = some (zo79 P) := get_told (by kernel_rfl) (by kernel_rfl) (by kernel_rfl)
theorem g80 (P : Params) : (told P).get? 80 = some (zo80 P) := get_told (by kernel_rfl) (by kernel_rfl) (by kernel_rfl)
theorem g84 (P : Params) : (told P).get? 84 = some (zo84 P) := get_told (by kernel_rfl) (by kernel_rfl) (by kernel_rfl)
theorem g85 (P : Params) : (told P).get? 85 = some (zo85 P) := get_told (by kernel_rfl) (by kernel_rfl) (by kernel_rfl)
theorem g89 (P : Params) : (told P).get? 89 = some (zo89 P) := get_told (by kernel_rfl) (by kernel_rfl) (by kernel_rfl)
theorem g90 (P : Params) : (told P).get? 90 = some (zo90 P) := get_told (by kernel_rfl) (by kernel_rfl) (by kernel_rfl)
theorem g94 (P : Params) : (told P).get? 94 = some (zo94 P) := get_told (by kernel_rfl) (by kernel_rfl) (by kernel_rfl)
theorem g95 (P : Params) : (told P).get? 95 = some (zo95 P) := get_told (by kernel_rfl) (by kernel_rfl) (by kernel_rfl)
theorem g99 (P : Params) : (told P).get? 99 = some (zo99 P) := get_told (by kernel_rfl) (by kernel_rfl) (by kernel_rfl)
theorem g100 (P : Params) : (told P).get? 100 = some (zo100 P) := get_told (by kernel_rfl) (by kernel_rfl) (by kernel_rfl)
theorem g104 (P : Params) : (told P).get? 104 = some (zo104 P) := get_told (by kernel_rfl) (by kernel_rfl) (by kernel_rfl)
theorem g105 (P : Params) : (told P).get? 105 = some (zo105 P) := get_told (by kernel_rfl) (by kernel_rfl) (by kernel_rfl)
theorem g109 (P : Params) : (told P).get? 109 = some (zo109 P) := get_told (by kernel_rfl) (by kernel_rfl) (by kernel_rfl)
theorem g110 (P : Params) : (told P).get? 110 = some (zo110 P) := get_told (by kernel_rfl) (by kernel_rfl) (by kernel_rfl)
theorem g114 (P : Params) : (told P).get? 114 = some (zo114 P) := get_told (by kernel_rfl) (by kernel_rfl) (by kernel_rfl)
theorem g115 (P : Params) : (told P).get? 115 = some (zo115 P) := get_told (by kernel_rfl) (by kernel_rfl) (by kernel_rfl)
theorem g119 (P : Params) : (told P).get? 119 = some (zo119 P) := get_told (by kernel_rfl) (by kernel_rfl) (by kernel_rfl)
theorem g120 (P : Params) : (told P).get? 120 = some (zo120 P) := get_told (by kernel_rfl) (by kernel_rfl) (by kernel_rfl)
theorem g124 (P : Params) : (told P).get? 124 = some (zo124 P) := get_told (by kernel_rfl) (by kernel_rfl) (by kernel_rfl)
theorem g125 (P : Params) : (told P).get? 125 = some (zo125 P) := get_told (by kernel_rfl) (by kernel_rfl) (by kernel_rfl)
theorem g129 (P : Params) : (told P).get? 129 = some (zo129 P) := get_told (by kernel_rfl) (by kernel_rfl) (by kernel_rfl)
theorem g130 (P : Params) : (told P).get? 130 = some (zo130 P) := get_told (by kernel_rfl) (by kernel_rfl) (by kernel_rfl)
theorem g134 (P : Params) : (told P).get? 134 = some (zo134 P) := get_told (by kernel_rfl) (by kernel_rfl) (by kernel_rfl)
theorem g135 (P : Params) : (told P).get? 135 = some (zo135 P) := get_told (by kernel_rfl) (by kernel_rfl) (by kernel_rfl)
theorem g139 (P : Params) : (told P).get? 139 = some (zo139 P) := get_told (by kernel_rfl) (by kernel_rfl) (by kernel_rfl)
theorem g140 (P : Params) : (told P).get? 140 = some (zo140 P) := get_told (by kernel_rfl) (by kernel_rfl) (by kernel_rfl)
theorem g144 (P : Params) : (told P).get? 144 = some (zo144 P) := get_told (by kernel_rfl) (by kernel_rfl) (by kernel_rfl)
theorem g145 (P : Params) : (told P).get? 145 = some (zo145 P) := get_told (by kernel_rfl) (by kernel_rfl) (by kernel_rfl)
theorem g149 (P : Params) : (told P).get? 149 = some (zo149 P) := get_told (by kernel_rfl) (by kernel_rfl) (by kernel_rfl)
theorem g150 (P : Params) : (told P).get? 150 = some (zo150 P) := get_told (by kernel_rfl) (by kernel_rfl) (by kernel_rfl)
theorem g154 (P : Params) : (told P).get? 154 = some (zo154 P) := get_told (by kernel_rfl) (by kernel_rfl) (by kernel_rfl)
theorem g155 (P : Params) : (told P).get? 155 = some (zo155 P) := get_told (by kernel_rfl) (by kernel_rfl) (by kernel_rfl)
theorem g159 (P : Params) : (told P).get? 159 = some (zo159 P) := get_told (by kernel_rfl) (by kernel_rfl) (by kernel_rfl)
theorem g160 (P : Params) : (told P).get? 160 = some (zo160 P) := get_told (by kernel_rfl) (by kernel_rfl) (by kernel_rfl)
theorem g164 (P : Params) : (told P).get? 164 = some (zo164 P) := get_told (by kernel_rfl) (by kernel_rfl) (by kernel_rfl)
theorem g165 (P : Params) : (told P).get? 165 = some (zo165 P) := get_told (by kernel_rfl) (by kernel_rfl) (by kernel_rfl)
theorem g169 (P : Params) : (told P).get? 169 = some (zo169 P) := get_told (by kernel_rfl) (by kernel_rfl) (by kernel_rfl)
theorem g170 (P : Params) : (told P).get? 170 = some (zo170 P) := get_told (by kernel_rfl) (by kernel_rfl) (by kernel_rfl)
theorem g174 (P : Params) : (told P).get? 174 = some (zo174 P) := get_told (by kernel_rfl) (by kernel_rfl) (by kernel_rfl)
theorem g175 (P : Params) : (told P).get? 175 = some (zo175 P) := get_told (by kernel_rfl) (by kernel_rfl) (by kernel_rfl)
theorem g179 (P : Params) : (told P).get? 179 = some (zo179 P) := get_told (by kernel_rfl) (by kernel_rfl) (by kernel_rfl)
theorem g180 (P : Params) : (told P).get? 180 = some (zo180 P) := get_told (by kernel_rfl) (by kernel_rfl) (by kernel_rfl)
theorem g184 (P : Params) : (told P).get? 184 = some (zo184 P) := get_told (by kernel_rfl) (by kernel_rfl) (by kernel_rfl)
theorem g185 (P : Params) : (told P).get? 185 = some (zo185 P) := get_told (by kernel_rfl) (by kernel_rfl) (by kernel_rfl)
theorem g189 (P : Params) : (told P).get? 189 = some (zo189 P) := get_told (by kernel_rfl) (by kernel_rfl) (by kernel_rfl)
theorem g190 (P : Params) : (told P).get? 190 = some (zo190 P) := get_told (by kernel_rfl) (by kernel_rfl) (by kernel_rfl)
theorem g194 (P : Params) : (told P).get? 194 = some (zo194 P) := get_told (by kernel_rfl) (by kernel_rfl) (by kernel_rfl)
theorem g195 (P : Params) : (told P).get? 195 = some (zo195 P) := get_told (by kernel_rfl) (by kernel_rfl) (by kernel_rfl)
theorem g199 (P : Params) : (told P).get? 199 = some (zo199 P) := get_told (by kernel_rfl) (by kernel_rfl) (by kernel_rfl)
theorem g200 (P : Params) : (told P).get? 200 = some (zo200 P) := get_told (by kernel_rfl) (by kernel_rfl) (by kernel_rfl)
theorem g204 (P : Params) : (told P).get? 204 = some (zo204 P) := get_told (by kernel_rfl) (by kernel_rfl) (by kernel_rfl)
theorem g205 (P : Params) : (told P).get? 205 = some (zo205 P) := get_told (by kernel_rfl) (by kernel_rfl) (by kernel_rfl)
theorem g209 (P : Params) : (told P).get? 209 = some (zo209 P) := get_told (by kernel_rfl) (by kernel_rfl) (by kernel_rfl)
theorem g210 (P : Params) : (told P).get? 210 = some (zo210 P) := get_told (by kernel_rfl) (by kernel_rfl) (by kernel_rfl)
theorem g214 (P : Params) : (told P).get? 214 = some (zo214 P) := get_told (by kernel_rfl) (by kernel_rfl) (by kernel_rfl)
theorem g215 (P : Params) : (told P).get? 215 = some (zo215 P) := get_told (by kernel_rfl) (by kernel_rfl) (by kernel_rfl)
theorem g219 (P : Params) : (told P).get? 219 = some (zo219 P) := get_told (by kernel_rfl) (by kernel_rfl) (by kernel_rfl)
theorem g220 (P : Params) : (told P).get? 220 = some (zo220 P) := get_told (by kernel_rfl) (by kernel_rfl) (by kernel_rfl)
theorem g224 (P : Params) : (told P).get? 224 = some (zo224 P) := get_told (by kernel_rfl) (by kernel_rfl) (by kernel_rfl)
theorem g225 (P : Params) : (told P).get? 225 = some (zo225 P) := get_told (by kernel_rfl) (by kernel_rfl) (by kernel_rfl)
theorem g229 (P : Params) : (told P).get? 229 = some (zo229 P) := get_told (by kernel_rfl) (by kernel_rfl) (by kernel_rfl)
theorem g230 (P : Params) : (told P).get? 230 = some (zo230 P) := get_told (by kernel_rfl) (by kernel_rfl) (by kernel_rfl)
theorem g234 (P : Params) : (told P).get? 234 = some (zo234 P) := get_told (by kernel_rfl) (by kernel_rfl) (by kernel_rfl)
theorem g235 (P : Params) : (told P).get? 235 = some (zo235 P) := get_told (by kernel_rfl) (by kernel_rfl) (by kernel_rfl)
theorem g239 (P : Params) : (told P).get? 239 = some (zo239 P) := get_told (by kernel_rfl) (by kernel_rfl) (by kernel_rfl)
theorem g240 (P : Params) : (told P).get? 240 = some (zo240 P) := get_told (by kernel_rfl) (by kernel_rfl) (by kernel_rfl)
theorem g244 (P : Params) : (told P).get? 244 = some (zo244 P) := get_told (by kernel_rfl) (by kernel_rfl) (by kernel_rfl)
theorem g245 (P : Params) : (told P).get? 245 = some (zo245 P) := get_told (by kernel_rfl) (by kernel_rfl) (by kernel_rfl)
theorem g249 (P : Params) : (told P).get? 249 = some (zo249 P) := get_told (by kernel_rfl) (by kernel_rfl) (by kernel_rfl)
theorem g250 (P : Params) : (told P).get? 250 = some (zo250 P) := get_told (by kernel_rfl) (by kernel_rfl) (by kernel_rfl)
theorem g254 (P : Params) : (told P).get? 254 = some (zo254 P) := get_told (by kernel_rfl) (by kernel_rfl) (by kernel_rfl)
theorem g255 (P : Params) : (told P).get? 255 = some (zo255 P) := get_told (by kernel_rfl) (by kernel_rfl) (by kernel_rfl)
theorem g259 (P : Params) : (told P).get? 259 = some (zo259 P) := get_told (by kernel_rfl) (by kernel_rfl) (by kernel_rfl)
theorem g260 (P : Params) : (told P).get? 260 = some (zo260 P) := get_told (by kernel_rfl) (by kernel_rfl) (by kernel_rfl)
theorem g264 (P : Params) : (told P).get? 264 = some (zo264 P) := get_told (by kernel_rfl) (by kernel_rfl) (by kernel_rfl)
theorem g265 (P : Params) : (told P).get? 265 = some (zo265 P) := get_told (by kernel_rfl) (by kernel_rfl) (by kernel_rfl)
theorem g269 (P : Params) : (told P).get? 269 = some (zo269 P) := get_told (by kernel_rfl) (by kernel_rfl) (by kernel_rfl)
theorem g270 (P : Params) : (told P).get? 270 = some (zo270 P) := get_told (by kernel_rfl) (by kernel_rfl) (by kernel_rfl)
theorem g274 (P : Params) : (told P).get? 274 = some (zo274 P) := get_told (by kernel_rfl) (by kernel_rfl) (by kernel_rfl)
theorem g275 (P : Params) : (told P).get? 275 = some (zo275 P) := get_told (by kernel_rfl) (by kernel_rfl) (by kernel_rfl)
theorem g279 (P : Params) : (told P).get? 279 = some (zo279 P) := get_told (by kernel_rfl) (by kernel_rfl) (by kernel_rfl)
theorem g280 (P : Params) : (told P).get? 280 = some (zo280 P) := get_told (by kernel_rfl) (by kernel_rfl) (by kernel_rfl)
theorem g284 (P : Params) : (told P).get? 284 = some (zo284 P) := get_told (by kernel_rfl) (by kernel_rfl) (by kernel_rfl)
theorem g285 (P : Params) : (told P).get? 285 = some (zo285 P) := get_told (by kernel_rfl) (by kernel_rfl) (by kernel_rfl)
theorem g289 (P : Params) : (told P).get? 289 = some (zo289 P) := get_told (by kernel_rfl) (by kernel_rfl) (by kernel_rfl)
theorem g290 (P : Params) : (told P).get? 290 = some (zo290 P) := get_told (by kernel_rfl) (by kernel_rfl) (by kernel_rfl)
theorem g294 (P : Params) : (told P).get? 294 = some (zo294 P) := get_told (by kernel_rfl) (by kernel_rfl) (by kernel_rfl)
theorem g295 (P : Params) : (told P).get? 295 = some (zo295 P) := get_told (by kernel_rfl) (by kernel_rfl) (by kernel_rfl)
theorem g299 (P : Params) : (told P).get? 299 = some (zo299 P) := get_told (by kernel_rfl) (by kernel_rfl) (by kernel_rfl)
theorem g300 (P : Params) : (told P).get? 300 = some (zo300 P) := get_told (by kernel_rfl) (by kernel_rfl) (by kernel_rfl)
theorem g304 (P : Params) : (told P).get? 304 = some (zo304 P) := get_told (by kernel_rfl) (by kernel_rfl) (by kernel_rfl)
theorem g305 (P : Params) : (told P).get? 305 = some (zo305 P) := get_told (by kernel_rfl) (by kernel_rfl) (by kernel_rfl)
theorem g309 (P : Params) : (told P).get? 309 = some (zo309 P) := get_told (by kernel_rfl) (by kernel_rfl) (by kernel_rfl)
theorem g310 (P : Params) : (told P).get? 310 = some (zo310 P) := get_told (by kernel_rfl) (by kernel_rfl) (by kernel_rfl)
theorem g325 (P : Params) : (told P).get? 325 = some (zo325 P) := get_told (by kernel_rfl) (by kernel_rfl) (by kernel_rfl)
theorem g332 (P : Params) : (told P).get? 332 = some (zo332 P) := get_told (by kernel_rfl) (by kernel_rfl) (by kernel_rfl)
theorem g339 (P : Params) : (told P).get? 339 = some (zo339 P) := get_told (by kernel_rfl) (by kernel_rfl) (by kernel_rfl)
theorem g341 (P : Params) : (told P).get? 341 = some (zo341 P) := get_told (by kernel_rfl) (by kernel_rfl) (by kernel_rfl)
theorem g342 (P : Params) : (told P).get? 342 = some (zo342 P) := get_told (by kernel_rfl) (by kernel_rfl) (by kernel_rfl)
theorem g343 (P : Params) : (told P).get? 343 = some (zo343 P) := get_told (by kernel_rfl) (by kernel_rfl) (by kernel_rfl)
theorem g344 (P : Params) : (told P).get? 344 = some (zo344 P) := get_told (by kernel_rfl) (by kernel_rfl) (by kernel_rfl)
theorem g347 (P : Params) : (told P).get? 347 = some (zo347 P) := get_told (by kernel_rfl) (by kernel_rfl) (by kernel_rfl)
theorem g348 (P : Params) : (told P).get? 348 = some (zo348 P) := get_told (by kernel_rfl) (by kernel_rfl) (by kernel_rfl)
theorem g349 (P : Params) : (told P).get? 349 = some (zo349 P) := get_told (by kernel_rfl) (by kernel_rfl) (by kernel_rfl)
theorem g351 (P : Params) : (told P).get? 351 = some (zo351 P) := get_told (by kernel_rfl) (by kernel_rfl) (by kernel_rfl)
theorem g352 (P : Params) : (told P).get? 352 = some (zo352 P) := get_told (by kernel_rfl) (by kernel_rfl) (by kernel_rfl)
theorem g353 (P : Params) : (told P).get? 353 = some (zo353 P) := get_told (by kernel_rfl) (by kernel_rfl) (by kernel_rfl)
theorem g355 (P : Params) : (told P).get? 355 = some (zo355 P) := get_told (by kernel_rfl) (by kernel_rfl) (by kernel_rfl)
theorem g356 (P : Params) : (told P).get? 356 = some (zo356 P) := get_told (by kernel_rfl) (by kernel_rfl) (by kernel_rfl)
theorem g357 (P : Params) : (told P).get? 357 = some (zo357 P) := get_told (by kernel_rfl) (by kernel_rfl) (by kernel_rfl)
theorem g391 (P : Params) : (told P).get? 391 = some (zo391 P) := get_told (by kernel_rfl) (by kernel_rfl) (by kernel_rfl)
theorem g392 (P : Params) : (told P).get? 392 = some (zo392 P) := get_told (by kernel_rfl) (by kernel_rfl) (by kernel_rfl)
theorem g393 (P : Params) : (told P).get? 393 = some (zo393 P) := get_told (by kernel_rfl) (by kernel_rfl) (by kernel_rfl)
theorem g399 (P : Params) : (told P).get? 399 = some (zo399 P) := get_told (by kernel_rfl) (by kernel_rfl) (by kernel_rfl)
theorem g400 (P : Params) : (told P).get? 400 = some (zo400 P) := get_told (by kernel_rfl) (by kernel_rfl) (by kernel_rfl)
theorem g401 (P : Params) : (told P).get? 401 = some (zo401 P) := get_told (by kernel_rfl) (by kernel_rfl) (by kernel_rfl)
theorem g403 (P : Params) : (told P).get? 403 = some (zo403 P) := get_told (by kernel_rfl) (by kernel_rfl) (by kernel_rfl)
theorem g404 (P : Params) : (told P).get? 404 = some (zo404 P) := get_told (by kernel_rfl) (by kernel_rfl) (by kernel_rfl)
theorem g405 (P : Params) : (told P).get? 405 = some (zo405 P) := get_told (by kernel_rfl) (by kernel_rfl) (by kernel_rfl)
theorem g411 (P : Params) : (told P).get? 411 = some (zo411 P) := get_told (by kernel_rfl) (by kernel_rfl) (by kernel_rfl)
theorem g412 (P : Params) : (told P).get? 412 = some (zo412 P) := get_told (by kernel_rfl) (by kernel_rfl) (by kernel_rfl)
theorem g413 (P : Params) : (told P).get? 413 = some (zo413 P) := get_told (by kernel_rfl) (by kernel_rfl) (by kernel_rfl)
theorem g415 (P : Params) : (told P).get? 415 = some (zo415 P) := get_told (by kernel_rfl) (by kernel_rfl) (by kernel_rfl)
theorem g416 (P : Params) : (told P).get? 416 = some (zo416 P) := get_told (by kernel_rfl) (by kernel_rfl) (by kernel_rfl)
theorem g417 (P : Params) : (told P).get? 417 = some (zo417 P) := get_told (by kernel_rfl) (by kernel_rfl) (by kernel_rfl)
theorem g427 (P : Params) : (told P).get? 427 = some (zo427 P) := get_told (by kernel_rfl) (by kernel_rfl) (by kernel_rfl)
theorem g428 (P : Params) : (told P).get? 428 = some (zo428 P) := get_told (by kernel_rfl) (by kernel_rfl) (by kernel_rfl)
theorem g429 (P : Params) : (told P).get? 429 = some (zo429 P) := get_told (by kernel_rfl) (by kernel_rfl) (by kernel_rfl)
theorem g431 (P : Params) : (told P).get? 431 = some (zo431 P) := get_told (by kernel_rfl) (by kernel_rfl) (by kernel_rfl)
theorem g432 (P : Params) : (told P).get? 432 = some (zo432 P) := get_told (by kernel_rfl) (by kernel_rfl) (by kernel_rfl)
theorem g433 (P : Params) : (told P).get? 433 = some (zo433 P) := get_told (by kernel_rfl) (by kernel_rfl) (by kernel_rfl)
theorem g447 (P : Params) : (told P).get? 447 = some (zo447 P) := get_told (by kernel_rfl) (by kernel_rfl) (by kernel_rfl)
theorem g448 (P : Params) : (told P).get? 448 = some (zo448 P) := get_told (by kernel_rfl) (by kernel_rfl) (by kernel_rfl)
theorem g449 (P : Params) : (told P).get? 449 = some (zo449 P) := get_told (by kernel_rfl) (by kernel_rfl) (by kernel_rfl)
theorem g451 (P : Params) : (told P).get? 451 = some (zo451 P) := get_told (by kernel_rfl) (by kernel_rfl) (by kernel_rfl)
theorem g452 (P : Params) : (told P).get? 452 = some (zo452 P) := get_told (by kernel_rfl) (by kernel_rfl) (by kernel_rfl)
theorem g453 (P : Params) : (told P).get? 453 = some (zo453 P) := get_told (by kernel_rfl) (by kernel_rfl) (by kernel_rfl)
theorem g455 (P : Params) : (told P).get? 455 = some (zo455 P) := get_told (by kernel_rfl) (by kernel_rfl) (by kernel_rfl)
theorem g456 (P : Params) : (told P).get? 456 = some (zo456 P) := get_told (by kernel_rfl) (by kernel_rfl) (by kernel_rfl)
theorem g457 (P : Params) : (told P).get? 457 = some (zo457 P) := get_told (by kernel_rfl) (by kernel_rfl) (by kernel_rfl)
theorem g459 (P : Params) : (told P).get? 459 = some (zo459 P) := get_told (by kernel_rfl) (by kernel_rfl) (by kernel_rfl)
theorem g460 (P : Params) : (told P).get? 460 = some (zo460 P) := get_told (by kernel_rfl) (by kernel_rfl) (by kernel_rfl)
theorem g461 (P : Params) : (told P).get? 461 = some (zo461 P) := get_told (by kernel_rfl) (by kernel_rfl) (by kernel_rfl)
theorem g514 (P : Params) : (told P).get? 514 = some (zo514 P) := get_told (by kernel_rfl) (by kernel_rfl) (by kernel_rfl)
theorem g521 (P : Params) : (told P).get? 521 = some (zo521 P) := get_told (by kernel_rfl) (by kernel_rfl) (by kernel_rfl)
theorem g524 (P : Params) : (told P).get? 524 = some (zo524 P) := get_told (by kernel_rfl) (by kernel_rfl) (by kernel_rfl)
theorem g525 (P : Params) : (told P).get? 525 = some (zo525 P) := get_told (by kernel_rfl) (by kernel_rfl) (by kernel_rfl)
theorem g526 (P : Params) : (told P).get? 526 = some (zo526 P) := get_told (by kernel_rfl) (by kernel_rfl) (by kernel_rfl)
theorem g527 (P : Params) : (told P).get? 527 = some (zo527 P) := get_told (by kernel_rfl) (by kernel_rfl) (by kernel_rfl)
theorem g530 (P : Params) : (told P).get? 530 = some (zo530 P) := get_told (by kernel_rfl) (by kernel_rfl) (by kernel_rfl)
theorem g532 (P : Params) : (told P).get? 532 = some (zo532 P) := get_told (by kernel_rfl) (by kernel_rfl) (by kernel_rfl)
theorem g533 (P : Params) : (told P).get? 533 = some (zo533 P) := get_told (by kernel_rfl) (by kernel_rfl) (by kernel_rfl)
theorem g540 (P : Params) : (told P).get? 540 = some (zo540 P) := get_told (by kernel_rfl) (by kernel_rfl) (by kernel_rfl)
theorem g541 (P : Params) : (told P).get? 541 = some (zo541 P) := get_told (by kernel_rfl) (by kernel_rfl) (by kernel_rfl)
theorem g542 (P : Params) : (told P).get? 542 = some (zo542 P) := get_told (by kernel_rfl) (by kernel_rfl) (by kernel_rfl)
theorem g543 (P : Params) : (told P).get? 543 = some (zo543 P) := get_told (by kernel_rfl) (by kernel_rfl) (by kernel_rfl)
theorem g544 (P : Params) : (told P).get? 544 = some (zo544 P) := get_told (by kernel_rfl) (by kernel_rfl) (by kernel_rfl)
theorem g545 (P : Params) : (told P).get? 545 = some (zo545 P) := get_told (by kernel_rfl) (by kernel_rfl) (by kernel_rfl)
theorem g546 (P : Params) : (told P).get? 546 = some (zo546 P) := get_told (by kernel_rfl) (by kernel_rfl) (by kernel_rfl)
theorem g547 (P : Params) : (told P).get? 547 = some (zo547 P) := get_told (by kernel_rfl) (by kernel_rfl) (by kernel_rfl)
theorem g548 (P : Params) : (told P).get? 548 = some (zo548 P) := get_told (by kernel_rfl) (by kernel_rfl) (by kernel_rfl)
theorem g549 (P : Params) : (told P).get? 549 = some (zo549 P) := get_told (by kernel_rfl) (by kernel_rfl) (by kernel_rfl)
theorem g550 (P : Params) : (told P).get? 550 = some (zo550 P) := get_told (by kernel_rfl) (by kernel_rfl) (by kernel_rfl)
theorem g551 (P : Params) : (told P).get? 551 = some (zo551 P) := get_told (by kernel_rfl) (by kernel_rfl) (by kernel_rfl)
theorem g552 (P : Params) : (told P).get? 552 = some (zo552 P) := get_told (by kernel_rfl) (by kernel_rfl) (by kernel_rfl)
theorem g553 (P : Params) : (told P).get? 553 = some (zo553 P) := get_told (by kernel_rfl) (by kernel_rfl) (by kernel_rfl)
theorem g554 (P : Params) : (told P).get? 554 = some (zo554 P) := get_told (by kernel_rfl) (by kernel_rfl) (by kernel_rfl)
theorem g555 (P : Params) : (told P).get? 555 = some (zo555 P) := get_told (by kernel_rfl) (by kernel_rfl) (by kernel_rfl)
theorem g556 (P : Params) : (told P).get? 556 = some (zo556 P) := get_told (by kernel_rfl) (by kernel_rfl) (by kernel_rfl)
theorem g557 (P : Params) : (told P).get? 557 = some (zo557 P) := get_told (by kernel_rfl) (by kernel_rfl) (by kernel_rfl)
theorem g558 (P : Params) : (told P).get? 558 = some (zo558 P) := get_told (by kernel_rfl) (by kernel_rfl) (by kernel_rfl)
theorem g559 (P : Params) : (told P).get? 559 = some (zo559 P) := get_told (by kernel_rfl) (by kernel_rfl) (by kernel_rfl)
theorem g560 (P : Params) : (told P).get? 560 = some (zo560 P) := get_told (by kernel_rfl) (by kernel_rfl) (by kernel_rfl)
theorem g561 (P : Params) : (told P).get? 561 = some (zo561 P) := get_told (by kernel_rfl) (by kernel_rfl) (by kernel_rfl)
theorem g562 (P : Params) : (told P).get? 562 = some (zo562 P) := get_told (by kernel_rfl) (by kernel_rfl) (by kernel_rfl)
theorem g563 (P : Params) : (told P).get? 563 = some (zo563 P) := get_told (by kernel_rfl) (by kernel_rfl) (by kernel_rfl)
theorem g564 (P : Params) : (told P).get? 564 = some (zo564 P) := get_told (by kernel_rfl) (by kernel_rfl) (by kernel_rfl)
theorem g565 (P : Params) : (told P).get? 565 = some (zo565 P) := get_told (by kernel_rfl) (by kernel_rfl) (by kernel_rfl)
theorem g566 (P : Params) : (told P).get? 566 = some (zo566 P) := get_told (by kernel_rfl) (by kernel_rfl) (by kernel_rfl)
theorem g567 (P : Params) : (told P).get? 567 = some (zo567 P) := get_told (by kernel_rfl) (by kernel_rfl) (by kernel_rfl)
theorem g568 (P : Params) : (told P).get? 568 = some (zo568 P) := get_told (by kernel_rfl) (by kernel_rfl) (by kernel_rfl)
theorem g569 (P : Params) : (told P).get? 569 = some (zo569 P) := get_told (by kernel_rfl) (by kernel_rfl) (by kernel_rfl)
theorem g570 (P : Params) : (told P).get? 570 = some (zo570 P) := get_told (by kernel_rfl) (by kernel_rfl) (by kernel_rfl)
theorem g571 (P : Params) : (told P).get? 571 = some (zo571 P) := get_told (by kernel_rfl) (by kernel_rfl) (by kernel_rfl)
theorem g572 (P : Params) : (told P).get? 572 = some (zo572 P) := get_told (by kernel_rfl) (by kernel_rfl) (by kernel_rfl)
theorem g573 (P : Params) : (told P).get? 573 = some (zo573 P) := get_told (by kernel_rfl) (by kernel_rfl) (by kernel_rfl)
theorem g574 (P : Params) : (told P).get? 574 = some (zo574 P) := get_told (by kernel_rfl) (by kernel_rfl) (by kernel_rfl)
theorem g575 (P : Params) : (told P).get? 575 = some (zo575 P) := get_told (by kernel_rfl) (by kernel_rfl) (by kernel_rfl)
theorem g576 (P : Params) : (told P).get? 576 = some (zo576 P) := get_told (by kernel_rfl) (by kernel_rfl) (by kernel_rfl)
theorem g577 (P : Params) : (told P).get? 577 = some (zo577 P) := get_told (by kernel_rfl) (by kernel_rfl) (by kernel_rfl)
theorem g578 (P : Params) : (told P).get? 578 = some (zo578 P) := get_told (by kernel_rfl) (by kernel_rfl) (by kernel_rfl)
theorem g579 (P : Params) : (told P).get? 579 = some (zo579 P) := get_told (by kernel_rfl) (by kernel_rfl) (by kernel_rfl)
theorem g580 (P : Params) : (told P).get? 580 = some (zo580 P) := get_told (by kernel_rfl) (by kernel_rfl) (by kernel_rfl)
theorem g581 (P : Params) : (told P).get? 581 = some (zo581 P) := get_told (by kernel_rfl) (by kernel_rfl) (by kernel_rfl)
theorem g582 (P : Params) : (told P).get? 582 = some (zo582 P) := get_told (by kernel_rfl) (by kernel_rfl) (by kernel_rfl)
theorem g583 (P : Params) : (told P).get? 583 = some (zo583 P) := get_told (by kernel_rfl) (by kernel_rfl) (by kernel_rfl)
theorem g584 (P : Params) : (told P).get? 584 = some (zo584 P) := get_told (by kernel_rfl) (by kernel_rfl) (by kernel_rfl)
theorem g585 (P : Params) : (told P).get? 585 = some (zo585 P) := get_told (by kernel_rfl) (by kernel_rfl) (by kernel_rfl)
theorem g586 (P : Params) : (told P).get? 586 = some (zo586 P) := get_told (by kernel_rfl) (by kernel_rfl) (by kernel_rfl)
theorem g587 (P : Params) : (told P).get? 587 = some (zo587 P) := get_told (by kernel_rfl) (by kernel_rfl) (by kernel_rfl)
theorem g588 (P : Params) : (told P).get? 588 = some (zo588 P) := get_told (by kernel_rfl) (by kernel_rfl) (by kernel_rfl)
theorem g589 (P : Params) : (told P).get? 589 = some (zo589 P) := get_told (by kernel_rfl) (by kernel_rfl) (by kernel_rfl)
theorem g590 (P : Params) : (told P).get? 590 = some (zo590 P) := get_told (by kernel_rfl) (by kernel_rfl) (by kernel_rfl)
theorem g591 (P : Params) : (told P).get? 591 = some (zo591 P) := get_told (by kernel_rfl) (by kernel_rfl) (by kernel_rfl)
theorem g592 (P : Params) : (told P).get? 592 = some (zo592 P) := get_told (by kernel_rfl) (by kernel_rfl) (by kernel_rfl)
theorem g597 (P : Params) : (told P).get? 597 = some (zo597 P) := get_told (by kernel_rfl) (by kernel_rfl) (by kernel_rfl)
theorem g605 (P : Params) : (told P).get? 605 = some (zo605 P) := get_told (by kernel_rfl) (by kernel_rfl) (by kernel_rfl)
theorem g606 (P : Params) : (told P).get? 606 = some (zo606 P) := get_told (by kernel_rfl) (by kernel_rfl) (by kernel_rfl)
theorem g612 (P : Params) : (told P).get? 612 = some (zo612 P) := get_told (by kernel_rfl) (by kernel_rfl) (by kernel_rfl)
theorem g613 (P : Params) : (told P).get? 613 = some (zo613 P) := get_told (by kernel_rfl) (by kernel_rfl) (by kernel_rfl)
theorem g627 (P : Params) : (told P).get? 627 = some (zo627 P) := get_told (by kernel_rfl) (by kernel_rfl) (by kernel_rfl)
theorem g628 (P : Params) : (told P).get? 628 = some (zo628 P) := get_told (by kernel_rfl) (by kernel_rfl) (by kernel_rfl)
theorem g634 (P : Params) : (told P).get? 634 = some (zo634 P) := get_told (by kernel_rfl) (by kernel_rfl) (by kernel_rfl)
theorem g635 (P : Params) : (told P).get? 635 = some (zo635 P) := get_told (by kernel_rfl) (by kernel_rfl) (by kernel_rfl)
theorem g641 (P : Params) : (told P).get? 641 = some (zo641 P) := get_told (by kernel_rfl) (by kernel_rfl) (by kernel_rfl)
theorem g642 (P : Params) : (told P).get? 642 = some (zo642 P) := get_told (by kernel_rfl) (by kernel_rfl) (by kernel_rfl)
theorem g645 (P : Params) : (told P).get? 645 = some (zo645 P) := get_told (by kernel_rfl) (by kernel_rfl) (by kernel_rfl)
theorem g646 (P : Params) : (told P).get? 646 = some (zo646 P) := get_told (by kernel_rfl) (by kernel_rfl) (by kernel_rfl)
theorem g647 (P : Params) : (told P).get? 647 = some (zo647 P) := get_told (by kernel_rfl) (by kernel_rfl) (by kernel_rfl)
theorem g648 (P : Params) : (told P).get? 648 = some (zo648 P) := get_told (by kernel_rfl) (by kernel_rfl) (by kernel_rfl)
theorem g649 (P : Params) : (told P).get? 649 = some (zo649 P) := get_told (by kernel_rfl) (by kernel_rfl) (by kernel_rfl)
theorem g650 (P : Params) : (told P).get? 650 = some (zo650 P) := get_told (by kernel_rfl) (by kernel_rfl) (by kernel_rfl)
theorem g651 (P : Params) : (told P).get? 651 = some (zo651 P) := get_told (by kernel_rfl) (by kernel_rfl) (by kernel_rfl)
theorem g659 (P : Params) : (told P).get? 659 = some (zo659 P) := get_told (by kernel_rfl) (by kernel_rfl) (by kernel_rfl)
theorem g660 (P : Params) : (told P).get? 660 = some (zo660 P) := get_told (by kernel_rfl) (by kernel_rfl) (by kernel_rfl)
theorem g673 (P : Params) : (told P).get? 673 = some (zo673 P) := get_told (by kernel_rfl) (by kernel_rfl) (by kernel_rfl)
theorem g674 (P : Params) : (told P).get? 674 = some (zo674 P) := get_told (by kernel_rfl) (by kernel_rfl) (by kernel_rfl)
theorem g680 (P : Params) : (told P).get? 680 = some (zo680 P) := get_told (by kernel_rfl) (by kernel_rfl) (by kernel_rfl)
theorem g681 (P : Params) : (told P).get? 681 = some (zo681 P) := get_told (by kernel_rfl) (by kernel_rfl) (by kernel_rfl)
theorem g687 (P : Params) : (told P).get? 687 = some (zo687 P) := get_told (by kernel_rfl) (by kernel_rfl) (by kernel_rfl)
theorem g688 (P : Params) : (told P).get? 688 = some (zo688 P) := get_told (by kernel_rfl) (by kernel_rfl) (by kernel_rfl)
theorem g694 (P : Params) : (told P).get? 694 = some (zo694 P) := get_told (by kernel_rfl) (by kernel_rfl) (by kernel_rfl)
theorem g695 (P : Params) : (told P).get? 695 = some (zo695 P) := get_told (by kernel_rfl) (by kernel_rfl) (by kernel_rfl)
theorem g701 (P : Params) : (told P).get? 701 = some (zo701 P) := get_told (by kernel_rfl) (by kernel_rfl) (by kernel_rfl)
theorem g702 (P : Params) : (told P).get? 702 = some (zo702 P) := get_told (by kernel_rfl) (by kernel_rfl) (by kernel_rfl)
theorem g703 (P : Params) : (told P).get? 703 = some (zo703 P) := get_told (by kernel_rfl) (by kernel_rfl) (by kernel_rfl)
theorem g709 (P : Params) : (told P).get? 709 = some (zo709 P) := get_told (by kernel_rfl) (by kernel_rfl) (by kernel_rfl)
theorem g710 (P : Params) : (told P).get? 710 = some (zo710 P) := get_told (by kernel_rfl) (by kernel_rfl) (by kernel_rfl)
theorem g712 (P : Params) : (told P).get? 712 = some (zo712 P) := get_told (by kernel_rfl) (by kernel_rfl) (by kernel_rfl)
theorem g713 (P : Params) : (told P).get? 713 = some (zo713 P) := get_told (by kernel_rfl) (by kernel_rfl) (by kernel_rfl)
theorem g714 (P : Params) : (told P).get? 714 = some (zo714 P) := get_told (by kernel_rfl) (by kernel_rfl) (by kernel_rfl)
theorem g715 (P : Params) : (told P).get? 715 = some (zo715 P) := get_told (by kernel_rfl) (by kernel_rfl) (by kernel_rfl)
theorem g718 (P : Params) : (told P).get? 718 = some (zo718 P) := get_told (by kernel_rfl) (by kernel_rfl) (by kernel_rfl)
theorem g724 (P : Params) : (told P).get? 724 = some (zo724 P) := get_told (by kernel_rfl) (by kernel_rfl) (by kernel_rfl)
theorem g725 (P : Params) : (told P).get? 725 = some (zo725 P) := get_told (by kernel_rfl) (by kernel_rfl) (by kernel_rfl)
theorem g731 (P : Params) : (told P).get? 731 = some (zo731 P) := get_told (by kernel_rfl) (by kernel_rfl) (by kernel_rfl)
theorem g732 (P : Params) : (told P).get? 732 = some (zo732 P) := get_told (by kernel_rfl) (by kernel_rfl) (by kernel_rfl)
theorem g738 (P : Params) : (told P).get? 738 = some (zo738 P) := get_told (by kernel_rfl) (by kernel_rfl) (by kernel_rfl)
theorem g739 (P : Params) : (told P).get? 739 = some (zo739 P) := get_told (by kernel_rfl) (by kernel_rfl) (by kernel_rfl)
theorem g745 (P : Params) : (told P).get? 745 = some (zo745 P) := get_told (by kernel_rfl) (by kernel_rfl) (by kernel_rfl)
theorem g746 (P : Params) : (told P).get? 746 = some (zo746 P) := get_told (by kernel_rfl) (by kernel_rfl) (by kernel_rfl)
theorem g752 (P : Params) : (told P).get? 752 = some (zo752 P) := get_told (by kernel_rfl) (by kernel_rfl) (by kernel_rfl)
theorem g753 (P : Params) : (told P).get? 753 = some (zo753 P) := get_told (by kernel_rfl) (by kernel_rfl) (by kernel_rfl)
theorem g759 (P : Params) : (told P).get? 759 = some (zo759 P) := get_told (by kernel_rfl) (by kernel_rfl) (by kernel_rfl)
theorem g760 (P : Params) : (told P).get? 760 = some (zo760 P) := get_told (by kernel_rfl) (by kernel_rfl) (by kernel_rfl)
theorem g766 (P : Params) : (told P).get? 766 = some (zo766 P) := get_told (by kernel_rfl) (by kernel_rfl) (by kernel_rfl)
theorem g767 (P : Params) : (told P).get? 767 = some (zo767 P) := get_told (by kernel_rfl) (by kernel_rfl) (by kernel_rfl)
theorem g773 (P : Params) : (told P).get? 773 = some (zo773 P) := get_told (by kernel_rfl) (by kernel_rfl) (by kernel_rfl)
theorem g774 (P : Params) : (told P).get? 774 = some (zo774 P) := get_told (by kernel_rfl) (by kernel_rfl) (by kernel_rfl)
noncomputable def KF (P : Params) : Frag := [(342, zo342 P), (341, zo341 P), (343, zo343 P), (344, zo344 P), (325, zo325 P), (332, zo332 P), (339, zo339 P), (525, zo525 P), (524, zo524 P), (526, zo526 P), (527, zo527 P), (514, zo514 P), (521, zo521 P), (646, zo646 P), (645, zo645 P), (647, zo647 P), (648, zo648 P), (649, zo649 P), (650, zo650 P), (651, zo651 P), (628, zo628 P), (635, zo635 P), (642, zo642 P), (713, zo713 P), (712, zo712 P), (714, zo714 P), (715, zo715 P), (674, zo674 P), (681, zo681 P), (688, zo688 P), (695, zo695 P), (702, zo702 P), (710, zo710 P)]
theorem kf_in (P : Params) : (KF P).In (told P) := Frag.in_of (as := [342, 341, 343, 344, 325, 332, 339, 525, 524, 526, 527, 514, 521, 646, 645, 647, 648, 649, 650, 651, 628, 635, 642, 713, 712, 714, 715, 674, 681, 688, 695, 702, 710]) (by kernel_rfl) (by kernel_rfl)
def JF : Isl := { C := 646, fI := 628, fT := 635, fN := 642, pi := 648, pn := 649, ps := 651, pt := 650, pc := 647, ii := 1, jn := 2, js := 4, jt := 3, jc := 0 }
def ttF : Kd → Addr
  | .hint => 413
  | .com => 417
  | .ws => 353
  | .nl => 349
  | .wild => 461
  | .key => 429
  | .name => 433
  | .flo => 405
  | .int => 401
  | .err => 357
  | .str => 393
  | .pun => 449
  | .op => 457
  | .cmp => 453
def NF : Nam := { C := 713, lx := 0, pt := 591, kl := 0, kc := 597, kw := 592, ns := 533, od := 530, CT := 342, fk := 702, tt := ttF }
inductive Rows2 (h : Heap) (tt : Kd → Addr) : List Value → List Pt → Prop
  | nil : Rows2 h tt [] []
  | cons {a pa : Addr} {q : PV} {v2 : Value} {n' : Nat} {x : Pt} {l : List Value} {ps : List Pt} (h1 : h.get? a = some { cls := .type "tuple", data := .seq #[.ref pa, v2] n' }) (h2 : Is h v2 q) (h3 : PatAt h pa x.G x.C) (h4 : q.flat = true) (h5 : ActOk tt x.act q) (t : Rows2 h tt l ps) : Rows2 h tt (.ref a :: l) (x :: ps)
theorem Rows2.get {h : Heap} {tt : Kd → Addr} : ∀ {l : List Value} {ps : List Pt}, Rows2 h tt l ps → ∀ (j : Nat) (x : Pt), ps[j]? = some x → ∃ (a pa : Addr) (q : PV) (v2 : Value) (n' : Nat), l[j]? = some (.ref a) ∧ h.get? a = some { cls := .type "tuple", data := .seq #[.ref pa, v2] n' } ∧ Is h v2 q ∧ PatAt h pa x.G x.C ∧ q.flat = true ∧ ActOk tt x.act q
  | _, _, .nil, j, x, e => by cases e
  | _, _, .cons (a := a) (pa := pa) (q := q) (v2 := v2) (n' := n') h1 h2 h3 h4 h5 t, 0, x, e => by cases e; exact ⟨a, pa, q, v2, n', rfl, h1, h2, h3, h4, h5⟩
  | _, _, .cons h1 h2 h3 h4 h5 t, j + 1, x, e => t.get j x e
theorem act_some {tt : Kd → Addr} {k : Kd} {q : PV} (h : q = .obj (.ref (tt k))) : ActOk tt (some k) q := ⟨fun k' e _ => (by cases e; exact h), fun e => by cases e⟩
theorem act_err {tt : Kd → Addr} {q : PV} : ActOk tt (some .err) q := ⟨fun k' e hne => (by cases e; exact absurd rfl hne), fun e => by cases e⟩
theorem act_none {tt : Kd → Addr} : ActOk tt none (.str "PROCESS_AS_KEYWORD") := ⟨fun k e => (by cases e), fun _ => rfl⟩
section
variable {P : Params} {h : Heap} (hk : ∀ b o, (told P).get? b = some o → h.get? b = some o)
include hk
theorem ns0 : h.Ns builtinsNs (nlk (esOf (zo0 P)).toList) := ns_of (ep := (match (zo0 P).data with | .dict _ n => n | _ => 0)) (hk _ _ (g0 P)) (by kernel_rfl) (by kernel_rfl)
theorem ns2 : h.Ns cStatics (nlk (esOf (zo2 P)).toList) := ns_of (ep := (match (zo2 P).data with | .dict _ n => n | _ => 0)) (hk _ _ (g2 P)) (by kernel_rfl) (by kernel_rfl)
theorem limF : h.NoLimit := ⟨_, ns2 hk, by kernel_rfl⟩

theorem gb_len : GlobalIs h "len" (.builtin "len") := gl_bi (ns3 hk) (ns0 hk) (by kernel_rfl) (by kernel_rfl)
theorem gb_abs : GlobalIs h "abs" (.builtin "abs") := gl_bi (ns3 hk) (ns0 hk) (by kernel_rfl) (by kernel_rfl)
theorem gb_isinstance : GlobalIs h "isinstance" (.builtin "isinstance") := gl_bi (ns3 hk) (ns0 hk) (by kernel_rfl) (by kernel_rfl)
theorem gb_iter : GlobalIs h "iter" (.builtin "iter") := gl_bi (ns3 hk) (ns0 hk) (by kernel_rfl) (by kernel_rfl)
theorem gb_next : GlobalIs h "next" (.builtin "next") := gl_bi (ns3 hk) (ns0 hk) (by kernel_rfl) (by kernel_rfl)
theorem gb_list : GlobalIs h "list" (.type "list") := gl_bi (ns3 hk) (ns0 hk) (by kernel_rfl) (by kernel_rfl)
theorem gb_int : GlobalIs h "int" (.type "int") := gl_bi (ns3 hk) (ns0 hk) (by kernel_rfl) (by kernel_rfl)
theorem gb_range : GlobalIs h "range" (.type "range") := gl_bi (ns3 hk) (ns0 hk) (by kernel_rfl) (by kernel_rfl)
theorem gb_type : GlobalIs h "type" (.type "type") := gl_bi (ns3 hk) (ns0 hk) (by kernel_rfl) (by kernel_rfl)
theorem gb_str : GlobalIs h "str" (.type "str") := gl_bi (ns3 hk) (ns0 hk) (by kernel_rfl) (by kernel_rfl)
theorem gb_enumerate : GlobalIs h "enumerate" (.type "enumerate") := gl_bi (ns3 hk) (ns0 hk) (by kernel_rfl) (by kernel_rfl)
theorem gb_StopIteration : GlobalIs h "StopIteration" (.type "StopIteration") := gl_bi (ns3 hk) (ns0 hk) (by kernel_rfl) (by kernel_rfl)
theorem gb_BaseException : GlobalIs h "BaseException" (.type "BaseException") := gl_bi (ns3 hk) (ns0 hk) (by kernel_rfl) (by kernel_rfl)
theorem gm_deque : GlobalIs h "deque" (.type "collections.deque") := gl_main (ns3 hk) (by kernel_rfl)
theorem gm__law_number : GlobalIs h "_law_number" (.ref 732) := gl_main (ns3 hk) (by kernel_rfl)
theorem gm__law_run : GlobalIs h "_law_run" (.ref 739) := gl_main (ns3 hk) (by kernel_rfl)
theorem gm__law_figures : GlobalIs h "_law_figures" (.ref 746) := gl_main (ns3 hk) (by kernel_rfl)
theorem gm__law_float : GlobalIs h "_law_float" (.ref 753) := gl_main (ns3 hk) (by kernel_rfl)
theorem gm__law_string : GlobalIs h "_law_string" (.ref 760) := gl_main (ns3 hk) (by kernel_rfl)
theorem gm__law_word : GlobalIs h "_law_word" (.ref 767) := gl_main (ns3 hk) (by kernel_rfl)
theorem gm__law_token : GlobalIs h "_law_token" (.ref 774) := gl_main (ns3 hk) (by kernel_rfl)
theorem gm__is_int : GlobalIs h "_is_int" (.ref 606) := gl_main (ns3 hk) (by kernel_rfl)
theorem gm__whole : GlobalIs h "_whole" (.ref 613) := gl_main (ns3 hk) (by kernel_rfl)
theorem gm_consume : GlobalIs h "consume" (.ref 660) := gl_main (ns3 hk) (by kernel_rfl)
theorem gm_tokenize : GlobalIs h "tokenize" (.ref 725) := gl_main (ns3 hk) (by kernel_rfl)
theorem gm_find_delimited_spans : GlobalIs h "find_delimited_spans" (.ref 541) := gl_main (ns3 hk) (by kernel_rfl)
theorem gm_islice : GlobalIs h "islice" (.ref 646) := gl_main (ns3 hk) (by kernel_rfl)
theorem gm_Lexer : GlobalIs h "Lexer" (.ref 713) := gl_main (ns3 hk) (by kernel_rfl)
theorem gm__NO_SPANS : GlobalIs h "_NO_SPANS" (.ref 533) := gl_main (ns3 hk) (by kernel_rfl)
theorem gm_SQL_REGEX : GlobalIs h "SQL_REGEX" (.ref 591) := gl_main (ns3 hk) (by kernel_rfl)
theorem gm_KEYWORDS : GlobalIs h "KEYWORDS" (.ref 592) := gl_main (ns3 hk) (by kernel_rfl)
theorem gm_KEYWORDS_COMMON : GlobalIs h "KEYWORDS_COMMON" (.ref 597) := gl_main (ns3 hk) (by kernel_rfl)
theorem gm__TokenType : GlobalIs h "_TokenType" (.ref 342) := gl_main (ns3 hk) (by kernel_rfl)
theorem gm_Name : GlobalIs h "Name" (.ref 433) := gl_main (ns3 hk) (by kernel_rfl)
theorem gm_Error : GlobalIs h "Error" (.ref 357) := gl_main (ns3 hk) (by kernel_rfl)
theorem gm_PROCESS_AS_KEYWORD : GlobalIs h "PROCESS_AS_KEYWORD" (.str "PROCESS_AS_KEYWORD" 6231) := gl_main (ns3 hk) (by kernel_rfl)
theorem has_num : Has h "_law_number" numA numB numS := has_of (gm__law_number hk) (hk _ _ (g732 P)) rfl (hk _ _ (g731 P)) rfl rfl
theorem has_run : Has h "_law_run" runA runB runS := has_of (gm__law_run hk) (hk _ _ (g739 P)) rfl (hk _ _ (g738 P)) rfl rfl
theorem has_fig : Has h "_law_figures" figA figB figS := has_of (gm__law_figures hk) (hk _ _ (g746 P)) rfl (hk _ _ (g745 P)) rfl rfl
theorem has_flo : Has h "_law_float" floA floB floS := has_of (gm__law_float hk) (hk _ _ (g753 P)) rfl (hk _ _ (g752 P)) rfl rfl
theorem has_stg : Has h "_law_string" stgA stgB stgS := has_of (gm__law_string hk) (hk _ _ (g760 P)) rfl (hk _ _ (g759 P)) rfl rfl
theorem has_wrd : Has h "_law_word" wrdA wrdB wrdS := has_of (gm__law_word hk) (hk _ _ (g767 P)) rfl (hk _ _ (g766 P)) rfl rfl
theorem has_tok : Has h "_law_token" tokA tokB tokS := has_of (gm__law_token hk) (hk _ _ (g774 P)) rfl (hk _ _ (g773 P)) rfl rfl
theorem has_isi : Has h "_is_int" isiA isiB isiS := has_of (gm__is_int hk) (hk _ _ (g606 P)) rfl (hk _ _ (g605 P)) rfl rfl
theorem has_who : Has h "_whole" whoA whoB whoS := has_of (gm__whole hk) (hk _ _ (g613 P)) rfl (hk _ _ (g612 P)) rfl rfl
theorem has_fds : Has h "find_delimited_spans" fdsA fdsB fdsS := has_of (gm_find_delimited_spans hk) (hk _ _ (g541 P)) rfl (hk _ _ (g540 P)) rfl rfl
theorem fn_660 : FnAt h 660 "consume" "consume" conA conB conS (.none) .none (.ref 659) := fn_of (hk _ _ (g660 P)) rfl rfl (hk _ _ (g659 P)) rfl rfl
theorem fn_725 : FnAt h 725 "tokenize" "tokenize" tkA tkB tkS (.ref 718) .none (.ref 724) := fn_of (hk _ _ (g725 P)) rfl rfl (hk _ _ (g724 P)) rfl rfl
theorem fn_628 : FnAt h 628 "__init__" "islice.__init__" iniA iniB iniS (.none) .none (.ref 627) := fn_of (hk _ _ (g628 P)) rfl rfl (hk _ _ (g627 P)) rfl rfl
theorem fn_635 : FnAt h 635 "__iter__" "islice.__iter__" itrA itrB itrS (.none) .none (.ref 634) := fn_of (hk _ _ (g635 P)) rfl rfl (hk _ _ (g634 P)) rfl rfl
theorem fn_642 : FnAt h 642 "__next__" "islice.__next__" nxtA nxtB nxtS (.none) .none (.ref 641) := fn_of (hk _ _ (g642 P)) rfl rfl (hk _ _ (g641 P)) rfl rfl
theorem fn_674 : FnAt h 674 "default_initialization" "Lexer.default_initialization" diA diB diS (.none) .none (.ref 673) := fn_of (hk _ _ (g674 P)) rfl rfl (hk _ _ (g673 P)) rfl rfl
theorem fn_681 : FnAt h 681 "clear" "Lexer.clear" clA clB clS (.none) .none (.ref 680) := fn_of (hk _ _ (g681 P)) rfl rfl (hk _ _ (g680 P)) rfl rfl
theorem fn_688 : FnAt h 688 "set_SQL_REGEX" "Lexer.set_SQL_REGEX" seA seB seS (.none) .none (.ref 687) := fn_of (hk _ _ (g688 P)) rfl rfl (hk _ _ (g687 P)) rfl rfl
theorem fn_695 : FnAt h 695 "add_keywords" "Lexer.add_keywords" adA adB adS (.none) .none (.ref 694) := fn_of (hk _ _ (g695 P)) rfl rfl (hk _ _ (g694 P)) rfl rfl
theorem fn_702 : FnAt h 702 "is_keyword" "Lexer.is_keyword" iskA iskB iskS (.none) .none (.ref 701) := fn_of (hk _ _ (g702 P)) rfl rfl (hk _ _ (g701 P)) rfl rfl
theorem fn_710 : FnAt h 710 "get_tokens" "Lexer.get_tokens" gtA gtB gtS (.ref 703) .none (.ref 709) := fn_of (hk _ _ (g710 P)) rfl rfl (hk _ _ (g709 P)) rfl rfl
theorem kfh : (KF P).In h := (kf_in P).keeps hk
omit hk in
theorem pc646 : PlainCls (KF P) 646 := ({ ga := by kernel_rfl, gt := by kernel_rfl, sa := by kernel_rfl, over := by kernel_rfl } : PlainCls (KF P) 646)
omit hk in
theorem pc525 : PlainCls (KF P) 525 := ({ ga := by kernel_rfl, gt := by kernel_rfl, sa := by kernel_rfl, over := by kernel_rfl } : PlainCls (KF P) 525)
omit hk in
theorem pc713 : PlainCls (KF P) 713 := ({ ga := by kernel_rfl, gt := by kernel_rfl, sa := by kernel_rfl, over := by kernel_rfl } : PlainCls (KF P) 713)
omit hk in
theorem pc342 : PlainCls (KF P) 342 := ({ ga := by kernel_rfl, gt := by kernel_rfl, sa := by kernel_rfl, over := by kernel_rfl } : PlainCls (KF P) 342)
omit hk in
theorem islOk : IslOk (KF P) JF := { cls := pc646, oi := { slot := by kernel_rfl, lt := by decide, find := by kernel_rfl, taker := by kernel_rfl, typ := by kernel_rfl }, on := { slot := by kernel_rfl, lt := by decide, find := by kernel_rfl, taker := by kernel_rfl, typ := by kernel_rfl }, os := { slot := by kernel_rfl, lt := by decide, find := by kernel_rfl, taker := by kernel_rfl, typ := by kernel_rfl }, ot := { slot := by kernel_rfl, lt := by decide, find := by kernel_rfl, taker := by kernel_rfl, typ := by kernel_rfl }, oc := { slot := by kernel_rfl, lt := by decide, find := by kernel_rfl, taker := by kernel_rfl, typ := by kernel_rfl }, nd := by decide }
theorem conF : ConBase h (KF P) JF :=
  { inn := kfh hk, ok := islOk, lim := limF hk, next := gb_next hk, stop := gb_StopIteration hk, base := gb_BaseException hk, nxt := ⟨_, fn_642 hk⟩, typ := gb_type hk, int := gb_int hk, isi := has_isi hk, who := has_who hk
    len := gb_len hk, iter := gb_iter hk, ini := ⟨_, fn_628 hk⟩, mnext := by kernel_rfl, mnextF := by kernel_rfl, makes := by kernel_rfl, keep := by kernel_rfl, init := by kernel_rfl, initF := by kernel_rfl, itr := by kernel_rfl, itrF := by kernel_rfl
    itrAt := ⟨_, fn_635 hk⟩, deque := gm_deque hk, islice := gm_islice hk, con := ⟨660, _, gm_consume hk, fn_660 hk⟩ }
theorem lcF : LexCls h (KF P) 713 :=
  { inn := kfh hk, lim := limF hk, pc := pc713, makes := by kernel_rfl, keep := by kernel_rfl, init := by kernel_rfl, hasd := by kernel_rfl, t1 := by kernel_rfl, t2 := by kernel_rfl, f1 := by kernel_rfl, f2 := by kernel_rfl }
theorem diF : DiBase h (KF P) 713 591 597 592 :=
  { cls := lcF hk, clr := ⟨681, ⟨by kernel_rfl, by kernel_rfl, by kernel_rfl, _, fn_681 hk⟩⟩, set := ⟨688, ⟨by kernel_rfl, by kernel_rfl, by kernel_rfl, _, fn_688 hk⟩⟩, add := ⟨695, ⟨by kernel_rfl, by kernel_rfl, by kernel_rfl, _, fn_695 hk⟩⟩
    gpt := gm_SQL_REGEX hk, gkc := gm_KEYWORDS_COMMON hk, gkw := gm_KEYWORDS hk }
theorem b2F : Base2 h :=
  { lim := limF hk, len := gb_len hk, list := gb_list hk, run := has_run hk, fig := has_fig hk, flo := has_flo hk, stg := has_stg hk, wrd := has_wrd hk, tok := has_tok hk, num := has_num hk, abs := gb_abs hk, int := gb_int hk, range := gb_range hk }

theorem pat_70 : PatAt h 70 2 rx6 := pat_of (hk _ _ (g70 P)) rfl rfl rfl rfl rfl rfl (hk _ _ (g69 P)) rfl (by kernel_rfl)
theorem pat_75 : PatAt h 75 2 rx7 := pat_of (hk _ _ (g75 P)) rfl rfl rfl rfl rfl rfl (hk _ _ (g74 P)) rfl (by kernel_rfl)
theorem pat_80 : PatAt h 80 1 rx8 := pat_of (hk _ _ (g80 P)) rfl rfl rfl rfl rfl rfl (hk _ _ (g79 P)) rfl (by kernel_rfl)
theorem pat_85 : PatAt h 85 0 rx9 := pat_of (hk _ _ (g85 P)) rfl rfl rfl rfl rfl rfl (hk _ _ (g84 P)) rfl (by kernel_rfl)
theorem pat_90 : PatAt h 90 0 rx10 := pat_of (hk _ _ (g90 P)) rfl rfl rfl rfl rfl rfl (hk _ _ (g89 P)) rfl (by kernel_rfl)
theorem pat_95 : PatAt h 95 0 rx11 := pat_of (hk _ _ (g95 P)) rfl rfl rfl rfl rfl rfl (hk _ _ (g94 P)) rfl (by kernel_rfl)
theorem pat_100 : PatAt h 100 0 rx12 := pat_of (hk _ _ (g100 P)) rfl rfl rfl rfl rfl rfl (hk _ _ (g99 P)) rfl (by kernel_rfl)
theorem pat_105 : PatAt h 105 1 rx13 := pat_of (hk _ _ (g105 P)) rfl rfl rfl rfl rfl rfl (hk _ _ (g104 P)) rfl (by kernel_rfl)
theorem pat_110 : PatAt h 110 1 rx14 := pat_of (hk _ _ (g110 P)) rfl rfl rfl rfl rfl rfl (hk _ _ (g109 P)) rfl (by kernel_rfl)
theorem pat_115 : PatAt h 115 0 rx15 := pat_of (hk _ _ (g115 P)) rfl rfl rfl rfl rfl rfl (hk _ _ (g114 P)) rfl (by kernel_rfl)
theorem pat_120 : PatAt h 120 1 rx16 := pat_of (hk _ _ (g120 P)) rfl rfl rfl rfl rfl rfl (hk _ _ (g119 P)) rfl (by kernel_rfl)
theorem pat_125 : PatAt h 125 0 rx17 := pat_of (hk _ _ (g125 P)) rfl rfl rfl rfl rfl rfl (hk _ _ (g124 P)) rfl (by kernel_rfl)
theorem pat_130 : PatAt h 130 0 rx18 := pat_of (hk _ _ (g130 P)) rfl rfl rfl rfl rfl rfl (hk _ _ (g129 P)) rfl (by kernel_rfl)
theorem pat_135 : PatAt h 135 1 rx19 := pat_of (hk _ _ (g135 P)) rfl rfl rfl rfl rfl rfl (hk _ _ (g134 P)) rfl (by kernel_rfl)
theorem pat_140 : PatAt h 140 1 rx20 := pat_of (hk _ _ (g140 P)) rfl rfl rfl rfl rfl rfl (hk _ _ (g139 P)) rfl (by kernel_rfl)
theorem pat_145 : PatAt h 145 0 rx21 := pat_of (hk _ _ (g145 P)) rfl rfl rfl rfl rfl rfl (hk _ _ (g144 P)) rfl (by kernel_rfl)
theorem pat_150 : PatAt h 150 0 rx22 := pat_of (hk _ _ (g150 P)) rfl rfl rfl rfl rfl rfl (hk _ _ (g149 P)) rfl (by kernel_rfl)
theorem pat_155 : PatAt h 155 0 rx23 := pat_of (hk _ _ (g155 P)) rfl rfl rfl rfl rfl rfl (hk _ _ (g154 P)) rfl (by kernel_rfl)
theorem pat_160 : PatAt h 160 0 rx24 := pat_of (hk _ _ (g160 P)) rfl rfl rfl rfl rfl rfl (hk _ _ (g159 P)) rfl (by kernel_rfl)
theorem pat_165 : PatAt h 165 1 rx25 := pat_of (hk _ _ (g165 P)) rfl rfl rfl rfl rfl rfl (hk _ _ (g164 P)) rfl (by kernel_rfl)
theorem pat_170 : PatAt h 170 2 rx26 := pat_of (hk _ _ (g170 P)) rfl rfl rfl rfl rfl rfl (hk _ _ (g169 P)) rfl (by kernel_rfl)
theorem pat_175 : PatAt h 175 0 rx27 := pat_of (hk _ _ (g175 P)) rfl rfl rfl rfl rfl rfl (hk _ _ (g174 P)) rfl (by kernel_rfl)
theorem pat_180 : PatAt h 180 1 rx28 := pat_of (hk _ _ (g180 P)) rfl rfl rfl rfl rfl rfl (hk _ _ (g179 P)) rfl (by kernel_rfl)
theorem pat_185 : PatAt h 185 1 rx29 := pat_of (hk _ _ (g185 P)) rfl rfl rfl rfl rfl rfl (hk _ _ (g184 P)) rfl (by kernel_rfl)
theorem pat_190 : PatAt h 190 1 rx30 := pat_of (hk _ _ (g190 P)) rfl rfl rfl rfl rfl rfl (hk _ _ (g189 P)) rfl (by kernel_rfl)
theorem pat_195 : PatAt h 195 1 rx31 := pat_of (hk _ _ (g195 P)) rfl rfl rfl rfl rfl rfl (hk _ _ (g194 P)) rfl (by kernel_rfl)
theorem pat_200 : PatAt h 200 4 rx32 := pat_of (hk _ _ (g200 P)) rfl rfl rfl rfl rfl rfl (hk _ _ (g199 P)) rfl (by kernel_rfl)
theorem pat_205 : PatAt h 205 1 rx33 := pat_of (hk _ _ (g205 P)) rfl rfl rfl rfl rfl rfl (hk _ _ (g204 P)) rfl (by kernel_rfl)
theorem pat_210 : PatAt h 210 1 rx34 := pat_of (hk _ _ (g210 P)) rfl rfl rfl rfl rfl rfl (hk _ _ (g209 P)) rfl (by kernel_rfl)
theorem pat_215 : PatAt h 215 0 rx35 := pat_of (hk _ _ (g215 P)) rfl rfl rfl rfl rfl rfl (hk _ _ (g214 P)) rfl (by kernel_rfl)
theorem pat_220 : PatAt h 220 3 rx36 := pat_of (hk _ _ (g220 P)) rfl rfl rfl rfl rfl rfl (hk _ _ (g219 P)) rfl (by kernel_rfl)
theorem pat_225 : PatAt h 225 1 rx37 := pat_of (hk _ _ (g225 P)) rfl rfl rfl rfl rfl rfl (hk _ _ (g224 P)) rfl (by kernel_rfl)
theorem pat_230 : PatAt h 230 1 rx38 := pat_of (hk _ _ (g230 P)) rfl rfl rfl rfl rfl rfl (hk _ _ (g229 P)) rfl (by kernel_rfl)
theorem pat_235 : PatAt h 235 0 rx39 := pat_of (hk _ _ (g235 P)) rfl rfl rfl rfl rfl rfl (hk _ _ (g234 P)) rfl (by kernel_rfl)
theorem pat_240 : PatAt h 240 1 rx40 := pat_of (hk _ _ (g240 P)) rfl rfl rfl rfl rfl rfl (hk _ _ (g239 P)) rfl (by kernel_rfl)
theorem pat_245 : PatAt h 245 0 rx41 := pat_of (hk _ _ (g245 P)) rfl rfl rfl rfl rfl rfl (hk _ _ (g244 P)) rfl (by kernel_rfl)
theorem pat_250 : PatAt h 250 0 rx42 := pat_of (hk _ _ (g250 P)) rfl rfl rfl rfl rfl rfl (hk _ _ (g249 P)) rfl (by kernel_rfl)
theorem pat_255 : PatAt h 255 0 rx43 := pat_of (hk _ _ (g255 P)) rfl rfl rfl rfl rfl rfl (hk _ _ (g254 P)) rfl (by kernel_rfl)
theorem pat_260 : PatAt h 260 0 rx44 := pat_of (hk _ _ (g260 P)) rfl rfl rfl rfl rfl rfl (hk _ _ (g259 P)) rfl (by kernel_rfl)
theorem pat_265 : PatAt h 265 0 rx45 := pat_of (hk _ _ (g265 P)) rfl rfl rfl rfl rfl rfl (hk _ _ (g264 P)) rfl (by kernel_rfl)
theorem pat_270 : PatAt h 270 1 rx46 := pat_of (hk _ _ (g270 P)) rfl rfl rfl rfl rfl rfl (hk _ _ (g269 P)) rfl (by kernel_rfl)
theorem pat_275 : PatAt h 275 1 rx47 := pat_of (hk _ _ (g275 P)) rfl rfl rfl rfl rfl rfl (hk _ _ (g274 P)) rfl (by kernel_rfl)
theorem pat_280 : PatAt h 280 2 rx48 := pat_of (hk _ _ (g280 P)) rfl rfl rfl rfl rfl rfl (hk _ _ (g279 P)) rfl (by kernel_rfl)
theorem pat_285 : PatAt h 285 4 rx49 := pat_of (hk _ _ (g285 P)) rfl rfl rfl rfl rfl rfl (hk _ _ (g284 P)) rfl (by kernel_rfl)
theorem pat_290 : PatAt h 290 0 rx50 := pat_of (hk _ _ (g290 P)) rfl rfl rfl rfl rfl rfl (hk _ _ (g289 P)) rfl (by kernel_rfl)
theorem pat_295 : PatAt h 295 0 rx51 := pat_of (hk _ _ (g295 P)) rfl rfl rfl rfl rfl rfl (hk _ _ (g294 P)) rfl (by kernel_rfl)
theorem pat_300 : PatAt h 300 1 rx52 := pat_of (hk _ _ (g300 P)) rfl rfl rfl rfl rfl rfl (hk _ _ (g299 P)) rfl (by kernel_rfl)
theorem pat_305 : PatAt h 305 0 rx53 := pat_of (hk _ _ (g305 P)) rfl rfl rfl rfl rfl rfl (hk _ _ (g304 P)) rfl (by kernel_rfl)
theorem pat_310 : PatAt h 310 0 rx54 := pat_of (hk _ _ (g310 P)) rfl rfl rfl rfl rfl rfl (hk _ _ (g309 P)) rfl (by kernel_rfl)
theorem rowsF : Rows2 h ttF ([.ref 542, .ref 543, .ref 544, .ref 545, .ref 546, .ref 547, .ref 548, .ref 549, .ref 550, .ref 551, .ref 552, .ref 553, .ref 554, .ref 555, .ref 556, .ref 557, .ref 558, .ref 559, .ref 560, .ref 561, .ref 562, .ref 563, .ref 564, .ref 565, .ref 566, .ref 567, .ref 568, .ref 569, .ref 570, .ref 571, .ref 572, .ref 573, .ref 574, .ref 575, .ref 576, .ref 577, .ref 578, .ref 579, .ref 580, .ref 581, .ref 582, .ref 583, .ref 584, .ref 585, .ref 586, .ref 587, .ref 588, .ref 589, .ref 590] : List Value) pts := (.cons (hk _ _ (g542 P)) (.obj _) (pat_70 hk) rfl (act_some rfl) (.cons (hk _ _ (g543 P)) (.obj _) (pat_75 hk) rfl (act_some rfl) (.cons (hk _ _ (g544 P)) (.obj _) (pat_80 hk) rfl (act_some rfl) (.cons (hk _ _ (g545 P)) (.obj _) (pat_85 hk) rfl (act_some rfl) (.cons (hk _ _ (g546 P)) (.obj _) (pat_90 hk) rfl act_err (.cons (hk _ _ (g547 P)) (.obj _) (pat_95 hk) rfl act_err (.cons (hk _ _ (g548 P)) (.obj _) (pat_100 hk) rfl (act_some rfl) (.cons (hk _ _ (g549 P)) (.obj _) (pat_105 hk) rfl act_err (.cons (hk _ _ (g550 P)) (.obj _) (pat_110 hk) rfl act_err (.cons (hk _ _ (g551 P)) (.obj _) (pat_115 hk) rfl act_err (.cons (hk _ _ (g552 P)) (.obj _) (pat_120 hk) rfl act_err (.cons (hk _ _ (g553 P)) (.obj _) (pat_125 hk) rfl act_err (.cons (hk _ _ (g554 P)) (.obj _) (pat_130 hk) rfl act_err (.cons (hk _ _ (g555 P)) (.obj _) (pat_135 hk) rfl (act_some rfl) (.cons (hk _ _ (g556 P)) (.obj _) (pat_140 hk) rfl act_err (.cons (hk _ _ (g557 P)) (.obj _) (pat_145 hk) rfl (act_some rfl) (.cons (hk _ _ (g558 P)) (.obj _) (pat_150 hk) rfl (act_some rfl) (.cons (hk _ _ (g559 P)) (.obj _) (pat_155 hk) rfl (act_some rfl) (.cons (hk _ _ (g560 P)) (.obj _) (pat_160 hk) rfl act_err (.cons (hk _ _ (g561 P)) (.obj _) (pat_165 hk) rfl (act_some rfl) (.cons (hk _ _ (g562 P)) (.obj _) (pat_170 hk) rfl (act_some rfl) (.cons (hk _ _ (g563 P)) (.obj _) (pat_175 hk) rfl (act_some rfl) (.cons (hk _ _ (g564 P)) (.obj _) (pat_180 hk) rfl (act_some rfl) (.cons (hk _ _ (g565 P)) (.obj _) (pat_185 hk) rfl act_err (.cons (hk _ _ (g566 P)) (.obj _) (pat_190 hk) rfl act_err (.cons (hk _ _ (g567 P)) (.obj _) (pat_195 hk) rfl act_err (.cons (hk _ _ (g568 P)) (.obj _) (pat_200 hk) rfl act_err (.cons (hk _ _ (g569 P)) (.obj _) (pat_205 hk) rfl act_err (.cons (hk _ _ (g570 P)) (.obj _) (pat_210 hk) rfl act_err (.cons (hk _ _ (g571 P)) (.obj _) (pat_215 hk) rfl act_err (.cons (hk _ _ (g572 P)) (.obj _) (pat_220 hk) rfl act_err (.cons (hk _ _ (g573 P)) (.obj _) (pat_225 hk) rfl act_err (.cons (hk _ _ (g574 P)) (.obj _) (pat_230 hk) rfl act_err (.cons (hk _ _ (g575 P)) (.obj _) (pat_235 hk) rfl act_err (.cons (hk _ _ (g576 P)) (.obj _) (pat_240 hk) rfl act_err (.cons (hk _ _ (g577 P)) (.obj _) (pat_245 hk) rfl act_err (.cons (hk _ _ (g578 P)) (.obj _) (pat_250 hk) rfl act_err (.cons (hk _ _ (g579 P)) (.obj _) (pat_255 hk) rfl act_err (.cons (hk _ _ (g580 P)) (.obj _) (pat_260 hk) rfl act_err (.cons (hk _ _ (g581 P)) (.obj _) (pat_265 hk) rfl act_err (.cons (hk _ _ (g582 P)) (.obj _) (pat_270 hk) rfl act_err (.cons (hk _ _ (g583 P)) (.obj _) (pat_275 hk) rfl act_err (.cons (hk _ _ (g584 P)) (.obj _) (pat_280 hk) rfl act_err (.cons (hk _ _ (g585 P)) (.obj _) (pat_285 hk) rfl act_err (.cons (hk _ _ (g586 P)) (.str _ _) (pat_290 hk) rfl act_none (.cons (hk _ _ (g587 P)) (.obj _) (pat_295 hk) rfl (act_some rfl) (.cons (hk _ _ (g588 P)) (.obj _) (pat_300 hk) rfl (act_some rfl) (.cons (hk _ _ (g589 P)) (.obj _) (pat_305 hk) rfl (act_some rfl) (.cons (hk _ _ (g590 P)) (.obj _) (pat_310 hk) rfl (act_some rfl) .nil)))))))))))))))))))))))))))))))))))))))))))))))))
theorem mapOf_str {prog : Program} {w : World} {a : Addr} {o : Obj} {es : Array DictEntry} {ep : Nat} (ho : h.get? a = some o) (hx : o.ExactDict) (hd : o.data = .dict es ep) (hs : ∀ e ∈ es.toList, ∃ k t, e.key = .str k t ∧ e.hash = hashStr w k) {ks : List Str} (hks : es.toList.map (fun e => (match e.key with | .str k _ => k | _ => ""  : Str)) = ks) :
    ∃ f, h.MapOf (strKind prog w) a f ∧ (∀ k, (f k).isSome = true → k ∈ ks) ∧ ∀ k v, (es.toList.find? (fun e => Value.isStrOf k e.key)).map (·.val) = some v → f k = some v := by
  refine ⟨fun k => findBy (strKind prog w).is es k, ⟨o, es, ep, ho, hx, hd, fun e he => ?_, fun _ => rfl⟩, fun k hf => ?_, fun k v e => ?_⟩
  · obtain ⟨k, t, e1, e2⟩ := hs e (Array.mem_toList_iff.mpr he)
    exact ⟨k, by rw [e1]; exact strKind_is _ _ _ _, e2⟩
  · unfold findBy at hf
    rw [Option.isSome_map, ← Array.find?_toList] at hf
    obtain ⟨e, he⟩ := Option.isSome_iff_exists.mp hf
    have hm := List.mem_of_find?_eq_some he
    have hp := List.find?_some he
    obtain ⟨k', t, e1, e2⟩ := hs e hm
    rw [e1] at hp
    have hkk : k = k' := (PySem.strKind prog w).inj (.str k' t) k k' hp (strKind_is _ _ _ _)
    rw [← hks]
    refine List.mem_map.mpr ⟨e, hm, ?_⟩
    rw [e1]; exact hkk.symm
  · show findBy _ _ _ = _
    unfold findBy
    rw [← Array.find?_toList]; exact e
end

theorem fm_nil {p : DictEntry → Prop} : ∀ e ∈ ([] : List DictEntry), p e := fun _ h => nomatch h
section
variable {w : World} {h : Heap} (hk : ∀ b o, (told w.params).get? b = some o → h.get? b = some o)
include hk
theorem kcM {prog : Program} : ∃ f, h.MapOf (strKind prog w) 597 f ∧ (∀ k, (f k).isSome = true → k ∈ kcKeys) ∧ ∀ k v, ((esOf (zo597 w.params)).toList.find? (fun e => Value.isStrOf k e.key)).map (·.val) = some v → f k = some v :=
  mapOf_str (P := w.params) hk (es := esOf (zo597 w.params)) (ep := (match (zo597 w.params).data with | .dict _ n => n | _ => 0)) (hk _ _ (g597 w.params)) ⟨rfl, rfl, rfl⟩ (by kernel_rfl) (List.forall_mem_cons.mpr ⟨⟨_, _, rfl, rfl⟩, (List.forall_mem_cons.mpr ⟨⟨_, _, rfl, rfl⟩, (List.forall_mem_cons.mpr ⟨⟨_, _, rfl, rfl⟩, (List.forall_mem_cons.mpr ⟨⟨_, _, rfl, rfl⟩, (List.forall_mem_cons.mpr ⟨⟨_, _, rfl, rfl⟩, (List.forall_mem_cons.mpr ⟨⟨_, _, rfl, rfl⟩, (List.forall_mem_cons.mpr ⟨⟨_, _, rfl, rfl⟩, (List.forall_mem_cons.mpr ⟨⟨_, _, rfl, rfl⟩, (List.forall_mem_cons.mpr ⟨⟨_, _, rfl, rfl⟩, (List.forall_mem_cons.mpr ⟨⟨_, _, rfl, rfl⟩, (List.forall_mem_cons.mpr ⟨⟨_, _, rfl, rfl⟩, (List.forall_mem_cons.mpr ⟨⟨_, _, rfl, rfl⟩, (List.forall_mem_cons.mpr ⟨⟨_, _, rfl, rfl⟩, (List.forall_mem_cons.mpr ⟨⟨_, _, rfl, rfl⟩, (List.forall_mem_cons.mpr ⟨⟨_, _, rfl, rfl⟩, (List.forall_mem_cons.mpr ⟨⟨_, _, rfl, rfl⟩, (List.forall_mem_cons.mpr ⟨⟨_, _, rfl, rfl⟩, (List.forall_mem_cons.mpr ⟨⟨_, _, rfl, rfl⟩, (List.forall_mem_cons.mpr ⟨⟨_, _, rfl, rfl⟩, (List.forall_mem_cons.mpr ⟨⟨_, _, rfl, rfl⟩, (List.forall_mem_cons.mpr ⟨⟨_, _, rfl, rfl⟩, (List.forall_mem_cons.mpr ⟨⟨_, _, rfl, rfl⟩, (List.forall_mem_cons.mpr ⟨⟨_, _, rfl, rfl⟩, (List.forall_mem_cons.mpr ⟨⟨_, _, rfl, rfl⟩, (List.forall_mem_cons.mpr ⟨⟨_, _, rfl, rfl⟩, (List.forall_mem_cons.mpr ⟨⟨_, _, rfl, rfl⟩, (List.forall_mem_cons.mpr ⟨⟨_, _, rfl, rfl⟩, (List.forall_mem_cons.mpr ⟨⟨_, _, rfl, rfl⟩, (List.forall_mem_cons.mpr ⟨⟨_, _, rfl, rfl⟩, (List.forall_mem_cons.mpr ⟨⟨_, _, rfl, rfl⟩, (List.forall_mem_cons.mpr ⟨⟨_, _, rfl, rfl⟩, (List.forall_mem_cons.mpr ⟨⟨_, _, rfl, rfl⟩, (List.forall_mem_cons.mpr ⟨⟨_, _, rfl, rfl⟩, (List.forall_mem_cons.mpr ⟨⟨_, _, rfl, rfl⟩, (List.forall_mem_cons.mpr ⟨⟨_, _, rfl, rfl⟩, (List.forall_mem_cons.mpr ⟨⟨_, _, rfl, rfl⟩, (List.forall_mem_cons.mpr ⟨⟨_, _, rfl, rfl⟩, (List.forall_mem_cons.mpr ⟨⟨_, _, rfl, rfl⟩, (List.forall_mem_cons.mpr ⟨⟨_, _, rfl, rfl⟩, (List.forall_mem_cons.mpr ⟨⟨_, _, rfl, rfl⟩, (List.forall_mem_cons.mpr ⟨⟨_, _, rfl, rfl⟩, (List.forall_mem_cons.mpr ⟨⟨_, _, rfl, rfl⟩, (List.forall_mem_cons.mpr ⟨⟨_, _, rfl, rfl⟩, fm_nil⟩)⟩)⟩)⟩)⟩)⟩)⟩)⟩)⟩)⟩)⟩)⟩)⟩)⟩)⟩)⟩)⟩)⟩)⟩)⟩)⟩)⟩)⟩)⟩)⟩)⟩)⟩)⟩)⟩)⟩)⟩)⟩)⟩)⟩)⟩)⟩)⟩)⟩)⟩)⟩)⟩)⟩)⟩) (by kernel_rfl)
theorem kwM {prog : Program} : ∃ f, h.MapOf (strKind prog w) 592 f ∧ (∀ k, (f k).isSome = true → k ∈ kwKeys) ∧ ∀ k v, ((esOf (zo592 w.params)).toList.find? (fun e => Value.isStrOf k e.key)).map (·.val) = some v → f k = some v :=
  mapOf_str (P := w.params) hk (es := esOf (zo592 w.params)) (ep := (match (zo592 w.params).data with | .dict _ n => n | _ => 0)) (hk _ _ (g592 w.params)) ⟨rfl, rfl, rfl⟩ (by kernel_rfl) (List.forall_mem_cons.mpr ⟨⟨_, _, rfl, rfl⟩, (List.forall_mem_cons.mpr ⟨⟨_, _, rfl, rfl⟩, (List.forall_mem_cons.mpr ⟨⟨_, _, rfl, rfl⟩, (List.forall_mem_cons.mpr ⟨⟨_, _, rfl, rfl⟩, (List.forall_mem_cons.mpr ⟨⟨_, _, rfl, rfl⟩, (List.forall_mem_cons.mpr ⟨⟨_, _, rfl, rfl⟩, (List.forall_mem_cons.mpr ⟨⟨_, _, rfl, rfl⟩, (List.forall_mem_cons.mpr ⟨⟨_, _, rfl, rfl⟩, (List.forall_mem_cons.mpr ⟨⟨_, _, rfl, rfl⟩, (List.forall_mem_cons.mpr ⟨⟨_, _, rfl, rfl⟩, (List.forall_mem_cons.mpr ⟨⟨_, _, rfl, rfl⟩, (List.forall_mem_cons.mpr ⟨⟨_, _, rfl, rfl⟩, (List.forall_mem_cons.mpr ⟨⟨_, _, rfl, rfl⟩, (List.forall_mem_cons.mpr ⟨⟨_, _, rfl, rfl⟩, (List.forall_mem_cons.mpr ⟨⟨_, _, rfl, rfl⟩, (List.forall_mem_cons.mpr ⟨⟨_, _, rfl, rfl⟩, (List.forall_mem_cons.mpr ⟨⟨_, _, rfl, rfl⟩, (List.forall_mem_cons.mpr ⟨⟨_, _, rfl, rfl⟩, (List.forall_mem_cons.mpr ⟨⟨_, _, rfl, rfl⟩, (List.forall_mem_cons.mpr ⟨⟨_, _, rfl, rfl⟩, (List.forall_mem_cons.mpr ⟨⟨_, _, rfl, rfl⟩, (List.forall_mem_cons.mpr ⟨⟨_, _, rfl, rfl⟩, (List.forall_mem_cons.mpr ⟨⟨_, _, rfl, rfl⟩, (List.forall_mem_cons.mpr ⟨⟨_, _, rfl, rfl⟩, (List.forall_mem_cons.mpr ⟨⟨_, _, rfl, rfl⟩, (List.forall_mem_cons.mpr ⟨⟨_, _, rfl, rfl⟩, (List.forall_mem_cons.mpr ⟨⟨_, _, rfl, rfl⟩, (List.forall_mem_cons.mpr ⟨⟨_, _, rfl, rfl⟩, (List.forall_mem_cons.mpr ⟨⟨_, _, rfl, rfl⟩, (List.forall_mem_cons.mpr ⟨⟨_, _, rfl, rfl⟩, (List.forall_mem_cons.mpr ⟨⟨_, _, rfl, rfl⟩, (List.forall_mem_cons.mpr ⟨⟨_, _, rfl, rfl⟩, (List.forall_mem_cons.mpr ⟨⟨_, _, rfl, rfl⟩, (List.forall_mem_cons.mpr ⟨⟨_, _, rfl, rfl⟩, (List.forall_mem_cons.mpr ⟨⟨_, _, rfl, rfl⟩, (List.forall_mem_cons.mpr ⟨⟨_, _, rfl, rfl⟩, (List.forall_mem_cons.mpr ⟨⟨_, _, rfl, rfl⟩, (List.forall_mem_cons.mpr ⟨⟨_, _, rfl, rfl⟩, (List.forall_mem_cons.mpr ⟨⟨_, _, rfl, rfl⟩, (List.forall_mem_cons.mpr ⟨⟨_, _, rfl, rfl⟩, (List.forall_mem_cons.mpr ⟨⟨_, _, rfl, rfl⟩, (List.forall_mem_cons.mpr ⟨⟨_, _, rfl, rfl⟩, (List.forall_mem_cons.mpr ⟨⟨_, _, rfl, rfl⟩, (List.forall_mem_cons.mpr ⟨⟨_, _, rfl, rfl⟩, (List.forall_mem_cons.mpr ⟨⟨_, _, rfl, rfl⟩, (List.forall_mem_cons.mpr ⟨⟨_, _, rfl, rfl⟩, (List.forall_mem_cons.mpr ⟨⟨_, _, rfl, rfl⟩, (List.forall_mem_cons.mpr ⟨⟨_, _, rfl, rfl⟩, (List.forall_mem_cons.mpr ⟨⟨_, _, rfl, rfl⟩, (List.forall_mem_cons.mpr ⟨⟨_, _, rfl, rfl⟩, (List.forall_mem_cons.mpr ⟨⟨_, _, rfl, rfl⟩, (List.forall_mem_cons.mpr ⟨⟨_, _, rfl, rfl⟩, (List.forall_mem_cons.mpr ⟨⟨_, _, rfl, rfl⟩, (List.forall_mem_cons.mpr ⟨⟨_, _, rfl, rfl⟩, (List.forall_mem_cons.mpr ⟨⟨_, _, rfl, rfl⟩, (List.forall_mem_cons.mpr ⟨⟨_, _, rfl, rfl⟩, (List.forall_mem_cons.mpr ⟨⟨_, _, rfl, rfl⟩, (List.forall_mem_cons.mpr ⟨⟨_, _, rfl, rfl⟩, (List.forall_mem_cons.mpr ⟨⟨_, _, rfl, rfl⟩, (List.forall_mem_cons.mpr ⟨⟨_, _, rfl, rfl⟩, (List.forall_mem_cons.mpr ⟨⟨_, _, rfl, rfl⟩, (List.forall_mem_cons.mpr ⟨⟨_, _, rfl, rfl⟩, (List.forall_mem_cons.mpr ⟨⟨_, _, rfl, rfl⟩, (List.forall_mem_cons.mpr ⟨⟨_, _, rfl, rfl⟩, (List.forall_mem_cons.mpr ⟨⟨_, _, rfl, rfl⟩, (List.forall_mem_cons.mpr ⟨⟨_, _, rfl, rfl⟩, (List.forall_mem_cons.mpr ⟨⟨_, _, rfl, rfl⟩, (List.forall_mem_cons.mpr ⟨⟨_, _, rfl, rfl⟩, (List.forall_mem_cons.mpr ⟨⟨_, _, rfl, rfl⟩, (List.forall_mem_cons.mpr ⟨⟨_, _, rfl, rfl⟩, (List.forall_mem_cons.mpr ⟨⟨_, _, rfl, rfl⟩, (List.forall_mem_cons.mpr ⟨⟨_, _, rfl, rfl⟩, (List.forall_mem_cons.mpr ⟨⟨_, _, rfl, rfl⟩, (List.forall_mem_cons.mpr ⟨⟨_, _, rfl, rfl⟩, (List.forall_mem_cons.mpr ⟨⟨_, _, rfl, rfl⟩, (List.forall_mem_cons.mpr ⟨⟨_, _, rfl, rfl⟩, (List.forall_mem_cons.mpr ⟨⟨_, _, rfl, rfl⟩, (List.forall_mem_cons.mpr ⟨⟨_, _, rfl, rfl⟩, (List.forall_mem_cons.mpr ⟨⟨_, _, rfl, rfl⟩, (List.forall_mem_cons.mpr ⟨⟨_, _, rfl, rfl⟩, (List.forall_mem_cons.mpr ⟨⟨_, _, rfl, rfl⟩, (List.forall_mem_cons.mpr ⟨⟨_, _, rfl, rfl⟩, (List.forall_mem_cons.mpr ⟨⟨_, _, rfl, rfl⟩, fm_nil⟩)⟩)⟩)⟩)⟩)⟩)⟩)⟩)⟩)⟩)⟩)⟩)⟩)⟩)⟩)⟩)⟩)⟩)⟩)⟩)⟩)⟩)⟩)⟩)⟩)⟩)⟩)⟩)⟩)⟩)⟩)⟩)⟩)⟩)⟩)⟩)⟩)⟩)⟩)⟩)⟩)⟩)⟩)⟩)⟩)⟩)⟩)⟩)⟩)⟩)⟩)⟩)⟩)⟩)⟩)⟩)⟩)⟩)⟩)⟩)⟩)⟩)⟩)⟩)⟩)⟩)⟩)⟩)⟩)⟩)⟩)⟩)⟩)⟩)⟩)⟩)⟩)⟩)⟩)⟩)⟩)⟩)⟩) (by kernel_rfl)
theorem odF {prog : Program} : h.MapOf (intKind prog w) 530 (fun _ => none) := ⟨_, #[], _, hk _ _ (g530 w.params), ⟨rfl, rfl, rfl⟩, rfl, fun e he => by simp at he, fun _ => rfl⟩

theorem path_hint : ∃ ox od v, InstAt h 413 ox 342 (some od) ∧ findObj (KF w.params) 342 (some od) "path" = some (.value v) ∧ handedIn v = true ∧ Is h v (Kd.pv .hint) :=
  ⟨zo413 w.params, zo412 w.params, .ref 411, ⟨hk _ _ (g413 w.params), rfl, rfl, hk _ _ (g412 w.params)⟩, by kernel_rfl, rfl, Is.tup (n := 0) (hk _ _ (g411 w.params)) (.cons (.str _ _) (.cons (.str _ _) (.cons (.str _ _) (.nil))))⟩
theorem path_com : ∃ ox od v, InstAt h 417 ox 342 (some od) ∧ findObj (KF w.params) 342 (some od) "path" = some (.value v) ∧ handedIn v = true ∧ Is h v (Kd.pv .com) :=
  ⟨zo417 w.params, zo416 w.params, .ref 415, ⟨hk _ _ (g417 w.params), rfl, rfl, hk _ _ (g416 w.params)⟩, by kernel_rfl, rfl, Is.tup (n := 0) (hk _ _ (g415 w.params)) (.cons (.str _ _) (.cons (.str _ _) (.nil)))⟩
theorem path_ws : ∃ ox od v, InstAt h 353 ox 342 (some od) ∧ findObj (KF w.params) 342 (some od) "path" = some (.value v) ∧ handedIn v = true ∧ Is h v (Kd.pv .ws) :=
  ⟨zo353 w.params, zo352 w.params, .ref 351, ⟨hk _ _ (g353 w.params), rfl, rfl, hk _ _ (g352 w.params)⟩, by kernel_rfl, rfl, Is.tup (n := 0) (hk _ _ (g351 w.params)) (.cons (.str _ _) (.cons (.str _ _) (.nil)))⟩
theorem path_nl : ∃ ox od v, InstAt h 349 ox 342 (some od) ∧ findObj (KF w.params) 342 (some od) "path" = some (.value v) ∧ handedIn v = true ∧ Is h v (Kd.pv .nl) :=
  ⟨zo349 w.params, zo348 w.params, .ref 347, ⟨hk _ _ (g349 w.params), rfl, rfl, hk _ _ (g348 w.params)⟩, by kernel_rfl, rfl, Is.tup (n := 0) (hk _ _ (g347 w.params)) (.cons (.str _ _) (.cons (.str _ _) (.cons (.str _ _) (.nil))))⟩
theorem path_wild : ∃ ox od v, InstAt h 461 ox 342 (some od) ∧ findObj (KF w.params) 342 (some od) "path" = some (.value v) ∧ handedIn v = true ∧ Is h v (Kd.pv .wild) :=
  ⟨zo461 w.params, zo460 w.params, .ref 459, ⟨hk _ _ (g461 w.params), rfl, rfl, hk _ _ (g460 w.params)⟩, by kernel_rfl, rfl, Is.tup (n := 0) (hk _ _ (g459 w.params)) (.cons (.str _ _) (.nil))⟩
theorem path_key : ∃ ox od v, InstAt h 429 ox 342 (some od) ∧ findObj (KF w.params) 342 (some od) "path" = some (.value v) ∧ handedIn v = true ∧ Is h v (Kd.pv .key) :=
  ⟨zo429 w.params, zo428 w.params, .ref 427, ⟨hk _ _ (g429 w.params), rfl, rfl, hk _ _ (g428 w.params)⟩, by kernel_rfl, rfl, Is.tup (n := 0) (hk _ _ (g427 w.params)) (.cons (.str _ _) (.nil))⟩
theorem path_name : ∃ ox od v, InstAt h 433 ox 342 (some od) ∧ findObj (KF w.params) 342 (some od) "path" = some (.value v) ∧ handedIn v = true ∧ Is h v (Kd.pv .name) :=
  ⟨zo433 w.params, zo432 w.params, .ref 431, ⟨hk _ _ (g433 w.params), rfl, rfl, hk _ _ (g432 w.params)⟩, by kernel_rfl, rfl, Is.tup (n := 0) (hk _ _ (g431 w.params)) (.cons (.str _ _) (.nil))⟩
theorem path_flo : ∃ ox od v, InstAt h 405 ox 342 (some od) ∧ findObj (KF w.params) 342 (some od) "path" = some (.value v) ∧ handedIn v = true ∧ Is h v (Kd.pv .flo) :=
  ⟨zo405 w.params, zo404 w.params, .ref 403, ⟨hk _ _ (g405 w.params), rfl, rfl, hk _ _ (g404 w.params)⟩, by kernel_rfl, rfl, Is.tup (n := 0) (hk _ _ (g403 w.params)) (.cons (.str _ _) (.cons (.str _ _) (.cons (.str _ _) (.nil))))⟩
theorem path_int : ∃ ox od v, InstAt h 401 ox 342 (some od) ∧ findObj (KF w.params) 342 (some od) "path" = some (.value v) ∧ handedIn v = true ∧ Is h v (Kd.pv .int) :=
  ⟨zo401 w.params, zo400 w.params, .ref 399, ⟨hk _ _ (g401 w.params), rfl, rfl, hk _ _ (g400 w.params)⟩, by kernel_rfl, rfl, Is.tup (n := 0) (hk _ _ (g399 w.params)) (.cons (.str _ _) (.cons (.str _ _) (.cons (.str _ _) (.nil))))⟩
theorem path_err : ∃ ox od v, InstAt h 357 ox 342 (some od) ∧ findObj (KF w.params) 342 (some od) "path" = some (.value v) ∧ handedIn v = true ∧ Is h v (Kd.pv .err) :=
  ⟨zo357 w.params, zo356 w.params, .ref 355, ⟨hk _ _ (g357 w.params), rfl, rfl, hk _ _ (g356 w.params)⟩, by kernel_rfl, rfl, Is.tup (n := 0) (hk _ _ (g355 w.params)) (.cons (.str _ _) (.nil))⟩
theorem path_str : ∃ ox od v, InstAt h 393 ox 342 (some od) ∧ findObj (KF w.params) 342 (some od) "path" = some (.value v) ∧ handedIn v = true ∧ Is h v (Kd.pv .str) :=
  ⟨zo393 w.params, zo392 w.params, .ref 391, ⟨hk _ _ (g393 w.params), rfl, rfl, hk _ _ (g392 w.params)⟩, by kernel_rfl, rfl, Is.tup (n := 0) (hk _ _ (g391 w.params)) (.cons (.str _ _) (.cons (.str _ _) (.cons (.str _ _) (.nil))))⟩
theorem path_pun : ∃ ox od v, InstAt h 449 ox 342 (some od) ∧ findObj (KF w.params) 342 (some od) "path" = some (.value v) ∧ handedIn v = true ∧ Is h v (Kd.pv .pun) :=
  ⟨zo449 w.params, zo448 w.params, .ref 447, ⟨hk _ _ (g449 w.params), rfl, rfl, hk _ _ (g448 w.params)⟩, by kernel_rfl, rfl, Is.tup (n := 0) (hk _ _ (g447 w.params)) (.cons (.str _ _) (.nil))⟩
theorem path_op : ∃ ox od v, InstAt h 457 ox 342 (some od) ∧ findObj (KF w.params) 342 (some od) "path" = some (.value v) ∧ handedIn v = true ∧ Is h v (Kd.pv .op) :=
  ⟨zo457 w.params, zo456 w.params, .ref 455, ⟨hk _ _ (g457 w.params), rfl, rfl, hk _ _ (g456 w.params)⟩, by kernel_rfl, rfl, Is.tup (n := 0) (hk _ _ (g455 w.params)) (.cons (.str _ _) (.nil))⟩
theorem path_cmp : ∃ ox od v, InstAt h 453 ox 342 (some od) ∧ findObj (KF w.params) 342 (some od) "path" = some (.value v) ∧ handedIn v = true ∧ Is h v (Kd.pv .cmp) :=
  ⟨zo453 w.params, zo452 w.params, .ref 451, ⟨hk _ _ (g453 w.params), rfl, rfl, hk _ _ (g452 w.params)⟩, by kernel_rfl, rfl, Is.tup (n := 0) (hk _ _ (g451 w.params)) (.cons (.str _ _) (.cons (.str _ _) (.nil)))⟩
theorem finF : LawEnd h (KF w.params) NF :=
  { inn := kfh hk, lim := limF hk, pcT := pc342, path := fun k => by
      cases k
      · exact path_hint hk
      · exact path_com hk
      · exact path_ws hk
      · exact path_nl hk
      · exact path_wild hk
      · exact path_key hk
      · exact path_name hk
      · exact path_flo hk
      · exact path_int hk
      · exact path_err hk
      · exact path_str hk
      · exact path_pun hk
      · exact path_op hk
      · exact path_cmp hk }
theorem tokF {prog : Program} : TokBase prog w h (KF w.params) JF NF :=
  { con := conF hk
    fds := ⟨limF hk, gm__NO_SPANS hk, has_fds hk⟩
    di := diF hk
    dim := ⟨674, ⟨by kernel_rfl, by kernel_rfl, by kernel_rfl, _, fn_674 hk⟩⟩
    isk := ⟨by kernel_rfl, by kernel_rfl, by kernel_rfl, _, fn_702 hk⟩
    gt := ⟨710, 703, 0, ⟨by kernel_rfl, by kernel_rfl, by kernel_rfl, _, fn_710 hk⟩, hk _ _ (g703 w.params)⟩
    lexer := gm_Lexer hk
    name := gm_Name hk
    kcs := by decide
    kws := by decide
    kcm := let ⟨f, M, a, _⟩ := kcM hk; ⟨f, M, a⟩
    kwm := let ⟨f, M, a, b⟩ := kwM hk; ⟨f, M, a, b _ _ (by kernel_rfl)⟩
    isi := gb_isinstance hk
    str := gb_str hk
    enu := gb_enumerate hk
    tyC := gm__TokenType hk
    pk := ⟨_, gm_PROCESS_AS_KEYWORD hk⟩
    err := gm_Error hk
    tok := fun k => by
      cases k
      · exact ⟨_, hk _ _ (g413 w.params), rfl⟩
      · exact ⟨_, hk _ _ (g417 w.params), rfl⟩
      · exact ⟨_, hk _ _ (g353 w.params), rfl⟩
      · exact ⟨_, hk _ _ (g349 w.params), rfl⟩
      · exact ⟨_, hk _ _ (g461 w.params), rfl⟩
      · exact ⟨_, hk _ _ (g429 w.params), rfl⟩
      · exact ⟨_, hk _ _ (g433 w.params), rfl⟩
      · exact ⟨_, hk _ _ (g405 w.params), rfl⟩
      · exact ⟨_, hk _ _ (g401 w.params), rfl⟩
      · exact ⟨_, hk _ _ (g357 w.params), rfl⟩
      · exact ⟨_, hk _ _ (g393 w.params), rfl⟩
      · exact ⟨_, hk _ _ (g449 w.params), rfl⟩
      · exact ⟨_, hk _ _ (g457 w.params), rfl⟩
      · exact ⟨_, hk _ _ (g453 w.params), rfl⟩
    kst := by kernel_rfl
    kstC := by kernel_rfl
    opn := ⟨525, 527, 532, fun i => ((#[some (.ref 531), some (.ref 530)] : Array (Option Value))[i]?).join, 1, pc525, { slot := by kernel_rfl, lt := by decide, find := by kernel_rfl, taker := by kernel_rfl, typ := by kernel_rfl }, ⟨⟨_, hk _ _ (g533 w.params), fun _ => rfl⟩, hk _ _ (g532 w.params), by decide⟩, rfl, rfl⟩
    odm := odF hk
    ods := by decide
    tab := ⟨_, 0, hk _ _ (g591 w.params), rfl, (rowsF hk).get⟩ }
theorem base_all : LawBase PySem.Challenge.pw_er0026_01 w h (KF w.params) JF NF :=
  { b2 := b2F hk, tok := tokF hk, fin := finF hk, tkf := ⟨725, 718, _, 0, gm_tokenize hk, fn_725 hk, hk _ _ (g718 w.params)⟩ }
end
end Mine
namespace Mine
open PySem PySem.W PyProof.Rows
theorem whole : PySem.Challenge.rw_er0026_01.Holds := headH fun q loose XP d kwd h1 h2 h3 => by
  have e : PySem.Challenge.pw_er0026_01.theDef "law" = some (lawA, lawSt, lawS) := rfl
  have e2 := Option.some.inj (e.symm.trans h2)
  exact law_walkX h1 (congrArg (fun x => x.1) e2).symm (congrArg (fun x => x.2.1) e2).symm (congrArg (fun x => x.2.2) e2).symm h3 fun w h hk => ⟨_, _, _, base_all hk⟩
end Mine
theorem PySem.Challenge.cw_er0026_01_holds : PySem.Challenge.rw_er0026_01.Holds :=
  Mine.whole
