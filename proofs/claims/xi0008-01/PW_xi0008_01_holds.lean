import PyProof.Rows.All
import Wide.All
import OpenK.AllK
import Wide.FinOn
import Lean
import PySem.Challenge.RW_xi0008_01
set_option Elab.async false
set_option linter.unusedVariables false
section
open PySem PySem.W PyProof.Rows
namespace Mine
open Lean Elab Tactic Meta in
/-- a chain of congr, innermost step first, and what it begins with -/
def congrChain (e : Lean.Expr) : Lean.Expr × List Lean.Expr := Id.run do
  let mut e := e
  let mut acc := []
  for _ in [0:100000] do
    if e.isAppOfArity ``congr 8 then
      acc := e :: acc
      e := e.appFn!.appArg!
    else break
  return (e, acc)
open Lean Elab Tactic Meta in
/-- the same proof with the functions left as they are written: not turned out -/
def congrShort (v : Lean.Expr) : Lean.Expr :=
  let (b, st) := congrChain v
  if !b.isAppOfArity ``congrArg 6 then v else Id.run do
    let a := b.getAppArgs
    let mut f := mkApp a[4]! a[2]!
    let mut g := mkApp a[4]! a[3]!
    let mut pf := b
    for e in st do
      let x := e.getAppArgs
      pf := mkAppN e.getAppFn #[x[0]!, x[1]!, f, g, x[4]!, x[5]!, pf, x[7]!]
      f := mkApp f x[4]!
      g := mkApp g x[5]!
    return pf
open Lean Elab Tactic Meta in
/-- lays a constant of the other environment, and what it leans on ahead of it -/
def layStep (env0 env1 : Environment) (go : NameSet → Name → CoreM NameSet) (done : NameSet) (c : Name) : CoreM NameSet := do
  if done.contains c || env0.contains c then return done
  let some ci := env1.find? c | return done
  let v := (ci.value? (allowOpaque := true)).getD (mkSort .zero)
  let done ← (ci.type.getUsedConstants ++ v.getUsedConstants).foldlM go (done.insert c)
  match ci with
  | .thmInfo t => addDecl (.thmDecl { t with value := congrShort t.value })
  | .defnInfo d => addDecl (.defnDecl d)
  | _ => throwError "layStep: {c}"
  return done
open Lean Elab Tactic Meta in
/-- the head, walked apart; then its constants are laid anew, the long proofs among them short -/
def layHead (name : Name) (t : Term) : TacticM Unit := do
  let env0 ← getEnv
  let saved ← saveState
  let go : TermElabM (Lean.Expr × Lean.Expr) := Term.withDeclName name do
    let ty ← instantiateMVars (← Term.elabType t)
    let g ← mkFreshExprSyntheticOpaqueMVar ty
    let rest ← Tactic.run g.mvarId! (withoutRecover (evalTactic (← `(tactic| (w_on; o_law; k_head; (case hw => w_witness2))))))
    let [hc] := rest | throwError "layHead: the goals"
    let T ← instantiateMVars (← hc.getType)
    let pf ← withLocalDeclD `walk T fun h => do
      hc.assign h
      mkLambdaFVars #[h] (← instantiateMVars g)
    return (← mkArrow T ty, pf)
  let (ty, pf) ← go
  let env1 ← getEnv
  saved.restore
  walkTop.set false
  walkStart.set 0
  let all := ty.getUsedConstants ++ pf.getUsedConstants
  let _ ← (all.foldlM (Nat.repeat (layStep env0 env1) 20000 fun done _ => pure done) {} : CoreM NameSet)
  addDecl (.thmDecl { name, levelParams := [], type := ty, value := pf })
set_option maxRecDepth 100000 in
set_option maxHeartbeats 8000000 in
theorem hd_laid : True := by
  run_tac do layHead `Mine.hd (← `(PySem.Challenge.rw_xi0008_01.Holds))
  trivial
end Mine
end

section
namespace Mine
open Lean Meta in
/-- what is kept of a proof while it is made short -/
structure SqSt where
  n : Nat := 0
  lctx : LocalContext := {}
  /-- an opened binder: its variable, its opened body -/
  bd : Std.HashMap Lean.Expr (Lean.Expr × Lean.Expr) := {}
  lvl : Std.HashMap FVarId Nat := {}
  seen : Std.HashMap Lean.Expr Nat := {}
  order : Array Lean.Expr := #[]
  ctx : Std.HashMap Lean.Expr (List Nat) := {}
  lets : Std.HashMap Lean.Expr (Lean.Expr × Lean.Expr) := {}
  at_ : Std.HashMap FVarId (Array Lean.Expr) := {}
  rootLets : Array Lean.Expr := #[]
  built : Std.HashMap Lean.Expr Lean.Expr := {}
open Lean Meta in
/-- opens every binder once and lists the parts, a part behind what it holds -/
def sqStep (go : Nat → Lean.Expr → StateT SqSt MetaM Nat) (dep : Nat) (e : Lean.Expr) : StateT SqSt MetaM Nat := do
  if e.isConst || e.isSort || e.isLit then return 1
  if let some k := (← get).seen.get? e then return k
  let k ← match e with
    | .app .. => do
      let mut k := 1
      let h := e.getAppFn
      k := k + (← go dep h)
      for a in e.getAppArgs do k := k + 1 + (← go dep a)
      pure k
    | .lam n d b bi | .forallE n d b bi => do
      let k1 ← go dep d
      let s ← get
      let id : FVarId := ⟨.num `sq s.n⟩
      let x := Lean.Expr.fvar id
      let b' := b.instantiate1 x
      set { s with n := s.n + 1, lctx := s.lctx.mkLocalDecl id n d bi, bd := s.bd.insert e (x, b'), lvl := s.lvl.insert id (dep + 1) }
      let k2 ← go (dep + 1) b'
      pure (1 + k1 + k2)
    | .letE n t v b _ => do
      let k0 ← go dep t
      let k1 ← go dep v
      let s ← get
      let id : FVarId := ⟨.num `sq s.n⟩
      let x := Lean.Expr.fvar id
      let b' := b.instantiate1 x
      set { s with n := s.n + 1, lctx := s.lctx.mkLetDecl id n t v, bd := s.bd.insert e (x, b'), lvl := s.lvl.insert id (dep + 1) }
      let k2 ← go (dep + 1) b'
      pure (1 + k0 + k1 + k2)
    | .mdata _ b => go dep b
    | .proj _ _ b => do pure (1 + (← go dep b))
    | _ => pure 1
  let k := min k 100000
  modify fun s => { s with seen := s.seen.insert e k, order := s.order.push e }
  return k
open Lean Meta in
def sqOpen : Nat → Lean.Expr → StateT SqSt MetaM Nat := Nat.repeat sqStep 20000 fun _ _ => throwError "sqOpen: too deep"
open Lean Meta in
def sqAdd (e : Lean.Expr) (c : List Nat) : StateT SqSt MetaM Unit := do
  if e.isConst || e.isSort || e.isLit then return
  modify fun s =>
    let old := s.ctx.getD e []
    { s with ctx := s.ctx.insert e (if old.length ≥ 40 then old else c.foldl (fun l x => if l.contains x then l else x :: l) old) }
open Lean Meta in
/-- finds the parts that stand in more than one scope -/
def sqPick (least : Nat) : StateT SqSt MetaM Unit := do
  let ord := (← get).order
  for e in ord.reverse do
    let s ← get
    let c := s.ctx.getD e []
    let sz := s.seen.getD e 0
    let mut c := c
    if e.hasFVar && !e.isFVar && !e.isMData && c.length ≥ 2 && (c.length - 1) * sz ≥ least && sz ≥ 3 then
      let ty? ← try some <$> withLCtx s.lctx {} (do
          let t ← inferType e
          if t.hasFVar then return none
          if t.isSort then return some t
          if ← isProp t then return none
          return some t) catch _ => pure none
      if let some (some ty) := ty? then
        let fv := (collectFVars {} e).fvarIds
        let inn := fv.foldl (fun (b : Option FVarId × Nat) i => match s.lvl.get? i with | some l => if l > b.2 then (some i, l) else b | none => b) (none, 0)
        let id : FVarId := ⟨.num `sq s.n⟩
        let at' := match inn.1 with | some i => s.at_.insert i ((s.at_.getD i #[]).push e) | none => s.at_
        let roots := if inn.1.isNone then s.rootLets.push e else s.rootLets
        set { s with n := s.n + 1, lets := s.lets.insert e (.fvar id, ty), at_ := at', rootLets := roots }
        c := [1000000 + s.n]
    match e with
    | .app .. =>
      sqAdd e.getAppFn c
      for a in e.getAppArgs do sqAdd a c
    | .lam _ d _ _ | .forallE _ d _ _ =>
      sqAdd d c
      if let some (x, b) := s.bd.get? e then sqAdd b [(match x.fvarId!.name with | .num _ i => i | _ => 0) + 2000000]
    | .letE _ t v _ _ =>
      sqAdd t c; sqAdd v c
      if let some (x, b) := s.bd.get? e then sqAdd b [(match x.fvarId!.name with | .num _ i => i | _ => 0) + 2000000]
    | .mdata _ b => sqAdd b c
    | .proj _ _ b => sqAdd b c
    | _ => pure ()
open Lean Meta in
/-- closes the lets that stand right behind a variable, and the variable -/
def sqClose (x : Array Lean.Expr) (rows : Array (Lean.Expr × Lean.Expr × Lean.Expr)) (body : Lean.Expr) : Lean.Expr := Id.run do
  let vars := x ++ rows.map (·.1)
  let mut r := body.abstract vars
  for i in [0:rows.size] do
    let j := rows.size - 1 - i
    let (_, ty, v) := rows[j]!
    r := .letE `t ty (v.abstract (vars.extract 0 (x.size + j))) r false
  return r
open Lean Meta in
/-- the parts anew, from the inside: a part that is a let by its variable -/
def sqBuild : StateT SqSt MetaM Unit := do
  let ord := (← get).order
  for e in ord do
    let s ← get
    let got (e : Lean.Expr) : Lean.Expr := match s.lets.get? e with | some (x, _) => x | none => s.built.getD e e
    let rowsOf (l : Array Lean.Expr) : Array (Lean.Expr × Lean.Expr × Lean.Expr) := l.reverse.filterMap fun t => match s.lets.get? t with | some (x, ty) => some (x, ty, s.built.getD t t) | none => none
    let r := match e with
      | .app .. => mkAppN (got e.getAppFn) (e.getAppArgs.map got)
      | .lam n d _ bi => match s.bd.get? e with | some (x, b) => .lam n (got d) (sqClose #[x] (rowsOf (s.at_.getD x.fvarId! #[])) (got b)) bi | none => e
      | .forallE n d _ bi => match s.bd.get? e with | some (x, b) => .forallE n (got d) (sqClose #[x] (rowsOf (s.at_.getD x.fvarId! #[])) (got b)) bi | none => e
      | .letE n t v _ nd => match s.bd.get? e with | some (x, b) => .letE n (got t) (got v) (sqClose #[x] (rowsOf (s.at_.getD x.fvarId! #[])) (got b)) nd | none => e
      | .mdata _ b => got b
      | .proj n i b => .proj n i (got b)
      | _ => e
    set { s with built := s.built.insert e r }
open Lean Meta in
/-- a proof with the parts that stand in several scopes named by lets -/
def squeeze (least : Nat) (e : Lean.Expr) : MetaM Lean.Expr := do
  let go : StateT SqSt MetaM Lean.Expr := do
    let _ ← sqOpen 0 e
    sqAdd e [0]
    sqPick least
    sqBuild
    let s ← get
    let rows := s.rootLets.reverse.filterMap fun t => match s.lets.get? t with | some (x, ty) => some (x, ty, s.built.getD t t) | none => none
    let b := match s.lets.get? e with | some (x, _) => x | none => s.built.getD e e
    return sqClose #[] rows b
  let (r, _) ← go.run { lctx := ← getLCtx }
  return r
end Mine
namespace Mine
open Lean Meta Elab Tactic in
/-- the goal from here on: its proof is made short by sqEnd -/
def sqBegin : TacticM Unit := do
  let g ← getMainGoal
  g.withContext do
    let g' ← mkFreshExprSyntheticOpaqueMVar (← g.getType) (← g.getTag)
    g.assign g'
    g.setUserName `squeeze_root
    replaceMainGoal [g'.mvarId!]
open Lean Meta Elab Tactic in
/-- the proof since sqBegin, made short -/
def sqEnd : TacticM Unit := do
  Term.synthesizeSyntheticMVarsNoPostponing
  let found := (← getMCtx).decls.foldl (fun (o : Option MVarId) i d => if d.userName == `squeeze_root then some i else o) none
  let some g := found | throwError "sqEnd: no beginning"
  let v ← instantiateMVars (mkMVar g)
  if v.hasExprMVar then throwError "sqEnd: goals are open"
  let v' ← g.withContext (squeeze 8 v)
  g.assign v'
end Mine
end

section
namespace Mine
open Lean Elab Tactic Meta in
/-- a proof of t by omega from some of the hypotheses -/
def omTry (g : MVarId) (t : Lean.Expr) (keep : Array FVarId) : MetaM (Option Lean.Expr) := g.withContext do
  let s ← saveState
  try
    let m ← mkFreshExprMVar t
    let some g1 ← m.mvarId!.falseOrByContra | return some (← instantiateMVars m)
    g1.withContext do
      let old := (← g.getDecl).lctx
      let facts ← (← getLocalHyps).toList.filterM fun e => do
        let f := e.fvarId!
        return keep.contains f || !(old.contains f)
      Lean.Elab.Tactic.Omega.omega facts g1 {}
    return some (← instantiateMVars m)
  catch _ =>
    s.restore
    return none
open Lean Meta in
/-- the numbers in e that omega does not look into -/
def omAtoms (e : Lean.Expr) (acc : Array Lean.Expr) : MetaM (Array Lean.Expr) := do
  let ops : List Name := [``HAdd.hAdd, ``HSub.hSub, ``HMul.hMul, ``HDiv.hDiv, ``HMod.hMod, ``Neg.neg, ``Nat.cast, ``Int.toNat, ``Int.natAbs, ``Nat.succ, ``Min.min, ``Max.max, ``HPow.hPow, ``Int.ofNat, ``OfNat.ofNat, ``ite, ``cond, ``IntCast.intCast, ``NatCast.natCast]
  let ref ← IO.mkRef acc
  Meta.forEachExpr' e fun x => do
    if x.hasLooseBVars then return false
    if x.isForall || x.isSort || x.isConst || x.isRawNatLit then return x.isForall
    let t ← inferType x
    if t.isConstOf ``Nat || t.isConstOf ``Int then
      if let .const c _ := x.getAppFn then
        if ops.contains c then return true
      unless (← ref.get).contains x do ref.modify (·.push x)
      return false
    if t.isSort then return !(x.isFVar)
    return x.isApp
  ref.get
open Lean Elab Tactic Meta in
/-- a closed proof of t by lia, written out -/
def omLia (t : Lean.Expr) : TermElabM (Option Lean.Expr) := do
  let known : List Name := [``Nat, ``Int, ``HAdd.hAdd, ``HSub.hSub, ``HMul.hMul, ``HDiv.hDiv, ``HMod.hMod, ``Neg.neg, ``Nat.cast, ``Int.toNat, ``Min.min, ``Max.max, ``LE.le, ``LT.lt, ``GE.ge, ``GT.gt, ``Eq, ``Ne, ``Not, ``And, ``Or, ``OfNat.ofNat, ``False, ``True]
  if t.getUsedConstants.any fun c => !(known.contains c || (c.toString.splitOn "inst").length > 1) then return none
  if (t.find? fun e => match e with | .lit (.natVal n) => n > 16 | _ => false).isSome then return none
  let s ← saveState
  let env0 ← getEnv
  let beats ← IO.getNumHeartbeats
  let r ← tryCatchRuntimeEx (withCurrHeartbeats <| withTheReader Core.Context (fun c => { c with maxHeartbeats := 10000000 }) <| withLCtx {} {} do
      let m ← mkFreshExprSyntheticOpaqueMVar t
      let rest ← Tactic.run m.mvarId! (withoutRecover (evalTactic (← `(tactic| (intros; lia)))))
      pure (some (← instantiateMVars m, rest.isEmpty)))
    fun _ => pure none
  let env1 ← getEnv
  s.restore
  IO.setNumHeartbeats beats
  let some (v, true) := r | return none
  let mut v := v
  for _ in [0:8] do
    if v.getUsedConstants.all (env0.contains ·) then break
    v := v.replace fun e => match e with
      | .app .. => match e.getAppFn with
        | .const c us => if env0.contains c then none else match env1.find? c with
          | some ci => (ci.value? (allowOpaque := true)).map fun w => (w.instantiateLevelParams ci.levelParams us).beta e.getAppArgs
          | none => none
        | _ => none
      | .const c us => if env0.contains c then none else match env1.find? c with
          | some ci => (ci.value? (allowOpaque := true)).map fun w => w.instantiateLevelParams ci.levelParams us
          | none => none
      | _ => none
  if v.hasExprMVar || v.hasFVar || !(v.getUsedConstants.all (env0.contains ·)) then return none
  return some v
open Lean Elab Tactic Meta in
/-- the same of any numbers, as a lemma of its own -/
def omLift (t : Lean.Expr) (keep : Array FVarId) : TermElabM (Option Lean.Expr) := do
  let s ← saveState
  try
    let hts ← keep.mapM fun f => do instantiateMVars (← f.getType)
    let atoms ← hts.foldlM (fun a h => omAtoms h a) (← omAtoms t #[])
    let tys ← (atoms.mapM inferType : MetaM (Array Lean.Expr))
    let decls := tys.map fun ty => (`x, fun _ => pure ty)
    let r ← withLocalDeclsD decls fun xs => do
      let sub (e : Lean.Expr) : Lean.Expr := e.replace fun y => match atoms.idxOf? y with | some i => some xs[i]! | none => none
      let hds := hts.map fun h => (`h, fun _ => pure (sub h))
      withLocalDeclsD hds fun hs => do
        let t' := sub t
        let m ← mkFreshExprSyntheticOpaqueMVar t'
        let some pf ← omTry m.mvarId! t' (hs.map (·.fvarId!)) | return none
        let ty ← mkForallFVars (xs ++ hs) t'
        let v ← mkLambdaFVars (xs ++ hs) pf
        if ty.hasFVar || v.hasFVar || ty.hasExprMVar || v.hasExprMVar then return none
        return some (ty, v)
    let some (ty, v) := r | s.restore; return none
    let v ← do
      if let some v2 ← omLia ty then
        if (← v2.numObjs) < (← v.numObjs) then pure v2 else pure v
      else pure v
    let c ← mkAuxTheorem ty v
    return some (mkAppN c (atoms ++ keep.map mkFVar))
  catch _ =>
    s.restore
    return none
open Lean Elab Tactic Meta in
/-- omega, with the hypotheses that it can do without dropped one by one: the proof comes out smaller -/
def omLean : TacticM Unit := do
  let g ← getMainGoal
  let t ← instantiateMVars (← g.getType)
  g.withContext do
    let all : Array FVarId := (← (← getLocalHyps).filterM fun e => do return (← isProp (← inferType e))).map (·.fvarId!)
    let some pf ← omTry g t all | throwError "omega: no proof"
    let used := (collectFVars {} pf).fvarSet
    let mut keep := all.filter used.contains
    let mut best := (← omTry g t keep).getD pf
    for f in keep.reverse do
      let k2 := keep.filter (· != f)
      if let some p2 ← omTry g t k2 then
        keep := k2
        best := p2
    if t.hasExprMVar || best.hasExprMVar then g.assign best
    else if let some e ← omLift t keep then g.assign e
    else g.assign (← mkAuxTheorem t best (zetaDelta := true))
  replaceMainGoal []
end Mine
end
local macro_rules | `(tactic| omega) => `(tactic| run_tac Mine.omLean)
local macro_rules | `(tactic| k_mem) => `(tactic| first | with_reducible exact List.mem_cons_self | with_reducible assumption | (with_reducible refine List.mem_cons_of_mem _ ?_; k_mem))

section
open PySem PySem.W PyProof.Rows
set_option maxRecDepth 100000
namespace Mine
noncomputable abbrev PG : Program := PySem.Challenge.rw_xi0008_01.row.prog
noncomputable abbrev LS : List PySem.Str := (looseW hd.view_39 [] ++ List.map (fun x => x.name) (recsOf hd.view_39) ++
        List.map (fun x => x.fst) (litsOf hd.view_39) ++
      List.map (fun x => x.name) (clssOf hd.view_39 (looseW hd.view_39 [])))
noncomputable abbrev KF (w : World) : Frag := hd.heap_39 w.params
end Mine
end

section
open PySem PySem.W PyProof.Rows
set_option maxRecDepth 100000
namespace Mine
section
variable {w : World} {mean : ExcName → Option Value} {mg mb : PySem.Str → Option Value} {A₀ : Around} {base h₀ : Heap} {outer : List Env} {L : Addr} {m : PySem.Str → Option Value} {news : List (Addr × Obj)} {s : Shared} {Q E : Value → Shared → Prop}
variable {dp un : Nat} {gd : Option (List Code)} {cn : PySem.Str} {cs : Scope} {a : Addr} {ccd : Value} {cl : List (PySem.Str × Addr)}
local macro_rules | `(tactic| walk_at "call builtin:sum") => `(tactic| (k_here; (with_unfolding_all refine' sumK ?k0 ?k1 ?k2 ?k3 (IntsAre.pick (by assumption) _ _ _) ?_; (case k0 => with_unfolding_all rfl); (case k1 => k_asm); (case k2 => k_asm); (case k3 => is_list); k_whole); intro h' tk' t' F' N'))
set_option maxHeartbeats 4000000 in
theorem heap_call (B : Below A₀ base outer h₀) (F : Fr h₀ L s.heap m) (X : (hd.heap_39 w.params).In h₀) (N : News h₀ L s.heap news) (T : Top topProg LS mean mg mb h₀)
  (hk : cs.kind = .function) {l : Addr} {vs : List Value} {ns : List Int} (hl : base.IsList l vs.toArray) (hI : IntsAre vs ns) (hlen : ns.length ≤ 63)
  (hdp : dp + 4 < recursionLimit) (hu : un + 64 < cLine) {p : Nat} {st : Int} {t1 t2 : Tok} (hp : p < 3)
  (hret : ∀ (x : Int) t h' tk', 0 ≤ x → Fr h₀ L h' m → News h₀ L h' news → Q (.int x t) { s with heap := h', toks := tk' }) :
  wpAny (model PySem.Challenge.rw_xi0008_01.row.prog w) (ktrTop dp un gd cn cs L a ccd cl outer) (call (.ref 100) [.ref l, .int p t1, .int st t2]) Q E s := by
  run_tac sqBegin
  revert X; k_fill; intro X
  refine wpAny_call ?_
  k_dflt cell_enter
  k_steps
  exact hret _ _ _ _ (by split <;> omega) (by assumption) (fun q hq => (by assumption : News h₀ L _ _) q (.tail _ hq))
  run_tac sqEnd
end
end Mine
end

section
open PySem PySem.W PyProof.Rows PyProof.Rows.LCg PySem.Calls
set_option maxRecDepth 100000
namespace Mine
section
variable {prog : Program} {w : World} {A : Around} {E : Value → Shared → Prop} {env : Env} {h₀ : Heap} {L : Addr} {m : PySem.Str → Option Value}

noncomputable abbrev Tests (ifs : List PySem.Expr) (env : Env) : Sem Bool := forIn ifs true fun c r => if r = true then do let ok ← isTrue c env (eval c env); pure (ForInStep.yield ok) else pure (ForInStep.yield r)

theorem comp_loop {elt target iter : PySem.Expr} {ifs : List PySem.Expr} {scope : Scope} {pos : Pos} {it acc : Value} {env : Env} {R : Result → Shared → Prop} (I : Nat → Shared → Prop)
    (turn : ∀ n s, I n s → wpAny (model prog w) A (pyNext it) (fun r s₁ => match r with
      | none => R (.ok .next) s₁
      | some v => wpAny (model prog w) A (letOwnedTupleGo target it v) (fun _ s₀ => wpAny (model prog w) A (assign target env v) (fun _ s₂ =>
          wpAny (model prog w) A (Tests ifs env) (fun ok s₃ => if ok = true then wpAny (model prog w) A (eval elt env) (fun x s₄ =>
            wpAny (model prog w) A (call (.builtin "list.append") [acc, x]) (fun _ s₅ => ∃ m, m < n ∧ I m s₅) (notedBy (model prog w) A env fun e s' => R (.error e) s') s₄) (notedBy (model prog w) A env fun e s' => R (.error e) s') s₃
            else ∃ m, m < n ∧ I m s₃) (notedBy (model prog w) A env fun e s' => R (.error e) s') s₂)
          (notedBy (model prog w) A env fun e s' => R (.error e) s') s₀) (notedBy (model prog w) A env fun e s' => R (.error e) s') s₁) (notedBy (model prog w) A env fun e s' => R (.error e) s') s)
    (n : Nat) {s : Shared} (h : I n s) : codeAny (model prog w) A (.compLoop (.ListComp elt [⟨target, iter, ifs, 0⟩] scope pos) 0 it acc env) R s := by
  run_tac sqBegin
  refine codeAny_loop rfl I (fun n s hI => ?_) n h
  show wpAny _ A ((compTurn (.ListComp elt [⟨target, iter, ifs, 0⟩] scope pos) 0 it acc env).onRaise (fun x => do noteFrame x env; theTreesLotGoes x)) _ _ s
  refine wpAny_noted ?_
  rw [compTurn_list]
  refine wpAny_bind (wpAny_standAt (wpAny_bind (wpAny_mono (turn n s hI) (fun r s₁ h₁ => ?_) fun _ _ h' => h')))
  cases r with
  | none => exact wpAny_pure h₁
  | some v =>
    refine wpAny_bind (wpAny_mono h₁ (fun _ s₀ h₀' => ?_) fun _ _ h' => h')
    refine wpAny_bind (wpAny_mono h₀' (fun _ s₂ h₂ => ?_) fun _ _ h' => h')
    refine wpAny_bind (wpAny_mono h₂ (fun okb s₃ h₃ => ?_) fun _ _ h' => h')
    cases okb with
    | false => exact wpAny_pure ⟨rfl, h₃⟩
    | true => exact wpAny_bind (wpAny_bind (wpAny_mono h₃ (fun x s₄ h₄ => wpAny_bind (wpAny_mono h₄ (fun _ s₅ h₅ => wpAny_pure (wpAny_pure ⟨rfl, h₅⟩)) fun _ _ h' => h')) fun _ _ h' => h'))
  run_tac sqEnd

/-- what a comprehension asks of the thing it walks -/
noncomputable def CSrc (prog : Program) (w : World) (A : Around) (h₀ : Heap) (L : Addr) (m : PySem.Str → Option Value) (env : Env) (target elt : PySem.Expr) (ifs : List PySem.Expr) (scope : Scope) (cl : List (PySem.Str × Addr))
    (Fin : Shared → List Value → List (Addr × Obj) → Prop) (it : Value) (s₂ : Shared) : Prop :=
  ∃ (I : Addr) (fp wr : List Addr) (n : Nat) (P Md : Nat → Value → Heap → Prop) (St : Nat → Heap → Prop) (news : List (Addr × Obj)) (Asg : Nat → (PySem.Str → Option Value) → Prop) (Acc : Nat → List Value → Prop),
    it = .ref I ∧ KTurns prog w A target I fp wr n P Md St ∧ (∀ (s : Shared) (Q : Value → Shared → Prop) (E : Value → Shared → Prop), St 0 s.heap → Q (.ref I) s → wpAny (model prog w) A (pyIter (.ref I)) Q E s) ∧
    L ∉ fp ∧ (∀ b ∈ wr, h₀.get? b = none) ∧ (∀ p ∈ news, p.1 ∉ wr) ∧ (∀ b ∈ fp, b < s₂.heap.objs.size) ∧ n ≤ sizeLine ∧ St 0 s₂.heap ∧ Fr h₀ L s₂.heap m ∧ News h₀ L s₂.heap news ∧ Acc 0 [] ∧
    (∀ i v C m₂ (s : Shared) (Q : Unit → Shared → Prop) (E : Value → Shared → Prop), i < n → P i v s.heap → s.heap.Ns C m₂ → (∀ h' tk m₃, h'.Ns C m₃ → Asg i m₃ → (∀ c o, c ≠ C → s.heap.get? c = some o → h'.get? c = some o) → Q () { s with heap := h', toks := tk }) →
      wpAny (model prog w) A (assign target (compEnvC scope cl C env) v) Q E s) ∧
    (∀ i ys C m₃ h tk (E' : Value → Shared → Prop), i < n → Acc i ys → Asg i m₃ → h.Ns C m₃ → Fr h₀ L h m → News h₀ L h news →
      wpAny (model prog w) A (Tests ifs (compEnvC scope cl C env)) (fun ok s₃ => Keeps { s₂ with heap := h, toks := tk } s₃ ∧ if ok = true then
        wpAny (model prog w) A (eval elt (compEnvC scope cl C env)) (fun y s₄ => Keeps s₃ s₄ ∧ Acc (i + 1) (ys ++ [y])) E' s₃ else Acc (i + 1) ys) E' { s₂ with heap := h, toks := tk }) ∧
    ∀ ys, Acc n ys → Fin s₂ ys news

theorem comp_block {elt target iter : PySem.Expr} {ifs : List PySem.Expr} {scope : Scope} {cl : List (PySem.Str × Addr)} {pos : Pos} {s₂ : Shared} {it : Value}
    {Fin : Shared → List Value → List (Addr × Obj) → Prop} {RR : Value → Addr → Result → Shared → Prop}
    (hcell : ∀ y ∈ scope.names, y.2 ≠ .cell) (hkind : scope.kind = .function)
    (S : CSrc prog w A h₀ L m env target elt ifs scope cl Fin it s₂)
    (hRR : ∀ D C h tk m' ys news, Fr h₀ L h m → News h₀ L h ((D, lst ys) :: news) → Off1 D news → h.Ns C m' → h₀.get? C = none → h₀.get? D = none → C ≠ L → D ≠ L → C ≠ D → (∀ p ∈ news, p.1 ≠ C) → Fin s₂ ys news → RR (.ref D) C (.ok .next) { s₂ with heap := h, toks := tk }) :
    wpAny (model prog w) A (newList []) (fun acc s₃ => wpAny (model prog w) A (newFunctionEnv scope env.globals cl [] env.qual none .none (some env)) (fun cenv s₄ =>
      codeAny (model prog w) A (.compStart (.ListComp elt [⟨target, iter, ifs, 0⟩] scope pos) 0 it acc { cenv with scope := relabel scope env }) (RR acc cenv.locals) s₄) E s₃) E s₂ := by
  run_tac sqBegin
  obtain ⟨I, fp, wr, n, P, Md, St, news, Asg, Acc, rfl, W, self, hLf, hwr, hnw, hfp, hsz, hst, F, N, hA0, asg, turn, hfin⟩ := S
  refine wpAny_newObj_type (wpAny_newFunctionEnv hcell (by intro y hy; simp at hy) (fun h₁ hns₁ hsb₁ => ?_) hkind)
  dsimp only at hns₁ hsb₁ ⊢
  generalize hH2 : s₂.heap.push { cls := .type "list", dict := none, data := .seq ([] : List Value).toArray } = H2 at hns₁ hsb₁ ⊢
  have hC : H2.objs.size = s₂.heap.objs.size + 1 := by rw [← hH2, Heap.size_push]
  have hDC : s₂.heap.objs.size ≠ H2.objs.size := by rw [hC]; exact Nat.ne_of_lt (Nat.lt_succ_self _)
  have below : ∀ b, b < s₂.heap.objs.size → b ≠ H2.objs.size ∧ b ≠ s₂.heap.objs.size := fun b hb => ⟨by rw [hC]; exact Nat.ne_of_lt (Nat.lt_succ_of_lt hb), Nat.ne_of_lt hb⟩
  have hDf : s₂.heap.objs.size ∉ fp := fun hm => Nat.lt_irrefl _ (hfp _ hm)
  have hCf : H2.objs.size ∉ fp := fun hm => by have := hfp _ hm; rw [hC] at this; exact Nat.lt_irrefl _ (Nat.lt_of_succ_lt this)
  have hDw : s₂.heap.objs.size ∉ wr := fun hm => hDf (W.sub _ hm)
  have hCw : H2.objs.size ∉ wr := fun hm => hCf (W.sub _ hm)
  have hLw : L ∉ wr := fun hm => hLf (W.sub _ hm)
  have old : ∀ b o, s₂.heap.get? b = some o → h₁.get? b = some o := fun b o e => hsb₁.extBut b o (below b (Heap.lt_size e)).1 (Heap.get?_push_of_some _ (hH2 ▸ Heap.get?_push_of_some _ e))
  have hacc : h₁.get? s₂.heap.objs.size = some (lst []) := hsb₁.extBut _ _ hDC (Heap.get?_push_of_some _ (hH2 ▸ Heap.get?_push_size _ rfl))
  have hst₁ : St 0 h₁ := W.frame _ _ _ hst fun b _ o e => old b o e
  have fresh : ∀ a, s₂.heap.objs.size ≤ a → s₂.heap.get? a = none := fun a ha => by
    cases e : s₂.heap.get? a with
    | none => rfl
    | some o' => exact absurd (Heap.lt_size e) (Nat.not_lt.mpr ha)
  have fresh₀ : ∀ a, s₂.heap.objs.size ≤ a → h₀.get? a = none := fun a ha => by
    cases e : h₀.get? a with
    | none => rfl
    | some o' => have := F.keep a o' e; rw [fresh a ha] at this; cases this
  have hD₀ : h₀.get? s₂.heap.objs.size = none := fresh₀ _ (Nat.le_refl _)
  have hC₀ : h₀.get? H2.objs.size = none := fresh₀ _ (by rw [hC]; exact Nat.le_succ _)
  have hLlt : L < s₂.heap.objs.size := F.ns.lt
  have hDL : s₂.heap.objs.size ≠ L := Ne.symm (below L hLlt).2
  have hCL : H2.objs.size ≠ L := Ne.symm (below L hLlt).1
  have offD : ∀ p ∈ news, p.1 ≠ s₂.heap.objs.size := fun p hp => (below _ (Heap.lt_size (N p hp).1)).2
  have offC : ∀ p ∈ news, p.1 ≠ H2.objs.size := fun p hp => (below _ (Heap.lt_size (N p hp).1)).1
  have off1 : ∀ l : List (Addr × Obj), (∀ p ∈ l, p.1 ≠ s₂.heap.objs.size) → Off1 s₂.heap.objs.size l := by
    intro l
    induction l with
    | nil => exact fun _ => trivial
    | cons q r ih => exact fun hq => ⟨hq q List.mem_cons_self, ih fun p hp => hq p (List.mem_cons_of_mem _ hp)⟩
  have old₀ : ∀ b o, h₀.get? b = some o → b ∉ wr := fun b o e hb => by rw [hwr b hb] at e; cases e
  have loop : ∀ s₃ : Shared, s₃ = { s₂ with heap := h₁, toks := s₂.toks + ([] : List (PySem.Str × Value)).length } →
      codeAny (model prog w) A (.compLoop (.ListComp elt [⟨target, iter, ifs, 0⟩] scope pos) 0 (.ref I) (.ref s₂.heap.objs.size) (compEnvC scope cl H2.objs.size env))
        (RR (.ref s₂.heap.objs.size) H2.objs.size) s₃ := by
    rintro s₃ rfl
    refine comp_loop
      (fun k s' => ∃ h' tk i ys m', s' = { s₂ with heap := h', toks := tk } ∧ i ≤ n ∧ k = n + 1 - i ∧ ys.length ≤ i ∧ St i h' ∧ Fr h₀ L h' m ∧ h'.Ns H2.objs.size m' ∧ News h₀ L h' ((s₂.heap.objs.size, lst ys) :: news) ∧ Acc i ys) ?_ (n + 1)
      ⟨h₁, _, 0, [], _, rfl, Nat.zero_le _, rfl, Nat.le_refl _, hst₁, F.keeps old, hns₁, fun p hp => ?_, hA0⟩
    · rintro k s' ⟨h', tk, i, ys, m', rfl, hi, rfl, hyl, hst', F', hn', N', hAcc⟩
      have fr : ∀ hh : Heap, (∀ b o, b ∉ wr → h'.get? b = some o → hh.get? b = some o) → Fr h₀ L hh m ∧ hh.Ns H2.objs.size m' ∧ News h₀ L hh ((s₂.heap.objs.size, lst ys) :: news) := fun hh hk =>
        ⟨⟨F'.ns.at' fun o e => hk L o hLw e, fun b o e => hk b o (old₀ b o e) (F'.keep b o e), F'.above⟩, hn'.at' fun o e => hk _ o hCw e, fun p hp => ⟨hk _ _ (by
          rcases List.mem_cons.mp hp with rfl | hp
          · exact hDw
          · exact hnw p hp) (N' p hp).1, (N' p hp).2⟩⟩
      by_cases hlt : i < n
      · refine W.item i _ _ _ hlt hst' fun v h₂ tk₂ hMd hk₂ => ?_
        refine W.go i v _ _ _ hMd fun h₃ hP hst₃ hk₃ => ?_
        obtain ⟨F₃, hn₃, N₃⟩ := fr h₃ fun b o hb e => hk₃ b o hb (hk₂ b o hb e)
        refine asg i v H2.objs.size m' _ _ _ hlt hP hn₃ fun h₄ tk₄ m₄ hn₄ hAs hk₄ => ?_
        have hst₄ : St (i + 1) h₄ := W.frame _ _ _ hst₃ fun b hb o e => hk₄ b o (fun q => hCf (by rw [← q]; exact hb)) e
        have F₄ : Fr h₀ L h₄ m := ⟨F₃.ns.at' fun o e => hk₄ L o (Ne.symm hCL) e, fun b o e => hk₄ b o (fun q => by rw [q, hC₀] at e; cases e) (F₃.keep b o e), F₃.above⟩
        have N₄ : News h₀ L h₄ ((s₂.heap.objs.size, lst ys) :: news) := fun p hp => ⟨hk₄ _ _ (by
          rcases List.mem_cons.mp hp with rfl | hp
          · exact hDC
          · exact offC p hp) (N₃ p hp).1, (N₃ p hp).2⟩
        refine wpAny_mono (turn i ys H2.objs.size m₄ h₄ tk₄ _ hlt hAcc hAs hn₄ F₄ fun p hp => N₄ p (List.mem_cons_of_mem _ hp)) (fun ok s₅ h₅ => ?_) fun _ _ e => e
        obtain ⟨⟨h₅, tk₅, rfl, hk₅⟩, rest⟩ := h₅
        have hst₅ : St (i + 1) h₅ := W.frame _ _ _ hst₄ fun b _ o e => hk₅ b o e
        cases ok with
        | false =>
          exact ⟨n + 1 - (i + 1), by omega, h₅, tk₅, i + 1, ys, _, rfl, hlt, rfl, Nat.le_succ_of_le hyl, hst₅, F₄.keeps hk₅, hn₄.keeps hk₅, N₄.grown hk₅, rest⟩
        | true =>
          refine wpAny_mono rest (fun y s₆ h₆ => ?_) fun _ _ e => e
          obtain ⟨⟨h₆, tk₆, rfl, hk₆⟩, hAcc'⟩ := h₆
          have up : ∀ b o, h₄.get? b = some o → h₆.get? b = some o := fun b o e => hk₆ b o (hk₅ b o e)
          have N₆ := N₄.grown up
          have zD := (N₆ (s₂.heap.objs.size, lst ys) List.mem_cons_self).1
          refine append_at (hsz := by show ys.toArray.size ≤ sizeLine; rw [List.size_toArray]; exact Nat.le_trans hyl (Nat.le_trans hi hsz)) zD fun h₇ hs₇ hD₇ => ?_
          refine ⟨n + 1 - (i + 1), by omega, h₇, tk₆, i + 1, ys ++ [y], _, rfl, hlt, rfl, by rw [List.length_append, List.length_singleton]; omega, W.frame _ _ _ hst₅ fun b hb o e => hs₇.extBut b o (fun q => hDf (q ▸ hb)) (hk₆ b o e),
            (F₄.keeps up).change hs₇ hDL hD₀, (hn₄.keeps up).sameBut hs₇ (Ne.symm hDC), fun p hp => ?_, hAcc'⟩
          rcases List.mem_cons.mp hp with rfl | hp
          · exact ⟨hD₇.trans (congrArg some (lst_snoc ys y)), hDL, hD₀⟩
          · have z := N₆ p (List.mem_cons_of_mem _ hp)
            exact ⟨hs₇.extBut _ _ (offD p hp) z.1, z.2⟩
      · obtain rfl : i = n := Nat.le_antisymm hi (Nat.not_lt.mp hlt)
        refine W.done _ _ _ hst' fun h₂ tk₂ hk₂ => ?_
        obtain ⟨F₂, hn₂, N₂⟩ := fr h₂ hk₂
        exact hRR _ _ h₂ tk₂ _ ys news F₂ N₂ (off1 _ offD) hn₂ hC₀ hD₀ hCL hDL (Ne.symm hDC) offC (hfin ys hAcc)
    · rcases List.mem_cons.mp hp with rfl | hp
      · exact ⟨hacc, hDL, hD₀⟩
      · exact ⟨old _ _ (N p hp).1, (N p hp).2⟩
  exact codeAny_compStart_list (loop _ rfl) (self _ _ _ hst₁ (loop _ rfl))
  run_tac sqEnd

theorem comp_eval {elt target iter : PySem.Expr} {ifs : List PySem.Expr} {scope : Scope} {cl : List (PySem.Str × Addr)} {pos : Pos} {s : Shared} {Q : Value → Shared → Prop} (F₀ : Fr h₀ L s.heap m)
    (hclos : closureFor scope env = pure cl) (hcell : ∀ y ∈ scope.names, y.2 ≠ .cell) (hkind : scope.kind = .function)
    (hnames : ∀ y ∈ scope.names, y.2 = .local → scope.names.lookup y.1 = some .local)
    (h : wpAny (model prog w) A (eval iter env) (fun xv s₁ => wpAny (model prog w) A (pyIter xv) (CSrc prog w A h₀ L m env target elt ifs scope cl (fun s₂ => FinE h₀ L m s₂ Q)) E s₁) E s)
    (hs : ∀ x, foldedSetIterable iter env x = pure x := by intro _; rfl) :
    wpAny (model prog w) A (eval (.ListComp elt [⟨target, iter, ifs, 0⟩] scope pos) env) Q E s := by
  run_tac sqBegin
  rw [eval_ListComp]
  refine wpAny_comprehension_free (use := none) rfl hs hclos hkind hnames (wpAny_mono h (fun xv s₁ h₁ => wpAny_mono h₁ (fun it s₂ h₂ => ?_) fun _ _ e => e) fun _ _ e => e)
  refine comp_block hcell hkind h₂ ?_
  intro D C h' tk m' ys news F' N' o1 hn hC₀ hD₀ hCL hDL hCD offC fin
  refine ⟨m', hn, fun h'' hs'' => fin D h'' tk (F'.change hs'' hCL hC₀) (fun p hp => ?_) o1⟩
  refine ⟨hs''.extBut _ _ ?_ (N' p hp).1, (N' p hp).2⟩
  rcases List.mem_cons.mp hp with rfl | hp
  · exact Ne.symm hCD
  · exact offC p hp
  run_tac sqEnd

theorem comp_assign {elt target iter : PySem.Expr} {ifs : List PySem.Expr} {y : PySem.Str} {py : Pos} {scope : Scope} {cl : List (PySem.Str × Addr)} {pos spos : Pos} {s : Shared} {Q : Flow → Shared → Prop} (F₀ : Fr h₀ L s.heap m) (hLe : env.locals = L)
    (hsw : swapsWith (.ListComp elt [⟨target, iter, ifs, 0⟩] scope pos) (some (.Name y py)) spos.line env = pure true)
    (hclos : closureFor scope env = pure cl) (hcell : ∀ z ∈ scope.names, z.2 ≠ .cell) (hkind : scope.kind = .function)
    (hnames : ∀ z ∈ scope.names, z.2 = .local → scope.names.lookup z.1 = some .local)
    (hy : env.kindOf y = some .local) (hp : (env.scope.kind == .class || (env.scope.kind == .module && env.locals != env.globals)) = false)
    (h : wpAny (model prog w) A (eval iter env) (fun xv s₁ => wpAny (model prog w) A (pyIter xv) (CSrc prog w A h₀ L m env target elt ifs scope cl (fun s₂ => FinA h₀ L m s₂ y Q)) E s₁) E s)
    (hs : ∀ x, foldedSetIterable iter env x = pure x := by intro _; rfl) :
    wpAny (model prog w) A (exec (.Assign [.Name y py] (.ListComp elt [⟨target, iter, ifs, 0⟩] scope pos) spos) env) Q E s := by
  run_tac sqBegin
  subst hLe
  rw [exec_Assign_Name_used _ _ _ _ hsw]
  refine wpAny_bind (wpAny_standAt (wpAny_bind ?_))
  show wpAny _ A (do let _ ← comprehension (.ListComp elt [⟨target, iter, ifs, 0⟩] scope pos) scope env _ (newList []) false (eval iter env) (some (assign (.Name y py) env))) _ _ s
  refine wpAny_bind (wpAny_mono (wpAny_comprehension_free (use := some (assign (.Name y py) env)) (Q := fun _ s' => Q .next s') rfl hs hclos hkind hnames
    (wpAny_mono h (fun xv s₁ h₁ => wpAny_mono h₁ (fun it s₂ h₂ => ?_) fun _ _ e => e) fun _ _ e => e)) (fun _ s' hq => wpAny_pure (wpAny_pure hq)) fun _ _ e => e)
  refine comp_block hcell hkind h₂ ?_
  intro D C h' tk m' ys news F' N' o1 hn hC₀ hD₀ hCL hDL hCD offC fin
  show wpAny _ A (assign (.Name y py) env (.ref D)) _ _ _
  refine wpAny_assign_Name (wpAny_storeName_local hy F'.ns (fun h₂ hn₂ hs₂ => ?_) hp)
  have hL₀ : h₀.get? env.locals = none := Heap.get?_none_of_le F'.above
  have F₂ : Fr h₀ env.locals h₂ (fun z => if z = y then some (.ref D) else m z) := ⟨hn₂, fun b o e => hs₂.extBut b o (fun q => by rw [q, hL₀] at e; cases e) (F'.keep b o e), F'.above⟩
  refine ⟨m', hn.sameBut hs₂ hCL, fun h'' hs'' => fin D h'' _ (F₂.change hs'' hCL hC₀) (fun p hp => ?_) o1⟩
  have z : h₂.get? p.1 = some p.2 := hs₂.extBut _ _ (N' p hp).2.1 (N' p hp).1
  refine ⟨hs''.extBut _ _ ?_ z, (N' p hp).2⟩
  rcases List.mem_cons.mp hp with rfl | hp
  · exact Ne.symm hCD
  · exact offC p hp
  run_tac sqEnd
end
end Mine
end

section
open PySem PySem.W PyProof.Rows PyProof.Rows.LCg PySem.Calls
set_option maxRecDepth 100000
namespace Mine
section
variable {prog : Program} {w : World} {A : Around} {E : Value → Shared → Prop} {env : Env} {h₀ : Heap} {L : Addr} {m : PySem.Str → Option Value} {s : Shared} {news : List (Addr × Obj)}
variable {elt : PySem.Expr} {ifs : List PySem.Expr} {scope : Scope} {cl : List (PySem.Str × Addr)} {Fin : Shared → List Value → List (Addr × Obj) → Prop} {Acc : Nat → List Value → Prop}

theorem asg_name {x : PySem.Str} {px : Pos} {C : Addr} {m₂ : PySem.Str → Option Value} {v : Value} {Q : Unit → Shared → Prop} (hkind : scope.kind = .function) (hx : scope.names.lookup x = some .local) (hn : s.heap.Ns C m₂)
    (h : ∀ h' tk, h'.Ns C (fun z => if z = x then some v else m₂ z) → (∀ c o, c ≠ C → s.heap.get? c = some o → h'.get? c = some o) → Q () { s with heap := h', toks := tk }) :
    wpAny (model prog w) A (assign (.Name x px) (compEnvC scope cl C env) v) Q E s :=
  wpAny_assign_Name (wpAny_storeName_local (lookup_relabel_local hx) hn (fun h' hn' hs' => h h' _ hn' fun c o hc e => hs'.extBut c o hc e) (by simp [compEnvC, relabel, hkind]))

/-- one turn of a comprehension: the test, then the item -/
noncomputable def CTurn (prog : Program) (w : World) (A : Around) (ifs : List PySem.Expr) (elt : PySem.Expr) (cenv : Env) (Acc : Nat → List Value → Prop) (i : Nat) (ys : List Value) (s : Shared) (E' : Value → Shared → Prop) : Prop :=
  wpAny (model prog w) A (Tests ifs cenv) (fun ok s₃ => Keeps s s₃ ∧ if ok = true then wpAny (model prog w) A (eval elt cenv) (fun y s₄ => Keeps s₃ s₄ ∧ Acc (i + 1) (ys ++ [y])) E' s₃ else Acc (i + 1) ys) E' s
theorem keeps_self (s : Shared) : Keeps s s := ⟨s.heap, s.toks, rfl, fun _ _ e => e⟩
theorem cturn_nil {cenv : Env} {i : Nat} {ys : List Value} {E' : Value → Shared → Prop} (h : wpAny (model prog w) A (eval elt cenv) (fun y s₄ => Keeps s s₄ ∧ Acc (i + 1) (ys ++ [y])) E' s) : CTurn prog w A [] elt cenv Acc i ys s E' :=
  wpAny_tests_nil ⟨keeps_self s, by rw [if_pos rfl]; exact h⟩
theorem cturn_one {cenv : Env} {c : PySem.Expr} {i : Nat} {ys : List Value} {E' : Value → Shared → Prop} (h : wpAny (model prog w) A (isTrue c cenv (eval c cenv)) (fun ok s₃ => Keeps s s₃ ∧ if ok = true then wpAny (model prog w) A (eval elt cenv) (fun y s₄ => Keeps s₃ s₄ ∧ Acc (i + 1) (ys ++ [y])) E' s₃ else Acc (i + 1) ys) E' s) : CTurn prog w A [c] elt cenv Acc i ys s E' :=
  wpAny_tests_one h

theorem push_keep {h : Heap} {o : Obj} : ∀ b x, h.get? b = some x → (h.push o).get? b = some x := fun _ _ e => Heap.get?_push_of_some _ e

theorem csrc_walks {x : PySem.Str} {px : Pos} {I : Addr} {fp : List Addr} {n : Nat} {P : Nat → Value → Prop} {St : Nat → Heap → Prop} (W : Walks prog w A I fp [I] n P St)
    (hkind : scope.kind = .function) (hx : scope.names.lookup x = some .local) (hLf : L ∉ fp) (hI : h₀.get? I = none) (hnI : ∀ p ∈ news, p.1 ≠ I) (hfp : ∀ b ∈ fp, b < s.heap.objs.size) (hsz : n ≤ sizeLine) (hst : St 0 s.heap) (F : Fr h₀ L s.heap m) (N : News h₀ L s.heap news) (hA : Acc 0 [])
    (turn : ∀ i v ys C m₃ h tk (E' : Value → Shared → Prop), i < n → P i v → Acc i ys → m₃ x = some v → h.Ns C m₃ → Fr h₀ L h m → News h₀ L h news → CTurn prog w A ifs elt (compEnvC scope cl C env) Acc i ys { s with heap := h, toks := tk } E')
    (fin : ∀ ys, Acc n ys → Fin s ys news) : CSrc prog w A h₀ L m env (.Name x px) elt ifs scope cl Fin (.ref I) s := by
  run_tac sqBegin
  refine ⟨I, fp, [I], n, _, _, St, news, fun i m₃ => ∃ v, P i v ∧ m₃ x = some v, Acc, rfl, KTurns.ofWalks (target := .Name x px) W (fun i v s Q E _ q => wpAny_pure q), fun s Q E st q => W.self 0 s Q E st q, hLf, by simpa using hI, by simpa using hnI, hfp, hsz, hst, F, N, hA, ?_, ?_, fin⟩
  · intro i v C m₂ s Q E hi hP hn k
    exact asg_name hkind hx hn fun h' tk hn' hk => k h' tk _ hn' ⟨v, hP, by simp⟩ hk
  · rintro i ys C m₃ h tk E' hi hAcc ⟨v, hP, hv⟩ hn F' N'
    exact turn i v ys C m₃ h tk E' hi hP hAcc hv hn F' N'
  run_tac sqEnd

theorem csrc_list {x : PySem.Str} {px : Pos} {l : Addr} {vs : List Value} (hh : A.handled = none) (F : Fr h₀ L s.heap m) (N : News h₀ L s.heap news) (hl : s.heap.IsList l vs.toArray) (hlL : l ≠ L)
    (hsz : vs.length ≤ sizeLine) (hkind : scope.kind = .function) (hx : scope.names.lookup x = some .local) (hA : Acc 0 [])
    (turn : ∀ i v ys C m₃ h tk (E' : Value → Shared → Prop), vs[i]? = some v → Acc i ys → m₃ x = some v → h.Ns C m₃ → Fr h₀ L h m → News h₀ L h news → CTurn prog w A ifs elt (compEnvC scope cl C env) Acc i ys { s with heap := h, toks := tk } E')
    (fin : ∀ s₂, (∃ h, s₂ = { s with heap := h }) → ∀ ys, Acc vs.length ys → Fin s₂ ys news) : wpAny (model prog w) A (pyIter (.ref l)) (CSrc prog w A h₀ L m env (.Name x px) elt ifs scope cl Fin) E s := by
  have hlt : l < s.heap.objs.size := by obtain ⟨_, e, _⟩ := hl; exact Heap.lt_size e
  refine wpAny_pyIter_list hl ?_
  have W := Walks.list (prog := prog) (w := w) hh s.heap.objs.size l (Nat.ne_of_lt hlt) vs.toArray
  rw [List.size_toArray] at W
  refine csrc_walks (n := vs.length) W hkind hx ?_ (next_is_new F) (fun p hp => Nat.ne_of_lt (Heap.lt_size (N p hp).1)) ?_ hsz ⟨⟨_, Heap.get?_push_size _ rfl, rfl, rfl⟩, hl.push _⟩ (F.keeps push_keep) (N.grown push_keep) hA ?_ (fin _ ⟨_, rfl⟩)
  · intro hm
    rcases List.mem_cons.mp hm with e | hm
    · exact absurd F.ns.lt (e ▸ Nat.lt_irrefl _)
    · exact hlL (List.mem_singleton.mp hm).symm
  · intro b hb
    show b < (s.heap.push _).objs.size
    rw [Heap.size_push]
    rcases List.mem_cons.mp hb with rfl | hb
    · exact Nat.lt_succ_self _
    · rw [List.mem_singleton.mp hb]; exact Nat.lt_succ_of_lt hlt
  · intro i v ys C m₃ h tk E' hi hP
    exact turn i v ys C m₃ h tk E' (by simpa using hP)

theorem csrc_range {x : PySem.Str} {px : Pos} {r : Addr} {a b : Int} {t u v : Tok} {n : Nat} (hh : A.handled = none) (F : Fr h₀ L s.heap m) (N : News h₀ L s.heap news) (hr : IsRange s.heap r a b 1 t u v) (hsm : Builtin.Range.small a b 1 = true) (hn : Builtin.Range.rangeSize a b 1 = ((n : Nat) : Int)) (hsz : n ≤ sizeLine)
    (hkind : scope.kind = .function) (hx : scope.names.lookup x = some .local) (hA : Acc 0 [])
    (turn : ∀ i t ys C m₃ h tk (E' : Value → Shared → Prop), i < n → Acc i ys → m₃ x = some (.int (a + (i : Int)) t) → h.Ns C m₃ → Fr h₀ L h m → News h₀ L h news → CTurn prog w A ifs elt (compEnvC scope cl C env) Acc i ys { s with heap := h, toks := tk } E')
    (fin : ∀ s₂, (∃ h, s₂ = { s with heap := h }) → ∀ ys, Acc n ys → Fin s₂ ys news) : wpAny (model prog w) A (pyIter (.ref r)) (CSrc prog w A h₀ L m env (.Name x px) elt ifs scope cl Fin) E s := by
  run_tac sqBegin
  refine wpAny_pyIter_range hr hsm ?_
  have W := range_walks (prog := prog) (w := w) (I := s.heap.objs.size) hh a n
  refine csrc_walks W hkind hx ?_ (next_is_new F) (fun p hp => Nat.ne_of_lt (Heap.lt_size (N p hp).1)) ?_ hsz (by show IsRangeIter _ _ _ _ _; rw [hn]; simpa using Heap.get?_push_size _ rfl) (F.keeps push_keep) (N.grown push_keep) hA ?_ (fin _ ⟨_, rfl⟩)
  · intro hm
    exact absurd F.ns.lt ((List.mem_singleton.mp hm) ▸ Nat.lt_irrefl _)
  · intro b hb
    rw [List.mem_singleton.mp hb]
    show s.heap.objs.size < (s.heap.push _).objs.size
    rw [Heap.size_push]; exact Nat.lt_succ_self _
  · rintro i v ys C m₃ h tk E' hi ⟨t, rfl⟩ hA' hm
    exact turn i t ys C m₃ h tk E' hi hA' hm
  run_tac sqEnd

theorem csrc_bytes {x : PySem.Str} {px : Pos} {b : Array UInt8} {tb : Tok} {ks : List Int} (hk : KBw.bInts b = ks) (hh : A.handled = none) (F : Fr h₀ L s.heap m) (N : News h₀ L s.heap news) (hsz : ks.length ≤ sizeLine)
    (hkind : scope.kind = .function) (hx : scope.names.lookup x = some .local) (hA : Acc 0 [])
    (turn : ∀ i k t ys C m₃ h tk (E' : Value → Shared → Prop), ks[i]? = some k → Acc i ys → m₃ x = some (.int k t) → h.Ns C m₃ → Fr h₀ L h m → News h₀ L h news → CTurn prog w A ifs elt (compEnvC scope cl C env) Acc i ys { s with heap := h, toks := tk } E')
    (fin : ∀ s₂, (∃ h, s₂ = { s with heap := h }) → ∀ ys, Acc ks.length ys → Fin s₂ ys news) : wpAny (model prog w) A (pyIter (.bytes b tb)) (CSrc prog w A h₀ L m env (.Name x px) elt ifs scope cl Fin) E s := by
  run_tac sqBegin
  subst hk
  refine KBw.pyIter_bytes ?_
  have W := KBw.walks (prog := prog) (w := w) hh s.heap.objs.size b tb
  rw [← KBw.ints_length] at W
  refine csrc_walks (n := (KBw.bInts b).length) W hkind hx ?_ (next_is_new F) (fun p hp => Nat.ne_of_lt (Heap.lt_size (N p hp).1)) ?_ hsz ⟨_, Heap.get?_push_size _ rfl, rfl, rfl⟩ (F.keeps push_keep) (N.grown push_keep) hA ?_ (fin _ ⟨_, rfl⟩)
  · intro hm
    exact absurd F.ns.lt ((List.mem_singleton.mp hm) ▸ Nat.lt_irrefl _)
  · intro b hb
    rw [List.mem_singleton.mp hb]
    show s.heap.objs.size < (s.heap.push _).objs.size
    rw [Heap.size_push]; exact Nat.lt_succ_self _
  · rintro i v ys C m₃ h tk E' hi ⟨c, u, hc, rfl⟩ hA' hm
    exact turn i _ u ys C m₃ h tk E' (KBw.ints_get hc) hA' hm
  run_tac sqEnd

theorem csrc_zip {x₁ x₂ : PySem.Str} {p₁ p₂ tp : Pos} {kk : Nat} {l1 l2 : Addr} {xs ys : List Value} (hh : A.handled = none) (F : Fr h₀ L s.heap m) (N : News h₀ L s.heap news)
    (hl1 : s.heap.IsList l1 xs.toArray) (hl2 : s.heap.IsList l2 ys.toArray) (hlL1 : l1 ≠ L) (hlL2 : l2 ≠ L) (hsz : min xs.length ys.length ≤ sizeLine)
    (hkind : scope.kind = .function) (hx1 : scope.names.lookup x₁ = some .local) (hx2 : scope.names.lookup x₂ = some .local) (h12 : x₁ ≠ x₂) (hA : Acc 0 [])
    (turn : ∀ i a b zs C m₃ h tk (E' : Value → Shared → Prop), xs[i]? = some a → ys[i]? = some b → Acc i zs → m₃ x₁ = some a → m₃ x₂ = some b → h.Ns C m₃ → Fr h₀ L h m → News h₀ L h news → CTurn prog w A ifs elt (compEnvC scope cl C env) Acc i zs { s with heap := h, toks := tk } E')
    (fin : ∀ s₂, (∃ h, s₂ = { s with heap := h }) → ∀ zs, Acc (min xs.length ys.length) zs → Fin s₂ zs news) :
    wpAny (model prog w) A (call (.type "zip") [.ref l1, .ref l2]) (fun xv s₁ => wpAny (model prog w) A (pyIter xv) (CSrc prog w A h₀ L m env (.Tuple [.Name x₁ p₁, .Name x₂ p₂] kk tp) elt ifs scope cl Fin) E s₁) E s := by
  run_tac sqBegin
  have hlt1 : l1 < s.heap.objs.size := by obtain ⟨_, e, _⟩ := hl1; exact Heap.lt_size e
  have hlt2 : l2 < s.heap.objs.size := by obtain ⟨_, e, _⟩ := hl2; exact Heap.lt_size e
  have hLs : L < s.heap.objs.size := F.ns.lt
  have D := ktu_apart s.heap.objs.size l1 l2 hlt1 hlt2
  refine call_zip_2 hl1 hl2 fun h' hz hTI hTO hi1 hi2 hs5 hk => ?_
  refine wpAny_pyIter_zip hz ?_
  have W := (WalksT.zip2 (prog := prog) (w := w) hh (s.heap.objs.size + 4) (s.heap.objs.size + 2) (s.heap.objs.size + 3) s.heap.objs.size (s.heap.objs.size + 1) l1 l2 D xs.toArray ys.toArray).toU
  rw [List.size_toArray, List.size_toArray] at W
  refine ⟨_, _, _, min xs.length ys.length, _, _, _, news, fun i m₃ => ∃ a b, xs[i]? = some a ∧ ys[i]? = some b ∧ m₃ x₁ = some a ∧ m₃ x₂ = some b, Acc, rfl, KTurns.ofWalksU (elts := [.Name x₁ p₁, .Name x₂ p₂]) (k := kk) (pos := tp) W, fun s Q E st q => W.self 0 s Q E st q, ?_, ?_, ?_, ?_, hsz, ⟨hz, hTI, ⟨_, _, hTO⟩, hi1, hi2, hl1.at fun o e => hk _ o e, hl2.at fun o e => hk _ o e⟩, F.keeps hk, N.grown hk, hA, ?_, ?_, fin _ ⟨_, rfl⟩⟩
  · intro hI'
    have hb' : L = s.heap.objs.size + 4 ∨ L = s.heap.objs.size + 2 ∨ L = s.heap.objs.size + 3 ∨ L = s.heap.objs.size ∨ L = s.heap.objs.size + 1 ∨ L = l1 ∨ L = l2 := by simpa using hI'
    have hLs' : @LT.lt Nat _ L s.heap.objs.size := hLs
    rcases hb' with e | e | e | e | e | e | e
    · exact ktu_ne 4 hLs e
    · exact ktu_ne 2 hLs e
    · exact ktu_ne 3 hLs e
    · exact Nat.ne_of_lt hLs e
    · exact ktu_ne 1 hLs e
    · exact hlL1 e.symm
    · exact hlL2 e.symm
  · intro b hb
    have hb' : b = s.heap.objs.size + 4 ∨ b = s.heap.objs.size + 3 ∨ b = s.heap.objs.size ∨ b = s.heap.objs.size + 1 := by simpa using hb
    rcases hb' with rfl | rfl | rfl | rfl
    · exact ktu_new F (Nat.le_add_right _ _)
    · exact ktu_new F (Nat.le_add_right _ _)
    · exact ktu_new F (Nat.le_refl _)
    · exact ktu_new F (Nat.le_add_right _ _)
  · intro p hp hI'
    have hb' : p.1 = s.heap.objs.size + 4 ∨ p.1 = s.heap.objs.size + 3 ∨ p.1 = s.heap.objs.size ∨ p.1 = s.heap.objs.size + 1 := by simpa using hI'
    have hlp := Heap.lt_size (N p hp).1
    rcases hb' with e | e | e | e
    · exact ktu_ne 4 hlp e
    · exact ktu_ne 3 hlp e
    · exact Nat.ne_of_lt hlp e
    · exact ktu_ne 1 hlp e
  · intro b hb
    show b < h'.objs.size
    rw [hs5]
    have hb' : b = s.heap.objs.size + 4 ∨ b = s.heap.objs.size + 2 ∨ b = s.heap.objs.size + 3 ∨ b = s.heap.objs.size ∨ b = s.heap.objs.size + 1 ∨ b = l1 ∨ b = l2 := by simpa using hb
    rcases hb' with rfl | rfl | rfl | rfl | rfl | rfl | rfl
    · exact Nat.lt_succ_self _
    · exact Nat.add_lt_add_left (by decide) _
    · exact Nat.add_lt_add_left (by decide) _
    · exact Nat.lt_add_of_pos_right (by decide)
    · exact Nat.add_lt_add_left (by decide) _
    · exact Nat.lt_add_right _ hlt1
    · exact Nat.lt_add_right _ hlt2
  · rintro i v C m₂ s Q E hi ⟨T, vals, rfl, ⟨a, b, ha, hb, rfl⟩, hT⟩ hn k
    refine kcp_assign (env := compEnvC scope cl C env) hh hT (lookup_relabel_local hx1) (lookup_relabel_local hx2) (by simp [compEnvC, relabel, hkind]) hn fun h' tk hn' hk' => ?_
    exact k h' tk _ hn' ⟨a, b, by simpa using ha, by simpa using hb, by simp [h12], by simp⟩ hk'
  · rintro i zs C m₃ h tk E' hi hAcc ⟨a, b, ha, hb, h1, h2⟩ hn F' N'
    exact turn i a b zs C m₃ h tk E' ha hb hAcc h1 h2 hn F' N'
  run_tac sqEnd

theorem csrc_enum {x₁ x₂ : PySem.Str} {p₁ p₂ tp : Pos} {kk : Nat} {l : Addr} {vs : List Value} (hh : A.handled = none) (F : Fr h₀ L s.heap m) (N : News h₀ L s.heap news)
    (hl : s.heap.IsList l vs.toArray) (hlL : l ≠ L) (hsz : vs.length ≤ sizeLine)
    (hkind : scope.kind = .function) (hx1 : scope.names.lookup x₁ = some .local) (hx2 : scope.names.lookup x₂ = some .local) (h12 : x₁ ≠ x₂) (hA : Acc 0 [])
    (turn : ∀ i t b zs C m₃ h tk (E' : Value → Shared → Prop), vs[i]? = some b → Acc i zs → m₃ x₁ = some (.int (i : Int) t) → m₃ x₂ = some b → h.Ns C m₃ → Fr h₀ L h m → News h₀ L h news → CTurn prog w A ifs elt (compEnvC scope cl C env) Acc i zs { s with heap := h, toks := tk } E')
    (fin : ∀ s₂, (∃ h, s₂ = { s with heap := h }) → ∀ zs, Acc vs.length zs → Fin s₂ zs news) :
    wpAny (model prog w) A (call (.type "enumerate") [.ref l]) (fun xv s₁ => wpAny (model prog w) A (pyIter xv) (CSrc prog w A h₀ L m env (.Tuple [.Name x₁ p₁, .Name x₂ p₂] kk tp) elt ifs scope cl Fin) E s₁) E s := by
  run_tac sqBegin
  have hlt : l < s.heap.objs.size := by obtain ⟨_, e, _⟩ := hl; exact Heap.lt_size e
  have hLs : L < s.heap.objs.size := F.ns.lt
  refine call_enumerate_list hl fun h' hE hI hs2 hk => ?_
  refine wpAny_pyIter_enum hE ?_
  have W := (WalksT.enumerate (prog := prog) (w := w) hh (s.heap.objs.size + 1) s.heap.objs.size l (Nat.succ_ne_self _) (ktu_ne 1 hlt) (Nat.ne_of_lt hlt) vs.toArray).toU
  rw [List.size_toArray] at W
  refine ⟨_, _, _, vs.length, _, _, _, news, fun i m₃ => ∃ t b, vs[i]? = some b ∧ m₃ x₁ = some (.int (i : Int) t) ∧ m₃ x₂ = some b, Acc, rfl, KTurns.ofWalksU (elts := [.Name x₁ p₁, .Name x₂ p₂]) (k := kk) (pos := tp) W, fun s Q E st q => W.self 0 s Q E st q, ?_, ?_, ?_, ?_, hsz, ⟨⟨_, hE⟩, hI, hl.at fun o e => hk _ o e⟩, F.keeps hk, N.grown hk, hA, ?_, ?_, fin _ ⟨_, rfl⟩⟩
  · intro hI'
    have hb' : L = s.heap.objs.size + 1 ∨ L = s.heap.objs.size ∨ L = l := by simpa using hI'
    rcases hb' with e | e | e
    · exact ktu_ne 1 hLs e
    · exact Nat.ne_of_lt hLs e
    · exact hlL e.symm
  · intro b hb
    have hb' : b = s.heap.objs.size + 1 ∨ b = s.heap.objs.size := by simpa using hb
    rcases hb' with rfl | rfl
    · exact ktu_new F (Nat.le_add_right _ _)
    · exact ktu_new F (Nat.le_refl _)
  · intro p hp hI'
    have hb' : p.1 = s.heap.objs.size + 1 ∨ p.1 = s.heap.objs.size := by simpa using hI'
    have hlp := Heap.lt_size (N p hp).1
    rcases hb' with e | e
    · exact ktu_ne 1 hlp e
    · exact Nat.ne_of_lt hlp e
  · intro b hb
    show b < h'.objs.size
    rw [hs2]
    have hb' : b = s.heap.objs.size + 1 ∨ b = s.heap.objs.size ∨ b = l := by simpa using hb
    rcases hb' with rfl | rfl | rfl
    · exact Nat.lt_succ_self _
    · exact Nat.lt_add_of_pos_right (by decide)
    · exact Nat.lt_add_right _ hlt
  · rintro i v C m₂ s Q E hi ⟨T, vals, rfl, ⟨t, b, hb, rfl⟩, hT⟩ hn k
    refine kcp_assign (env := compEnvC scope cl C env) hh hT (lookup_relabel_local hx1) (lookup_relabel_local hx2) (by simp [compEnvC, relabel, hkind]) hn fun h' tk hn' hk' => ?_
    exact k h' tk _ hn' ⟨t, b, by simpa using hb, by simp [h12], by simp⟩ hk'
  · rintro i zs C m₃ h tk E' hi hAcc ⟨t, b, hb, h1, h2⟩ hn F' N'
    exact turn i t b zs C m₃ h tk E' hb hAcc h1 h2 hn F' N'
  run_tac sqEnd

/-- ints that are reckoned one by one -/
theorem ints_take_snoc {ys : List Value} {out : List Int} {i : Nat} {z : Int} {t : Tok} (h : IntsAre ys (out.take i)) (hz : out[i]? = some z) : IntsAre (ys ++ [.int z t]) (out.take (i + 1)) := by
  rw [List.take_add_one, hz]
  simpa using IntsAre.append h (.cons z t .nil)
/-- a name of a comprehension's own -/
theorem comp_name {x : PySem.Str} {px : Pos} {C : Addr} {m₃ : PySem.Str → Option Value} {v : Value} {Q : Value → Shared → Prop} (hkind : scope.kind = .function) (hx : scope.names.lookup x = some .local) (hn : s.heap.Ns C m₃) (hv : m₃ x = some v) (h : Q v s) (hd : (x == ("__debug__" : PySem.Str)) = false := by decide) :
    wpAny (model prog w) A (eval (.Name x px) (compEnvC scope cl C env)) Q E s :=
  wpAny_Name (wpAny_loadName_local (by simp [compEnvC, relabel, hkind]) (lookup_relabel_local hx) hn hv h) hd
theorem comp_builtin {M : Model} {K : Frag} {mg mb : PySem.Str → Option Value} {p : Program} {loose : List PySem.Str} {mean : ExcName → Option Value} {x : PySem.Str} {px : Pos} {C : Addr} {v : Value} {Q : Value → Shared → Prop}
    (F : Fr h₀ L s.heap m) (X : K.In h₀) (T : Top p loose mean mg mb h₀) (e : nsIn K mainGlobals x = some none) (hv : bootBuiltins x = some v) (hne : x ≠ "__name__") (h : Q v s)
    (hg : env.globals = mainGlobals) (hb : env.builtins = builtinsNs) (hk : (compEnvC scope cl C env).scope.kind = .function) (hx : (compEnvC scope cl C env).kindOf x = some .globalImplicit) (hd : (x == ("__debug__" : PySem.Str)) = false := by decide) :
    wpAny M A (eval (.Name x px) (compEnvC scope cl C env)) Q E s :=
  Name_function_global hk hx (loadGlobal_builtin (env := compEnvC scope cl C env) (mg := mg) (mb := mb) (by show s.heap.Ns env.globals mg; rw [hg]; exact T.g.keeps F.keep) (mg_none_of X T.g e) (by show s.heap.Ns env.builtins mb; rw [hb]; exact T.b.keeps F.keep) ((T.builtins x hne).trans hv) h) hd
end
end Mine
end

section
open PySem PySem.W PyProof.Rows PyProof.Rows.LCg PySem.Calls
set_option maxRecDepth 100000
namespace Mine
section
variable {prog : Program} {w : World} {A : Around} {E : Value → Shared → Prop} {env : Env} {h₀ : Heap} {s : Shared} {news : List (Addr × Obj)} {m₀ : PySem.Str → Option Value} {x : PySem.Str} {body : List Stmt} {Q : Flow → Shared → Prop}

/-- a turn's end -/
noncomputable def LEnd (h₀ : Heap) (L I : Addr) (oI : Obj) (Jn : (PySem.Str → Option Value) → List (Addr × Obj) → Prop) (s₁ s₂ : Shared) : Prop :=
  ∃ h' tk m₂ news₂, s₂ = { s₁ with heap := h', toks := tk } ∧ Fr h₀ L h' m₂ ∧ News h₀ L h' ((I, oI) :: news₂) ∧ (∀ p ∈ news₂, p.1 ≠ I) ∧ Jn m₂ news₂
noncomputable def LStep (h₀ : Heap) (L I : Addr) (oI : Obj) (Jn : (PySem.Str → Option Value) → List (Addr × Obj) → Prop) (Q : Flow → Shared → Prop) (s₁ : Shared) (f : Flow) (s₂ : Shared) : Prop :=
  match f with
  | .ret v => Q (.ret v) s₂
  | .brk => Q .next s₂
  | _ => LEnd h₀ L I oI Jn s₁ s₂
theorem LEnd.intro {L I : Addr} {oI : Obj} {Jn : (PySem.Str → Option Value) → List (Addr × Obj) → Prop} {s₁ : Shared} {h' : Heap} {tk : Nat} {m₂ : PySem.Str → Option Value} {all : List (Addr × Obj)} (news₂ : List (Addr × Obj)) (F : Fr h₀ L h' m₂) (N : News h₀ L h' all) (sub : ∀ p ∈ (I, oI) :: news₂, p ∈ all)
    (off : ∀ p ∈ news₂, p.1 ≠ I) (hJ : Jn m₂ news₂) : LEnd h₀ L I oI Jn s₁ { s₁ with heap := h', toks := tk } := ⟨h', tk, m₂, news₂, rfl, F, fun p hp => N p (sub p hp), off, hJ⟩

theorem loop_walks {I : Addr} {fp : List Addr} {n : Nat} {P : Nat → Value → Prop} {St : Nat → Heap → Prop} (W : Walks prog w A I fp [I] n P St) (J : Nat → (PySem.Str → Option Value) → List (Addr × Obj) → Prop)
    (hLf : env.locals ∉ fp) (hI : h₀.get? I = none) (hnI : ∀ p ∈ news, p.1 ≠ I) (hIo : ∀ i h, St i h → ∃ o, h.get? I = some o)
    (hown : ∀ b ∈ fp, b = I ∨ (∃ o, h₀.get? b = some o) ∨ ∃ o, ∀ i m₁ news₁, J i m₁ news₁ → (b, o) ∈ news₁)
    (hst : St 0 s.heap) (F : Fr h₀ env.locals s.heap m₀) (N : News h₀ env.locals s.heap news) (h0 : J 0 m₀ news)
    (step : ∀ i v m₁ news₁ oI h tk, i < n → P i v → J i m₁ news₁ → (∀ p ∈ news₁, p.1 ≠ I) → Fr h₀ env.locals h (fun y => if y = x then some v else m₁ y) → News h₀ env.locals h ((I, oI) :: news₁) →
      wpAny (model prog w) A (execs body env) (LStep h₀ env.locals I oI (J (i + 1)) Q { s with heap := h, toks := tk }) E { s with heap := h, toks := tk })
    (done : ∀ h tk m' news', Fr h₀ env.locals h m' → News h₀ env.locals h news' → J n m' news' → Q .next { s with heap := h, toks := tk }) :
    LoopAtV prog w A h₀ env x body Q E (.ref I) s := by
  run_tac sqBegin
  refine ⟨I, fp, [I], n, P, St, m₀, news, J, rfl, W, hLf, by simpa using hI, by simpa using hnI, hst, F, N, h0, ?_, fun h' tk m' news' F' N' _ hJ => done h' tk m' news' F' N' hJ⟩
  rintro i v m₁ news₁ s₁ own ⟨h, tk, rfl⟩ hi hP hJ hoff hfp hget hall hst' F₁ N₁
  have hoff' : ∀ p ∈ news₁, p.1 ≠ I := by simpa using hoff
  obtain ⟨oI, hoI⟩ := hIo _ _ hst'
  have hIo' : (I, oI) ∈ own := hall I (W.sub I (List.mem_singleton.mpr rfl)) hI oI hoI
  have NI : News h₀ env.locals h ((I, oI) :: news₁) := fun p hp => by
    rcases List.mem_cons.mp hp with rfl | hp
    · exact N₁ _ (List.mem_append_left _ hIo')
    · exact N₁ _ (List.mem_append_right _ hp)
  have fin : ∀ s₂, LEnd h₀ env.locals I oI (J (i + 1)) { s with heap := h, toks := tk } s₂ → LoopStepU h₀ env.locals [I] own (J (i + 1)) { s with heap := h, toks := tk } .next s₂ := by
    rintro s₂ ⟨h', tk', m₂, news₂, rfl, F₂, N₂, off₂, hJ₂⟩
    refine ⟨rfl, h', tk', m₂, news₂, rfl, F₂, ?_, by simpa using off₂, hJ₂⟩
    intro p hp
    rcases List.mem_append.mp hp with hp | hp
    · have g : h.get? p.1 = some p.2 := hget p hp
      rcases hown p.1 (hfp p hp) with e | ⟨o, e⟩ | ⟨o, e⟩
      · have : p = (I, oI) := by
          rw [e, hoI] at g
          exact Prod.ext e (Option.some.inj g).symm
        rw [this]
        exact N₂ _ List.mem_cons_self
      · exact absurd ((N₁ p (List.mem_append_left _ hp)).2.2) (by rw [e]; exact fun q => nomatch q)
      · have z := (NI _ (List.mem_cons_of_mem _ (e _ _ _ hJ))).1
        have : p = (p.1, o) := by
          have z' : h.get? p.1 = some o := z
          rw [g] at z'
          exact Prod.ext rfl (Option.some.inj z')
        rw [this]
        exact N₂ _ (List.mem_cons_of_mem _ (e _ _ _ hJ₂))
    · exact N₂ _ (List.mem_cons_of_mem _ hp)
  refine wpAny_mono (step i v m₁ news₁ oI h tk hi hP hJ hoff' F₁ NI) (fun f s₂ p => ?_) fun _ _ e => e
  cases f with
  | ret v => exact .ret p
  | brk => exact .brk p
  | next => exact .next (fin _ p)
  | cont => exact .cont (fin _ p)
  run_tac sqEnd

theorem loop_base {l : Addr} {vs : List Value} (J : Nat → (PySem.Str → Option Value) → List (Addr × Obj) → Prop) (hh : A.handled = none) (hl : h₀.IsList l vs.toArray)
    (F : Fr h₀ env.locals s.heap m₀) (N : News h₀ env.locals s.heap news) (h0 : J 0 m₀ news)
    (step : ∀ i v m₁ news₁ I oI h tk, vs[i]? = some v → J i m₁ news₁ → (∀ p ∈ news₁, p.1 ≠ I) → Fr h₀ env.locals h (fun y => if y = x then some v else m₁ y) → News h₀ env.locals h ((I, oI) :: news₁) →
      wpAny (model prog w) A (execs body env) (LStep h₀ env.locals I oI (J (i + 1)) Q { s with heap := h, toks := tk }) E { s with heap := h, toks := tk })
    (done : ∀ h tk m' news', Fr h₀ env.locals h m' → News h₀ env.locals h news' → J vs.length m' news' → Q .next { s with heap := h, toks := tk }) :
    wpAny (model prog w) A (pyIter (.ref l)) (fun it s₂ => LoopAtV prog w A h₀ env x body Q E it s₂) E s := by
  have hls : s.heap.IsList l vs.toArray := hl.at fun o e => F.keep l o e
  obtain ⟨ol, hol, _⟩ := id hl
  have hlt : l < h₀.objs.size := Heap.lt_size hol
  have hne : l ≠ s.heap.objs.size := Nat.ne_of_lt (Nat.lt_trans (Nat.lt_of_lt_of_le hlt F.above) F.ns.lt)
  refine wpAny_pyIter_list hls ?_
  have W := Walks.list (prog := prog) (w := w) hh s.heap.objs.size l hne vs.toArray
  rw [List.size_toArray] at W
  refine loop_walks W J ?_ (next_is_new F) (fun p hp => Nat.ne_of_lt (Heap.lt_size (N p hp).1)) (fun i h st => by obtain ⟨o, e, _⟩ := st.1; exact ⟨o, e⟩) ?_ ⟨⟨_, Heap.get?_push_size _ rfl, rfl, rfl⟩, hls.push _⟩ (F.keeps push_keep) (N.grown push_keep) h0 ?_ done
  · intro hm
    rcases List.mem_cons.mp hm with e | hm
    · exact absurd F.ns.lt (e ▸ Nat.lt_irrefl _)
    · exact absurd (Nat.lt_of_lt_of_le hlt F.above) ((List.mem_singleton.mp hm) ▸ Nat.lt_irrefl _)
  · intro b hb
    rcases List.mem_cons.mp hb with e | hb
    · exact .inl e
    · exact .inr (.inl ⟨ol, by rw [List.mem_singleton.mp hb]; exact hol⟩)
  · intro i v m₁ news₁ oI h tk hi hP hJ hoff F' N'
    exact step i v m₁ news₁ _ oI h tk (by simpa using hP) hJ hoff F' N'

theorem loop_led {l : Addr} {lo : Obj} {vs : List Value} {k : Nat} (J : Nat → (PySem.Str → Option Value) → List (Addr × Obj) → Prop) (hh : A.handled = none) (hm : (l, lo) ∈ news) (hc : lo.cls = .type "list") (hd : lo.data = .seq vs.toArray k)
    (F : Fr h₀ env.locals s.heap m₀) (N : News h₀ env.locals s.heap news) (hJl : ∀ i m₁ news₁, J i m₁ news₁ → (l, lo) ∈ news₁) (h0 : J 0 m₀ news)
    (step : ∀ i v m₁ news₁ I oI h tk, vs[i]? = some v → J i m₁ news₁ → (∀ p ∈ news₁, p.1 ≠ I) → Fr h₀ env.locals h (fun y => if y = x then some v else m₁ y) → News h₀ env.locals h ((I, oI) :: news₁) →
      wpAny (model prog w) A (execs body env) (LStep h₀ env.locals I oI (J (i + 1)) Q { s with heap := h, toks := tk }) E { s with heap := h, toks := tk })
    (done : ∀ h tk m' news', Fr h₀ env.locals h m' → News h₀ env.locals h news' → J vs.length m' news' → Q .next { s with heap := h, toks := tk }) :
    wpAny (model prog w) A (pyIter (.ref l)) (fun it s₂ => LoopAtV prog w A h₀ env x body Q E it s₂) E s := by
  have hax := N _ hm
  have hls : s.heap.IsList l vs.toArray := ⟨lo, hax.1, hc, k, hd⟩
  have hlt : l < s.heap.objs.size := Heap.lt_size hax.1
  have hne : l ≠ s.heap.objs.size := Nat.ne_of_lt hlt
  refine wpAny_pyIter_list hls ?_
  have W := Walks.list (prog := prog) (w := w) hh s.heap.objs.size l hne vs.toArray
  rw [List.size_toArray] at W
  refine loop_walks W J ?_ (next_is_new F) (fun p hp => Nat.ne_of_lt (Heap.lt_size (N p hp).1)) (fun i h st => by obtain ⟨o, e, _⟩ := st.1; exact ⟨o, e⟩) ?_ ⟨⟨_, Heap.get?_push_size _ rfl, rfl, rfl⟩, hls.push _⟩ (F.keeps push_keep) (N.grown push_keep) h0 ?_ done
  · intro hm'
    rcases List.mem_cons.mp hm' with e | hm'
    · exact absurd F.ns.lt (e ▸ Nat.lt_irrefl _)
    · exact hax.2.1 (List.mem_singleton.mp hm').symm
  · intro b hb
    rcases List.mem_cons.mp hb with e | hb
    · exact .inl e
    · exact .inr (.inr ⟨lo, fun i m₁ news₁ hJ => by rw [List.mem_singleton.mp hb]; exact hJl i m₁ news₁ hJ⟩)
  · intro i v m₁ news₁ oI h tk hi hP hJ hoff F' N'
    exact step i v m₁ news₁ _ oI h tk (by simpa using hP) hJ hoff F' N'

theorem loop_range {r : Addr} {a b : Int} {t u v : Tok} {n : Nat} (J : Nat → (PySem.Str → Option Value) → List (Addr × Obj) → Prop) (hh : A.handled = none) (hr : IsRange s.heap r a b 1 t u v) (hsm : Builtin.Range.small a b 1 = true) (hn : Builtin.Range.rangeSize a b 1 = ((n : Nat) : Int))
    (F : Fr h₀ env.locals s.heap m₀) (N : News h₀ env.locals s.heap news) (h0 : J 0 m₀ news)
    (step : ∀ i t' m₁ news₁ I oI h tk, i < n → J i m₁ news₁ → (∀ p ∈ news₁, p.1 ≠ I) → Fr h₀ env.locals h (fun y => if y = x then some (.int (a + (i : Int)) t') else m₁ y) → News h₀ env.locals h ((I, oI) :: news₁) →
      wpAny (model prog w) A (execs body env) (LStep h₀ env.locals I oI (J (i + 1)) Q { s with heap := h, toks := tk }) E { s with heap := h, toks := tk })
    (done : ∀ h tk m' news', Fr h₀ env.locals h m' → News h₀ env.locals h news' → J n m' news' → Q .next { s with heap := h, toks := tk }) :
    wpAny (model prog w) A (pyIter (.ref r)) (fun it s₂ => LoopAtV prog w A h₀ env x body Q E it s₂) E s := by
  refine wpAny_pyIter_range hr hsm ?_
  have W := range_walks (prog := prog) (w := w) (I := s.heap.objs.size) hh a n
  refine loop_walks W J ?_ (next_is_new F) (fun p hp => Nat.ne_of_lt (Heap.lt_size (N p hp).1)) (fun i h st => ⟨_, st⟩) ?_ (by show IsRangeIter _ _ _ _ _; rw [hn]; simpa using Heap.get?_push_size _ rfl) (F.keeps push_keep) (N.grown push_keep) h0 ?_ done
  · intro hm
    exact absurd F.ns.lt ((List.mem_singleton.mp hm) ▸ Nat.lt_irrefl _)
  · intro b hb
    exact .inl (List.mem_singleton.mp hb)
  · rintro i v m₁ news₁ oI h tk hi ⟨t', rfl⟩ hJ hoff F' N'
    exact step i t' m₁ news₁ _ oI h tk hi hJ hoff F' N'

/-- what a loop over ints may walk: a list of the ledger's, or a range -/
noncomputable def IntSrc (news : List (Addr × Obj)) (l : Addr) (ws : List Int) : Prop :=
  ∃ lo : Obj, (l, lo) ∈ news ∧ ((lo.cls = .type "list" ∧ ∃ vs k, lo.data = .seq (List.toArray vs) k ∧ IntsAre vs ws) ∨
    ∃ (a b : Int) (n : Nat) (t u v : Tok), lo = { cls := .type "range", dict := none, data := .fields #[.int a t, .int b u, .int 1 v], slots := #[] } ∧ Builtin.Range.small a b 1 = true ∧ Builtin.Range.rangeSize a b 1 = ((n : Nat) : Int) ∧ ws = (List.range n).map fun i : Nat => a + (i : Int))

theorem loop_ints {l : Addr} {ws : List Int} (J : Nat → (PySem.Str → Option Value) → List (Addr × Obj) → Prop) (hh : A.handled = none) (hs : IntSrc news l ws)
    (F : Fr h₀ env.locals s.heap m₀) {news' : List (Addr × Obj)} (N : News h₀ env.locals s.heap news') (hsub : ∀ p ∈ news, p ∈ news') (hJn : ∀ i m₁ news₁, J i m₁ news₁ → ∀ p ∈ news, p ∈ news₁) (h0 : J 0 m₀ news')
    (step : ∀ i z t m₁ news₁ I oI h tk, ws[i]? = some z → J i m₁ news₁ → (∀ p ∈ news₁, p.1 ≠ I) → Fr h₀ env.locals h (fun y => if y = x then some (.int z t) else m₁ y) → News h₀ env.locals h ((I, oI) :: news₁) →
      wpAny (model prog w) A (execs body env) (LStep h₀ env.locals I oI (J (i + 1)) Q { s with heap := h, toks := tk }) E { s with heap := h, toks := tk })
    (done : ∀ h tk m' news', Fr h₀ env.locals h m' → News h₀ env.locals h news' → J ws.length m' news' → Q .next { s with heap := h, toks := tk }) :
    wpAny (model prog w) A (pyIter (.ref l)) (fun it s₂ => LoopAtV prog w A h₀ env x body Q E it s₂) E s := by
  run_tac sqBegin
  obtain ⟨lo, hm, ⟨hc, vs, k, hd, hi⟩ | ⟨a, b, n, t, u, v, rfl, hsm, hn, rfl⟩⟩ := hs
  · refine loop_led J hh (hsub _ hm) hc hd F N (fun i m₁ news₁ hJ => hJn i m₁ news₁ hJ _ hm) h0 ?_ (by rw [hi.length]; exact done)
    intro i v m₁ news₁ I oI h tk hv hJ hoff F' N'
    obtain ⟨z, t, rfl, hz⟩ := IntsAre.at hi i v hv
    exact step i z t m₁ news₁ I oI h tk hz hJ hoff F' N'
  · refine loop_range J hh (N _ (hsub _ hm)).1 hsm hn F N h0 ?_ (by simpa using done)
    intro i t' m₁ news₁ I oI h tk hi hJ hoff F' N'
    exact step i _ t' m₁ news₁ I oI h tk (by simp [hi]) hJ hoff F' N'
  run_tac sqEnd

theorem for_fr {px pos : Pos} {iter : PySem.Expr} (F : Fr h₀ env.locals s.heap m₀) (hx : env.kindOf x = some .local)
    (hp : (env.scope.kind == .class || (env.scope.kind == .module && env.locals != env.globals)) = false)
    (h : wpAny (model prog w) A (eval iter env) (fun xv s₁ => wpAny (model prog w) A (pyIter xv) (fun it s₂ => LoopAtV prog w A h₀ env x body Q E it s₂) E s₁) E s)
    (hs : ∀ x, foldedSetIterable iter env x = pure x := by intro _; rfl)
    (hE : PassesOwn (model prog w) A env E := by passes_own) :
    wpAny (model prog w) A (exec (.For (.Name x px) iter body [] pos) env) Q E s := For_invV h₀ hx hp h hs hE
end
end Mine
end

section
open PySem PySem.W PyProof.Rows PyProof.Rows.LCg PySem.Calls
set_option maxRecDepth 100000
namespace Mine
noncomputable def waysStep (ws : List Int) (k : Int) : List Int := List.zipWith (· + ·) (ws ++ List.replicate k.toNat 0) (List.replicate k.toNat 0 ++ ws)
noncomputable def waysZ (weights : List Int) : List Int := weights.foldl waysStep [1]
theorem waysStep_length (ws : List Int) (k : Int) : (waysStep ws k).length = ws.length + k.toNat := by
  simp only [waysStep, List.length_zipWith, List.length_append, List.length_replicate]; omega
theorem foldl_ways_length : ∀ (l : List Int) (acc : List Int), (∀ k ∈ l, 0 ≤ k ∧ k ≤ 40) → (l.foldl waysStep acc).length ≤ acc.length + 40 * l.length
  | [], acc, _ => by simp
  | k :: r, acc, h => by
    have := foldl_ways_length r (waysStep acc k) fun q hq => h q (List.mem_cons_of_mem _ hq)
    have h1 := h k List.mem_cons_self
    rw [waysStep_length] at this
    simp only [List.foldl_cons, List.length_cons]
    omega
theorem waysZ_length_le {ws : List Int} (h : ∀ k ∈ ws, 0 ≤ k ∧ k ≤ 40) : (waysZ ws).length ≤ 1 + 40 * ws.length := by
  simpa [waysZ] using foldl_ways_length ws [1] h
theorem waysZ_take_succ {ws : List Int} {i : Nat} {z : Int} (h : ws[i]? = some z) : waysZ (ws.take (i + 1)) = waysStep (waysZ (ws.take i)) z := by
  rw [waysZ, List.take_add_one, h]
  simp [waysZ, List.foldl_append]
theorem off1_mem {D : Addr} : ∀ {l : List (Addr × Obj)}, Off1 D l → ∀ p ∈ l, p.1 ≠ D
  | [], _, _, h => nomatch h
  | _ :: _, x, p, h => by
    rcases List.mem_cons.mp h with rfl | h
    · exact x.1
    · exact off1_mem x.2 p h
section
variable {prog : Program} {w : World} {A : Around} {E : Value → Shared → Prop} {s : Shared} {h₀ : Heap} {L : Addr} {m : PySem.Str → Option Value} {news : List (Addr × Obj)}
theorem ints_replicate (c : Int) (t : Tok) : ∀ n : Nat, IntsAre (List.replicate n (.int c t)) (List.replicate n c)
  | 0 => .nil
  | n + 1 => .cons c t (ints_replicate c t n)
theorem rep_K {l : Addr} {k : Nat} {x c : Int} {t u : Tok} {Q : Value → Shared → Prop} (F : Fr h₀ L s.heap m) (N : News h₀ L s.heap news) (hm : (l, W.listOf #[.int c t] k) ∈ news) (h0 : 0 ≤ x) (h1 : x ≤ 1048576)
    (h : ∀ D us rs h', Fr h₀ L h' m → News h₀ L h' ((D, W.listOf (List.toArray us) 0) :: news) → (∀ p ∈ news, p.1 < D) → IntsAre us rs → rs = List.replicate x.toNat c → (rs.length : Int) = x → Q (.ref D) { s with heap := h' }) :
    wpAny (model prog w) A (binaryOp .Mult (.ref l) (.int x u)) Q E s := by
  refine mul_list F N (N _ hm).1 (by omega) (by omega) (by simp; omega) fun h' F' N' => ?_
  refine h _ (List.replicate x.toNat (.int c t)) _ h' F' ?_ (fun p hp => Heap.lt_size (N p hp).1) (ints_replicate c t x.toNat) rfl (by simp; omega)
  have e : List.foldl (fun x1 x2 => x1 ++ x2) (#[] : Array Value) (List.replicate (if (#[Value.int c t] : Array Value).isEmpty = true then 0 else x.toNat) #[Value.int c t]) = (List.replicate x.toNat (Value.int c t)).toArray := by
    rw [listMul_foldl_if, lm_rep_flat_one]
  rw [e] at N'
  exact N'
end
noncomputable def WaysJ (news : List (Addr × Obj)) (ws : List Int) (i : Nat) (m₁ : PySem.Str → Option Value) (news₁ : List (Addr × Obj)) : Prop :=
  ∃ (m0 : PySem.Str → Option Value) (D : Addr) (xs : List Value) (k' : Nat), m₁ = (fun y => if y = PySem.Str.ofString "ways" then some (.ref D) else m0 y) ∧ news₁ = (D, ({ cls := .type "list", data := .seq (List.toArray xs) k' } : Obj)) :: news ∧ IntsAre xs (waysZ (ws.take i)) ∧ (∀ p ∈ news, p.1 ≠ D)
section
variable {w : World} {mean : ExcName → Option Value} {mg mb : PySem.Str → Option Value} {A₀ : Around} {base h₀ : Heap} {outer : List Env} {L : Addr} {m : PySem.Str → Option Value} {news : List (Addr × Obj)} {s : Shared} {Q E : Value → Shared → Prop}
variable {dp un : Nat} {gd : Option (List Code)} {cn : PySem.Str} {cs : Scope} {a : Addr} {ccd : Value} {cl : List (PySem.Str × Addr)}
local macro_rules | `(tactic| walk_at "binaryOp Mult ref int") => `(tactic| (k_here; k_dflt (refine' rep_K ?F ?N ?m ?a ?b ?_; (case F => k_asm); (case N => k_asm); (case m => k_mem); (case a => omega); (case b => omega); k_whole); intro D' us' rs' h' F' N' l1 hI' hr' hl'; (try k_lt l1); (try k_sweep)))
set_option maxHeartbeats 4000000 in
theorem ways_call (B : Below A₀ base outer h₀) (F : Fr h₀ L s.heap m) (X : (hd.heap_39 w.params).In h₀) (N : News h₀ L s.heap news) (T : Top topProg LS mean mg mb h₀)
  (hk : cs.kind = .function) {l : Addr} {ws : List Int} (hsrc : IntSrc news l ws) (hpos : ∀ k ∈ ws, 0 ≤ k ∧ k ≤ 40) (hlen : ws.length ≤ 8)
  (hdp : dp + 4 < recursionLimit) (hu : un + 64 < cLine)
  (hret : ∀ D xs k' h' tk', IntsAre xs (waysZ ws) → (∀ p ∈ news, p.1 ≠ D) → Fr h₀ L h' m → News h₀ L h' ((D, { cls := .type "list", data := .seq xs.toArray k' }) :: news) → Q (.ref D) { s with heap := h', toks := tk' }) :
  wpAny (model PySem.Challenge.rw_xi0008_01.row.prog w) (ktrTop dp un gd cn cs L a ccd cl outer) (call (.ref 105) [.ref l]) Q E s := by
  run_tac sqBegin
  revert X; k_fill; intro X
  refine wpAny_call ?_
  k_dflt cell_enter
  repeat' (first | (k_unfold; (try dsimp only)) | (k_end; wrow_close) | ((fail_if_success (with_reducible show wpAny _ _ (pyIter _) _ _ _)); walk1) | ((fail_if_success (with_reducible show wpAny _ _ (pyIter _) _ _ _)); dsimp only; walk1) | (leave1; walk_say "STEP leave1"; try dsimp only) | fail "no step")
  rename (Fr _ _ _ _) => FL
  refine for_fr FL (by rfl) (by rfl) ?_
  repeat' (first | (k_unfold; (try dsimp only)) | (k_end; wrow_close) | ((fail_if_success (with_reducible show wpAny _ _ (pyIter _) _ _ _)); walk1) | ((fail_if_success (with_reducible show wpAny _ _ (pyIter _) _ _ _)); dsimp only; walk1) | (leave1; walk_say "STEP leave1"; try dsimp only) | fail "no step")
  refine' loop_ints (WaysJ news ws) ?hh hsrc ?F ?N ?sub ?_ ?_ ?_ ?_
  case hh => rfl
  case F => assumption
  case N => assumption
  case sub => exact fun p hp => List.mem_cons_of_mem _ hp
  · rintro i m₁ news₁ ⟨m0, D, xs, k', rfl, rfl, hx, hoff⟩
    exact fun p hp => List.mem_cons_of_mem _ hp
  · refine ⟨_, _, _, _, rfl, rfl, ?_, ?_⟩
    · exact .cons _ _ .nil
    · rename (∀ p ∈ news, p.1 < _) => hl1
      exact fun p hp => Nat.ne_of_lt (hl1 p hp)
  · rintro i z tz m₁ news₁ I oI h tk hz ⟨m0, D, xs, k', rfl, rfl, hx, hoff⟩ hnI F₁ N₁
    (try dsimp only at F₁ N₁)
    have hz' := hpos z (List.mem_of_getElem? hz)
    have hwl := waysZ_length_le (ws := ws.take i) fun k hk => hpos k (List.mem_of_mem_take hk)
    have htl : (ws.take i).length ≤ 8 := Nat.le_trans (by rw [List.length_take]; exact Nat.min_le_right _ _) hlen
    repeat' (first | (k_unfold; (try dsimp only)) | (k_end; wrow_close) | ((fail_if_success (with_reducible show wpAny _ _ (exec (Stmt.Assign _ _ _) _) _ _ _)); walk1) | ((fail_if_success (with_reducible show wpAny _ _ (exec (Stmt.Assign _ _ _) _) _ _ _)); dsimp only; walk1) | (leave1; walk_say "STEP leave1"; try dsimp only) | fail "no step")
    refine comp_assign F₁ rfl (by with_unfolding_all rfl) (by with_unfolding_all rfl) (by decide) rfl (by decide) rfl rfl ?_
    repeat' (first | (k_unfold; (try dsimp only)) | (k_end; wrow_close) | ((fail_if_success (with_reducible show wpAny _ _ (call (Value.type "zip") _) _ _ _)); walk1) | ((fail_if_success (with_reducible show wpAny _ _ (call (Value.type "zip") _) _ _ _)); dsimp only; walk1) | (leave1; walk_say "STEP leave1"; try dsimp only) | fail "no step")
    rename (News _ _ _ _) => NN
    rename (Fr _ _ _ _) => FF
    rename (IntsAre _ (_ ++ waysZ _)) => hB
    rename (IntsAre _ (waysZ _ ++ _)) => hA
    have hout : ∃ out, out = waysStep (waysZ (ws.take i)) z := ⟨_, rfl⟩
    obtain ⟨out, hout⟩ := hout
    refine csrc_zip (Acc := fun i ys => IntsAre ys (out.take i)) rfl FF NN (News.isList NN (by k_mem)) (News.isList NN (by k_mem)) (NN (_, _) (by k_mem)).2.1 (NN (_, _) (by k_mem)).2.1 ?_ rfl rfl rfl (by decide) (by rw [List.take_zero]; exact .nil) ?_ ?_
    · have e1 := hA.length
      have e2 := hB.length
      simp only [List.length_append] at e1 e2
      rw [sizeLine_eq]; omega
    · intro i a b zs C m₃ h tk E' ha hb hAcc h1 h2 hn F' N'
      obtain ⟨za, ta, rfl, hza⟩ := IntsAre.at hA i a ha
      obtain ⟨zb, tb, rfl, hzb⟩ := IntsAre.at hB i b hb
      refine cturn_nil (wpAny_BinOp (comp_name rfl rfl hn h1 (comp_name rfl rfl hn h2 (add_int ?_))))
      refine ⟨⟨_, _, rfl, fun _ _ e => e⟩, ints_take_snoc hAcc ?_⟩
      rename (_ = List.replicate _ _) => hr2
      subst hr2
      rename (_ = List.replicate _ _) => hr1
      subst hr1
      rw [hout, waysStep, List.getElem?_zipWith, hza, hzb]
    · rintro s₂ ⟨hh, rfl⟩ zs hzs
      intro D2 h2 tk2 F2 N2 off2
      (try dsimp only)
      refine wpAny_execs_nil ?_
      have offI := off1_mem off2 _ (show (I, oI) ∈ _ by k_mem)
      have offN : ∀ p ∈ news, p.1 ≠ D2 := fun p hp => off1_mem off2 p (by simp only [List.mem_cons]; simp [hp])
      refine LEnd.intro ((D2, lst zs) :: news) F2 N2 (fun p hp => ?_) (fun p hp => ?_) ⟨_, D2, zs, _, rfl, rfl, ?_, offN⟩
      · simp only [List.mem_cons] at hp ⊢
        rcases hp with h | h | h <;> simp [h]
      · rcases List.mem_cons.mp hp with rfl | hp
        · exact fun e => offI e.symm
        · exact hnI p (List.mem_cons_of_mem _ hp)
      · rw [waysZ_take_succ hz, ← hout]
        have e1 := hA.length
        have e2 := hB.length
        have e3 := congrArg List.length hout
        rw [waysStep_length] at e3
        simp only [List.length_append] at e1 e2
        rw [List.take_of_length_le (by omega)] at hzs
        exact hzs
  · intro h tk m' news' F' N' hJ
    obtain ⟨m0, D, xs, k', rfl, rfl, hx, hoff⟩ := hJ
    (try dsimp only)
    repeat' (first | (k_unfold; (try dsimp only)) | (k_end; wrow_close) | (walk1) | (dsimp only; walk1) | (leave1; walk_say "STEP leave1"; try dsimp only) | fail "no step")
    rw [List.take_length] at hx
    exact hret _ _ _ _ _ hx hoff (by assumption) (by assumption)
  run_tac sqEnd
end
end Mine
end

section
open PySem PySem.W PyProof.Rows PyProof.Rows.LCg PySem.Calls
set_option maxRecDepth 100000
namespace Mine
open PySem.Builtin.Int (intBits)
noncomputable def prodZ (ws : List Int) (b : Int) : Int := ws.foldl (fun p w => p * (b ^ w.toNat + 1)) 1
theorem prodZ_take_succ {ws : List Int} {b : Int} {i : Nat} {z : Int} (h : ws[i]? = some z) : prodZ (ws.take (i + 1)) b = prodZ (ws.take i) b * (b ^ z.toNat + 1) := by
  rw [prodZ, List.take_add_one, h]
  simp [prodZ, List.foldl_append]
noncomputable def ProdJ (news : List (Addr × Obj)) (ws : List Int) (b : Int) (tb : Tok) (i : Nat) (m₁ : PySem.Str → Option Value) (news₁ : List (Addr × Obj)) : Prop :=
  ∃ (m0 : PySem.Str → Option Value) (t : Tok), m₁ = (fun y => if y = PySem.Str.ofString "product" then some (.int (prodZ (ws.take i) b) t) else if y = PySem.Str.ofString "base" then some (.int b tb) else m0 y) ∧ news₁ = news ∧ intBits (prodZ (ws.take i) b) ≤ 20000 * i + 1
theorem all_ne_of_lt {news : List (Addr × Obj)} {B d : Addr} (h : ∀ p ∈ news, p.1 < B) (hb : @LE.le Nat _ B d) : ∀ p ∈ news, p.1 ≠ d := fun p hp => Nat.ne_of_lt (Nat.lt_of_lt_of_le (h p hp) hb)
theorem put_same {m : PySem.Str → Option Value} {x : PySem.Str} {v : Value} (h : m x = some v) : m = fun y => if y = x then some v else m y := by
  funext y
  by_cases e : y = x
  · simp [e, h]
  · simp [e]
theorem prodJ_turn {A B C Z : Option Value} {m0 : PySem.Str → Option Value} :
    (fun y => if y = PySem.Str.ofString "product" then A else if y = PySem.Str.ofString "weight" then Z else if y = PySem.Str.ofString "product" then C else if y = PySem.Str.ofString "base" then B else m0 y) =
    fun y => if y = PySem.Str.ofString "product" then A else if y = PySem.Str.ofString "base" then B else (fun y => if y = PySem.Str.ofString "weight" then Z else m0 y) y := by
  funext y
  by_cases h1 : y = PySem.Str.ofString "product"
  · simp only [if_pos h1]
  · by_cases h2 : y = PySem.Str.ofString "base"
    · subst h2; rfl
    · simp only [if_neg h1, if_neg h2]
theorem pow_sz {b z : Int} (hb : intBits b ≤ 400) (h0 : 0 ≤ z) (h1 : z ≤ 40) : (intBits b : Int) * z ≤ 2 ^ 27 := by
  have h : (intBits b : Int) * z ≤ 400 * 40 := Int.mul_le_mul (by omega) h1 h0 (by omega)
  omega
theorem pow_bits {b z : Int} (hb : intBits b ≤ 400) (h0 : 0 ≤ z) (h1 : z ≤ 40) : intBits (b ^ z.toNat + 1) ≤ 19000 := by
  have h := intBits_pow_le hb z.toNat
  have h2 : 400 * z.toNat ≤ 400 * 40 := Nat.mul_le_mul_left _ (by omega)
  have h3 := intBits_add_le (n := 1) h (show intBits 1 ≤ 1 by decide)
  omega
section
variable {w : World} {mean : ExcName → Option Value} {mg mb : PySem.Str → Option Value} {A₀ : Around} {base h₀ : Heap} {outer : List Env} {L : Addr} {m : PySem.Str → Option Value} {news : List (Addr × Obj)} {s : Shared} {Q E : Value → Shared → Prop}
variable {dp un : Nat} {gd : Option (List Code)} {cn : PySem.Str} {cs : Scope} {a : Addr} {ccd : Value} {cl : List (PySem.Str × Addr)}
set_option maxHeartbeats 4000000 in
theorem product_call (B : Below A₀ base outer h₀) (F : Fr h₀ L s.heap m) (X : (hd.heap_39 w.params).In h₀) (N : News h₀ L s.heap news) (T : Top topProg LS mean mg mb h₀) (hk : cs.kind = .function) {l : Addr} {ws : List Int} {b : Int} {tb : Tok} (hsrc : IntSrc news l ws) (hpos : ∀ k ∈ ws, 0 ≤ k ∧ k ≤ 40) (hlen : ws.length ≤ 8) (hb : intBits b ≤ 400)
  (hdp : dp + 4 < recursionLimit) (hu : un + 64 < cLine)
  (hret : ∀ t h' tk', intBits (prodZ ws b) ≤ 160001 → Fr h₀ L h' m → News h₀ L h' news → Q (.int (prodZ ws b) t) { s with heap := h', toks := tk' }) :
  wpAny (model PySem.Challenge.rw_xi0008_01.row.prog w) (ktrTop dp un gd cn cs L a ccd cl outer) (call (.ref 112) [.ref l, .int b tb]) Q E s := by
  run_tac sqBegin
  revert X; k_fill; intro X
  refine wpAny_call ?_
  k_dflt cell_enter
  repeat' (first | (k_unfold; (try dsimp only)) | (k_end; wrow_close) | ((fail_if_success (with_reducible show wpAny _ _ (exec (Stmt.For _ _ _ _ _) _) _ _ _)); walk1) | ((fail_if_success (with_reducible show wpAny _ _ (exec (Stmt.For _ _ _ _ _) _) _ _ _)); dsimp only; walk1) | (leave1; walk_say "STEP leave1"; try dsimp only) | fail "no step")
  rename (Fr _ _ _ _) => FL
  refine for_fr FL (by rfl) (by rfl) ?_
  repeat' (first | (k_unfold; (try dsimp only)) | (k_end; wrow_close) | ((fail_if_success (with_reducible show wpAny _ _ (pyIter _) _ _ _)); walk1) | ((fail_if_success (with_reducible show wpAny _ _ (pyIter _) _ _ _)); dsimp only; walk1) | (leave1; walk_say "STEP leave1"; try dsimp only) | fail "no step")
  refine' loop_ints (ProdJ news ws b tb) ?hh hsrc ?F ?N ?sub ?_ ?_ ?_ ?_
  case hh => rfl
  case F => assumption
  case N => assumption
  case sub => exact fun p hp => hp
  · rintro i m₁ news₁ ⟨m0, t, rfl, rfl, hx⟩
    exact fun p hp => hp
  · exact ⟨_, _, congrArg (fun (f : PySem.Str → Option Value) y => if y = PySem.Str.ofString "product" then some (Value.int 1 _) else f y) (put_same rfl), rfl, show intBits 1 ≤ 20000 * 0 + 1 by decide⟩
  · rintro i z tz m₁ news₁ I oI h tk hz ⟨m0, t, rfl, rfl, hx⟩ hnI F₁ N₁
    (try dsimp only at F₁ N₁)
    have hz' := hpos z (List.mem_of_getElem? hz)
    repeat' (first | (k_unfold; (try dsimp only)) | (k_end; wrow_close) | ((fail_if_success (with_reducible show wpAny _ _ (binaryOp Operator.Pow _ _) _ _ _)); walk1) | ((fail_if_success (with_reducible show wpAny _ _ (binaryOp Operator.Pow _ _) _ _ _)); dsimp only; walk1) | (leave1; walk_say "STEP leave1"; try dsimp only) | fail "no step")
    refine pow_int hz'.1 (pow_sz hb hz'.1 hz'.2) ?_
    repeat' (first | (k_unfold; (try dsimp only)) | (k_end; wrow_close) | ((fail_if_success (with_reducible show wpAny _ _ (binaryOp Operator.Mult _ _) _ _ _)); walk1) | ((fail_if_success (with_reducible show wpAny _ _ (binaryOp Operator.Mult _ _) _ _ _)); dsimp only; walk1) | (leave1; walk_say "STEP leave1"; try dsimp only) | fail "no step")
    have hi8 : i < ws.length := by
      rcases Nat.lt_or_ge i ws.length with h | h
      · exact h
      · rw [List.getElem?_eq_none h] at hz; cases hz
    have hpb := pow_bits hb hz'.1 hz'.2
    refine mul_int ?_ (IntMulOk.of_le hx hpb (by omega))
    have hbits := intBits_mul_le hx hpb
    rw [← prodZ_take_succ hz] at hbits ⊢
    repeat' (first | (k_unfold; (try dsimp only)) | (k_end; wrow_close) | (walk1) | (dsimp only; walk1) | (leave1; walk_say "STEP leave1"; try dsimp only) | fail "no step")
    rename (Fr _ _ _ _) => F2
    rename (News _ _ _ _) => N2
    refine LEnd.intro _ F2 N2 (fun p hp => hp) hnI ?_
    exact ⟨_, _, prodJ_turn, rfl, by omega⟩
  · intro h tk m' news' F' N' hJ
    obtain ⟨m0, t, rfl, rfl, hx⟩ := hJ
    (try dsimp only)
    repeat' (first | (k_unfold; (try dsimp only)) | (k_end; wrow_close) | (walk1) | (dsimp only; walk1) | (leave1; walk_say "STEP leave1"; try dsimp only) | fail "no step")
    rw [List.take_length] at hx ⊢
    exact hret _ _ _ (by omega) (by assumption) (by assumption)
  run_tac sqEnd
end
end Mine
end

section
open PySem PySem.W PyProof.Rows PyProof.Rows.LCg PySem.Calls
set_option maxRecDepth 100000
namespace Mine
section
variable {M : Model} {α β : Type}
/-- the state st at the window [lo, lo + n) of its array is as the state st0 at its whole array -/
structure Rel (lo n : Nat) (fr : Array Keyed) (pn : Array (Nat × Nat × Nat)) (st st0 : SortSt) : Prop where
  arr : ∀ i, i < n → (arrOf st)[lo + i]? = (arrOf st0)[i]?
  out : ∀ i, (i < lo ∨ lo + n ≤ i) → (arrOf st)[i]? = fr[i]?
  size : (arrOf st).size = fr.size
  size0 : (arrOf st0).size = n
  fits : lo + n ≤ fr.size
  kind : kindOf st = kindOf st0
  failed : failedOf st = failedOf st0
  pend : pendingOf st = pn
noncomputable def Sim (M : Model) (lo n : Nat) (fr : Array Keyed) (pn : Array (Nat × Nat × Nat)) (P : α → Prop) (m m' : StateT SortSt Sem α) : Prop :=
  ∀ (Γ : Ctx) (p : Pos) (s : Shared) (st st0 : SortSt) (Q : α × SortSt → Pos → Shared → Prop) (E : Value → Pos → Shared → Prop), Rel lo n fr pn st st0 →
    Sem.wp M Γ (m'.run st0) Q E p s → Sem.wp M Γ (m.run st) (fun r p' s' => ∃ st0', Rel lo n fr pn r.2 st0' ∧ P r.1 ∧ Q (r.1, st0') p' s') E p s
variable {lo n : Nat} {fr : Array Keyed} {pn : Array (Nat × Nat × Nat)} {P : α → Prop} {P' : β → Prop}
theorem sim_pure {a : α} (h : P a) : Sim M lo n fr pn P (pure a : StateT SortSt Sem α) (pure a) := by
  intro Γ p s st st0 Q E R hq
  rw [StateT.run_pure, Sem.wp_pure'] at hq ⊢
  exact ⟨st0, R, h, hq⟩
theorem sim_bind {m m' : StateT SortSt Sem α} {f f' : α → StateT SortSt Sem β} (hm : Sim M lo n fr pn P m m') (hf : ∀ a, P a → Sim M lo n fr pn P' (f a) (f' a)) : Sim M lo n fr pn P' (m >>= f) (m' >>= f') := by
  intro Γ p s st st0 Q E R h
  rw [StateT.run_bind, Sem.wp_bind'] at h ⊢
  refine Sem.wp_mono M Γ _ (fun r p' s' hr => ?_) (fun _ _ _ x => x) _ _ (hm Γ p s st st0 _ E R h)
  obtain ⟨st0', R', hp, hq⟩ := hr
  exact hf r.1 hp Γ p' s' r.2 st0' Q E R' hq
theorem sim_lift {m : Sem α} : Sim M lo n fr pn (fun _ => True) (liftM m : StateT SortSt Sem α) (liftM m) := by
  intro Γ p s st st0 Q E R h
  have e : ∀ st : SortSt, (liftM m : StateT SortSt Sem α).run st = (do let a ← m; pure (a, st)) := fun st => by
    show (StateT.lift m : StateT SortSt Sem α).run st = _
    rw [StateT.run_lift]
  rw [e, Sem.wp_bind'] at h ⊢
  refine Sem.wp_mono M Γ _ (fun a p' s' ha => ?_) (fun _ _ _ x => x) _ _ h
  rw [Sem.wp_pure'] at ha ⊢
  exact ⟨st0, R, True.intro, ha⟩
theorem sim_forIn {γ : Type} {f f' : Nat → γ → StateT SortSt Sem (ForInStep γ)} {I : Nat → γ → Prop} {D : γ → Prop} {a₀ c e : Nat} (he : ∀ x, a₀ ≤ x → x < e → x < c) (h : ∀ x b, a₀ ≤ x → x < c → I x b → Sim M lo n fr pn (fun r => match r with | .done b' => D b' | .yield b' => I (x + 1) b') (f x b) (f' x b)) (hD : ∀ b, I e b → D b) :
    ∀ (k a : Nat) (b : γ), a₀ ≤ a → a + k = e → I a b → Sim M lo n fr pn D (forIn (List.range' a k) b f) (forIn (List.range' a k) b f')
  | 0, a, b, ha, hk, hI => by
    rw [List.range'_zero, List.forIn_nil, List.forIn_nil]
    have : a = e := by omega
    exact sim_pure (hD b (this ▸ hI))
  | k + 1, a, b, ha, hk, hI => by
    rw [List.range'_succ, List.forIn_cons, List.forIn_cons]
    refine sim_bind (h a b ha (he a ha (by omega)) hI) fun r hr => ?_
    cases r with
    | done b' => exact sim_pure hr
    | yield b' => exact sim_forIn he h hD k (a + 1) b' (by omega) (by omega) hr
theorem sim_range {γ : Type} {a c : Nat} {f f' : Nat → γ → StateT SortSt Sem (ForInStep γ)} {b : γ} (I : Nat → γ → Prop) {D : γ → Prop} (hI : I a b) (h : ∀ x b, a ≤ x → x < c → I x b → Sim M lo n fr pn (fun r => match r with | .done b' => D b' | .yield b' => I (x + 1) b') (f x b) (f' x b)) (hD : ∀ b, I (max a c) b → D b) : Sim M lo n fr pn D (forIn [a:c] b f) (forIn [a:c] b f') := by
  rw [Std.Legacy.Range.forIn_eq_forIn_range', Std.Legacy.Range.forIn_eq_forIn_range']
  have hsz : ([a:c] : Std.Legacy.Range).size = c - a := by simp [Std.Legacy.Range.size]
  show Sim M lo n fr pn D (forIn (List.range' a ([a:c] : Std.Legacy.Range).size 1) b f) (forIn (List.range' a ([a:c] : Std.Legacy.Range).size 1) b f')
  rw [hsz]
  exact sim_forIn (e := max a c) (fun x h1 h2 => by omega) h hD _ _ _ (Nat.le_refl _) (by omega) hI
theorem sim_lt {x y : Keyed} : Sim M lo n fr pn (fun _ => True) (lt' x y) (lt' x y) := by
  run_tac sqBegin
  intro Γ p s st st0 Q E R h
  rw [lt'_eq, StateT.run_bind, StateT.run_get, Sem.wp_bind', Sem.wp_pure'] at h ⊢
  dsimp only at h ⊢
  rw [R.kind]
  rw [StateT.run_bind, Sem.wp_bind'] at h ⊢
  refine Sem.wp_mono M Γ _ (fun r p' s' hr => ?_) (fun _ _ _ x => x) _ _ (sim_lift (lo := lo) (n := n) (fr := fr) (pn := pn) Γ p s st st0 _ E R h)
  obtain ⟨st0', R', _, hq⟩ := hr
  obtain ⟨r1, r2⟩ := r
  cases r1 with
  | ok b =>
    dsimp only at hq ⊢
    exact sim_pure (P := fun _ => True) True.intro Γ p' s' r2 st0' Q E R' hq
  | error e =>
    dsimp only at hq ⊢
    rw [StateT.run_bind, StateT.run_modify, Sem.wp_bind', Sem.wp_pure'] at hq ⊢
    refine sim_pure (P := fun _ => True) True.intro Γ p' s' _ _ Q E ?_ hq
    exact ⟨R'.arr, R'.out, R'.size, R'.size0, R'.fits, R'.kind, rfl, R'.pend⟩
  run_tac sqEnd
theorem sim_ltAt {i j i' j' : Nat} (hi' : i' = lo + i) (hj' : j' = lo + j) : Sim M lo n fr pn (fun _ => True) (ltAt' i' j') (ltAt' i j) := by
  run_tac sqBegin
  subst hi' hj'
  intro Γ p s st st0 Q E R h
  rw [ltAt'_eq, StateT.run_bind, StateT.run_get, Sem.wp_bind', Sem.wp_pure'] at h ⊢
  have get : ∀ k x, (arrOf st0)[k]? = some x → (arrOf st)[lo + k]? = some x := by
    intro k x hx
    have hk : k < n := by rw [← R.size0]; exact (Array.getElem?_eq_some_iff.mp hx).1
    rw [R.arr k hk, hx]
  show Sem.wp M Γ ((do let x ← elem' (arrOf st) (lo + i); let y ← elem' (arrOf st) (lo + j); lt' x y).run st) _ _ p s
  have h' : Sem.wp M Γ ((do let x ← elem' (arrOf st0) i; let y ← elem' (arrOf st0) j; lt' x y).run st0) Q E p s := h
  cases hi : (arrOf st0)[i]? with
  | none =>
    rw [elem'_eq, hi] at h'
    exact h'.elim
  | some x =>
    cases hj : (arrOf st0)[j]? with
    | none =>
      rw [elem'_eq, elem'_eq, hi, hj] at h'
      exact h'.elim
    | some y =>
      rw [elem'_eq, elem'_eq, hi, hj] at h'
      rw [elem'_eq, elem'_eq, get i x hi, get j y hj]
      exact sim_lt Γ p s st st0 Q E R h'
  run_tac sqEnd
theorem sim_rev {i j i' j' : Nat} (hi' : i' = lo + i) (hj' : j' = lo + j) (hj : j ≤ n) : Sim M lo n fr pn (fun _ => True) (reverseSlice' i' j') (reverseSlice' i j) := by
  subst hi' hj'
  intro Γ p s st st0 Q E R h
  rw [reverseSlice'_eq, StateT.run_modify, Sem.wp_pure'] at h ⊢
  refine ⟨setArr st0 (mirror (arrOf st0) i j ((j - i) / 2)), ⟨?_, ?_, ?_, ?_, R.fits, R.kind, R.failed, R.pend⟩, True.intro, h⟩
  · intro k hk
    show (mirror (arrOf st) (lo + i) (lo + j) ((lo + j - (lo + i)) / 2))[lo + k]? = (mirror (arrOf st0) i j ((j - i) / 2))[k]?
    rw [getElem?_mirror_all (by rw [R.size]; have := R.fits; omega), getElem?_mirror_all (by rw [R.size0]; omega)]
    by_cases hin : i ≤ k ∧ k < j
    · rw [if_pos (by omega), if_pos hin, show lo + i + (lo + j) - 1 - (lo + k) = lo + (i + j - 1 - k) by omega]
      exact R.arr _ (by omega)
    · rw [if_neg (by omega), if_neg hin]
      exact R.arr k hk
  · intro k hk
    show (mirror (arrOf st) (lo + i) (lo + j) ((lo + j - (lo + i)) / 2))[k]? = _
    rw [getElem?_mirror_all (by rw [R.size]; have := R.fits; omega), if_neg (by omega)]
    exact R.out k hk
  · show (mirror (arrOf st) _ _ _).size = _
    rw [mirror_size]; exact R.size
  · show (mirror (arrOf st0) _ _ _).size = _
    rw [mirror_size]; exact R.size0
theorem sim_down {i j i' j' : Nat} (hi' : i' = lo + i) (hj' : j' = lo + j) (hi : i < n) (hj : j ≤ i) : Sim M lo n fr pn (fun _ => True) (moveDown' i' j') (moveDown' i j) := by
  subst hi' hj'
  intro Γ p s st st0 Q E R h
  rw [moveDown'_eq, StateT.run_modify, Sem.wp_pure'] at h ⊢
  refine ⟨setArr st0 (bubble (arrOf st0) i (i - j)), ⟨?_, ?_, ?_, ?_, R.fits, R.kind, R.failed, R.pend⟩, True.intro, h⟩
  · intro k hk
    show (bubble (arrOf st) (lo + i) (lo + i - (lo + j)))[lo + k]? = (bubble (arrOf st0) i (i - j))[k]?
    rw [getElem?_bubble (by rw [R.size]; have := R.fits; omega) _ (by omega), getElem?_bubble (by rw [R.size0]; omega) _ (by omega)]
    by_cases h1 : k = i - (i - j)
    · rw [if_pos (by omega), if_pos h1]; exact R.arr i hi
    · rw [if_neg (by omega), if_neg h1]
      by_cases h2 : i - (i - j) < k ∧ k ≤ i
      · rw [if_pos (by omega), if_pos h2, show lo + k - 1 = lo + (k - 1) by omega]
        exact R.arr _ (by omega)
      · rw [if_neg (by omega), if_neg h2]
        exact R.arr k hk
  · intro k hk
    show (bubble (arrOf st) (lo + i) (lo + i - (lo + j)))[k]? = _
    rw [getElem?_bubble (by rw [R.size]; have := R.fits; omega) _ (by omega), if_neg (by omega), if_neg (by omega)]
    exact R.out k hk
  · show (bubble (arrOf st) _ _).size = _
    rw [bubble_size]; exact R.size
  · show (bubble (arrOf st0) _ _).size = _
    rw [bubble_size]; exact R.size0
theorem sim_count (hn : 1 ≤ n) : Sim M lo n fr pn (fun _ => True) (countRun' lo n) (countRun' 0 n) := by
  run_tac sqBegin
  rw [countRun'_eq lo n, countRun'_eq 0 n]
  simp only [Nat.zero_add]
  refine sim_bind (P := fun c : Option (Option Nat) × Nat => 1 ≤ c.2 ∧ c.2 ≤ n) (sim_range (I := fun x c => 1 ≤ c.2 ∧ c.2 = x) ⟨Nat.le_refl _, rfl⟩ ?_ (fun b hb => ⟨hb.1, by omega⟩)) ?_
  · intro x c hax hxn hc
    refine sim_bind (sim_ltAt rfl (by omega)) fun r _ => ?_
    cases r with
    | none => exact sim_pure ⟨hc.1, by omega⟩
    | some b =>
      dsimp only
      split
      · exact sim_pure ⟨hc.1, by omega⟩
      · exact sim_pure ⟨by show 1 ≤ c.2 + 1; omega, by show c.2 + 1 = x + 1; omega⟩
  rintro ⟨r, n2⟩ ⟨h1, h2⟩
  dsimp only at h1 h2 ⊢
  cases r with
  | some r => exact sim_pure True.intro
  | none =>
    dsimp only
    split
    · exact sim_pure True.intro
    rename_i hne
    have hlt : n2 < n := by
      have : n2 ≠ n := by simpa using hne
      omega
    have desc : ∀ m, 1 ≤ m → m < n → ∀ (f f' : Option (Option Nat) × Nat × Nat → StateT SortSt Sem (Option Nat)), (∀ c : Option (Option Nat) × Nat × Nat, 1 ≤ c.2.1 ∧ c.2.1 ≤ n ∧ c.2.2 + 1 ≤ c.2.1 → Sim M lo n fr pn (fun _ => True) (f c) (f' c)) → Sim M lo n fr pn (fun _ => True) (do
        let s ← forIn [m + 1:n] ((none, m + 1, 0) : Option (Option Nat) × Nat × Nat) fun _ s => do
          let x ← ltAt' (lo + s.snd.fst) (lo + s.snd.fst - 1)
          match x with
          | some smaller =>
            if smaller = true then
              if s.snd.snd > 0 then do
                let _ ← reverseSlice' (lo + s.snd.fst - (s.snd.snd + 1)) (lo + s.snd.fst)
                pure (ForInStep.yield (none, s.snd.fst + 1, 0))
              else pure (ForInStep.yield (none, s.snd.fst + 1, 0))
            else do
              let x ← ltAt' (lo + s.snd.fst - 1) (lo + s.snd.fst)
              match x with
              | some larger => if larger = true then pure (ForInStep.done (none, s.snd.fst, s.snd.snd)) else pure (ForInStep.yield (none, s.snd.fst + 1, s.snd.snd + 1))
              | _ => pure (ForInStep.done (some none, s.snd.fst, s.snd.snd))
          | _ => pure (ForInStep.done (some none, s.snd.fst, s.snd.snd))
        f s : StateT SortSt Sem (Option Nat)) (do
        let s ← forIn [m + 1:n] ((none, m + 1, 0) : Option (Option Nat) × Nat × Nat) fun _ s => do
          let x ← ltAt' s.snd.fst (s.snd.fst - 1)
          match x with
          | some smaller =>
            if smaller = true then
              if s.snd.snd > 0 then do
                let _ ← reverseSlice' (s.snd.fst - (s.snd.snd + 1)) s.snd.fst
                pure (ForInStep.yield (none, s.snd.fst + 1, 0))
              else pure (ForInStep.yield (none, s.snd.fst + 1, 0))
            else do
              let x ← ltAt' (s.snd.fst - 1) s.snd.fst
              match x with
              | some larger => if larger = true then pure (ForInStep.done (none, s.snd.fst, s.snd.snd)) else pure (ForInStep.yield (none, s.snd.fst + 1, s.snd.snd + 1))
              | _ => pure (ForInStep.done (some none, s.snd.fst, s.snd.snd))
          | _ => pure (ForInStep.done (some none, s.snd.fst, s.snd.snd))
        f' s) := by
      intro m hm1 hm2 f f' hf
      refine sim_bind (P := fun c : Option (Option Nat) × Nat × Nat => 1 ≤ c.2.1 ∧ c.2.1 ≤ n ∧ c.2.2 + 1 ≤ c.2.1) (sim_range (I := fun x c => 1 ≤ c.2.1 ∧ c.2.1 = x ∧ c.2.2 + 1 ≤ c.2.1) ⟨by show 1 ≤ m + 1; omega, rfl, by show 0 + 1 ≤ m + 1; omega⟩ ?_ (fun b hb => ⟨hb.1, by omega, hb.2.2⟩)) hf
      intro x c hax hxn hc
      obtain ⟨c0, c1, c2⟩ := c
      dsimp only at hc ⊢
      obtain ⟨e1, e2, e3⟩ := hc
      refine sim_bind (sim_ltAt rfl (by omega)) fun r _ => ?_
      cases r with
      | none => exact sim_pure ⟨e1, by show c1 ≤ n; omega, e3⟩
      | some b =>
        dsimp only
        split
        · split
          · refine sim_bind (sim_rev (by omega) rfl (by omega)) fun _ _ => ?_
            exact sim_pure ⟨by show 1 ≤ c1 + 1; omega, by show c1 + 1 = x + 1; omega, by show 0 + 1 ≤ c1 + 1; omega⟩
          · exact sim_pure ⟨by show 1 ≤ c1 + 1; omega, by show c1 + 1 = x + 1; omega, by show 0 + 1 ≤ c1 + 1; omega⟩
        · refine sim_bind (sim_ltAt (by omega) rfl) fun r2 _ => ?_
          cases r2 with
          | none => exact sim_pure ⟨e1, by show c1 ≤ n; omega, e3⟩
          | some b2 =>
            dsimp only
            split
            · exact sim_pure ⟨e1, by show c1 ≤ n; omega, e3⟩
            · exact sim_pure ⟨by show 1 ≤ c1 + 1; omega, by show c1 + 1 = x + 1; omega, by show c2 + 1 + 1 ≤ c1 + 1; omega⟩
    split
    · refine sim_bind (sim_ltAt rfl (by omega)) fun r _ => ?_
      cases r with
      | none => exact sim_pure True.intro
      | some b =>
        dsimp only
        split
        · exact sim_pure True.intro
        · refine sim_bind (sim_rev (by omega) rfl h2) fun _ _ => ?_
          refine sim_bind sim_lift fun _ _ => ?_
          refine desc n2 h1 hlt _ _ ?_
          rintro ⟨r, k, q⟩ ⟨k1, k2, k3⟩
          dsimp only at k1 k2 k3 ⊢
          cases r with
          | some r => exact sim_pure True.intro
          | none =>
            dsimp only
            split
            · refine sim_bind (sim_rev (by omega) rfl k2) fun _ _ => ?_
              refine sim_bind (sim_rev (by omega) rfl k2) fun _ _ => ?_
              refine sim_bind (P := fun _ => True) (sim_range (I := fun x (c : Option (Option Nat) × Nat) => 1 ≤ c.2) k1 ?_ (fun _ _ => True.intro)) ?_
              · intro x c hax hxn hc
                refine sim_bind (sim_ltAt rfl (by omega)) fun r _ => ?_
                cases r with
                | none => exact sim_pure True.intro
                | some b =>
                  dsimp only
                  split
                  · exact sim_pure True.intro
                  · exact sim_pure (show 1 ≤ c.2 + 1 by omega)
              rintro ⟨r, z⟩ _
              cases r <;> exact sim_pure True.intro
            · refine sim_bind (sim_rev (by omega) rfl k2) fun _ _ => ?_
              refine sim_bind (P := fun _ => True) (sim_range (I := fun x (c : Option (Option Nat) × Nat) => 1 ≤ c.2) k1 ?_ (fun _ _ => True.intro)) ?_
              · intro x c hax hxn hc
                refine sim_bind (sim_ltAt rfl (by omega)) fun r _ => ?_
                cases r with
                | none => exact sim_pure True.intro
                | some b =>
                  dsimp only
                  split
                  · exact sim_pure True.intro
                  · exact sim_pure (show 1 ≤ c.2 + 1 by omega)
              rintro ⟨r, z⟩ _
              cases r <;> exact sim_pure True.intro
    · refine sim_bind sim_lift fun _ _ => ?_
      refine desc n2 h1 hlt _ _ ?_
      rintro ⟨r, k, q⟩ ⟨k1, k2, k3⟩
      dsimp only at k1 k2 k3 ⊢
      cases r with
      | some r => exact sim_pure True.intro
      | none =>
        dsimp only
        split
        · refine sim_bind (sim_rev (by omega) rfl k2) fun _ _ => ?_
          refine sim_bind (sim_rev (by omega) rfl k2) fun _ _ => ?_
          refine sim_bind (P := fun _ => True) (sim_range (I := fun x (c : Option (Option Nat) × Nat) => 1 ≤ c.2) k1 ?_ (fun _ _ => True.intro)) ?_
          · intro x c hax hxn hc
            refine sim_bind (sim_ltAt rfl (by omega)) fun r _ => ?_
            cases r with
            | none => exact sim_pure True.intro
            | some b =>
              dsimp only
              split
              · exact sim_pure True.intro
              · exact sim_pure (show 1 ≤ c.2 + 1 by omega)
          rintro ⟨r, z⟩ _
          cases r <;> exact sim_pure True.intro
        · refine sim_bind (sim_rev (by omega) rfl k2) fun _ _ => ?_
          refine sim_bind (P := fun _ => True) (sim_range (I := fun x (c : Option (Option Nat) × Nat) => 1 ≤ c.2) k1 ?_ (fun _ _ => True.intro)) ?_
          · intro x c hax hxn hc
            refine sim_bind (sim_ltAt rfl (by omega)) fun r _ => ?_
            cases r with
            | none => exact sim_pure True.intro
            | some b =>
              dsimp only
              split
              · exact sim_pure True.intro
              · exact sim_pure (show 1 ≤ c.2 + 1 by omega)
          rintro ⟨r, z⟩ _
          cases r <;> exact sim_pure True.intro
  run_tac sqEnd
theorem sim_bin {ok : Nat} : Sim M lo n fr pn (fun _ => True) (binarySort' lo n ok) (binarySort' 0 n ok) := by
  rw [binarySort'_eq lo n ok, binarySort'_eq 0 n ok]
  simp only [Nat.zero_add]
  refine sim_bind (P := fun _ => True) (sim_range (I := fun x c => True) True.intro ?_ (fun _ _ => True.intro)) ?_
  · intro k c hak hkn _
    refine sim_bind (P := fun c : Option Bool × Nat × Nat => c.2.1 ≤ k) (sim_range (I := fun x c => c.2.1 ≤ c.2.2 ∧ c.2.2 ≤ k) ⟨Nat.zero_le _, Nat.le_refl _⟩ ?_ (fun b hb => by omega)) ?_
    · intro x d hax hxk hd
      obtain ⟨d0, l, r⟩ := d
      dsimp only at hd ⊢
      split
      · exact sim_pure (show l ≤ k by omega)
      · rename_i hlr
        refine sim_bind (sim_ltAt rfl rfl) fun q _ => ?_
        cases q with
        | none => exact sim_pure (show l ≤ k by omega)
        | some b =>
          dsimp only
          split
          · exact sim_pure ⟨by show l ≤ (l + r) / 2; omega, by show (l + r) / 2 ≤ k; omega⟩
          · exact sim_pure ⟨by show (l + r) / 2 + 1 ≤ r; omega, by show r ≤ k; omega⟩
    · rintro ⟨d0, l, r⟩ hl
      dsimp only at hl ⊢
      cases d0 with
      | some q => exact sim_pure True.intro
      | none =>
        dsimp only
        refine sim_bind (sim_down rfl rfl hkn hl) fun _ _ => ?_
        exact sim_pure True.intro
  · rintro ⟨d0, u⟩ _
    cases d0 <;> exact sim_pure True.intro
end
end Mine
end

section
open PySem PySem.W PyProof.Rows PyProof.Rows.LCg PySem.Calls
set_option maxRecDepth 100000
namespace Mine
section
variable {prog : Program} {w : World} {A : Around} {E : Value → Shared → Prop} {s : Shared}
/-- the state of a sort of ints that goes well -/
structure Good (a₀ : Array Keyed) (st : SortSt) : Prop where
  perm : (arrOf st).Perm a₀
  kind : kindOf st = oneType'
  failed : failedOf st = none
theorem Good.size {a₀ : Array Keyed} {st : SortSt} (h : Good a₀ st) : (arrOf st).size = a₀.size := h.perm.size_eq
/-- the run [lo, lo + m) is in order -/
noncomputable def Srt (xs : Array Keyed) (lo m : Nat) : Prop := ∀ i j, lo ≤ i → i ≤ j → j < lo + m → K xs i ≤ K xs j
/-- st' is st but for the order within the window -/
structure Win (lo n : Nat) (st st' : SortSt) : Prop where
  out : ∀ i, (i < lo ∨ lo + n ≤ i) → (arrOf st')[i]? = (arrOf st)[i]?
  pend : pendingOf st' = pendingOf st
noncomputable def cut (xs : Array Keyed) (lo n : Nat) : Array Keyed := ((xs.toList.drop lo).take n).toArray
theorem cut_size {xs : Array Keyed} {lo n : Nat} (h : lo + n ≤ xs.size) : (cut xs lo n).size = n := by
  simp [cut]; omega
theorem cut_get {xs : Array Keyed} {lo n i : Nat} (h : i < n) : (cut xs lo n)[i]? = xs[lo + i]? := by
  simp [cut, List.getElem?_take, h, List.getElem?_drop]
theorem cut_keys {a₀ xs : Array Keyed} (hp : xs.Perm a₀) (h0 : IntKeys a₀) (lo n : Nat) : IntKeys (cut xs lo n) := by
  intro p hm
  refine h0 p ?_
  have h1 : p ∈ xs.toList := by
    have : p ∈ (xs.toList.drop lo).take n := by simpa [cut] using hm
    exact List.mem_of_mem_drop (List.mem_of_mem_take this)
  exact (Array.perm_iff_toList_perm.mp hp).mem_iff.mp h1
theorem perm_win {xs ys z : Array Keyed} {lo n : Nat} (hs : xs.size = ys.size) (hf : lo + n ≤ ys.size) (hw : ∀ i, i < n → xs[lo + i]? = z[i]?) (hz : z.Perm (cut ys lo n)) (ho : ∀ i, (i < lo ∨ lo + n ≤ i) → xs[i]? = ys[i]?) : xs.Perm ys := by
  have hzs : z.size = n := by rw [hz.size_eq, cut_size hf]
  refine Array.perm_iff_toList_perm.mpr ?_
  have e1 : xs.toList = ys.toList.take lo ++ (z.toList ++ ys.toList.drop (lo + n)) := by
    apply List.ext_getElem?
    intro i
    have hz' : z.toList.length = n := by simpa using hzs
    have hl : (ys.toList.take lo).length = lo := by simp; omega
    rcases Nat.lt_or_ge i lo with h | h
    · rw [List.getElem?_append_left (by omega), List.getElem?_take, if_pos h]
      have := ho i (.inl h)
      simpa using this
    · rw [List.getElem?_append_right (by omega), hl]
      rcases Nat.lt_or_ge i (lo + n) with h2 | h2
      · rw [List.getElem?_append_left (by omega)]
        have := hw (i - lo) (by omega)
        rw [show lo + (i - lo) = i by omega] at this
        simpa using this
      · rw [List.getElem?_append_right (by omega), hz', List.getElem?_drop, show lo + n + (i - lo - n) = i by omega]
        have := ho i (.inr h2)
        simpa using this
  have e2 : ys.toList = ys.toList.take lo ++ ((cut ys lo n).toList ++ ys.toList.drop (lo + n)) := by
    show _ = ys.toList.take lo ++ ((ys.toList.drop lo).take n ++ ys.toList.drop (lo + n))
    rw [← List.drop_drop, List.take_append_drop, List.take_append_drop]
  rw [e1]
  conv => rhs; rw [e2]
  exact ((Array.perm_iff_toList_perm.mp hz).append_right _).append_left _
theorem wpS_at {α : Type} {a₀ : Array Keyed} {lo n : Nat} {st : SortSt} {m m' : StateT SortSt Sem α} {Q : α → SortSt → Prop} {Q0 : α → SortSt → Prop} (hG : Good a₀ st) (hf : lo + n ≤ (arrOf st).size)
    (hsim : ∀ fr pn, Sim (model prog w) lo n fr pn (fun _ => True) m m')
    (h0 : wpS (model prog w) A E s m' Q0 (SortSt.mk' (kindOf st) (cut (arrOf st) lo n) #[] (gallopOf st) (failedOf st)))
    (hq : ∀ a st' st0', Q0 a st0' → (∀ i, i < n → (arrOf st')[lo + i]? = (arrOf st0')[i]?) → (arrOf st').size = (arrOf st).size → kindOf st' = kindOf st0' → failedOf st' = failedOf st0' → Win lo n st st' → Q a st') :
    wpS (model prog w) A E s m Q st := by
  intro Γ p hΓ
  have R : Rel lo n (arrOf st) (pendingOf st) st (SortSt.mk' (kindOf st) (cut (arrOf st) lo n) #[] (gallopOf st) (failedOf st)) :=
    ⟨fun i hi => (cut_get hi).symm, fun _ _ => rfl, rfl, cut_size hf, hf, rfl, rfl, rfl⟩
  refine Sem.wp_mono _ Γ _ (fun r p' s' hr => ?_) (fun _ _ _ x => x) _ _ (hsim _ _ Γ p s st _ _ _ R (h0 Γ p hΓ))
  obtain ⟨st0', R', _, rfl, hq0⟩ := hr
  exact ⟨rfl, hq r.1 r.2 st0' hq0 R'.arr R'.size R'.kind R'.failed ⟨R'.out, R'.pend⟩⟩
theorem K_at {xs z : Array Keyed} {lo n : Nat} (h : ∀ i, i < n → xs[lo + i]? = z[i]?) {i : Nat} (hi : i < n) : K xs (lo + i) = K z i := K_congr (h i hi)
theorem wpS_count_at {a₀ : Array Keyed} {lo n : Nat} {st : SortSt} {Q : Option Nat → SortSt → Prop} (h0 : IntKeys a₀) (hG : Good a₀ st) (hn : 1 ≤ n) (hf : lo + n ≤ a₀.size)
    (h : ∀ m st', 1 ≤ m → m ≤ n → Good a₀ st' → Win lo n st st' → Srt (arrOf st') lo m → Q (some m) st') : wpS (model prog w) A E s (countRun' lo n) Q st := by
  run_tac sqBegin
  have hf' : lo + n ≤ (arrOf st).size := by rw [hG.size]; exact hf
  refine wpS_at hG hf' (fun fr pn => sim_count hn) (Q0 := fun r st0' => ∃ m, r = some m ∧ 1 ≤ m ∧ m ≤ n ∧ SBase (cut (arrOf st) lo n) st0' ∧ SortedTo (arrOf st0') m) ?_ ?_
  · refine wpS_countRun (a₀ := cut (arrOf st) lo n) (cut_keys hG.perm h0 lo n) (by rw [cut_size hf']; exact Nat.le_refl _) hn ⟨Array.Perm.refl _, hG.kind, hG.failed, rfl⟩ ?_
    intro m st0' hB h1 h2 hs
    exact ⟨m, rfl, h1, h2, hB, hs⟩
  · rintro a st' st0' ⟨m, rfl, h1, h2, hB, hs⟩ harr hsz hk hfl hW
    refine h m st' h1 h2 ⟨?_, hk.trans hB.kind, hfl.trans hB.failed⟩ hW ?_
    · exact (perm_win hsz hf' harr hB.perm hW.out).trans hG.perm
    · intro i j hi hij hj
      obtain ⟨i', rfl⟩ := Nat.exists_eq_add_of_le hi
      obtain ⟨j', rfl⟩ := Nat.exists_eq_add_of_le (Nat.le_trans hi hij)
      rw [K_at harr (by omega), K_at harr (by omega)]
      exact hs i' j' (by omega) (by omega)
  run_tac sqEnd
theorem wpS_bin_at {a₀ : Array Keyed} {lo n ok : Nat} {st : SortSt} {Q : Bool → SortSt → Prop} (h0 : IntKeys a₀) (hG : Good a₀ st) (hok : ok ≤ n) (hf : lo + n ≤ a₀.size) (hs : Srt (arrOf st) lo ok)
    (h : ∀ st', Good a₀ st' → Win lo n st st' → Srt (arrOf st') lo n → Q true st') : wpS (model prog w) A E s (binarySort' lo n ok) Q st := by
  have hf' : lo + n ≤ (arrOf st).size := by rw [hG.size]; exact hf
  refine wpS_at hG hf' (fun fr pn => sim_bin) (Q0 := fun r st0' => r = true ∧ SBase (cut (arrOf st) lo n) st0' ∧ SortedTo (arrOf st0') n) ?_ ?_
  · refine wpS_binarySort (a₀ := cut (arrOf st) lo n) (cut_keys hG.perm h0 lo n) (by rw [cut_size hf']; exact Nat.le_refl _) hok ⟨Array.Perm.refl _, hG.kind, hG.failed, rfl⟩ ?_ ?_
    · intro i j hij hj
      show K (cut (arrOf st) lo n) i ≤ K (cut (arrOf st) lo n) j
      rw [K_congr (cut_get (xs := arrOf st) (lo := lo) (show i < n by omega)), K_congr (cut_get (xs := arrOf st) (lo := lo) (show j < n by omega))]
      exact hs _ _ (by omega) (by omega) (by omega)
    · intro st0' hB hs0
      exact ⟨rfl, hB, hs0⟩
  · rintro a st' st0' ⟨rfl, hB, hs0⟩ harr hsz hk hfl hW
    refine h st' ⟨?_, hk.trans hB.kind, hfl.trans hB.failed⟩ hW ?_
    · exact (perm_win hsz hf' harr hB.perm hW.out).trans hG.perm
    · intro i j hi hij hj
      obtain ⟨i', rfl⟩ := Nat.exists_eq_add_of_le hi
      obtain ⟨j', rfl⟩ := Nat.exists_eq_add_of_le (Nat.le_trans hi hij)
      rw [K_at harr (by omega), K_at harr (by omega)]
      exact hs0 i' j' (by omega) (by omega)
end
end Mine
end

section
open PySem PySem.W PyProof.Rows PyProof.Rows.LCg PySem.Calls
set_option maxRecDepth 100000
namespace Mine
/-- opens the model's private definition whose name ends so -/
def openPriv (ends : String) : Lean.Elab.Tactic.TacticM Unit := open Lean Meta Elab Tactic in liftMetaTactic fun g => do
  return [← g.replaceTargetDefEq (← Core.betaReduce (← deltaExpand (← instantiateMVars (← g.getType)) fun n => n.toString.endsWith ends))]
noncomputable def gallop' : Bool → Keyed → Array Keyed → Nat → Nat → Nat → StateT SortSt Sem (Option Nat) := sortPriv% PySem.Builtin.gallop
section
variable {prog : Program} {w : World} {A : Around} {E : Value → Shared → Prop} {s : Shared}
theorem wpS_lt {x y : Keyed} {a b : Int} {t u : Tok} {p q : Value} {st : SortSt} {Q : Option Bool → SortSt → Prop} (hk : kindOf st = oneType') (hx : x = (.int a t, p)) (hy : y = (.int b u, q)) (h : Q (some (decide (a < b))) st) : wpS (model prog w) A E s (lt' x y) Q st := by
  subst hx hy
  rw [lt'_eq]
  refine wpS_bind (wpS_get ?_)
  rw [hk, keyLt'_oneType]
  refine wpS_bind (wpS_lift (wpAny_attempt (oneLt_int ⟨rfl, ?_⟩)))
  exact wpS_pure h
theorem wpS_elem {arr : Array Keyed} {i : Nat} {x : Keyed} {st : SortSt} {Q : Keyed → SortSt → Prop} (hx : arr[i]? = some x) (h : Q x st) : wpS (model prog w) A E s (elem' arr i) Q st := by
  rw [elem'_eq, hx]; exact wpS_pure h
theorem wpS_bey {left : Bool} {key x : Keyed} {arr : Array Keyed} {i : Nat} {a k : Int} {t u : Tok} {p q : Value} {st : SortSt} {Q : Option Bool → SortSt → Prop} (hk : kindOf st = oneType') (hx : arr[i]? = some x) (hxx : x = (.int a t, p)) (hkey : key = (.int k u, q))
    (h : Q (some (if left = true then decide (a < k) else !decide (k < a))) st) :
    wpS (model prog w) A E s (do let x ← elem' arr i; if left = true then lt' x key else do let l ← lt' key x; pure (Option.map (fun x => !x) l)) Q st := by
  refine wpS_bind (wpS_elem hx ?_)
  cases left with
  | true => exact wpS_lt hk hxx hkey h
  | false => exact wpS_bind (wpS_lt hk hkey hxx (wpS_pure h))
/-- galloping counts the places at which a falling test holds -/
theorem wpS_gallop {left : Bool} {key : Keyed} {arr : Array Keyed} {base n hint : Nat} {st : SortSt} {Q : Option Nat → SortSt → Prop} {k : Int} {u : Tok} {q : Value} (pr : Nat → Bool) (hh : hint < n) (hk : kindOf st = oneType') (hkey : key = (.int k u, q))
    (hpr : ∀ i, i < n → ∃ a t p, arr[base + i]? = some (.int a t, p) ∧ pr i = (if left = true then decide (a < k) else !decide (k < a)))
    (mono : ∀ i j, i ≤ j → j < n → pr j = true → pr i = true)
    (h : ∀ c, c ≤ n → (∀ i, i < c → pr i = true) → (∀ i, c ≤ i → i < n → pr i = false) → Q (some c) st) : wpS (model prog w) A E s (gallop' left key arr base n hint) Q st := by
  run_tac sqBegin
  have bey : ∀ (i : Nat) (Q' : Option Bool → SortSt → Prop), i < n → Q' (some (pr i)) st → wpS (model prog w) A E s (do let x ← elem' arr (base + i); if left = true then lt' x key else do let l ← lt' key x; pure (Option.map (fun x => !x) l)) Q' st := by
    intro i Q' hi hq
    obtain ⟨a, t, p, hx, e⟩ := hpr i hi
    rw [e] at hq
    exact wpS_bey hk hx rfl hkey hq
  have monoF : ∀ i j, i ≤ j → j < n → pr i = false → pr j = false := by
    intro i j hij hj hi
    cases hjj : pr j with
    | false => rfl
    | true => rw [mono i j hij hj hjj] at hi; cases hi
  unfold gallop'
  run_tac openPriv "PySem.Builtin.gallop"
  dsimp only
  refine wpS_bind (bey hint _ hh ?_)
  dsimp only
  by_cases hp : pr hint = true
  · rw [if_pos hp]
    refine wpS_bind (wpS_mono (wpS_forRange (I := fun x c st' => st = st' ∧ ∃ l o, c = (none, l, o) ∧ hint + l < n ∧ pr (hint + l) = true ∧ l < o ∧ x + 1 ≤ o)
      (Q := fun c st' => st = st' ∧ ∃ l o, c = (none, l, o) ∧ hint + l < n ∧ pr (hint + l) = true ∧ l < o ∧ (n - hint ≤ o ∨ (hint + o < n ∧ pr (hint + o) = false))) ?_ ?_ ⟨rfl, 0, 1, rfl, hh, hp, by omega, by omega⟩) ?_)
    · rintro x c st' _ hx ⟨rfl, l, o, rfl, h1, h2, h3, h4⟩
      dsimp only
      split
      · exact wpS_pure ⟨rfl, l, o, rfl, h1, h2, h3, Or.inl (by assumption)⟩
      · rename_i hlt
        refine wpS_bind (bey (hint + o) _ (by omega) ?_)
        dsimp only
        cases ho : pr (hint + o) with
        | false =>
          rw [if_pos (show (!false) = true from rfl)]
          exact wpS_pure ⟨rfl, l, o, rfl, h1, h2, h3, Or.inr ⟨by omega, ho⟩⟩
        | true =>
          rw [if_neg (show ¬ (!true) = true by decide)]
          exact wpS_pure ⟨rfl, o, 2 * o + 1, rfl, by omega, ho, by omega, by omega⟩
    · rintro c st' ⟨rfl, l, o, rfl, h1, h2, h3, h4⟩
      exact ⟨rfl, l, o, rfl, h1, h2, h3, Or.inl (by omega)⟩
    · rintro c st' ⟨rfl, l, o, rfl, h1, h2, h3, h4⟩
      dsimp only
      refine wpS_bind (wpS_mono (wpS_forRange (I := fun x c st' => st = st' ∧ ∃ a b, c = (none, a, b) ∧ a ≤ b ∧ b ≤ n ∧ b - a ≤ n - x ∧ (∀ i, i < a → pr i = true) ∧ (∀ i, b ≤ i → i < n → pr i = false))
        (Q := fun c st' => st = st' ∧ ∃ a b, c = (none, a, b) ∧ b ≤ n ∧ (∀ i, i < b → pr i = true) ∧ (∀ i, b ≤ i → i < n → pr i = false)) ?_ ?_ ⟨rfl, hint + l + 1, hint + min o (n - hint), rfl, by omega, by omega, by omega, ?_, ?_⟩) ?_)
      · rintro x c st' _ hx ⟨rfl, a, b, rfl, g1, g2, g3, g4, g5⟩
        dsimp only
        split
        · have : a = b := by omega
          subst this
          exact wpS_pure ⟨rfl, a, a, rfl, g2, g4, g5⟩
        · rename_i hab
          refine wpS_bind (bey (a + (b - a) / 2) _ (by omega) ?_)
          dsimp only
          cases hm : pr (a + (b - a) / 2) with
          | true =>
            rw [if_pos rfl]
            refine wpS_pure ⟨rfl, a + (b - a) / 2 + 1, b, rfl, by omega, g2, by omega, fun i hi => ?_, g5⟩
            exact mono i _ (by omega) (by omega) hm
          | false =>
            rw [if_neg (by decide)]
            refine wpS_pure ⟨rfl, a, a + (b - a) / 2, rfl, by omega, by omega, by omega, g4, fun i hi1 hi2 => ?_⟩
            exact monoF _ i hi1 hi2 hm
      · rintro c st' ⟨rfl, a, b, rfl, g1, g2, g3, g4, g5⟩
        have : a = b := by omega
        subst this
        exact ⟨rfl, a, a, rfl, g2, g4, g5⟩
      · intro i hi
        exact mono i (hint + l) (by omega) h1 h2
      · intro i hi1 hi2
        rcases h4 with h4 | ⟨h4, h5⟩
        · omega
        · exact monoF (hint + o) i (by omega) hi2 h5
      · rintro c st' ⟨rfl, a, b, rfl, g2, g4, g5⟩
        exact wpS_pure (h b g2 g4 g5)
  · rw [if_neg hp]
    have hpf : pr hint = false := by simpa using hp
    refine wpS_bind (wpS_mono (wpS_forRange (I := fun x c st' => st = st' ∧ ∃ l o, c = (none, l, o) ∧ l ≤ hint ∧ pr (hint - l) = false ∧ l < o ∧ x + 1 ≤ o)
      (Q := fun c st' => st = st' ∧ ∃ l o, c = (none, l, o) ∧ l ≤ hint ∧ pr (hint - l) = false ∧ l < o ∧ (hint + 1 ≤ o ∨ (o ≤ hint ∧ pr (hint - o) = true))) ?_ ?_ ⟨rfl, 0, 1, rfl, by omega, hpf, by omega, by omega⟩) ?_)
    · rintro x c st' _ hx ⟨rfl, l, o, rfl, h1, h2, h3, h4⟩
      dsimp only
      split
      · exact wpS_pure ⟨rfl, l, o, rfl, h1, h2, h3, Or.inl (by assumption)⟩
      · rename_i hlt
        refine wpS_bind (bey (hint - o) _ (by omega) ?_)
        dsimp only
        cases ho : pr (hint - o) with
        | true =>
          rw [if_pos rfl]
          exact wpS_pure ⟨rfl, l, o, rfl, h1, h2, h3, Or.inr ⟨by omega, ho⟩⟩
        | false =>
          rw [if_neg (by decide)]
          exact wpS_pure ⟨rfl, o, 2 * o + 1, rfl, by omega, ho, by omega, by omega⟩
    · rintro c st' ⟨rfl, l, o, rfl, h1, h2, h3, h4⟩
      exact ⟨rfl, l, o, rfl, h1, h2, h3, Or.inl (by omega)⟩
    · rintro c st' ⟨rfl, l, o, rfl, h1, h2, h3, h4⟩
      dsimp only
      refine wpS_bind (wpS_mono (wpS_forRange (I := fun x c st' => st = st' ∧ ∃ a b, c = (none, a, b) ∧ a ≤ b ∧ b ≤ n ∧ b - a ≤ n - x ∧ (∀ i, i < a → pr i = true) ∧ (∀ i, b ≤ i → i < n → pr i = false))
        (Q := fun c st' => st = st' ∧ ∃ a b, c = (none, a, b) ∧ b ≤ n ∧ (∀ i, i < b → pr i = true) ∧ (∀ i, b ≤ i → i < n → pr i = false)) ?_ ?_ ⟨rfl, hint + 1 - min o (hint + 1), hint - l, rfl, by omega, by omega, by omega, ?_, ?_⟩) ?_)
      · rintro x c st' _ hx ⟨rfl, a, b, rfl, g1, g2, g3, g4, g5⟩
        dsimp only
        split
        · have : a = b := by omega
          subst this
          exact wpS_pure ⟨rfl, a, a, rfl, g2, g4, g5⟩
        · rename_i hab
          refine wpS_bind (bey (a + (b - a) / 2) _ (by omega) ?_)
          dsimp only
          cases hm : pr (a + (b - a) / 2) with
          | true =>
            rw [if_pos rfl]
            refine wpS_pure ⟨rfl, a + (b - a) / 2 + 1, b, rfl, by omega, g2, by omega, fun i hi => ?_, g5⟩
            exact mono i _ (by omega) (by omega) hm
          | false =>
            rw [if_neg (by decide)]
            refine wpS_pure ⟨rfl, a, a + (b - a) / 2, rfl, by omega, by omega, by omega, g4, fun i hi1 hi2 => ?_⟩
            exact monoF _ i hi1 hi2 hm
      · rintro c st' ⟨rfl, a, b, rfl, g1, g2, g3, g4, g5⟩
        have : a = b := by omega
        subst this
        exact ⟨rfl, a, a, rfl, g2, g4, g5⟩
      · intro i hi
        rcases h4 with h4 | ⟨h4, h5⟩
        · omega
        · exact mono i (hint - o) (by omega) (by omega) h5
      · intro i hi1 hi2
        exact monoF (hint - l) i hi1 hi2 h2
      · rintro c st' ⟨rfl, a, b, rfl, g2, g4, g5⟩
        exact wpS_pure (h b g2 g4 g5)
  run_tac sqEnd
end
end Mine
end

section
open PySem PySem.W PyProof.Rows PyProof.Rows.LCg PySem.Calls
set_option maxRecDepth 100000
namespace Mine
noncomputable abbrev kz (p : Keyed) : Int := numOf p.1
theorem K_list (xs : Array Keyed) (i : Nat) (h : i < xs.toList.length) : K xs i = kz (xs.toList[i]) := by
  unfold K
  rw [getElem?_pos xs i (by simpa using h)]
  rfl
/-- sorted by the keys -/
noncomputable def Asc (l : List Keyed) : Prop := l.Pairwise (fun x y => kz x ≤ kz y)
theorem asc_of_srt {xs : Array Keyed} (h : Srt xs 0 xs.size) : Asc xs.toList := by
  unfold Asc
  rw [List.pairwise_iff_getElem]
  intro i j hi hj hij
  rw [← K_list xs i hi, ← K_list xs j hj]
  exact h i j (Nat.zero_le _) (by omega) (by simpa using hj)
theorem srt_of_asc {xs : Array Keyed} (h : Asc xs.toList) : Srt xs 0 xs.size := by
  unfold Asc at h
  rw [List.pairwise_iff_getElem] at h
  intro i j _ hij hj
  have hj' : j < xs.toList.length := by simpa using hj
  rcases Nat.eq_or_lt_of_le hij with rfl | hlt
  · exact Int.le_refl _
  · rw [K_list xs i (by omega), K_list xs j hj']
    exact h i j (by omega) hj' hlt
/-- what has been merged, and what is left of both -/
structure Mrg (l0 out a b : List Keyed) : Prop where
  perm : (out ++ (a ++ b)).Perm l0
  asc : Asc out
  left : ∀ x ∈ out, (∀ y ∈ a, kz x ≤ kz y) ∧ ∀ y ∈ b, kz x ≤ kz y
  ascA : Asc a
  ascB : Asc b
theorem asc_push {out : List Keyed} {z : Keyed} (h : Asc out) (hz : ∀ x ∈ out, kz x ≤ kz z) : Asc (out ++ [z]) := by
  unfold Asc
  rw [List.pairwise_append]
  refine ⟨h, List.pairwise_singleton _ _, fun x hx y hy => ?_⟩
  rw [List.mem_singleton.mp hy]; exact hz x hx
theorem Mrg.pushB {l0 out a b : List Keyed} {z : Keyed} (h : Mrg l0 out a (z :: b)) (ha : ∀ y ∈ a, kz z ≤ kz y) : Mrg l0 (out ++ [z]) a b := by
  have hb := List.pairwise_cons.mp h.ascB
  refine ⟨?_, asc_push h.asc fun x hx => (h.left x hx).2 z List.mem_cons_self, ?_, h.ascA, hb.2⟩
  · refine List.Perm.trans ?_ h.perm
    rw [List.append_assoc]
    refine List.Perm.append_left _ ?_
    exact (List.perm_middle (a := z) (l₁ := a) (l₂ := b)).symm
  · intro x hx
    rcases List.mem_append.mp hx with hx | hx
    · exact ⟨(h.left x hx).1, fun y hy => (h.left x hx).2 y (List.mem_cons_of_mem _ hy)⟩
    · rw [List.mem_singleton.mp hx]; exact ⟨ha, hb.1⟩
theorem Mrg.pushA {l0 out a b : List Keyed} {z : Keyed} (h : Mrg l0 out (z :: a) b) (hb : ∀ y ∈ b, kz z ≤ kz y) : Mrg l0 (out ++ [z]) a b := by
  have ha := List.pairwise_cons.mp h.ascA
  refine ⟨?_, asc_push h.asc fun x hx => (h.left x hx).1 z List.mem_cons_self, ?_, ha.2, h.ascB⟩
  · refine List.Perm.trans ?_ h.perm
    rw [List.append_assoc]
    exact List.Perm.refl _
  · intro x hx
    rcases List.mem_append.mp hx with hx | hx
    · exact ⟨fun y hy => (h.left x hx).1 y (List.mem_cons_of_mem _ hy), (h.left x hx).2⟩
    · rw [List.mem_singleton.mp hx]; exact ⟨ha.1, hb⟩
theorem Mrg.pushAs {l0 b : List Keyed} : ∀ {zs out a : List Keyed}, Mrg l0 out (zs ++ a) b → (∀ z ∈ zs, ∀ y ∈ b, kz z ≤ kz y) → Mrg l0 (out ++ zs) a b
  | [], out, a, h, _ => by simpa using h
  | z :: zs, out, a, h, hz => by
    have h1 := Mrg.pushA (z := z) (a := zs ++ a) h (hz z List.mem_cons_self)
    have h2 := Mrg.pushAs (zs := zs) h1 fun x hx => hz x (List.mem_cons_of_mem _ hx)
    simpa using h2
theorem Mrg.pushBs {l0 a : List Keyed} : ∀ {zs out b : List Keyed}, Mrg l0 out a (zs ++ b) → (∀ z ∈ zs, ∀ y ∈ a, kz z ≤ kz y) → Mrg l0 (out ++ zs) a b
  | [], out, b, h, _ => by simpa using h
  | z :: zs, out, b, h, hz => by
    have h1 := Mrg.pushB (z := z) (b := zs ++ b) h (hz z List.mem_cons_self)
    have h2 := Mrg.pushBs (zs := zs) h1 fun x hx => hz x (List.mem_cons_of_mem _ hx)
    simpa using h2
/-- the ends of a merge -/
theorem Mrg.doneB {l0 out a : List Keyed} (h : Mrg l0 out a []) : Asc (out ++ a) ∧ (out ++ a).Perm l0 := by
  refine ⟨?_, by simpa using h.perm⟩
  unfold Asc
  rw [List.pairwise_append]
  exact ⟨h.asc, h.ascA, fun x hx y hy => (h.left x hx).1 y hy⟩
theorem Mrg.doneA {l0 out b : List Keyed} (h : Mrg l0 out [] b) : Asc (out ++ b) ∧ (out ++ b).Perm l0 := by
  refine ⟨?_, by simpa using h.perm⟩
  unfold Asc
  rw [List.pairwise_append]
  exact ⟨h.asc, h.ascB, fun x hx y hy => (h.left x hx).2 y hy⟩
theorem Mrg.lastA {l0 out b : List Keyed} {z : Keyed} (h : Mrg l0 out [z] b) (hz : ∀ y ∈ b, kz y ≤ kz z) : Asc (out ++ b ++ [z]) ∧ (out ++ b ++ [z]).Perm l0 := by
  have h2 := Mrg.pushBs (zs := b) (b := []) (by simpa using h) fun y hy x hx => by rw [List.mem_singleton.mp hx]; exact hz y hy
  exact h2.doneB
end Mine
end

section
open PySem PySem.W PyProof.Rows PyProof.Rows.LCg PySem.Calls
set_option maxRecDepth 100000
namespace Mine
noncomputable def mergeLo' : Array Keyed → Array Keyed → StateT SortSt Sem (Array Keyed) := sortPriv% PySem.Builtin.mergeLo
theorem drop_get (xs : Array Keyed) (i : Nat) (h : i < xs.size) : xs.toList.drop i = xs[i] :: xs.toList.drop (i + 1) := by
  rw [List.drop_eq_getElem_cons (by simpa using h)]; simp
theorem int_form {xs : Array Keyed} (h : IntKeys xs) {i : Nat} (hi : i < xs.size) : ∃ t, xs[i] = (.int (kz xs[i]) t, xs[i].2) := by
  obtain ⟨n, t, hn⟩ := h xs[i] (by simp)
  refine ⟨t, ?_⟩
  have : kz xs[i] = n := by unfold kz; rw [hn]; rfl
  rw [this]
  exact Prod.ext hn rfl
theorem asc_get {xs : Array Keyed} (h : Asc xs.toList) {i j : Nat} (hij : i ≤ j) (hj : j < xs.size) : kz xs[i] ≤ kz xs[j] := by
  have hs := srt_of_asc h i j (Nat.zero_le _) hij (by omega)
  rw [K_list xs i (by simp; omega), K_list xs j (by simpa using hj)] at hs
  simpa using hs
theorem mem_drop_get {xs : Array Keyed} {i : Nat} {y : Keyed} (h : y ∈ xs.toList.drop i) : ∃ j, ∃ hj : j < xs.size, i ≤ j ∧ y = xs[j] := by
  obtain ⟨k, hk, rfl⟩ := List.mem_iff_getElem.mp h
  simp only [List.length_drop, Array.length_toList] at hk
  exact ⟨i + k, by omega, by omega, by simp⟩
theorem mem_take_get {xs : Array Keyed} {i k : Nat} {y : Keyed} (h : y ∈ (xs.toList.drop i).take k) : ∃ j, ∃ hj : j < xs.size, i ≤ j ∧ j < i + k ∧ y = xs[j] := by
  obtain ⟨q, hq, rfl⟩ := List.mem_iff_getElem.mp h
  simp only [List.length_take, List.length_drop, Array.length_toList] at hq
  exact ⟨i + q, by omega, by omega, by omega, by simp⟩
theorem ext_list (xs : Array Keyed) (i k : Nat) : (xs.extract i (i + k)).toList = (xs.toList.drop i).take k := by
  rw [Array.toList_extract, List.extract_eq_take_drop]; congr 1; omega
theorem ext_end (xs : Array Keyed) (i : Nat) : (xs.extract i xs.size).toList = xs.toList.drop i := by
  rw [Array.toList_extract, List.extract_eq_take_drop]
  exact List.take_of_length_le (by simp)
theorem drop_split (xs : Array Keyed) (i k : Nat) : xs.toList.drop i = (xs.toList.drop i).take k ++ xs.toList.drop (i + k) := by
  rw [← List.drop_drop, List.take_append_drop]
/-- the state of a merge: both go on -/
structure MInv (a b : Array Keyed) (out : Array Keyed) (ia ib : Nat) : Prop where
  ha : ia + 1 < a.size
  hb : ib < b.size
  m : Mrg (a.toList ++ b.toList) out.toList (a.toList.drop ia) (b.toList.drop ib)
noncomputable def Res (a b r : Array Keyed) : Prop := Asc r.toList ∧ r.toList.Perm (a.toList ++ b.toList)
structure Same (st st' : SortSt) : Prop where
  kind : kindOf st' = kindOf st
  arr : arrOf st' = arrOf st
  pend : pendingOf st' = pendingOf st
  failed : failedOf st' = failedOf st
theorem res_done_b {a b out : Array Keyed} {ia ib : Nat} (h : Mrg (a.toList ++ b.toList) out.toList (a.toList.drop ia) (b.toList.drop ib)) (hb : ib = b.size) : Res a b (out ++ a.extract ia a.size ++ b.extract ib b.size) := by
  have e : b.toList.drop ib = [] := List.drop_eq_nil_of_le (by simp; omega)
  rw [e] at h
  have := h.doneB
  unfold Res
  rw [Array.toList_append, Array.toList_append, ext_end, ext_end, e, List.append_nil]
  exact this
theorem res_done_a {a b out : Array Keyed} {ia ib : Nat} (h : Mrg (a.toList ++ b.toList) out.toList (a.toList.drop ia) (b.toList.drop ib)) (ha : ia = a.size) : Res a b (out ++ a.extract ia a.size ++ b.extract ib b.size) := by
  have e : a.toList.drop ia = [] := List.drop_eq_nil_of_le (by simp; omega)
  rw [e] at h
  have := h.doneA
  unfold Res
  rw [Array.toList_append, Array.toList_append, ext_end, ext_end, e, List.append_nil]
  exact this
theorem res_last {a b out : Array Keyed} {ia ib : Nat} (h : Mrg (a.toList ++ b.toList) out.toList (a.toList.drop ia) (b.toList.drop ib)) (ha : ia + 1 = a.size) (hlast : ∀ j (hj : j < b.size), kz b[j] ≤ kz (a[a.size - 1]'(by omega))) : Res a b (out ++ b.extract ib b.size ++ a.extract ia a.size) := by
  have e : a.toList.drop ia = [a[ia]'(by omega)] := by
    rw [drop_get a ia (by omega), List.drop_eq_nil_of_le (by simp; omega)]
  rw [e] at h
  have hl : ∀ y ∈ b.toList.drop ib, kz y ≤ kz (a[ia]'(by omega)) := by
    intro y hy
    obtain ⟨j, hj, _, rfl⟩ := mem_drop_get hy
    have := hlast j hj
    simpa [show a.size - 1 = ia by omega] using this
  have := h.lastA hl
  unfold Res
  rw [Array.toList_append, Array.toList_append, ext_end, ext_end, e]
  exact this
theorem push_b {a b out : Array Keyed} {ia ib : Nat} (h : Mrg (a.toList ++ b.toList) out.toList (a.toList.drop ia) (b.toList.drop ib)) (hb : ib < b.size) (hle : ∀ j (hj : j < a.size), ia ≤ j → kz b[ib] ≤ kz a[j]) : Mrg (a.toList ++ b.toList) (out.push b[ib]).toList (a.toList.drop ia) (b.toList.drop (ib + 1)) := by
  rw [drop_get b ib hb] at h
  rw [Array.toList_push]
  refine h.pushB fun y hy => ?_
  obtain ⟨j, hj, hij, rfl⟩ := mem_drop_get hy
  exact hle j hj hij
theorem push_a {a b out : Array Keyed} {ia ib : Nat} (h : Mrg (a.toList ++ b.toList) out.toList (a.toList.drop ia) (b.toList.drop ib)) (ha : ia < a.size) (hle : ∀ j (hj : j < b.size), ib ≤ j → kz a[ia] ≤ kz b[j]) : Mrg (a.toList ++ b.toList) (out.push a[ia]).toList (a.toList.drop (ia + 1)) (b.toList.drop ib) := by
  rw [drop_get a ia ha] at h
  rw [Array.toList_push]
  refine h.pushA fun y hy => ?_
  obtain ⟨j, hj, hij, rfl⟩ := mem_drop_get hy
  exact hle j hj hij
theorem push_as {a b out : Array Keyed} {ia ib k : Nat} (h : Mrg (a.toList ++ b.toList) out.toList (a.toList.drop ia) (b.toList.drop ib)) (hle : ∀ i (hi : i < a.size), ia ≤ i → i < ia + k → ∀ j (hj : j < b.size), ib ≤ j → kz a[i] ≤ kz b[j]) : Mrg (a.toList ++ b.toList) (out ++ a.extract ia (ia + k)).toList (a.toList.drop (ia + k)) (b.toList.drop ib) := by
  rw [Array.toList_append, ext_list]
  rw [drop_split a ia k] at h
  refine h.pushAs fun z hz y hy => ?_
  obtain ⟨i, hi, h1, h2, rfl⟩ := mem_take_get hz
  obtain ⟨j, hj, h3, rfl⟩ := mem_drop_get hy
  exact hle i hi h1 h2 j hj h3
theorem push_bs {a b out : Array Keyed} {ia ib k : Nat} (h : Mrg (a.toList ++ b.toList) out.toList (a.toList.drop ia) (b.toList.drop ib)) (hle : ∀ j (hj : j < b.size), ib ≤ j → j < ib + k → ∀ i (hi : i < a.size), ia ≤ i → kz b[j] ≤ kz a[i]) : Mrg (a.toList ++ b.toList) (out ++ b.extract ib (ib + k)).toList (a.toList.drop ia) (b.toList.drop (ib + k)) := by
  rw [Array.toList_append, ext_list]
  rw [drop_split b ib k] at h
  refine h.pushBs fun z hz y hy => ?_
  obtain ⟨i, hi, h1, h2, rfl⟩ := mem_take_get hz
  obtain ⟨j, hj, h3, rfl⟩ := mem_drop_get hy
  exact hle i hi h1 h2 j hj h3
end Mine
end

section
open PySem PySem.W PyProof.Rows PyProof.Rows.LCg PySem.Calls
set_option maxRecDepth 100000
namespace Mine
def zetaT : Lean.Elab.Tactic.TacticM Unit := open Lean Meta Elab Tactic in liftMetaTactic fun g => do
  return [← g.replaceTargetDefEq (← Core.betaReduce (← zetaReduce (← instantiateMVars (← g.getType))))]
noncomputable def setMin' : Nat → StateT SortSt Sem Unit := sortPriv% PySem.Builtin.setMinGallop
section
variable {prog : Program} {w : World} {A : Around} {E : Value → Shared → Prop} {s : Shared}
theorem Same.refl (st : SortSt) : Same st st := ⟨rfl, rfl, rfl, rfl⟩
theorem Same.trans {a b c : SortSt} (h : Same a b) (k : Same b c) : Same a c := ⟨k.kind.trans h.kind, k.arr.trans h.arr, k.pend.trans h.pend, k.failed.trans h.failed⟩
theorem wpS_setMin {g : Nat} {st : SortSt} {Q : Unit → SortSt → Prop} (h : ∀ st', Same st st' → Q () st') : wpS (model prog w) A E s (setMin' g) Q st := by
  unfold setMin'
  run_tac openPriv "PySem.Builtin.setMinGallop"
  exact wpS_modify (h _ ⟨rfl, rfl, rfl, rfl⟩)
theorem wpS_ite {α : Type} {c : Prop} [Decidable c] {x y : StateT SortSt Sem α} {st : SortSt} {Q : α → SortSt → Prop} (h1 : c → wpS (model prog w) A E s x Q st) (h2 : ¬ c → wpS (model prog w) A E s y Q st) : wpS (model prog w) A E s (if c then x else y) Q st := by
  by_cases h : c
  · rw [if_pos h]; exact h1 h
  · rw [if_neg h]; exact h2 h
theorem get_some {xs : Array Keyed} {i : Nat} (h : i < xs.size) : xs[i]? = some xs[i] := getElem?_pos xs i h
theorem K_kz (xs : Array Keyed) {i : Nat} (h : i < xs.size) : K xs i = kz xs[i] := by rw [K_list xs i (by simpa using h)]; simp
/-- galloping to the right in an array in order: how many from base on are not above the key -/
theorem gal_right {key : Keyed} {arr : Array Keyed} {base n hint : Nat} {st : SortSt} {Q : Option Nat → SortSt → Prop} (hk : kindOf st = oneType') (ka : IntKeys arr) (sa : Asc arr.toList) (hn : base + n ≤ arr.size) (hh : hint < n) (hkey : ∃ t q, key = (.int (kz key) t, q))
    (h : ∀ c, c ≤ n → (∀ i (hi : i < arr.size), base ≤ i → i < base + c → kz arr[i] ≤ kz key) → (∀ i (hi : i < arr.size), base + c ≤ i → i < base + n → kz key < kz arr[i]) → Q (some c) st) : wpS (model prog w) A E s (gallop' false key arr base n hint) Q st := by
  obtain ⟨t, q, hkey⟩ := hkey
  refine wpS_gallop (fun i => !decide (kz key < K arr (base + i))) hh hk hkey ?_ ?_ ?_
  · intro i hi
    obtain ⟨t2, e2⟩ := int_form ka (show base + i < arr.size by omega)
    refine ⟨kz arr[base + i], t2, _, (get_some (show base + i < arr.size by omega)).trans (congrArg some e2), ?_⟩
    rw [K_kz arr (show base + i < arr.size by omega)]; rfl
  · intro i j hij hj hp
    rw [K_kz arr (show base + j < arr.size by omega)] at hp
    rw [K_kz arr (show base + i < arr.size by omega)]
    have := asc_get sa (show base + i ≤ base + j by omega) (show base + j < arr.size by omega)
    simp at hp ⊢
    omega
  · intro c hc h1 h2
    refine h c hc (fun i hi hb hlt => ?_) (fun i hi hb hlt => ?_)
    · obtain ⟨j, rfl⟩ := Nat.exists_eq_add_of_le hb
      have := h1 j (by omega)
      rw [K_kz arr hi] at this
      simpa using this
    · obtain ⟨j, rfl⟩ := Nat.exists_eq_add_of_le (show base ≤ i by omega)
      have := h2 j (by omega) (by omega)
      rw [K_kz arr hi] at this
      simpa using this
/-- galloping to the left: how many from base on are below the key -/
theorem gal_left {key : Keyed} {arr : Array Keyed} {base n hint : Nat} {st : SortSt} {Q : Option Nat → SortSt → Prop} (hk : kindOf st = oneType') (ka : IntKeys arr) (sa : Asc arr.toList) (hn : base + n ≤ arr.size) (hh : hint < n) (hkey : ∃ t q, key = (.int (kz key) t, q))
    (h : ∀ c, c ≤ n → (∀ i (hi : i < arr.size), base ≤ i → i < base + c → kz arr[i] < kz key) → (∀ i (hi : i < arr.size), base + c ≤ i → i < base + n → kz key ≤ kz arr[i]) → Q (some c) st) : wpS (model prog w) A E s (gallop' true key arr base n hint) Q st := by
  obtain ⟨t, q, hkey⟩ := hkey
  refine wpS_gallop (fun i => decide (K arr (base + i) < kz key)) hh hk hkey ?_ ?_ ?_
  · intro i hi
    obtain ⟨t2, e2⟩ := int_form ka (show base + i < arr.size by omega)
    refine ⟨kz arr[base + i], t2, _, (get_some (show base + i < arr.size by omega)).trans (congrArg some e2), ?_⟩
    rw [K_kz arr (show base + i < arr.size by omega)]; rfl
  · intro i j hij hj hp
    rw [K_kz arr (show base + j < arr.size by omega)] at hp
    rw [K_kz arr (show base + i < arr.size by omega)]
    have := asc_get sa (show base + i ≤ base + j by omega) (show base + j < arr.size by omega)
    simp at hp ⊢
    omega
  · intro c hc h1 h2
    refine h c hc (fun i hi hb hlt => ?_) (fun i hi hb hlt => ?_)
    · obtain ⟨j, rfl⟩ := Nat.exists_eq_add_of_le hb
      have := h1 j (by omega)
      rw [K_kz arr hi] at this
      simpa using this
    · obtain ⟨j, rfl⟩ := Nat.exists_eq_add_of_le (show base ≤ i by omega)
      have := h2 j (by omega) (by omega)
      rw [K_kz arr hi] at this
      simpa using this
set_option maxHeartbeats 1000000 in
theorem wpS_mergeLo {a b : Array Keyed} {st : SortSt} {Q : Array Keyed → SortSt → Prop} (hk : kindOf st = oneType') (ka : IntKeys a) (kb : IntKeys b) (sa : Asc a.toList) (sb : Asc b.toList) (na : 1 ≤ a.size) (nb : 1 ≤ b.size)
    (hfirst : ∀ i (hi : i < a.size), kz (b[0]'(by omega)) ≤ kz a[i]) (hlast : ∀ j (hj : j < b.size), kz b[j] ≤ kz (a[a.size - 1]'(by omega)))
    (h : ∀ r st', Res a b r → Same st st' → Q r st') : wpS (model prog w) A E s (mergeLo' a b) Q st := by
  run_tac sqBegin
  unfold mergeLo'
  run_tac openPriv "PySem.Builtin.mergeLo"
  run_tac zetaT
  refine wpS_bind (wpS_lift (wpAny_rule ⟨rfl, ?_⟩))
  refine wpS_bind (wpS_elem (get_some (show 0 < b.size by omega)) ?_)
  have m00 : Mrg (a.toList ++ b.toList) (#[] : Array Keyed).toList (a.toList.drop 0) (b.toList.drop 0) := ⟨by simp, List.Pairwise.nil, by intro x hx; simp at hx, by simpa using sa, by simpa using sb⟩
  have m0 := push_b m00 (show 0 < b.size by omega) (fun j hj _ => hfirst j hj)
  have e0 : (#[] : Array Keyed).push (b[0]'(by omega)) = #[b[0]'(by omega)] := rfl
  rw [e0] at m0
  refine wpS_ite (fun hc => ?_) (fun hc => ?_)
  · have hb1 := hc
    exact wpS_pure (h _ _ (res_done_b m0 (by simpa using hb1)) (Same.refl st))
  have hb1 := hc
  refine wpS_ite (fun hc => ?_) (fun hc => ?_)
  · have ha1 := hc
    exact wpS_pure (h _ _ (res_last m0 (by simpa using ha1) hlast) (Same.refl st))
  have ha1 := hc
  have hb1' : 1 ≠ b.size := by simpa using hb1
  have ha1' : 1 ≠ a.size := by simpa using ha1
  refine wpS_bind (wpS_get ?_)
  refine wpS_bind (wpS_mono (wpS_forRange (I := fun x c st' => ∃ out ia ib mg, c = (none, out, ia, ib, mg) ∧ MInv a b out ia ib ∧ x + 1 ≤ ia + ib ∧ Same st st')
    (Q := fun c st' => ∃ r rest, c = (some r, rest) ∧ Res a b r ∧ Same st st') ?_ ?_ ⟨_, 0, 1, _, rfl, ⟨by omega, by omega, m0⟩, by omega, Same.refl st⟩) ?_)
  · rintro x c st1 _ hx ⟨out, ia, ib, mg, rfl, hI, hprog, hS⟩
    dsimp only
    refine wpS_bind (wpS_mono (wpS_forRange (I := fun y d st' => ∃ out' ia' ib' ac bc, d = (none, out', ia', ib', ac, bc) ∧ MInv a b out' ia' ib' ∧ ia + ib + y ≤ ia' + ib' ∧ Same st st')
      (Q := fun d st' => (∃ r rest, d = (some r, rest) ∧ Res a b r ∧ Same st st') ∨ ∃ out' ia' ib' ac bc, d = (none, out', ia', ib', ac, bc) ∧ MInv a b out' ia' ib' ∧ ia + ib + 1 ≤ ia' + ib' ∧ Same st st') ?_ ?_ ⟨out, ia, ib, 0, 0, rfl, hI, by omega, hS⟩) ?_)
    · rintro y d st2 _ hy ⟨out', ia', ib', ac, bc, rfl, hI', hp', hS'⟩
      dsimp only
      have hia : ia' < a.size := by have := hI'.ha; omega
      have hib : ib' < b.size := hI'.hb
      refine wpS_bind (wpS_elem (get_some hI'.hb) ?_)
      refine wpS_bind (wpS_elem (get_some hia) ?_)
      obtain ⟨tb, eb⟩ := int_form kb hI'.hb
      obtain ⟨ta, ea⟩ := int_form ka hia
      refine wpS_bind (wpS_lt (hS'.kind.trans hk) eb ea ?_)
      dsimp only
      by_cases hlt : kz b[ib'] < kz a[ia']
      · rw [if_pos (by simpa using hlt)]
        refine wpS_bind (wpS_elem (get_some hI'.hb) ?_)
        have m1 := push_b hI'.m hI'.hb fun j hj hij => Int.le_trans (Int.le_of_lt hlt) (asc_get sa hij hj)
        refine wpS_ite (fun hc => ?_) (fun hc => ?_)
        · have hend := hc
          exact wpS_pure (Or.inl ⟨_, _, rfl, res_done_b m1 (by simpa using hend), hS'⟩)
        · have hend := hc
          have hend' : ib' + 1 ≠ b.size := by simpa using hend
          have hIn : MInv a b (out'.push b[ib']) ia' (ib' + 1) := ⟨hI'.ha, by have := hI'.hb; omega, m1⟩
          refine wpS_ite (fun hc => ?_) (fun hc => ?_)
          · exact wpS_pure (Or.inr ⟨_, _, _, _, _, rfl, hIn, by omega, hS'⟩)
          · exact wpS_pure ⟨_, _, _, _, _, rfl, hIn, by omega, hS'⟩
      · rw [if_neg (by simpa using hlt)]
        refine wpS_bind (wpS_elem (get_some hia) ?_)
        have m1 := push_a hI'.m hia fun j hj hij => Int.le_trans (Int.not_lt.mp hlt) (asc_get sb hij hj)
        refine wpS_ite (fun hc => ?_) (fun hc => ?_)
        · have hend := hc
          exact wpS_pure (Or.inl ⟨_, _, rfl, res_last m1 (by simpa using hend) hlast, hS'⟩)
        · have hend := hc
          have hend' : ia' + 1 + 1 ≠ a.size := by simpa using hend
          have hIn : MInv a b (out'.push a[ia']) (ia' + 1) ib' := ⟨by have := hI'.ha; omega, hI'.hb, m1⟩
          refine wpS_ite (fun hc => ?_) (fun hc => ?_)
          · exact wpS_pure (Or.inr ⟨_, _, _, _, _, rfl, hIn, by omega, hS'⟩)
          · exact wpS_pure ⟨_, _, _, _, _, rfl, hIn, by omega, hS'⟩
    · rintro d st2 ⟨out', ia', ib', ac, bc, rfl, hI', hp', hS'⟩
      exact Or.inr ⟨_, _, _, _, _, rfl, hI', by omega, hS'⟩
    rintro d st2 (⟨r, rest, rfl, hr, hS'⟩ | ⟨out', ia', ib', ac, bc, rfl, hI', hp', hS'⟩)
    · exact wpS_pure ⟨_, _, rfl, hr, hS'⟩
    dsimp only
    refine wpS_bind (wpS_lift (wpAny_rule ⟨rfl, ?_⟩))
    refine wpS_bind (wpS_mono (wpS_forRange (I := fun y d st' => ∃ o2 i2 j2 mg ac bc, d = (none, o2, i2, j2, mg, ac, bc) ∧ MInv a b o2 i2 j2 ∧ ia' + ib' ≤ i2 + j2 ∧ Same st st')
      (Q := fun d st' => (∃ r rest, d = (some r, rest) ∧ Res a b r ∧ Same st st') ∨ ∃ o2 i2 j2 mg ac bc, d = (none, o2, i2, j2, mg, ac, bc) ∧ MInv a b o2 i2 j2 ∧ ia' + ib' ≤ i2 + j2 ∧ Same st st') ?_ ?_ ⟨out', ia', ib', _, _, _, rfl, hI', by omega, hS'⟩) ?_)
    · rintro y d st3 _ hy ⟨o2, i2, j2, mg2, ac2, bc2, rfl, hI2, hp2, hS2⟩
      dsimp only
      have hi2 : i2 < a.size := by have := hI2.ha; omega
      have hj2 : j2 < b.size := hI2.hb
      refine wpS_ite (fun _ => ?_) (fun _ => ?_)
      all_goals
        refine wpS_bind (wpS_setMin fun st4 hS4 => ?_)
        have hS5 := hS2.trans hS4
        have hk5 := hS5.kind.trans hk
        refine wpS_bind (wpS_elem (get_some hj2) ?_)
        obtain ⟨tb, eb⟩ := int_form kb hj2
        refine wpS_bind (gal_right hk5 ka sa (by omega) (by omega) ⟨tb, _, eb⟩ fun k hkk g1 g2 => ?_)
        dsimp only
        have m3 := push_as hI2.m fun i hi h1 h2 j hj h3 => Int.le_trans (g1 i hi h1 h2) (asc_get sb h3 hj)
        have hI2m := hI2.m
        have hI2a := hI2.ha
        refine wpS_ite (fun hk1 => ?_) (fun hk1 => ?_)
        · refine wpS_ite (fun hd => ?_) (fun hd => ?_)
          · exact wpS_pure (Or.inl ⟨_, _, rfl, res_last m3 (by simpa using hd) hlast, hS5⟩)
          have hd1 : i2 + k + 1 ≠ a.size := by simpa using hd
          refine wpS_ite (fun hd => ?_) (fun hd => ?_)
          · exact wpS_pure (Or.inl ⟨_, _, rfl, res_done_a m3 (by simpa using hd), hS5⟩)
          have hd2 : i2 + k ≠ a.size := by simpa using hd
          have gA : ∀ i (hi : i < a.size), i2 + k ≤ i → kz b[j2] ≤ kz a[i] := fun i hi h1 => Int.le_of_lt (g2 i hi h1 (by omega))
          refine wpS_bind (wpS_elem (get_some hj2) ?_)
          have m4 := push_b m3 hj2 gA
          refine wpS_ite (fun hc => ?_) (fun hc => ?_)
          · exact wpS_pure (Or.inl ⟨_, _, rfl, res_done_b m4 (by simpa using hc), hS5⟩)
          have hc' : j2 + 1 ≠ b.size := by simpa using hc
          have hi3' : (i2 + k) < a.size := by omega
          refine wpS_bind (wpS_elem (get_some hi3') ?_)
          obtain ⟨ta, ea⟩ := int_form ka hi3'
          refine wpS_bind (gal_left hk5 kb sb (by omega) (by omega) ⟨ta, _, ea⟩ fun k2 hk2 g3 g4 => ?_)
          dsimp only
          refine wpS_ite (fun hk0 => ?_) (fun hk0 => ?_)
          · have m5 := push_bs m4 fun j hj h1 h2 i hi h3 => Int.le_trans (Int.le_of_lt (g3 j hj h1 h2)) (asc_get sa h3 hi)
            refine wpS_ite (fun hd => ?_) (fun hd => ?_)
            · exact wpS_pure (Or.inl ⟨_, _, rfl, res_done_b m5 (by simpa using hd), hS5⟩)
            have hd' : j2 + 1 + k2 ≠ b.size := by simpa using hd
            refine wpS_bind (wpS_elem (get_some hi3') ?_)
            have m6 := push_a m5 hi3' fun j hj h1 => g4 j hj h1 (by omega)
            refine wpS_ite (fun he => ?_) (fun he => ?_)
            · exact wpS_pure (Or.inl ⟨_, _, rfl, res_last m6 (by simpa using he) hlast, hS5⟩)
            have he' : (i2 + k) + 1 + 1 ≠ a.size := by simpa using he
            refine wpS_ite (fun _ => ?_) (fun _ => ?_)
            · exact wpS_pure (Or.inr ⟨_, _, _, _, _, _, rfl, ⟨by omega, by omega, m6⟩, by omega, hS5⟩)
            · exact wpS_pure ⟨_, _, _, _, _, _, rfl, ⟨by omega, by omega, m6⟩, by omega, hS5⟩
          · have hk20 : k2 = 0 := by omega
            subst hk20
            refine wpS_bind (wpS_elem (get_some hi3') ?_)
            have m6 := push_a m4 hi3' fun j hj h1 => g4 j hj (by omega) (by omega)
            refine wpS_ite (fun he => ?_) (fun he => ?_)
            · exact wpS_pure (Or.inl ⟨_, _, rfl, res_last m6 (by simpa using he) hlast, hS5⟩)
            have he' : (i2 + k) + 1 + 1 ≠ a.size := by simpa using he
            refine wpS_ite (fun _ => ?_) (fun _ => ?_)
            · exact wpS_pure (Or.inr ⟨_, _, _, _, _, _, rfl, ⟨by omega, by omega, m6⟩, by omega, hS5⟩)
            · exact wpS_pure ⟨_, _, _, _, _, _, rfl, ⟨by omega, by omega, m6⟩, by omega, hS5⟩
        · have hk10 : k = 0 := by omega
          subst hk10
          have gA : ∀ i (hi : i < a.size), i2 ≤ i → kz b[j2] ≤ kz a[i] := fun i hi h1 => Int.le_of_lt (g2 i hi (by omega) (by omega))
          refine wpS_bind (wpS_elem (get_some hj2) ?_)
          have m4 := push_b hI2m hj2 gA
          refine wpS_ite (fun hc => ?_) (fun hc => ?_)
          · exact wpS_pure (Or.inl ⟨_, _, rfl, res_done_b m4 (by simpa using hc), hS5⟩)
          have hc' : j2 + 1 ≠ b.size := by simpa using hc
          have hi3' : i2 < a.size := by omega
          refine wpS_bind (wpS_elem (get_some hi3') ?_)
          obtain ⟨ta, ea⟩ := int_form ka hi3'
          refine wpS_bind (gal_left hk5 kb sb (by omega) (by omega) ⟨ta, _, ea⟩ fun k2 hk2 g3 g4 => ?_)
          dsimp only
          refine wpS_ite (fun hk0 => ?_) (fun hk0 => ?_)
          · have m5 := push_bs m4 fun j hj h1 h2 i hi h3 => Int.le_trans (Int.le_of_lt (g3 j hj h1 h2)) (asc_get sa h3 hi)
            refine wpS_ite (fun hd => ?_) (fun hd => ?_)
            · exact wpS_pure (Or.inl ⟨_, _, rfl, res_done_b m5 (by simpa using hd), hS5⟩)
            have hd' : j2 + 1 + k2 ≠ b.size := by simpa using hd
            refine wpS_bind (wpS_elem (get_some hi3') ?_)
            have m6 := push_a m5 hi3' fun j hj h1 => g4 j hj h1 (by omega)
            refine wpS_ite (fun he => ?_) (fun he => ?_)
            · exact wpS_pure (Or.inl ⟨_, _, rfl, res_last m6 (by simpa using he) hlast, hS5⟩)
            have he' : i2 + 1 + 1 ≠ a.size := by simpa using he
            refine wpS_ite (fun _ => ?_) (fun _ => ?_)
            · exact wpS_pure (Or.inr ⟨_, _, _, _, _, _, rfl, ⟨by omega, by omega, m6⟩, by omega, hS5⟩)
            · exact wpS_pure ⟨_, _, _, _, _, _, rfl, ⟨by omega, by omega, m6⟩, by omega, hS5⟩
          · have hk20 : k2 = 0 := by omega
            subst hk20
            refine wpS_bind (wpS_elem (get_some hi3') ?_)
            have m6 := push_a m4 hi3' fun j hj h1 => g4 j hj (by omega) (by omega)
            refine wpS_ite (fun he => ?_) (fun he => ?_)
            · exact wpS_pure (Or.inl ⟨_, _, rfl, res_last m6 (by simpa using he) hlast, hS5⟩)
            have he' : i2 + 1 + 1 ≠ a.size := by simpa using he
            refine wpS_ite (fun _ => ?_) (fun _ => ?_)
            · exact wpS_pure (Or.inr ⟨_, _, _, _, _, _, rfl, ⟨by omega, by omega, m6⟩, by omega, hS5⟩)
            · exact wpS_pure ⟨_, _, _, _, _, _, rfl, ⟨by omega, by omega, m6⟩, by omega, hS5⟩
    · rintro d st3 ⟨o2, i2, j2, mg2, ac2, bc2, rfl, hI2, hp2, hS2⟩
      exact Or.inr ⟨_, _, _, _, _, _, rfl, hI2, hp2, hS2⟩
    rintro d st3 (⟨r, rest, rfl, hr, hS2⟩ | ⟨o2, i2, j2, mg2, ac2, bc2, rfl, hI2, hp2, hS2⟩)
    · exact wpS_pure ⟨_, _, rfl, hr, hS2⟩
    dsimp only
    refine wpS_bind (wpS_setMin fun st4 hS4 => ?_)
    exact wpS_pure ⟨_, _, _, _, rfl, hI2, by omega, hS2.trans hS4⟩
  · rintro c st1 ⟨out, ia, ib, mg, rfl, hI, hprog, hS⟩
    exfalso
    have := hI.ha
    have := hI.hb
    omega
  · rintro c st1 ⟨r, rest, rfl, hr, hS⟩
    exact wpS_pure (h r st1 hr hS)
  run_tac sqEnd
end
end Mine
end

section
open PySem PySem.W PyProof.Rows PyProof.Rows.LCg PySem.Calls
set_option maxRecDepth 100000
namespace Mine
/-- a merge from the right: out is what has been merged, in its order -/
structure MrgR (l0 out a b : List Keyed) : Prop where
  perm : ((a ++ b) ++ out).Perm l0
  asc : Asc out
  left : ∀ x ∈ out, (∀ y ∈ a, kz y ≤ kz x) ∧ ∀ y ∈ b, kz y ≤ kz x
  ascA : Asc a
  ascB : Asc b
theorem asc_cons {out : List Keyed} {z : Keyed} (h : Asc out) (hz : ∀ x ∈ out, kz z ≤ kz x) : Asc (z :: out) := List.pairwise_cons.mpr ⟨hz, h⟩
theorem asc_snoc {a : List Keyed} {z : Keyed} (h : Asc (a ++ [z])) : Asc a ∧ ∀ y ∈ a, kz y ≤ kz z := by
  unfold Asc at h
  rw [List.pairwise_append] at h
  exact ⟨h.1, fun y hy => h.2.2 y hy z (List.mem_singleton.mpr rfl)⟩
theorem MrgR.pushB {l0 out a b : List Keyed} {z : Keyed} (h : MrgR l0 out a (b ++ [z])) (ha : ∀ y ∈ a, kz y ≤ kz z) : MrgR l0 (z :: out) a b := by
  have hb := asc_snoc h.ascB
  refine ⟨?_, asc_cons h.asc fun x hx => (h.left x hx).2 z (by simp), ?_, h.ascA, hb.1⟩
  · refine List.Perm.trans ?_ h.perm
    simp
  · intro x hx
    rcases List.mem_cons.mp hx with rfl | hx
    · exact ⟨ha, hb.2⟩
    · exact ⟨(h.left x hx).1, fun y hy => (h.left x hx).2 y (List.mem_append_left _ hy)⟩
theorem MrgR.pushA {l0 out a b : List Keyed} {z : Keyed} (h : MrgR l0 out (a ++ [z]) b) (hb : ∀ y ∈ b, kz y ≤ kz z) : MrgR l0 (z :: out) a b := by
  have ha := asc_snoc h.ascA
  refine ⟨?_, asc_cons h.asc fun x hx => (h.left x hx).1 z (by simp), ?_, ha.1, h.ascB⟩
  · refine List.Perm.trans ?_ h.perm
    simp only [List.append_assoc]
    refine List.Perm.append_left _ ?_
    simpa using (List.perm_middle (a := z) (l₁ := b) (l₂ := out))
  · intro x hx
    rcases List.mem_cons.mp hx with rfl | hx
    · exact ⟨ha.2, hb⟩
    · exact ⟨fun y hy => (h.left x hx).1 y (List.mem_append_left _ hy), (h.left x hx).2⟩
theorem MrgR.pushAs {l0 b : List Keyed} : ∀ {zs out a : List Keyed}, MrgR l0 out (a ++ zs) b → (∀ z ∈ zs, ∀ y ∈ b, kz y ≤ kz z) → MrgR l0 (zs ++ out) a b := by
  intro zs
  induction zs with
  | nil => intro out a h _; simpa using h
  | cons z zs ih =>
    intro out a h hz
    have h1 := ih (out := out) (a := a ++ [z]) (by simpa using h) fun x hx => hz x (List.mem_cons_of_mem _ hx)
    exact h1.pushA (hz z List.mem_cons_self)
theorem MrgR.pushBs {l0 a : List Keyed} : ∀ {zs out b : List Keyed}, MrgR l0 out a (b ++ zs) → (∀ z ∈ zs, ∀ y ∈ a, kz y ≤ kz z) → MrgR l0 (zs ++ out) a b := by
  intro zs
  induction zs with
  | nil => intro out b h _; simpa using h
  | cons z zs ih =>
    intro out b h hz
    have h1 := ih (out := out) (b := b ++ [z]) (by simpa using h) fun x hx => hz x (List.mem_cons_of_mem _ hx)
    exact h1.pushB (hz z List.mem_cons_self)
theorem MrgR.doneB {l0 out a : List Keyed} (h : MrgR l0 out a []) : Asc (a ++ out) ∧ (a ++ out).Perm l0 := by
  refine ⟨?_, by simpa using h.perm⟩
  unfold Asc
  rw [List.pairwise_append]
  exact ⟨h.ascA, h.asc, fun y hy x hx => (h.left x hx).1 y hy⟩
theorem MrgR.doneA {l0 out b : List Keyed} (h : MrgR l0 out [] b) : Asc (b ++ out) ∧ (b ++ out).Perm l0 := by
  refine ⟨?_, by simpa using h.perm⟩
  unfold Asc
  rw [List.pairwise_append]
  exact ⟨h.ascB, h.asc, fun y hy x hx => (h.left x hx).2 y hy⟩
theorem MrgR.firstB {l0 out a : List Keyed} {z : Keyed} (h : MrgR l0 out a [z]) (hz : ∀ y ∈ a, kz z ≤ kz y) : Asc ([z] ++ (a ++ out)) ∧ ([z] ++ (a ++ out)).Perm l0 := by
  have h2 := MrgR.pushAs (zs := a) (a := []) (by simpa using h) fun x hx y hy => by rw [List.mem_singleton.mp hy]; exact hz x hx
  have := h2.doneA
  simpa using this
theorem take_get (xs : Array Keyed) (i : Nat) (h : i < xs.size) : xs.toList.take (i + 1) = xs.toList.take i ++ [xs[i]] := by
  rw [List.take_add_one, List.getElem?_eq_getElem (by simpa using h)]; simp
theorem mem_take_get' {xs : Array Keyed} {i : Nat} {y : Keyed} (h : y ∈ xs.toList.take i) : ∃ j, ∃ hj : j < xs.size, j < i ∧ y = xs[j] := by
  obtain ⟨k, hk, rfl⟩ := List.mem_iff_getElem.mp h
  simp only [List.length_take, Array.length_toList] at hk
  exact ⟨k, by omega, by omega, by simp⟩
theorem ext_take (xs : Array Keyed) (i : Nat) : (xs.extract 0 i).toList = xs.toList.take i := by
  rw [Array.toList_extract, List.extract_eq_take_drop]; simp
theorem ext_mid (xs : Array Keyed) (i k : Nat) : (xs.extract i k).toList = (xs.toList.take k).drop i := by
  rw [Array.toList_extract, List.extract_eq_take_drop, List.drop_take]
theorem take_split (xs : Array Keyed) {i k : Nat} (h : i ≤ k) : xs.toList.take k = xs.toList.take i ++ (xs.toList.take k).drop i := by
  have := List.take_append_drop i (xs.toList.take k)
  rw [List.take_take, Nat.min_eq_left h] at this
  exact this.symm
theorem mem_mid_get {xs : Array Keyed} {i k : Nat} {y : Keyed} (h : y ∈ (xs.toList.take k).drop i) : ∃ j, ∃ hj : j < xs.size, i ≤ j ∧ j < k ∧ y = xs[j] := by
  obtain ⟨q, hq, rfl⟩ := List.mem_iff_getElem.mp h
  simp only [List.length_drop, List.length_take, Array.length_toList] at hq
  exact ⟨i + q, by omega, by omega, by omega, by simp⟩
end Mine
end

section
open PySem PySem.W PyProof.Rows PyProof.Rows.LCg PySem.Calls
set_option maxRecDepth 100000
namespace Mine
noncomputable def mergeHi' : Array Keyed → Array Keyed → StateT SortSt Sem (Array Keyed) := sortPriv% PySem.Builtin.mergeHi
noncomputable abbrev MH (a b out : Array Keyed) (na nb : Nat) : Prop := MrgR (a.toList ++ b.toList) out.toList.reverse (a.toList.take na) (b.toList.take nb)
theorem resH_done_a {a b out : Array Keyed} {na nb : Nat} (h : MH a b out na nb) (ha : na = 0) : Res a b (a.extract 0 na ++ b.extract 0 nb ++ out.reverse) := by
  subst ha
  have := MrgR.doneA (b := b.toList.take nb) (by unfold MH at h; simpa using h)
  unfold Res
  rw [Array.toList_append, Array.toList_append, ext_take, ext_take, Array.toList_reverse]
  simpa using this
theorem resH_done_b {a b out : Array Keyed} {na nb : Nat} (h : MH a b out na nb) (hb : nb = 0) : Res a b (a.extract 0 na ++ b.extract 0 nb ++ out.reverse) := by
  subst hb
  have := MrgR.doneB (a := a.toList.take na) (by unfold MH at h; simpa using h)
  unfold Res
  rw [Array.toList_append, Array.toList_append, ext_take, ext_take, Array.toList_reverse]
  simpa using this
theorem resH_first {a b out : Array Keyed} {na nb : Nat} (h : MH a b out na nb) (hb : nb = 1) (h0 : 0 < b.size) (hfirst : ∀ i (hi : i < a.size), kz b[0] ≤ kz a[i]) : Res a b (b.extract 0 nb ++ a.extract 0 na ++ out.reverse) := by
  subst hb
  have e : b.toList.take 1 = [b[0]] := by rw [take_get b 0 h0]; simp
  rw [MH, e] at h
  have := MrgR.firstB h (fun y hy => by obtain ⟨j, hj, _, rfl⟩ := mem_take_get' hy; exact hfirst j hj)
  unfold Res
  rw [Array.toList_append, Array.toList_append, ext_take, ext_take, Array.toList_reverse, e, List.append_assoc]
  exact this
theorem pushH_b {a b out : Array Keyed} {na nb : Nat} (h : MH a b out na (nb + 1)) (hb : nb < b.size) (hle : ∀ j (hj : j < a.size), j < na → kz a[j] ≤ kz b[nb]) : MH a b (out.push b[nb]) na nb := by
  unfold MH at h ⊢
  rw [take_get b nb hb] at h
  rw [Array.toList_push, List.reverse_append, List.reverse_singleton, List.singleton_append]
  exact h.pushB fun y hy => by obtain ⟨j, hj, hlt, rfl⟩ := mem_take_get' hy; exact hle j hj hlt
theorem pushH_a {a b out : Array Keyed} {na nb : Nat} (h : MH a b out (na + 1) nb) (ha : na < a.size) (hle : ∀ j (hj : j < b.size), j < nb → kz b[j] ≤ kz a[na]) : MH a b (out.push a[na]) na nb := by
  unfold MH at h ⊢
  rw [take_get a na ha] at h
  rw [Array.toList_push, List.reverse_append, List.reverse_singleton, List.singleton_append]
  exact h.pushA fun y hy => by obtain ⟨j, hj, hlt, rfl⟩ := mem_take_get' hy; exact hle j hj hlt
theorem pushH_as {a b out : Array Keyed} {c na nb : Nat} (h : MH a b out na nb) (hc : c ≤ na) (hle : ∀ i (hi : i < a.size), c ≤ i → i < na → ∀ j (hj : j < b.size), j < nb → kz b[j] ≤ kz a[i]) : MH a b (out ++ (a.extract c na).reverse) c nb := by
  unfold MH at h ⊢
  rw [take_split a hc] at h
  rw [Array.toList_append, List.reverse_append, Array.toList_reverse, List.reverse_reverse, ext_mid]
  refine h.pushAs fun z hz y hy => ?_
  obtain ⟨i, hi, h1, h2, rfl⟩ := mem_mid_get hz
  obtain ⟨j, hj, h3, rfl⟩ := mem_take_get' hy
  exact hle i hi h1 h2 j hj h3
theorem pushH_bs {a b out : Array Keyed} {c na nb : Nat} (h : MH a b out na nb) (hc : c ≤ nb) (hle : ∀ j (hj : j < b.size), c ≤ j → j < nb → ∀ i (hi : i < a.size), i < na → kz a[i] ≤ kz b[j]) : MH a b (out ++ (b.extract c nb).reverse) na c := by
  unfold MH at h ⊢
  rw [take_split b hc] at h
  rw [Array.toList_append, List.reverse_append, Array.toList_reverse, List.reverse_reverse, ext_mid]
  refine h.pushBs fun z hz y hy => ?_
  obtain ⟨i, hi, h1, h2, rfl⟩ := mem_mid_get hz
  obtain ⟨j, hj, h3, rfl⟩ := mem_take_get' hy
  exact hle i hi h1 h2 j hj h3
end Mine
end

section
open PySem PySem.W PyProof.Rows PyProof.Rows.LCg PySem.Calls
set_option maxRecDepth 100000
namespace Mine
theorem pushH_b' {a b out : Array Keyed} {na nb : Nat} (h : MH a b out na nb) (h1 : 1 ≤ nb) (hb : nb - 1 < b.size) (hle : ∀ j (hj : j < a.size), j < na → kz a[j] ≤ kz b[nb - 1]) : MH a b (out.push b[nb - 1]) na (nb - 1) := by
  refine pushH_b ?_ hb hle
  rwa [Nat.sub_add_cancel h1]
theorem pushH_a' {a b out : Array Keyed} {na nb : Nat} (h : MH a b out na nb) (h1 : 1 ≤ na) (ha : na - 1 < a.size) (hle : ∀ j (hj : j < b.size), j < nb → kz b[j] ≤ kz a[na - 1]) : MH a b (out.push a[na - 1]) (na - 1) nb := by
  refine pushH_a ?_ ha hle
  rwa [Nat.sub_add_cancel h1]
structure HInv (a b out : Array Keyed) (na nb : Nat) : Prop where
  la : 1 ≤ na
  ua : na ≤ a.size
  lb : 2 ≤ nb
  ub : nb ≤ b.size
  m : MH a b out na nb
section
variable {prog : Program} {w : World} {A : Around} {E : Value → Shared → Prop} {s : Shared}
set_option maxHeartbeats 1000000 in
theorem wpS_mergeHi {a b : Array Keyed} {st : SortSt} {Q : Array Keyed → SortSt → Prop} (hk : kindOf st = oneType') (ka : IntKeys a) (kb : IntKeys b) (sa : Asc a.toList) (sb : Asc b.toList) (na1 : 1 ≤ a.size) (nb1 : 1 ≤ b.size)
    (hfirst : ∀ i (hi : i < a.size), kz (b[0]'(by omega)) ≤ kz a[i]) (hlast : ∀ j (hj : j < b.size), kz b[j] ≤ kz (a[a.size - 1]'(by omega)))
    (h : ∀ r st', Res a b r → Same st st' → Q r st') : wpS (model prog w) A E s (mergeHi' a b) Q st := by
  run_tac sqBegin
  unfold mergeHi'
  run_tac openPriv "PySem.Builtin.mergeHi"
  run_tac zetaT
  refine wpS_bind (wpS_lift (wpAny_rule ⟨rfl, ?_⟩))
  have hal : a.size - 1 < a.size := by omega
  refine wpS_bind (wpS_elem (get_some hal) ?_)
  have m00 : MH a b #[] a.size b.size := by
    unfold MH
    have ta : a.toList.take a.size = a.toList := by rw [← Array.length_toList]; exact List.take_length
    have tb : b.toList.take b.size = b.toList := by rw [← Array.length_toList]; exact List.take_length
    rw [ta, tb]
    refine ⟨?_, ?_, ?_, ?_, ?_⟩
    · simp
    · simp [Asc]
    · intro x hx; simp at hx
    · simpa using sa
    · simpa using sb
  have m0 := pushH_a' m00 na1 hal (fun j hj _ => hlast j hj)
  have e0 : (#[] : Array Keyed).push (a[a.size - 1]'hal) = #[a[a.size - 1]'hal] := rfl
  rw [e0] at m0
  refine wpS_ite (fun hc => ?_) (fun hc => ?_)
  · exact wpS_pure (h _ _ (resH_done_a m0 (by simpa using hc)) (Same.refl st))
  have ha1 : a.size - 1 ≠ 0 := by simpa using hc
  refine wpS_ite (fun hc => ?_) (fun hc => ?_)
  · exact wpS_pure (h _ _ (resH_first m0 (by simpa using hc) (by omega) hfirst) (Same.refl st))
  have hb1 : b.size ≠ 1 := by simpa using hc
  refine wpS_bind (wpS_get ?_)
  refine wpS_bind (wpS_mono (wpS_forRange (I := fun x c st' => ∃ out na nb mg, c = (none, na, nb, out, mg) ∧ HInv a b out na nb ∧ na + nb + x + 1 ≤ a.size + b.size ∧ Same st st')
    (Q := fun c st' => ∃ r rest, c = (some r, rest) ∧ Res a b r ∧ Same st st') ?_ ?_ ⟨_, _, _, _, rfl, ⟨by omega, by omega, by omega, by omega, m0⟩, by omega, Same.refl st⟩) ?_)
  · rintro x c st1 _ hx ⟨out, na, nb, mg, rfl, hI, hprog, hS⟩
    dsimp only
    refine wpS_bind (wpS_mono (wpS_forRange (I := fun y d st' => ∃ out' na' nb' ac bc, d = (none, na', nb', out', ac, bc) ∧ HInv a b out' na' nb' ∧ na' + nb' + y ≤ na + nb ∧ Same st st')
      (Q := fun d st' => (∃ r rest, d = (some r, rest) ∧ Res a b r ∧ Same st st') ∨ ∃ out' na' nb' ac bc, d = (none, na', nb', out', ac, bc) ∧ HInv a b out' na' nb' ∧ na' + nb' + 1 ≤ na + nb ∧ Same st st') ?_ ?_ ⟨out, na, nb, 0, 0, rfl, hI, by omega, hS⟩) ?_)
    · rintro y d st2 _ hy ⟨out', na', nb', ac, bc, rfl, ⟨l1, u1, l2, u2, m1⟩, hp', hS'⟩
      dsimp only
      have hia : na' - 1 < a.size := by omega
      have hib : nb' - 1 < b.size := by omega
      refine wpS_bind (wpS_elem (get_some hib) ?_)
      refine wpS_bind (wpS_elem (get_some hia) ?_)
      obtain ⟨tb, eb⟩ := int_form kb hib
      obtain ⟨ta, ea⟩ := int_form ka hia
      refine wpS_bind (wpS_lt (hS'.kind.trans hk) eb ea ?_)
      dsimp only
      by_cases hlt : kz b[nb' - 1] < kz a[na' - 1]
      · rw [if_pos (by simpa using hlt)]
        refine wpS_bind (wpS_elem (get_some hia) ?_)
        have m2 := pushH_a' m1 l1 hia fun j hj hij => Int.le_trans (asc_get sb (show j ≤ nb' - 1 by omega) hib) (Int.le_of_lt hlt)
        refine wpS_ite (fun hc => ?_) (fun hc => ?_)
        · exact wpS_pure (Or.inl ⟨_, _, rfl, resH_done_a m2 (by simpa using hc), hS'⟩)
        have hend : na' - 1 ≠ 0 := by simpa using hc
        have hIn : HInv a b (out'.push a[na' - 1]) (na' - 1) nb' := ⟨by omega, by omega, l2, u2, m2⟩
        refine wpS_ite (fun hc => ?_) (fun hc => ?_)
        · exact wpS_pure (Or.inr ⟨_, _, _, _, _, rfl, hIn, by omega, hS'⟩)
        · exact wpS_pure ⟨_, _, _, _, _, rfl, hIn, by omega, hS'⟩
      · rw [if_neg (by simpa using hlt)]
        refine wpS_bind (wpS_elem (get_some hib) ?_)
        have m2 := pushH_b' m1 (by omega) hib fun j hj hij => Int.le_trans (asc_get sa (show j ≤ na' - 1 by omega) hia) (Int.not_lt.mp hlt)
        refine wpS_ite (fun hc => ?_) (fun hc => ?_)
        · exact wpS_pure (Or.inl ⟨_, _, rfl, resH_first m2 (by simpa using hc) (by omega) hfirst, hS'⟩)
        have hend : nb' - 1 ≠ 1 := by simpa using hc
        have hIn : HInv a b (out'.push b[nb' - 1]) na' (nb' - 1) := ⟨l1, u1, by omega, by omega, m2⟩
        refine wpS_ite (fun hc => ?_) (fun hc => ?_)
        · exact wpS_pure (Or.inr ⟨_, _, _, _, _, rfl, hIn, by omega, hS'⟩)
        · exact wpS_pure ⟨_, _, _, _, _, rfl, hIn, by omega, hS'⟩
    · rintro d st2 ⟨out', na', nb', ac, bc, rfl, hI', hp', hS'⟩
      exact Or.inr ⟨_, _, _, _, _, rfl, hI', by have := hI'.la; have := hI'.lb; omega, hS'⟩
    rintro d st2 (⟨r, rest, rfl, hr, hS'⟩ | ⟨out', na', nb', ac, bc, rfl, hI', hp', hS'⟩)
    · exact wpS_pure ⟨_, _, rfl, hr, hS'⟩
    dsimp only
    refine wpS_bind (wpS_lift (wpAny_rule ⟨rfl, ?_⟩))
    refine wpS_bind (wpS_mono (wpS_forRange (I := fun y d st' => ∃ o2 i2 j2 mg ac bc, d = (none, i2, j2, o2, mg, ac, bc) ∧ HInv a b o2 i2 j2 ∧ i2 + j2 ≤ na' + nb' ∧ Same st st')
      (Q := fun d st' => (∃ r rest, d = (some r, rest) ∧ Res a b r ∧ Same st st') ∨ ∃ o2 i2 j2 mg ac bc, d = (none, i2, j2, o2, mg, ac, bc) ∧ HInv a b o2 i2 j2 ∧ i2 + j2 ≤ na' + nb' ∧ Same st st') ?_ ?_ ⟨out', na', nb', _, _, _, rfl, hI', by omega, hS'⟩) ?_)
    · rintro y d st3 _ hy ⟨o2, i2, j2, mg2, ac2, bc2, rfl, ⟨l1, u1, l2, u2, m1⟩, hp2, hS2⟩
      dsimp only
      have hj2 : j2 - 1 < b.size := by omega
      have hi2 : i2 - 1 < a.size := by omega
      refine wpS_ite (fun _ => ?_) (fun _ => ?_)
      all_goals
        refine wpS_bind (wpS_setMin fun st4 hS4 => ?_)
        have hS5 := hS2.trans hS4
        have hk5 := hS5.kind.trans hk
        refine wpS_bind (wpS_elem (get_some hj2) ?_)
        obtain ⟨tb, eb⟩ := int_form kb hj2
        refine wpS_bind (gal_right hk5 ka sa (by omega) (by omega) ⟨tb, _, eb⟩ fun k hkk g1 g2 => ?_)
        dsimp only
        simp only [Nat.zero_add] at g1 g2
        have gA : ∀ i (hi : i < a.size), i < k → kz a[i] ≤ kz b[j2 - 1] := fun i hi h1 => g1 i hi (Nat.zero_le _) h1
        have m3 := pushH_as m1 hkk fun i hi h1 h2 j hj h3 => Int.le_trans (asc_get sb (show j ≤ j2 - 1 by omega) hj2) (Int.le_of_lt (g2 i hi h1 h2))
        refine wpS_ite (fun hk1 => ?_) (fun hk1 => ?_)
        · refine wpS_ite (fun hd => ?_) (fun hd => ?_)
          · exact wpS_pure (Or.inl ⟨_, _, rfl, resH_done_a m3 (by simpa using hd), hS5⟩)
          have hd1 : k ≠ 0 := by simpa using hd
          have hkn : k - 1 < a.size := by omega
          refine wpS_bind (wpS_elem (get_some hj2) ?_)
          have m4 := pushH_b' m3 (by omega) hj2 fun i hi h1 => gA i hi h1
          refine wpS_ite (fun hc => ?_) (fun hc => ?_)
          · exact wpS_pure (Or.inl ⟨_, _, rfl, resH_first m4 (by simpa using hc) (by omega) hfirst, hS5⟩)
          have hc' : j2 - 1 ≠ 1 := by simpa using hc
          refine wpS_bind (wpS_elem (get_some hkn) ?_)
          obtain ⟨ta, ea⟩ := int_form ka hkn
          refine wpS_bind (gal_left hk5 kb sb (by omega) (by omega) ⟨ta, _, ea⟩ fun k2 hk2 g3 g4 => ?_)
          dsimp only
          simp only [Nat.zero_add] at g3 g4
          have gB : ∀ j (hj : j < b.size), j < k2 → kz b[j] ≤ kz a[k - 1] := fun j hj h1 => Int.le_of_lt (g3 j hj (Nat.zero_le _) h1)
          refine wpS_ite (fun hk0 => ?_) (fun hk0 => ?_)
          · have m5 := pushH_bs m4 hk2 fun j hj h1 h2 i hi h3 => Int.le_trans (asc_get sa (show i ≤ k - 1 by omega) hkn) (g4 j hj h1 h2)
            refine wpS_ite (fun hd => ?_) (fun hd => ?_)
            · exact wpS_pure (Or.inl ⟨_, _, rfl, resH_first m5 (by simpa using hd) (by omega) hfirst, hS5⟩)
            have hd' : k2 ≠ 1 := by simpa using hd
            refine wpS_ite (fun hd => ?_) (fun hd => ?_)
            · exact wpS_pure (Or.inl ⟨_, _, rfl, resH_done_b m5 (by simpa using hd), hS5⟩)
            have hd2 : k2 ≠ 0 := by simpa using hd
            refine wpS_bind (wpS_elem (get_some hkn) ?_)
            have m6 := pushH_a' m5 (by omega) hkn fun j hj h1 => gB j hj h1
            refine wpS_ite (fun he => ?_) (fun he => ?_)
            · exact wpS_pure (Or.inl ⟨_, _, rfl, resH_done_a m6 (by simpa using he), hS5⟩)
            have he' : k - 1 ≠ 0 := by simpa using he
            refine wpS_ite (fun _ => ?_) (fun _ => ?_)
            · exact wpS_pure (Or.inr ⟨_, _, _, _, _, _, rfl, ⟨by omega, by omega, by omega, by omega, m6⟩, by omega, hS5⟩)
            · exact wpS_pure ⟨_, _, _, _, _, _, rfl, ⟨by omega, by omega, by omega, by omega, m6⟩, by omega, hS5⟩
          · have hk20 : k2 = j2 - 1 := by omega
            refine wpS_bind (wpS_elem (get_some hkn) ?_)
            have m6 := pushH_a' m4 (by omega) hkn fun j hj h1 => gB j hj (by omega)
            refine wpS_ite (fun he => ?_) (fun he => ?_)
            · exact wpS_pure (Or.inl ⟨_, _, rfl, resH_done_a m6 (by simpa using he), hS5⟩)
            have he' : k - 1 ≠ 0 := by simpa using he
            refine wpS_ite (fun _ => ?_) (fun _ => ?_)
            · exact wpS_pure (Or.inr ⟨_, _, _, _, _, _, rfl, ⟨by omega, by omega, by omega, by omega, m6⟩, by omega, hS5⟩)
            · exact wpS_pure ⟨_, _, _, _, _, _, rfl, ⟨by omega, by omega, by omega, by omega, m6⟩, by omega, hS5⟩
        · have hk10 : k = i2 := by omega
          subst hk10
          have hkn : k - 1 < a.size := by omega
          refine wpS_bind (wpS_elem (get_some hj2) ?_)
          have m4 := pushH_b' m1 (by omega) hj2 fun i hi h1 => gA i hi h1
          refine wpS_ite (fun hc => ?_) (fun hc => ?_)
          · exact wpS_pure (Or.inl ⟨_, _, rfl, resH_first m4 (by simpa using hc) (by omega) hfirst, hS5⟩)
          have hc' : j2 - 1 ≠ 1 := by simpa using hc
          refine wpS_bind (wpS_elem (get_some hkn) ?_)
          obtain ⟨ta, ea⟩ := int_form ka hkn
          refine wpS_bind (gal_left hk5 kb sb (by omega) (by omega) ⟨ta, _, ea⟩ fun k2 hk2 g3 g4 => ?_)
          dsimp only
          simp only [Nat.zero_add] at g3 g4
          have gB : ∀ j (hj : j < b.size), j < k2 → kz b[j] ≤ kz a[k - 1] := fun j hj h1 => Int.le_of_lt (g3 j hj (Nat.zero_le _) h1)
          refine wpS_ite (fun hk0 => ?_) (fun hk0 => ?_)
          · have m5 := pushH_bs m4 hk2 fun j hj h1 h2 i hi h3 => Int.le_trans (asc_get sa (show i ≤ k - 1 by omega) hkn) (g4 j hj h1 h2)
            refine wpS_ite (fun hd => ?_) (fun hd => ?_)
            · exact wpS_pure (Or.inl ⟨_, _, rfl, resH_first m5 (by simpa using hd) (by omega) hfirst, hS5⟩)
            have hd' : k2 ≠ 1 := by simpa using hd
            refine wpS_ite (fun hd => ?_) (fun hd => ?_)
            · exact wpS_pure (Or.inl ⟨_, _, rfl, resH_done_b m5 (by simpa using hd), hS5⟩)
            have hd2 : k2 ≠ 0 := by simpa using hd
            refine wpS_bind (wpS_elem (get_some hkn) ?_)
            have m6 := pushH_a' m5 (by omega) hkn fun j hj h1 => gB j hj h1
            refine wpS_ite (fun he => ?_) (fun he => ?_)
            · exact wpS_pure (Or.inl ⟨_, _, rfl, resH_done_a m6 (by simpa using he), hS5⟩)
            have he' : k - 1 ≠ 0 := by simpa using he
            refine wpS_ite (fun _ => ?_) (fun _ => ?_)
            · exact wpS_pure (Or.inr ⟨_, _, _, _, _, _, rfl, ⟨by omega, by omega, by omega, by omega, m6⟩, by omega, hS5⟩)
            · exact wpS_pure ⟨_, _, _, _, _, _, rfl, ⟨by omega, by omega, by omega, by omega, m6⟩, by omega, hS5⟩
          · have hk20 : k2 = j2 - 1 := by omega
            refine wpS_bind (wpS_elem (get_some hkn) ?_)
            have m6 := pushH_a' m4 (by omega) hkn fun j hj h1 => gB j hj (by omega)
            refine wpS_ite (fun he => ?_) (fun he => ?_)
            · exact wpS_pure (Or.inl ⟨_, _, rfl, resH_done_a m6 (by simpa using he), hS5⟩)
            have he' : k - 1 ≠ 0 := by simpa using he
            refine wpS_ite (fun _ => ?_) (fun _ => ?_)
            · exact wpS_pure (Or.inr ⟨_, _, _, _, _, _, rfl, ⟨by omega, by omega, by omega, by omega, m6⟩, by omega, hS5⟩)
            · exact wpS_pure ⟨_, _, _, _, _, _, rfl, ⟨by omega, by omega, by omega, by omega, m6⟩, by omega, hS5⟩
    · rintro d st3 ⟨o2, i2, j2, mg2, ac2, bc2, rfl, hI2, hp2, hS2⟩
      exact Or.inr ⟨_, _, _, _, _, _, rfl, hI2, hp2, hS2⟩
    rintro d st3 (⟨r, rest, rfl, hr, hS2⟩ | ⟨o2, i2, j2, mg2, ac2, bc2, rfl, hI2, hp2, hS2⟩)
    · exact wpS_pure ⟨_, _, rfl, hr, hS2⟩
    dsimp only
    refine wpS_bind (wpS_setMin fun st4 hS4 => ?_)
    exact wpS_pure ⟨_, _, _, _, rfl, hI2, by omega, hS2.trans hS4⟩
  · rintro c st1 ⟨out, na, nb, mg, rfl, hI, hprog, hS⟩
    exfalso
    have := hI.la
    have := hI.lb
    omega
  · rintro c st1 ⟨r, rest, rfl, hr, hS⟩
    exact wpS_pure (h r st1 hr hS)
  run_tac sqEnd
end
end Mine
end

section
open PySem PySem.W PyProof.Rows PyProof.Rows.LCg PySem.Calls
set_option maxRecDepth 100000
namespace Mine
/-- the merged run is written back -/
noncomputable def wback (arr : Array Keyed) (lo : Nat) (l : List Keyed) : Array Keyed := l.zipIdx.foldl (fun a (p, j) => a.setIfInBounds (lo + j) p) arr
theorem wback_gen (lo : Nat) : ∀ (l : List Keyed) (k : Nat) (arr : Array Keyed), ((l.zipIdx k).foldl (fun a (p, j) => a.setIfInBounds (lo + j) p) arr).size = arr.size ∧
    ∀ i, ((l.zipIdx k).foldl (fun a (p, j) => a.setIfInBounds (lo + j) p) arr)[i]? = if lo + k ≤ i ∧ i < lo + k + l.length ∧ i < arr.size then l[i - (lo + k)]? else arr[i]? := by
  run_tac sqBegin
  intro l
  induction l with
  | nil => intro k arr; refine ⟨rfl, fun i => ?_⟩; rw [if_neg (by simp; omega)]; rfl
  | cons x l ih =>
    intro k arr
    simp only [List.zipIdx_cons, List.foldl_cons]
    have h := ih (k + 1) (arr.setIfInBounds (lo + k) x)
    refine ⟨by rw [h.1]; simp, fun i => ?_⟩
    rw [h.2 i]
    simp only [Array.size_setIfInBounds, List.length_cons, Array.getElem?_setIfInBounds]
    by_cases h1 : lo + (k + 1) ≤ i ∧ i < lo + (k + 1) + l.length ∧ i < arr.size
    · rw [if_pos h1, if_pos (by omega), show i - (lo + k) = (i - (lo + (k + 1))) + 1 by omega, List.getElem?_cons_succ]
    · rw [if_neg h1]
      by_cases h2 : lo + k = i
      · subst h2
        rw [if_pos rfl]
        by_cases h3 : lo + k < arr.size
        · rw [if_pos h3, if_pos (by omega)]; simp
        · rw [if_neg h3, if_neg (by omega)]; rw [getElem?_neg arr _ h3]
      · rw [if_neg h2, if_neg (by omega)]
  run_tac sqEnd
theorem wback_size (arr : Array Keyed) (lo : Nat) (l : List Keyed) : (wback arr lo l).size = arr.size := (wback_gen lo l 0 arr).1
theorem wback_get {arr : Array Keyed} {lo : Nat} {l : List Keyed} (hf : lo + l.length ≤ arr.size) {i : Nat} (hi : i < l.length) : (wback arr lo l)[lo + i]? = l[i]? := by
  refine ((wback_gen lo l 0 arr).2 (lo + i)).trans ?_
  rw [if_pos (by omega)]; congr 1; omega
theorem wback_out {arr : Array Keyed} {lo : Nat} {l : List Keyed} {i : Nat} (hi : i < lo ∨ lo + l.length ≤ i) : (wback arr lo l)[i]? = arr[i]? := by
  refine ((wback_gen lo l 0 arr).2 i).trans ?_
  rw [if_neg (by omega)]
section
variable {prog : Program} {w : World} {A : Around} {E : Value → Shared → Prop} {s : Shared}
/-- galloping to the right in a window in order -/
theorem gal_rightW {key : Keyed} {arr : Array Keyed} {base n hint : Nat} {st : SortSt} {Q : Option Nat → SortSt → Prop} (hk : kindOf st = oneType') (ka : IntKeys arr) (sa : Srt arr base n) (hn : base + n ≤ arr.size) (hh : hint < n) (hkey : ∃ t q, key = (.int (kz key) t, q))
    (h : ∀ c, c ≤ n → (∀ i, base ≤ i → i < base + c → K arr i ≤ kz key) → (∀ i, base + c ≤ i → i < base + n → kz key < K arr i) → Q (some c) st) : wpS (model prog w) A E s (gallop' false key arr base n hint) Q st := by
  obtain ⟨t, q, hkey⟩ := hkey
  refine wpS_gallop (fun i => !decide (kz key < K arr (base + i))) hh hk hkey ?_ ?_ ?_
  · intro i hi
    obtain ⟨t2, e2⟩ := int_form ka (show base + i < arr.size by omega)
    refine ⟨kz arr[base + i], t2, _, (get_some (show base + i < arr.size by omega)).trans (congrArg some e2), ?_⟩
    rw [K_kz arr (show base + i < arr.size by omega)]; rfl
  · intro i j hij hj hp
    have := sa (base + i) (base + j) (by omega) (by omega) (by omega)
    simp at hp ⊢
    omega
  · intro c hc h1 h2
    refine h c hc (fun i hb hlt => ?_) (fun i hb hlt => ?_)
    · obtain ⟨j, rfl⟩ := Nat.exists_eq_add_of_le hb
      simpa using h1 j (by omega)
    · obtain ⟨j, rfl⟩ := Nat.exists_eq_add_of_le (show base ≤ i by omega)
      simpa using h2 j (by omega) (by omega)
/-- galloping to the left in a window in order -/
theorem gal_leftW {key : Keyed} {arr : Array Keyed} {base n hint : Nat} {st : SortSt} {Q : Option Nat → SortSt → Prop} (hk : kindOf st = oneType') (ka : IntKeys arr) (sa : Srt arr base n) (hn : base + n ≤ arr.size) (hh : hint < n) (hkey : ∃ t q, key = (.int (kz key) t, q))
    (h : ∀ c, c ≤ n → (∀ i, base ≤ i → i < base + c → K arr i < kz key) → (∀ i, base + c ≤ i → i < base + n → kz key ≤ K arr i) → Q (some c) st) : wpS (model prog w) A E s (gallop' true key arr base n hint) Q st := by
  obtain ⟨t, q, hkey⟩ := hkey
  refine wpS_gallop (fun i => decide (K arr (base + i) < kz key)) hh hk hkey ?_ ?_ ?_
  · intro i hi
    obtain ⟨t2, e2⟩ := int_form ka (show base + i < arr.size by omega)
    refine ⟨kz arr[base + i], t2, _, (get_some (show base + i < arr.size by omega)).trans (congrArg some e2), ?_⟩
    rw [K_kz arr (show base + i < arr.size by omega)]; rfl
  · intro i j hij hj hp
    have := sa (base + i) (base + j) (by omega) (by omega) (by omega)
    simp at hp ⊢
    omega
  · intro c hc h1 h2
    refine h c hc (fun i hb hlt => ?_) (fun i hb hlt => ?_)
    · obtain ⟨j, rfl⟩ := Nat.exists_eq_add_of_le hb
      simpa using h1 j (by omega)
    · obtain ⟨j, rfl⟩ := Nat.exists_eq_add_of_le (show base ≤ i by omega)
      simpa using h2 j (by omega) (by omega)
end
end Mine
end

section
open PySem PySem.W PyProof.Rows PyProof.Rows.LCg PySem.Calls
set_option maxRecDepth 100000
namespace Mine
theorem ik_ext {xs : Array Keyed} (h : IntKeys xs) (i j : Nat) : IntKeys (xs.extract i j) := by
  intro p hp
  refine h p ?_
  rw [Array.toList_extract, List.extract_eq_take_drop] at hp
  exact List.mem_of_mem_drop (List.mem_of_mem_take hp)
theorem kz_ext {xs : Array Keyed} {i j k : Nat} (hj : j ≤ xs.size) (hk : k < (xs.extract i j).size) : kz (xs.extract i j)[k] = K xs (i + k) := by
  rw [Array.size_extract] at hk
  rw [K_kz xs (show i + k < xs.size by omega), Array.getElem_extract]
theorem asc_ext {xs : Array Keyed} {i n : Nat} (h : Srt xs i n) (hf : i + n ≤ xs.size) : Asc (xs.extract i (i + n)).toList := by
  refine asc_of_srt fun a b ha hab hb => ?_
  have hs : (xs.extract i (i + n)).size = n := by rw [Array.size_extract]; omega
  have hb' : b < (xs.extract i (i + n)).size := by omega
  rw [K_kz _ (show a < _ by omega), K_kz _ hb', kz_ext hf, kz_ext hf]
  exact h _ _ (by omega) (by omega) (by omega)
theorem srt_glue {xs : Array Keyed} {a n m : Nat} (h1 : Srt xs a n) (h2 : Srt xs (a + n) m) (hx : ∀ i j, a ≤ i → i < a + n → a + n ≤ j → j < a + n + m → K xs i ≤ K xs j) : Srt xs a (n + m) := by
  intro i j hi hij hj
  by_cases h : j < a + n
  · exact h1 i j hi hij h
  by_cases h' : i < a + n
  · exact hx i j hi h' (by omega) (by omega)
  · exact h2 i j (by omega) hij (by omega)
theorem srt_sub {xs : Array Keyed} {a n b m : Nat} (h : Srt xs a n) (h1 : a ≤ b) (h2 : b + m ≤ a + n) : Srt xs b m := fun i j hi hij hj => h i j (by omega) hij (by omega)
theorem srt_same {xs ys : Array Keyed} {a n : Nat} (h : Srt xs a n) (he : ∀ i, a ≤ i → i < a + n → ys[i]? = xs[i]?) : Srt ys a n := by
  intro i j hi hij hj
  rw [K_congr (he i hi (by omega)), K_congr (he j (by omega) hj)]
  exact h i j hi hij hj
/-- the plain step: what a merge wrote back is one run -/
theorem back_srt {xs r : Array Keyed} {sa k m n nb : Nat} (h1 : Srt xs sa (k + m)) (h2 : Srt xs (sa + k + m) nb) (hn : n ≤ nb) (hm : 1 ≤ m) (hf : sa + k + m + nb ≤ xs.size)
    (g1 : ∀ i, sa ≤ i → i < sa + k → K xs i ≤ K xs (sa + k + m)) (g4 : ∀ j, sa + k + m + n ≤ j → j < sa + k + m + nb → K xs (sa + k + m - 1) ≤ K xs j)
    (hr : Res (xs.extract (sa + k) (sa + k + m)) (xs.extract (sa + k + m) (sa + k + m + n)) r) : Srt (wback xs (sa + k) r.toList) sa (k + m + nb) ∧ (wback xs (sa + k) r.toList).Perm xs ∧ (∀ j, (j < sa ∨ sa + (k + m + nb) ≤ j) → (wback xs (sa + k) r.toList)[j]? = xs[j]?) := by
  run_tac sqBegin
  have hlen : r.toList.length = m + n := by
    rw [hr.2.length_eq, List.length_append, ext_list, ext_list]; simp; omega
  have hmem : ∀ t, t < m + n → ∃ q, sa + k ≤ q ∧ q < sa + k + m + n ∧ K (wback xs (sa + k) r.toList) (sa + k + t) = K xs q := by
    intro t ht
    have ht' : t < r.toList.length := by omega
    have e := wback_get (arr := xs) (lo := sa + k) (l := r.toList) (by omega) ht'
    have e2 : K (wback xs (sa + k) r.toList) (sa + k + t) = kz r.toList[t] := by
      unfold K; rw [e, List.getElem?_eq_getElem ht']
    have hin := hr.2.mem_iff.mp (List.getElem_mem ht')
    rw [e2]
    rcases List.mem_append.mp hin with hx | hx
    · rw [ext_list] at hx
      obtain ⟨q, hq, h3, h4, h5⟩ := mem_take_get hx
      exact ⟨q, h3, by omega, by rw [K_kz xs hq, ← h5]⟩
    · rw [ext_list] at hx
      obtain ⟨q, hq, h3, h4, h5⟩ := mem_take_get hx
      exact ⟨q, by omega, by omega, by rw [K_kz xs hq, ← h5]⟩
  have hout : ∀ i, (i < sa + k ∨ sa + k + (m + n) ≤ i) → (wback xs (sa + k) r.toList)[i]? = xs[i]? := fun i hi => wback_out (by omega)
  refine ⟨?_, ?_, fun j hj => hout j (by omega)⟩
  · have w1 : Srt (wback xs (sa + k) r.toList) sa k := srt_same (srt_sub h1 (Nat.le_refl _) (by omega)) fun i hi hj => hout i (by omega)
    have w2 : Srt (wback xs (sa + k) r.toList) (sa + k) (m + n) := by
      intro i j hi hij hj
      obtain ⟨i', rfl⟩ := Nat.exists_eq_add_of_le hi
      obtain ⟨j', rfl⟩ := Nat.exists_eq_add_of_le (Nat.le_trans hi hij)
      have hz : ∀ t, t < r.toList.length → K (wback xs (sa + k) r.toList) (sa + k + t) = K r t := fun t ht => by
        refine K_congr ((wback_get (by omega) ht).trans ?_); simp
      rw [hz i' (by omega), hz j' (by omega)]
      exact srt_of_asc hr.1 i' j' (Nat.zero_le _) (by omega) (by have : r.toList.length = r.size := Array.length_toList; omega)
    have w3 : Srt (wback xs (sa + k) r.toList) (sa + (k + (m + n))) (nb - n) := srt_same (srt_sub h2 (by omega) (by omega)) fun i hi hj => hout i (by omega)
    have w12 := srt_glue w1 w2 fun i j hi hij hj hjm => by
      obtain ⟨t, rfl⟩ := Nat.exists_eq_add_of_le hj
      obtain ⟨q, hq1, hq2, hq⟩ := hmem t (by omega)
      rw [hq, K_congr (hout i (by omega))]
      by_cases hqm : q < sa + k + m
      · exact h1 i q hi (by omega) (by omega)
      · exact Int.le_trans (g1 i hi hij) (h2 _ q (Nat.le_refl _) (by omega) (by omega))
    have w123 := srt_glue w12 w3 fun i j hi hij hj hjm => by
      rw [K_congr (hout j (by omega))]
      have hA : ∀ q, sa ≤ q → q < sa + k + m + n → K xs q ≤ K xs j := fun q hq1 hq2 => by
        by_cases hqm : q < sa + k + m
        · exact Int.le_trans (h1 q (sa + k + m - 1) hq1 (by omega) (by omega)) (g4 j (by omega) (by omega))
        · exact h2 q j (by omega) (by omega) (by omega)
      by_cases hik : i < sa + k
      · rw [K_congr (hout i (by omega))]
        exact hA i hi (by omega)
      · obtain ⟨t, rfl⟩ := Nat.exists_eq_add_of_le (Nat.not_lt.mp hik)
        obtain ⟨q, hq1, hq2, hq⟩ := hmem t (by omega)
        rw [hq]
        exact hA q (by omega) hq2
    have en : k + (m + n) + (nb - n) = k + m + nb := by omega
    rwa [en] at w123
  · refine perm_win (z := r) (lo := sa + k) (n := m + n) (wback_size _ _ _) (by omega) (fun i hi => ?_) ?_ (fun i hi => hout i hi)
    · exact (wback_get (by omega) (by omega)).trans (by simp)
    · refine Array.perm_iff_toList_perm.mpr (hr.2.trans (List.Perm.of_eq ?_))
      rw [ext_list, ext_list]
      show _ = (xs.toList.drop (sa + k)).take (m + n)
      rw [List.take_add, List.drop_drop]
  run_tac sqEnd
noncomputable abbrev setArr (st : SortSt) (a : Array Keyed) : SortSt := SortSt.mk' (kindOf st) a (pendingOf st) (gallopOf st) (failedOf st)
theorem mergeAt'_eq (i : Nat) : mergeAt' i = (do
  let s ← get
  let (some (sa, na, power), some (sb, nb, _)) := ((pendingOf s)[i]?, (pendingOf s)[i + 1]?) | unsupported "internal:list.sort.pending"
  set (setPending s (((pendingOf s).setIfInBounds i (sa, na + nb, power)).eraseIdxIfInBounds (i + 1)))
  let some k ← gallop' false (← elem' (arrOf s) sb) (arrOf s) sa na 0 | return false
  let (sa, na) := (sa + k, na - k)
  if na == 0 then return true
  let some nb ← gallop' true (← elem' (arrOf s) (sa + na - 1)) (arrOf s) sb nb (nb - 1) | return false
  if nb == 0 then return true
  let x := (arrOf s).extract sa sb
  let y := (arrOf s).extract sb (sb + nb)
  let merged ← if na ≤ nb then mergeLo' x y else mergeHi' x y
  modify fun s => setArr s (wback (arrOf s) sa merged.toList)
  return (failedOf (← get)).isNone) := rfl
theorem wpS_set {prog : Program} {w : World} {A : Around} {E : Value → Shared → Prop} {s : Shared} {Q : PUnit → SortSt → Prop} {st st' : SortSt} (h : Q ⟨⟩ st') : wpS (model prog w) A E s (set st' : StateT SortSt Sem PUnit) Q st := wpS_modify (f := fun _ => st') h
section
variable {prog : Program} {w : World} {A : Around} {E : Value → Shared → Prop} {s : Shared}
theorem wpS_mergeAt {a₀ : Array Keyed} {st : SortSt} {i sa na sb nb pw : Nat} {pw2 : Nat} {Q : Bool → SortSt → Prop} (h0 : IntKeys a₀) (hG : Good a₀ st)
    (hp1 : (pendingOf st)[i]? = some (sa, na, pw)) (hp2 : (pendingOf st)[i + 1]? = some (sb, nb, pw2)) (hsb : sb = sa + na) (hna : 1 ≤ na) (hnb : 1 ≤ nb) (hf : sa + na + nb ≤ a₀.size) (s1 : Srt (arrOf st) sa na) (s2 : Srt (arrOf st) sb nb)
    (h : ∀ st', Good a₀ st' → pendingOf st' = ((pendingOf st).setIfInBounds i (sa, na + nb, pw)).eraseIdxIfInBounds (i + 1) → Srt (arrOf st') sa (na + nb) → (∀ j, (j < sa ∨ sa + (na + nb) ≤ j) → (arrOf st')[j]? = (arrOf st)[j]?) → Q true st') :
    wpS (model prog w) A E s (mergeAt' i) Q st := by
  run_tac sqBegin
  rw [mergeAt'_eq]
  refine wpS_bind (wpS_get ?_)
  rw [hp1, hp2]
  run_tac zetaT
  refine wpS_bind (wpS_set ?_)
  have hsz := hG.size
  have ka : IntKeys (arrOf st) := fun p hp => h0 p ((Array.perm_iff_toList_perm.mp hG.perm).mem_iff.mp hp)
  have hbs : sb < (arrOf st).size := by omega
  refine wpS_bind (wpS_elem (get_some hbs) ?_)
  obtain ⟨tb, eb⟩ := int_form ka hbs
  subst hsb
  refine wpS_bind (gal_rightW hG.kind ka s1 (by omega) (by omega) ⟨tb, _, eb⟩ fun k hk g1 g2 => ?_)
  dsimp only
  rw [← K_kz (arrOf st) hbs] at g1 g2
  have hGp : ∀ p, Good a₀ (setPending st p) := fun p => ⟨hG.perm, hG.kind, hG.failed⟩
  refine wpS_ite (fun hc => ?_) (fun hc => ?_)
  · have hk0 : na - k = 0 := by simpa using hc
    have hkn : k = na := by omega
    subst hkn
    refine wpS_pure (h _ (hGp _) rfl ?_ fun _ _ => rfl)
    exact srt_glue s1 s2 fun i j hi hij hj hjm => Int.le_trans (g1 i hi hij) (s2 _ j (Nat.le_refl _) hj hjm)
  have hk0 : na - k ≠ 0 := by simpa using hc
  have hkey : sa + k + (na - k) - 1 < (arrOf st).size := by omega
  refine wpS_bind (wpS_elem (get_some hkey) ?_)
  obtain ⟨ta, ea⟩ := int_form ka hkey
  refine wpS_bind (gal_leftW hG.kind ka s2 (by omega) (by omega) ⟨ta, _, ea⟩ fun n hn g3 g4 => ?_)
  dsimp only
  rw [← K_kz (arrOf st) hkey] at g3 g4
  refine wpS_ite (fun hc => ?_) (fun hc => ?_)
  · have hn0 : n = 0 := by simpa using hc
    subst hn0
    refine wpS_pure (h _ (hGp _) rfl ?_ fun _ _ => rfl)
    exact srt_glue s1 s2 fun i j hi hij hj hjm => Int.le_trans (s1 i (sa + k + (na - k) - 1) hi (by omega) (by omega)) (g4 j hj hjm)
  have hn0 : n ≠ 0 := by simpa using hc
  have hend : sa + na = sa + k + (na - k) := by omega
  have hX : ((arrOf st).extract (sa + k) (sa + na)).size = na - k := by rw [Array.size_extract]; omega
  have hY : ((arrOf st).extract (sa + na) (sa + na + n)).size = n := by rw [Array.size_extract]; omega
  have aX : Asc ((arrOf st).extract (sa + k) (sa + na)).toList := by
    rw [hend]; exact asc_ext (srt_sub s1 (by omega) (by omega)) (by omega)
  have aY : Asc ((arrOf st).extract (sa + na) (sa + na + n)).toList := asc_ext (srt_sub s2 (by omega) (by omega)) (by omega)
  have kX := ik_ext ka (sa + k) (sa + na)
  have kY := ik_ext ka (sa + na) (sa + na + n)
  have fin : ∀ r st', Res ((arrOf st).extract (sa + k) (sa + na)) ((arrOf st).extract (sa + na) (sa + na + n)) r → Same (setPending st (((pendingOf st).setIfInBounds i (sa, na + nb, pw)).eraseIdxIfInBounds (i + 1))) st' →
      Q true (setArr st' (wback (arrOf st') (sa + k) r.toList)) := by
    intro r st' hr hS
    have hA : arrOf st' = arrOf st := hS.arr
    rw [hA]
    rw [hend] at hr s2 g1 g4 
    have hB := back_srt (sa := sa) (k := k) (m := na - k) (n := n) (nb := nb) (by rw [show k + (na - k) = na by omega]; exact s1) s2 hn (by omega) (by omega) g1 g4 hr
    rw [show k + (na - k) + nb = na + nb by omega] at hB
    exact h _ ⟨hB.2.1.trans hG.perm, hS.kind.trans hG.kind, hS.failed.trans hG.failed⟩ hS.pend hB.1 hB.2.2
  have hfirst : ∀ i (hi : i < ((arrOf st).extract (sa + k) (sa + na)).size), kz (((arrOf st).extract (sa + na) (sa + na + n))[0]'(by omega)) ≤ kz ((arrOf st).extract (sa + k) (sa + na))[i] := by
    intro i hi
    rw [kz_ext (by omega), kz_ext (by omega)]
    exact Int.le_of_lt (g2 _ (by omega) (by omega))
  have hlast : ∀ j (hj : j < ((arrOf st).extract (sa + na) (sa + na + n)).size), kz ((arrOf st).extract (sa + na) (sa + na + n))[j] ≤ kz (((arrOf st).extract (sa + k) (sa + na))[((arrOf st).extract (sa + k) (sa + na)).size - 1]'(by omega)) := by
    intro j hj
    rw [kz_ext (by omega), kz_ext (by omega)]
    have := g3 (sa + na + j) (by omega) (by omega)
    rw [hX, show sa + k + (na - k - 1) = sa + k + (na - k) - 1 by omega]
    exact Int.le_of_lt this
  have hfl : ∀ r st', Res ((arrOf st).extract (sa + k) (sa + na)) ((arrOf st).extract (sa + na) (sa + na + n)) r → Same (setPending st (((pendingOf st).setIfInBounds i (sa, na + nb, pw)).eraseIdxIfInBounds (i + 1))) st' → (failedOf st').isNone = true := fun r st' _ hS => by
    rw [hS.failed]; exact (congrArg Option.isNone hG.failed)
  refine wpS_ite (fun hc => ?_) (fun hc => ?_)
  · refine wpS_bind (wpS_mergeLo hG.kind kX kY aX aY (by omega) (by omega) hfirst hlast fun r st' hr hS => ?_)
    refine wpS_bind (wpS_modify ?_)
    refine wpS_bind (wpS_get ?_)
    refine wpS_pure ?_
    have e := hfl r st' hr hS
    show Q ((failedOf st').isNone) _
    rw [e]
    exact fin r st' hr hS
  · refine wpS_bind (wpS_mergeHi hG.kind kX kY aX aY (by omega) (by omega) hfirst hlast fun r st' hr hS => ?_)
    refine wpS_bind (wpS_modify ?_)
    refine wpS_bind (wpS_get ?_)
    refine wpS_pure ?_
    have e := hfl r st' hr hS
    show Q ((failedOf st').isNone) _
    rw [e]
    exact fin r st' hr hS
  run_tac sqEnd
end
end Mine
end

section
open PySem PySem.W PyProof.Rows PyProof.Rows.LCg PySem.Calls
set_option maxRecDepth 100000
namespace Mine
/-- the pending runs lie side by side from a to hi, each in order -/
noncomputable def Ln (xs : Array Keyed) : List (Nat × Nat × Nat) → Nat → Nat → Prop
  | [], a, hi => a = hi
  | (s, n, _) :: r, a, hi => s = a ∧ 1 ≤ n ∧ Srt xs s n ∧ Ln xs r (a + n) hi
theorem Ln.le {xs : Array Keyed} : ∀ {l : List (Nat × Nat × Nat)} {a hi : Nat}, Ln xs l a hi → a + l.length ≤ hi := by
  intro l
  induction l with
  | nil => intro a hi h; simp [Ln] at h; simp; omega
  | cons x l ih =>
    intro a hi h
    obtain ⟨s, n, q⟩ := x
    obtain ⟨_, h1, _, h2⟩ := h
    have := ih h2
    simp; omega
theorem Ln.same {xs ys : Array Keyed} : ∀ {l : List (Nat × Nat × Nat)} {a hi : Nat}, Ln xs l a hi → (∀ i, a ≤ i → i < hi → ys[i]? = xs[i]?) → Ln ys l a hi := by
  intro l
  induction l with
  | nil => intro a hi h _; exact h
  | cons x l ih =>
    intro a hi h he
    obtain ⟨s, n, q⟩ := x
    obtain ⟨rfl, h1, h2, h3⟩ := h
    have hle := h3.le
    exact ⟨rfl, h1, srt_same h2 fun i hi hj => he i hi (by omega), ih h3 fun i hi hj => he i (by omega) hj⟩
theorem Ln.append {xs : Array Keyed} : ∀ {l r : List (Nat × Nat × Nat)} {a hi : Nat}, Ln xs (l ++ r) a hi ↔ ∃ m, Ln xs l a m ∧ Ln xs r m hi := by
  run_tac sqBegin
  intro l
  induction l with
  | nil => intro r a hi; simp [Ln]
  | cons x l ih =>
    intro r a hi
    obtain ⟨s, n, q⟩ := x
    simp only [List.cons_append, Ln]
    rw [ih]
    constructor
    · rintro ⟨h1, h2, h3, m, h4, h5⟩; exact ⟨m, ⟨h1, h2, h3, h4⟩, h5⟩
    · rintro ⟨m, ⟨h1, h2, h3, h4⟩, h5⟩; exact ⟨h1, h2, h3, m, h4, h5⟩
  run_tac sqEnd
theorem Ln.push {xs : Array Keyed} {l : List (Nat × Nat × Nat)} {a lo n q : Nat} (h : Ln xs l a lo) (hn : 1 ≤ n) (hs : Srt xs lo n) : Ln xs (l ++ [(lo, n, q)]) a (lo + n) := Ln.append.mpr ⟨lo, h, rfl, hn, hs, rfl⟩
/-- two neighbours made one -/
theorem Ln.merge {xs ys : Array Keyed} {l r : List (Nat × Nat × Nat)} {a hi s1 n1 q1 s2 n2 q2 : Nat} (h : Ln xs (l ++ (s1, n1, q1) :: (s2, n2, q2) :: r) a hi) (hs : Srt ys s1 (n1 + n2)) (ho : ∀ j, (j < s1 ∨ s1 + (n1 + n2) ≤ j) → ys[j]? = xs[j]?) : Ln ys (l ++ (s1, n1 + n2, q1) :: r) a hi := by
  run_tac sqBegin
  obtain ⟨m, h1, rfl, h2, h3, rfl, h4, h5, h6⟩ := Ln.append.mp h
  refine Ln.append.mpr ⟨s1, h1.same fun i _ hi => ho i (.inl hi), rfl, by omega, hs, ?_⟩
  rw [← Nat.add_assoc]
  exact h6.same fun i hi _ => ho i (.inr (by omega))
  run_tac sqEnd
end Mine
end

section
open PySem PySem.W PyProof.Rows PyProof.Rows.LCg PySem.Calls
set_option maxRecDepth 100000
namespace Mine
noncomputable abbrev PRun := Nat × Nat × Nat
theorem pend_split (p : Array PRun) {i : Nat} (h : i + 1 < p.size) : p.toList = p.toList.take i ++ p[i] :: p[i + 1] :: p.toList.drop (i + 2) := by
  have hl : i + 1 < p.toList.length := by simpa using h
  conv => lhs; rw [← List.take_append_drop i p.toList, List.drop_eq_getElem_cons (by omega), List.drop_eq_getElem_cons hl]
  simp
theorem set_erase (v x y : PRun) (r : List PRun) : ∀ A : List PRun, ((A ++ x :: y :: r).set A.length v).eraseIdx (A.length + 1) = A ++ v :: r := by
  intro A
  induction A with
  | nil => rfl
  | cons a A ih => simp only [List.cons_append, List.length_cons, List.set_cons_succ, List.eraseIdx_cons_succ]; rw [ih]
theorem pend_merged (p : Array PRun) {i : Nat} (h : i + 1 < p.size) (v : PRun) : ((p.setIfInBounds i v).eraseIdxIfInBounds (i + 1)).toList = p.toList.take i ++ v :: p.toList.drop (i + 2) := by
  have hl : i + 1 < p.toList.length := by simpa using h
  rw [Array.eraseIdxIfInBounds, dif_pos (by simpa using h), Array.toList_eraseIdx, Array.toList_setIfInBounds]
  have ht : (p.toList.take i).length = i := by simp; omega
  have := set_erase v p[i] p[i + 1] (p.toList.drop (i + 2)) (p.toList.take i)
  rw [ht, ← pend_split p h] at this
  exact this
theorem pend_merged_size (p : Array PRun) {i : Nat} (h : i + 1 < p.size) (v : PRun) : ((p.setIfInBounds i v).eraseIdxIfInBounds (i + 1)).size = p.size - 1 := by
  rw [Array.eraseIdxIfInBounds, dif_pos (by simpa using h)]; simp
/-- all is well, and the pending runs reach to lo -/
structure PInv (a₀ : Array Keyed) (lo : Nat) (st : SortSt) : Prop where
  good : Good a₀ st
  ln : Ln (arrOf st) (pendingOf st).toList 0 lo
section
variable {prog : Program} {w : World} {A : Around} {E : Value → Shared → Prop} {s : Shared}
theorem wpS_mergeP {a₀ : Array Keyed} {st : SortSt} {i lo : Nat} {Q : Bool → SortSt → Prop} (h0 : IntKeys a₀) (hI : PInv a₀ lo st) (hlo : lo ≤ a₀.size) (hi : i + 1 < (pendingOf st).size)
    (h : ∀ st', PInv a₀ lo st' → (pendingOf st').size = (pendingOf st).size - 1 → (∀ j, lo ≤ j → (arrOf st')[j]? = (arrOf st)[j]?) → Q true st') : wpS (model prog w) A E s (mergeAt' i) Q st := by
  run_tac sqBegin
  have hsp := pend_split (pendingOf st) hi
  have hL := hI.ln
  rw [hsp] at hL
  have e1 := getElem?_pos (pendingOf st) i (by omega)
  have e2 := getElem?_pos (pendingOf st) (i + 1) hi
  generalize (pendingOf st)[i] = u at hL e1 
  generalize (pendingOf st)[i + 1] = v at hL e2
  obtain ⟨s1, n1, q1⟩ := u
  obtain ⟨s2, n2, q2⟩ := v
  obtain ⟨m, h1, rfl, h2, h3, rfl, h4, h5, h6⟩ := Ln.append.mp hL
  have hle := h6.le
  refine wpS_mergeAt h0 hI.good e1 e2 rfl h2 h4 (by omega) h3 h5 fun st' hG hp hs ho => ?_
  refine h st' ⟨hG, ?_⟩ (by rw [hp]; exact pend_merged_size _ hi _) fun j hj => ho j (.inr (by omega))
  rw [hp, pend_merged _ hi]
  exact hL.merge hs ho
  run_tac sqEnd
end
end Mine
end

section
open PySem PySem.W PyProof.Rows PyProof.Rows.LCg PySem.Calls
set_option maxRecDepth 100000
namespace Mine
theorem Ln.pow {xs : Array Keyed} (f : PRun → PRun) (hf : ∀ u, (f u).1 = u.1 ∧ (f u).2.1 = u.2.1) : ∀ {l : List PRun} {a hi : Nat} (k : Nat), Ln xs l a hi → Ln xs (l.modify k f) a hi := by
  intro l
  induction l with
  | nil => intro a hi k h; simpa using h
  | cons x l ih =>
    intro a hi k h
    obtain ⟨s, n, q⟩ := x
    obtain ⟨h1, h2, h3, h4⟩ := h
    cases k with
    | zero =>
      simp only [List.modify_zero_cons]
      have e := hf (s, n, q)
      generalize f (s, n, q) = u at e
      obtain ⟨s', n', q'⟩ := u
      obtain ⟨e1, e2⟩ := e
      simp only at e1 e2
      subst e1 e2
      exact ⟨h1, h2, h3, h4⟩
    | succ k =>
      simp only [List.modify_succ_cons]
      exact ⟨h1, h2, h3, ih k h4⟩
section
variable {prog : Program} {w : World} {A : Around} {E : Value → Shared → Prop} {s : Shared}
theorem wpS_sortRunsB {a₀ : Array Keyed} {st : SortSt} {Q : Unit → SortSt → Prop} (h0 : IntKeys a₀) (hG : Good a₀ st) (hP : pendingOf st = #[]) (h2 : 2 ≤ a₀.size)
    (h : ∀ st', Good a₀ st' → Srt (arrOf st') 0 a₀.size → Q () st') : wpS (model prog w) A E s sortRuns' Q st := by
  run_tac sqBegin
  rw [sortRuns'_eq]
  refine wpS_bind (wpS_get ?_)
  dsimp only
  simp only [hG.size]
  generalize minRun' a₀.size a₀.size 0 = mr
  refine wpS_bind (wpS_mono (wpS_forRange
    (I := fun x c st' => ∃ lo, c = (none, lo) ∧ PInv a₀ lo st' ∧ lo ≤ a₀.size ∧ (x ≤ lo ∨ lo = a₀.size))
    (Q := fun c st' => c = (none, a₀.size) ∧ PInv a₀ a₀.size st') ?step ?fin ⟨0, rfl, ⟨hG, by rw [hP]; rfl⟩, by omega, .inl (Nat.le_refl _)⟩) ?post)
  case fin =>
    rintro c st' ⟨lo, rfl, hI, hle, hx⟩
    have : lo = a₀.size := by omega
    subst this
    exact ⟨rfl, hI⟩
  case step =>
    rintro x c st' _ hx ⟨lo, rfl, hI, hle, hxl⟩
    dsimp only
    refine wpS_ite (fun hc => ?_) (fun hc => ?_)
    · have : lo = a₀.size := by omega
      subst this
      exact wpS_pure ⟨rfl, hI⟩
    refine wpS_bind (wpS_count_at h0 hI.good (by omega) (by omega) fun m st2 hm1 hm2 hG2 hW2 hs2 => ?_)
    dsimp only
    have hI2 : PInv a₀ lo st2 := ⟨hG2, by rw [hW2.pend]; exact hI.ln.same fun i _ hi => hW2.out i (.inl hi)⟩
    have fin2 : ∀ n st3, 1 ≤ n → lo + n ≤ a₀.size → PInv a₀ lo st3 → Srt (arrOf st3) lo n → PInv a₀ (lo + n) (setPending st3 ((pendingOf st3).push (lo, n, 0))) := fun n st3 hn hf hI3 hs3 =>
      ⟨⟨hI3.good.perm, hI3.good.kind, hI3.good.failed⟩, by
        show Ln (arrOf st3) ((pendingOf st3).push (lo, n, 0)).toList 0 (lo + n)
        rw [Array.toList_push]; exact hI3.ln.push hn hs3⟩
    refine wpS_ite (fun hlt => ?_) (fun hlt => ?_)
    · refine wpS_bind (wpS_lift (wpAny_rule ⟨rfl, ?_⟩))
      refine wpS_bind (wpS_bin_at h0 hG2 (by omega) (by omega) hs2 fun st3 hG3 hW3 hs3 => ?_)
      simp only [Bool.not_true, Bool.false_eq_true, if_false]
      have hI3 : PInv a₀ lo st3 := ⟨hG3, by rw [hW3.pend]; exact hI2.ln.same fun i _ hi => hW3.out i (.inl hi)⟩
      refine wpS_bind (wpS_get ?_)
      cases hb : (pendingOf st3).back? with
      | none =>
        dsimp only
        exact wpS_bind (wpS_modify (wpS_pure ⟨_, rfl, fin2 _ _ (by omega) (by omega) hI3 hs3, by omega, by omega⟩))
      | some u =>
        obtain ⟨s1, n1, q1⟩ := u
        dsimp only
        refine wpS_bind (wpS_mono (wpS_forRange (I := fun _ c st' => c = (none, ()) ∧ PInv a₀ lo st' ∧ Srt (arrOf st') lo (min (a₀.size - lo) mr)) (Q := fun c st' => c = (none, ()) ∧ PInv a₀ lo st' ∧ Srt (arrOf st') lo (min (a₀.size - lo) mr)) ?_ (fun _ _ hh => hh) ⟨rfl, hI3, hs3⟩) ?_)
        · rintro y d st4 _ _ ⟨rfl, hI4, hs4⟩
          refine wpS_bind (wpS_get ?_)
          by_cases hsz : (pendingOf st4).size > 1
          · rw [if_pos hsz, getElem?_pos (pendingOf st4) ((pendingOf st4).size - 2) (by omega)]
            dsimp only
            refine wpS_ite (fun _ => wpS_pure ⟨rfl, hI4, hs4⟩) (fun _ => ?_)
            refine wpS_bind (wpS_mergeP h0 hI4 hle (by omega) fun st5 h51 _ h53 => ?_)
            exact wpS_pure ⟨rfl, h51, srt_same hs4 fun i hi _ => h53 i hi⟩
          · rw [if_neg hsz]
            exact wpS_pure ⟨rfl, hI4, hs4⟩
        · rintro d st4 ⟨rfl, hI4, hs4⟩
          dsimp only
          refine wpS_bind (wpS_modify (wpS_bind (wpS_modify (wpS_pure ?_))))
          refine ⟨_, rfl, fin2 _ (setPending st4 ((pendingOf st4).modify ((pendingOf st4).size - 1) _)) (by omega) (by omega) ⟨⟨hI4.good.perm, hI4.good.kind, hI4.good.failed⟩, ?_⟩ hs4, by omega, by omega⟩
          show Ln (arrOf st4) ((pendingOf st4).modify _ _).toList 0 lo
          rw [Array.toList_modify]
          exact Ln.pow (l := (pendingOf st4).toList) (a := 0) (hi := lo) (fun u => (u.1, u.2.1, power' a₀.size (2 * s1 + n1) (2 * s1 + n1 + n1 + (min (a₀.size - lo) mr)) a₀.size)) (fun _ => ⟨rfl, rfl⟩) _ hI4.ln
    · refine wpS_bind (wpS_get ?_)
      cases hb : (pendingOf st2).back? with
      | none =>
        dsimp only
        exact wpS_bind (wpS_modify (wpS_pure ⟨_, rfl, fin2 _ _ (by omega) (by omega) hI2 hs2, by omega, by omega⟩))
      | some u =>
        obtain ⟨s1, n1, q1⟩ := u
        dsimp only
        refine wpS_bind (wpS_mono (wpS_forRange (I := fun _ c st' => c = (none, ()) ∧ PInv a₀ lo st' ∧ Srt (arrOf st') lo (m)) (Q := fun c st' => c = (none, ()) ∧ PInv a₀ lo st' ∧ Srt (arrOf st') lo (m)) ?_ (fun _ _ hh => hh) ⟨rfl, hI2, hs2⟩) ?_)
        · rintro y d st4 _ _ ⟨rfl, hI4, hs4⟩
          refine wpS_bind (wpS_get ?_)
          by_cases hsz : (pendingOf st4).size > 1
          · rw [if_pos hsz, getElem?_pos (pendingOf st4) ((pendingOf st4).size - 2) (by omega)]
            dsimp only
            refine wpS_ite (fun _ => wpS_pure ⟨rfl, hI4, hs4⟩) (fun _ => ?_)
            refine wpS_bind (wpS_mergeP h0 hI4 hle (by omega) fun st5 h51 _ h53 => ?_)
            exact wpS_pure ⟨rfl, h51, srt_same hs4 fun i hi _ => h53 i hi⟩
          · rw [if_neg hsz]
            exact wpS_pure ⟨rfl, hI4, hs4⟩
        · rintro d st4 ⟨rfl, hI4, hs4⟩
          dsimp only
          refine wpS_bind (wpS_modify (wpS_bind (wpS_modify (wpS_pure ?_))))
          refine ⟨_, rfl, fin2 _ (setPending st4 ((pendingOf st4).modify ((pendingOf st4).size - 1) _)) (by omega) (by omega) ⟨⟨hI4.good.perm, hI4.good.kind, hI4.good.failed⟩, ?_⟩ hs4, by omega, by omega⟩
          show Ln (arrOf st4) ((pendingOf st4).modify _ _).toList 0 lo
          rw [Array.toList_modify]
          exact Ln.pow (l := (pendingOf st4).toList) (a := 0) (hi := lo) (fun u => (u.1, u.2.1, power' a₀.size (2 * s1 + n1) (2 * s1 + n1 + n1 + m) a₀.size)) (fun _ => ⟨rfl, rfl⟩) _ hI4.ln
  case post =>
    rintro c st' ⟨rfl, hI⟩
    dsimp only
    refine wpS_bind (wpS_mono (wpS_forRange (I := fun x c st'' => c = (none, ()) ∧ PInv a₀ a₀.size st'' ∧ ((pendingOf st'').size + x ≤ a₀.size + 1 ∨ (pendingOf st'').size ≤ 1)) (Q := fun c st'' => c = (none, ()) ∧ PInv a₀ a₀.size st'' ∧ (pendingOf st'').size ≤ 1) ?_ ?_ ⟨rfl, hI, ?_⟩) ?_)
    · rintro x c st'' _ hx ⟨rfl, hI', hz⟩
      refine wpS_bind (wpS_get ?_)
      refine wpS_ite (fun hc => ?_) (fun hc => ?_)
      · exact wpS_pure ⟨rfl, hI', hc⟩
      have key : ∀ i, i + 1 < (pendingOf st'').size → wpS (model prog w) A E s (mergeAt' i) (fun r st' => r = true ∧ PInv a₀ a₀.size st' ∧ ((pendingOf st').size + (x + 1) ≤ a₀.size + 1)) st'' := fun i hi =>
        wpS_mergeP h0 hI' (Nat.le_refl _) hi fun st' h1 h2 _ => ⟨rfl, h1, by omega⟩
      refine wpS_bind (wpS_mono (key _ ?_) ?_)
      · have hc' : 1 < (pendingOf st'').size := Nat.not_le.mp hc
        have hif : ∀ (q : Prop) [Decidable q] (z : Nat), 1 < z → (if q then z - 2 - 1 else z - 2) + 1 < z := fun q _ z hz => by split <;> omega
        exact hif _ _ hc'
      · rintro r st3 ⟨rfl, h1, h2⟩
        exact wpS_pure ⟨rfl, h1, .inl h2⟩
    · rintro c st'' ⟨rfl, hI', hz⟩
      exact ⟨rfl, hI', by omega⟩
    · have := hI.ln.le
      left
      have e : (pendingOf st').toList.length = (pendingOf st').size := Array.length_toList
      omega
    · rintro c st'' ⟨rfl, hI', hz⟩
      refine wpS_pure (h _ hI'.good ?_)
      have hL := hI'.ln
      have e : (pendingOf st'').toList.length = (pendingOf st'').size := Array.length_toList
      generalize (pendingOf st'').toList = l at hL e
      match l, hL, e with
      | [], hL, _ => have : 0 = a₀.size := hL; omega
      | [(q1, q2, q3)], hL, _ =>
        obtain ⟨rfl, _, h3, h4⟩ := hL
        have h4' : 0 + q2 = a₀.size := h4
        rw [Nat.zero_add] at h4'
        rw [← h4']; exact h3
      | _ :: _ :: _, _, e => simp at e; omega
  run_tac sqEnd
end
end Mine
end

section
open PySem PySem.W PyProof.Rows PyProof.Rows.LCg PySem.Calls
set_option maxRecDepth 100000
namespace Mine
section
variable {prog : Program} {w : World} {A : Around} {E : Value → Shared → Prop} {s : Shared}
theorem sortB_tree {a : Addr} {vs : List Value} {ns : List Int} {n : Nat} {P : Fin → Shared → Prop} (ho : s.heap.get? a = some (seqObj "list" vs.toArray n))
    (hI : IntsAre vs ns) (h64 : vs.length ≤ 1000)
    (h : ∀ (out : Array Value) (ns' : List Int), IntsAre out.toList ns' → ns'.Perm ns → ns'.Pairwise (· ≤ ·) → P (.done (.ret .none)) { s with heap := sortedHeap s.heap a vs out }) :
    wpAny (model prog w) A (Builtin.«list.sort» ⟨[.ref a], []⟩) P E s := by
  run_tac sqBegin
  rw [list_sort_plain]
  have ha : a < s.heap.objs.size := Heap.lt_size ho
  refine wpAny_bind (listItems_at ho rfl ?_)
  refine wpAny_bind (listUpdate_at ho rfl ?_)
  obtain ⟨e1, ho1⟩ : ∃ e1, (s.heap.update a (Obj.mapSeq fun _ => #[])).get? a = some (seqObj "list" #[] e1) := ⟨_, get?_update_seq ho (fun _ => #[])⟩
  refine wpAny_bind (seqEpoch_at ho1 rfl ?_)
  refine wpAny_bind (wpAny_newTuple ?_)
  refine wpAny_bind (wpAny_newList ?_)
  refine wpAny_holding ?_
  have ho6 : (((s.heap.update a (Obj.mapSeq fun _ => #[])).push (seqObj "tuple" vs.toArray 0)).push (seqObj "list" #[] 0)).get? a = some (seqObj "list" #[] e1) := by
    rw [Heap.get?_push_ne _ _ _ (by rw [size_push', Heap.size_update]; exact Nat.ne_of_lt (Nat.lt_succ_of_lt ha)), Heap.get?_push_ne _ _ _ (by rw [Heap.size_update]; exact Nat.ne_of_lt ha)]
    exact ho1
  show wpAny (model prog w) A _ P E { s with heap := ((s.heap.update a (Obj.mapSeq fun _ => #[])).push (seqObj "tuple" vs.toArray 0)).push (seqObj "list" #[] 0) }
  dsimp only
  have hsz : vs.toArray.size = vs.length := by simp

  have fin : ∀ st' : SortSt, (arrOf st').Perm (pairsOf vs) → SortedTo (arrOf st') (pairsOf vs).size →
      P (.done (.ret .none)) { s with heap := sortedHeap s.heap a vs ((arrOf st').map (·.2)) } := by
    intro st' hp hs
    obtain ⟨ns', h1, h2, h3⟩ := sorted_out hI hp hs
    exact h _ ns' h1 h2 h3
  by_cases h2 : vs.toArray.size < 2
  · rw [if_pos h2, if_pos h2]
    refine wpAny_bind (wpAny_pure ?_)
    rw [StateT.run_pure]
    refine wpAny_bind (wpAny_pure ?_)
    dsimp only
    refine wpAny_bind (seqEpoch_at ho6 rfl ?_)
    refine wpAny_bind (listUpdate_at ho6 rfl ?_ (hsz2 := by rw [Array.size_map]; show (pairsOf vs).size ≤ _; rw [pairsOf_size, sizeLine_eq]; omega))
    simp only [bne_self_eq_false, Bool.false_eq_true, if_false]
    refine wpAny_pure (fin (SortSt.mk' general' (vs.toArray.zip vs.toArray) #[] 7 none) (Array.Perm.refl _) ?_)
    intro i j hij hj
    have : i = j := by rw [pairsOf_size] at hj; omega
    subst this; exact Int.le_refl _
  · rw [if_neg h2, if_neg h2]
    obtain ⟨v₁, v₂, rest, rfl⟩ : ∃ v₁ v₂ rest, vs = v₁ :: v₂ :: rest := by
      match vs, hsz, h2 with
      | [], _, h2 => simp at h2
      | [_], _, h2 => simp at h2
      | v₁ :: v₂ :: rest, _, _ => exact ⟨v₁, v₂, rest, rfl⟩
    rw [keyKind_ints hI]
    refine wpAny_bind (wpAny_pure ?_)
    refine wpAny_bind (wpAny_mono (wpS_sortRunsB (a₀ := pairsOf (v₁ :: v₂ :: rest)) (st := SortSt.mk' oneType' ((v₁ :: v₂ :: rest).toArray.zip (v₁ :: v₂ :: rest).toArray) #[] 7 none)
      (Q := fun _ st' => (arrOf st').Perm (pairsOf (v₁ :: v₂ :: rest)) ∧ failedOf st' = none ∧ SortedTo (arrOf st') (pairsOf (v₁ :: v₂ :: rest)).size)
      hI.intKeys ⟨Array.Perm.refl _, rfl, rfl⟩ rfl (by rw [pairsOf_size]; simp) fun st' a1 a3 => ⟨a1.perm, a1.failed, fun i j hij hj => a3 i j (Nat.zero_le _) hij (by omega)⟩) ?_ fun _ _ e => e)
    rintro ⟨⟨⟩, st'⟩ s' ⟨rfl, hp, hf, hs⟩
    dsimp only
    refine wpAny_bind (seqEpoch_at ho6 rfl ?_)
    refine wpAny_bind (listUpdate_at ho6 rfl ?_ (hsz2 := by refine Nat.le_trans (Nat.le_of_eq ((Array.size_map ..).trans (hp.size_eq.trans (pairsOf_size _)))) ?_; rw [sizeLine_eq]; omega))
    rw [hf]
    simp only [bne_self_eq_false, Bool.false_eq_true, if_false]
    exact wpAny_pure (fin st' hp hs)
  run_tac sqEnd

theorem sortB_ints {l : Addr} {vs : List Value} {ns : List Int} {Q : Value → Shared → Prop} (hl : s.heap.IsList l vs.toArray) (hI : IntsAre vs ns) (h64 : vs.length ≤ 1000)
    (h : ∀ (out : Array Value) (ns' : List Int), IntsAre out.toList ns' → ns'.Perm ns → ns'.Pairwise (· ≤ ·) → Q (.ref (s.heap.objs.size + 1)) { s with heap := sortedAll s.heap vs out }) :
    wpAny (model prog w) A (call (.builtin "sorted") [.ref l]) Q E s := by
  run_tac sqBegin
  refine Calls.call_function_entry kind_sorted plain_sorted entry_sorted (args_sorted1 _) ?_
  unfold Builtin.«sorted»
  refine wpAny_bind (m := checkCount "sorted" 1 1 _) (wpAny_pure ?_)
  refine wpAny_bind (collect_list hl ?_)
  refine wpAny_bind (wpAny_newList ?_)
  have hsz : ((s.heap.push (seqObj "list" #[] 0)).update s.heap.objs.size (Obj.mapSeq (· ++ vs.toArray))).objs.size = s.heap.objs.size + 1 := by
    rw [Heap.size_update, size_push']
  have hoL : (((s.heap.push (seqObj "list" #[] 0)).update s.heap.objs.size (Obj.mapSeq (· ++ vs.toArray))).push (seqObj "list" vs.toArray 0)).get? (s.heap.objs.size + 1) = some (seqObj "list" vs.toArray 0) := by
    rw [← hsz]; exact Heap.get?_push_size _ rfl
  show wpAny _ _ _ _ _ { s with heap := ((s.heap.push (seqObj "list" #[] 0)).update s.heap.objs.size (Obj.mapSeq (· ++ vs.toArray))).push (seqObj "list" vs.toArray 0) }
  rw [hsz]
  refine wpAny_bind (wpAny_holding (wpAny_call_entry slot_list_sort ⟨_, hoL, rfl⟩ entry_list_sort (sortB_tree hoL hI h64 fun out ns' a1 a2 a3 => ⟨_, rfl, ?_⟩) (args_list_sort _)))
  exact wpAny_pure ⟨_, rfl, h out ns' a1 a2 a3⟩
  run_tac sqEnd
end
end Mine
end

section
open PySem PySem.W PyProof.Rows PyProof.Rows.LCg PySem.Calls
set_option maxRecDepth 100000
namespace Mine
section
variable {prog : Program} {w : World} {A : Around} {E : Value → Shared → Prop} {s : Shared} {h₀ : Heap} {L l : Addr} {m : PySem.Str → Option Value} {news : List (Addr × Obj)} {vs : List Value} {ns : List Int} {Q : Value → Shared → Prop}
theorem tim_sorted (F : Fr h₀ L s.heap m) (N : News h₀ L s.heap news) (hl : s.heap.IsList l vs.toArray) (hi : IntsAre vs ns) (hlen : ns.length ≤ 1000)
    (h : ∀ D vs' ns' c h', Fr h₀ L h' m → News h₀ L h' ((D, W.listOf (List.toArray vs') c) :: news) → (∀ q ∈ news, q.1 < D) → IntsAre vs' ns' → ns'.Perm ns → ns'.Pairwise (· ≤ ·) → Q (.ref D) { s with heap := h' }) :
    wpAny (model prog w) A (call (.builtin "sorted") [.ref l]) Q E s := by
  have hlv : vs.length ≤ 1000 := by exact Nat.le_trans (Nat.le_of_eq (by have := congrArg List.length hi.nums; simpa using this)) hlen
  refine sortB_ints hl hi hlv fun out ns' a1 a2 a3 => ?_
  obtain ⟨e, he⟩ := sortedAll_at s.heap vs out
  refine h _ out.toList ns' e _ (F.kept fun _ _ => sortedAll_old) (N.kept_cons F (fun _ _ => sortedAll_old) (Nat.le_succ _) he) (fun q hq => ?_) a1 a2 a3
  exact Nat.lt_succ_of_lt (Heap.lt_size (N q hq).1)
end
end Mine
end

section
open PySem PySem.W PyProof.Rows PyProof.Rows.LCg PySem.Calls
set_option maxRecDepth 100000
namespace Mine
section
variable {prog : Program} {w : World} {A : Around} {E : Value → Shared → Prop} {s : Shared}
theorem sum_keep {l : Addr} {vs : List Value} {ns : List Int} {Q : Value → Shared → Prop} (hh : A.handled = none) (hl : s.heap.IsList l vs.toArray) (hi : IntsAre vs ns)
    (h : ∀ h' tk t', (∀ b o, s.heap.get? b = some o → h'.get? b = some o) → Q (.int ns.sum t') { s with heap := h', toks := tk }) :
    wpAny (model prog w) A (call (.builtin "sum") [.ref l]) Q E s := by
  obtain ⟨xs, hx⟩ := hi.allInts.items
  have hn : numsOf vs.toArray.toList = ns := by rw [show vs.toArray.toList = vs from rfl, hi.numsOf]
  rw [hx] at hl hn
  rw [nums_intItems] at hn
  refine sum_intListG hh hl fun h' tk t' hk => ?_
  have := h h' tk t' hk
  rw [preSum_eq, List.take_of_length_le (by simp), hn]
  exact this
theorem slice_keep {value slice : PySem.Expr} {l : Addr} {items : Array Value} {vl vu vk : Value} {lo hi st : Option Int} {ops : List Value} {Q : Value → Shared → Prop} {H : Heap} {G : Array GenState} {Dr : Drawn} {tk : Nat} {os : OsState}
    (hl : H.IsList l items) (pl : IsPart vl lo) (pu : IsPart vu hi) (pk : IsPart vk st) (h0 : st ≠ some 0) (hsz : items.size ≤ sizeLine)
    (h : ∀ D h', h'.IsList D (slicePick items lo hi st) → (∀ b o, H.get? b = some o → h'.get? b = some o) → Q (.ref D) ⟨h', G, Dr, tk, os⟩)
    (hs : subscripted slice false (.ref l) (.ref H.objs.size) = operate ops (getItem (.ref l) (.ref H.objs.size)))
    (ht : ∀ r, letTemporaryGo value (.ref l) r = pure ()) :
    wpAny (model prog w) A (subscriptTail value slice (.ref l) (.ref H.objs.size)) Q E ⟨H.push { cls := .type "slice", data := .fields #[vl, vu, vk] }, G, Dr, tk, os⟩ := by
  refine subscriptTail_ops (Heap.IsList.typeIs (s := ⟨H.push { cls := .type "slice", data := .fields #[vl, vu, vk] }, G, Dr, tk, os⟩) (hl.push _)) list_getitem_lookup
    (wpAny_getItem_list_slice (hl.push _) (Heap.IsSliceOf.new ..) pl pu pk h0 ?_ hsz) hs ht
  exact h _ _ ⟨_, Heap.get?_push_size _ rfl, rfl, _, rfl⟩ fun b o e => Heap.get?_push_of_some _ (Heap.get?_push_of_some _ e)
end
noncomputable def commonZ (falling : List Int) : List Int := (List.range 15).map fun i => (falling.take (i + 1)).sum
section
variable {w : World} {mean : ExcName → Option Value} {mg mb : PySem.Str → Option Value} {A₀ : Around} {base h₀ : Heap} {outer : List Env} {L : Addr} {m : PySem.Str → Option Value} {news : List (Addr × Obj)} {s : Shared} {Q E : Value → Shared → Prop}
variable {dp un : Nat} {gd : Option (List Code)} {cn : PySem.Str} {cs : Scope} {a : Addr} {ccd : Value} {cl : List (PySem.Str × Addr)}
local macro_rules | `(tactic| k_all) => `(tactic| exact all_ne_of_lt (by assumption) (by omega))
set_option maxHeartbeats 4000000 in
theorem common_call (B : Below A₀ base outer h₀) (F : Fr h₀ L s.heap m) (X : (hd.heap_39 w.params).In h₀) (N : News h₀ L s.heap news) (T : Top topProg LS mean mg mb h₀) (hk : cs.kind = .function) {l : Addr} {k : Nat} {vs : List Value} {ns : List Int} (hm : (l, W.listOf vs.toArray k) ∈ news) (hI : IntsAre vs ns) (hlen : ns.length ≤ 400)
  (hdp : dp + 4 < recursionLimit) (hu : un + 64 < cLine)
  (hret : ∀ D xs k' h' tk' falling, IntsAre xs (commonZ falling) → falling.Perm ns → falling.Pairwise (fun a b => b ≤ a) → (∀ p ∈ news, p.1 ≠ D) → Fr h₀ L h' m → News h₀ L h' ((D, W.listOf (List.toArray xs) k') :: news) → Q (.ref D) { s with heap := h', toks := tk' }) :
  wpAny (model PySem.Challenge.rw_xi0008_01.row.prog w) (ktrTop dp un gd cn cs L a ccd cl outer) (call (.ref 117) [.ref l]) Q E s := by
  run_tac sqBegin
  revert X; k_fill; intro X
  refine wpAny_call ?_
  k_dflt (refine' code_defC ?k1 ?k2 ?k3 ?k4 ?k5 ?kA ?kF ?kK ?k6 ?k7 ?k8 ?k9 ?kB ?kD ?_ ?c2 ?c3 ?c4; (case kA => exact rfl); (case kF => exact rfl); (case kK => assumption); (case k1 => k_asm); (case k2 => k_asm); (case k3 => k_asm); (case k4 => k_asm); (case k5 => k_asm); (case k6 => k_is); (case k7 => k_is); (case k8 => ktr_room); (case k9 => exact BindsTo.of_eq rfl); (case kB => exact rfl); (case kD => decide +kernel); (case c2 => exact rfl); (case c3 => exact rfl); (case c4 => exact rfl); k_whole; intro g' L' h' tk' cells' FG' F' N' Y' B' X' T' l1; (try k_lt l1); k_cells Y'; (try simp only [List.cons_append, List.nil_append] at N'); (try dsimp only); (try k_lift B'); (try k_fold))
  repeat' (first | (k_unfold; (try dsimp only)) | (k_end; wrow_close) | ((fail_if_success (with_reducible show wpAny _ _ (call (Value.builtin "sorted") _) _ _ _)); walk1) | ((fail_if_success (with_reducible show wpAny _ _ (call (Value.builtin "sorted") _) _ _ _)); dsimp only; walk1) | (leave1; walk_say "STEP leave1"; try dsimp only) | fail "no step")
  rename (Fr _ _ _ _) => F1
  rename (News _ _ _ _) => N1
  refine tim_sorted F1 N1 ⟨_, (N1 _ (List.mem_cons_of_mem _ hm)).1, rfl, _, rfl⟩ (by assumption) (by omega) ?_
  intro D vs' ns' c h1 F2 N2 hl2 hi2 hp2 ho2
  (try dsimp only)
  k_lt hl2
  have hlen2 : ns'.length = ns.length := hp2.length_eq
  repeat' (first | (k_unfold; (try dsimp only)) | (k_end; wrow_close) | ((fail_if_success (with_reducible show wpAny _ _ (eval (Expr.ListComp _ _ _ _) _) _ _ _)); walk1) | ((fail_if_success (with_reducible show wpAny _ _ (eval (Expr.ListComp _ _ _ _) _) _ _ _)); dsimp only; walk1) | (leave1; walk_say "STEP leave1"; try dsimp only) | fail "no step")
  (try dsimp only)
  rename (Fr _ _ _ _) => F3
  rename (News _ _ _ _) => N3
  rename (Obj.data _ = Data.cell (some _)) => hcell
  rename (IntsAre _ ns'.reverse) => hrev
  refine comp_eval F3 (by with_unfolding_all rfl) (by decide) rfl (by decide) ?_
  repeat' (first | (k_unfold; (try dsimp only)) | (k_end; wrow_close) | ((fail_if_success (with_reducible show wpAny _ _ (pyIter _) _ _ _)); walk1) | ((fail_if_success (with_reducible show wpAny _ _ (pyIter _) _ _ _)); dsimp only; walk1) | (leave1; walk_say "STEP leave1"; try dsimp only) | fail "no step")
  rename (IsRange _ _ _ _ _ _ _ _) => hr
  rename (News _ _ _ _) => N4
  rename (Fr _ _ _ _) => F4
  refine csrc_range (n := 15) (Acc := fun i ys => IntsAre ys ((commonZ ns'.reverse).take i)) rfl F4 N4 hr (by decide) (by decide) (by decide) rfl rfl (by rw [List.take_zero]; exact .nil) ?_ ?_
  · intro i t ys C m₃ h tk E' hi hAcc hmc hn F5 N5
    refine cturn_nil ?_
    repeat' (first | (k_unfold; (try dsimp only)) | (k_end; wrow_close) | ((fail_if_success (with_reducible show wpAny _ _ (eval (Expr.Name _ _) _) _ _ _)); walk1) | ((fail_if_success (with_reducible show wpAny _ _ (eval (Expr.Name _ _) _) _ _ _)); dsimp only; walk1) | (leave1; walk_say "STEP leave1"; try dsimp only) | fail "no step")
    refine comp_builtin F5 (by assumption) (by assumption) (by k_is) (by boot_fast) (by decide) ?_ rfl rfl rfl rfl
    repeat' (first | (k_unfold; (try dsimp only)) | (k_end; wrow_close) | ((fail_if_success (with_reducible show wpAny _ _ (eval (Expr.Name _ _) _) _ _ _)); (fail_if_success (with_reducible show wpAny _ _ (subscriptTail _ _ _ _) _ _ _)); walk1) | ((fail_if_success (with_reducible show wpAny _ _ (eval (Expr.Name _ _) _) _ _ _)); (fail_if_success (with_reducible show wpAny _ _ (subscriptTail _ _ _ _) _ _ _)); dsimp only; walk1) | (leave1; walk_say "STEP leave1"; try dsimp only) | fail "no step")
    (try dsimp only)
    refine lcf_cell N5 rfl (by k_mem) hcell ?_ rfl rfl
    repeat' (first | (k_unfold; (try dsimp only)) | (k_end; wrow_close) | ((fail_if_success (with_reducible show wpAny _ _ (eval (Expr.Name _ _) _) _ _ _)); (fail_if_success (with_reducible show wpAny _ _ (subscriptTail _ _ _ _) _ _ _)); walk1) | ((fail_if_success (with_reducible show wpAny _ _ (eval (Expr.Name _ _) _) _ _ _)); (fail_if_success (with_reducible show wpAny _ _ (subscriptTail _ _ _ _) _ _ _)); dsimp only; walk1) | (leave1; walk_say "STEP leave1"; try dsimp only) | fail "no step")
    refine comp_name rfl rfl hn hmc ?_
    repeat' (first | (k_unfold; (try dsimp only)) | (k_end; wrow_close) | ((fail_if_success (with_reducible show wpAny _ _ (eval (Expr.Name _ _) _) _ _ _)); (fail_if_success (with_reducible show wpAny _ _ (subscriptTail _ _ _ _) _ _ _)); walk1) | ((fail_if_success (with_reducible show wpAny _ _ (eval (Expr.Name _ _) _) _ _ _)); (fail_if_success (with_reducible show wpAny _ _ (subscriptTail _ _ _ _) _ _ _)); dsimp only; walk1) | (leave1; walk_say "STEP leave1"; try dsimp only) | fail "no step")
    (try dsimp only)
    k_dflt (refine' slice_keep (items := ?its) ?hl .none (.int _ _) .none (by decide) ?hz ?_ ?hs ?ht)
    case hl => exact News.isList N5 (by k_mem)
    case hz => rw [List.size_toArray, hrev.length, List.length_reverse, sizeLine_eq]; omega
    case hs => with_unfolding_all rfl
    case ht => intro _; with_unfolding_all rfl
    intro D2 h2 hl3 hk3
    repeat' (first | (k_unfold; (try dsimp only)) | (k_end; wrow_close) | ((fail_if_success (with_reducible show wpAny _ _ (call (Value.builtin "sum") _) _ _ _)); walk1) | ((fail_if_success (with_reducible show wpAny _ _ (call (Value.builtin "sum") _) _ _ _)); dsimp only; walk1) | (leave1; walk_say "STEP leave1"; try dsimp only) | fail "no step")
    have hsl := kmk_upto hrev (show (0 : Int) ≤ 1 + (i : Int) by omega)
    refine sum_keep rfl (by rw [Array.toArray_toList]; exact hl3) hsl (fun h4 tk4 t4 hk4 => ?_)
    refine ⟨⟨_, _, rfl, fun b o e => hk4 b o (hk3 b o e)⟩, ints_take_snoc hAcc ?_⟩
    rw [commonZ, List.getElem?_map, List.getElem?_range hi]
    have e : ((1 : Int) + (i : Int)).toNat = i + 1 := by omega
    rw [e]
    rfl
  · rintro s₂ ⟨hh, rfl⟩ ys hys
    intro D5 h5 tk5 F5 N5 off5
    (try dsimp only)
    repeat' (first | (k_unfold; (try dsimp only)) | (k_end; wrow_close) | (walk1) | (dsimp only; walk1) | (leave1; walk_say "STEP leave1"; try dsimp only) | fail "no step")
    rename (News h₀ L _ _) => NF
    rw [List.take_of_length_le (by simp [commonZ])] at hys
    have NF' : News h₀ L h5 ((D5, W.listOf (List.toArray ys) ys.length) :: news) := fun p hp => NF p (by
      rcases List.mem_cons.mp hp with rfl | hp
      · exact List.mem_cons_self
      · simp [hp])
    exact hret D5 ys _ _ _ ns'.reverse hys ((List.reverse_perm _).trans hp2) (List.pairwise_reverse.mpr ho2) (fun p hp => off1_mem off5 p (by simp [hp])) (by assumption) NF'
  run_tac sqEnd
end
end Mine
end

section
open PySem PySem.W PyProof.Rows PyProof.Rows.LCg PySem.Calls
set_option maxRecDepth 100000
namespace Mine
/-- the number of the figures ds to the base B, the lowest first -/
noncomputable def ofD (B : Int) : List Int → Int
  | [] => 0
  | d :: r => d + B * ofD B r
noncomputable def Figs (B : Int) (ds : List Int) : Prop := ∀ d ∈ ds, 0 ≤ d ∧ d < B
theorem Figs.tail {B d : Int} {r : List Int} (h : Figs B (d :: r)) : Figs B r := fun x hx => h x (List.mem_cons_of_mem _ hx)
theorem Figs.head {B d : Int} {r : List Int} (h : Figs B (d :: r)) : 0 ≤ d ∧ d < B := h d List.mem_cons_self
theorem Figs.drop {B : Int} {ds : List Int} (h : Figs B ds) (i : Nat) : Figs B (ds.drop i) := fun x hx => h x (List.mem_of_mem_drop hx)
theorem Figs.take {B : Int} {ds : List Int} (h : Figs B ds) (i : Nat) : Figs B (ds.take i) := fun x hx => h x (List.mem_of_mem_take hx)
theorem ofD_nonneg {B : Int} (hB : 0 ≤ B) : ∀ {ds : List Int}, Figs B ds → 0 ≤ ofD B ds
  | [], _ => Int.le_refl _
  | d :: r, h => by
    have := ofD_nonneg hB h.tail
    have := Int.mul_nonneg hB this
    have := h.head.1
    simp only [ofD]; omega
theorem ofD_lt {B : Int} (hB : 0 < B) : ∀ {ds : List Int}, Figs B ds → ofD B ds < B ^ ds.length
  | [], _ => by simp [ofD]
  | d :: r, h => by
    have h1 := ofD_lt hB h.tail
    have h2 : B * (ofD B r + 1) ≤ B * B ^ r.length := Int.mul_le_mul_of_nonneg_left (by omega) (by omega)
    have h3 := h.head.2
    simp only [ofD, List.length_cons, Int.pow_succ]
    rw [Int.mul_comm (B ^ r.length) B]
    rw [Int.mul_add, Int.mul_one] at h2
    omega
theorem ofD_fdiv {B d : Int} {r : List Int} (hB : 0 < B) (h0 : 0 ≤ d) (h1 : d < B) : (ofD B (d :: r)).fdiv B = ofD B r := by
  simp only [ofD]
  rw [Int.fdiv_eq_ediv_of_nonneg _ (by omega), Int.add_mul_ediv_left _ _ (by omega), Int.ediv_eq_zero_of_lt h0 h1, Int.zero_add]
theorem ofD_fmod {B d : Int} {r : List Int} (hB : 0 < B) (h0 : 0 ≤ d) (h1 : d < B) : (ofD B (d :: r)).fmod B = d := by
  simp only [ofD]
  rw [Int.fmod_eq_emod_of_nonneg _ (by omega), Int.add_mul_emod_self_left, Int.emod_eq_of_lt h0 h1]
/-- the highest figure is not nought -/
noncomputable def Top1 (ds : List Int) : Prop := ∀ d ∈ ds.getLast?, d ≠ 0
theorem Top1.tail {d : Int} {r : List Int} (h : Top1 (d :: r)) : Top1 r := by
  cases r with
  | nil => intro x hx; simp at hx
  | cons e r => intro x hx; exact h x (by simpa using hx)
theorem ofD_pos {B : Int} (hB : 0 < B) : ∀ {ds : List Int}, Figs B ds → Top1 ds → ds ≠ [] → 0 < ofD B ds
  | [], _, _, h => absurd rfl h
  | [d], h, ht, _ => by
    have h1 := h.head.1
    have h2 := ht d (by simp)
    simp only [ofD]; omega
  | d :: e :: r, h, ht, _ => by
    have h1 := ofD_pos hB h.tail ht.tail (by simp)
    have h2 := h.head.1
    have h3 := Int.mul_pos hB h1
    rw [ofD]; omega
theorem drop_cons {ds : List Int} {i : Nat} {d : Int} {r : List Int} (h : ds.drop i = d :: r) : ds[i]? = some d ∧ ds.drop (i + 1) = r := by
  constructor
  · have := congrArg (·[0]?) h
    simpa using this
  · rw [← List.tail_drop, h]; rfl
theorem top1_drop {ds : List Int} (h : Top1 ds) : ∀ i, Top1 (ds.drop i)
  | 0 => by simpa using h
  | i + 1 => by
    rw [← List.tail_drop]
    cases e : ds.drop i with
    | nil => intro x hx; simp at hx
    | cons d r => exact Top1.tail (e ▸ top1_drop h i)
/-- what Int2AP writes -/
noncomputable def letters (ds : List Int) : List Int := (ds.map (65 + ·)).reverse
theorem letters_succ {ds : List Int} {i : Nat} {d : Int} (h : ds[i]? = some d) : letters (ds.take (i + 1)) = (65 + d) :: letters (ds.take i) := by
  rw [letters, List.take_add_one, h]; simp [letters]
theorem ap_item : ∀ d : Int, 0 ≤ d → d < 16 → (([65, 66, 67, 68, 69, 70, 71, 72, 73, 74, 75, 76, 77, 78, 79, 80] : List Int).drop d.toNat).take 1 = [65 + d] := by
  run_tac sqBegin
  intro d h0 h1
  have : d = 0 ∨ d = 1 ∨ d = 2 ∨ d = 3 ∨ d = 4 ∨ d = 5 ∨ d = 6 ∨ d = 7 ∨ d = 8 ∨ d = 9 ∨ d = 10 ∨ d = 11 ∨ d = 12 ∨ d = 13 ∨ d = 14 ∨ d = 15 := by
    obtain ⟨n, rfl⟩ := Int.eq_ofNat_of_zero_le h0
    exact (by decide : ∀ n : Nat, n < 16 → ((n : Int) = 0 ∨ (n : Int) = 1 ∨ (n : Int) = 2 ∨ (n : Int) = 3 ∨ (n : Int) = 4 ∨ (n : Int) = 5 ∨ (n : Int) = 6 ∨ (n : Int) = 7 ∨ (n : Int) = 8 ∨ (n : Int) = 9 ∨ (n : Int) = 10 ∨ (n : Int) = 11 ∨ (n : Int) = 12 ∨ (n : Int) = 13 ∨ (n : Int) = 14 ∨ (n : Int) = 15)) n (by omega)
  rcases this with rfl | rfl | rfl | rfl | rfl | rfl | rfl | rfl | rfl | rfl | rfl | rfl | rfl | rfl | rfl | rfl <;> rfl
  run_tac sqEnd
end Mine
end

section
open PySem PySem.W PyProof.Rows PyProof.Rows.LCg PySem.Calls
set_option maxRecDepth 100000
namespace Mine
noncomputable def apList : List Int := [65, 66, 67, 68, 69, 70, 71, 72, 73, 74, 75, 76, 77, 78, 79, 80]
noncomputable def ApJ (news : List (Addr × Obj)) (ds : List Int) (n : Nat) (m₁ : PySem.Str → Option Value) (news₁ : List (Addr × Obj)) : Prop :=
  ∃ (i : Nat) (m0 : PySem.Str → Option Value) (tn tA tv : Tok) (bA b : Array UInt8), n = ds.length - i ∧ i ≤ ds.length ∧
    m₁ = (fun y => if y = PySem.Str.ofString "num" then some (.int (ofD 16 (ds.drop i)) tn) else if y = PySem.Str.ofString "AP" then some (.bytes bA tA) else if y = PySem.Str.ofString "val" then some (.bytes b tv) else m0 y) ∧
    news₁ = news ∧ KBw.bInts bA = apList ∧ KBw.bInts b = letters (ds.take i)
theorem apJ_turn {N M V A V' N' : Option Value} {m0 : PySem.Str → Option Value} :
    (fun y => if y = PySem.Str.ofString "val" then V else if y = PySem.Str.ofString "mod" then M else if y = PySem.Str.ofString "num" then N else
      if y = PySem.Str.ofString "num" then N' else if y = PySem.Str.ofString "AP" then A else if y = PySem.Str.ofString "val" then V' else m0 y) =
    fun y => if y = PySem.Str.ofString "num" then N else if y = PySem.Str.ofString "AP" then A else if y = PySem.Str.ofString "val" then V else (fun y => if y = PySem.Str.ofString "mod" then M else m0 y) y := by
  funext y
  by_cases h1 : y = PySem.Str.ofString "num"
  · subst h1; rfl
  · by_cases h2 : y = PySem.Str.ofString "AP"
    · subst h2; rfl
    · by_cases h3 : y = PySem.Str.ofString "val"
      · subst h3; rfl
      · simp only [if_neg h1, if_neg h2, if_neg h3]
theorem ap_pick : ∀ d : Int, 0 ≤ d → d < 16 → (apList.drop ((some d).elim 0 (clipAt apList.length))).take ((some (d + 1)).elim apList.length (clipAt apList.length) - (some d).elim 0 (clipAt apList.length)) = [65 + d] := by
  run_tac sqBegin
  intro d h0 h1
  have : d = 0 ∨ d = 1 ∨ d = 2 ∨ d = 3 ∨ d = 4 ∨ d = 5 ∨ d = 6 ∨ d = 7 ∨ d = 8 ∨ d = 9 ∨ d = 10 ∨ d = 11 ∨ d = 12 ∨ d = 13 ∨ d = 14 ∨ d = 15 := by
    obtain ⟨n, rfl⟩ := Int.eq_ofNat_of_zero_le h0
    exact (by decide : ∀ n : Nat, n < 16 → ((n : Int) = 0 ∨ (n : Int) = 1 ∨ (n : Int) = 2 ∨ (n : Int) = 3 ∨ (n : Int) = 4 ∨ (n : Int) = 5 ∨ (n : Int) = 6 ∨ (n : Int) = 7 ∨ (n : Int) = 8 ∨ (n : Int) = 9 ∨ (n : Int) = 10 ∨ (n : Int) = 11 ∨ (n : Int) = 12 ∨ (n : Int) = 13 ∨ (n : Int) = 14 ∨ (n : Int) = 15)) n (by omega)
  rcases this with rfl | rfl | rfl | rfl | rfl | rfl | rfl | rfl | rfl | rfl | rfl | rfl | rfl | rfl | rfl | rfl <;> decide
  run_tac sqEnd
section
variable {w : World} {mean : ExcName → Option Value} {mg mb : PySem.Str → Option Value} {A₀ : Around} {base h₀ : Heap} {outer : List Env} {L : Addr} {m : PySem.Str → Option Value} {news : List (Addr × Obj)} {s : Shared} {Q E : Value → Shared → Prop}
variable {dp un : Nat} {gd : Option (List Code)} {cn : PySem.Str} {cs : Scope} {a : Addr} {ccd : Value} {cl : List (PySem.Str × Addr)}
set_option maxHeartbeats 4000000 in
theorem ap_call (B : Below A₀ base outer h₀) (F : Fr h₀ L s.heap m) (X : (hd.heap_39 w.params).In h₀) (N : News h₀ L s.heap news) (T : Top topProg LS mean mg mb h₀) (hk : cs.kind = .function) {z : Int} {tz : Tok} {ds : List Int} (hz : (z.natAbs : Int) = ofD 16 ds) (hf : Figs 16 ds) (ht : Top1 ds) (hlen : ds.length ≤ 1000)
  (hdp : dp + 4 < recursionLimit) (hu : un + 64 < cLine)
  (hret : ∀ b t h' tk', KBw.bInts b = letters ds → Fr h₀ L h' m → News h₀ L h' news → Q (.bytes b t) { s with heap := h', toks := tk' }) :
  wpAny (model PySem.Challenge.rw_xi0008_01.row.prog w) (ktrTop dp un gd cn cs L a ccd cl outer) (call (.ref 21) [.int z tz]) Q E s := by
  run_tac sqBegin
  revert X; k_fill; intro X
  refine wpAny_call ?_
  k_dflt cell_enter
  repeat' (first | (k_unfold; (try dsimp only)) | (k_end; wrow_close) | ((fail_if_success (with_reducible show wpAny _ _ (exec (Stmt.While _ _ _ _) _) _ _ _)); walk1) | ((fail_if_success (with_reducible show wpAny _ _ (exec (Stmt.While _ _ _ _) _) _ _ _)); dsimp only; walk1) | (leave1; walk_say "STEP leave1"; try dsimp only) | fail "no step")
  rename (Fr _ _ _ _) => F1
  rename (News _ _ _ _) => N1
  have hza : (if z < 0 then -z else z) = ofD 16 ds := by rw [← hz]; split <;> omega
  rw [hza] at F1
  refine While_inv2 (ApJ news ds) F1 N1 (n₀ := ds.length) ⟨0, _, _, _, _, _, _, by omega, by omega, rfl, rfl, rfl, rfl⟩ ?_
  rintro n m₁ news₁ h tk F2 N2 ⟨i, m0, tn, tA, tv, bA, b, rfl, hi, rfl, rfl, hA, hb⟩
  cases hdr : ds.drop i with
  | nil =>
    repeat' (first | (k_unfold; (try dsimp only)) | (k_end; wrow_close) | ((fail_if_success (with_reducible show wpAny _ _ (subscriptTail _ _ _ _) _ _ _)); walk1) | ((fail_if_success (with_reducible show wpAny _ _ (subscriptTail _ _ _ _) _ _ _)); dsimp only; walk1) | (leave1; walk_say "STEP leave1"; try dsimp only) | fail "no step")
    all_goals first
      | (rename (ofD 16 _ = 0) => hzero
         rw [List.drop_eq_nil_iff] at hdr
         rw [List.take_of_length_le hdr] at hb
         exact hret _ _ _ _ hb (by assumption) (by assumption))
      | (rename (ofD 16 _ ≠ 0) => hne
         exact (hne (by rw [hdr]; rfl)).elim)
  | cons d r =>
    obtain ⟨hgd, hdr'⟩ := drop_cons hdr
    have hF := hf.drop i
    rw [hdr] at hF
    have hd01 := hF.head
    have hfm := ofD_fmod (B := 16) (r := r) (by decide) hd01.1 hd01.2
    have hfd := ofD_fdiv (B := 16) (r := r) (by decide) hd01.1 hd01.2
    have hpos := ofD_pos (B := 16) (by decide) hF (hdr ▸ top1_drop ht i) (by simp)
    rw [hdr] at F2
    repeat' (first | (k_unfold; (try dsimp only)) | (k_end; wrow_close) | ((fail_if_success (with_reducible show wpAny _ _ (subscriptTail _ _ _ _) _ _ _)); walk1) | ((fail_if_success (with_reducible show wpAny _ _ (subscriptTail _ _ _ _) _ _ _)); dsimp only; walk1) | (leave1; walk_say "STEP leave1"; try dsimp only) | fail "no step")
    all_goals first
      | (rename (ofD 16 _ = 0) => hzero
         omega)
      | skip
    rename (Fr _ _ _ _) => F3
    rename (News _ _ _ _) => N3
    simp only [hfm, hfd] at F3 ⊢
    (try dsimp only)
    refine KBc.slice_K (s := ⟨_, _, _, _, _⟩) F3 N3 hA (by constructor) (by constructor) (by decide) ?_
    intro h4 t4 k4 F4 N4 hp
    have hp' := hp.trans (ap_pick d hd01.1 hd01.2)
    repeat' (first | (k_unfold; (try dsimp only)) | (k_end; wrow_close) | ((fail_if_success (with_reducible show wpAny _ _ (binaryOp _ _ _) _ _ _)); walk1) | ((fail_if_success (with_reducible show wpAny _ _ (binaryOp _ _ _) _ _ _)); dsimp only; walk1) | (leave1; walk_say "STEP leave1"; try dsimp only) | fail "no step")
    refine KBa.add_K hp' hb (by simp [letters]; omega) ?_
    intro t5 k5 hs5
    repeat' (first | (k_unfold; (try dsimp only)) | (k_end; wrow_close) | (walk1) | (dsimp only; walk1) | (leave1; walk_say "STEP leave1"; try dsimp only) | fail "no step")
    rename (Fr _ _ _ _) => F6
    rename (News _ _ _ _) => N6
    subst hdr'
    have hib : i < ds.length := by
      rcases Nat.lt_or_ge i ds.length with h | h
      · exact h
      · rw [List.getElem?_eq_none h] at hgd; cases hgd
    refine ⟨_, _, _, news₁, ds.length - (i + 1), rfl, F6, (fun p hp => N6 p (by simp [hp])), by omega, i + 1, _, _, _, _, _, _, rfl, hib, apJ_turn, rfl, hA, ?_⟩
    rw [hs5, letters_succ hgd]
    rfl
  run_tac sqEnd
end
end Mine
end

section
open PySem PySem.W PyProof.Rows PyProof.Rows.LCg PySem.Calls
set_option maxRecDepth 100000
namespace Mine
section
variable {M : Model} {A : Around} {E : Value → Shared → Prop} {s : Shared} {h₀ : Heap} {L a c P : Addr} {m mg mb : PySem.Str → Option Value} {cn : PySem.Str} {cs : Scope} {ccd : Value} {cl : List (PySem.Str × Addr)} {own rest : List (Addr × Obj)}
  {p : Program} {loose : List PySem.Str} {mean : ExcName → Option Value} {name qual : PySem.Str} {params : Arguments} {body : List Stmt} {scope : Scope} {ps : Array Value} {pos : Pos} {firstLine : Nat} {clos : List (PySem.Str × Addr)}

/-- the table of a def's own codes: empty, or the one code that its first call made -/
noncomputable def TabOk (ps : Array Value) (rest : List (Addr × Obj)) (ln col : Nat) (qual : PySem.Str) : Prop :=
  ps = #[] ∨ ∃ c' oc vs t, ps = #[rawInt (ln : Int), rawInt (col : Int), .ref c'] ∧ (c', oc) ∈ rest ∧ oc.data = .fields vs ∧ vs[1]? = some (.str qual t)

theorem updF_mid {d : Addr} {o : Obj} {rest : List (Addr × Obj)} (h2 : ∀ p ∈ rest, p.1 ≠ d) : ∀ {own : List (Addr × Obj)}, (∀ p ∈ own, p.1 ≠ d) → UpdF d o (own ++ (d, o) :: rest) (fun o' => own ++ (d, o') :: rest)
  | [], _ => .head h2
  | q :: r, h => .tail (h q List.mem_cons_self) (updF_mid h2 fun p hp => h p (List.mem_cons_of_mem _ hp))

theorem nest_any {Q : Value → Shared → Prop} (F : Fr h₀ L s.heap m) (N : News h₀ L s.heap (own ++ (P, tabObj ps) :: rest)) (T : Top p loose mean mg mb h₀) (C : CodeHd h₀ c P) (hcd : ccd = .ref c)
    (hps : TabOk ps rest pos.line pos.col qual) (ho : ∀ q ∈ own, q.1 ≠ P) (hr : ∀ q ∈ rest, q.1 ≠ P) (hlt : ∀ q ∈ rest, ∀ r ∈ own, q.1 < r.1) (hcl : closureFor scope (envX cn cs L a ccd cl) = pure clos)
    (h : ∀ f c' oc vs t ctv doc h' tk, Fr h₀ L h' m →
      News h₀ L h' ((f, fnMade name qual params body scope clos doc ((mg "__name__").getD .none) c' ctv) :: (c', oc) :: (own ++ (P, tabObj #[rawInt pos.line, rawInt pos.col, .ref c']) :: rest)) →
      oc.data = .fields vs → vs[1]? = some (.str qual t) → (∀ q ∈ own, q.1 ≠ c') → c' ≠ P → c' < f → (∀ q ∈ own ++ (P, tabObj ps) :: rest, q.1 < f) → Q (.ref f) { s with heap := h', toks := tk }) :
    wpAny M A (makeFunction name qual params (.stmts body) scope (envX cn cs L a ccd cl) [] [] [] pos firstLine) Q E s := by
  run_tac sqBegin
  rcases hps with rfl | ⟨c', oc, vs, t, rfl, hm, hd, hv⟩
  · refine nest_K F N T C hcd (updF_mid hr ho) (by exact True.intro) rfl hcl ?_
    intro f c' oc vs t ctv doc h' tk F' N' d1 d2 l1 l2
    exact h f c' oc vs t ctv doc h' tk F' N' d1 d2 (fun q hq => Nat.ne_of_lt (l1 q (List.mem_append_left _ hq))) (Nat.ne_of_gt (l1 (P, tabObj #[]) (List.mem_append_right _ (.head _)))) l2 (fun q hq => Nat.lt_trans (l1 q hq) l2)
  · refine nestHit_K (c' := c') F N T C hcd (List.mem_append_right _ (.head _)) (by simp [TriplesOk, rawInt]) (by simp [codeAmong, rawInt]) hcl ?_
    intro f ctv doc h' tk F' N' l1
    refine h f c' oc vs t ctv doc h' tk F' (fun q hq => ?_) hd hv (fun q hq => Nat.ne_of_gt (hlt _ hm q hq)) (hr _ hm) (l1 (c', oc) (List.mem_append_right _ (.tail _ hm))) l1
    rcases List.mem_cons.mp hq with rfl | hq
    · exact N' _ (.head _)
    · rcases List.mem_cons.mp hq with rfl | hq
      · exact N' _ (.tail _ (List.mem_append_right _ (.tail _ hm)))
      · exact N' _ (.tail _ hq)
  run_tac sqEnd
end
theorem ofD_append (B : Int) : ∀ (x y : List Int), ofD B (x ++ y) = ofD B x + B ^ x.length * ofD B y
  | [], y => by simp [ofD]
  | d :: r, y => by
    simp only [List.cons_append, ofD, ofD_append B r y, List.length_cons, Int.pow_succ, Int.mul_add]
    rw [Int.mul_comm (B ^ r.length) B, Int.mul_assoc]
    omega
/-- the figures from lo up to lo + k -/
noncomputable def run (ds : List Int) (lo k : Nat) : List Int := (ds.drop lo).take k
theorem run_length {ds : List Int} {lo k : Nat} (h : lo + k ≤ ds.length) : (run ds lo k).length = k := by
  simp only [run, List.length_take, List.length_drop]; omega
theorem run_split {ds : List Int} (lo j k : Nat) : run ds lo (j + k) = run ds lo j ++ run ds (lo + j) k := by
  simp only [run, List.take_add, List.drop_drop]
theorem run_one {ds : List Int} {lo : Nat} {d : Int} (h : ds[lo]? = some d) : run ds lo 1 = [d] := by
  have hlt : lo < ds.length := by
    rcases Nat.lt_or_ge lo ds.length with h' | h'
    · exact h'
    · rw [List.getElem?_eq_none h'] at h; cases h
  rw [run, List.drop_eq_getElem_cons hlt]
  rw [List.getElem?_eq_getElem hlt] at h
  simp [Option.some.inj h]
theorem Figs.run {B : Int} {ds : List Int} (h : Figs B ds) (lo k : Nat) : Figs B (run ds lo k) := (h.drop lo).take k
theorem ofD_one (B d : Int) : ofD B [d] = d := by simp [ofD]
end Mine
end

section
open PySem PySem.W PyProof.Rows PyProof.Rows.LCg PySem.Calls
local macro_rules | `(tactic| k_all) => `(tactic| first | exact all_ne_of_lt (by assumption) (by first | omega | exact Nat.le_refl _ | exact Nat.le_add_right _ 1 | exact Nat.le_add_right _ 2 | exact Nat.le_add_right _ 3) | (refine List.forall_mem_cons.mpr ⟨?_, ?_⟩; focus k_ne; k_all))
local macro_rules | `(tactic| walk_at "eval Name") => `(tactic| (k_here; k_dflt (refine' nameX_F ?N ?c ?m ?d ?_ ?a ?b; (case a => rfl); (case b => rfl); (case N => k_asm); (case c => rfl); (case m => k_mem); (case d => with_reducible assumption))))
local macro_rules | `(tactic| walk_at "callWith ref") => `(tactic| (k_here; k_dflt (refine' callWith_F ?k1 ?_; (case k1 => exact FnAt.of (by k_asm) (by assumption)); k_whole)))
section
open PySem PySem.W PyProof.Rows PyProof.Rows.LCg PySem.Calls
set_option maxRecDepth 100000
namespace Mine
open Lean Elab Tactic Meta in
/-- keeps the named hypotheses alone -/
def keepOnly (ids : List Name) : TacticM Unit := withMainContext do
  let mut out : Array FVarId := #[]
  for d in ← getLCtx do
    unless d.isImplementationDetail || ids.contains d.userName do out := out.push d.fvarId
  let g ← (← getMainGoal).tryClearMany out
  replaceMainGoal [g]
theorem use_obj {P : Obj → Nat → Prop} {G : Prop} {h₀ h' : Heap} {L f : Addr} {fo : Obj} {news : List (Addr × Obj)} (N : News h₀ L h' news) (hm : (f, fo) ∈ news) (rec : ∀ k, (∀ j, j < k → P fo j) → P fo k) (use : (∀ k, P fo k) → G) : G :=
  use fun k => Nat.strongRecOn k rec
theorem news_sub {h₀ h : Heap} {L : Addr} {a b : List (Addr × Obj)} (N : News h₀ L h a) (hs : ∀ p ∈ b, p ∈ a) : News h₀ L h b := fun p hp => N p (hs p hp)
section
variable {w : World} {mean : ExcName → Option Value} {mg mb : PySem.Str → Option Value} {A₀ : Around} {base h₀ : Heap} {outer : List Env} {L : Addr} {m : PySem.Str → Option Value} {news : List (Addr × Obj)} {s : Shared} {Q E : Value → Shared → Prop}
variable {dp un : Nat} {gd : Option (List Code)} {cn : PySem.Str} {cs : Scope} {a : Addr} {ccd : Value} {cl : List (PySem.Str × Addr)}
theorem get_run {B : Int} {ds : List Int} {lo : Nat} (h : lo < ds.length) : ds.getD lo 0 = ofD B (run ds lo 1) := by
  have e : ds[lo]? = some ds[lo] := List.getElem?_eq_getElem h
  rw [run_one e, ofD_one]; simp [List.getD, e]
theorem ofD_bits {n : Int} {ds : List Int} (hn : 0 ≤ n) (hf : Figs (2 ^ n.toNat) ds) : Builtin.Int.intBits (ofD (2 ^ n.toNat) ds) ≤ n.toNat * ds.length := by
  have hp : (0 : Int) < 2 ^ n.toNat := Int.pow_pos (by decide)
  have h1 := ofD_lt hp hf
  have h0 := ofD_nonneg (Int.le_of_lt hp) hf
  refine intBits_le_iff.mpr ?_
  have h2 : ((ofD (2 ^ n.toNat) ds).natAbs : Int) < ((2 ^ (n.toNat * ds.length) : Nat) : Int) := by
    rw [Int.natAbs_of_nonneg h0]
    push_cast
    rw [Int.pow_mul]
    exact h1
  exact Int.ofNat_lt.mp h2
theorem shl_eq {n : Int} {h : Nat} (hn : 0 ≤ n) (a : Int) : a * 2 ^ (((h : Int)) * n).toNat = (2 ^ n.toNat) ^ h * a := by
  have e : (((h : Int)) * n).toNat = n.toNat * h := by
    have h1 : (n.toNat : Int) = n := Int.toNat_of_nonneg hn
    have h2 : ((h : Int)) * n = ((n.toNat * h : Nat) : Int) := by push_cast; rw [h1, Int.mul_comm]
    rw [h2, Int.toNat_natCast]
  rw [e, Int.pow_mul, Int.mul_comm]
theorem ofD_run_split {B : Int} {ds : List Int} {lo h k : Nat} (hk : h ≤ k) (hl : lo + k ≤ ds.length) : ofD B (run ds lo k) = B ^ h * ofD B (run ds (lo + h) (k - h)) + ofD B (run ds lo h) := by
  have e : k = h + (k - h) := by omega
  rw [show run ds lo k = run ds lo h ++ run ds (lo + h) (k - h) by rw [← run_split, ← e], ofD_append, run_length (by omega), Int.add_comm]
noncomputable def D2iInner (w : World) (mean : ExcName → Option Value) (mg mb : PySem.Str → Option Value) (f l dD dI dN c' : Addr) (k₀ : Nat) (vs : List Value) (ds : List Int) (n : Int) (tn : Tok) (qn : PySem.Str) (fo : Obj) (k : Nat) : Prop :=
  ∀ {A₀ : Around} {base h₀ : Heap} {outer : List Env} {L : Addr} {m : PySem.Str → Option Value} {news : List (Addr × Obj)} {s : Shared} {Q E : Value → Shared → Prop} {dp un : Nat} {gd : Option (List Code)} {cn : PySem.Str} {cs : Scope} {a : Addr} {ccd : Value} {cl : List (PySem.Str × Addr)}
    (B : Below A₀ base outer h₀) (F : Fr h₀ L s.heap m) (X : Frag.In ([] : Frag) h₀) (N : News h₀ L s.heap news) (T : Top topProg LS mean mg mb h₀) (hk : cs.kind = .function) (lo : Nat) (iL iR : Int) (tL tR : Tok) (oD oI oN oc : Obj) (vs' : Array Value) (t' : Tok) (hL : iL = (lo : Int)) (hR : iR = (lo : Int) + (k : Int)) (hlo : lo + k ≤ ds.length) (hk1 : 1 ≤ k) (m1 : (f, fo) ∈ news) (m2 : (l, W.listOf vs.toArray k₀) ∈ news) (m3 : (dD, oD) ∈ news) (m4 : (dI, oI) ∈ news) (m5 : (dN, oN) ∈ news) (m6 : (c', oc) ∈ news)
    (e3 : oD.data = .cell (some (.ref l))) (e4 : oI.data = .cell (some (.ref f))) (e5 : oN.data = .cell (some (.int n tn))) (e6 : oc.data = .fields vs') (e7 : vs'[1]? = some (.str qn t'))
    (hdp : dp + k + 4 < recursionLimit) (hu : un + 16 * k + 64 < cLine)
    (hret : ∀ t h' tk', Fr h₀ L h' m → News h₀ L h' news → Q (.int (ofD (2 ^ n.toNat) (run ds lo k)) t) { s with heap := h', toks := tk' }),
    wpAny (model PySem.Challenge.rw_xi0008_01.row.prog w) (ktrTop dp un gd cn cs L a ccd cl outer) (call (.ref f) [.int iL tL, .int iR tR]) Q E s
set_option maxHeartbeats 2000000 in
theorem d2i_call (B : Below A₀ base outer h₀) (F : Fr h₀ L s.heap m) (X : (hd.heap_39 w.params).In h₀) (N : News h₀ L s.heap news) (T : Top topProg LS mean mg mb h₀) (hk : cs.kind = .function) {l : Addr} {k : Nat} {vs : List Value} {ds : List Int} {n : Int} {tn : Tok} {ps : Array Value} {rest : List (Addr × Obj)} (hnews : news = (44, tabObj ps) :: rest) (hps : TabOk ps rest 56 4 (PySem.Str.ofString "_digits2int.<locals>.inner")) (hr : ∀ q ∈ rest, q.1 ≠ 44) (CH : CodeHd base 48 44)
  (hm : (l, W.listOf vs.toArray k) ∈ rest) (hI : IntsAre vs ds) (hlen : ds.length ≤ 100) (hn : 1 ≤ n) (hn2 : n ≤ 400) (hf : Figs (2 ^ n.toNat) ds)
  (hdp : dp + 200 < recursionLimit) (hu : un + 3000 < cLine)
  (hret : ∀ t h' tk' c' (oc : Obj) (vs' : Array Value) (t' : Tok), oc.data = .fields vs' → vs'[1]? = some (.str (PySem.Str.ofString "_digits2int.<locals>.inner") t') → Fr h₀ L h' m → News h₀ L h' ((c', oc) :: (44, tabObj #[rawInt 56, rawInt 4, .ref c']) :: rest) → Q (.int (ofD (2 ^ n.toNat) ds) t) { s with heap := h', toks := tk' }) :
  wpAny (model PySem.Challenge.rw_xi0008_01.row.prog w) (ktrTop dp un gd cn cs L a ccd cl outer) (call (.ref 49) [.ref l, .int n tn]) Q E s := by
  run_tac sqBegin
  revert X; k_fill; intro X
  subst hnews
  refine wpAny_call ?_
  k_dflt (refine' code_defC ?k1 ?k2 ?k3 ?k4 ?k5 ?kA ?kF ?kK ?k6 ?k7 ?k8 ?k9 ?kB ?kD ?_ ?c2 ?c3 ?c4; (case kA => exact rfl); (case kF => exact rfl); (case kK => assumption); (case k1 => k_asm); (case k2 => k_asm); (case k3 => k_asm); (case k4 => k_asm); (case k5 => k_asm); (case k6 => k_is); (case k7 => k_is); (case k8 => ktr_room); (case k9 => exact BindsTo.of_eq rfl); (case kB => exact rfl); (case kD => decide +kernel); (case c2 => exact rfl); (case c3 => exact rfl); (case c4 => exact rfl); k_whole; intro g' L' h' tk' cells' FG' F' N' Y' B' X' T' l1; (try k_lt l1); k_cells Y'; (try simp only [List.cons_append, List.nil_append] at N'); (try dsimp only); (try k_lift B'); (try k_fold))
  repeat' (first | (k_unfold; (try dsimp only)) | (k_end; wrow_close) | ((fail_if_success (with_reducible show wpAny _ _ (exec (Stmt.FunctionDef _ _ _ _ _ _ _ _ _ _) _) _ _ _)); walk1) | ((fail_if_success (with_reducible show wpAny _ _ (exec (Stmt.FunctionDef _ _ _ _ _ _ _ _ _ _) _) _ _ _)); dsimp only; walk1) | (leave1; walk_say "STEP leave1"; try dsimp only) | fail "no step")
  refine nestDef_K rfl rfl rfl ?_
  rename (Fr _ _ _ _) => F1
  rename (News _ _ _ _) => N1
  have hlt : ∀ q ∈ rest, q.1 < L' := ktn_ltOf l1.2
  have h44 : (44 : Addr) < L' := l1.1
  refine nest_any (own := [_, _, _]) F1 N1 T' (CodeHd.keeps CH B'.stays) rfl hps ?_ hr ?_ rfl ?_
  · intro q hq
    simp only [List.mem_cons, List.not_mem_nil, or_false] at hq
    rcases hq with rfl | rfl | rfl
    · exact Nat.ne_of_gt (Nat.lt_of_lt_of_le h44 (Nat.le_add_right _ 3))
    · exact Nat.ne_of_gt (Nat.lt_of_lt_of_le h44 (Nat.le_add_right _ 2))
    · exact Nat.ne_of_gt (Nat.lt_of_lt_of_le h44 (Nat.le_add_right _ 1))
  · intro q hq r hr'
    have := hlt q hq
    simp only [List.mem_cons, List.not_mem_nil, or_false] at hr'
    rcases hr' with rfl | rfl | rfl
    · exact Nat.lt_succ_of_lt (Nat.lt_succ_of_lt (Nat.lt_succ_of_lt (hlt q hq)))
    · exact Nat.lt_succ_of_lt (Nat.lt_succ_of_lt (hlt q hq))
    · exact Nat.lt_succ_of_lt (hlt q hq)
  intro f c' oc vs' t ctv doc h2 tk2 F2 N2 d1 d2 l2 l3 l4 l5
  generalize hqn : qualnameIn _ _ _ = qn at N2 d2
  (try dsimp only)
  simp only [List.cons_append, List.nil_append] at N2 l5
  k_lt l5
  have n1 := l2 _ (List.mem_cons_self)
  have n2 := l2 _ (List.mem_cons_of_mem _ List.mem_cons_self)
  have n3 := l2 _ (List.mem_cons_of_mem _ (List.mem_cons_of_mem _ List.mem_cons_self))
  clear l2
  (try dsimp only at n1 n2 n3)
  refine' storeX_C F2 N2 rfl ?U ?hd ?_
  case U =>
    refine UpdF.tail (Nat.ne_of_gt l5.1) (UpdF.tail n1.symm (UpdF.head ?_))
    refine List.forall_mem_cons.mpr ⟨?_, List.forall_mem_cons.mpr ⟨?_, List.forall_mem_cons.mpr ⟨?_, ?_⟩⟩⟩
    · exact Nat.ne_of_lt (Nat.lt_succ_self _)
    · exact Nat.ne_of_lt (Nat.lt_succ_of_lt (Nat.lt_succ_self _))
    · exact Nat.ne_of_lt (Nat.lt_of_lt_of_le h44 (Nat.le_add_right _ 3))
    · exact all_ne_of_lt hlt (Nat.le_add_right _ 3)
  case hd => assumption
  intro h3 o3 F3 N3 d3
  (try dsimp only)
  repeat' (first | (k_unfold; (try dsimp only)) | (k_end; wrow_close) | ((fail_if_success (with_reducible show wpAny _ _ (call _ _) _ _ _)); walk1) | ((fail_if_success (with_reducible show wpAny _ _ (call _ _) _ _ _)); dsimp only; walk1) | (leave1; walk_say "STEP leave1"; try dsimp only) | fail "no step")
  have hvl : vs.length = ds.length := hI.length
  refine kgr_truthy (n := k) (vs := vs) N3 (by k_mem) rfl rfl (by omega) ?_
  (try dsimp only)
  refine use_obj (f := f) (P := D2iInner w mean mg mb f l (L' + 1) (L' + 1 + 1 + 1) (L' + 1 + 1) c' k vs ds n tn qn) N3 (by k_mem) ?rec ?use
  case rec =>
    run_tac keepOnly [`hI, `hlen, `hn, `hn2, `hf, `hvl]
    intro kk IH A₀ base h₀ outer L m news s Q E dp un gd cn cs a ccd cl B F X N T hk lo iL iR tL tR oD oI oN oc vs' t' hL hR hlo hk1 m1 m2 m3 m4 m5 m6 e3 e4 e5 e6 e7 hdp hu hret
    refine wpAny_call ?_
    k_dflt (refine' code_nest ?k1 ?k2 ?k3 ?k4 ?k5 ?kA ?kF ?kK ?k6 ?k7 ?k8 ?k9 ?kB ?_ ?c2 ?c3 ?c4 ?c5; (case kA => exact rfl); (case kF => exact rfl); (case kK => assumption); (case k1 => k_asm); (case k2 => k_asm); (case k3 => k_asm); (case k4 => k_asm); (case k5 => k_asm); (case k6 => k_mem); (case k7 => exact codeRec_news (by k_asm) (by k_mem) (by assumption) (by assumption)); (case k8 => ktr_room); (case k9 => exact BindsTo.of_eq rfl); (case c5 => decide); (case kB => exact locs rfl); (case c2 => exact rfl); (case c3 => exact rfl); (case c4 => exact rfl); k_whole; intro g' L' h' FG' F' N' B' X' T'; (try dsimp only); (try k_lift B'); (try k_fold))
    have hcase : iL + 1 = iR ↔ kk = 1 := by omega
    have hL0 : 0 ≤ iL ∧ iL < ds.length ∧ ds.length < 2 ^ 62 := by omega
    have hLt : iL.toNat = lo := by omega
    have hmid : (iL + iR).fdiv (2 ^ (1 : Int).toNat) = (lo + kk / 2 : Nat) := by
      rw [hL, hR, Int.fdiv_eq_ediv_of_nonneg _ (by decide)]; show ((lo : Int) + ((lo : Int) + kk)) / 2 = _; omega
    repeat' (first | (k_unfold; (try dsimp only)) | (k_end; wrow_close) | ((fail_if_success (with_reducible show wpAny _ _ (eval (Expr.Subscript _ _ _) _) _ _ _)); (fail_if_success (with_reducible show wpAny _ _ (exec (Stmt.Assign _ _ _) _) _ _ _)); walk1) | ((fail_if_success (with_reducible show wpAny _ _ (eval (Expr.Subscript _ _ _) _) _ _ _)); (fail_if_success (with_reducible show wpAny _ _ (exec (Stmt.Assign _ _ _) _) _ _ _)); dsimp only; walk1) | (leave1; walk_say "STEP leave1"; try dsimp only) | fail "no step")
    · rename (iL + 1 = iR) => heq
      have hkk := hcase.mp heq
      subst hkk
      repeat' (first | (k_unfold; (try dsimp only)) | (k_end; wrow_close) | ((fail_if_success (with_reducible show wpAny _ _ (subscriptTail _ _ _ _) _ _ _)); walk1) | ((fail_if_success (with_reducible show wpAny _ _ (subscriptTail _ _ _ _) _ _ _)); dsimp only; walk1) | (leave1; walk_say "STEP leave1"; try dsimp only) | fail "no step")
      rename (News _ _ _ _) => N3
      (try dsimp only)
      refine' ksa_sub (vs := vs) (ns := ds) ?kN ?kM hI ?k0 ?k1 ?k2 ?_
      case kN => exact N3
      case kM => exact m2
      case k0 => omega
      case k1 => omega
      case k2 => omega
      intro t3
      repeat' (first | (k_unfold; (try dsimp only)) | (k_end; wrow_close) | (walk1) | (dsimp only; walk1) | (leave1; walk_say "STEP leave1"; try dsimp only) | fail "no step")
      have hone := get_run (B := 2 ^ n.toNat) (ds := ds) (lo := lo) (by omega)
      rw [hLt, hone]
      exact hret _ _ _ (by assumption) (by assumption)
    · rename (¬ (iL + 1 = iR)) => hne
      have hkk : 2 ≤ kk := by omega
      repeat' (first | (k_unfold; (try dsimp only)) | (k_end; wrow_close) | ((fail_if_success (with_reducible show wpAny _ _ (exec (Stmt.Assign [Expr.Name "shift" _] _ _) _) _ _ _)); walk1) | ((fail_if_success (with_reducible show wpAny _ _ (exec (Stmt.Assign [Expr.Name "shift" _] _ _) _) _ _ _)); dsimp only; walk1) | (leave1; walk_say "STEP leave1"; try dsimp only) | fail "no step")
      rename (Fr _ _ _ _) => F2
      rw [hmid] at F2
      repeat' (first | (k_unfold; (try dsimp only)) | (k_end; wrow_close) | ((fail_if_success (with_reducible show wpAny _ _ (call (.ref _) _) _ _ _)); walk1) | ((fail_if_success (with_reducible show wpAny _ _ (call (.ref _) _) _ _ _)); dsimp only; walk1) | (leave1; walk_say "STEP leave1"; try dsimp only) | fail "no step")
      rename (Fr _ _ _ _) => F3
      rename (News _ _ _ _) => N3
      have hsh : ((lo + kk / 2 : Nat) : Int) - iL = ((kk / 2 : Nat) : Int) := by omega
      simp only [hsh] at F3
      refine' IH (kk - kk / 2) (by omega) ?cB ?cF ?cX ?cN ?cT ?ck (lo + kk / 2) _ _ _ _ _ _ _ _ _ _ ?hL ?hR ?c1 ?c2 ?m1 ?m2 ?m3 ?m4 ?m5 ?m6 ?e1 ?e2 ?e3 ?e4 ?e5 ?c3 ?c4 ?_
      case cB => exact B'
      case cF => exact F3
      case cX => exact X'
      case cN => exact N3
      case cT => exact T'
      case ck => rfl
      case hL => rfl
      case hR => omega
      case m1 => exact m1
      case m2 => exact m2
      case m3 => exact m3
      case m4 => exact m4
      case m5 => exact m5
      case m6 => exact m6
      case e1 => exact e3
      case e2 => exact e4
      case e3 => exact e5
      case e4 => exact e6
      case e5 => exact e7
      case c1 => omega
      case c2 => omega
      case c3 => show dp + 1 + _ + 4 < _; omega
      case c4 => show un + 3 + _ + 64 < _; omega
      intro t5 h5 tk5 F5 N5
      (try dsimp only)
      repeat' (first | (k_unfold; (try dsimp only)) | (k_end; wrow_close) | ((fail_if_success (with_reducible show wpAny _ _ (binaryOp _ _ _) _ _ _)); (fail_if_success (with_reducible show wpAny _ _ (call (.ref _) _) _ _ _)); walk1) | ((fail_if_success (with_reducible show wpAny _ _ (binaryOp _ _ _) _ _ _)); (fail_if_success (with_reducible show wpAny _ _ (call (.ref _) _) _ _ _)); dsimp only; walk1) | (leave1; walk_say "STEP leave1"; try dsimp only) | fail "no step")
      have hb := ofD_bits (ds := run ds (lo + kk / 2) (kk - kk / 2)) (by omega) (hf.run _ _)
      rw [run_length (by omega)] at hb
      have hb2 : n.toNat * (kk - kk / 2) ≤ 400 * 100 := Nat.mul_le_mul (by omega) (by omega)
      have hs0 : 0 ≤ ((kk / 2 : Nat) : Int) * n := Int.mul_nonneg (by omega) (by omega)
      have hs1 : ((kk / 2 : Nat) : Int) * n ≤ 100 * 400 := Int.mul_le_mul (by omega) (by omega) (by omega) (by omega)
      refine lshift_int hs0 (by omega) ?_
      rw [shl_eq (by omega)]
      (try dsimp only)
      repeat' (first | (k_unfold; (try dsimp only)) | (k_end; wrow_close) | ((fail_if_success (with_reducible show wpAny _ _ (binaryOp _ _ _) _ _ _)); (fail_if_success (with_reducible show wpAny _ _ (call (.ref _) _) _ _ _)); walk1) | ((fail_if_success (with_reducible show wpAny _ _ (binaryOp _ _ _) _ _ _)); (fail_if_success (with_reducible show wpAny _ _ (call (.ref _) _) _ _ _)); dsimp only; walk1) | (leave1; walk_say "STEP leave1"; try dsimp only) | fail "no step")
      refine' IH (kk / 2) (by omega) ?cB ?cF ?cX ?cN ?cT ?ck lo _ _ _ _ _ _ _ _ _ _ ?hL ?hR ?c1 ?c2 ?m1 ?m2 ?m3 ?m4 ?m5 ?m6 ?e1 ?e2 ?e3 ?e4 ?e5 ?c3 ?c4 ?_
      case cB => exact B'
      case cF => exact F5
      case cX => exact X'
      case cN => exact N5
      case cT => exact T'
      case ck => rfl
      case hL => exact hL
      case hR => omega
      case m1 => exact m1
      case m2 => exact m2
      case m3 => exact m3
      case m4 => exact m4
      case m5 => exact m5
      case m6 => exact m6
      case e1 => exact e3
      case e2 => exact e4
      case e3 => exact e5
      case e4 => exact e6
      case e5 => exact e7
      case c1 => omega
      case c2 => omega
      case c3 => show dp + 1 + _ + 4 < _; omega
      case c4 => show un + 3 + _ + 64 < _; omega
      intro t6 h6 tk6 F6 N6
      (try dsimp only)
      repeat' (first | (k_unfold; (try dsimp only)) | (k_end; wrow_close) | (walk1) | (dsimp only; walk1) | (leave1; walk_say "STEP leave1"; try dsimp only) | fail "no step")
      rw [← ofD_run_split (by omega) hlo]
      exact hret _ _ _ (by assumption) (by assumption)
  case use =>
    intro key
    rw [← hqn] at d2
    rcases Nat.eq_zero_or_pos ds.length with hz | hp
    · have hds := List.eq_nil_of_length_eq_zero hz
      have hvs := List.eq_nil_of_length_eq_zero (hvl.trans hz)
      subst hds
      rw [hvs, if_neg (by simp)]
      repeat' (first | (k_unfold; (try dsimp only)) | (k_end; wrow_close) | ((fail_if_success (with_reducible show wpAny _ _ (call _ _) _ _ _)); walk1) | ((fail_if_success (with_reducible show wpAny _ _ (call _ _) _ _ _)); dsimp only; walk1) | (leave1; walk_say "STEP leave1"; try dsimp only) | fail "no step")
      rename (News _ _ _ _) => N4
      exact hret _ _ _ _ _ _ _ d1 d2 (by assumption) (news_sub N4 (by ((repeat' (refine List.forall_mem_cons.mpr ⟨by k_mem, ?_⟩)); intro p hp; first | ((repeat (first | exact hp | refine List.mem_cons_of_mem _ ?_)); done) | simp at hp)))
    · have hne : vs.isEmpty = false := by cases vs with | nil => simp at hvl; omega | cons _ _ => rfl
      rw [hne, if_pos (by rfl)]
      repeat' (first | (k_unfold; (try dsimp only)) | (k_end; wrow_close) | ((fail_if_success (with_reducible show wpAny _ _ (call _ _) _ _ _)); walk1) | ((fail_if_success (with_reducible show wpAny _ _ (call _ _) _ _ _)); dsimp only; walk1) | (leave1; walk_say "STEP leave1"; try dsimp only) | fail "no step")
      refine kun_lenL (k := (ds.length : Int)) (News.isList N3 (by k_mem)) (by simp [hvl]) (by omega) ?_
      repeat' (first | (k_unfold; (try dsimp only)) | (k_end; wrow_close) | ((fail_if_success (with_reducible show wpAny _ _ (call _ _) _ _ _)); walk1) | ((fail_if_success (with_reducible show wpAny _ _ (call _ _) _ _ _)); dsimp only; walk1) | (leave1; walk_say "STEP leave1"; try dsimp only) | fail "no step")
      rename (Fr _ _ _ _) => F4
      rename (News _ _ _ _) => N4
      refine' key ds.length ?cB ?cF ?cX ?cN ?cT ?ck 0 _ _ _ _ _ _ _ _ _ _ ?hL ?hR ?c1 ?c2 ?m1 ?m2 ?m3 ?m4 ?m5 ?m6 ?e1 ?e2 ?e3 ?e4 ?e5 ?c3 ?c4 ?ret
      case cB => exact B'
      case cF => exact F4
      case cX => exact fun a o e => nomatch e
      case cN => exact N4
      case cT => exact T'
      case ck => rfl
      case hL => rfl
      case hR => simp
      case m1 => k_mem
      case m2 => k_mem
      case m3 => k_mem
      case m4 => k_mem
      case m5 => k_mem
      case m6 => k_mem
      case e1 => assumption
      case e2 => assumption
      case e3 => assumption
      case e4 => exact d1
      case e5 => rw [← hqn]; exact d2
      case c1 => omega
      case c2 => exact hp
      case c3 => show dp + 1 + _ + 4 < _; omega
      case c4 => show un + 3 + _ + 64 < _; omega
      intro t5 h5 tk5 F5 N5
      have hrun : run ds 0 ds.length = ds := by simp [run]
      rw [hrun]
      repeat' (first | (k_unfold; (try dsimp only)) | (k_end; wrow_close) | ((fail_if_success (with_reducible show wpAny _ _ (call _ _) _ _ _)); walk1) | ((fail_if_success (with_reducible show wpAny _ _ (call _ _) _ _ _)); dsimp only; walk1) | (leave1; walk_say "STEP leave1"; try dsimp only) | fail "no step")
      rename (News _ _ _ _) => N6
      exact hret _ _ _ _ _ _ _ d1 d2 (by assumption) (news_sub N6 (by ((repeat' (refine List.forall_mem_cons.mpr ⟨by k_mem, ?_⟩)); intro p hp; first | ((repeat (first | exact hp | refine List.mem_cons_of_mem _ ?_)); done) | simp at hp)))
  run_tac sqEnd
end
end Mine
end

section
open PySem PySem.W PyProof.Rows PyProof.Rows.LCg PySem.Calls
set_option maxRecDepth 100000
namespace Mine
theorem bitAnd_nat (x y : Nat) : Builtin.bitAnd (x : Int) (y : Int) = ((x &&& y : Nat) : Int) := by
  unfold Builtin.bitAnd
  rw [show decide (0 ≤ (x : Int)) = true from decide_eq_true (Int.natCast_nonneg x), show decide (0 ≤ (y : Int)) = true from decide_eq_true (Int.natCast_nonneg y)]
  simp
theorem nat_and_shl {s U w : Nat} (h : w < 2 ^ s) : (2 ^ s * U + w) &&& (2 ^ s * U) = 2 ^ s * U := by
  apply Nat.eq_of_testBit_eq
  intro i
  rw [Nat.testBit_and, Nat.testBit_two_pow_mul_add _ h, Nat.testBit_two_pow_mul]
  by_cases hi : i < s
  · simp [hi, Nat.not_le.mpr hi]
  · simp [hi, Nat.not_lt.mp hi]
theorem nat_and_disj {s U w : Nat} (h : w < 2 ^ s) : (2 ^ s * U) &&& w = 0 := by
  apply Nat.eq_of_testBit_eq
  intro i
  rw [Nat.testBit_and, Nat.testBit_two_pow_mul, Nat.zero_testBit]
  by_cases hi : i < s
  · simp [Nat.not_le.mpr hi]
  · rw [Nat.testBit_lt_two_pow (Nat.lt_of_lt_of_le h (Nat.pow_le_pow_right (by decide) (Nat.not_lt.mp hi)))]; simp
theorem and_shl {s : Nat} {U w : Int} (hU : 0 ≤ U) (h0 : 0 ≤ w) (h : w < 2 ^ s) : Builtin.bitAnd (2 ^ s * U + w) (2 ^ s * U) = 2 ^ s * U := by
  obtain ⟨u, rfl⟩ := Int.eq_ofNat_of_zero_le hU
  obtain ⟨v, rfl⟩ := Int.eq_ofNat_of_zero_le h0
  have hv : v < 2 ^ s := by exact_mod_cast h
  have e1 : (2 : Int) ^ s * (u : Int) + (v : Int) = ((2 ^ s * u + v : Nat) : Int) := by push_cast; rfl
  have e2 : (2 : Int) ^ s * (u : Int) = ((2 ^ s * u : Nat) : Int) := by push_cast; rfl
  rw [e1, e2, bitAnd_nat, nat_and_shl hv]
theorem and_disj {s : Nat} {U w : Int} (hU : 0 ≤ U) (h0 : 0 ≤ w) (h : w < 2 ^ s) : Builtin.bitAnd (2 ^ s * U) w = 0 := by
  obtain ⟨u, rfl⟩ := Int.eq_ofNat_of_zero_le hU
  obtain ⟨v, rfl⟩ := Int.eq_ofNat_of_zero_le h0
  have hv : v < 2 ^ s := by exact_mod_cast h
  have e2 : (2 : Int) ^ s * (u : Int) = ((2 ^ s * u : Nat) : Int) := by push_cast; rfl
  rw [e2, bitAnd_nat, nat_and_disj hv]; rfl
theorem xor_low {s : Nat} {U w : Int} (hU : 0 ≤ U) (h0 : 0 ≤ w) (h : w < 2 ^ s) : Builtin.bitXor (2 ^ s * U + w) (2 ^ s * U) = w := by
  rw [bitXor_and, and_shl hU h0 h]; omega
theorem or_add {s : Nat} {U w : Int} (hU : 0 ≤ U) (h0 : 0 ≤ w) (h : w < 2 ^ s) : Builtin.bitOr (2 ^ s * U) w = 2 ^ s * U + w := by
  have h1 := bitXor_and (2 ^ s * U) w
  unfold Builtin.bitXor at h1
  rw [and_disj hU h0 h] at h1
  omega
/-- cur with the figures r from lo on -/
noncomputable def lay (cur : List Int) (lo : Nat) (r : List Int) : List Int := cur.take lo ++ r ++ cur.drop (lo + r.length)
theorem lay_length {cur r : List Int} {lo : Nat} (h : lo + r.length ≤ cur.length) : (lay cur lo r).length = cur.length := by
  simp only [lay, List.length_append, List.length_take, List.length_drop]; omega
theorem lay_one {cur : List Int} {lo : Nat} {d : Int} (h : lo < cur.length) : lay cur lo [d] = cur.set lo d := by
  simp only [lay, List.length_singleton]
  rw [List.set_eq_take_append_cons_drop]
  simp [h]
theorem lay_lay {cur x y : List Int} {lo : Nat} (h : lo + x.length + y.length ≤ cur.length) : lay (lay cur lo x) (lo + x.length) y = lay cur lo (x ++ y) := by
  simp only [lay]
  have h1 : (cur.take lo ++ x).length = lo + x.length := by simp; omega
  rw [List.take_append_of_le_length (by rw [h1]; exact Nat.le_refl _), ← h1, List.take_length, h1, List.drop_append, h1]
  rw [List.drop_eq_nil_of_le (by rw [h1]; omega), List.nil_append, List.drop_drop]
  simp only [List.append_assoc, List.length_append]
  congr 3
  congr 1
  omega
theorem lay_full {cur r : List Int} (h : r.length = cur.length) : lay cur 0 r = r := by
  simp [lay, h]
/-- how many figures a number has -/
theorem bits_count {n : Int} {ds : List Int} (hn : 1 ≤ n) (hf : Figs (2 ^ n.toNat) ds) (ht : Top1 ds) : ((Builtin.Int.intBits (ofD (2 ^ n.toNat) ds) : Int) + n - 1).fdiv n = ds.length := by
  run_tac sqBegin
  have hp : (0 : Int) < 2 ^ n.toNat := Int.pow_pos (by decide)
  have hup := ofD_bits (by omega) hf
  have hnn : (n.toNat : Int) = n := Int.toNat_of_nonneg (by omega)
  have hup' : ((Builtin.Int.intBits (ofD (2 ^ n.toNat) ds) : Nat) : Int) ≤ n * ds.length := by
    have := Int.ofNat_le.mpr hup
    push_cast at this
    rw [hnn] at this
    exact this
  rw [Int.fdiv_eq_ediv_of_nonneg _ (by omega)]
  rcases List.eq_nil_or_concat ds with rfl | ⟨r, d, rfl⟩
  · simp [ofD, Builtin.Int.intBits]
    exact Int.ediv_eq_zero_of_lt (by omega) (by omega)
  · have hd : 1 ≤ d := by
      have h1 := ht d (by simp)
      have h2 := hf d (by simp)
      omega
    have hr : Figs (2 ^ n.toNat) r := fun x hx => hf x (by simp [hx])
    have hlow : ¬ Builtin.Int.intBits (ofD (2 ^ n.toNat) (r ++ [d])) ≤ n.toNat * r.length := by
      intro hc
      have h3 := intBits_le_iff.mp hc
      have h4 : ofD (2 ^ n.toNat) (r ++ [d]) = ofD (2 ^ n.toNat) r + (2 ^ n.toNat) ^ r.length * d := by rw [ofD_append, ofD_one]
      have h5 := ofD_nonneg (Int.le_of_lt hp) hr
      have h6 : (2 ^ n.toNat : Int) ^ r.length * 1 ≤ (2 ^ n.toNat) ^ r.length * d := Int.mul_le_mul_of_nonneg_left hd (Int.le_of_lt (Int.pow_pos hp))
      have h7 : ((2 ^ (n.toNat * r.length) : Nat) : Int) = (2 ^ n.toNat) ^ r.length := by push_cast; rw [Int.pow_mul]
      have h8 := Int.ofNat_lt.mpr h3
      rw [h7] at h8
      omega
    have hlow' : n * r.length < ((Builtin.Int.intBits (ofD (2 ^ n.toNat) (r ++ [d])) : Nat) : Int) := by
      have := Int.ofNat_lt.mpr (Nat.not_le.mp hlow)
      push_cast at this
      rw [hnn] at this
      exact this
    simp only [List.concat_eq_append, List.length_append, List.length_singleton] at hup' ⊢
    push_cast at hup' ⊢
    rw [Int.mul_add, Int.mul_one] at hup'
    generalize ((Builtin.Int.intBits (ofD (2 ^ n.toNat) (r ++ [d])) : Nat) : Int) = b at *
    have e : b + n - 1 = (b - 1 - n * r.length) + n * (r.length + 1) := by rw [Int.mul_add, Int.mul_one]; omega
    rw [e, Int.add_mul_ediv_left _ _ (by omega), Int.ediv_eq_zero_of_lt (by omega) (by omega), Int.zero_add]
  run_tac sqEnd
end Mine
end

section
open PySem PySem.W PyProof.Rows PyProof.Rows.LCg PySem.Calls
set_option maxRecDepth 100000
namespace Mine
theorem upd_mid {d : Addr} {o o' : Obj} {post : List (Addr × Obj)} (h2 : ∀ p ∈ post, p.1 ≠ d) : ∀ {pre : List (Addr × Obj)}, (∀ p ∈ pre, p.1 ≠ d) → Upd d o o' (pre ++ (d, o) :: post) (pre ++ (d, o') :: post)
  | [], _ => .head h2
  | q :: r, h => .tail (h q List.mem_cons_self) (upd_mid h2 fun p hp => h p (List.mem_cons_of_mem _ hp))
theorem two_pow_shift {n : Int} {h : Nat} (hn : 0 ≤ n) : (2 : Int) ^ (((h : Int)) * n).toNat = (2 ^ n.toNat) ^ h := by
  have := shl_eq (n := n) (h := h) hn 1
  simpa using this
theorem news_drop2 {h₀ h : Heap} {L : Addr} {a b : Addr × Obj} {r : List (Addr × Obj)} (N : News h₀ L h (a :: b :: r)) : News h₀ L h (a :: r) := fun p hp => N p (by rcases List.mem_cons.mp hp with h | h <;> simp [h])
section
variable {w : World} {mean : ExcName → Option Value} {mg mb : PySem.Str → Option Value} {A₀ : Around} {base h₀ : Heap} {outer : List Env} {L : Addr} {m : PySem.Str → Option Value} {news : List (Addr × Obj)} {s : Shared} {Q E : Value → Shared → Prop}
variable {dp un : Nat} {gd : Option (List Code)} {cn : PySem.Str} {cs : Scope} {a : Addr} {ccd : Value} {cl : List (PySem.Str × Addr)}
noncomputable def I2dInner (w : World) (mean : ExcName → Option Value) (mg mb : PySem.Str → Option Value) (f D dD dI dN c' : Addr) (cap : Nat) (ds : List Int) (n : Int) (tn : Tok) (qn : PySem.Str) (fo : Obj) (k : Nat) : Prop :=
  ∀ {A₀ : Around} {base h₀ : Heap} {outer : List Env} {L : Addr} {m : PySem.Str → Option Value} {news : List (Addr × Obj)} {s : Shared} {Q E : Value → Shared → Prop} {dp un : Nat} {gd : Option (List Code)} {cn : PySem.Str} {cs : Scope} {a : Addr} {ccd : Value} {cl : List (PySem.Str × Addr)}
    (B : Below A₀ base outer h₀) (F : Fr h₀ L s.heap m) (X : Frag.In ([] : Frag) h₀) (N : News h₀ L s.heap news) (T : Top topProg LS mean mg mb h₀) (hk : cs.kind = .function)
    (pre post : List (Addr × Obj)) (vs : List Value) (cur : List Int) (lo : Nat) (x iL iR : Int) (tx tL tR : Tok) (oD oI oN oc : Obj) (vs' : Array Value) (t' : Tok) (hnews : news = pre ++ (D, W.listOf vs.toArray cap) :: post) (hx : x = ofD (2 ^ n.toNat) (run ds lo k)) (hL : iL = (lo : Int)) (hR : iR = (lo : Int) + (k : Int)) (hlo : lo + k ≤ ds.length) (hk1 : 1 ≤ k) (hI : IntsAre vs cur) (hcur : cur.length = ds.length)
    (g1 : ∀ p ∈ pre, p.1 ≠ D) (g2 : ∀ p ∈ post, p.1 ≠ D) (m1 : (f, fo) ∈ pre) (m3 : (dD, oD) ∈ post) (m4 : (dI, oI) ∈ post) (m5 : (dN, oN) ∈ post) (m6 : (c', oc) ∈ pre)
    (e3 : oD.data = .cell (some (.ref D))) (e4 : oI.data = .cell (some (.ref f))) (e5 : oN.data = .cell (some (.int n tn))) (e6 : oc.data = .fields vs') (e7 : vs'[1]? = some (.str qn t'))
    (hdp : dp + k + 4 < recursionLimit) (hu : un + 16 * k + 64 < cLine)
    (hret : ∀ us h' tk', IntsAre us (lay cur lo (run ds lo k)) → Fr h₀ L h' m → News h₀ L h' (pre ++ (D, W.listOf (List.toArray us) cap) :: post) → Q .none { s with heap := h', toks := tk' }),
    wpAny (model PySem.Challenge.rw_xi0008_01.row.prog w) (ktrTop dp un gd cn cs L a ccd cl outer) (call (.ref f) [.int x tx, .int iL tL, .int iR tR]) Q E s
set_option maxHeartbeats 4000000 in
theorem i2d_call (B : Below A₀ base outer h₀) (F : Fr h₀ L s.heap m) (X : (hd.heap_39 w.params).In h₀) (N : News h₀ L s.heap news) (T : Top topProg LS mean mg mb h₀) (hk : cs.kind = .function) {z : Int} {tz : Tok} {ds : List Int} {n : Int} {tn : Tok} {ps : Array Value} {rest : List (Addr × Obj)} (hnews : news = (37, tabObj ps) :: rest) (hps : TabOk ps rest 41 4 (PySem.Str.ofString "_int2digits.<locals>.inner")) (hr : ∀ q ∈ rest, q.1 ≠ 37) (CH : CodeHd base 41 37)
  (hz : z = ofD (2 ^ n.toNat) ds) (hlen : ds.length ≤ 400) (hn : 1 ≤ n) (hn2 : n ≤ 50000) (hf : Figs (2 ^ n.toNat) ds) (ht : Top1 ds)
  (hdp : dp + 500 < recursionLimit) (hu : un + 7000 < cLine)
  (hret : ∀ D us cap h' tk' c' (oc : Obj) (vs' : Array Value) (t' : Tok), IntsAre us ds → oc.data = .fields vs' → vs'[1]? = some (.str (PySem.Str.ofString "_int2digits.<locals>.inner") t') → Fr h₀ L h' m → News h₀ L h' ((D, W.listOf (List.toArray us) cap) :: (c', oc) :: (37, tabObj #[rawInt 41, rawInt 4, .ref c']) :: rest) → Q (.ref D) { s with heap := h', toks := tk' }) :
  wpAny (model PySem.Challenge.rw_xi0008_01.row.prog w) (ktrTop dp un gd cn cs L a ccd cl outer) (call (.ref 42) [.int z tz, .int n tn]) Q E s := by
  run_tac sqBegin
  revert X; k_fill; intro X
  subst hnews
  refine wpAny_call ?_
  k_dflt (refine' code_defC ?k1 ?k2 ?k3 ?k4 ?k5 ?kA ?kF ?kK ?k6 ?k7 ?k8 ?k9 ?kB ?kD ?_ ?c2 ?c3 ?c4; (case kA => exact rfl); (case kF => exact rfl); (case kK => assumption); (case k1 => k_asm); (case k2 => k_asm); (case k3 => k_asm); (case k4 => k_asm); (case k5 => k_asm); (case k6 => k_is); (case k7 => k_is); (case k8 => ktr_room); (case k9 => exact BindsTo.of_eq rfl); (case kB => exact rfl); (case kD => decide +kernel); (case c2 => exact rfl); (case c3 => exact rfl); (case c4 => exact rfl); k_whole; intro g' L' h' tk' cells' FG' F' N' Y' B' X' T' l1; (try k_lt l1); k_cells Y'; (try simp only [List.cons_append, List.nil_append] at N'); (try dsimp only); (try k_lift B'); (try k_fold))
  have hbc := bits_count hn hf ht
  rw [← hz] at hbc
  repeat' (first | (k_unfold; (try dsimp only)) | (k_end; wrow_close) | ((fail_if_success (with_reducible show wpAny _ _ (exec (Stmt.FunctionDef _ _ _ _ _ _ _ _ _ _) _) _ _ _)); (fail_if_success (with_reducible show wpAny _ _ (binaryOp .Mult _ _) _ _ _)); walk1) | ((fail_if_success (with_reducible show wpAny _ _ (exec (Stmt.FunctionDef _ _ _ _ _ _ _ _ _ _) _) _ _ _)); (fail_if_success (with_reducible show wpAny _ _ (binaryOp .Mult _ _) _ _ _)); dsimp only; walk1) | (leave1; walk_say "STEP leave1"; try dsimp only) | fail "no step")
  (try dsimp only)
  rw [hbc]
  rename (Fr _ _ _ _) => F0
  rename (News _ _ _ _) => N0
  refine rep_K F0 N0 (by k_mem) (by omega) (by omega) ?_
  intro D us rs h1 F1 N1 lD hI0 hrs hrl
  (try dsimp only)
  have hlt := ktn_ltOf l1.2
  have h37 := l1.1
  k_lt lD
  have lD3 : L' + 1 + 1 + 1 < D := lD.2.1
  have hRD := ktn_ltOf lD.2.2.2.2.2
  have N2 := news_drop2 N1
  refine' storeX_C F1 N2 rfl ?U ?hd ?_
  case U =>
    refine UpdF.tail (Nat.ne_of_gt lD.2.2.1) (UpdF.tail (Nat.ne_of_gt (Nat.lt_succ_self _)) (UpdF.head ?_))
    refine List.forall_mem_cons.mpr ⟨?_, List.forall_mem_cons.mpr ⟨?_, ?_⟩⟩
    · exact Nat.ne_of_lt (Nat.lt_succ_self _)
    · exact Nat.ne_of_lt (Nat.lt_of_lt_of_le h37 (Nat.le_add_right _ 2))
    · exact all_ne_of_lt hlt (Nat.le_add_right _ 2)
  case hd => assumption
  intro h2 o2 F2 N2 d2
  (try dsimp only)
  repeat' (first | (k_unfold; (try dsimp only)) | (k_end; wrow_close) | ((fail_if_success (with_reducible show wpAny _ _ (exec (Stmt.FunctionDef _ _ _ _ _ _ _ _ _ _) _) _ _ _)); walk1) | ((fail_if_success (with_reducible show wpAny _ _ (exec (Stmt.FunctionDef _ _ _ _ _ _ _ _ _ _) _) _ _ _)); dsimp only; walk1) | (leave1; walk_say "STEP leave1"; try dsimp only) | fail "no step")
  refine nestDef_K rfl rfl rfl ?_
  refine nest_any (own := [_, _, _, _]) F2 N2 T' (CodeHd.keeps CH B'.stays) rfl hps ?_ hr ?_ rfl ?_
  · intro q hq
    simp only [List.mem_cons, List.not_mem_nil, or_false] at hq
    rcases hq with rfl | rfl | rfl | rfl
    · exact Nat.ne_of_gt lD.2.2.2.2.1
    · exact Nat.ne_of_gt (Nat.lt_of_lt_of_le h37 (Nat.le_add_right _ 3))
    · exact Nat.ne_of_gt (Nat.lt_of_lt_of_le h37 (Nat.le_add_right _ 2))
    · exact Nat.ne_of_gt (Nat.lt_of_lt_of_le h37 (Nat.le_add_right _ 1))
  · intro q hq r hr'
    have := hlt q hq
    simp only [List.mem_cons, List.not_mem_nil, or_false] at hr'
    rcases hr' with rfl | rfl | rfl | rfl
    · exact hRD q hq
    · exact Nat.lt_succ_of_lt (Nat.lt_succ_of_lt (Nat.lt_succ_of_lt (hlt q hq)))
    · exact Nat.lt_succ_of_lt (Nat.lt_succ_of_lt (hlt q hq))
    · exact Nat.lt_succ_of_lt (hlt q hq)
  intro f c' oc vs' t ctv doc h3 tk3 F3 N3 d3 d4 l2 l3 l4 l5
  generalize hqn : qualnameIn _ _ _ = qn at N3 d4
  (try dsimp only)
  simp only [List.cons_append, List.nil_append] at N3 l5
  k_lt l5
  have n0 := l2 _ (List.mem_cons_self)
  have n1 := l2 _ (List.mem_cons_of_mem _ List.mem_cons_self)
  have n2 := l2 _ (List.mem_cons_of_mem _ (List.mem_cons_of_mem _ List.mem_cons_self))
  have n3 := l2 _ (List.mem_cons_of_mem _ (List.mem_cons_of_mem _ (List.mem_cons_of_mem _ List.mem_cons_self)))
  clear l2
  (try dsimp only at n0 n1 n2 n3)
  have hDf : D < f := l5.1
  refine' storeX_C F3 N3 rfl ?U ?hd ?_
  case U =>
    refine UpdF.tail (Nat.ne_of_gt l5.2.1) (UpdF.tail n1.symm (UpdF.tail (Nat.ne_of_gt lD3) (UpdF.head ?_)))
    refine List.forall_mem_cons.mpr ⟨?_, List.forall_mem_cons.mpr ⟨?_, List.forall_mem_cons.mpr ⟨?_, ?_⟩⟩⟩
    · exact Nat.ne_of_lt (Nat.lt_succ_self _)
    · exact Nat.ne_of_lt (Nat.lt_succ_of_lt (Nat.lt_succ_self _))
    · exact Nat.ne_of_lt (Nat.lt_of_lt_of_le h37 (Nat.le_add_right _ 3))
    · exact all_ne_of_lt hlt (Nat.le_add_right _ 3)
  case hd => assumption
  intro h4 o3 F4 N4 d5
  (try dsimp only)
  refine use_obj (f := f) (P := I2dInner w mean mg mb f D (L' + 1 + 1) (L' + 1 + 1 + 1) (L' + 1) c' 0 ds n tn qn) N4 (by k_mem) ?rec ?use
  case rec =>
    run_tac keepOnly [`hlen, `hn, `hn2, `hf]
    intro kk IH A₀ base h₀ outer L m news s Q E dp un gd cn cs a ccd cl B F X N T hk pre post vs cur lo x iL iR tx tL tR oD oI oN oc vs' t' hnews hx hL hR hlo hk1 hI hcur g1 g2 m1 m3 m4 m5 m6 e3 e4 e5 e6 e7 hdp hu hret
    have M1 : (f, _) ∈ news := hnews ▸ List.mem_append_left _ m1
    have M6 : (c', _) ∈ news := hnews ▸ List.mem_append_left _ m6
    have M3 : (_, oD) ∈ news := hnews ▸ List.mem_append_right _ (List.mem_cons_of_mem _ m3)
    have M4 : (_, oI) ∈ news := hnews ▸ List.mem_append_right _ (List.mem_cons_of_mem _ m4)
    have M5 : (_, oN) ∈ news := hnews ▸ List.mem_append_right _ (List.mem_cons_of_mem _ m5)
    refine wpAny_call ?_
    k_dflt (refine' code_nest ?k1 ?k2 ?k3 ?k4 ?k5 ?kA ?kF ?kK ?k6 ?k7 ?k8 ?k9 ?kB ?_ ?c2 ?c3 ?c4 ?c5; (case kA => exact rfl); (case kF => exact rfl); (case kK => assumption); (case k1 => k_asm); (case k2 => k_asm); (case k3 => k_asm); (case k4 => k_asm); (case k5 => k_asm); (case k6 => k_mem); (case k7 => exact codeRec_news (by k_asm) (by k_mem) (by assumption) (by assumption)); (case k8 => ktr_room); (case k9 => exact BindsTo.of_eq rfl); (case c5 => decide); (case kB => exact locs rfl); (case c2 => exact rfl); (case c3 => exact rfl); (case c4 => exact rfl); k_whole; intro g' L' h' FG' F' N' B' X' T'; (try dsimp only); (try k_lift B'); (try k_fold))
    have hcase : iL + 1 = iR ↔ kk = 1 := by omega
    have hL0 : 0 ≤ iL ∧ iL < ds.length ∧ ds.length < 2 ^ 62 := by omega
    have hLt : iL.toNat = lo := by omega
    have hmid : (iL + iR).fdiv (2 ^ (1 : Int).toNat) = (lo + kk / 2 : Nat) := by
      rw [hL, hR, Int.fdiv_eq_ediv_of_nonneg _ (by decide)]; show ((lo : Int) + ((lo : Int) + kk)) / 2 = _; omega
    repeat' (first | (k_unfold; (try dsimp only)) | (k_end; wrow_close) | ((fail_if_success (with_reducible show wpAny _ _ (setItem _ _ _) _ _ _)); (fail_if_success (with_reducible show wpAny _ _ (exec (Stmt.Assign [Expr.Name "mid" _] _ _) _) _ _ _)); walk1) | ((fail_if_success (with_reducible show wpAny _ _ (setItem _ _ _) _ _ _)); (fail_if_success (with_reducible show wpAny _ _ (exec (Stmt.Assign [Expr.Name "mid" _] _ _) _) _ _ _)); dsimp only; walk1) | (leave1; walk_say "STEP leave1"; try dsimp only) | fail "no step")
    · rename (iL + 1 = iR) => heq
      have hkk := hcase.mp heq
      subst hkk
      rename (Fr g' _ _ _) => F2
      rename (News g' _ _ _) => N2
      subst hnews
      refine' ksa_set F2 N2 (upd_mid g2 g1) hI (by omega) (by omega) (by omega) ?_
      intro h5 F5 N5 hI5 _ _
      (try dsimp only)
      repeat' (first | (k_unfold; (try dsimp only)) | (k_end; wrow_close) | (walk1) | (dsimp only; walk1) | (leave1; walk_say "STEP leave1"; try dsimp only) | fail "no step")
      have hone : (cur.set iL.toNat x) = lay cur lo (run ds lo 1) := by
        rw [hLt, hx, ← get_run (by omega)]
        have e : ds[lo]? = some (ds.getD lo 0) := by simp [List.getD, List.getElem?_eq_getElem (show lo < ds.length by omega)]
        rw [run_one e, lay_one (by omega)]
      rw [hone] at hI5
      rename (News h₀ _ _ _) => N6
      exact hret _ _ _ hI5 (by assumption) N6
    · rename (¬ (iL + 1 = iR)) => hne
      have hkk : 2 ≤ kk := by omega
      have hspl : x = (2 ^ n.toNat) ^ (kk / 2) * ofD (2 ^ n.toNat) (run ds (lo + kk / 2) (kk - kk / 2)) + ofD (2 ^ n.toNat) (run ds lo (kk / 2)) := by
        rw [hx]; exact ofD_run_split (by omega) hlo
      have hp2 : (0 : Int) < 2 ^ n.toNat := Int.pow_pos (by decide)
      have hU0 := ofD_nonneg (Int.le_of_lt hp2) (hf.run (lo + kk / 2) (kk - kk / 2))
      have hl0 := ofD_nonneg (Int.le_of_lt hp2) (hf.run lo (kk / 2))
      have hl1 := ofD_lt hp2 (hf.run lo (kk / 2))
      rw [run_length (by omega)] at hl1
      have htp := two_pow_shift (n := n) (h := kk / 2) (by omega)
      rw [← htp] at hl1 hspl
      have hup : x.fdiv (2 ^ (((kk / 2 : Nat) : Int) * n).toNat) = ofD (2 ^ n.toNat) (run ds (lo + kk / 2) (kk - kk / 2)) := by
        have hpp : (0 : Int) < 2 ^ (((kk / 2 : Nat) : Int) * n).toNat := Int.pow_pos (by decide)
        rw [hspl, Int.fdiv_eq_ediv_of_nonneg _ (Int.le_of_lt hpp), Int.add_comm, Int.add_mul_ediv_left _ _ (Int.ne_of_gt hpp), Int.ediv_eq_zero_of_lt hl0 hl1, Int.zero_add]
      have hlow : Builtin.bitXor x (ofD (2 ^ n.toNat) (run ds (lo + kk / 2) (kk - kk / 2)) * 2 ^ (((kk / 2 : Nat) : Int) * n).toNat) = ofD (2 ^ n.toNat) (run ds lo (kk / 2)) := by
        rw [hspl, Int.mul_comm (ofD _ _)]; exact xor_low hU0 hl0 hl1
      have hb := ofD_bits (ds := run ds (lo + kk / 2) (kk - kk / 2)) (by omega) (hf.run _ _)
      rw [run_length (by omega)] at hb
      have hb2 : n.toNat * (kk - kk / 2) ≤ 50000 * 400 := Nat.mul_le_mul (by omega) (by omega)
      have hs0 : 0 ≤ ((kk / 2 : Nat) : Int) * n := Int.mul_nonneg (by omega) (by omega)
      have hs1 : ((kk / 2 : Nat) : Int) * n ≤ 400 * 50000 := Int.mul_le_mul (by omega) (by omega) (by omega) (by omega)
      repeat' (first | (k_unfold; (try dsimp only)) | (k_end; wrow_close) | ((fail_if_success (with_reducible show wpAny _ _ (exec (Stmt.Assign [Expr.Name "shift" _] _ _) _) _ _ _)); walk1) | ((fail_if_success (with_reducible show wpAny _ _ (exec (Stmt.Assign [Expr.Name "shift" _] _ _) _) _ _ _)); dsimp only; walk1) | (leave1; walk_say "STEP leave1"; try dsimp only) | fail "no step")
      rename (Fr g' _ _ _) => F2
      rw [hmid] at F2
      repeat' (first | (k_unfold; (try dsimp only)) | (k_end; wrow_close) | ((fail_if_success (with_reducible show wpAny _ _ (exec (Stmt.Assign [Expr.Name "upper" _] _ _) _) _ _ _)); walk1) | ((fail_if_success (with_reducible show wpAny _ _ (exec (Stmt.Assign [Expr.Name "upper" _] _ _) _) _ _ _)); dsimp only; walk1) | (leave1; walk_say "STEP leave1"; try dsimp only) | fail "no step")
      rename (Fr g' _ _ _) => F3
      have hsh : ((lo + kk / 2 : Nat) : Int) - iL = ((kk / 2 : Nat) : Int) := by omega
      simp only [hsh] at F3
      repeat' (first | (k_unfold; (try dsimp only)) | (k_end; wrow_close) | ((fail_if_success (with_reducible show wpAny _ _ (binaryOp .RShift _ _) _ _ _)); walk1) | ((fail_if_success (with_reducible show wpAny _ _ (binaryOp .RShift _ _) _ _ _)); dsimp only; walk1) | (leave1; walk_say "STEP leave1"; try dsimp only) | fail "no step")
      refine rshift_int hs0 ?_
      rw [hup]
      (try dsimp only)
      repeat' (first | (k_unfold; (try dsimp only)) | (k_end; wrow_close) | ((fail_if_success (with_reducible show wpAny _ _ (binaryOp .LShift _ _) _ _ _)); (fail_if_success (with_reducible show wpAny _ _ (binaryOp .BitXor _ _) _ _ _)); (fail_if_success (with_reducible show wpAny _ _ (call (.ref _) _) _ _ _)); walk1) | ((fail_if_success (with_reducible show wpAny _ _ (binaryOp .LShift _ _) _ _ _)); (fail_if_success (with_reducible show wpAny _ _ (binaryOp .BitXor _ _) _ _ _)); (fail_if_success (with_reducible show wpAny _ _ (call (.ref _) _) _ _ _)); dsimp only; walk1) | (leave1; walk_say "STEP leave1"; try dsimp only) | fail "no step")
      refine lshift_int hs0 (by omega) ?_
      (try dsimp only)
      repeat' (first | (k_unfold; (try dsimp only)) | (k_end; wrow_close) | ((fail_if_success (with_reducible show wpAny _ _ (binaryOp .BitXor _ _) _ _ _)); (fail_if_success (with_reducible show wpAny _ _ (call (.ref _) _) _ _ _)); walk1) | ((fail_if_success (with_reducible show wpAny _ _ (binaryOp .BitXor _ _) _ _ _)); (fail_if_success (with_reducible show wpAny _ _ (call (.ref _) _) _ _ _)); dsimp only; walk1) | (leave1; walk_say "STEP leave1"; try dsimp only) | fail "no step")
      refine xor_int ?_
      rw [hlow]
      (try dsimp only)
      repeat' (first | (k_unfold; (try dsimp only)) | (k_end; wrow_close) | ((fail_if_success (with_reducible show wpAny _ _ (call (.ref _) _) _ _ _)); walk1) | ((fail_if_success (with_reducible show wpAny _ _ (call (.ref _) _) _ _ _)); dsimp only; walk1) | (leave1; walk_say "STEP leave1"; try dsimp only) | fail "no step")
      rename (Fr g' _ _ _) => F4
      rename (News g' _ _ _) => N4
      subst hnews
      refine' IH (kk / 2) (by omega) ?cB ?cF ?cX ?cN ?cT ?ck pre post vs cur (lo) _ _ _ _ _ _ _ _ _ _ _ _ rfl ?hx ?hL ?hR ?c1 ?c2 hI ?c5 g1 g2 m1 m3 m4 m5 m6 e3 e4 e5 e6 e7 ?c3 ?c4 ?_
      case cB => exact B'
      case cF => exact F4
      case cX => exact X'
      case cN => exact N4
      case cT => exact T'
      case ck => rfl
      case hx => rfl
      case hL => exact hL
      case hR => omega
      case c1 => omega
      case c2 => omega
      case c5 => exact hcur
      case c3 => show dp + 1 + _ + 4 < _; omega
      case c4 => show un + 3 + _ + 64 < _; omega
      intro us5 h5 tk5 hI5 F5 N5
      have M1' : (f, _) ∈ pre ++ (D, W.listOf (List.toArray us5) 0) :: post := List.mem_append_left _ m1
      have M4' : (_, oI) ∈ pre ++ (D, W.listOf (List.toArray us5) 0) :: post := List.mem_append_right _ (List.mem_cons_of_mem _ m4)
      (try dsimp only)
      repeat' (first | (k_unfold; (try dsimp only)) | (k_end; wrow_close) | ((fail_if_success (with_reducible show wpAny _ _ (call (.ref _) _) _ _ _)); walk1) | ((fail_if_success (with_reducible show wpAny _ _ (call (.ref _) _) _ _ _)); dsimp only; walk1) | (leave1; walk_say "STEP leave1"; try dsimp only) | fail "no step")
      rename (Fr g' _ _ _) => F6
      rename (News g' _ _ _) => N6
      refine' IH (kk - kk / 2) (by omega) ?cB ?cF ?cX ?cN ?cT ?ck pre post us5 (lay cur lo (run ds lo (kk / 2))) (lo + kk / 2) _ _ _ _ _ _ _ _ _ _ _ _ rfl ?hx ?hL ?hR ?c1 ?c2 hI5 ?c5 g1 g2 m1 m3 m4 m5 m6 e3 e4 e5 e6 e7 ?c3 ?c4 ?_
      case cB => exact B'
      case cF => exact F6
      case cX => exact X'
      case cN => exact N6
      case cT => exact T'
      case ck => rfl
      case hx => rfl
      case hL => rfl
      case hR => omega
      case c1 => omega
      case c2 => omega
      case c5 => rw [lay_length (by rw [run_length (by omega)]; omega)]; exact hcur
      case c3 => show dp + 1 + _ + 4 < _; omega
      case c4 => show un + 3 + _ + 64 < _; omega
      intro us7 h7 tk7 hI7 F7 N7
      (try dsimp only)
      repeat' (first | (k_unfold; (try dsimp only)) | (k_end; wrow_close) | (walk1) | (dsimp only; walk1) | (leave1; walk_say "STEP leave1"; try dsimp only) | fail "no step")
      have hll : lay (lay cur lo (run ds lo (kk / 2))) (lo + kk / 2) (run ds (lo + kk / 2) (kk - kk / 2)) = lay cur lo (run ds lo kk) := by
        have h1 : (run ds lo (kk / 2)).length = kk / 2 := run_length (by omega)
        have h2 : (run ds (lo + kk / 2) (kk - kk / 2)).length = kk - kk / 2 := run_length (by omega)
        have h3 := lay_lay (cur := cur) (x := run ds lo (kk / 2)) (y := run ds (lo + kk / 2) (kk - kk / 2)) (lo := lo) (by rw [h1, h2]; omega)
        rw [h1] at h3
        rw [h3, ← run_split]
        congr 2
        omega
      rw [hll] at hI7
      rename (News h₀ _ _ _) => N8
      exact hret _ _ _ hI7 (by assumption) N8
  case use =>
    intro key
    rw [← hqn] at d4
    repeat' (first | (k_unfold; (try dsimp only)) | (k_end; wrow_close) | ((fail_if_success (with_reducible show wpAny _ _ (callWith _ _ _ _ _) _ _ _)); walk1) | ((fail_if_success (with_reducible show wpAny _ _ (callWith _ _ _ _ _) _ _ _)); dsimp only; walk1) | (leave1; walk_say "STEP leave1"; try dsimp only) | fail "no step")
    · rename (z ≠ 0) => hz0
      have hp : ds ≠ [] := fun h => hz0 (by rw [hz, h]; rfl)
      have hp' : 0 < ds.length := List.length_pos_iff.mpr hp
      have hul : us.length = rs.length := hI0.length
      repeat' (first | (k_unfold; (try dsimp only)) | (k_end; wrow_close) | ((fail_if_success (with_reducible show wpAny _ _ (call _ _) _ _ _)); walk1) | ((fail_if_success (with_reducible show wpAny _ _ (call _ _) _ _ _)); dsimp only; walk1) | (leave1; walk_say "STEP leave1"; try dsimp only) | fail "no step")
      rename (News g' _ _ _) => N5
      refine kun_lenL (k := (ds.length : Int)) (News.isList N5 (by k_mem)) (by simp [hul, hrl]) (by omega) ?_
      (try dsimp only)
      repeat' (first | (k_unfold; (try dsimp only)) | (k_end; wrow_close) | ((fail_if_success (with_reducible show wpAny _ _ (call _ _) _ _ _)); walk1) | ((fail_if_success (with_reducible show wpAny _ _ (call _ _) _ _ _)); dsimp only; walk1) | (leave1; walk_say "STEP leave1"; try dsimp only) | fail "no step")
      rename (Fr g' _ _ _) => F6
      rename (News g' _ _ _) => N6
      refine' key ds.length ?cB ?cF ?cX ?cN ?cT ?ck [_, _] (_ :: _ :: _ :: _ :: rest) us rs 0 _ _ _ _ _ _ _ _ _ _ _ _ ?hnews ?hx ?hL ?hR ?c1 ?c2 hI0 ?c5 ?g1 ?g2 ?m1 ?m3 ?m4 ?m5 ?m6 ?e3 ?e4 ?e5 ?e6 ?e7 ?c3 ?c4 ?ret
      case cB => exact B'
      case cF => exact F6
      case cX => exact fun a o e => nomatch e
      case cN => exact N6
      case cT => exact T'
      case ck => rfl
      case hnews => rfl
      case hx => rw [show run ds 0 ds.length = ds by simp [run]]; exact hz
      case hL => rfl
      case hR => simp
      case c1 => omega
      case c2 => exact hp'
      case c5 => omega
      case g1 => exact List.forall_mem_cons.mpr ⟨Nat.ne_of_gt hDf, List.forall_mem_cons.mpr ⟨n0.symm, fun _ h => nomatch h⟩⟩
      case g2 =>
        refine List.forall_mem_cons.mpr ⟨Nat.ne_of_lt lD3, List.forall_mem_cons.mpr ⟨Nat.ne_of_lt lD.2.2.1, List.forall_mem_cons.mpr ⟨Nat.ne_of_lt lD.2.2.2.1, List.forall_mem_cons.mpr ⟨Nat.ne_of_lt lD.2.2.2.2.1, ?_⟩⟩⟩⟩
        exact all_ne_of_lt hRD (Nat.le_refl _)
      case m1 => exact List.mem_cons_self
      case m6 => k_mem
      case m3 => k_mem
      case m4 => k_mem
      case m5 => k_mem
      case e3 => assumption
      case e4 => assumption
      case e5 => assumption
      case e6 => exact d3
      case e7 => rw [← hqn]; exact d4
      case c3 => show dp + 1 + _ + 4 < _; omega
      case c4 => show un + 3 + _ + 64 < _; omega
      intro us7 h7 tk7 hI7 F7 N7
      rw [show run ds 0 ds.length = ds by simp [run], lay_full (by omega)] at hI7
      simp only [List.cons_append, List.nil_append] at N7
      (try dsimp only)
      repeat' (first | (k_unfold; (try dsimp only)) | (k_end; wrow_close) | (walk1) | (dsimp only; walk1) | (leave1; walk_say "STEP leave1"; try dsimp only) | fail "no step")
      rename (News h₀ _ _ _) => N8
      exact hret D us7 0 _ _ c' oc vs' t hI7 d3 d4 (by assumption) (news_sub N8 (by ((repeat' (refine List.forall_mem_cons.mpr ⟨by k_mem, ?_⟩)); intro p hp; first | ((repeat (first | exact hp | refine List.mem_cons_of_mem _ ?_)); done) | simp at hp)))
    · rename (z = 0) => hz0
      have hp : ds = [] := by
        rcases ds with _ | ⟨d, r⟩
        · rfl
        · have := ofD_pos (B := 2 ^ n.toNat) (Int.pow_pos (by decide)) hf ht (by simp)
          omega
      have hI1 : IntsAre us ds := by
        have : rs = ds := by rw [hrs, hp]; rfl
        exact this ▸ hI0
      rename (News h₀ _ _ _) => N5
      exact hret D us 0 _ _ c' oc vs' t hI1 d3 d4 (by assumption) (news_sub N5 (by ((repeat' (refine List.forall_mem_cons.mpr ⟨by k_mem, ?_⟩)); intro p hp; first | ((repeat (first | exact hp | refine List.mem_cons_of_mem _ ?_)); done) | simp at hp)))
  run_tac sqEnd
end
end Mine
end
end

section
open PySem PySem.W PyProof.Rows PyProof.Rows.LCg PySem.Calls
set_option maxRecDepth 100000
namespace Mine
theorem quot_of {A y q r : Int} (e : r = A - q * y) (h0 : 0 ≤ r) (h1 : r < y) : A / y = q ∧ A % y = r := by
  have hy : 0 < y := by omega
  have e2 : A = r + y * q := by rw [e, Int.mul_comm y q]; omega
  constructor
  · rw [e2, Int.add_mul_ediv_left _ _ (by omega), Int.ediv_eq_zero_of_lt h0 h1, Int.zero_add]
  · rw [e2, Int.add_mul_emod_self_left, Int.emod_eq_of_lt h0 h1]
theorem d3_cap {P x z y y1 y2 : Int} (hy : y = P * y1 + y2) : (x - y1 * P + y1) * P + z - (P - 1) * y2 = P * x + z - (P - 1) * y := by
  subst hy
  simp only [Int.add_mul, Int.sub_mul, Int.mul_add, Int.one_mul]
  rw [Int.mul_comm x P, Int.mul_comm y1 P, show P * y1 * P = P * (P * y1) by rw [Int.mul_comm (P * y1) P]]
  omega
theorem d3_div {P x z y y1 y2 : Int} (hy : y = P * y1 + y2) : (x % y1) * P + z - (x / y1) * y2 = P * x + z - (x / y1) * y := by
  subst hy
  have e := Int.emod_add_mul_ediv x y1
  generalize x / y1 = q at *
  generalize x % y1 = r at *
  subst e
  simp only [Int.mul_add]
  rw [Int.mul_comm r P, show P * (y1 * q) = q * (P * y1) by rw [← Int.mul_assoc, Int.mul_comm q]]
  omega
theorem d3_lt {P x z y q : Int} (hP : 0 < P) (hx : x < y) (hz : z < P) (hq : q = P - 1) : P * x + z - q * y < y := by
  subst hq
  have h := Int.mul_le_mul_of_nonneg_left (show x + 1 ≤ y by omega) (Int.le_of_lt hP)
  rw [Int.mul_add, Int.mul_one] at h
  rw [Int.sub_mul, Int.one_mul]
  omega
theorem d3_lt2 {P x z y y1 y2 : Int} (hP : 0 < P) (hz : z < P) (hy : y = P * y1 + y2) (hy20 : 0 ≤ y2) (hy1 : 0 < y1) (hx : 0 ≤ x) : (x % y1) * P + z - (x / y1) * y2 < y := by
  have h1 := Int.emod_lt_of_pos x hy1
  have h2 := Int.mul_le_mul_of_nonneg_right (show x % y1 + 1 ≤ y1 by omega) (Int.le_of_lt hP)
  rw [Int.add_mul, Int.one_mul, Int.mul_comm y1] at h2
  have h3 := Int.mul_nonneg (Int.ediv_nonneg hx (Int.le_of_lt hy1)) hy20
  omega
theorem top_lt {P x y y1 y2 : Int} (hP : 0 < P) (hx : x < y) (hy : y = P * y1 + y2) (hy2 : y2 < P) : x / P ≤ y1 := by
  have h : x < P * (y1 + 1) := by rw [Int.mul_add, Int.mul_one]; omega
  have := Int.ediv_lt_of_lt_mul hP (by rw [Int.mul_comm] at h; exact h)
  omega
theorem top_lt2 {P x y1 : Int} (hP : 0 < P) (h : x / P < y1) : x < P * y1 := by
  have h1 := Int.emod_lt_of_pos x hP
  have h2 := Int.emod_add_mul_ediv x P
  have h3 := Int.mul_le_mul_of_nonneg_left (show x / P + 1 ≤ y1 by omega) (Int.le_of_lt hP)
  rw [Int.mul_add, Int.mul_one] at h3
  omega
theorem bits_lt {x : Int} {n : Nat} (h0 : 0 ≤ x) (h : x < 2 ^ n) : Builtin.Int.intBits x ≤ n := by
  refine intBits_le_iff.mpr ?_
  have : ((x.natAbs : Nat) : Int) < ((2 ^ n : Nat) : Int) := by rw [Int.natAbs_of_nonneg h0]; push_cast; exact h
  exact Int.ofNat_lt.mp this
theorem pow_lt_mul {n : Nat} {a b : Int} (ha : 0 ≤ a) (hb : b < 2 ^ n) (hb0 : 0 ≤ b) (h : a < 2 ^ n * b) : a < 2 ^ (n + n) := by
  have hp : (0 : Int) < 2 ^ n := Int.pow_pos (by decide)
  have := Int.mul_le_mul_of_nonneg_left (Int.le_of_lt hb) (Int.le_of_lt hp)
  rw [Int.pow_add]
  omega
theorem three_put {m : PySem.Str → Option Value} {x1 x2 x3 : PySem.Str} {v1 v2 v3 : Value} (h1 : m x1 = some v1) (h2 : m x2 = some v2) (h3 : m x3 = some v3) :
    m = fun y => if y = x1 then some v1 else if y = x2 then some v2 else if y = x3 then some v3 else m y := by
  funext y
  by_cases e1 : y = x1
  · subst e1; simp only [if_true]; exact h1
  · by_cases e2 : y = x2
    · subst e2; simp only [if_neg e1, if_true]; exact h2
    · by_cases e3 : y = x3
      · subst e3; simp only [if_neg e1, if_neg e2, if_true]; exact h3
      · simp only [if_neg e1, if_neg e2, if_neg e3]
noncomputable def D3J (NN : List (Addr × Obj)) (A y : Int) (n : Nat) (m₁ : PySem.Str → Option Value) (news₁ : List (Addr × Obj)) : Prop :=
  ∃ (q r : Int) (tq tr ty : Tok), n = (-r).toNat ∧ r = A - q * y ∧ r < y ∧ m₁ (PySem.Str.ofString "r") = some (.int r tr) ∧ m₁ (PySem.Str.ofString "q") = some (.int q tq) ∧ m₁ (PySem.Str.ofString "b") = some (.int y ty) ∧ news₁ = NN
theorem four_put {m : PySem.Str → Option Value} {x1 x2 x3 x4 : PySem.Str} {v1 v2 v3 v4 : Value} (h1 : m x1 = some v1) (h2 : m x2 = some v2) (h3 : m x3 = some v3) (h4 : m x4 = some v4) :
    m = fun y => if y = x1 then some v1 else if y = x2 then some v2 else if y = x3 then some v3 else if y = x4 then some v4 else m y := by
  conv => lhs; rw [three_put h1 h2 h3]
  funext y
  by_cases e4 : y = x4
  · subst e4; simp only [if_true, h4]
  · simp only [if_neg e4]
noncomputable def PadJ (g : Heap) (L : Addr) (news : List (Addr × Obj)) (s : Shared) (x y : Int) (n : Nat) (s' : Shared) : Prop :=
  ∃ (h : Heap) (tk : Nat) (m₁ : PySem.Str → Option Value) (d H : Nat) (ta tb tn tp : Tok), s' = { s with heap := h, toks := tk } ∧ Fr g L h m₁ ∧ News g L h news ∧ (d = 1 ∨ d = 2) ∧ n + d = 2 * H + 1 ∧ m₁ (PySem.Str.ofString "a") = some (.int (x * d) ta) ∧ m₁ (PySem.Str.ofString "b") = some (.int (y * d) tb) ∧ m₁ (PySem.Str.ofString "n") = some (.int ((2 * H : Nat) : Int) tn) ∧ m₁ (PySem.Str.ofString "pad") = some (.int ((d : Int) - 1) tp)
section
noncomputable abbrev pairObj (q r : Int) (tq tr : Tok) : Obj := { cls := .type "tuple", data := .seq #[.int q tq, .int r tr] }
noncomputable def Div2 (w : World) (mean : ExcName → Option Value) (mg mb : PySem.Str → Option Value) (j : Nat) : Prop :=
  ∀ {A₀ : Around} {base h₀ : Heap} {outer : List Env} {L : Addr} {m : PySem.Str → Option Value} {news : List (Addr × Obj)} {s : Shared} {Q E : Value → Shared → Prop} {dp un : Nat} {gd : Option (List Code)} {cn : PySem.Str} {cs : Scope} {a : Addr} {ccd : Value} {cl : List (PySem.Str × Addr)}
    (B : Below A₀ base outer h₀) (F : Fr h₀ L s.heap m) (X : (hd.heap_39 w.params).In h₀) (N : News h₀ L s.heap news) (T : Top topProg LS mean mg mb h₀) (hk : cs.kind = .function) (n : Nat) (x y : Int) (tx ty tn : Tok) (hn : 1 ≤ n) (hj : n ≤ 4000 * 2 ^ j) (hj5 : n ≤ 130000) (hx0 : 0 ≤ x) (hx : x < 2 ^ n * y) (hy0 : 2 ^ n ≤ 2 * y) (hy : y < 2 ^ n)
    (hdp : dp + 2 * j + 4 < recursionLimit) (hu : un + 64 * j + 64 < cLine)
    (hret : ∀ D tq tr h' tk', Fr h₀ L h' m → News h₀ L h' ((D, pairObj (x / y) (x % y) tq tr) :: news) → Q (.ref D) { s with heap := h', toks := tk' }),
    wpAny (model PySem.Challenge.rw_xi0008_01.row.prog w) (ktrTop dp un gd cn cs L a ccd cl outer) (call (.ref 28) [.int x tx, .int y ty, .int (n : Int) tn]) Q E s
noncomputable def Div3 (w : World) (mean : ExcName → Option Value) (mg mb : PySem.Str → Option Value) (j : Nat) : Prop :=
  ∀ {A₀ : Around} {base h₀ : Heap} {outer : List Env} {L : Addr} {m : PySem.Str → Option Value} {news : List (Addr × Obj)} {s : Shared} {Q E : Value → Shared → Prop} {dp un : Nat} {gd : Option (List Code)} {cn : PySem.Str} {cs : Scope} {a : Addr} {ccd : Value} {cl : List (PySem.Str × Addr)}
    (B : Below A₀ base outer h₀) (F : Fr h₀ L s.heap m) (X : (hd.heap_39 w.params).In h₀) (N : News h₀ L s.heap news) (T : Top topProg LS mean mg mb h₀) (hk : cs.kind = .function) (n : Nat) (x z y y1 y2 : Int) (tx tz ty ty1 ty2 tn : Tok) (hn : 1 ≤ n) (hj : n ≤ 4000 * 2 ^ j) (hj5 : n ≤ 130000) (hx0 : 0 ≤ x) (hx : x < y) (hz0 : 0 ≤ z) (hz : z < 2 ^ n) (hy : y = 2 ^ n * y1 + y2) (hy20 : 0 ≤ y2) (hy2 : y2 < 2 ^ n) (hy10 : 2 ^ n ≤ 2 * y1) (hy1 : y1 < 2 ^ n)
    (hdp : dp + 2 * j + 5 < recursionLimit) (hu : un + 64 * j + 96 < cLine)
    (hret : ∀ D tq tr h' tk', Fr h₀ L h' m → News h₀ L h' ((D, pairObj ((2 ^ n * x + z) / y) ((2 ^ n * x + z) % y) tq tr) :: news) → Q (.ref D) { s with heap := h', toks := tk' }),
    wpAny (model PySem.Challenge.rw_xi0008_01.row.prog w) (ktrTop dp un gd cn cs L a ccd cl outer) (call (.ref 35) [.int x tx, .int z tz, .int y ty, .int y1 ty1, .int y2 ty2, .int (n : Int) tn]) Q E s
variable {w : World} {mean : ExcName → Option Value} {mg mb : PySem.Str → Option Value} {A₀ : Around} {base h₀ : Heap} {outer : List Env} {L : Addr} {m : PySem.Str → Option Value} {news : List (Addr × Obj)} {s : Shared} {Q E : Value → Shared → Prop}
variable {dp un : Nat} {gd : Option (List Code)} {cn : PySem.Str} {cs : Scope} {a : Addr} {ccd : Value} {cl : List (PySem.Str × Addr)}
set_option maxHeartbeats 4000000 in
theorem div3 {j : Nat} (key : Div2 w mean mg mb j) : Div3 w mean mg mb j := by
  run_tac sqBegin
  intro A₀ base h₀ outer L m news s Q E dp un gd cn cs a ccd cl B F X N T hk n x z y y1 y2 tx tz ty ty1 ty2 tn hn hj hj5 hx0 hx hz0 hz hy hy20 hy2 hy10 hy1 hdp hu hret
  revert X; k_fill; intro X
  refine wpAny_call ?_
  k_dflt cell_enter
  have hP : (0 : Int) < 2 ^ n := Int.pow_pos (by decide)
  have hPt : (2 : Int) ^ ((n : Int)).toNat = 2 ^ n := by rw [Int.toNat_natCast]
  have hb2 := bits_lt hy20 hy2
  repeat' (first | (k_unfold; (try dsimp only)) | (k_end; wrow_close) | ((fail_if_success (with_reducible show wpAny _ _ (binaryOp .RShift _ _) _ _ _)); walk1) | ((fail_if_success (with_reducible show wpAny _ _ (binaryOp .RShift _ _) _ _ _)); dsimp only; walk1) | (leave1; walk_say "STEP leave1"; try dsimp only) | fail "no step")
  refine rshift_int (by omega) ?_
  rw [hPt, Int.fdiv_eq_ediv_of_nonneg _ (Int.le_of_lt hP)]
  (try dsimp only)
  repeat' (first | (k_unfold; (try dsimp only)) | (k_end; wrow_close) | ((fail_if_success (with_reducible show wpAny _ _ (call (.ref _) _) _ _ _)); (fail_if_success (with_reducible show wpAny _ _ (binaryOp .LShift _ _) _ _ _)); walk1) | ((fail_if_success (with_reducible show wpAny _ _ (call (.ref _) _) _ _ _)); (fail_if_success (with_reducible show wpAny _ _ (binaryOp .LShift _ _) _ _ _)); dsimp only; walk1) | (leave1; walk_say "STEP leave1"; try dsimp only) | fail "no step")
  · rename (x / 2 ^ n = y1) => htop
    have h1b : Builtin.Int.intBits 1 = 1 := by decide
    have hxm := Int.emod_add_mul_ediv x (2 ^ n)
    have hxm1 := Int.emod_lt_of_pos x hP
    have hxm0 := Int.emod_nonneg x (Int.ne_of_gt hP)
    rw [htop] at hxm
    have hr0 : 0 ≤ x - y1 * 2 ^ n + y1 := by rw [Int.mul_comm]; omega
    have hr0b : Builtin.Int.intBits (x - y1 * 2 ^ n + y1) ≤ n + 1 := by
      refine bits_lt hr0 ?_
      rw [Int.pow_succ, Int.mul_comm y1]; omega
    have hqb : Builtin.Int.intBits ((2 : Int) ^ n - 1) ≤ n := bits_lt (by omega) (by omega)
    have hfin := d3_cap (P := 2 ^ n) (x := x) (z := z) hy
    rw [Int.mul_comm _ (2 ^ n)] at hfin
    have hflt := d3_lt (q := 2 ^ n - 1) hP hx hz rfl
    have hyb := bits_lt (by omega) hy1
    refine lshift_int (by omega) (by omega) ?_
    rw [hPt, Int.one_mul]
    (try dsimp only)
    repeat' (first | (k_unfold; (try dsimp only)) | (k_end; wrow_close) | ((fail_if_success (with_reducible show wpAny _ _ (binaryOp .LShift _ _) _ _ _)); walk1) | ((fail_if_success (with_reducible show wpAny _ _ (binaryOp .LShift _ _) _ _ _)); dsimp only; walk1) | (leave1; walk_say "STEP leave1"; try dsimp only) | fail "no step")
    refine lshift_int (by omega) (by omega) ?_
    rw [hPt]
    (try dsimp only)
    repeat' (first | (k_unfold; (try dsimp only)) | (k_end; wrow_close) | ((fail_if_success (with_reducible show wpAny _ _ (binaryOp .LShift _ _) _ _ _)); walk1) | ((fail_if_success (with_reducible show wpAny _ _ (binaryOp .LShift _ _) _ _ _)); dsimp only; walk1) | (leave1; walk_say "STEP leave1"; try dsimp only) | fail "no step")
    refine lshift_int (by omega) (by omega) ?_
    (try dsimp only)
    rw [hPt]
    repeat' (first | (k_unfold; (try dsimp only)) | (k_end; wrow_close) | ((fail_if_success (with_reducible show wpAny _ _ (binaryOp .BitOr _ _) _ _ _)); walk1) | ((fail_if_success (with_reducible show wpAny _ _ (binaryOp .BitOr _ _) _ _ _)); dsimp only; walk1) | (leave1; walk_say "STEP leave1"; try dsimp only) | fail "no step")
    refine or_int ?_
    rw [Int.mul_comm _ (2 ^ n), or_add hr0 hz0 hz]
    (try dsimp only)
    repeat' (first | (k_unfold; (try dsimp only)) | (k_end; wrow_close) | ((fail_if_success (with_reducible show wpAny _ _ (binaryOp .Mult _ _) _ _ _)); walk1) | ((fail_if_success (with_reducible show wpAny _ _ (binaryOp .Mult _ _) _ _ _)); dsimp only; walk1) | (leave1; walk_say "STEP leave1"; try dsimp only) | fail "no step")
    refine mul_int ?_ (IntMulOk.of_le hqb hb2 (by omega))
    (try dsimp only)
    repeat' (first | (k_unfold; (try dsimp only)) | (k_end; wrow_close) | ((fail_if_success (with_reducible show wpAny _ _ (exec (Stmt.While _ _ _ _) _) _ _ _)); walk1) | ((fail_if_success (with_reducible show wpAny _ _ (exec (Stmt.While _ _ _ _) _) _ _ _)); dsimp only; walk1) | (leave1; walk_say "STEP leave1"; try dsimp only) | fail "no step")
    rename (Fr _ _ _ _) => F3
    rename (News _ _ _ _) => N3
    rw [hfin] at F3
    refine While_inv2 (D3J _ (2 ^ n * x + z) y) F3 N3 (n₀ := (-(2 ^ n * x + z - (2 ^ n - 1) * y)).toNat) ⟨(2 ^ n - 1), _, _, _, _, rfl, rfl, hflt, rfl, rfl, rfl, rfl⟩ ?_
    rintro k m₁ news₁ h5 tk5 F5 N5 ⟨q, r, tq, tr, ty, rfl, hr, hry, e1, e2, e3, rfl⟩
    rw [three_put e1 e2 e3] at F5
    repeat' (first | (k_unfold; (try dsimp only)) | (k_end; wrow_close) | (walk1) | (dsimp only; walk1) | (leave1; walk_say "STEP leave1"; try dsimp only) | fail "no step")
    · rename (r < 0) => hneg
      rename (Fr _ _ _ _) => F6
      rename (News _ _ _ _) => N6
      exact ⟨_, _, _, _, (-(r + y)).toNat, rfl, F6, N6, by omega, q - 1, r + y, _, _, _, rfl, by rw [hr, Int.sub_mul, Int.one_mul]; omega, by omega, rfl, rfl, rfl, rfl⟩
    · rename (¬ (r < 0)) => hneg
      rename (Fr h₀ _ _ _) => F6
      rename (News h₀ _ _ _) => N6
      have hq := quot_of hr (by omega) hry
      rw [hq.1, hq.2] at hret
      exact hret _ _ _ _ _ F6 (news_drop2 N6)
  · rename (x / 2 ^ n ≠ y1) => htop
    have hle := top_lt hP hx hy hy2
    have hxl := top_lt2 (x := x) (y1 := y1) hP (by omega)
    have hy1p : 0 < y1 := by omega
    have hr0 := Int.emod_nonneg x (Int.ne_of_gt hy1p)
    have hr1 := Int.emod_lt_of_pos x hy1p
    have hr0b : Builtin.Int.intBits (x % y1) ≤ n + 1 := Nat.le_succ_of_le (bits_lt hr0 (Int.lt_trans hr1 hy1))
    have hqn : x / y1 < 2 ^ n := Int.ediv_lt_of_lt_mul hy1p hxl
    have hqb : Builtin.Int.intBits (x / y1) ≤ n := bits_lt (Int.ediv_nonneg hx0 (Int.le_of_lt hy1p)) hqn
    have hfin := d3_div (P := 2 ^ n) (x := x) (z := z) hy
    have hflt : 2 ^ n * x + z - x / y1 * y < y := by rw [← hfin]; exact d3_lt2 hP hz hy hy20 hy1p hx0
    rw [Int.mul_comm _ (2 ^ n)] at hfin
    rename (Fr _ _ _ _) => F2
    rename (News _ _ _ _) => N2
    refine' key ?cB ?cF ?cX ?cN ?cT ?ck n x y1 _ _ _ hn hj hj5 hx0 hxl hy10 hy1 ?c3 ?c4 ?_
    case cB => assumption
    case cF => exact F2
    case cX => assumption
    case cN => exact N2
    case cT => assumption
    case ck => rfl
    case c3 => show dp + 1 + _ + 4 < _; omega
    case c4 => show un + 3 + _ + 64 < _; omega
    intro D tq tr h3 tk3 F3 N3
    (try dsimp only)
    repeat' (first | (k_unfold; (try dsimp only)) | (k_end; wrow_close) | ((fail_if_success (with_reducible show wpAny _ _ (binaryOp .LShift _ _) _ _ _)); walk1) | ((fail_if_success (with_reducible show wpAny _ _ (binaryOp .LShift _ _) _ _ _)); dsimp only; walk1) | (leave1; walk_say "STEP leave1"; try dsimp only) | fail "no step")
    refine lshift_int (by omega) (by omega) ?_
    (try dsimp only)
    rw [hPt]
    repeat' (first | (k_unfold; (try dsimp only)) | (k_end; wrow_close) | ((fail_if_success (with_reducible show wpAny _ _ (binaryOp .BitOr _ _) _ _ _)); walk1) | ((fail_if_success (with_reducible show wpAny _ _ (binaryOp .BitOr _ _) _ _ _)); dsimp only; walk1) | (leave1; walk_say "STEP leave1"; try dsimp only) | fail "no step")
    refine or_int ?_
    rw [Int.mul_comm _ (2 ^ n), or_add hr0 hz0 hz]
    (try dsimp only)
    repeat' (first | (k_unfold; (try dsimp only)) | (k_end; wrow_close) | ((fail_if_success (with_reducible show wpAny _ _ (binaryOp .Mult _ _) _ _ _)); walk1) | ((fail_if_success (with_reducible show wpAny _ _ (binaryOp .Mult _ _) _ _ _)); dsimp only; walk1) | (leave1; walk_say "STEP leave1"; try dsimp only) | fail "no step")
    refine mul_int ?_ (IntMulOk.of_le hqb hb2 (by omega))
    (try dsimp only)
    repeat' (first | (k_unfold; (try dsimp only)) | (k_end; wrow_close) | ((fail_if_success (with_reducible show wpAny _ _ (exec (Stmt.While _ _ _ _) _) _ _ _)); walk1) | ((fail_if_success (with_reducible show wpAny _ _ (exec (Stmt.While _ _ _ _) _) _ _ _)); dsimp only; walk1) | (leave1; walk_say "STEP leave1"; try dsimp only) | fail "no step")
    rename (Fr _ _ _ _) => F3
    rename (News _ _ _ _) => N3
    rw [hfin] at F3
    refine While_inv2 (D3J _ (2 ^ n * x + z) y) F3 N3 (n₀ := (-(2 ^ n * x + z - (x / y1) * y)).toNat) ⟨(x / y1), _, _, _, _, rfl, rfl, hflt, rfl, rfl, rfl, rfl⟩ ?_
    rintro k m₁ news₁ h5 tk5 F5 N5 ⟨q, r, tq, tr, ty, rfl, hr, hry, e1, e2, e3, rfl⟩
    rw [three_put e1 e2 e3] at F5
    repeat' (first | (k_unfold; (try dsimp only)) | (k_end; wrow_close) | (walk1) | (dsimp only; walk1) | (leave1; walk_say "STEP leave1"; try dsimp only) | fail "no step")
    · rename (r < 0) => hneg
      rename (Fr _ _ _ _) => F6
      rename (News _ _ _ _) => N6
      exact ⟨_, _, _, _, (-(r + y)).toNat, rfl, F6, N6, by omega, q - 1, r + y, _, _, _, rfl, by rw [hr, Int.sub_mul, Int.one_mul]; omega, by omega, rfl, rfl, rfl, rfl⟩
    · rename (¬ (r < 0)) => hneg
      rename (Fr h₀ _ _ _) => F6
      rename (News h₀ _ _ _) => N6
      have hq := quot_of hr (by omega) hry
      rw [hq.1, hq.2] at hret
      exact hret _ _ _ _ _ F6 (news_drop2 N6)
  run_tac sqEnd
end
end Mine
end

section
open PySem PySem.W PyProof.Rows PyProof.Rows.LCg PySem.Calls
set_option maxRecDepth 100000
namespace Mine
theorem near_nopylong {x y : Int} {n : Nat} (hx : Builtin.Int.intBits x ≤ n + 4000) (hy : (2 : Int) ^ n ≤ 2 * y) : Builtin.divisionGoesByPylong x y = false := by
  have hp : (0 : Int) < 2 ^ n := Int.pow_pos (by decide)
  have hy0 : 0 < y := by omega
  have hyn : y.natAbs ≠ 0 := by omega
  have h1 := intBits_le_iff.mp hx
  have h2 : 2 ^ n ≤ 2 * y.natAbs := by
    have : ((2 ^ n : Nat) : Int) ≤ ((2 * y.natAbs : Nat) : Int) := by push_cast; omega
    exact Int.ofNat_le.mp this
  have h3 : n ≤ y.natAbs.log2 + 1 := by
    rcases n with _ | n
    · omega
    · have : 2 ^ n ≤ y.natAbs := by rw [Nat.pow_succ] at h2; omega
      have := (Nat.le_log2 hyn).mpr this
      omega
  unfold Builtin.divisionGoesByPylong
  by_cases hx0 : x = 0
  · subst hx0; simp
  · have hxn : x.natAbs ≠ 0 := by omega
    have h4 : x.natAbs.log2 < n + 4000 := (Nat.log2_lt hxn).mpr h1
    have hyb : (y == 0) = false := by simp; omega
    have hxb : (x == 0) = false := by simp; omega
    simp only [hyb, hxb, Bool.and_eq_false_iff, decide_eq_false_iff_not]
    right
    simp only [Bool.false_eq_true, if_false]
    omega
theorem d2_math {P X Y : Int} (hP : 0 < P) (hX0 : 0 ≤ X) (hX : X < P * P * Y) (hY : 0 < Y) :
    X / (P * P) < Y ∧ 0 ≤ X / (P * P) ∧ P * (X / (P * P)) + (X / P) % P = X / P ∧ (let A2 := P * ((X / P) % Y) + X % P; P * ((X / P) / Y) + A2 / Y = X / Y ∧ A2 % Y = X % Y ∧ 0 ≤ A2 / Y ∧ A2 / Y < P) := by
  have hPP : 0 < P * P := Int.mul_pos hP hP
  have h1 : X / (P * P) < Y := Int.ediv_lt_of_lt_mul hPP (by rw [Int.mul_comm]; exact hX)
  have h2 : 0 ≤ X / (P * P) := Int.ediv_nonneg hX0 (Int.le_of_lt hPP)
  have h3 : X / P / P = X / (P * P) := Int.ediv_ediv_of_nonneg (Int.le_of_lt hP)
  have h4 := Int.emod_add_mul_ediv (X / P) P
  rw [h3] at h4
  have hm0 := Int.emod_nonneg X (Int.ne_of_gt hP)
  have hm1 := Int.emod_lt_of_pos X hP
  have hr0 := Int.emod_nonneg (X / P) (Int.ne_of_gt hY)
  have hr1 := Int.emod_lt_of_pos (X / P) hY
  have hA0 : 0 ≤ P * ((X / P) % Y) + X % P := by have := Int.mul_nonneg (Int.le_of_lt hP) hr0; omega
  have hA1 : P * ((X / P) % Y) + X % P < P * Y := by
    have := Int.mul_le_mul_of_nonneg_left (show (X / P) % Y + 1 ≤ Y by omega) (Int.le_of_lt hP)
    rw [Int.mul_add, Int.mul_one] at this
    omega
  refine ⟨h1, h2, by omega, ?_⟩
  have e1 := Int.emod_add_mul_ediv X P
  have e2 := Int.emod_add_mul_ediv (X / P) Y
  have e3 := Int.emod_add_mul_ediv (P * ((X / P) % Y) + X % P) Y
  have hq := quot_of (A := X) (y := Y) (q := P * ((X / P) / Y) + (P * ((X / P) % Y) + X % P) / Y) (r := (P * ((X / P) % Y) + X % P) % Y) (by
    have e4 : P * (X / P) = P * ((X / P) % Y) + P * (Y * ((X / P) / Y)) := by rw [← Int.mul_add, e2]
    rw [Int.add_mul, Int.mul_assoc, Int.mul_comm (X / P / Y) Y, Int.mul_comm ((P * ((X / P) % Y) + X % P) / Y) Y]
    omega) (Int.emod_nonneg _ (Int.ne_of_gt hY)) (Int.emod_lt_of_pos _ hY)
  exact ⟨hq.1.symm, hq.2.symm, Int.ediv_nonneg hA0 (Int.le_of_lt hY), Int.ediv_lt_of_lt_mul hY hA1⟩
theorem pad_facts {x y : Int} {n d H : Nat} (hd : d = 1 ∨ d = 2) (hn : n + d = 2 * H + 1) (hx0 : 0 ≤ x) (hx : x < 2 ^ n * y) (hy0 : (2 : Int) ^ n ≤ 2 * y) (hy : y < 2 ^ n) :
    0 ≤ x * d ∧ x * d < 2 ^ H * 2 ^ H * (y * d) ∧ (2 : Int) ^ H * 2 ^ H ≤ 2 * (y * d) ∧ y * d < 2 ^ H * 2 ^ H ∧ (x * d) / (y * d) = x / y ∧ (x * d) % (y * d) = (x % y) * d := by
  have hp : (0 : Int) < 2 ^ n := Int.pow_pos (by decide)
  have hd0 : (0 : Int) < (d : Int) := by omega
  have e1 : (x * d) / (y * d) = x / y := Int.mul_ediv_mul_of_pos_left _ _ hd0
  have e2 : (x * d) % (y * d) = (x % y) * d := by rw [Int.mul_comm x, Int.mul_comm y, Int.mul_emod_mul_of_pos _ _ hd0, Int.mul_comm]
  have e3 : (2 : Int) ^ H * 2 ^ H = 2 ^ n * d := by
    rw [← Int.pow_add]
    rcases hd with rfl | rfl
    · rw [show H + H = n by omega]; simp
    · rw [show H + H = n + 1 by omega, Int.pow_succ]; rfl
  refine ⟨Int.mul_nonneg hx0 (Int.le_of_lt hd0), ?_, ?_, ?_, e1, e2⟩
  · rw [e3]
    have h1 : x * d < 2 ^ n * y * d := Int.mul_lt_mul_of_pos_right hx hd0
    have h2 : (2 : Int) ^ n * y * d ≤ 2 ^ n * d * (y * d) := by
      have : (2 : Int) ^ n * d * (y * d) = 2 ^ n * y * d * d := by rw [Int.mul_assoc, Int.mul_assoc, Int.mul_assoc]; congr 1; rw [← Int.mul_assoc, Int.mul_comm (d : Int) y, Int.mul_assoc]
      rw [this]
      have h0 := Int.mul_nonneg hx0 (Int.le_of_lt hd0)
      have h3 : 0 ≤ (2 : Int) ^ n * y * d := by omega
      have := Int.mul_le_mul_of_nonneg_left (show (1 : Int) ≤ d by omega) h3
      omega
    omega
  · rw [e3, ← Int.mul_assoc]; exact Int.mul_le_mul_of_nonneg_right hy0 (Int.le_of_lt hd0)
  · rw [e3]; exact Int.mul_lt_mul_of_pos_right hy hd0
theorem half_facts {Y : Int} {H : Nat} (hH : 1 ≤ H) (h1 : (2 : Int) ^ H * 2 ^ H ≤ 2 * Y) (h2 : Y < 2 ^ H * 2 ^ H) :
    (2 : Int) ^ H ≤ 2 * (Y / 2 ^ H) ∧ Y / 2 ^ H < 2 ^ H ∧ Y = 2 ^ H * (Y / 2 ^ H) + Y % 2 ^ H ∧ 0 ≤ Y % 2 ^ H ∧ Y % 2 ^ H < 2 ^ H := by
  have hp : (0 : Int) < 2 ^ H := Int.pow_pos (by decide)
  have e := Int.emod_add_mul_ediv Y (2 ^ H)
  refine ⟨?_, Int.ediv_lt_of_lt_mul hp h2, by omega, Int.emod_nonneg _ (Int.ne_of_gt hp), Int.emod_lt_of_pos _ hp⟩
  obtain ⟨K, rfl⟩ : ∃ K, H = K + 1 := ⟨H - 1, by omega⟩
  have hk : (2 : Int) ^ (K + 1) = 2 * 2 ^ K := by rw [Int.pow_succ, Int.mul_comm]
  have h3 : (2 : Int) ^ K * 2 ^ (K + 1) ≤ Y := by
    have : (2 : Int) ^ (K + 1) * 2 ^ (K + 1) = 2 * (2 ^ K * 2 ^ (K + 1)) := by conv => lhs; lhs; rw [hk]
                                                                               rw [Int.mul_assoc]
    omega
  have := (Int.le_ediv_iff_mul_le hp).mpr h3
  omega
theorem wp_join {M : Model} {A : Around} {t : Sem Flow} {Q : Flow → Shared → Prop} {E : Value → Shared → Prop} {s : Shared} {g h : Heap} {L : Addr} {m : PySem.Str → Option Value} (F : Fr g L h m) (J : Heap → Addr → Shared → Prop)
    (hh : wpAny M A t (fun f s' => f = Flow.next ∧ J g L s') E s) (hq : ∀ s', J g L s' → Q .next s') : wpAny M A t Q E s :=
  wpAny_mono hh (fun _ s' x => x.1 ▸ hq s' x.2) (fun _ _ x => x)
section
variable {w : World} {mean : ExcName → Option Value} {mg mb : PySem.Str → Option Value} {A₀ : Around} {base h₀ : Heap} {outer : List Env} {L : Addr} {m : PySem.Str → Option Value} {news : List (Addr × Obj)} {s : Shared} {Q E : Value → Shared → Prop}
variable {dp un : Nat} {gd : Option (List Code)} {cn : PySem.Str} {cs : Scope} {a : Addr} {ccd : Value} {cl : List (PySem.Str × Addr)}
set_option maxHeartbeats 4000000 in
theorem div2 {j : Nat} (key : ∀ i, i + 1 = j → Div3 w mean mg mb i) : Div2 w mean mg mb j := by
  run_tac sqBegin
  intro A₀ base h₀ outer L m news s Q E dp un gd cn cs a ccd cl B F X N T hk n x y tx ty tn hn hj hj5 hx0 hx hy0 hy hdp hu hret
  revert X; k_fill; intro X
  refine wpAny_call ?_
  k_dflt cell_enter
  have hPn : (0 : Int) < 2 ^ n := Int.pow_pos (by decide)
  have hyp : 0 < y := by omega
  have hxb : Builtin.Int.intBits x ≤ n + n := bits_lt hx0 (pow_lt_mul hx0 hy (by omega) hx)
  repeat' (first | (k_unfold; (try dsimp only)) | (k_end; wrow_close) | ((fail_if_success (with_reducible show wpAny _ _ (exec (Stmt.Assign [Expr.Name "pad" _] _ _) _) _ _ _)); (fail_if_success (with_reducible show wpAny _ _ (call (.builtin "divmod") _) _ _ _)); (fail_if_success (with_reducible show wpAny _ _ (binaryOp .BitAnd _ _) _ _ _)); walk1) | ((fail_if_success (with_reducible show wpAny _ _ (exec (Stmt.Assign [Expr.Name "pad" _] _ _) _) _ _ _)); (fail_if_success (with_reducible show wpAny _ _ (call (.builtin "divmod") _) _ _ _)); (fail_if_success (with_reducible show wpAny _ _ (binaryOp .BitAnd _ _) _ _ _)); dsimp only; walk1) | (leave1; walk_say "STEP leave1"; try dsimp only) | fail "no step")
  · have hfd : x.fdiv y = x / y := Int.fdiv_eq_ediv_of_nonneg _ (by omega)
    have hfm : x.fmod y = x % y := Int.fmod_eq_emod_of_nonneg _ (by omega)
    rename (Fr _ _ _ _) => F2
    rename (News _ _ _ _) => N2
    refine divmod_N F2 N2 (by omega) ?_ (Or.inl (near_nopylong (n := n) (by omega) hy0))
    rw [hfd, hfm]
    intro h3 F3 N3
    repeat' (first | (k_unfold; (try dsimp only)) | (k_end; wrow_close) | (walk1) | (dsimp only; walk1) | (leave1; walk_say "STEP leave1"; try dsimp only) | fail "no step")
    exact hret _ _ _ _ _ (by assumption) (by assumption)
  · rename (¬ ((Builtin.Int.intBits x : Int) - (n : Int) ≤ 4000)) => hbig
    have hn4 : 4000 < n := by omega
    rcases j with _ | i
    · omega
    have key3 : Div3 w mean mg mb i := key i rfl
    have hpar : Builtin.bitAnd (n : Int) 1 = (n : Int) % 2 := bitAnd_m1 _
    repeat' (first | (k_unfold; (try dsimp only)) | (k_end; wrow_close) | ((fail_if_success (with_reducible show wpAny _ _ (binaryOp .BitAnd _ _) _ _ _)); walk1) | ((fail_if_success (with_reducible show wpAny _ _ (binaryOp .BitAnd _ _) _ _ _)); dsimp only; walk1) | (leave1; walk_say "STEP leave1"; try dsimp only) | fail "no step")
    refine and_int ?_
    rw [hpar]
    (try dsimp only)
    repeat' (first | (k_unfold; (try dsimp only)) | (k_end; wrow_close) | ((fail_if_success (with_reducible show wpAny _ _ (exec (Stmt.If _ _ _ _) _) _ _ _)); walk1) | ((fail_if_success (with_reducible show wpAny _ _ (exec (Stmt.If _ _ _ _) _) _ _ _)); dsimp only; walk1) | (leave1; walk_say "STEP leave1"; try dsimp only) | fail "no step")
    rename (Fr _ _ _ _) => F2
    rename (News _ _ _ _) => N2
    refine wp_join F2 (fun g L s' => PadJ g L news s x y n s') ?hh ?qq
    case hh =>
      repeat' (first | (k_unfold; (try dsimp only)) | (k_end; wrow_close) | ((fail_if_success (with_reducible show wpAny _ _ (inplaceOp .LShift _ _) _ _ _)); walk1) | ((fail_if_success (with_reducible show wpAny _ _ (inplaceOp .LShift _ _) _ _ _)); dsimp only; walk1) | (leave1; walk_say "STEP leave1"; try dsimp only) | fail "no step")
      · rename ((n : Int) % 2 ≠ 0) => hodd
        have e2 : (2 : Int) ^ (1 : Int).toNat = ((2 : Nat) : Int) := rfl
        have hn1 : (n : Int) + 1 = ((2 * ((n + 1) / 2) : Nat) : Int) := by omega
        have hp1 : (n : Int) % 2 = ((2 : Nat) : Int) - 1 := by omega
        have hyb := bits_lt (Int.le_of_lt hyp) hy
        refine ilshift_int (by decide) (by omega) ?_
        rw [e2]
        (try dsimp only)
        repeat' (first | (k_unfold; (try dsimp only)) | (k_end; wrow_close) | ((fail_if_success (with_reducible show wpAny _ _ (inplaceOp .LShift _ _) _ _ _)); walk1) | ((fail_if_success (with_reducible show wpAny _ _ (inplaceOp .LShift _ _) _ _ _)); dsimp only; walk1) | (leave1; walk_say "STEP leave1"; try dsimp only) | fail "no step")
        refine ilshift_int (by decide) (by omega) ?_
        rw [e2]
        (try dsimp only)
        repeat' (first | (k_unfold; (try dsimp only)) | (k_end; wrow_close) | (walk1) | (dsimp only; walk1) | (leave1; walk_say "STEP leave1"; try dsimp only) | fail "no step")
        rename (Fr _ _ _ _) => F3
        rename (News _ _ _ _) => N3
        rw [hn1, hp1] at F3
        exact ⟨_, _, _, 2, (n + 1) / 2, _, _, _, _, rfl, F3, N3, Or.inr rfl, by omega, rfl, rfl, rfl, rfl⟩
      · rename ((n : Int) % 2 = 0) => heven
        have hp1 : (n : Int) % 2 = ((1 : Nat) : Int) - 1 := by omega
        rw [hp1] at F2
        have hn1 : (n : Int) = ((2 * (n / 2) : Nat) : Int) := by omega
        exact ⟨_, _, _, 1, n / 2, _, _, _, _, rfl, F2, N2, Or.inl rfl, by omega, by show some (Value.int x tx) = _; rw [Int.natCast_one, Int.mul_one], by show some (Value.int y ty) = _; rw [Int.natCast_one, Int.mul_one], by show some (Value.int (n : Int) tn) = _; rw [← hn1], rfl⟩
    case qq =>
      rintro s' ⟨h3, tk3, m₁, d, H, ta, tb, tn', tp, rfl, F3, N3, hd, hnH, e1, e2, e3, e4⟩
      rw [four_put e1 e2 e3 e4] at F3
      (try dsimp only)
      obtain ⟨p1, p2, p3, p4, p5, p6⟩ := pad_facts hd hnH hx0 hx hy0 hy
      have hH : 1 ≤ H := by omega
      obtain ⟨f1, f2, f3, f4, f5⟩ := half_facts hH p3 p4
      have hP : (0 : Int) < 2 ^ H := Int.pow_pos (by decide)
      have hPt : (2 : Int) ^ ((H : Int)).toNat = 2 ^ H := by rw [Int.toNat_natCast]
      have hPt2 : (2 : Int) ^ (((2 * H : Nat) : Int)).toNat = 2 ^ H * 2 ^ H := by rw [Int.toNat_natCast, ← Int.pow_add, show H + H = 2 * H by omega]
      have hYp : 0 < y * d := by have := Int.mul_pos hP hP; omega
      obtain ⟨g1, g2, g3, g4, g5, g6, g7⟩ := d2_math hP p1 p2 hYp
      have hhalf : (((2 * H : Nat) : Int)).fdiv (2 ^ (1 : Int).toNat) = (H : Int) := by
        rw [Int.fdiv_eq_ediv_of_nonneg _ (by decide)]; show (((2 * H : Nat) : Int)) / 2 = _; omega
      generalize hX : x * d = X at *
      generalize hY : y * d = Y at *
      repeat' (first | (k_unfold; (try dsimp only)) | (k_end; wrow_close) | ((fail_if_success (with_reducible show wpAny _ _ (exec (Stmt.Assign [Expr.Name "mask" _] _ _) _) _ _ _)); walk1) | ((fail_if_success (with_reducible show wpAny _ _ (exec (Stmt.Assign [Expr.Name "mask" _] _ _) _) _ _ _)); dsimp only; walk1) | (leave1; walk_say "STEP leave1"; try dsimp only) | fail "no step")
      rename (Fr _ _ _ _) => F4
      rw [hhalf] at F4
      have hPP : (0 : Int) ≤ 2 ^ H * 2 ^ H := Int.le_of_lt (Int.mul_pos hP hP)
      repeat' (first | (k_unfold; (try dsimp only)) | (k_end; wrow_close) | ((fail_if_success (with_reducible show wpAny _ _ (binaryOp .LShift _ _) _ _ _)); walk1) | ((fail_if_success (with_reducible show wpAny _ _ (binaryOp .LShift _ _) _ _ _)); dsimp only; walk1) | (leave1; walk_say "STEP leave1"; try dsimp only) | fail "no step")
      have h1b : Builtin.Int.intBits 1 = 1 := by decide
      refine lshift_int (by omega) (by omega) ?_
      rw [hPt, Int.one_mul]
      (try dsimp only)
      repeat' (first | (k_unfold; (try dsimp only)) | (k_end; wrow_close) | ((fail_if_success (with_reducible show wpAny _ _ (binaryOp .RShift _ _) _ _ _)); walk1) | ((fail_if_success (with_reducible show wpAny _ _ (binaryOp .RShift _ _) _ _ _)); dsimp only; walk1) | (leave1; walk_say "STEP leave1"; try dsimp only) | fail "no step")
      refine rshift_int (by omega) ?_
      rw [hPt, Int.fdiv_eq_ediv_of_nonneg _ (Int.le_of_lt hP)]
      (try dsimp only)
      repeat' (first | (k_unfold; (try dsimp only)) | (k_end; wrow_close) | ((fail_if_success (with_reducible show wpAny _ _ (binaryOp .BitAnd _ _) _ _ _)); walk1) | ((fail_if_success (with_reducible show wpAny _ _ (binaryOp .BitAnd _ _) _ _ _)); dsimp only; walk1) | (leave1; walk_say "STEP leave1"; try dsimp only) | fail "no step")
      refine and_int ?_
      rw [kbt_mask]
      (try dsimp only)
      repeat' (first | (k_unfold; (try dsimp only)) | (k_end; wrow_close) | ((fail_if_success (with_reducible show wpAny _ _ (binaryOp .RShift _ _) _ _ _)); walk1) | ((fail_if_success (with_reducible show wpAny _ _ (binaryOp .RShift _ _) _ _ _)); dsimp only; walk1) | (leave1; walk_say "STEP leave1"; try dsimp only) | fail "no step")
      refine rshift_int (by omega) ?_
      rw [hPt2, Int.fdiv_eq_ediv_of_nonneg _ hPP]
      (try dsimp only)
      repeat' (first | (k_unfold; (try dsimp only)) | (k_end; wrow_close) | ((fail_if_success (with_reducible show wpAny _ _ (binaryOp .RShift _ _) _ _ _)); walk1) | ((fail_if_success (with_reducible show wpAny _ _ (binaryOp .RShift _ _) _ _ _)); dsimp only; walk1) | (leave1; walk_say "STEP leave1"; try dsimp only) | fail "no step")
      refine rshift_int (by omega) ?_
      rw [hPt, Int.fdiv_eq_ediv_of_nonneg _ (Int.le_of_lt hP)]
      (try dsimp only)
      repeat' (first | (k_unfold; (try dsimp only)) | (k_end; wrow_close) | ((fail_if_success (with_reducible show wpAny _ _ (binaryOp .BitAnd _ _) _ _ _)); walk1) | ((fail_if_success (with_reducible show wpAny _ _ (binaryOp .BitAnd _ _) _ _ _)); dsimp only; walk1) | (leave1; walk_say "STEP leave1"; try dsimp only) | fail "no step")
      refine and_int ?_
      rw [kbt_mask]
      (try dsimp only)
      repeat' (first | (k_unfold; (try dsimp only)) | (k_end; wrow_close) | ((fail_if_success (with_reducible show wpAny _ _ (call (.ref _) _) _ _ _)); walk1) | ((fail_if_success (with_reducible show wpAny _ _ (call (.ref _) _) _ _ _)); dsimp only; walk1) | (leave1; walk_say "STEP leave1"; try dsimp only) | fail "no step")
      rename (Fr _ _ _ _) => F5
      rename (News _ _ _ _) => N5
      refine' key3 ?cB ?cF ?cX ?cN ?cT ?ck H (X / (2 ^ H * 2 ^ H)) (X / 2 ^ H % 2 ^ H) Y (Y / 2 ^ H) (Y % 2 ^ H) _ _ _ _ _ _ hH (by omega) (by omega) ?x0 ?x1 ?z0 ?z1 f3 f4 f5 f1 f2 ?c3 ?c4 ?_
      case cB => assumption
      case cF => exact F5
      case cX => assumption
      case cN => exact N5
      case cT => assumption
      case ck => rfl
      case c3 => show dp + 1 + _ + 5 < _; omega
      case c4 => show un + 3 + _ + 96 < _; omega
      case x0 => exact g2
      case x1 => exact g1
      case z0 => exact Int.emod_nonneg _ (Int.ne_of_gt hP)
      case z1 => exact Int.emod_lt_of_pos _ hP
      intro D1 tq1 tr1 h6 tk6 F6 N6
      rw [g3] at N6
      (try dsimp only)
      repeat' (first | (k_unfold; (try dsimp only)) | (k_end; wrow_close) | ((fail_if_success (with_reducible show wpAny _ _ (binaryOp .BitAnd _ _) _ _ _)); walk1) | ((fail_if_success (with_reducible show wpAny _ _ (binaryOp .BitAnd _ _) _ _ _)); dsimp only; walk1) | (leave1; walk_say "STEP leave1"; try dsimp only) | fail "no step")
      refine and_int ?_
      rw [kbt_mask]
      (try dsimp only)
      repeat' (first | (k_unfold; (try dsimp only)) | (k_end; wrow_close) | ((fail_if_success (with_reducible show wpAny _ _ (call (.ref _) _) _ _ _)); walk1) | ((fail_if_success (with_reducible show wpAny _ _ (call (.ref _) _) _ _ _)); dsimp only; walk1) | (leave1; walk_say "STEP leave1"; try dsimp only) | fail "no step")
      rename (Fr _ _ _ _) => F7
      rename (News _ _ _ _) => N7
      refine' key3 ?cB ?cF ?cX ?cN ?cT ?ck H (X / 2 ^ H % Y) (X % 2 ^ H) Y (Y / 2 ^ H) (Y % 2 ^ H) _ _ _ _ _ _ hH (by omega) (by omega) ?x0 ?x1 ?z0 ?z1 f3 f4 f5 f1 f2 ?c3 ?c4 ?_
      case cB => assumption
      case cF => exact F7
      case cX => assumption
      case cN => exact N7
      case cT => assumption
      case ck => rfl
      case c3 => show dp + 1 + _ + 5 < _; omega
      case c4 => show un + 3 + _ + 96 < _; omega
      case x0 => exact Int.emod_nonneg _ (Int.ne_of_gt hYp)
      case x1 => exact Int.emod_lt_of_pos _ hYp
      case z0 => exact Int.emod_nonneg _ (Int.ne_of_gt hP)
      case z1 => exact Int.emod_lt_of_pos _ hP
      intro D2 tq2 tr2 h8 tk8 F8 N8
      (try dsimp only)
      rw [g5] at N8
      have hq0 : 0 ≤ X / 2 ^ H / Y := Int.ediv_nonneg (Int.ediv_nonneg p1 (Int.le_of_lt hP)) (Int.le_of_lt hYp)
      have hqP : X / 2 ^ H / Y < 2 ^ H := Int.ediv_lt_of_lt_mul hYp (Int.ediv_lt_of_lt_mul hP (by rw [Int.mul_assoc, Int.mul_comm Y, ← Int.mul_assoc]; exact p2))
      have hqb := bits_lt hq0 hqP
      repeat' (first | (k_unfold; (try dsimp only)) | (k_end; wrow_close) | ((fail_if_success (with_reducible show wpAny _ _ (inplaceOp .RShift _ _) _ _ _)); (fail_if_success (with_reducible show wpAny _ _ (binaryOp .LShift _ _) _ _ _)); walk1) | ((fail_if_success (with_reducible show wpAny _ _ (inplaceOp .RShift _ _) _ _ _)); (fail_if_success (with_reducible show wpAny _ _ (binaryOp .LShift _ _) _ _ _)); dsimp only; walk1) | (leave1; walk_say "STEP leave1"; try dsimp only) | fail "no step")
      · have hd2 : d = 2 := by omega
        subst hd2
        have hr2 : (X % Y).fdiv (2 ^ (1 : Int).toNat) = x % y := by
          rw [p6, Int.fdiv_eq_ediv_of_nonneg _ (by decide)]; show (x % y * 2) / 2 = _; omega
        refine irshift_int (by decide) ?_
        rw [hr2]
        (try dsimp only)
        repeat' (first | (k_unfold; (try dsimp only)) | (k_end; wrow_close) | ((fail_if_success (with_reducible show wpAny _ _ (binaryOp .LShift _ _) _ _ _)); walk1) | ((fail_if_success (with_reducible show wpAny _ _ (binaryOp .LShift _ _) _ _ _)); dsimp only; walk1) | (leave1; walk_say "STEP leave1"; try dsimp only) | fail "no step")
        refine lshift_int (by omega) (by omega) ?_
        rw [hPt, Int.mul_comm _ (2 ^ H)]
        (try dsimp only)
        repeat' (first | (k_unfold; (try dsimp only)) | (k_end; wrow_close) | ((fail_if_success (with_reducible show wpAny _ _ (binaryOp .BitOr _ _) _ _ _)); walk1) | ((fail_if_success (with_reducible show wpAny _ _ (binaryOp .BitOr _ _) _ _ _)); dsimp only; walk1) | (leave1; walk_say "STEP leave1"; try dsimp only) | fail "no step")
        refine or_int ?_
        rw [or_add hq0 g6 g7, g4, p5]
        (try dsimp only)
        repeat' (first | (k_unfold; (try dsimp only)) | (k_end; wrow_close) | (walk1) | (dsimp only; walk1) | (leave1; walk_say "STEP leave1"; try dsimp only) | fail "no step")
        rename (Fr h₀ _ _ _) => F9
        rename (News h₀ _ _ _) => N9
        exact hret _ _ _ _ _ F9 (news_drop2 (news_drop2 (news_drop2 N9)))
      · have hd1 : d = 1 := by omega
        subst hd1
        rename (Fr _ _ _ _) => F8
        rename (News _ _ _ _) => N8
        rw [Int.natCast_one, Int.mul_one] at p6
        rw [p6] at F8 N8
        refine lshift_int (by omega) (by omega) ?_
        rw [hPt, Int.mul_comm _ (2 ^ H)]
        (try dsimp only)
        repeat' (first | (k_unfold; (try dsimp only)) | (k_end; wrow_close) | ((fail_if_success (with_reducible show wpAny _ _ (binaryOp .BitOr _ _) _ _ _)); walk1) | ((fail_if_success (with_reducible show wpAny _ _ (binaryOp .BitOr _ _) _ _ _)); dsimp only; walk1) | (leave1; walk_say "STEP leave1"; try dsimp only) | fail "no step")
        refine or_int ?_
        rw [or_add hq0 g6 g7, g4, p5]
        (try dsimp only)
        repeat' (first | (k_unfold; (try dsimp only)) | (k_end; wrow_close) | (walk1) | (dsimp only; walk1) | (leave1; walk_say "STEP leave1"; try dsimp only) | fail "no step")
        rename (Fr h₀ _ _ _) => F9
        rename (News h₀ _ _ _) => N9
        exact hret _ _ _ _ _ F9 (news_drop2 (news_drop2 (news_drop2 N9)))
  run_tac sqEnd
theorem div_all : ∀ j, Div2 w mean mg mb j := by
  intro j
  induction j with
  | zero => exact div2 fun i h => absurd h (Nat.succ_ne_zero i)
  | succ j ih =>
    refine div2 fun i h => ?_
    obtain rfl : i = j := by omega
    exact div3 ih
end
end Mine
end

section
open PySem PySem.W PyProof.Rows PyProof.Rows.LCg PySem.Calls
set_option maxRecDepth 100000
namespace Mine
section
variable {prog : Program} {w : World} {A₀ A : Around} {s : Shared} {base h₀ : Heap} {env : Env} {L : Addr} {m : PySem.Str → Option Value} {news : List (Addr × Obj)} {K : Frag} {p : Program} {loose : List PySem.Str} {mean : ExcName → Option Value} {mg mb : PySem.Str → Option Value}
    {R : Result → Shared → Prop} {qual name : PySem.Str} {params : Arguments} {body : List Stmt} {scope : Scope} {dV kV doc pm cdv ct oc : Value} {an od : Option Addr} {osl : Array (Option Value)} {f : Addr} {args : Args} {binds : List (PySem.Str × Value)}
/-- a helper with a try of its own, called from the law's frame, which may hold cells -/
theorem code_defT (B : Below A₀ base [] h₀) (F : Fr h₀ L s.heap m) (X₀ : K.In h₀) (N : News h₀ L s.heap news) (T : Top p loose mean mg mb h₀) (hA : A.frames = some [env]) (hf : env.frame = some L) (hke : env.scope.kind = .function)
    (ho : K.lookup f = some ⟨oc, od, .func (fnOf name qual params body scope dV kV doc pm an cdv ct), osl⟩) (hcd : codeIn K cdv qual = true) (hroom : A.depth < recursionLimit)
    (hbind : BindsTo s (fnOf name qual params body scope dV kV doc pm an cdv ct) args binds) (hloc : ∀ y ∈ binds, scope.names.lookup y.1 = some .local)
    (h : ∀ g L' h₁, Fr h₀ L g m → Fr g L' h₁ (fun y => binds.reverse.lookup y) → News g L' h₁ news → Below A base [env] g → K.In g → Top p loose mean mg mb g → KtsDicts ([env].filterMap (·.frame)) g →
      wpAny (model prog w) (A.deeper (envOf qual scope L' f cdv)) (execs body (envOf qual scope L' f cdv))
        (fun fl s' => LeaveS0 ([env].filterMap (·.frame)) h₀ L m g R (match fl with | .ret v => v | _ => .none) s')
        (fun e s' => wpAny (model prog w) (A.deeper (envOf qual scope L' f cdv)) (leaving (envOf qual scope L' f cdv) e) (fun _ s'' => R (.error e) s'') (fun e' s'' => R (.error e') s'') s')
        { s with heap := h₁, toks := s.toks + binds.length })
    (hco : scope.isCoroutine = false) (hgen : scope.isGenerator = false) (hk : scope.kind = .function)
    (hcell : ∀ x ∈ scope.names, x.2 ≠ .cell) : codeAny (model prog w) A (.call (.ref f) args) R s := by
  run_tac sqBegin
  have X := X₀.keeps F.keep
  obtain ⟨FG, BG, st, _⟩ := groundX (R := R) B F N hA hf hke
  have hfr : ∀ b, b ∈ [env].filterMap (·.frame) → b = L := fun b hb => by
    simp [hf] at hb; exact hb
  obtain ⟨oL, es, ep, hL, hLd, hLk, hLf⟩ := FG.ns
  refine codeAny_call_def (fd := fnOf name qual params body scope dV kV doc pm an cdv ct) (body := body) (binds := binds) hroom (X _ _ ho) rfl (T.nolimit.keeps F.keep) (codeRec_of X hcd) rfl hbind hcell hloc (fun h₁ hns hk₁ => ?_) hco hgen hk
  refine wpAny_mono (h _ s.heap.objs.size h₁ FG ⟨hns, fun b o e => hk₁ b o (of_hideAll _ e), Nat.le_of_eq (hideAll_size _ _)⟩
    (fun p hp => ⟨hk₁ _ _ (N p hp).1, Nat.ne_of_lt (Heap.lt_size (N p hp).1), hideAll_none _ (List.mem_map_of_mem hp)⟩) BG (X₀.keeps st) (T.keeps st) (fun b hb => (hfr b hb) ▸ ⟨oL, es, ep, hL, hLd⟩)) (fun fl s' hl => ?_) fun _ _ y => y
  obtain ⟨g', L', m', news', T', F', N', k⟩ := hl
  have nL₀ : h₀.get? L = none := kts_self F
  obtain ⟨sl, hs⟩ := T'.up hL
  have hkeep : ∀ b o, h₀.get? b = some o → s'.heap.get? b = some o := fun b o e =>
    F'.keep b o (T'.other b o (st b o e) fun q => by rw [hfr b q, nL₀] at e; cases e)
  have hfresh : ∀ p ∈ news', h₀.get? p.1 = none := fun p hp => by
    cases q : h₀.get? p.1 with
    | none => rfl
    | some o =>
      obtain ⟨sl', hs'⟩ := T'.up (st _ _ q)
      have hz := (N' p hp).2.2
      rw [hs'] at hz
      cases hz
  refine k ⟨⟨_, es, ep, F'.keep _ _ hs, hLd, hLk, hLf⟩, hkeep, F.above⟩ fun p hp => ⟨(N' p hp).1, fun q => ?_, hfresh p hp⟩
  have hz := (N' p hp).2.2
  rw [q, hs] at hz
  cases hz
  run_tac sqEnd
end
end Mine
end

section
open PySem PySem.W PyProof.Rows PyProof.Rows.LCg PySem.Calls
set_option maxRecDepth 100000
namespace Mine
section
open Builtin Builtin.Str Builtin.BaseException
variable {prog : Program} {w : World} {A : Around} {E : Value → Shared → Prop} {s : Shared} {h₀ : Heap} {K : Frag} {L e t C : Addr} {news : List (Addr × Obj)} {x : PySem.Str} {u : Tok}
theorem kind_bstr : builtinKind "BaseException.__str__" = some .slot := by decide +kernel
theorem split_bstr : splitId "BaseException.__str__" = some ("BaseException", "__str__") := by decide +kernel
theorem got_ty {M : Model} {h : Heap} {cls : Value} {vs : List Value} (N : News h₀ L h news) (G : Got news e t cls vs) : Looks M h (typeOf (.ref e)) cls := by
  run_tac sqBegin
  obtain ⟨oe, ot, ws, nt, h1, _, hc, _⟩ := G
  exact hc ▸ (Looks.ld (N _ h1).1).andThen .now
  run_tac sqEnd
theorem got_args {M : Model} {cls : Value} {vs : List Value} {Q : Value × List Value → Shared → Prop} (N : News h₀ L s.heap news) (G : Got news e t cls vs) (hq : Q (.ref t, vs) s) : wpAny M A (bexcArgs (.ref e)) Q E s := by
  run_tac sqBegin
  obtain ⟨oe, ot, ws, nt, h1, h2, hc, hd, h0, htc, htd⟩ := G
  unfold bexcArgs
  refine wpAny_bind (wpAny_field (N _ h1).1 hd h0 (wpAny_bind (wpAny_seqItems (N _ h2).1 htd ?_)))
  have : vs.toArray.toList = vs := by simp
  show wpAny M A (pure (Value.ref t, vs.toArray.toList)) Q E s
  rw [this]; exact wpAny_pure hq
  run_tac sqEnd
theorem own_bstr {cls : Value} {Q : Fin → Shared → Prop} (N : News h₀ L s.heap news) (G : Got news e t cls [.str x u]) (hq : Q (.done (.ret (.str x u))) s) : wpAny (model prog w) A (Builtin.«BaseException.__str__» ⟨[.ref e], []⟩) Q E s := by
  unfold Builtin.«BaseException.__str__»
  repeat (first | with_reducible refine got_args N G ?_ | wp_step)
  exact hq
theorem own_call {Q : Value → Shared → Prop} (X : K.In s.heap) (N : News h₀ L s.heap news) (G : Got news e t (.ref C) [.str x u]) (hb : subIn K (.ref C) (.type "BaseException") = some true) (hq : Q (.str x u) s) :
    wpAny (model prog w) A (call (.builtin "BaseException.__str__") [.ref e]) Q E s := by
  run_tac sqBegin
  refine wpAny_call (codeAny_call_builtin PySem.F.excStr_Exception.str.plain PySem.F.entry_bexc_str ?_)
  simp only [checkBuiltinCall, kind_bstr, split_bstr]
  refine wpAny_bind (wpAny_bind ((got_ty N G).here ((looks_subIn X hb).here ?_)))
  simp only [Bool.not_true, Bool.false_eq_true, if_false]
  have ha : (match Manifest.signature? "BaseException.__str__" with | some sig => Bind.checkArgs "BaseException.__str__" sig ⟨[.ref e], []⟩ | none => pure ()) = pure () := PySem.F.args_bexc_str (.ref e)
  refine wpAny_of_eq ha ?_
  refine wpAny_mono (own_bstr N G (Q := fun fin s' => ∃ v, fin = .done (.ret v) ∧ Q v s') ⟨_, rfl, hq⟩) (fun fin s' h' => ?_) fun _ _ h' => h'
  obtain ⟨v, rfl, hv⟩ := h'; exact hv
  run_tac sqEnd
theorem own_special {Q : Option Value → Shared → Prop} (X : K.In s.heap) (N : News h₀ L s.heap news) (G : Got news e t (.ref C) [.str x u]) (hs : findIn K (.ref C) "__str__" = some (some (.builtin "BaseException.__str__"))) (hb : subIn K (.ref C) (.type "BaseException") = some true) (hq : Q (some (.str x u)) s) :
    wpAny (model prog w) A (callSpecial? (.ref e) (PySem.Str.ofString "__str__")) Q E s := by
  refine wpAny_bind (wpAny_bind ((got_ty N G).here ((looks_findIn X hs).here ?_)))
  simp only [PySem.F.excStr_Exception.str.bind]
  exact wpAny_holding (wpAny_bind (wpAny_pure (wpAny_bind (wpAny_mono (own_call X N G hb (Q := fun v => Q (some v)) hq) (fun v s' h' => wpAny_pure h') fun _ _ h' => h'))))
theorem own_strOf {Q : Value → Shared → Prop} (hu : A.units < cLine) (X : K.In s.heap) (N : News h₀ L s.heap news) (G : Got news e t (.ref C) [.str x u]) (hs : findIn K (.ref C) "__str__" = some (some (.builtin "BaseException.__str__"))) (hb : subIn K (.ref C) (.type "BaseException") = some true) (hq : Q (.str x u) s) :
    wpAny (model prog w) A (PySem.Builtin.Str.strOf (.ref e)) Q E s := by
  unfold PySem.Builtin.Str.strOf
  rw [show isExactStr (.ref e) = false from rfl]
  refine wpAny_bind (m := cRoomFor _ _) (wpAny_cRoomFor hu ?_)
  exact wpAny_bind (m := callSpecial? (.ref e) (Str.ofString "__str__")) (own_special X N G hs hb (wpAny_pure hq))
theorem own_str {Q : Value → Shared → Prop} (hu : A.in1.in1.units < cLine) (X : K.In s.heap) (N : News h₀ L s.heap news) (G : Got news e t (.ref C) [.str x u]) (hs : findIn K (.ref C) "__str__" = some (some (.builtin "BaseException.__str__"))) (hb : subIn K (.ref C) (.type "BaseException") = some true) (hq : Q (.str x u) s) :
    wpAny (model prog w) A (call (.type "str") [.ref e]) Q E s := by
  run_tac sqBegin
  refine callType_codes (T := "str") (Bi := Builtin.«object.__init__») (Q₁ := fun r s₁ => ∃ y u, r = .str y u ∧ Q r s₁) PySem.F.called_str (PySem.F.typeCall_str_1 _) PySem.F.entry_object_init ?_ ?_
  · refine codeAny_of_tree ?_
    show wpAny _ A.in1.in1 (do checkBuiltinCall "str.__new__" ⟨[.type "str", .ref e], []⟩; again (.builtin "str.__new__" ⟨[.type "str", .ref e], []⟩)) _ _ s
    refine wpAny_bind (wpAny_of_eq (PySem.F.newCall_str_1 _) (wpAny_pure ⟨plainId_quiet (by decide +kernel) _, codeAny_builtin PySem.F.entry_str_new ?_⟩))
    rw [Around.under_plainId (by decide +kernel) _]
    rw [str_new_tree]
    refine wpAny_bind (wpAny_pure ?_)
    refine wpAny_bind (wpAny_of_eq isSubtype_str_str ?_)
    refine wpAny_bind (wpAny_mono (own_strOf hu X N G hs hb (Q := fun r s₁ => ∃ y u, r = .str y u ∧ Q r s₁) ⟨_, _, rfl, hq⟩) (fun r s₁ hr => wpAny_pure hr) fun _ _ y => y)
  · rintro obj s₁ ⟨y, u, rfl, hq⟩
    exact ⟨typeIs_str _ _ _, PySem.F.args_object_init_2 _ _, object_init_meets PySem.F.called_str.init.lookup PySem.F.called_str.made (by decide) prog w A.in1 _ s₁ ⟨typeIs_str _ _ _, rfl, hq⟩⟩
  run_tac sqEnd
end
end Mine
end

section
open PySem PySem.W PyProof.Rows PyProof.Rows.LCg PySem.Calls
set_option maxRecDepth 100000
namespace Mine
/-- the contexts that hold the claim's caller -/
noncomputable def HasB (Γ : Ctx) : Prop := ((Γ.below.map (·.1)).any Code.isCaller) = true
noncomputable def HasC (Γ : Ctx) : Prop := (((Γ.code, (default : Pos)) :: Γ.below).map (·.1)).any Code.isCaller = true
noncomputable def wpC {α : Type} (M : Model) (A : Around) (t : Sem α) (Q : α → Shared → Prop) (E : Value → Shared → Prop) (s : Shared) : Prop :=
  ∀ Γ p, Γ.In A → HasC Γ → Sem.wp M Γ t (fun a _ s' => Q a s') (fun e _ s' => E e s') p s
noncomputable def codeC (M : Model) (A : Around) (c : Code) (R : Result → Shared → Prop) (s : Shared) : Prop :=
  ∀ Γ p, Γ.code = c → Γ.Below A → HasB Γ → wpCode M Γ R p s
section
variable {α β : Type} {M : Model} {A : Around} {E : Value → Shared → Prop} {s : Shared}
theorem HasB.toC {Γ : Ctx} (h : HasB Γ) : HasC Γ := by
  unfold HasC
  rw [List.map_cons, List.any_cons, show (Γ.below.map (·.1)).any Code.isCaller = true from h, Bool.or_true]
theorem HasC.enter {Γ : Ctx} {c : Code} {hd : Option Value} {p : Pos} (h : HasC Γ) : HasB (Γ.enter c hd p) := by
  unfold HasB HasC at *
  exact h
theorem wpC_any {t : Sem α} {Q : α → Shared → Prop} (h : wpAny M A t Q E s) : wpC M A t Q E s := fun Γ p hΓ _ => h Γ p hΓ
theorem codeC_any {c : Code} {R : Result → Shared → Prop} (h : codeAny M A c R s) : codeC M A c R s := fun Γ p hc hΓ _ => h Γ p hc hΓ
theorem wpC_pure {a : α} {Q : α → Shared → Prop} (h : Q a s) : wpC M A (pure a) Q E s := fun _ _ _ _ => h
theorem wpC_mono {t : Sem α} {Q Q' : α → Shared → Prop} {E' : Value → Shared → Prop} (h : wpC M A t Q E s)
    (hQ : ∀ a s, Q a s → Q' a s) (hE : ∀ e s, E e s → E' e s) : wpC M A t Q' E' s :=
  fun Γ p hΓ hc => Sem.wp_mono M Γ t (fun a _ s => hQ a s) (fun e _ s => hE e s) p s (h Γ p hΓ hc)
theorem codeC_mono {c : Code} {R R' : Result → Shared → Prop} (h : codeC M A c R s) (hR : ∀ r s, R r s → R' r s) : codeC M A c R' s :=
  fun Γ p hc hΓ hb => wpCode_mono hR (h Γ p hc hΓ hb)
theorem wpC_bind {m : Sem α} {f : α → Sem β} {Q : β → Shared → Prop} (h : wpC M A m (fun a s' => wpC M A (f a) Q E s') E s) :
    wpC M A (m >>= f) Q E s := fun Γ p hΓ hc => by
  rw [Sem.wp_bind']
  exact Sem.wp_mono M Γ m (fun a p' s' h' => h' Γ p' hΓ hc) (fun _ _ _ h' => h') p s (h Γ p hΓ hc)
theorem wpC_first {m : Sem α} {f : α → Sem β} {Q : β → Shared → Prop} (h : wpAny M A m (fun a s' => wpC M A (f a) Q E s') E s) :
    wpC M A (m >>= f) Q E s := wpC_bind (wpC_any h)
theorem wpC_then {m : Sem α} {f : α → Sem β} {Q : β → Shared → Prop} (h : wpC M A m (fun a s' => wpAny M A (f a) Q E s') E s) :
    wpC M A (m >>= f) Q E s := wpC_bind (wpC_mono h (fun _ _ x => wpC_any x) fun _ _ x => x)
theorem wpC_tryCatch {m : Sem α} {k : Value → Sem α} {Q : α → Shared → Prop} (h : wpC M A m Q (fun e s' => wpC M A (k e) Q E s') s) :
    wpC M A (tryCatch m k) Q E s := fun Γ p hΓ hc => by
  rw [Sem.wp_tryCatch']
  exact Sem.wp_mono M Γ m (fun _ _ _ h' => h') (fun e p' s' h' => h' Γ p' hΓ hc) p s (h Γ p hΓ hc)
theorem wpC_onRaise {m : Sem α} {k : Value → Sem Unit} {Q : α → Shared → Prop}
    (h : wpC M A m Q (fun e s' => wpC M A (k e) (fun _ s'' => E e s'') E s') s) : wpC M A (m.onRaise k) Q E s := fun Γ p hΓ hc => by
  rw [Sem.wp_onRaise]
  exact Sem.wp_mono M Γ m (fun _ _ _ h' => h') (fun e p' s' h' => h' Γ p' hΓ hc) p s (h Γ p hΓ hc)
theorem wpC_attempt {m : Sem α} {Q : Except Value α → Shared → Prop} (h : wpC M A m (fun a => Q (.ok a)) (fun e => Q (.error e)) s) :
    wpC M A m.attempt Q E s := fun Γ p hΓ hc => by rw [Sem.wp_attempt]; exact h Γ p hΓ hc
theorem wpC_holding {vs : List Value} {m : Sem α} {Q : α → Shared → Prop} (h : wpC M A m Q E s) : wpC M A (holding vs m) Q E s :=
  fun Γ p hΓ hc => by rw [Sem.wp_holding]; exact h Γ p hΓ hc
theorem wpC_runValue {c : Code} {Q : Value → Shared → Prop}
    (hc : codeC M A c (fun r s' => match r with | .ok (.ret v) => Q v s' | .ok _ => False | .error e => E e s') s) :
    wpC M A (runValue c) Q E s := fun Γ p hΓ hb => by rw [Sem.wp_runValue]; exact hc _ p rfl (hΓ.enter c none p (by intro x; cases x)) hb.enter
theorem wpC_call {f : Value} {pos : List Value} {kw : List (PySem.Str × Value)} {Q : Value → Shared → Prop}
    (hc : codeC M A (.call f ⟨pos, kw⟩) (fun r s' => match r with | .ok (.ret v) => Q v s' | .ok _ => False | .error e => E e s') s) :
    wpC M A (call f pos kw) Q E s := wpC_runValue hc
theorem codeC_of_tree {c : Code} {R : Result → Shared → Prop}
    (h : wpC M (A.under c) (M.den c) (fun fin s' => match fin with | .done f => R (.ok f) s' | .again c' => c'.quiet = true ∧ codeC M A c' R s')
      (fun e s' => R (.error e) s') s) : codeC M A c R s := fun Γ p hc hΓ hb => by
  rw [wpCode_iff_wp, hc]
  refine Sem.wp_mono M Γ _ (fun fin p' s' h' => ?_) (fun _ _ _ h' => h') p s (h Γ p (hc ▸ hΓ.in) hb.toC)
  cases fin with
  | done f => exact h'
  | again c' => exact ⟨h'.1, h'.2 (Γ.goto c') p' rfl (hΓ.goto c') hb⟩
end
section
variable {prog : Program} {w : World} {A : Around} {R : Result → Shared → Prop} {s : Shared}
theorem codeC_func {body env}
    (h : wpC (model prog w) (A.deeper env) (execs body env) (fun f s' => R (.ok (.ret (match f with | .ret v => v | _ => .none))) s')
      (fun e s' => wpAny (model prog w) (A.deeper env) (leaving env e) (fun _ s'' => R (.error e) s'') (fun e' s'' => R (.error e') s'') s') s) :
    codeC (model prog w) A (.func body env) R s := by
  refine codeC_of_tree ?_
  show wpC _ (A.deeper env) (do point; match ← (execs body env).onRaise (leaving env) with | .ret v => ret v | _ => ret .none) _ _ s
  refine wpC_first (wpAny_point (wpC_bind (wpC_onRaise (wpC_mono h (fun f s' h' => ?_) fun _ _ h' => wpC_any h'))))
  cases f <;> exact wpC_pure h'
theorem codeC_call_function {a : Addr} {args : Args} {o : Obj} {fd : FuncData} {body : List Stmt} (hroom : A.depth < recursionLimit)
    (ho : s.heap.get? a = some o)
    (hd' : o.data = .func fd) (hco : fd.scope.isCoroutine = false) (hgen : fd.scope.isGenerator = false) (hbody : fd.body = .stmts body) (hcd : s.heap.CodeRec fd.code fd.qualname)
    (h : wpAny (model prog w) A.in1 (bindArgs fd args) (fun binds s₁ =>
      wpAny (model prog w) A.in1 (newFunctionEnv fd.scope fd.globals fd.closure binds (fd.qualname ++ ".<locals>.") (some a) fd.code none fd.builtins)
        (fun env s₂ => s₂.heap.NoLimit ∧ codeC (model prog w) A (.func body env) R s₂) (fun e s' => R (.error e) s') s₁) (fun e s' => R (.error e) s') s) :
    codeC (model prog w) A (.call (.ref a) args) R s := by
  run_tac sqBegin
  refine codeC_of_tree ?_
  show wpC _ A.in1 (callAny (.ref a) args) _ _ s
  simp only [callAny]
  refine wpC_first (wpAny_load ho ?_)
  obtain ⟨c, oc, vs, tq, hc, hoc, hdc, hq⟩ := hcd
  simp only [hd', callFunction, hco, hgen, hbody, hc]
  rw [hc] at h
  refine wpC_first (m := field (.ref c) 1) (wpAny_field hoc hdc hq (wpC_first (wpAny_pure ?_)))
  exact wpC_first (wpAny_mono h (fun binds s₁ h₁ => wpC_first (wpAny_mono h₁ (fun env s₂ h₂ => wpC_first (wpAny_enterFrame h₂.1 hroom
    (wpC_pure (And.intro rfl h₂.2)))) fun _ _ h' => h')) fun _ _ h' => h')
  run_tac sqEnd
theorem codeC_call_def {a : Addr} {o : Obj} {fd : FuncData} {body : List Stmt} {args : Args} {binds : List (PySem.Str × Value)}
    (hroom : A.depth < recursionLimit) (ho : s.heap.get? a = some o) (hdata : o.data = .func fd) (hlim : s.heap.NoLimit) (hcd : s.heap.CodeRec fd.code fd.qualname)
    (hbody : fd.body = .stmts body) (hbind : BindsTo s fd args binds)
    (hcell : ∀ x ∈ fd.scope.names, x.2 ≠ .cell) (hloc : ∀ x ∈ binds, fd.scope.names.lookup x.1 = some .local)
    (h : ∀ h₀, h₀.Ns s.heap.objs.size (fun x => binds.reverse.lookup x) → (∀ b o, s.heap.get? b = some o → h₀.get? b = some o) →
      wpC (model prog w) (A.deeper (callEnv fd s.heap.objs.size a)) (execs body (callEnv fd s.heap.objs.size a)) (fun f s' => R (.ok (.ret (match f with | .ret v => v | _ => .none))) s')
        (fun e s' => wpAny (model prog w) (A.deeper (callEnv fd s.heap.objs.size a)) (leaving (callEnv fd s.heap.objs.size a) e) (fun _ s'' => R (.error e) s'') (fun e' s'' => R (.error e') s'') s')
        { s with heap := h₀, toks := s.toks + binds.length })
    (hco : fd.scope.isCoroutine = false := by rfl) (hgen : fd.scope.isGenerator = false := by rfl) (hk : fd.scope.kind = .function := by rfl) :
    codeC (model prog w) A (.call (.ref a) args) R s := by
  refine codeC_call_function hroom ho hdata hco hgen hbody hcd (hbind _ _ _ _ ?_)
  refine wpAny_newFunctionEnv hcell hloc (fun h₀ hns₀ hsb₀ => ⟨hlim.fresh _ hsb₀, codeC_func (h h₀ hns₀ fun b o e => ?_)⟩) hk
  exact hsb₀.extBut b o (Nat.ne_of_lt (Heap.lt_size e)) (Heap.get?_push_of_some _ e)
end
end Mine
end

section
open PySem PySem.W PyProof.Rows PyProof.Rows.LCg PySem.Calls
set_option maxRecDepth 100000
namespace Mine
open Lean Elab Tactic Meta in
def wpcDelta : TacticM Unit := liftMetaTactic fun g => g.withContext do
  let ty ← whnfCore (← instantiateMVars (← g.getType))
  unless ty.isAppOfArity ``Mine.wpC 7 do throwError "wpc_delta: no wpC goal"
  let args := ty.getAppArgs
  let t := args[3]!
  let t1 ← whnfCore t
  let t2 ← do
    if t1 != t then pure t1
    else
      let some n := t.getAppFn.constName? | throwError "wpc_delta: stuck"
      let stops : List Name := [``ite, ``dite, ``cond, ``PySem.load, ``PySem.newExc, ``PySem.markTheRefusal, ``PySem.pyRepr, ``PySem.mkStr, ``PySem.call, ``PySem.unsupported]
      if stops.contains n || (← isMatcher n) then throwError "wpc_delta: stops at {n}"
      let some t' ← unfoldDefinition? t | throwError "wpc_delta: cannot unfold {n}"
      whnfCore t'
  return [← g.replaceTargetDefEq (mkAppN ty.getAppFn (args.set! 3 t2))]
section
variable {α : Type} {M : Model} {A : Around} {E : Value → Shared → Prop} {s : Shared}
theorem wpC_ite_true {c : Prop} [Decidable c] {a b : Sem α} {Q : α → Shared → Prop} (hc : c) (h : wpC M A a Q E s) : wpC M A (if c then a else b) Q E s := by rw [if_pos hc]; exact h
theorem wpC_ite_false {c : Prop} [Decidable c] {a b : Sem α} {Q : α → Shared → Prop} (hc : ¬ c) (h : wpC M A b Q E s) : wpC M A (if c then a else b) Q E s := by rw [if_neg hc]; exact h
theorem mark_C {own : List String} {e : Value} {Q : Unit → Shared → Prop} (h : Q () s) : wpC M A (markTheRefusal own e) Q E s := fun Γ p hΓ hc => by
  have hf : pythonCodeMadeTheCall own (((Γ.code, p) :: Γ.below).map (·.1)) = false := by
    obtain ⟨c, hm, hcal⟩ := List.any_eq_true.mp (show ((((Γ.code, p) :: Γ.below).map (·.1)).any Code.isCaller) = true from hc)
    unfold pythonCodeMadeTheCall
    rw [Bool.and_eq_false_iff]; left
    rw [Bool.and_eq_false_iff]; left
    rw [Bool.not_eq_false']
    refine List.any_eq_true.mpr ⟨c, hm, ?_⟩
    unfold Code.isCaller at hcal
    split at hcal
    · rfl
    · cases hcal
  unfold markTheRefusal
  rw [Sem.wp_bind']
  show Sem.wp M Γ (if pythonCodeMadeTheCall own (((Γ.code, p) :: Γ.below).map (·.1)) = true then _ else _) _ _ p s
  rw [if_neg (by rw [hf]; exact Bool.false_ne_true)]
  exact h
end
section
variable {prog : Program} {w : World} {A : Around} {E : Value → Shared → Prop} {s : Shared}
theorem refuse_C {x : PySem.Str} {u : Tok} {Q : Value → Shared → Prop} (hh : A.handled = none) (hl : x.length ≤ 640)
    (h : ∀ h' tk e, Heap.NewExc s.heap h' e "ValueError" → E (.ref e) { s with heap := h', toks := tk }) (hc : ∀ c ∈ x.cps.toList, c < 16 ^ 8) :
    wpC (model prog w) A (do
      let shown ← pyRepr (.str x u)
      let refusal ← newExc (.type "ValueError") [← mkStr (((s!"invalid literal for int() with base {10}: " : String) ++ ⟨shown.cps.extract 0 200⟩ : PySem.Str))]
      markTheRefusal ["int.__new__"] refusal
      raiseNew refusal) Q E s := by
  refine wpC_first (wpAny_pyRepr_str ?_ ?_)
  · refine wpC_first (wpAny_mkStr ?_ ?_)
    · refine wpC_first (wpAny_newExc_plain plainExc_ValueError ?_)
      intro h' e hx
      refine wpC_bind (mark_C (wpC_any (wpAny_raiseNew_none hh ?_)))
      exact h h' _ e (Heap.MadeExc.newExc hx)
    · show (PySem.Str.ofString "invalid literal for int() with base 10: " ++ (⟨(reprText x).cps.extract 0 200⟩ : PySem.Str)).length ≤ sizeLine
      have h1 : ((⟨(reprText x).cps.extract 0 200⟩ : PySem.Str)).length ≤ 200 := by
        show ((reprText x).cps.extract 0 200).size ≤ 200
        rw [Array.size_extract]; omega
      have h2 : (PySem.Str.ofString "invalid literal for int() with base 10: ").length = 40 := by decide
      have h3 : ∀ a b : PySem.Str, (a ++ b).length = a.length + b.length := fun a b => by
        show (a.cps ++ b.cps).size = _
        exact Array.size_append
      rw [h3, h2]
      unfold sizeLine
      omega
  · have := StrLaws.reprText_len x hc
    unfold sizeLine
    omega
end
open PySem.NumText in
theorem text_raises {prog : Program} {w : World} {A : Around} {E : Value → Shared → Prop} {s : Shared} {Q : Value → Shared → Prop} {x : PySem.Str} {u : Tok} {text : List Nat} (hh : A.handled = none) (hl : x.length ≤ 640) (hc : ∀ c ∈ x.cps.toList, c < 16 ^ 8)
    (hs : (text.takeWhile (· != 0)).length ≤ 640) (hr : (int_private% "readNumeral") 0 10 (text.takeWhile (· != 0)) = (int_private% "Numeral.invalid") ∨ ∃ i, (int_private% "readNumeral") 0 10 (text.takeWhile (· != 0)) = (int_private% "Numeral.value") i ∧ ¬ ((text.takeWhile (· != 0)).length == text.length) = true)
    (h : ∀ h' tk e, Heap.NewExc s.heap h' e "ValueError" → E (.ref e) { s with heap := h', toks := tk }) :
    wpC (model prog w) A ((int_private% "intFromText") (.str x u) text 10) Q E s := by
  run_tac sqBegin
  have hfin := fun (Q : Value → Shared → Prop) (E : Value → Shared → Prop) (h : ∀ h' tk e, Heap.NewExc s.heap h' e "ValueError" → E (.ref e) { s with heap := h', toks := tk }) => refuse_C (prog := prog) (w := w) (s := s) (x := x) (u := u) (Q := Q) (E := E) hh hl h hc
  rcases hr with hr | ⟨i, hr, ha⟩
  · repeat (any_goals (first
      | assumption
      | (with_reducible refine wpC_ite_true hs ?_)
      | (first | with_reducible (first | refine wpC_pure ?_ | refine wpC_bind ?_ | refine wpC_holding ?_ | refine wpC_attempt ?_) | ((with_reducible apply wpC_ite_false); focus (rfl; done)) | ((with_reducible apply wpC_ite_true); focus (rfl; done)) | ((with_reducible apply wpC_ite_false); focus (simp [*]; done)) | ((with_reducible apply wpC_ite_true); focus (simp [*]; done)) | (with_reducible refine wpC_any (wpAny_rule ?_)) | (with_reducible refine wpC_any (wpAny_standAt ?_)) | (with_reducible refine wpC_any (wpAny_point ?_)) | (with_reducible refine wpC_any (wpAny_of_eq (by assumption) ?_)) | (with_reducible refine wpC_any (wpAny_typeOf (by assumption) ?_)) | (with_reducible refine wpC_any (wpAny_specialOf (by assumption) (by assumption) ?_)) | (with_reducible refine wpC_any (wpAny_isInstance (by assumption) (by assumption) ?_)) | run_tac wpcDelta | with_reducible_and_instances refine wpC_pure ?_ | with_reducible_and_instances refine wpC_bind ?_)))
    all_goals (try rw [hr])
    all_goals (try dsimp only)
    repeat (any_goals (first
      | assumption
      | exact hfin _ _ h
      | (with_reducible refine wpC_ite_true hs ?_)
      | (first | with_reducible (first | refine wpC_pure ?_ | refine wpC_bind ?_ | refine wpC_holding ?_ | refine wpC_attempt ?_) | ((with_reducible apply wpC_ite_false); focus (rfl; done)) | ((with_reducible apply wpC_ite_true); focus (rfl; done)) | ((with_reducible apply wpC_ite_false); focus (simp [*]; done)) | ((with_reducible apply wpC_ite_true); focus (simp [*]; done)) | (with_reducible refine wpC_any (wpAny_rule ?_)) | (with_reducible refine wpC_any (wpAny_standAt ?_)) | (with_reducible refine wpC_any (wpAny_point ?_)) | (with_reducible refine wpC_any (wpAny_of_eq (by assumption) ?_)) | (with_reducible refine wpC_any (wpAny_typeOf (by assumption) ?_)) | (with_reducible refine wpC_any (wpAny_specialOf (by assumption) (by assumption) ?_)) | (with_reducible refine wpC_any (wpAny_isInstance (by assumption) (by assumption) ?_)) | run_tac wpcDelta | with_reducible_and_instances refine wpC_pure ?_ | with_reducible_and_instances refine wpC_bind ?_)))
  · repeat (any_goals (first
      | assumption
      | (with_reducible refine wpC_ite_true hs ?_)
      | (first | with_reducible (first | refine wpC_pure ?_ | refine wpC_bind ?_ | refine wpC_holding ?_ | refine wpC_attempt ?_) | ((with_reducible apply wpC_ite_false); focus (rfl; done)) | ((with_reducible apply wpC_ite_true); focus (rfl; done)) | ((with_reducible apply wpC_ite_false); focus (simp [*]; done)) | ((with_reducible apply wpC_ite_true); focus (simp [*]; done)) | (with_reducible refine wpC_any (wpAny_rule ?_)) | (with_reducible refine wpC_any (wpAny_standAt ?_)) | (with_reducible refine wpC_any (wpAny_point ?_)) | (with_reducible refine wpC_any (wpAny_of_eq (by assumption) ?_)) | (with_reducible refine wpC_any (wpAny_typeOf (by assumption) ?_)) | (with_reducible refine wpC_any (wpAny_specialOf (by assumption) (by assumption) ?_)) | (with_reducible refine wpC_any (wpAny_isInstance (by assumption) (by assumption) ?_)) | run_tac wpcDelta | with_reducible_and_instances refine wpC_pure ?_ | with_reducible_and_instances refine wpC_bind ?_)))
    all_goals (try rw [hr])
    all_goals (try dsimp only)
    repeat (any_goals (first
      | assumption
      | exact hfin _ _ h
      | (with_reducible refine wpC_ite_true hs ?_)
      | (with_reducible refine wpC_ite_false ha ?_)
      | (first | with_reducible (first | refine wpC_pure ?_ | refine wpC_bind ?_ | refine wpC_holding ?_ | refine wpC_attempt ?_) | ((with_reducible apply wpC_ite_false); focus (rfl; done)) | ((with_reducible apply wpC_ite_true); focus (rfl; done)) | ((with_reducible apply wpC_ite_false); focus (simp [*]; done)) | ((with_reducible apply wpC_ite_true); focus (simp [*]; done)) | (with_reducible refine wpC_any (wpAny_rule ?_)) | (with_reducible refine wpC_any (wpAny_standAt ?_)) | (with_reducible refine wpC_any (wpAny_point ?_)) | (with_reducible refine wpC_any (wpAny_of_eq (by assumption) ?_)) | (with_reducible refine wpC_any (wpAny_typeOf (by assumption) ?_)) | (with_reducible refine wpC_any (wpAny_specialOf (by assumption) (by assumption) ?_)) | (with_reducible refine wpC_any (wpAny_isInstance (by assumption) (by assumption) ?_)) | run_tac wpcDelta | with_reducible_and_instances refine wpC_pure ?_ | with_reducible_and_instances refine wpC_bind ?_)))
  run_tac sqEnd
open PySem.NumText in
set_option maxHeartbeats 4000000 in
theorem int_raises {prog : Program} {w : World} {A : Around} {s : Shared} {x : PySem.Str} {u : Tok} {Q : Fin → Shared → Prop} {E : Value → Shared → Prop} (hh : A.handled = none) (hl : x.length ≤ 640) (hc : ∀ c ∈ x.cps.toList, c < 16 ^ 8) (hn : PySem.intText? x = none)
    (h : ∀ h' tk e, Heap.NewExc s.heap h' e "ValueError" → E (.ref e) { s with heap := h', toks := tk }) :
    wpC (model prog w) A (Builtin.«int.__new__» ⟨[.type "int", .str x u], []⟩) Q E s := by
  run_tac sqBegin
  have f1 := F.conv_sub_int
  have f2 := F.madeHere_int
  have f3 := KIN.str_int
  have f4 := KIN.str_idx
  have f5 := KIN.str_trunc
  have f6 : typeOf (.str x u) = pure (.type "str") := rfl
  have hs : (numSeenOf x).length ≤ 640 := Nat.le_trans (seen_length x) hl
  have hr : (int_private% "readNumeral") 0 10 (numSeenOf x) = (int_private% "Numeral.invalid") ∨ ∃ i, (int_private% "readNumeral") 0 10 (numSeenOf x) = (int_private% "Numeral.value") i ∧ ¬ ((numSeenOf x).length == (numTextOf x).length) = true := by
    rcases read0 x hs with ⟨m, h1, _⟩ | ⟨_, h2⟩
    · rw [hn] at h1; cases h1
    · exact h2
  repeat (any_goals (first
    | assumption
    | ((with_reducible show wpC _ _ ((int_private% "intFromText") _ _ _) _ _ _); refine text_raises hh hl hc hs hr h)
    | (first | with_reducible (first | refine wpC_pure ?_ | refine wpC_bind ?_ | refine wpC_holding ?_ | refine wpC_attempt ?_) | ((with_reducible apply wpC_ite_false); focus (rfl; done)) | ((with_reducible apply wpC_ite_true); focus (rfl; done)) | ((with_reducible apply wpC_ite_false); focus (simp [*]; done)) | ((with_reducible apply wpC_ite_true); focus (simp [*]; done)) | (with_reducible refine wpC_any (wpAny_rule ?_)) | (with_reducible refine wpC_any (wpAny_standAt ?_)) | (with_reducible refine wpC_any (wpAny_point ?_)) | (with_reducible refine wpC_any (wpAny_of_eq (by assumption) ?_)) | (with_reducible refine wpC_any (wpAny_typeOf (by assumption) ?_)) | (with_reducible refine wpC_any (wpAny_specialOf (by assumption) (by assumption) ?_)) | (with_reducible refine wpC_any (wpAny_isInstance (by assumption) (by assumption) ?_)) | run_tac wpcDelta | with_reducible_and_instances refine wpC_pure ?_ | with_reducible_and_instances refine wpC_bind ?_)))
  run_tac sqEnd
end Mine
end

section
open PySem PySem.W PyProof.Rows PyProof.Rows.LCg PySem.Calls
set_option maxRecDepth 100000
namespace Mine
section
variable {prog : Program} {w : World} {A : Around} {E : Value → Shared → Prop} {s : Shared} {R : Result → Shared → Prop}
theorem codeC_builtin {id : String} {args : Args} {b : Builtin} (hb : entryFor table id = some b)
    (h : wpC (model prog w) (A.under (.builtin id args)) (b args)
      (fun fin s' => match fin with | .done f => R (.ok f) s' | .again c' => c'.quiet = true ∧ codeC (model prog w) A c' R s') (fun e s' => R (.error e) s') s) :
    codeC (model prog w) A (.builtin id args) R s := by
  refine codeC_of_tree ?_
  show wpC _ _ (match entryFor table id with | some b => b args | none => unsupported ((withoutEnding? id "#data").getD id)) _ _ s
  rw [hb]; exact h
theorem codeC_call_builtin {id : String} {args : Args} {b : Builtin} (hp : plainId id = true) (hb : entryFor table id = some b) (hcn : checkBuiltinCall id args = pure ())
    (h : wpC (model prog w) A.in1 (b args)
      (fun fin s' => match fin with | .done f => R (.ok f) s' | .again c' => c'.quiet = true ∧ codeC (model prog w) A c' R s') (fun e s' => R (.error e) s') s) :
    codeC (model prog w) A (.call (.builtin id) args) R s := by
  refine codeC_of_tree ?_
  show wpC _ A.in1 (do checkBuiltinCall id args; again (.builtin id args)) _ _ s
  refine wpC_first (wpAny_of_eq hcn (wpC_pure ⟨plainId_quiet hp _, codeC_builtin hb ?_⟩))
  rw [Around.under_plainId hp _]
  exact h
set_option maxHeartbeats 4000000 in
theorem int_call_raises {x : PySem.Str} {u : Tok} {Q : Value → Shared → Prop} (hh : A.handled = none) (hl : x.length ≤ 640) (hc : ∀ c ∈ x.cps.toList, c < 16 ^ 8) (hn : PySem.intText? x = none)
    (h : ∀ h' tk e, Heap.NewExc s.heap h' e "ValueError" → E (.ref e) { s with heap := h', toks := tk }) :
    wpC (model prog w) A (call (.type "int") [.str x u]) Q E s := by
  run_tac sqBegin
  have ft := PySem.F.called_int
  obtain ⟨c, tl, hmro⟩ := ft.mro
  have hmade := ft.made
  have hsub := ft.sub
  have hct := PySem.F.typeCall_int_1 (.str x u)
  refine wpC_call (codeC_of_tree ?_)
  show wpC _ _ (callAny (.type "int") _) _ _ _
  refine wpC_pure ⟨Code.quiet_builtin _ (by decide +kernel), codeC_builtin PySem.F.entry_type_call ?_⟩
  rw [Around.under_plain (PySem.weight_type_call_type "int" [.str x u] []) rfl]
  have h1 := ft.notType
  have h2 := ft.canCreate
  repeat (any_goals (first | assumption | (first | with_reducible (first | refine wpC_pure ?_ | refine wpC_bind ?_ | refine wpC_holding ?_ | refine wpC_attempt ?_) | ((with_reducible apply wpC_ite_false); focus (rfl; done)) | ((with_reducible apply wpC_ite_true); focus (rfl; done)) | ((with_reducible apply wpC_ite_false); focus (simp [*]; done)) | ((with_reducible apply wpC_ite_true); focus (simp [*]; done)) | (with_reducible refine wpC_any (wpAny_rule ?_)) | (with_reducible refine wpC_any (wpAny_standAt ?_)) | (with_reducible refine wpC_any (wpAny_point ?_)) | (with_reducible refine wpC_any (wpAny_of_eq (by assumption) ?_)) | (with_reducible refine wpC_any (wpAny_typeOf (by assumption) ?_)) | (with_reducible refine wpC_any (wpAny_specialOf (by assumption) (by assumption) ?_)) | (with_reducible refine wpC_any (wpAny_isInstance (by assumption) (by assumption) ?_)) | run_tac wpcDelta | with_reducible_and_instances refine wpC_pure ?_ | with_reducible_and_instances refine wpC_bind ?_)))
  refine wpC_call (codeC_call_builtin ft.plain PySem.F.entry_int_new (PySem.F.newCall_int_1 (.str x u)) ?_)
  exact int_raises hh hl hc hn h
  run_tac sqEnd
end
end Mine
end

section
open PySem PySem.W PyProof.Rows PyProof.Rows.LCg PySem.Calls
set_option maxRecDepth 100000
namespace Mine
section
variable {M : Model} {A : Around} {E : Value → Shared → Prop} {s : Shared} {env : Env}
theorem wpC_execs_any {st rest} {Q : Flow → Shared → Prop}
    (h : wpAny M A (exec st env) (fun f s' => match f with | .next => wpC M A (execs rest env) Q E s' | f => Q f s') E s) :
    wpC M A (execs (st :: rest) env) Q E s := fun Γ p hΓ hc => by
  rw [execs_cons, Sem.wp_bind']
  refine Sem.wp_mono M Γ _ (fun f p' s' h' => ?_) (fun _ _ _ h' => h') _ _ (h Γ p hΓ)
  cases f <;> first | exact h' Γ p' hΓ hc | exact h'
theorem wpC_execs_cons {st rest} {Q : Flow → Shared → Prop}
    (h : wpC M A (exec st env) (fun f s' => match f with | .next => wpC M A (execs rest env) Q E s' | f => Q f s') E s) :
    wpC M A (execs (st :: rest) env) Q E s := fun Γ p hΓ hc => by
  rw [execs_cons, Sem.wp_bind']
  refine Sem.wp_mono M Γ _ (fun f p' s' h' => ?_) (fun _ _ _ h' => h') _ _ (h Γ p hΓ hc)
  cases f <;> first | exact h' Γ p' hΓ hc | exact h'
theorem wpC_Assign_Name {x pos' value pos} {Q : Flow → Shared → Prop}
    (h : wpC M A (eval value env) (fun v s₁ => wpAny M A (storeName env x v) (fun _ => Q .next) E s₁) E s)
    (hs : swapsWith value (some (.Name x pos')) pos.line env = pure false := by rfl) :
    wpC M A (exec (.Assign [.Name x pos'] value pos) env) Q E s := fun Γ p hΓ hc => by
  simp only [exec_Assign_Name env x pos' value pos hs, Sem.wp_bind', Sem.wp_cmd_standAt, Sem.wp_bindName, Sem.wp_pure']
  exact Sem.wp_mono M Γ _ (fun v _ s₁ h₁ => h₁ Γ _ hΓ) (fun _ _ _ h' => h') _ _ (h Γ _ hΓ hc)
theorem wpC_Return_some {e pos} {Q : Flow → Shared → Prop} (h : wpC M A (eval e env) (fun v s₁ => Q (.ret v) s₁) E s) :
    wpC M A (exec (.Return (some e) pos) env) Q E s := fun Γ p hΓ hc => by
  simp only [exec_Return_some, Sem.wp_bind', Sem.wp_cmd_standAt, Sem.wp_pure']
  exact h Γ _ hΓ hc
theorem wpC_isTrue_Compare1 {l op r pos whole} {Q : Bool → Shared → Prop}
    (h : wpC M A (eval l env) (fun a s₁ => wpAny M A (eval r env) (fun b s₂ => wpAny M A (compareOp op a b)
      (fun c s₃ => wpAny M A (truthy c) Q E s₃) E s₂) E s₁) E s)
    (hm : behindInMarks op r = false := by with_unfolding_all rfl) : wpC M A (isTrue (.Compare l [op] [r] pos) env whole) Q E s := fun Γ p hΓ hc => by
  simp only [isTrue_Compare1, markedBehindIn_of_false hm, Sem.wp_bind', Sem.wp_holding, Sem.wp_cmd_standAt, Sem.wp_operate]
  exact Sem.wp_mono M Γ _ (fun a p₁ s₁ h₁ => Sem.wp_mono M Γ _ (fun b _ s₂ h₂ => Sem.wp_mono M Γ _ (fun c p₃ s₃ h₃ => h₃ Γ p₃ hΓ)
    (fun _ _ _ h' => h') _ _ (h₂ Γ _ hΓ)) (fun _ _ _ h' => h') _ _ (h₁ Γ p₁ hΓ)) (fun _ _ _ h' => h') _ _ (h Γ p hΓ hc)
theorem wpC_If {test body orelse pos} {Q : Flow → Shared → Prop}
    (h : wpC M A (isTrue test env (eval test env))
      (fun b s₂ => if b then wpC M A (execs body env) Q E s₂ else wpC M A (execs orelse env) Q E s₂) E s) :
    wpC M A (exec (.If test body orelse pos) env) Q E s := fun Γ p hΓ hc => by
  simp only [exec_If, Sem.wp_bind', Sem.wp_cmd_standAt]
  refine Sem.wp_mono M Γ _ (fun b p₂ s₂ h₂ => ?_) (fun _ _ _ h' => h') _ _ (h Γ _ hΓ hc)
  cases b <;> exact h₂ Γ p₂ hΓ hc
theorem wpC_Call {func : Expr} {args : List Expr} {pos : Pos} {Q : Value → Shared → Prop}
    (h : wpAny M A (eval func env) (fun f s₁ => wpC M A (callWith pos f [] (backTo pos (starEach args env)) []) Q E s₁) E s)
    (he : eval (.Call func args [] pos) env = (do callWith pos (← eval func env) [] (backTo pos (starEach args env)) (backToKw pos (keywordEach [] env))) := by rfl) :
    wpC M A (eval (.Call func args [] pos) env) Q E s := by
  rw [he]; exact wpC_first h
theorem wpC_tail {t : Sem Value} {Q : Value → Shared → Prop} (ht : wpC M A t Q E s) : wpC M A (t >>= fun r => holding [r] point >>= fun _ => pure r) Q E s :=
  wpC_bind (wpC_mono ht (fun r s₂ hr => wpC_first (wpAny_holding (wpAny_point (wpC_pure hr)))) fun _ _ x => x)
theorem wpC_keep {t : Sem α} {mk : Value} {Q : α → Shared → Prop} (h : wpC M A t Q E s) : wpC M A (Sem.keep [mk] t) Q E s := fun Γ p hΓ hc => by
  first | exact h Γ p hΓ hc | (rw [Sem.wp_keep]; exact h Γ p hΓ hc)
theorem wpC_callWith {P : Heap → Prop} {f : Value} {first : List Value} {pos : Pos} {args : List (Bool × Sem Value)} {keywords : List (Option PySem.Str × Sem Value)} {Q : Value → Shared → Prop} (hplain : (args.any (·.1) || keywords.any (·.1.isNone)) = false)
    (hk : ∀ h, P h → ∃ k, (k = Keeper.frame ∨ k = Keeper.machine ∨ k = Keeper.boundFrame) ∧ Looks M h (keeperOf f) k)
    (h : wpAny M A (evalArgs f true args keywords) (fun a s₁ => P s₁.heap ∧ wpC M A (call f (first ++ a.pos) a.kw) Q E s₁) E s) : wpC M A (callWith pos f first args keywords) Q E s := by
  run_tac sqBegin
  unfold callWith
  refine wpC_first (wpAny_holding (wpAny_mono h (fun a s₁ h₁ => wpC_first (wpAny_standAt ?_)) fun _ _ x => x))
  obtain ⟨k, hk', L⟩ := hk _ h₁.1
  simp only [hplain]
  refine wpC_first (L.here ?_)
  have marked (mk : Value) : wpC M A (callMarked mk f (first ++ a.pos) a.kw) Q E s₁ := by unfold callMarked; exact wpC_keep h₁.2
  rcases hk' with rfl | rfl | rfl <;> dsimp only <;> first | exact wpC_tail h₁.2 | (split <;> first | exact wpC_tail h₁.2 | exact wpC_tail (marked _))
  run_tac sqEnd
theorem wpC_callWith_ref {q : Addr} {e : Expr} {rest : List Expr} {pos : Pos} {first : List Value} {Q : Value → Shared → Prop} (h : wpAny M A (spliced (backTo pos (starEach (e :: rest) env))) (fun vs s₁ => FnAt q s₁.heap ∧ wpC M A (call (.ref q) (first ++ vs)) Q E s₁) E s)
    (he : starEach (e :: rest) env = (false, eval e env) :: starEach rest env := by rfl) (hplain : (backTo pos (starEach rest env)).any (·.1) = false := by rfl) :
    wpC M A (callWith pos (.ref q) first (backTo pos (starEach (e :: rest) env)) []) Q E s := by
  rw [he] at h ⊢
  exact wpC_callWith (by show ((false || (backTo pos (starEach rest env)).any (·.1)) || false) = false; rw [hplain]; rfl) keeps_F (evalArgs_plain h)
theorem wpC_callWith_type {T : String} {e : Expr} {rest : List Expr} {pos : Pos} {Q : Value → Shared → Prop}
    (h : wpAny M A (spliced (backTo pos (starEach (e :: rest) env))) (fun vs s₁ => wpC M A (call (.type T) vs) Q E s₁) E s)
    (he : starEach (e :: rest) env = (false, eval e env) :: starEach rest env := by rfl)
    (hplain : (backTo pos (starEach rest env)).any (·.1) = false := by rfl) :
    wpC M A (callWith pos (.type T) [] (backTo pos (starEach (e :: rest) env)) []) Q E s := by
  run_tac sqBegin
  rw [he] at h ⊢
  have h' : wpAny M A (evalArgs (.type T) true (backTo pos ((false, eval e env) :: starEach rest env)) []) (fun a s₁ => wpC M A (call (.type T) ([] ++ a.pos) a.kw) Q E s₁) E s := evalArgs_plain h
  unfold callWith
  refine wpC_first (wpAny_holding (wpAny_mono h' (fun a s₁ h₁ => wpC_first (wpAny_standAt ?_)) fun _ _ x => x))
  have hpl : ((backTo pos ((false, eval e env) :: starEach rest env)).any (·.1)) = false := by show (false || (backTo pos (starEach rest env)).any (·.1)) = false; rw [hplain]; rfl
  simp only [hpl, List.any_nil, Bool.or_false]
  refine wpC_first (wpAny_pure ?_)
  exact wpC_tail h₁
  run_tac sqEnd
theorem wpC_tryStmt {body orelse : Sem Flow} {h₀ : ExceptHandler} {hs : List ExceptHandler} {Q : Flow → Shared → Prop}
    (h : wpC M A body (fun f s₁ => match f with | .next => wpAny M A orelse Q E s₁ | f => Q f s₁)
      (fun e s₁ => wpAny M A (noteFrame e env) (fun _ s₂ => wpAny M A (setFlight e none) (fun _ s₃ => wpAny M A (handleBy e env (h₀ :: hs)) Q E s₃) E s₂) E s₁) s) :
    wpC M A (tryStmt false body (h₀ :: hs) orelse [] env) Q E s := by
  run_tac sqBegin
  unfold tryStmt
  simp only [List.isEmpty_nil, if_true, List.isEmpty_cons, Bool.false_and, Bool.false_eq_true, if_false]
  refine wpC_bind (wpC_attempt (wpC_mono h (fun f s₁ h₁ => ?_) fun e s₁ h₁ => ?_))
  · cases f <;> first | exact wpC_any h₁ | exact wpC_pure h₁
  · exact wpC_any (wpAny_bind (wpAny_mono h₁ (fun _ _ h₂ => wpAny_bind h₂) fun _ _ x => x))
  run_tac sqEnd
end
section
variable {prog : Program} {w : World} {A : Around} {E : Value → Shared → Prop} {s : Shared} {env : Env}
theorem wpC_Try {body orelse : List Stmt} {h₀ : ExceptHandler} {hs : List ExceptHandler} {pos : Pos} {Q : Flow → Shared → Prop}
    (h : wpC (model prog w) A (execs body env) (fun f s₁ => match f with | .next => wpAny (model prog w) A (execs orelse env) Q E s₁ | f => Q f s₁)
      (fun e s₁ => wpAny (model prog w) A (noteFrame e env) (fun _ s₂ => wpAny (model prog w) A (setFlight e none) (fun _ s₃ => wpAny (model prog w) A (handleBy e env (h₀ :: hs)) Q E s₃) E s₂) E s₁) s) :
    wpC (model prog w) A (exec (.Try body (h₀ :: hs) orelse [] pos) env) Q E s := by
  rw [arm_exec_Try]
  exact wpC_first (wpAny_standAt (wpC_tryStmt h))
end
end Mine
end

section
open PySem PySem.W PyProof.Rows PyProof.Rows.LCg PySem.Calls
set_option maxRecDepth 100000
namespace Mine
section
/-- the call from the claim's own caller: the contexts beneath it all hold that caller -/
theorem ends_C {prog : Program} {w : World} {t : Sem PySem.Fin} {s : Shared} {R : Result → Shared → Prop} (hz : s.asleep)
    (h : wpC (model prog w) callerA t (fun fin s' => ∃ f, fin = .done f ∧ (R (.ok f) s' ∧ leftWithCleanup s'.gens = false)) (fun e s' => R (.error e) s' ∧ leftWithCleanup s'.gens = false) s) :
    ∃ n r s' s'', runN (denote table) prog w n s ⟨t, .builtin "claim.caller" {}, default, []⟩ = .halted (outcomeOf r) s' ∧
      schedN (denote table) prog w n (.single s ⟨t, .builtin "claim.caller" {}, default, []⟩) = .halted (outcomeOf r) s' ∧ s'.forget = s''.forget ∧ R r s'' := by
  run_tac sqBegin
  have hw : Sem.wp (model prog w) ⟨.builtin "claim.caller" {}, none, none, [], none⟩ t (Sem.finPost (model prog w) ⟨.builtin "claim.caller" {}, none, none, [], none⟩ fun r s' => R r s' ∧ leftWithCleanup s'.gens = false)
      (fun e _ s' => R (.error e) s' ∧ leftWithCleanup s'.gens = false) default s := by
    refine Sem.wp_mono _ _ t (fun fin p' s' h' => ?_) (fun _ _ _ h' => h') default s (h _ default caller_in rfl)
    obtain ⟨f, rfl, hf⟩ := h'
    exact hf
  obtain ⟨n, r, s₁, s₂, hs, hn, hfo, hR⟩ := wp_halts_full (M := model prog w) (R := R) hz hw
  exact ⟨n, r, s₂, s₁, hn, hs, hfo, hR⟩
  run_tac sqEnd
theorem callFrom_C {c : ClaimW} {tree : List Value → Sem PySem.Fin} {w : World} {s : Shared} {free : Addr → Prop} {gens : Prop} {kept : Heap → Prop} (hz : s.asleep) (hgens : s.gens = #[])
    (hspec : ∀ args, c.pre args = true → WData.layableAll args = true → ∀ ord : List DictEntry → List DictEntry, (∀ l, (ord l).Perm l) →
      ∃ vs s₁, layAllW c.records (classAt s.heap) w.params ord args s = some (vs, s₁) ∧
        wpC (model c.prog w) callerA (tree vs) (fun fin s' => ∃ f, fin = .done f ∧ (c.Ends s args vs s₁ (.ok f) s' ∧ s'.os = s.os ∧ AllBare s'.gens ∧ kept s'.heap))
          (fun e s' => c.Ends s args vs s₁ (.error e) s' ∧ s'.os = s.os ∧ AllBare s'.gens ∧ kept s'.heap) s₁) :
    c.CallFrom (fun vs => ⟨tree vs, .builtin "claim.caller" {}, default, []⟩) w free gens kept s := by
  run_tac sqBegin
  intro args hpre hlay ord hord
  obtain ⟨vs, s₁, hlaid, hcode⟩ := hspec args hpre hlay ord hord
  have hal := layAllW_rest _ _ _ hlaid
  obtain ⟨k, r, s', s'', hrun, hsched, hfo, hend, hos, hkp⟩ := ends_C (prog := c.prog) (w := w) (t := tree vs) (s := s₁)
    (R := fun r s' => c.Ends s args vs s₁ r s' ∧ s'.os = s.os ∧ kept s'.heap) (Shared.asleep_of_life hal.2.2.2 hz)
    (wpC_mono hcode (fun fin s' ⟨f, e, h1, h2, h3, h4⟩ => ⟨f, e, ⟨h1, h2, h4⟩, leftWithCleanup_false_of_bare h3⟩)
      (fun e s' ⟨h1, h2, h3, h4⟩ => ⟨⟨h1, h2, h4⟩, leftWithCleanup_false_of_bare h3⟩))
  obtain ⟨eh, _, _, eo, _⟩ := Shared.forget_eq hfo
  have hend := hend.congr eh
  have hkp : kept s'.heap := eh ▸ hkp
  rw [← eo] at hos
  have hlife : s'.heap.life = s.heap.life := (runN_life _ _ _ hrun).trans hal.2.2.2
  refine ⟨vs, s₁, hlaid, k, _, s', hsched, ?_, (fun _ i x hx => by rw [hgens] at hx; simp at hx), hkp, by rw [hlife], Shared.rest_eq hos⟩
  rcases hend with ⟨v, rfl, d1, d2, d3, d4, d5⟩ | ⟨e, ob, cls, rfl, d1, d2, d3, d4, d5⟩
  · exact .inl ⟨v, rfl, d1, d2, d3, fun b o y _ => d4 b o y, d5⟩
  · exact .inr ⟨e, ob, cls, rfl, d1, d2, d3, d4, fun b o y _ => d5 b o y⟩
  run_tac sqEnd
noncomputable abbrev WalkC (q : Program) (loose : List PySem.Str) (XP : (PySem.Str → Option Value) → Heap → Prop) (YP : World → Heap → Prop) (r : RowW) (d : DefRec) (kwd : List (PySem.Str × Expr)) : Prop :=
  ∀ (w : World) (s₀ s₁ : Shared) (mg mb : PySem.Str → Option Value), Ground q loose r.records XP w s₀ mg mb s₁.heap → YP w s₁.heap → ∀ (a : Addr) (o : Obj) (pm cd doc dV kV : Value), s₁.heap.get? a = some o →
    o.data = .func { docDef d.name d.params d.body d.scope pm cd doc with defaults := dV, kwdefaults := kV } → s₁.heap.CodeRec cd d.name → Dflts mg s₁.heap d.params kwd dV kV → mg d.name = some (.ref a) → s₁.gens = #[] →
    ∀ (args : List WData) (vals : List Value) (as : List Addr), r.claim.pre args = true → WData.layableAll args = true → ReadsAllW r.records (classAt s₀.heap) s₁.heap vals args as → WellAll w.params s₁.heap vals args → (∀ a ∈ as, (a == sysModules) = false) →
      codeC (model r.prog w) callerA (.call (.ref a) ⟨vals, []⟩) (fun res s' => (∃ v, res = .ok (.ret v)) ∧ GoodWG r.claim (classAt s₀.heap) (ExcName.means s₀.heap) args s₁ res s') s₁
theorem holds_C {r : OpenRow} {q : Program} {loose : List PySem.Str} {Xt : Shared → Bool} {XP : (PySem.Str → Option Value) → Heap → Prop} {α : Type} {Yf : Shared → α} {Ya : World → α} {YP : World → Heap → Prop} {d : DefRec} {kwd : List (PySem.Str × Expr)} {N : Nat}
    (left : LeftO r.prog q loose Xt Yf Ya N) (hY : ∀ w s, Yf s = Ya w → YP w s.heap) (hYk : ∀ w h h', YP w h → (∀ b o, h.get? b = some o → h'.get? b = some o) → YP w h')
    (hX : ∀ s, Xt s = true → XP (s.heap.nsMap mainGlobals) s.heap) (hXk : ∀ mg h h', XP mg h → (∀ b o, h.get? b = some o → h'.get? b = some o) → XP mg h')
    (hdef : defOf q r.name = some (d, kwd)) (hp : r.prog.theDef r.name = some (d.params, d.body, d.scope)) (hk : kwWritten? d.params.kwonlyargs d.params.kw_defaults = some kwd) (hRf : ∀ s, Xt s = true → RecFacts r.records s.heap) (hwr : (!r.writes || r.records.isEmpty) = true)
    (k1 : r.wellSaid = true) (ok : (chainsOk q && opensWell r.prog && (frees r.toRowW && r.within.isEmpty)) = true) (hb : r.prog.bare) (hw : r.toRowW.promised)
    (call : WalkC q loose XP YP r.toRowW d kwd) : r.Holds := by
  run_tac sqBegin
  obtain ⟨ok, k5⟩ := Bool.and_eq_true_iff.mp ok
  obtain ⟨hch, o1⟩ := Bool.and_eq_true_iff.mp ok
  obtain ⟨k5, k6⟩ := Bool.and_eq_true_iff.mp k5
  obtain ⟨hsame, hu, ha, hap, hm⟩ := frees_parts k5
  refine ⟨k1, hw, ⟨hb, o1, by show r.makers.map _ = []; rw [hm]; rfl⟩, hw.witness, fun w => ⟨(left.behind hX hch w).1, fun s' hs' => ?_⟩⟩
  obtain ⟨s₀, hf, hg0, s, hT, hz, hgens, hg, G00, y⟩ := (left.behind (XP := fun mg h => XP mg h ∧ RecFacts r.records h) (fun s hs => ⟨hX s hs, hRf s hs⟩) hch w).2 s' hs'
  have G0 : Ground q loose [] XP w s (s.heap.nsMap mainGlobals) (s.heap.nsMap builtinsNs) s.heap := ⟨G00.T, G00.B, G00.D, G00.TE, G00.TD, G00.W, G00.X.1, G00.cls, G00.has, G00.apart, G00.once, G00.K⟩
  have RF := G00.X.2
  have hT' := hT
  have pin : ∀ n ∈ (if r.pinned then [r.name] else []), isTheDefsW r.prog s.heap n := fun n hn => by
    obtain rfl : n = r.name := by split at hn <;> simp_all
    exact pinned_of_view hg G0 hdef hp hk
  refine ⟨s₀, hf, hg0, s, hT, pin, RF.1, RF.2.1, ?_⟩
  have hgens : s.gens = #[] := Array.eq_empty_of_size_eq_zero (beq_iff_eq.mp hgens)
  have G : Ground q loose r.records XP w s _ _ s.heap := RF.ground G0
  refine callFrom_C (c := r.toRowW.claim) (tree := fun vs => do match ← nsGet mainNs r.name with
      | some f => do ret (← PySem.call f vs)
      | none => unsupported "claim.caller:no-such-global") hz hgens fun args hpre hlay ord hord => ?_
  obtain ⟨⟨vs, s₁⟩, hlaid⟩ := Option.isSome_iff_exists.mp (layAllW_isSome (P := w.params) (ord := ord) G.has args r.args s (pre_splitW hpre).1)
  have keeps := layAllW_keeps _ _ _ hlaid
  have hal := layAllW_rest _ _ _ hlaid
  obtain ⟨as, hrd, hin, hold⟩ := reads_layAllW hord _ _ _ hlaid hlay s₁.heap (fun _ _ e => e)
  have L : Laid r.records w s s₁ args vs as := ⟨⟨ord, hord, hlaid⟩, hrd, hin, hold, keeps, hal.1.trans hgens, hal.2.2.1⟩
  have G₁ := G.keeps hXk keeps
  obtain ⟨a, o, pm, cd, doc, dV, kV, h1, h2, h3, h4, h5⟩ := G₁.fn hdef
  have hi := ident_freeW (r := r.toRowW) hu ha hap
  have hwi : r.toRowW.claim.within = [] := List.isEmpty_iff.mp k6
  have hcall := call w s s₁ _ _ G₁ (hYk _ _ _ (hY w s y) keeps) a o pm cd doc dV kV h2 h3 h4 h5 (defOf_name hdef ▸ h1) L.gens args vs as hpre hlay L.reads L.well (L.low G.low)
  refine ⟨vs, s₁, hlaid, ?_⟩
  refine wpC_first (wpAny_nsGet G₁.T.g ?_)
  rw [h1]
  refine wpC_bind (wpC_mono (Q := fun v s' => GoodWG r.toRowW.claim (classAt s.heap) (ExcName.means s.heap) args s₁ (.ok (.ret v)) s') (E := fun _ _ => False) ?_ ?_ fun _ _ x => x.elim)
  · refine wpC_call (codeC_mono hcall fun res s' g => ?_)
    obtain ⟨⟨v, rfl⟩, g⟩ := g
    exact g
  · intro v s' g
    have z := g.laid (c := r.toRowW.claim) hsame hwi hi L
    exact wpC_pure ⟨_, rfl, z.1, z.2.1, z.2.2, fun q => ⟨namesKept_of hT' hg r.keeps keeps g.2.1.old, noTable hwr q⟩⟩
  run_tac sqEnd
end
end Mine
end

section
open PySem PySem.W PyProof.Rows PyProof.Rows.LCg PySem.Calls
set_option maxRecDepth 100000
namespace Mine
open Lean Elab Command Meta in
def topC (name from_ : Name) : Tactic.TacticM Unit := do
  let some ci := (← getEnv).find? from_ | throwError "topC: no such theorem"
  let some v := ci.value? (allowOpaque := true) | throwError "topC: no value"
  let .lam _ T body _ := v | throwError "topC: no lambda"
  unless T.isAppOf ``PySem.W.WalkO do throwError "topC: {T.getAppFn}"
  let a := T.getAppArgs
  let T' := mkAppN (mkConst ``Mine.WalkC) (a.extract 0 7)
  let pf ← withLocalDeclD `walk0 T fun h0 => withLocalDeclD `walk T' fun h => do
    let b := (body.instantiate1 h0).replace fun e =>
      if e.isAppOf ``PySem.W.holds_open then some (mkAppN (mkConst ``Mine.holds_C) (e.getAppArgs.pop.push h)) else none
    mkLambdaFVars #[h] b
  let .forallE _ _ ty _ := ci.type | throwError "topC: type"
  addDecl (.thmDecl { name, levelParams := [], type := .forallE `walk T' ty .default, value := pf })
theorem hdC_laid : True := by
  run_tac topC `Mine.hdC `Mine.hd
  trivial
end Mine
end

section
open PySem PySem.W PyProof.Rows PyProof.Rows.LCg PySem.Calls
set_option maxRecDepth 100000
namespace Mine
section
local macro_rules | `(tactic| walk_at "call type:str") => `(tactic| (k_here; (with_reducible show wpAny _ _ (call (Value.type "str") [Value.ref _]) _ _ _); k_dflt (refine' own_str ?u ?X ?N ?G ?hs ?hb ?_; (case G => assumption); (case N => assumption); (case u => first | units_room | k_room | ktr_room); (case X => k_in); (case hs => k_is); (case hb => k_is); k_whole)))
variable {w : World} {mean : ExcName → Option Value} {mg mb : PySem.Str → Option Value} {A₀ : Around} {h₀ : Heap} {L : Addr} {m : PySem.Str → Option Value} {news : List (Addr × Obj)} {s : Shared} {Q E : Value → Shared → Prop}
variable {dp un : Nat} {gd : Option (List Code)} {cn : PySem.Str} {cs : Scope} {a : Addr} {ccd : Value} {cl : List (PySem.Str × Addr)}
noncomputable abbrev lefts (r : PySem.Str) : Int := Txt.find r (PySem.Str.ofString "(")
noncomputable abbrev rights (r : PySem.Str) : Int := Txt.find3 r (PySem.Str.ofString ")") (lefts r + 1)
noncomputable abbrev marks (r : PySem.Str) : PySem.Str := Txt.item r (lefts r + 1)
noncomputable abbrev partsOf (r : PySem.Str) : List PySem.Str := Txt.split (Txt.slice r (some (lefts r + 1)) (some (rights r))) (marks r)
noncomputable def RProto (r : PySem.Str) : Prop := lefts r < 0 ∨ rights r < 0 ∨ (marks r != Txt.item r (rights r - 1)) = true ∨ (partsOf r).length ≠ 5
theorem lefts_lt (r : PySem.Str) : lefts r < r.length ∨ r.length = 0 := by
  rcases find_spec r (PySem.Str.ofString "(") with h | ⟨i, h, h2, _⟩
  · unfold lefts; rw [h]; omega
  · left; unfold lefts; rw [h]
    have : (PySem.Str.ofString "(").length = 1 := by decide
    omega
theorem rights_lt {r : PySem.Str} (h : ¬ lefts r < 0) (h2 : ¬ rights r < 0) : lefts r + 1 ≤ rights r ∧ rights r < r.length := by
  run_tac sqBegin
  have e : PySem.Str.ofString ")" = ⟨#[41]⟩ := by decide
  rcases StrLaws.find3_spec r 41 (lefts r + 1) with ⟨h3, _⟩ | ⟨k, h3, h4, h5, _⟩
  · exact absurd (show rights r < 0 by unfold rights; rw [e, h3]; decide) h2
  · have h6 : rights r = (k : Int) := by unfold rights; rw [e, h3]
    unfold fromIndex at h4
    rw [if_neg (by omega)] at h4
    omega
  run_tac sqEnd
set_option maxHeartbeats 8000000 in
theorem read_call (B : Below A₀ h₀ [] h₀) (F : Fr h₀ L s.heap m) (X : (hd.heap_39 w.params).In h₀) (N : News h₀ L s.heap news) (T : Top topProg LS mean mg mb h₀) (hk : cs.kind = .function) {r hst : PySem.Str} {tr th t1 t2 t3 : Tok} {p : Addr} (hp : (p, ({ cls := .type "tuple", data := .seq #[.str hst th, .int 21 t1, .int 0 t2, .int 0 t3] } : Obj)) ∈ news) (hr : r.length ≤ 4000)
  (hreply : (Txt.slice r none (some 3) != PySem.Str.ofString "229") = true → ∀ D t h' tk', Fr h₀ L h' m → News h₀ L h' ((D, W.listOf #[.str (PySem.Str.ofString "reply") t, .str r tr] 0) :: news) → Q (.ref D) { s with heap := h', toks := tk' })
  (hproto : RProto r → ∀ D t h' tk', Fr h₀ L h' m → News h₀ L h' ((D, W.listOf #[.str (PySem.Str.ofString "proto") t, .str r tr] 0) :: news) → Q (.ref D) { s with heap := h', toks := tk' })
  (hnv : ¬ RProto r → ∀ y, (partsOf r)[3]? = some y → ∃ n, PySem.intText? y = some n ∧ y.length ≤ 640)
  (hok : ¬ RProto r → (Txt.slice r none (some 3) != PySem.Str.ofString "229") = false → ∀ y n, (partsOf r)[3]? = some y → PySem.intText? y = some n → ∀ D t h' tk', Fr h₀ L h' m → News h₀ L h' ((D, ({ cls := .type "tuple", data := .seq #[.str hst th, .int n t] } : Obj)) :: news) → Q (.ref D) { s with heap := h', toks := tk' })
  (hdp : dp + 20 < recursionLimit) (hu : un + 200 < cLine) :
  wpAny (model PySem.Challenge.rw_xi0008_01.row.prog w) (ktrTop dp un gd cn cs L a ccd cl []) (call (.ref 124) [.str r tr, .ref p]) Q E s := by
  run_tac sqBegin
  revert X; k_fill; intro X
  refine wpAny_call ?_
  k_dflt (refine' code_defT ?k1 ?k2 ?k3 ?k4 ?k5 ?kA ?kF ?kK ?k6 ?k7 ?k8 ?k9 ?kB ?_ ?c2 ?c3 ?c4 ?c5; (case kA => exact rfl); (case kF => exact rfl); (case kK => assumption); (case k1 => k_asm); (case k2 => k_asm); (case k3 => k_asm); (case k4 => k_asm); (case k5 => k_asm); (case k6 => k_is); (case k7 => k_is); (case k8 => ktr_room); (case k9 => exact BindsTo.of_eq rfl); (case c5 => decide); (case kB => exact locs rfl); (case c2 => exact rfl); (case c3 => exact rfl); (case c4 => exact rfl); k_whole; intro g' L' h' FG' F' N' B' X' T' D'; (try dsimp only); (try k_lift B'); (try k_fold))
  repeat' (first | (k_unfold; (try dsimp only)) | (k_end; wrow_close) | ((fail_if_success (with_reducible show wpAny _ _ (call (.ref _) _) _ _ _)); walk1) | ((fail_if_success (with_reducible show wpAny _ _ (call (.ref _) _) _ _ _)); dsimp only; walk1) | (leave1; walk_say "STEP leave1"; try dsimp only) | fail "no step")
  refine wpAny_call ?_
  k_dflt (refine' code_def ?k1 ?k2 ?k3 ?k4 ?k5 ?kA ?kF ?kK ?k6 ?k7 ?k8 ?k9 ?kB ?_ ?c2 ?c3 ?c4 ?c5; (case kA => exact rfl); (case kF => exact rfl); (case kK => first | assumption | exact rfl); (case k1 => k_asm); (case k2 => k_asm); (case k3 => k_asm); (case k4 => k_asm); (case k5 => k_asm); (case k6 => k_is); (case k7 => k_is); (case k8 => ktr_room); (case k9 => exact BindsTo.of_eq rfl); (case c5 => decide); (case kB => exact locs rfl); (case c2 => exact rfl); (case c3 => exact rfl); (case c4 => exact rfl); k_whole; intro g' L' h' FG' F' N' B' X' T'; (try dsimp only); (try k_lift B'); (try k_fold))
  repeat' (first | (k_unfold; (try dsimp only)) | (k_end; wrow_close) | ((fail_if_success (with_reducible show wpAny _ _ (subscriptTail _ _ _ (.int _ _)) _ _ _)); walk1) | ((fail_if_success (with_reducible show wpAny _ _ (subscriptTail _ _ _ (.int _ _)) _ _ _)); dsimp only; walk1) | (leave1; walk_say "STEP leave1"; try dsimp only) | fail "no step")
  · exact hreply (by assumption) _ _ _ _ (by assumption) (by assumption)
  · exact hproto (Or.inl (by assumption)) _ _ _ _ (by assumption) (by assumption)
  · exact hproto (Or.inr (Or.inl (by assumption))) _ _ _ _ (by assumption) (by assumption)
  rename (¬ Txt.find r _ < 0) => hl
  rename (¬ Txt.find3 r _ _ < 0) => hrr
  have hrl := rights_lt hl hrr
  obtain ⟨hr1, hr2⟩ := hrl
  dsimp only [lefts, rights] at hr1 hr2
  repeat' (first | (k_unfold; (try dsimp only)) | (k_end; wrow_close) | ((fail_if_success (with_reducible show wpAny _ _ (call (.type "int") _) _ _ _)); walk1) | ((fail_if_success (with_reducible show wpAny _ _ (call (.type "int") _) _ _ _)); dsimp only; walk1) | (leave1; walk_say "STEP leave1"; try dsimp only) | fail "no step")
  · exact hproto (Or.inr (Or.inr (Or.inl (by assumption)))) _ _ _ _ (by assumption) (by assumption)
  · rename (List.map _ _ = Txt.split _ _) => hsp
    rename (¬ ((_ : Int) = 5)) => h5
    rename (News h₀ _ _ _) => N9
    refine hproto (Or.inr (Or.inr (Or.inr ?_))) _ _ _ _ (by assumption) (news_drop2 N9)
    have := congrArg List.length hsp
    rw [List.length_map] at this
    unfold partsOf
    rw [← this]
    omega
  · rename (List.map _ _ = Txt.split _ _) => hsp
    rename ((_ : Int) = 5) => h5
    rename (_ = some _) => hy
    rename ((Txt.item _ _ != Txt.item _ _) = false) => hmk
    rename ((Txt.slice _ _ _ != _) = false) => h229
    have hno : ¬ RProto r := by
      rintro (hc | hc | hc | hc)
      · exact hl hc
      · exact hrr hc
      · rw [hmk] at hc; cases hc
      · refine hc ?_
        have := congrArg List.length hsp
        rw [List.length_map] at this
        unfold partsOf
        rw [← this]
        omega
    rw [hsp] at hy
    obtain ⟨n, hn, hl640⟩ := hnv hno _ hy
    refine KIN.call_text hn hl640 ?_
    (try dsimp only)
    repeat' (first | (k_unfold; (try dsimp only)) | (k_end; wrow_close) | (walk1) | (dsimp only; walk1) | (leave1; walk_say "STEP leave1"; try dsimp only) | fail "no step")
    rename (Fr h₀ _ _ _) => F9
    rename (News h₀ _ _ _) => N9
    exact hok hno h229 _ n hy hn _ _ _ _ F9 (news_drop2 N9)
  run_tac sqEnd
end
end Mine
end

section
open PySem PySem.W PyProof.Rows PyProof.Rows.LCg PySem.Calls
set_option maxRecDepth 100000
namespace Mine
theorem wpC_execs_tk {M : Model} {A : Around} {E : Value → Shared → Prop} {env : Env} {st rest} {Q : Flow → Shared → Prop} {H G D tk os}
    (h : ∀ tk', wpAny M A (exec st env) (fun f s' => match f with | .next => wpC M A (execs rest env) Q E s' | f => Q f s') E ⟨H, G, D, tk', os⟩) :
    wpC M A (execs (st :: rest) env) Q E ⟨H, G, D, tk, os⟩ := wpC_execs_any (h tk)
section
variable {prog : Program} {w : World} {A₀ A : Around} {s : Shared} {base h₀ : Heap} {env : Env} {outer : List Env} {L : Addr} {m : PySem.Str → Option Value} {news : List (Addr × Obj)} {K : Frag} {p : Program} {loose : List PySem.Str} {mean : ExcName → Option Value} {mg mb : PySem.Str → Option Value}
    {R : Result → Shared → Prop} {qual name : PySem.Str} {params : Arguments} {body : List Stmt} {scope : Scope} {dV kV doc pm cdv ct oc : Value} {an od : Option Addr} {osl : Array (Option Value)} {f : Addr} {args : Args} {binds : List (PySem.Str × Value)}
theorem codeC_defT (B : Below A₀ base [] h₀) (F : Fr h₀ L s.heap m) (X₀ : K.In h₀) (N : News h₀ L s.heap news) (T : Top p loose mean mg mb h₀) (hA : A.frames = some [env]) (hf : env.frame = some L) (hke : env.scope.kind = .function)
    (ho : K.lookup f = some ⟨oc, od, .func (fnOf name qual params body scope dV kV doc pm an cdv ct), osl⟩) (hcd : codeIn K cdv qual = true) (hroom : A.depth < recursionLimit)
    (hbind : BindsTo s (fnOf name qual params body scope dV kV doc pm an cdv ct) args binds) (hloc : ∀ y ∈ binds, scope.names.lookup y.1 = some .local)
    (h : ∀ g L' h₁, Fr h₀ L g m → Fr g L' h₁ (fun y => binds.reverse.lookup y) → News g L' h₁ news → Below A base [env] g → K.In g → Top p loose mean mg mb g → KtsDicts ([env].filterMap (·.frame)) g →
      wpC (model prog w) (A.deeper (envOf qual scope L' f cdv)) (execs body (envOf qual scope L' f cdv))
        (fun fl s' => LeaveS0 ([env].filterMap (·.frame)) h₀ L m g R (match fl with | .ret v => v | _ => .none) s')
        (fun e s' => wpAny (model prog w) (A.deeper (envOf qual scope L' f cdv)) (leaving (envOf qual scope L' f cdv) e) (fun _ s'' => R (.error e) s'') (fun e' s'' => R (.error e') s'') s')
        { s with heap := h₁, toks := s.toks + binds.length })
    (hco : scope.isCoroutine = false) (hgen : scope.isGenerator = false) (hk : scope.kind = .function)
    (hcell : ∀ x ∈ scope.names, x.2 ≠ .cell) : codeC (model prog w) A (.call (.ref f) args) R s := by
  run_tac sqBegin
  have X := X₀.keeps F.keep
  obtain ⟨FG, BG, st, _⟩ := groundX (R := R) B F N hA hf hke
  have hfr : ∀ b, b ∈ [env].filterMap (·.frame) → b = L := fun b hb => by
    simp [hf] at hb; exact hb
  obtain ⟨oL, es, ep, hL, hLd, hLk, hLf⟩ := FG.ns
  refine codeC_call_def (fd := fnOf name qual params body scope dV kV doc pm an cdv ct) (body := body) (binds := binds) hroom (X _ _ ho) rfl (T.nolimit.keeps F.keep) (codeRec_of X hcd) rfl hbind hcell hloc (fun h₁ hns hk₁ => ?_) hco hgen hk
  refine wpC_mono (h _ s.heap.objs.size h₁ FG ⟨hns, fun b o e => hk₁ b o (of_hideAll _ e), Nat.le_of_eq (hideAll_size _ _)⟩
    (fun p hp => ⟨hk₁ _ _ (N p hp).1, Nat.ne_of_lt (Heap.lt_size (N p hp).1), hideAll_none _ (List.mem_map_of_mem hp)⟩) BG (X₀.keeps st) (T.keeps st) (fun b hb => (hfr b hb) ▸ ⟨oL, es, ep, hL, hLd⟩)) (fun fl s' hl => ?_) fun _ _ y => y
  obtain ⟨g', L', m', news', T', F', N', k⟩ := hl
  have nL₀ : h₀.get? L = none := kts_self F
  obtain ⟨sl, hs⟩ := T'.up hL
  have hkeep : ∀ b o, h₀.get? b = some o → s'.heap.get? b = some o := fun b o e =>
    F'.keep b o (T'.other b o (st b o e) fun q => by rw [hfr b q, nL₀] at e; cases e)
  have hfresh : ∀ p ∈ news', h₀.get? p.1 = none := fun p hp => by
    cases q : h₀.get? p.1 with
    | none => rfl
    | some o =>
      obtain ⟨sl', hs'⟩ := T'.up (st _ _ q)
      have hz := (N' p hp).2.2
      rw [hs'] at hz
      cases hz
  refine k ⟨⟨_, es, ep, F'.keep _ _ hs, hLd, hLk, hLf⟩, hkeep, F.above⟩ fun p hp => ⟨(N' p hp).1, fun q => ?_, hfresh p hp⟩
  have hz := (N' p hp).2.2
  rw [q, hs] at hz
  cases hz
  run_tac sqEnd
theorem codeC_def (B : Below A₀ base outer h₀) (F : Fr h₀ L s.heap m) (X₀ : K.In h₀) (N : News h₀ L s.heap news) (T : Top p loose mean mg mb h₀) (hA : A.frames = some (env :: outer)) (hf : env.frame = some L) (hke : env.scope.kind = .function)
    (ho : K.lookup f = some ⟨oc, od, .func (fnOf name qual params body scope dV kV doc pm an cdv ct), osl⟩) (hcd : codeIn K cdv qual = true) (hroom : A.depth < recursionLimit)
    (hbind : BindsTo s (fnOf name qual params body scope dV kV doc pm an cdv ct) args binds) (hloc : ∀ y ∈ binds, scope.names.lookup y.1 = some .local)
    (h : ∀ g L' h₁, Fr h₀ L g m → Fr g L' h₁ (fun y => binds.reverse.lookup y) → News g L' h₁ news → Below A base (env :: outer) g → K.In g → Top p loose mean mg mb g →
      wpC (model prog w) (A.deeper (envOf qual scope L' f cdv)) (execs body (envOf qual scope L' f cdv))
        (fun fl s' => LeaveK h₀ L m g R (match fl with | .ret v => v | _ => .none) s')
        (fun e s' => wpAny (model prog w) (A.deeper (envOf qual scope L' f cdv)) (leaving (envOf qual scope L' f cdv) e) (fun _ s'' => R (.error e) s'') (fun e' s'' => R (.error e') s'') s')
        { s with heap := h₁, toks := s.toks + binds.length })
    (hco : scope.isCoroutine = false) (hgen : scope.isGenerator = false) (hk : scope.kind = .function)
    (hcell : ∀ x ∈ scope.names, x.2 ≠ .cell) : codeC (model prog w) A (.call (.ref f) args) R s := by
  run_tac sqBegin
  have X := X₀.keeps F.keep
  obtain ⟨FG, BG, st, lv⟩ := groundX (R := R) B F N hA hf hke
  refine codeC_call_def (fd := fnOf name qual params body scope dV kV doc pm an cdv ct) (body := body) (binds := binds) hroom (X _ _ ho) rfl (T.nolimit.keeps F.keep) (codeRec_of X hcd) rfl hbind hcell hloc (fun h₁ hns hk₁ => ?_) hco hgen hk
  exact wpC_mono (h _ s.heap.objs.size h₁ FG ⟨hns, fun b o e => hk₁ b o (of_hideAll _ e), Nat.le_of_eq (hideAll_size _ _)⟩
    (fun p hp => ⟨hk₁ _ _ (N p hp).1, Nat.ne_of_lt (Heap.lt_size (N p hp).1), hideAll_none _ (List.mem_map_of_mem hp)⟩) BG (X₀.keeps st) (T.keeps st)) (fun fl s' hl => lv _ _ hl) fun _ _ y => y
  run_tac sqEnd
end
section
variable {w : World} {mean : ExcName → Option Value} {mg mb : PySem.Str → Option Value} {A₀ : Around} {h₀ : Heap} {L : Addr} {m : PySem.Str → Option Value} {news : List (Addr × Obj)} {s : Shared} {Q E : Value → Shared → Prop}
variable {dp un : Nat} {gd : Option (List Code)} {cn : PySem.Str} {cs : Scope} {a : Addr} {ccd : Value} {cl : List (PySem.Str × Addr)}
set_option maxHeartbeats 8000000 in
theorem read_value (B : Below A₀ h₀ [] h₀) (F : Fr h₀ L s.heap m) (X : (hd.heap_39 w.params).In h₀) (N : News h₀ L s.heap news) (T : Top topProg LS mean mg mb h₀) (hk : cs.kind = .function) {r hst y : PySem.Str} {tr th t1 t2 t3 : Tok} {p : Addr} (hp : (p, ({ cls := .type "tuple", data := .seq #[.str hst th, .int 21 t1, .int 0 t2, .int 0 t3] } : Obj)) ∈ news) (hr : r.length ≤ 4000)
  (h229 : (Txt.slice r none (some 3) != PySem.Str.ofString "229") = false) (hno : ¬ RProto r) (hy : (partsOf r)[3]? = some y) (hn : PySem.intText? y = none) (hy640 : y.length ≤ 640) (hyc : ∀ c ∈ y.cps.toList, c < 16 ^ 8)
  (hdp : dp + 20 < recursionLimit) (hu : un + 200 < cLine)
  (hret : ∀ D t h' tk', Fr h₀ L h' m → News h₀ L h' ((D, W.listOf #[.str (PySem.Str.ofString "value") t] 0) :: news) → Q (.ref D) { s with heap := h', toks := tk' }) :
  wpC (model PySem.Challenge.rw_xi0008_01.row.prog w) (ktrTop dp un gd cn cs L a ccd cl []) (call (.ref 124) [.str r tr, .ref p]) Q E s := by
  run_tac sqBegin
  revert X; k_fill; intro X
  refine wpC_call ?_
  k_dflt (refine' codeC_defT ?k1 ?k2 ?k3 ?k4 ?k5 ?kA ?kF ?kK ?k6 ?k7 ?k8 ?k9 ?kB ?_ ?c2 ?c3 ?c4 ?c5; (case kA => exact rfl); (case kF => exact rfl); (case kK => assumption); (case k1 => k_asm); (case k2 => k_asm); (case k3 => k_asm); (case k4 => k_asm); (case k5 => k_asm); (case k6 => k_is); (case k7 => k_is); (case k8 => ktr_room); (case k9 => exact BindsTo.of_eq rfl); (case c5 => decide); (case kB => exact locs rfl); (case c2 => exact rfl); (case c3 => exact rfl); (case c4 => exact rfl); k_whole; intro g' L' h' FG' F' N' B' X' T' D'; (try dsimp only); (try k_lift B'); (try k_fold))
  refine wpC_execs_cons (wpC_Try ?_)
  refine wpC_execs_cons (wpC_Return_some (wpC_Call ?_))
  have hl : ¬ lefts r < 0 := fun h => hno (Or.inl h)
  have hrr : ¬ rights r < 0 := fun h => hno (Or.inr (Or.inl h))
  have hmk : (marks r != Txt.item r (rights r - 1)) = false := by
    cases h : (marks r != Txt.item r (rights r - 1)) with
    | false => rfl
    | true => exact absurd (Or.inr (Or.inr (Or.inl h))) hno
  have hyP : (partsOf r)[3]? = some y ∧ True := ⟨hy, trivial⟩
  clear hy
  obtain ⟨hr1, hr2⟩ := rights_lt hl hrr
  dsimp only [lefts, rights, marks] at hr1 hr2 hl hrr hmk
  repeat' (first | (k_unfold; (try dsimp only)) | (k_end; wrow_close) | (walk1) | (dsimp only; walk1) | (leave1; walk_say "STEP leave1"; try dsimp only) | fail "no step")
  refine wpC_callWith_ref ?_
  repeat' (first | (k_unfold; (try dsimp only)) | (k_end; wrow_close) | ((fail_if_success (with_reducible show wpAny _ _ (FnAt _ _ ∧ _) _ _ _)); walk1) | ((fail_if_success (with_reducible show wpAny _ _ (FnAt _ _ ∧ _) _ _ _)); dsimp only; walk1) | (leave1; walk_say "STEP leave1"; try dsimp only) | fail "no step")
  · exact ⟨_, _, _, _, (X'.keeps (Fr.keep F')) _ _ (by k_is)⟩
  refine wpC_call ?_
  k_dflt (refine' codeC_def ?k1 ?k2 ?k3 ?k4 ?k5 ?kA ?kF ?kK ?k6 ?k7 ?k8 ?k9 ?kB ?_ ?c2 ?c3 ?c4 ?c5; (case kA => exact rfl); (case kF => exact rfl); (case kK => first | assumption | exact rfl); (case k1 => k_asm); (case k2 => k_asm); (case k3 => k_asm); (case k4 => k_asm); (case k5 => k_asm); (case k6 => k_is); (case k7 => k_is); (case k8 => ktr_room); (case k9 => exact BindsTo.of_eq rfl); (case c5 => decide); (case kB => exact locs rfl); (case c2 => exact rfl); (case c3 => exact rfl); (case c4 => exact rfl); k_whole; intro g' L' h' FG' F' N' B' X' T'; (try dsimp only); (try k_lift B'); (try k_fold))
  (try dsimp only)
  refine wpC_execs_tk ?_
  intro tk0
  repeat' (first | (k_unfold; (try dsimp only)) | (k_end; wrow_close) | ((fail_if_success (with_reducible show wpAny _ _ (exec (Stmt.Raise _ _ _) _) _ _ _)); walk1) | ((fail_if_success (with_reducible show wpAny _ _ (exec (Stmt.Raise _ _ _) _) _ _ _)); dsimp only; walk1) | (leave1; walk_say "STEP leave1"; try dsimp only) | fail "no step")
  (try dsimp only)
  refine wpC_execs_tk ?_
  intro tk0
  repeat' (first | (k_unfold; (try dsimp only)) | (k_end; wrow_close) | ((fail_if_success (with_reducible show wpAny _ _ (exec (Stmt.Raise _ _ _) _) _ _ _)); walk1) | ((fail_if_success (with_reducible show wpAny _ _ (exec (Stmt.Raise _ _ _) _) _ _ _)); dsimp only; walk1) | (leave1; walk_say "STEP leave1"; try dsimp only) | fail "no step")
  (try dsimp only)
  refine wpC_execs_tk ?_
  intro tk0
  repeat' (first | (k_unfold; (try dsimp only)) | (k_end; wrow_close) | ((fail_if_success (with_reducible show wpAny _ _ (exec (Stmt.Raise _ _ _) _) _ _ _)); walk1) | ((fail_if_success (with_reducible show wpAny _ _ (exec (Stmt.Raise _ _ _) _) _ _ _)); dsimp only; walk1) | (leave1; walk_say "STEP leave1"; try dsimp only) | fail "no step")
  (try dsimp only)
  refine wpC_execs_tk ?_
  intro tk0
  repeat' (first | (k_unfold; (try dsimp only)) | (k_end; wrow_close) | ((fail_if_success (with_reducible show wpAny _ _ (exec (Stmt.Raise _ _ _) _) _ _ _)); walk1) | ((fail_if_success (with_reducible show wpAny _ _ (exec (Stmt.Raise _ _ _) _) _ _ _)); dsimp only; walk1) | (leave1; walk_say "STEP leave1"; try dsimp only) | fail "no step")
  (try dsimp only)
  refine wpC_execs_tk ?_
  intro tk0
  repeat' (first | (k_unfold; (try dsimp only)) | (k_end; wrow_close) | ((fail_if_success (with_reducible show wpAny _ _ (exec (Stmt.Raise _ _ _) _) _ _ _)); walk1) | ((fail_if_success (with_reducible show wpAny _ _ (exec (Stmt.Raise _ _ _) _) _ _ _)); dsimp only; walk1) | (leave1; walk_say "STEP leave1"; try dsimp only) | fail "no step")
  (try dsimp only)
  refine wpC_execs_tk ?_
  intro tk0
  repeat' (first | (k_unfold; (try dsimp only)) | (k_end; wrow_close) | ((fail_if_success (with_reducible show wpAny _ _ (exec (Stmt.Raise _ _ _) _) _ _ _)); walk1) | ((fail_if_success (with_reducible show wpAny _ _ (exec (Stmt.Raise _ _ _) _) _ _ _)); dsimp only; walk1) | (leave1; walk_say "STEP leave1"; try dsimp only) | fail "no step")
  (try dsimp only)
  refine wpC_execs_tk ?_
  intro tk0
  repeat' (first | (k_unfold; (try dsimp only)) | (k_end; wrow_close) | ((fail_if_success (with_reducible show wpAny _ _ (exec (Stmt.Raise _ _ _) _) _ _ _)); walk1) | ((fail_if_success (with_reducible show wpAny _ _ (exec (Stmt.Raise _ _ _) _) _ _ _)); dsimp only; walk1) | (leave1; walk_say "STEP leave1"; try dsimp only) | fail "no step")
  (try dsimp only)
  refine wpC_execs_tk ?_
  intro tk0
  repeat' (first | (k_unfold; (try dsimp only)) | (k_end; wrow_close) | ((fail_if_success (with_reducible show wpAny _ _ (exec (Stmt.Raise _ _ _) _) _ _ _)); walk1) | ((fail_if_success (with_reducible show wpAny _ _ (exec (Stmt.Raise _ _ _) _) _ _ _)); dsimp only; walk1) | (leave1; walk_say "STEP leave1"; try dsimp only) | fail "no step")
  all_goals try (exfalso; rename (List.map _ _ = Txt.split _ _) => hsp; rename ((_ : Int) ≠ 5) => hc; have hll := congrArg List.length hsp; rw [List.length_map] at hll; have h5' : (partsOf r).length = 5 := Classical.not_not.mp fun h => hno (Or.inr (Or.inr (Or.inr h))); unfold partsOf at h5'; rw [← hll] at h5'; exact hc (by omega))
  (try dsimp only)
  refine wpC_execs_tk ?_
  intro tk0
  repeat' (first | (k_unfold; (try dsimp only)) | (k_end; wrow_close) | (walk1) | (dsimp only; walk1) | (leave1; walk_say "STEP leave1"; try dsimp only) | fail "no step")
  refine wpC_execs_cons (wpC_Assign_Name (wpC_Call ?_))
  repeat' (first | (k_unfold; (try dsimp only)) | (k_end; wrow_close) | (walk1) | (dsimp only; walk1) | (leave1; walk_say "STEP leave1"; try dsimp only) | fail "no step")
  refine wpC_callWith_type ?_
  repeat' (first | (k_unfold; (try dsimp only)) | (k_end; wrow_close) | (walk1) | (dsimp only; walk1) | (leave1; walk_say "STEP leave1"; try dsimp only) | fail "no step")
  rename (List.map _ _ = Txt.split _ _) => hsp
  rename (_ = some _) => hyy
  rw [hsp] at hyy
  have hye := Option.some.inj (hyy.symm.trans hyP.1)
  rw [hye]
  refine int_call_raises rfl hy640 hyc hn ?_
  intro h7 tk7 e7 hx7
  (try dsimp only)
  repeat' (first | (k_unfold; (try dsimp only)) | (k_end; wrow_close) | (walk1) | (dsimp only; walk1) | (leave1; walk_say "STEP leave1"; try dsimp only) | fail "no step")
  rename (Fr h₀ _ _ _) => F9
  rename (News h₀ _ _ _) => N9
  exact hret _ _ _ _ F9 (news_drop2 N9)
  run_tac sqEnd
end
end Mine
end

section
open PySem PySem.W PyProof.Rows PyProof.Rows.LCg PySem.Calls
set_option maxRecDepth 100000
namespace Mine
/-- what the ghost's end gives for the true heap, for one result -/
theorem kn_pt (w : World) {s' s₁ : Shared} {cw : ClaimW} {cl : PySem.Str → Option Addr} {mean : ExcName → Option Value} {args : List WData} {tabs : List (Addr × Addr)} {f : Flow} (hT : TabsAt tabs s₁.heap) (hr : ∀ a x, cw.raises a x = false)
    (h : GoodW cw cl mean args { s₁ with heap := ghostOf s₁.heap tabs } (.ok f) s' ∧ GrownAll tabs s'.heap) : GoodWG cw cl mean args s₁ (.ok f) s' := by
  let M : Model := ⟨fun _ => Sem.pure (.done f), default, w⟩
  have h1 : codeAny M callerA (.builtin "claim.caller" {}) (fun r s' => GoodW cw cl mean args { s₁ with heap := ghostOf s₁.heap tabs } r s' ∧ GrownAll tabs s'.heap) s' :=
    codeAny_of_tree (wpAny_pure h)
  have h2 := kn_post hT hr h1
  have hB : (⟨.builtin "claim.caller" {}, none, none, [], none⟩ : Ctx).Below callerA := ⟨rfl, by show frameCount [] ≤ _; exact Nat.zero_le _, fun l hl => by cases hl; rfl, fun g hg => by cases hg; rfl, by show unitsOf [] ≤ _; exact Nat.zero_le _⟩
  have h3 := h2 _ default rfl hB
  rw [wpCode_iff_wp] at h3
  exact h3
section
variable {prog : Program} {w : World} {A : Around} {s : Shared} {R : Result → Shared → Prop} {name qual : PySem.Str} {params : Arguments} {body : List Stmt} {scope : Scope} {dV kV doc pm cdv ct : Value} {an : Option Addr} {fo : Obj} {f : Addr} {args : Args} {binds : List (PySem.Str × Value)}
theorem codeC_top (hlim : s.heap.NoLimit) (ho : s.heap.get? f = some fo) (hd : fo.data = .func (fnX name qual params body scope [] dV kV doc pm an cdv ct)) (hcd : s.heap.CodeRec cdv qual) (hroom : A.depth < recursionLimit)
    (hbind : BindsTo s (fnX name qual params body scope [] dV kV doc pm an cdv ct) args binds)
    (hkind : ∀ n, ∀ x ∈ binds, scope.names.lookup x.1 = some .local ∨ (scope.names.lookup x.1 = some .cell ∧ ((cellsFrom n scope.names []).lookup x.1).isSome = true))
    (hnd : ((cellsFrom 0 scope.names []).map (·.1)).Nodup)
    (h : ∀ L' h₁ tk cells, Fr s.heap L' h₁ (bindL (envOfC qual scope L' f cdv).kindOf binds fun _ => none) → News s.heap L' h₁ cells →
      CellsAre (bindC (envOfC qual scope L' f cdv).kindOf binds fun _ => none) (cellsFrom (L' + 1) scope.names []) cells →
      wpC (model prog w) (A.deeper (envOfC qual scope L' f cdv)) (execs body (envOfC qual scope L' f cdv))
        (fun fl s' => R (.ok (.ret (match fl with | .ret v => v | _ => .none))) s')
        (fun e s' => wpAny (model prog w) (A.deeper (envOfC qual scope L' f cdv)) (leaving (envOfC qual scope L' f cdv) e) (fun _ s'' => R (.error e) s'') (fun e' s'' => R (.error e') s'') s')
        { s with heap := h₁, toks := tk })
    (hco : scope.isCoroutine = false := by rfl) (hgen : scope.isGenerator = false := by rfl) (hk : scope.kind = .function := by rfl) : codeC (model prog w) A (.call (.ref f) args) R s := by
  run_tac sqBegin
  refine codeC_call_function hroom ho hd hco hgen rfl hcd (hbind _ _ _ _ ?_)
  refine wpAny_newFunctionEnv_cells hk (hkind _) fun env' he s' x => ?_
  subst he
  refine ⟨hlim.keeps x.toInCall.keep, codeC_func ?_⟩
  obtain ⟨h₁, tk, rfl, _⟩ := x.done
  have hk₁ := x.toInCall.keep
  obtain ⟨cells, NC, Y⟩ := Cl.news (h₀ := s.heap) (Nat.le_refl _) fun n c hm => ⟨x.cell n c (lookup_of_mem_nodup (cellsFrom_names scope.names 0 (s.heap.objs.size + 1) [] [] rfl ▸ hnd) hm), x.above n c hm⟩
  exact h s.heap.objs.size h₁ tk cells ⟨x.toInCall.ns, hk₁, Nat.le_refl _⟩ NC Y
  run_tac sqEnd
end
end Mine
end

section
open PySem PySem.W PyProof.Rows PyProof.Rows.LCg PySem.Calls
set_option maxRecDepth 100000
namespace Mine
/-- the weights, from the first heap -/
noncomputable def lastZ (g : Int) : Nat → Int
  | 0 => 0
  | i + 1 => lastZ g i + 1 + g / 4 ^ i % 4
noncomputable def wtsZ (g : Int) (n : Nat) : List Int := (List.range n).map fun i => lastZ g (i + 1)
theorem wtsZ_succ (g : Int) (n : Nat) : wtsZ g (n + 1) = wtsZ g n ++ [lastZ g (n + 1)] := by
  simp [wtsZ, List.range_succ]
theorem wtsZ_length (g : Int) (n : Nat) : (wtsZ g n).length = n := by simp [wtsZ]
theorem lastZ_bound (g : Int) : ∀ i : Nat, (i : Int) ≤ lastZ g i ∧ lastZ g i ≤ 4 * (i : Int)
  | 0 => by simp [lastZ]
  | i + 1 => by
    have h := lastZ_bound g i
    have h1 := Int.emod_nonneg (g / 4 ^ i) (show (4 : Int) ≠ 0 by decide)
    have h2 := Int.emod_lt_of_pos (g / 4 ^ i) (show (0 : Int) < 4 by decide)
    simp only [lastZ]
    omega
theorem lastZ_lt (g : Int) (i : Nat) : lastZ g i < lastZ g (i + 1) := by
  have h1 := Int.emod_nonneg (g / 4 ^ i) (show (4 : Int) ≠ 0 by decide)
  simp only [lastZ]
  omega
theorem put_norm2 {α β : Type} [DecidableEq α] {a b : α} {A A' B B' : β} {m : α → β} :
    (fun y => if y = a then A else if y = b then B else if y = a then A' else if y = b then B' else m y) = fun y => if y = a then A else if y = b then B else m y := by
  funext y; split
  · rfl
  · split <;> rfl
/-- the loop of the weights -/
noncomputable def WtsJ (base : PySem.Str → Option Value) (g : Int) (D : Addr) (rest : List (Addr × Obj)) (i : Nat) (m₁ : PySem.Str → Option Value) (news₁ : List (Addr × Obj)) : Prop :=
  ∃ (P : Option Value) (t : Tok) (vs : List Value) (k' : Nat), m₁ = (fun y => if y = PySem.Str.ofString "last" then some (.int (lastZ g i) t) else if y = PySem.Str.ofString "place" then P else base y) ∧
    news₁ = (D, W.listOf (List.toArray vs) k') :: rest ∧ IntsAre vs (wtsZ g i)
theorem wts_four (i : Nat) {g : Int} : (4 : Int) ^ (i : Int).toNat ≠ 0 ∧ g.fdiv ((4 : Int) ^ (i : Int).toNat) = g / 4 ^ i := by
  rw [Int.toNat_natCast]
  have h : (0 : Int) < 4 ^ i := Int.pow_pos (by decide)
  exact ⟨by omega, Int.fdiv_eq_ediv_of_nonneg _ (by omega)⟩
theorem wts_four' {i : Nat} (hi : i < 8) : (4 : Int) ^ (i : Int).toNat ≠ 0 ∧ ((4 : Int) ^ (i : Int).toNat).natAbs < 1073741824 := by
  have : i = 0 ∨ i = 1 ∨ i = 2 ∨ i = 3 ∨ i = 4 ∨ i = 5 ∨ i = 6 ∨ i = 7 := (by decide : ∀ i : Nat, i < 8 → (i = 0 ∨ i = 1 ∨ i = 2 ∨ i = 3 ∨ i = 4 ∨ i = 5 ∨ i = 6 ∨ i = 7)) i hi
  rcases this with rfl | rfl | rfl | rfl | rfl | rfl | rfl | rfl <;> decide
theorem lastZ_step (g : Int) (i : Nat) : lastZ g i + 1 + (g / 4 ^ i).fmod 4 = lastZ g (i + 1) := by
  rw [lastZ, Int.fmod_eq_emod_of_nonneg _ (by decide)]
theorem wts_snoc {g : Int} {i : Nat} {vs : List Value} {t : Tok} (h : IntsAre vs (wtsZ g i)) : IntsAre (vs ++ [.int (lastZ g (i + 1)) t]) (wtsZ g (i + 1)) := by
  rw [wtsZ_succ]
  exact IntsAre.append h (.cons _ _ .nil)
theorem wtsZ_pos {g : Int} {n : Nat} (hn : n ≤ 8) : ∀ k ∈ wtsZ g n, 0 ≤ k ∧ k ≤ 40 := by
  intro k hk
  obtain ⟨i, hi, rfl⟩ := List.mem_map.mp hk
  have := lastZ_bound g (i + 1)
  have := List.mem_range.mp hi
  omega
theorem range_news {h₀ h1 h2 : Heap} {L : Addr} {m0 : PySem.Str → Option Value} {news : List (Addr × Obj)} {a b : Int} {t u v : Tok} (F : Fr h₀ L h1 m0) (N : News h₀ L h2 news) (hr : IsRange h2 h1.objs.size a b 1 t u v) :
    News h₀ L h2 ((h1.objs.size, { cls := .type "range", dict := none, data := .fields #[.int a t, .int b u, .int 1 v], slots := #[] }) :: news) := by
  intro p hp
  rcases List.mem_cons.mp hp with rfl | hp
  · refine ⟨hr, Nat.ne_of_gt F.ns.lt, ?_⟩
    cases e : h₀.get? h1.objs.size with
    | none => rfl
    | some o => exact absurd (Heap.lt_size (F.keep _ _ e)) (Nat.lt_irrefl _)
  · exact N p hp
theorem put_same2 {m : PySem.Str → Option Value} {a b : PySem.Str} {v : Value} (h : m a = some v) : m = fun y => if y = a then some v else if y = b then m b else m y := by
  funext y; split
  · rename_i e; rw [e, h]
  · split
    · rename_i e; rw [e]
    · rfl
section
variable {prog : Program} {w : World} {A : Around} {E : Value → Shared → Prop} {env : Env} {h₀ : Heap} {s : Shared} {m₀ : PySem.Str → Option Value} {body : List Stmt} {Q : Flow → Shared → Prop}
theorem wts_range {r D : Addr} {t u v t0 : Tok} {k0 : Nat} {rest : List (Addr × Obj)} (g : Int) (hh : A.handled = none) (hr : IsRange s.heap r 0 8 1 t u v)
    (F : Fr h₀ env.locals s.heap m₀) (N : News h₀ env.locals s.heap ((D, W.listOf #[] k0) :: rest)) (hl : m₀ (PySem.Str.ofString "last") = some (.int 0 t0))
    (step : ∀ (i : Nat) t' (P : Option Value) (tl : Tok) (vs : List Value) (k' : Nat) I oI h tk, i < 8 → IntsAre vs (wtsZ g i) → (∀ p ∈ (D, W.listOf (List.toArray vs) k') :: rest, p.1 ≠ I) →
      Fr h₀ env.locals h (fun y => if y = PySem.Str.ofString "place" then some (.int (i : Int) t') else if y = PySem.Str.ofString "last" then some (.int (lastZ g i) tl) else if y = PySem.Str.ofString "place" then P else m₀ y) →
      News h₀ env.locals h ((I, oI) :: (D, W.listOf (List.toArray vs) k') :: rest) →
      wpAny (model prog w) A (execs body env) (LStep h₀ env.locals I oI (WtsJ m₀ g D rest (i + 1)) Q { s with heap := h, toks := tk }) E { s with heap := h, toks := tk })
    (done : ∀ h tk (P : Option Value) (tl : Tok) (vs : List Value) (k' : Nat), IntsAre vs (wtsZ g 8) →
      Fr h₀ env.locals h (fun y => if y = PySem.Str.ofString "last" then some (.int (lastZ g 8) tl) else if y = PySem.Str.ofString "place" then P else m₀ y) →
      News h₀ env.locals h ((D, W.listOf (List.toArray vs) k') :: rest) → Q .next { s with heap := h, toks := tk }) :
    wpAny (model prog w) A (pyIter (.ref r)) (fun it s₂ => LoopAtV prog w A h₀ env (PySem.Str.ofString "place") body Q E it s₂) E s := by
  run_tac sqBegin
  refine loop_range (n := 8) (WtsJ m₀ g D rest) hh hr (by decide) (by decide) F N ⟨m₀ _, t0, [], k0, put_same2 hl, rfl, .nil⟩ ?_ ?_
  · rintro i t' m₁ news₁ I oI h tk hi ⟨P, tl, vs, k', rfl, rfl, hvs⟩ hoff F' N'
    refine step i t' P tl vs k' I oI h tk hi hvs hoff ?_ N'
    simpa using F'
  · rintro h tk m' news' F' N' ⟨P, tl, vs, k', rfl, rfl, hvs⟩
    exact done h tk P tl vs k' hvs F' N'
  run_tac sqEnd
end
end Mine
end

section
open PySem PySem.W PyProof.Rows PyProof.Rows.LCg PySem.Calls
set_option maxRecDepth 100000
namespace Mine
/-- all sums of choices -/
noncomputable def sumsF (ws : List Int) : List Int := ws.foldl (fun S k => S ++ S.map (· + k)) [0]
theorem count_shift {S : List Int} {v k : Int} : (S.map (· + k)).count v = S.count (v - k) := by
  induction S with
  | nil => rfl
  | cons x r ih =>
    rw [List.map_cons, List.count_cons, List.count_cons, ih]
    have : ((x + k == v) : Bool) = (x == v - k) := by
      rw [Bool.eq_iff_iff]; simp only [beq_iff_eq]; omega
    rw [this]
theorem count_out {S : List Int} {v : Int} (h : ∀ x ∈ S, x ≠ v) : S.count v = 0 := List.count_eq_zero.mpr fun hm => h v hm rfl
noncomputable def cntL (S : List Int) (n : Nat) : List Int := (List.range n).map fun i : Nat => ((S.count (i : Int) : Nat) : Int)
theorem cntL_length (S : List Int) (n : Nat) : (cntL S n).length = n := by simp [cntL]
theorem cntL_get {S : List Int} {n i : Nat} (h : i < (cntL S n).length) : (cntL S n)[i] = ((S.count (i : Int) : Nat) : Int) := by
  simp [cntL]
theorem step_cnt {S : List Int} {n : Nat} {k : Int} (hk : 0 ≤ k) (hS : ∀ x ∈ S, 0 ≤ x ∧ x < n) : waysStep (cntL S n) k = cntL (S ++ S.map (· + k)) (n + k.toNat) := by
  apply List.ext_getElem
  · rw [waysStep_length, cntL_length, cntL_length]
  · intro i h1 h2
    rw [waysStep_length, cntL_length] at h1
    rw [cntL_get, List.count_append, count_shift]
    simp only [waysStep, List.getElem_zipWith]
    have e1 : (cntL S n ++ List.replicate k.toNat 0)[i]'(by simp [cntL_length]; omega) = ((S.count (i : Int) : Nat) : Int) := by
      rw [List.getElem_append]
      split
      · exact cntL_get _
      · rename_i hi
        rw [cntL_length] at hi
        rw [List.getElem_replicate, count_out fun x hx => by have := hS x hx; omega]; rfl
    have e2 : (List.replicate k.toNat 0 ++ cntL S n)[i]'(by simp [cntL_length]; omega) = ((S.count ((i : Int) - k) : Nat) : Int) := by
      rw [List.getElem_append]
      split
      · rename_i hi
        rw [List.length_replicate] at hi
        rw [List.getElem_replicate, count_out fun x hx => by have := hS x hx; omega]; rfl
      · rename_i hi
        rw [List.length_replicate] at hi
        rw [cntL_get]
        simp only [List.length_replicate]
        congr 2; omega
    rw [e1, e2]; push_cast; rfl
theorem fold_cnt : ∀ (l : List Int) (S : List Int) (n : Nat), (∀ k ∈ l, 0 ≤ k) → (∀ x ∈ S, 0 ≤ x ∧ x < n) →
    l.foldl waysStep (cntL S n) = cntL (l.foldl (fun S k => S ++ S.map (· + k)) S) (n + l.sum.toNat) ∧ 0 ≤ l.sum
  | [], S, n, _, _ => by simp
  | k :: l, S, n, hl, hS => by
    have hk := hl k List.mem_cons_self
    simp only [List.foldl_cons, List.sum_cons]
    rw [step_cnt hk hS]
    have h := fold_cnt l (S ++ S.map (· + k)) (n + k.toNat) (fun x hx => hl x (List.mem_cons_of_mem _ hx)) (by
      intro x hx
      rcases List.mem_append.mp hx with h | h
      · have := hS x h; omega
      · obtain ⟨y, hy, rfl⟩ := List.mem_map.mp h
        have := hS y hy; omega)
    rw [h.1]
    refine ⟨?_, by omega⟩
    congr 1; omega
theorem ways_cnt {ws : List Int} (h : ∀ k ∈ ws, 0 ≤ k) : waysZ ws = cntL (sumsF ws) (1 + ws.sum.toNat) := by
  have := (fold_cnt ws [0] 1 h (by simp)).1
  exact this
theorem ways_len {ws : List Int} (h : ∀ k ∈ ws, 0 ≤ k) : (waysZ ws).length = 1 + ws.sum.toNat := by
  rw [ways_cnt h, cntL_length]
theorem ways_mem {ws : List Int} (h : ∀ k ∈ ws, 0 ≤ k) {d : Int} (hd : d ∈ waysZ ws) : ∃ v : Int, d = ((sumsF ws).count v : Nat) := by
  rw [ways_cnt h] at hd
  obtain ⟨i, _, rfl⟩ := List.mem_map.mp hd
  exact ⟨i, rfl⟩
/-- a choice: a number whose binary figures say which -/
noncomputable def dot : List Int → Nat → Int
  | [], _ => 0
  | k :: l, m => (if m % 2 = 1 then k else 0) + dot l (m / 2)
theorem dot_app (k : Int) : ∀ (l : List Int) (m : Nat), m < 2 ^ l.length → dot (l ++ [k]) m = dot l m ∧ dot (l ++ [k]) (2 ^ l.length + m) = dot l m + k
  | [], m, h => by
    have : m = 0 := by simpa using h
    subst this; simp [dot]
  | x :: l, m, h => by
    rw [List.length_cons, Nat.pow_succ] at h
    have ih := dot_app k l (m / 2) (by omega)
    simp only [List.cons_append, dot, List.length_cons, Nat.pow_succ]
    rw [show (2 ^ l.length * 2 + m) / 2 = 2 ^ l.length + m / 2 by omega, show (2 ^ l.length * 2 + m) % 2 = m % 2 by omega, ih.1, ih.2]
    exact ⟨rfl, by omega⟩
theorem range_two (n : Nat) : List.range (2 ^ (n + 1)) = List.range (2 ^ n) ++ (List.range (2 ^ n)).map (2 ^ n + ·) := by
  rw [Nat.pow_succ, Nat.mul_two, List.range_add]
theorem sumsF_snoc (l : List Int) (k : Int) : sumsF (l ++ [k]) = sumsF l ++ (sumsF l).map (· + k) := by
  simp [sumsF, List.foldl_append]
theorem sums_dot (ws : List Int) : sumsF ws = (List.range (2 ^ ws.length)).map (dot ws) := by
  induction h : ws.length generalizing ws with
  | zero =>
    have : ws = [] := List.length_eq_zero_iff.mp h
    subst this; rfl
  | succ n ih =>
    rcases List.eq_nil_or_concat ws with rfl | ⟨l, k, rfl⟩
    · simp at h
    · rw [List.concat_eq_append] at h ⊢
      have hl : l.length = n := by simpa using h
      rw [sumsF_snoc, ih l hl, range_two, List.map_append, List.map_map, List.map_map]
      subst hl
      congr 1
      · apply List.map_congr_left
        intro m hm
        exact (dot_app k l m (List.mem_range.mp hm)).1.symm
      · apply List.map_congr_left
        intro m hm
        exact (dot_app k l m (List.mem_range.mp hm)).2.symm
/-- the binary figures in all -/
noncomputable def pc : Nat → Nat → Int
  | 0, _ => 0
  | n + 1, m => ((m % 2 : Nat) : Int) + pc n (m / 2)
/-- b lies above a whatever the weights are: from each place on, b has no fewer figures -/
noncomputable def dom : Nat → Nat → Nat → Bool
  | 0, _, _ => true
  | n + 1, a, b => decide (pc (n + 1) a ≤ pc (n + 1) b) && dom n (a / 2) (b / 2)
noncomputable def sdom : Nat → Nat → Nat → Bool
  | 0, _, _ => false
  | n + 1, a, b => decide (pc (n + 1) a ≤ pc (n + 1) b) && ((decide (pc (n + 1) a < pc (n + 1) b) && dom n (a / 2) (b / 2)) || sdom n (a / 2) (b / 2))
noncomputable def rises : Int → List Int → Prop
  | _, [] => True
  | p, k :: l => p < k ∧ rises k l
theorem dot_pc (k : Int) (m : Nat) : (if m % 2 = 1 then k else 0) = k * ((m % 2 : Nat) : Int) := by
  rcases Nat.mod_two_eq_zero_or_one m with h | h <;> simp [h]
theorem dom_le : ∀ (l : List Int) (p : Int) (a b : Nat), 0 ≤ p → rises p l → dom l.length a b = true → dot l a + p * pc l.length b ≤ dot l b + p * pc l.length a
  | [], p, a, b, _, _, _ => by simp [dot, pc]
  | k :: l, p, a, b, hp, hr, hd => by
    simp only [List.length_cons, dom, Bool.and_eq_true, decide_eq_true_eq] at hd
    have ih := dom_le l k (a / 2) (b / 2) (by have := hr.1; omega) hr.2 hd.2
    have h1 : 0 ≤ (k - p) * (pc (l.length + 1) b - pc (l.length + 1) a) := Int.mul_nonneg (by have := hr.1; omega) (by have := hd.1; omega)
    simp only [dot, dot_pc, List.length_cons]
    simp only [pc] at h1 ⊢
    generalize pc l.length (b / 2) = B at *
    generalize pc l.length (a / 2) = A at *
    simp only [Int.sub_mul, Int.mul_sub, Int.mul_add] at *
    omega
theorem sdom_lt : ∀ (l : List Int) (p : Int) (a b : Nat), 0 ≤ p → rises p l → sdom l.length a b = true → dot l a + p * pc l.length b < dot l b + p * pc l.length a
  | [], p, a, b, _, _, hd => by simp [sdom] at hd
  | k :: l, p, a, b, hp, hr, hd => by
    simp only [List.length_cons, sdom, Bool.and_eq_true, Bool.or_eq_true, decide_eq_true_eq] at hd
    obtain ⟨hd1, hd2⟩ := hd
    have h1 : 0 ≤ (k - p) * (pc (l.length + 1) b - pc (l.length + 1) a) := Int.mul_nonneg (by have := hr.1; omega) (by omega)
    have key : dot l (a / 2) + k * pc l.length (b / 2) ≤ dot l (b / 2) + k * pc l.length (a / 2) ∧ (0 < (k - p) * (pc (l.length + 1) b - pc (l.length + 1) a) ∨ dot l (a / 2) + k * pc l.length (b / 2) < dot l (b / 2) + k * pc l.length (a / 2)) := by
      rcases hd2 with ⟨h2, h3⟩ | h3
      · exact ⟨dom_le l k _ _ (by have := hr.1; omega) hr.2 h3, Or.inl (Int.mul_pos (by have := hr.1; omega) (by omega))⟩
      · have := sdom_lt l k _ _ (by have := hr.1; omega) hr.2 h3
        exact ⟨by omega, Or.inr this⟩
    simp only [dot, dot_pc, List.length_cons]
    simp only [pc] at h1 key ⊢
    generalize pc l.length (b / 2) = B at *
    generalize pc l.length (a / 2) = A at *
    simp only [Int.sub_mul, Int.mul_sub, Int.mul_add] at *
    omega
noncomputable def upC (n : Nat) : List Nat → Bool
  | [] => true
  | [_] => true
  | a :: b :: r => sdom n a b && upC n (b :: r)
theorem upC_lt {l : List Int} (hr : rises 0 l) : ∀ c : List Nat, upC l.length c = true → (c.map (dot l)).Pairwise (· < ·)
  | [], _ => .nil
  | [_], _ => by simp
  | a :: b :: r, h => by
    simp only [upC, Bool.and_eq_true] at h
    have ih := upC_lt hr (b :: r) h.2
    have h1 := sdom_lt l 0 a b (Int.le_refl _) hr h.1
    simp only [Int.zero_mul, Int.add_zero] at h1
    rw [List.map_cons]
    refine List.pairwise_cons.mpr ⟨?_, ih⟩
    intro y hy
    rw [List.map_cons] at hy ih
    rcases List.mem_cons.mp hy with rfl | hy
    · exact h1
    · exact Int.lt_trans h1 ((List.pairwise_cons.mp ih).1 y hy)
/-- fourteen chains that hold each choice once -/
noncomputable def chains : List (List Nat) :=
 [[31, 47, 55, 59, 61, 62, 63],
  [6, 7, 11, 13, 14, 22, 26, 42, 50, 52, 56, 57, 58, 60, 92, 108, 116, 120, 121, 185, 186, 218, 234, 236, 244, 248],
  [45, 77, 78, 79, 87, 103, 167, 171, 173],
  [43, 51, 53, 85, 89, 90, 91, 93, 94, 95, 159],
  [15, 23, 27, 29, 30, 46, 54, 86, 102, 106, 107, 109, 110, 111, 119, 123, 125, 126, 127, 191],
  [0, 1, 2, 4, 8, 16, 17, 33, 65, 66, 68, 69, 70, 74, 75, 83, 99, 101, 105, 169, 170, 178, 179, 181, 182, 214, 230, 231, 235, 237, 238, 246],
  [19, 21, 25, 41, 49, 81, 82, 98, 100, 104, 112, 113, 114, 115, 117, 118, 122, 124, 188, 220, 221, 222, 223, 239, 247, 251, 253, 254, 255],
  [143],
  [3, 5, 9, 10, 18, 34, 35, 67, 131, 133, 134, 138, 140, 141, 142, 150, 151, 155, 157, 158, 174, 175, 183, 187, 189, 190],
  [72, 73, 137, 145, 146, 148, 149, 153, 154, 156, 172, 180, 184, 216, 217],
  [12, 20, 24, 40, 48, 80, 96, 97, 161, 162, 164, 165, 166, 198, 199, 203, 211, 227, 229, 233, 241, 242, 243, 245, 249, 250, 252],
  [28, 44, 76, 84, 88, 152, 168, 176, 177, 209, 210, 212, 213],
  [36, 37, 38, 39, 71, 135, 139, 147, 163, 195, 197, 201, 202, 204, 205, 206, 207, 215, 219],
  [32, 64, 128, 129, 130, 132, 136, 144, 160, 192, 193, 194, 196, 200, 208, 224, 225, 226, 228, 232, 240]]
theorem chains_up : (chains.all fun c => upC 8 c) = true := by decide +kernel
theorem chains_all : chains.flatten.isPerm (List.range (2 ^ 8)) = true := by decide +kernel
theorem nodup_of_lt {l : List Int} (h : l.Pairwise (· < ·)) : l.Nodup := h.imp fun hab => Int.ne_of_lt hab
theorem count_chains {ws : List Int} (h8 : ws.length = 8) (v : Int) : (sumsF ws).count v = (chains.map fun c => (c.map (dot ws)).count v).sum := by
  have hp : chains.flatten.Perm (List.range (2 ^ 8)) := List.isPerm_iff.mp chains_all
  rw [sums_dot, h8, ← (hp.map (dot ws)).count_eq, List.map_flatten, List.count_flatten, List.map_map]
  rfl
theorem chain_nodup {ws : List Int} (h8 : ws.length = 8) (hr : rises 0 ws) {c : List Nat} (hc : c ∈ chains) : (c.map (dot ws)).Nodup :=
  nodup_of_lt (upC_lt hr c (by rw [h8]; exact List.all_eq_true.mp chains_up c hc))
theorem sum_le_map {α : Type} {f g : α → Nat} : ∀ {l : List α}, (∀ x ∈ l, f x ≤ g x) → (l.map f).sum ≤ (l.map g).sum
  | [], _ => Nat.le_refl _
  | x :: l, h => by
    have h1 := h x List.mem_cons_self
    have h2 := sum_le_map (l := l) fun y hy => h y (List.mem_cons_of_mem _ hy)
    simp only [List.map_cons, List.sum_cons]; omega
/-- no sum has more than fourteen choices -/
theorem count_le {ws : List Int} (h8 : ws.length = 8) (hr : rises 0 ws) (v : Int) : (sumsF ws).count v ≤ 14 := by
  rw [count_chains h8]
  refine Nat.le_trans (sum_le_map (g := fun _ => 1) fun c hc => ?_) (by decide)
  exact List.nodup_iff_count.mp (chain_nodup h8 hr hc) v
theorem sum_counts_len {S : List Int} (hS : S.Nodup) : ∀ L : List Int, (S.map fun v => L.count v).sum ≤ L.length
  | [] => by
    have : (S.map fun v => ([] : List Int).count v) = S.map fun _ => 0 := List.map_congr_left fun _ _ => rfl
    rw [this]
    have h0 : ∀ S : List Int, (S.map fun _ => 0).sum = 0 := by intro S; induction S <;> simp_all
    rw [h0]; exact Nat.le_refl _
  | x :: L => by
    have ih := sum_counts_len hS L
    have h1 : (S.map fun v => (x :: L).count v).sum = (S.map fun v => L.count v).sum + S.count x := by
      clear hS ih
      induction S with
      | nil => rfl
      | cons s S ih =>
        rw [List.map_cons, List.sum_cons, ih, List.map_cons, List.sum_cons, List.count_cons, List.count_cons]
        have : ((x == s) : Bool) = (s == x) := by rw [Bool.eq_iff_iff]; simp only [beq_iff_eq]; exact eq_comm
        rw [this]; omega
    have h2 := List.nodup_iff_count.mp hS x
    rw [h1, List.length_cons]; omega
theorem sum_counts_one {S L : List Int} (hL : L.Nodup) : (S.map fun v => L.count v).sum ≤ S.length := by
  refine Nat.le_trans (sum_le_map (g := fun _ => 1) fun v _ => List.nodup_iff_count.mp hL v) ?_
  clear hL
  induction S with
  | nil => exact Nat.le_refl _
  | cons a S ih => simp only [List.map_cons, List.sum_cons, List.length_cons]; omega
theorem sum_swap {α β : Type} (f : α → β → Nat) : ∀ (l : List α) (k : List β), (l.map fun a => (k.map fun b => f a b).sum).sum = (k.map fun b => (l.map fun a => f a b).sum).sum
  | [], k => by
    induction k with
    | nil => rfl
    | cons b k ih => simp only [List.map_cons, List.sum_cons, List.map_nil, List.sum_nil] at ih ⊢; omega
  | a :: l, k => by
    have ih := sum_swap f l k
    simp only [List.map_cons, List.sum_cons, ih]
    clear ih
    induction k with
    | nil => rfl
    | cons b k ih => simp only [List.map_cons, List.sum_cons]; omega
/-- what k sums of choices hold at most, all together -/
noncomputable def cap (k : Nat) : Nat := (chains.map fun c => min k c.length).sum
theorem sum_counts {ws S : List Int} (h8 : ws.length = 8) (hr : rises 0 ws) (hS : S.Nodup) : (S.map fun v => (sumsF ws).count v).sum ≤ cap S.length := by
  have h1 : (S.map fun v => (sumsF ws).count v) = S.map fun v => (chains.map fun c => (c.map (dot ws)).count v).sum := List.map_congr_left fun v _ => count_chains h8 v
  rw [h1, sum_swap]
  refine sum_le_map fun c hc => ?_
  have a := sum_counts_len hS (c.map (dot ws))
  have b := sum_counts_one (S := S) (chain_nodup h8 hr hc)
  rw [List.length_map] at a
  omega
theorem perm_sub {α : Type} {l₁ l₂ : List α} (hp : l₁.Perm l₂) : ∀ {l₃ : List α}, l₃.Sublist l₁ → ∃ l₄ : List α, l₄.Sublist l₂ ∧ l₄.Perm l₃ := by
  induction hp with
  | nil => intro l₃ h; exact ⟨l₃, h, .refl _⟩
  | cons x _ ih =>
    intro l₃ h
    cases h with
    | cons _ h => obtain ⟨l₄, a, b⟩ := ih h; exact ⟨l₄, a.cons _, b⟩
    | cons_cons _ h => obtain ⟨l₄, a, b⟩ := ih h; exact ⟨x :: l₄, a.cons_cons _, b.cons _⟩
  | swap x y l =>
    intro l₃ h
    cases h with
    | cons _ h =>
      cases h with
      | cons _ h => exact ⟨_, (h.cons _).cons _, .refl _⟩
      | cons_cons _ h => exact ⟨_, (h.cons _).cons_cons _, .refl _⟩
    | cons_cons _ h =>
      cases h with
      | cons _ h => exact ⟨_, (h.cons_cons _).cons _, .refl _⟩
      | cons_cons _ h => exact ⟨_, (h.cons_cons _).cons_cons _, .swap ..⟩
  | trans _ _ ih1 ih2 =>
    intro l₃ h
    obtain ⟨l₄, a, b⟩ := ih1 h
    obtain ⟨l₅, c, d⟩ := ih2 a
    exact ⟨l₅, c, d.trans b⟩
theorem perm_sum {a b : List Int} (h : a.Perm b) : a.sum = b.sum := by
  induction h with
  | nil => rfl
  | cons _ _ ih => simp only [List.sum_cons, ih]
  | swap _ _ _ => simp only [List.sum_cons]; omega
  | trans _ _ h1 h2 => rw [h1, h2]
theorem sum_cast {α : Type} (f : α → Nat) : ∀ l : List α, (l.map fun x => ((f x : Nat) : Int)).sum = ((l.map f).sum : Nat)
  | [] => rfl
  | x :: l => by simp only [List.map_cons, List.sum_cons, sum_cast f l]; push_cast; rfl
/-- the k first of the ways, in any order, are cap k at most -/
theorem top_le {ws fal : List Int} (h8 : ws.length = 8) (hr : rises 0 ws) (h0 : ∀ k ∈ ws, 0 ≤ k) (hp : fal.Perm (waysZ ws)) (k : Nat) (hk : k ≤ fal.length) : (fal.take k).sum ≤ cap k := by
  obtain ⟨l₄, hs, hp4⟩ := perm_sub hp (List.take_sublist k fal)
  rw [← perm_sum hp4]
  have hl : l₄.length = k := by rw [hp4.length_eq, List.length_take]; omega
  rw [ways_cnt h0, cntL] at hs
  obtain ⟨S, hS, rfl⟩ := List.sublist_map_iff.mp hs
  rw [List.length_map] at hl
  have hn : (S.map fun i : Nat => (i : Int)).Nodup := by
    have : S.Nodup := List.nodup_range.sublist hS
    exact List.Pairwise.map _ (fun a b hab => by intro h; exact hab (by omega)) this
  have := sum_counts h8 hr hn
  rw [List.map_map, List.length_map, hl] at this
  rw [sum_cast]
  exact_mod_cast this
theorem cap_list : ((List.range 15).map fun i => cap (i + 1)) = [14, 27, 40, 53, 66, 79, 92, 104, 116, 127, 138, 148, 158, 167, 176] := by decide +kernel
end Mine
end

section
open PySem PySem.W PyProof.Rows PyProof.Rows.LCg PySem.Calls
set_option maxRecDepth 100000
namespace Mine
theorem ofD_zip {B : Int} : ∀ {x y : List Int}, x.length = y.length → ofD B (List.zipWith (· + ·) x y) = ofD B x + ofD B y
  | [], [], _ => by simp [ofD]
  | a :: x, b :: y, h => by
    have ih := ofD_zip (B := B) (x := x) (y := y) (by simpa using h)
    simp only [List.zipWith_cons_cons, ofD, ih, Int.mul_add]; omega
  | [], b :: y, h => by simp at h
  | a :: x, [], h => by simp at h
theorem ofD_zero (B : Int) : ∀ n : Nat, ofD B (List.replicate n 0) = 0
  | 0 => rfl
  | n + 1 => by simp [List.replicate_succ, ofD, ofD_zero B n]
theorem ofD_step {B : Int} (ws : List Int) (k : Int) : ofD B (waysStep ws k) = ofD B ws * (B ^ k.toNat + 1) := by
  rw [waysStep, ofD_zip (by simp; omega), ofD_append, ofD_append]; simp only [ofD_zero, List.length_replicate]; rw [ Int.mul_zero, Int.mul_add, Int.mul_comm (ofD B ws)]
  omega
theorem ofD_ways {B : Int} (ws : List Int) : ofD B (waysZ ws) = prodZ ws B := by
  have : ∀ (l : List Int) (xs : List Int), ofD B (l.foldl waysStep xs) = l.foldl (fun p w => p * (B ^ w.toNat + 1)) (ofD B xs) := by
    intro l
    induction l with
    | nil => intro xs; rfl
    | cons k l ih => intro xs; rw [List.foldl_cons, ih, ofD_step, List.foldl_cons]
  rw [waysZ, this]
  simp [prodZ, ofD]
/-- the last of the ways is 1 -/
theorem step_last {ws : List Int} {k : Int} (h : ws.getLast? = some 1) (hk : 0 < k) : (waysStep ws k).getLast? = some 1 := by
  rcases List.eq_nil_or_concat ws with rfl | ⟨l, d, rfl⟩
  · simp at h
  · rw [List.concat_eq_append] at h ⊢
    have hd : d = 1 := by simpa using h
    subst hd
    obtain ⟨n, hn⟩ : ∃ n, k.toNat = n + 1 := ⟨k.toNat - 1, by omega⟩
    rw [waysStep, hn, List.replicate_succ', ← List.append_assoc, ← List.append_assoc, List.zipWith_append (by simp; omega)]
    simp
theorem ways_last {ws : List Int} (h : ∀ k ∈ ws, 0 < k) : (waysZ ws).getLast? = some 1 := by
  have : ∀ (l : List Int) (xs : List Int), (∀ k ∈ l, 0 < k) → xs.getLast? = some 1 → (l.foldl waysStep xs).getLast? = some 1 := by
    intro l
    induction l with
    | nil => intro xs _ h; exact h
    | cons k l ih => intro xs hl h; exact ih _ (fun x hx => hl x (List.mem_cons_of_mem _ hx)) (step_last h (hl k List.mem_cons_self))
  exact this ws [1] h rfl
theorem ways_top1 {ws : List Int} (h : ∀ k ∈ ws, 0 < k) : Top1 (waysZ ws) := by
  intro d hd
  rw [ways_last h] at hd
  cases hd; decide
theorem wts_len8 (g : Int) : (wtsZ g 8).length = 8 := wtsZ_length g 8
theorem wts_rises (g : Int) : rises 0 (wtsZ g 8) := by
  have e : wtsZ g 8 = [lastZ g 1, lastZ g 2, lastZ g 3, lastZ g 4, lastZ g 5, lastZ g 6, lastZ g 7, lastZ g 8] := rfl
  rw [e]
  have h0 : lastZ g 0 = 0 := rfl
  refine ⟨?_, lastZ_lt g 1, lastZ_lt g 2, lastZ_lt g 3, lastZ_lt g 4, lastZ_lt g 5, lastZ_lt g 6, lastZ_lt g 7, trivial⟩
  have h := lastZ_lt g 0
  rw [h0] at h; exact h
theorem wts_bound (g : Int) : ∀ k ∈ wtsZ g 8, 1 ≤ k ∧ k ≤ 32 := by
  intro k hk
  obtain ⟨i, hi, rfl⟩ := List.mem_map.mp hk
  have := lastZ_bound g (i + 1)
  have := List.mem_range.mp hi
  omega
theorem sub_cnt {a b : List Int} (h : a.Sublist b) : ∀ {S T : List Int}, S.Sublist T → (a.foldl (fun S k => S ++ S.map (· + k)) S).Sublist (b.foldl (fun S k => S ++ S.map (· + k)) T) := by
  induction h with
  | slnil => intro S T h; exact h
  | cons k _ ih => intro S T h; exact ih (h.trans (List.sublist_append_left _ _))
  | cons_cons k _ ih => intro S T h; exact ih (h.append (h.map _))
/-- the ways of some of the weights -/
theorem ways_figs {g : Int} {ws : List Int} (hs : ws.Sublist (wtsZ g 8)) : ∀ d ∈ waysZ ws, 0 ≤ d ∧ d ≤ 14 := by
  intro d hd
  obtain ⟨v, rfl⟩ := ways_mem (fun k hk => by have := wts_bound g k (hs.subset hk); omega) hd
  have h1 : (sumsF ws).count v ≤ (sumsF (wtsZ g 8)).count v := (sub_cnt hs (List.Sublist.refl [0])).count_le v
  have h2 := count_le (wts_len8 g) (wts_rises g) v
  omega
theorem sum_le_mul {c : Int} : ∀ {l : List Int}, (∀ k ∈ l, k ≤ c) → l.sum ≤ l.length * c
  | [], _ => by simp
  | k :: l, h => by
    have h1 := h k List.mem_cons_self
    have h2 := sum_le_mul (c := c) (l := l) fun x hx => h x (List.mem_cons_of_mem _ hx)
    rw [List.sum_cons, List.length_cons]
    push_cast
    rw [Int.add_mul]; omega
theorem wts_sum (g : Int) : (wtsZ g 8).sum ≤ 144 := by
  have e : wtsZ g 8 = [lastZ g 1, lastZ g 2, lastZ g 3, lastZ g 4, lastZ g 5, lastZ g 6, lastZ g 7, lastZ g 8] := rfl
  rw [e]
  simp only [List.sum_cons, List.sum_nil]
  have := lastZ_bound g 1; have := lastZ_bound g 2; have := lastZ_bound g 3; have := lastZ_bound g 4
  have := lastZ_bound g 5; have := lastZ_bound g 6; have := lastZ_bound g 7; have := lastZ_bound g 8
  omega
noncomputable def mostZ : List Int := [1, 1, 1, 2, 2, 3, 4, 5, 6, 7, 8, 9, 10, 11, 12, 13, 13, 13, 14, 13, 13, 13, 12, 11, 10, 9, 8, 7, 6, 5, 4, 3, 2, 2, 1, 1, 1]
theorem most_eq : waysZ ((List.range 8).map fun i : Nat => 1 + (i : Int)) = mostZ := by decide +kernel
/-- the figures of the whole -/
noncomputable def figsZ (g : Int) : List Int := mostZ ++ waysZ (wtsZ g 8)
theorem figs_figs (g : Int) : ∀ d ∈ figsZ g, 0 ≤ d ∧ d ≤ 14 := by
  intro d hd
  rcases List.mem_append.mp hd with h | h
  · exact (show ∀ d ∈ mostZ, 0 ≤ d ∧ d ≤ 14 by decide) d h
  · exact ways_figs (List.Sublist.refl _) d h
theorem figs_top (g : Int) : Top1 (figsZ g) := by
  intro d hd
  have : (figsZ g).getLast? = some 1 := by
    rw [figsZ, List.getLast?_append, ways_last fun k hk => by have := wts_bound g k hk; omega]; rfl
  rw [this] at hd
  cases hd; decide
theorem figs_of (g : Int) : prodZ (wtsZ g 8) 16 * 16 ^ 37 + prodZ ((List.range 8).map fun i : Nat => 1 + (i : Int)) 16 = ofD 16 (figsZ g) := by
  rw [figsZ, ofD_append, ← most_eq, ofD_ways, ofD_ways, most_eq, Int.mul_comm]
  rw [show mostZ.length = 37 from rfl]
  omega
theorem figs_len (g : Int) : (figsZ g).length ≤ 182 := by
  have h := wts_sum g
  rw [figsZ, List.length_append, ways_len fun k hk => by have := wts_bound g k hk; omega, show mostZ.length = 37 from rfl]
  omega
theorem ofD_sub {B c : Int} : ∀ (ds : List Int), ofD B (ds.map (c - ·)) = ofD B (List.replicate ds.length c) - ofD B ds
  | [] => by simp [ofD]
  | d :: r => by
    have ih := ofD_sub (B := B) (c := c) r
    simp only [List.map_cons, ofD, List.length_cons, List.replicate_succ, ih, Int.mul_sub]
    omega
theorem ofD_top (B : Int) : ∀ n : Nat, ofD B (List.replicate n (B - 1)) = B ^ n - 1
  | 0 => by simp [ofD]
  | n + 1 => by
    have ih := ofD_top B n
    rw [List.replicate_succ, ofD, ih, Int.pow_succ, Int.mul_sub, Int.mul_comm B]
    omega
/-- what the whole is short of the greatest number with two figures more -/
theorem short_of (ds : List Int) : (16 : Int) ^ (ds.length + 2) - 1 - ofD 16 ds = ofD 16 (ds.map (15 - ·) ++ [15, 15]) := by
  rw [ofD_append, ofD_sub, List.length_map]
  have h := ofD_top 16 ds.length
  rw [show (16 : Int) - 1 = 15 from rfl] at h
  rw [h, Int.pow_add]
  simp only [ofD]
  omega
end Mine
end

section
open PySem PySem.W PyProof.Rows PyProof.Rows.LCg PySem.Calls
set_option maxRecDepth 100000
namespace Mine
open PySem.Spec PyProof.V
section
open Builtin
theorem rev_range (n : Nat) : sliceRange ((n : Int) - 1) (-1) (-1) = (List.range n).map fun k => n - 1 - k := by
  unfold sliceRange
  rw [if_neg (by decide)]
  cases n with
  | zero => rfl
  | succ n =>
    rw [if_pos (by omega)]
    rw [show (((n + 1 : Nat) : Int) - 1 - -1 - -1 - 1) / (- -1) = ((n + 1 : Nat) : Int) by simp]
    dsimp only
    rw [Int.toNat_natCast]
    apply List.map_congr_left
    intro k hk
    have := List.mem_range.mp hk
    omega
theorem fm_congr {α β : Type} {f g : α → Option β} : ∀ {l : List α}, (∀ x ∈ l, f x = g x) → l.filterMap f = l.filterMap g
  | [], _ => rfl
  | x :: l, h => by
    have ih := fm_congr (l := l) fun y hy => h y (List.mem_cons_of_mem _ hy)
    simp only [List.filterMap_cons, h x List.mem_cons_self, ih]
theorem rev_picked (b : Array UInt8) : Bytes.sliced b ((b.size : Int) - 1) (-1) (-1) = b.toList.reverse.toArray := by
  unfold Bytes.sliced
  rw [rev_range, List.filterMap_map]
  congr 1
  have h : ∀ k ∈ List.range b.size, ((b[·]?) ∘ fun k => b.size - 1 - k) k = (some ∘ fun k => b.toList.reverse.getD k 0) k := by
    intro k hk
    have hk := List.mem_range.mp hk
    simp only [Function.comp]
    rw [getElem?_pos b _ (by omega), List.getD_eq_getElem?_getD, List.getElem?_reverse (by simpa using hk)]
    rw [Array.length_toList, List.getElem?_eq_getElem (by simp; omega)]
    simp
  rw [fm_congr h, List.filterMap_eq_map]
  apply List.ext_getElem
  · simp
  · intro i h1 h2
    simp only [List.length_map, List.length_range] at h1
    rw [List.getElem_map, List.getElem_range, List.getD_eq_getElem?_getD, List.getElem?_eq_getElem h2]
    rfl
theorem meets_rev (b : Array UInt8) (t : Tok) (a : Addr) (u : Tok) :
    Meets («bytes.__getitem__» ⟨[.bytes b t, .ref a], []⟩) (fun _ R s => s.heap.IsSliceOf a .none .none (.int (-1) u) ∧ b.size ≤ sizeLine ∧ ∀ t' k, R (.ok (.ret (.bytes b.toList.reverse.toArray t'))) { s with toks := k }) := by
  run_tac sqBegin
  refine .of_wp fun prog w A R s hS => ?_
  obtain ⟨⟨o, ho, hc, hd⟩, hsz, h⟩ := hS
  have hT : s.TypeIs (.ref a) "slice" := ⟨o, ho, hc⟩
  show wpAny _ _ (Bytes.payload (.bytes b t) >>= fun r => _) _ _ s
  refine wpAny_bind (wpAny_of_eq (a := b) rfl ?_)
  show wpAny _ _ (Bytes.subscript? (.ref a) >>= fun r => _) _ _ s
  refine wpAny_bind ?_
  unfold Bytes.subscript?
  refine wpAny_bind (wpAny_specialOf hT slice_no_index (wpAny_pure ?_))
  refine wpAny_bind (wpAny_typeOf hT ?_)
  show wpAny _ _ (Bytes.sliceParts (.ref a) >>= fun r => _) _ _ s
  refine wpAny_bind ?_
  unfold Bytes.sliceParts
  refine wpAny_bind (wpAny_field (x := .int (-1) u) ho hd rfl ?_)
  kby_int
  refine wpAny_ite (KBy.ite_no (show ¬ ((rawInt (-1) == rawInt 0) = true) from by decide) ?_)
  refine wpAny_bind (wpAny_field (x := .none) ho hd rfl ?_)
  kby_none
  refine wpAny_bind (wpAny_field (x := .none) ho hd rfl ?_)
  kby_none
  refine wpAny_pure ?_
  have go : wpAny (model prog w) A.in1 (sliceIndices (rawPart none) (rawPart none) (rawPart (some (-1))) b.size) (fun r s' => r = sliceBounds none none (some (-1)) b.size ∧ s' = s) (fun _ _ => False) s :=
    wpAny_of_eq (sliceIndices_raw none none (some (-1)) b.size (fun e => by cases e)) ⟨rfl, rfl⟩
  refine wpAny_bind (wpAny_mono go (fun r s' hr => ?_) fun _ _ e => e.elim)
  obtain ⟨hr1, hr2⟩ := hr
  subst hr1 hr2
  have hb : sliceBounds none none (some (-1)) b.size = ((b.size : Int) - 1, -1, -1) := rfl
  rw [hb]
  dsimp only
  refine wpAny_ite (KBy.ite_no (by simp) ?_)
  rw [rev_picked]
  exact wpAny_bind (wpAny_mkBytes (wpAny_pure ⟨_, rfl, h _ _⟩) (by simpa using hsz))
  run_tac sqEnd
end
section
open Builtin
variable {prog : Program} {w : World} {A : Around} {E : Value → Shared → Prop} {s : Shared} {value slice : PySem.Expr} {b : Array UInt8} {t : Tok} {h₀ : Heap} {L : Addr} {m : PySem.Str → Option Value} {news : List (Addr × Obj)} {Q : Value → Shared → Prop} {ks : List Int}
theorem rev_K {u : Tok} (hF : Fr h₀ L s.heap m) (hN : News h₀ L s.heap news) (hk : KBw.bInts b = ks) (hz : ks.length ≤ 16777216)
    (h : ∀ h' b' t' k, Fr h₀ L h' m → News h₀ L h' news → KBw.bInts b' = ks.reverse → Q (.bytes b' t') { s with heap := h', toks := k })
    (hs : subscripted slice false (.bytes b t) (.ref s.heap.objs.size) = operate [.ref s.heap.objs.size, .bytes b t] (getItem (.bytes b t) (.ref s.heap.objs.size)) := by with_unfolding_all rfl)
    (ht : ∀ r, letTemporaryGo value (.bytes b t) r = pure () := by intro _; with_unfolding_all rfl) :
    wpAny (model prog w) A (subscriptTail value slice (.bytes b t) (.ref s.heap.objs.size)) Q E { s with heap := s.heap.push { cls := .type "slice", data := .fields #[.none, .none, .int (-1) u] } } :=
  tail_of_ItemOn ⟨"bytes", _, FB.slot_bytes_getitem.lookup, typeIs_bytes _ _ _, getItem_meets (typeIs_bytes _ _ _) (by decide) FB.slot_bytes_getitem FB.entry_bytes_getitem (FB.args_bytes_getitem_2 _ _) (meets_rev b t _ u)
    ⟨Heap.IsSliceOf.new _ _ _ _, by rw [← KBw.ints_length b, hk, sizeLine_eq]; exact hz, fun t' k => h _ _ _ _ (hF.push _) (News.pushKeep hN _) (by rw [KBw.ints_list, List.map_reverse, ← hk]; rfl)⟩⟩ hs ht
end
end Mine
end

section
open PySem PySem.W PyProof.Rows PyProof.Rows.LCg PySem.Calls
set_option maxRecDepth 100000
namespace Mine
/-- the law's statements, and its scope, as they stand in the row's program -/
def lawPick (n : Nat) : Lean.Meta.MetaM (Array Lean.Expr × Lean.Expr) := open Lean Meta in do
  let prog := mkConst ``PySem.Challenge.pw_xi0008_01
  let main ← mkAppM ``PySem.Program.main #[prog]
  let body ← mkAppM ``PySem.Module.body #[main]
  let items (e : Lean.Expr) : MetaM (Array Lean.Expr) := do
    let mut e ← whnf e
    let mut acc := #[]
    for _ in [0:100] do
      if e.isAppOfArity ``List.cons 3 then
        acc := acc.push e.appFn!.appArg!
        e ← whnf e.appArg!
      else break
    return acc
  let tops ← items body
  let law ← whnf tops[n]!
  let a := law.getAppArgs
  return (← items a[2]!, ← whnf a[6]!)
def lawPart (lo hi : Nat) (tail : Lean.Name) : Lean.Elab.Tactic.TacticM Unit := open Lean Meta Elab Tactic in do
  let (sts, _) ← lawPick 19
  let ty := mkConst ``PySem.Stmt
  let last ← if tail.isAnonymous then pure (mkApp (mkConst ``List.nil [.zero]) ty) else pure (mkConst tail)
  let e := (sts.extract lo hi).foldr (fun s l => mkApp3 (mkConst ``List.cons [.zero]) ty s l) last
  closeMainGoal `lawPart e
noncomputable def lawScope : Scope := by run_tac do let (_, sc) ← lawPick 19; Lean.Elab.Tactic.closeMainGoal `lawScope sc
noncomputable def lawZ : List Stmt := by run_tac lawPart 31 100 .anonymous
noncomputable def lawG : List Stmt := by run_tac lawPart 27 31 ``lawZ
noncomputable def lawM : List Stmt := by run_tac lawPart 26 27 ``lawG
noncomputable def lawK : List Stmt := by run_tac lawPart 25 26 ``lawM
noncomputable def lawF : List Stmt := by run_tac lawPart 21 25 ``lawK
noncomputable def lawE : List Stmt := by run_tac lawPart 20 21 ``lawF
noncomputable def lawD : List Stmt := by run_tac lawPart 16 20 ``lawE
noncomputable def lawC : List Stmt := by run_tac lawPart 15 16 ``lawD
noncomputable def lawH : List Stmt := by run_tac lawPart 13 15 ``lawC
noncomputable def lawB : List Stmt := by run_tac lawPart 9 13 ``lawH


theorem ints_inj {b c : Array UInt8} (h : KBw.bInts b = KBw.bInts c) : b.toList = c.toList := by
  unfold KBw.bInts at h
  exact (List.map_inj_right fun x y e => UInt8.toNat_inj.mp (by omega)).mp h
theorem turned {g : Int} {b c : Array UInt8} (hb : KBw.bInts b = letters ((figsZ g).map (15 - ·) ++ [15, 15])) (hc : KBw.bInts c = [80, 80] ++ (letters (figsZ g)).map (145 - ·)) : b.toList = c.toList := by
  refine ints_inj ?_
  rw [hb, hc]
  simp only [letters, List.map_append, List.reverse_append, List.map_map, List.map_reverse]
  have e : List.map ((fun x : Int => 65 + x) ∘ fun x : Int => 15 - x) (figsZ g) = List.map ((fun x : Int => 145 - x) ∘ fun x : Int => 65 + x) (figsZ g) := by
    apply List.map_congr_left
    intro d _
    show (65 : Int) + (15 - d) = 145 - (65 + d)
    omega
  rw [e]; rfl
noncomputable abbrev lawEnv (L fa : Addr) (cd : Value) : Env := envOfC (PySem.Str.ofString "law") lawScope L fa cd
noncomputable abbrev lawA (L fa : Addr) (cd : Value) : Around := callerA.deeper (lawEnv L fa cd)
end Mine
end

section
open PySem PySem.W PyProof.Rows PyProof.Rows.LCg PySem.Calls
set_option maxRecDepth 100000
namespace Mine
section
variable {w : World} {mean : ExcName → Option Value} {mg mb : PySem.Str → Option Value} {h₀ : Heap} {L fa : Addr} {cd : Value} {G : Array GenState} {D : Drawn} {os : OsState} {Q : Flow → Shared → Prop} {E : Value → Shared → Prop}
set_option maxHeartbeats 4000000 in
theorem law_B {A₀ : Around} (B : Below A₀ h₀ [] h₀) (X : (hd.heap_39 w.params).In h₀) (T : Top topProg LS mean mg mb h₀) {H : Heap} {tk : Nat} {g : Int} {t1 : Tok} {lm lws : Addr} {m0 : PySem.Str → Option Value} {zs ys : List Value} {km kws : Nat} {rest : List (Addr × Obj)}
    (F : Fr h₀ L H (fun y => if y = PySem.Str.ofString "whole" then some (.int (ofD 16 (figsZ g)) t1) else if y = PySem.Str.ofString "most" then some (.ref lm) else if y = PySem.Str.ofString "ways" then some (.ref lws) else m0 y))
    (N : News h₀ L H ((lm, W.listOf zs.toArray km) :: (lws, W.listOf ys.toArray kws) :: rest)) (hzs : IntsAre zs mostZ) (hys : IntsAre ys (waysZ (wtsZ g 8)))
    (next : ∀ H' tk' b tb lt us kt, KBw.bInts b = letters (figsZ g) → Fr h₀ L H' (fun y => if y = PySem.Str.ofString "told" then some (.ref lt) else if y = PySem.Str.ofString "word" then some (.bytes b tb) else if y = PySem.Str.ofString "whole" then some (.int (ofD 16 (figsZ g)) t1) else if y = PySem.Str.ofString "most" then some (.ref lm) else if y = PySem.Str.ofString "ways" then some (.ref lws) else m0 y) →
      News h₀ L H' ((lt, W.listOf (List.toArray us) kt) :: (lm, W.listOf zs.toArray km) :: (lws, W.listOf ys.toArray kws) :: rest) → IntsAre us (figsZ g) → wpC (model PySem.Challenge.rw_xi0008_01.row.prog w) (lawA L fa cd) (execs lawH (lawEnv L fa cd)) Q E ⟨H', G, D, tk', os⟩) :
    wpC (model PySem.Challenge.rw_xi0008_01.row.prog w) (lawA L fa cd) (execs lawB (lawEnv L fa cd)) Q E ⟨H, G, D, tk, os⟩ := by
  run_tac sqBegin
  revert X; k_fill; intro X
  delta lawB lawA lawEnv lawScope
  (try dsimp only)
  refine wpC_execs_tk ?_
  intro tk0
  repeat' (first | (k_unfold; (try dsimp only)) | (k_end; wrow_close) | ((fail_if_success (with_reducible show wpAny _ _ (call (.ref _) _) _ _ _)); walk1) | ((fail_if_success (with_reducible show wpAny _ _ (call (.ref _) _) _ _ _)); dsimp only; walk1) | (leave1; walk_say "STEP leave1"; try dsimp only) | fail "no step")
  have hfg : Figs 16 (figsZ g) := fun d hd => by have := figs_figs g d hd; omega
  have hnn : 0 ≤ ofD 16 (figsZ g) := ofD_nonneg (by decide) hfg
  have hle := figs_len g
  refine' ap_call B F X N T ?hk (ds := figsZ g) ?hz hfg (figs_top g) ?hl ?dp ?un ?_
  case hk => rfl
  case hz => omega
  case hl => omega
  case dp => decide
  case un => decide
  intro b tb h1 tk1 hb F1 N1
  repeat' (first | (k_unfold; (try dsimp only)) | (k_end; wrow_close) | ((fail_if_success (with_reducible show wpAny _ _ (call (.ref _) _) _ _ _)); walk1) | ((fail_if_success (with_reducible show wpAny _ _ (call (.ref _) _) _ _ _)); dsimp only; walk1) | (leave1; walk_say "STEP leave1"; try dsimp only) | fail "no step")
  (try dsimp only)
  refine wpC_execs_tk ?_
  intro tk0
  rename (Fr _ _ _ _) => F2
  rename (News _ _ _ _) => N2
  refine comp_assign F2 rfl (by with_unfolding_all rfl) (by with_unfolding_all rfl) (by decide) rfl (by decide) rfl rfl ?_
  repeat' (first | (k_unfold; (try dsimp only)) | (k_end; wrow_close) | ((fail_if_success (with_reducible show wpAny _ _ (subscriptTail _ _ _ _) _ _ _)); walk1) | ((fail_if_success (with_reducible show wpAny _ _ (subscriptTail _ _ _ _) _ _ _)); dsimp only; walk1) | (leave1; walk_say "STEP leave1"; try dsimp only) | fail "no step")
  rename (Fr _ _ _ _) => F3
  rename (News _ _ _ _) => N3
  (try dsimp only)
  refine rev_K (s := ⟨_, _, _, _, _⟩) F3 N3 hb (by simp [letters]; omega) ?_
  intro h4 b4 t4 k4 F4 N4 hb4
  repeat' (first | (k_unfold; (try dsimp only)) | (k_end; wrow_close) | ((fail_if_success (with_reducible show wpAny _ _ (pyIter _) _ _ _)); walk1) | ((fail_if_success (with_reducible show wpAny _ _ (pyIter _) _ _ _)); dsimp only; walk1) | (leave1; walk_say "STEP leave1"; try dsimp only) | fail "no step")
  have hb4' : KBw.bInts b4 = (figsZ g).map (65 + ·) := by rw [hb4, letters, List.reverse_reverse]
  refine csrc_bytes (Acc := fun i ys => IntsAre ys ((figsZ g).take i)) hb4' rfl F4 N4 (by rw [List.length_map, sizeLine_eq]; omega) rfl rfl .nil ?_ ?_
  · intro i k t ys C m₃ h tk E' hk hAcc hm hn F5 N5
    refine cturn_nil (wpAny_BinOp (comp_name rfl rfl hn hm ?_))
    repeat' (first | (k_unfold; (try dsimp only)) | (k_end; wrow_close) | ((fail_if_success (with_reducible show wpAny _ _ (binaryOp _ _ _) _ _ _)); walk1) | ((fail_if_success (with_reducible show wpAny _ _ (binaryOp _ _ _) _ _ _)); dsimp only; walk1) | (leave1; walk_say "STEP leave1"; try dsimp only) | fail "no step")
    refine sub_int ⟨⟨_, _, rfl, fun _ _ e => e⟩, ints_take_snoc hAcc ?_⟩
    rw [List.getElem?_map] at hk
    cases e : (figsZ g)[i]? with
    | none => rw [e] at hk; cases hk
    | some d => rw [e] at hk; cases hk; show some d = some (65 + d - 65); congr 1; omega
  · rintro s₂ ⟨hh, rfl⟩ us hus
    intro D5 h5 tk5 F5 N5 off5
    (try dsimp only)
    rw [List.take_of_length_le (by simp)] at hus
    refine wpC_execs_tk ?_
    intro tk0
    repeat' (first | (k_unfold; (try dsimp only)) | (k_end; wrow_close) | ((fail_if_success (with_reducible show wpAny _ _ (binaryOp _ _ _) _ _ _)); (fail_if_success (with_reducible show wpAny _ _ (compareOp _ _ _) _ _ _)); walk1) | ((fail_if_success (with_reducible show wpAny _ _ (binaryOp _ _ _) _ _ _)); (fail_if_success (with_reducible show wpAny _ _ (compareOp _ _ _) _ _ _)); dsimp only; walk1) | (leave1; walk_say "STEP leave1"; try dsimp only) | fail "no step")
    have hzl := hzs.length
    have hyl := hys.length
    have hfl : mostZ.length + (waysZ (wtsZ g 8)).length ≤ 182 := by rw [← List.length_append]; exact hle
    refine kmk_add_ints F5 N5 (News.isList N5 (by k_mem)) (News.isList N5 (by k_mem)) hzs hys ?_ (by rw [sizeLine_eq]; omega)
    intro D6 vs6 h6 F6 N6 l6 hI6
    refine ke_ne_ints (News.isList N6 (by k_mem)) (News.isList N6 (by k_mem)) hus hI6 (by ke_room) ?_
    rw [show (!decide (figsZ g = mostZ ++ waysZ (wtsZ g 8))) = false by simp [figsZ]]
    repeat' (first | (k_unfold; (try dsimp only)) | (k_end; wrow_close) | ((fail_if_success (with_reducible show wpAny _ _ (execs _ _) _ _ _)); walk1) | ((fail_if_success (with_reducible show wpAny _ _ (execs _ _) _ _ _)); dsimp only; walk1) | (leave1; walk_say "STEP leave1"; try dsimp only) | fail "no step")
    refine wpAny_execs_nil ?_
    (try dsimp only)
    refine wpC_execs_tk ?_
    intro tk0
    repeat' (first | (k_unfold; (try dsimp only)) | (k_end; wrow_close) | ((fail_if_success (with_reducible show wpAny _ _ (call (.builtin "len") _) _ _ _)); walk1) | ((fail_if_success (with_reducible show wpAny _ _ (call (.builtin "len") _) _ _ _)); dsimp only; walk1) | (leave1; walk_say "STEP leave1"; try dsimp only) | fail "no step")
    refine KBw.len_K hb (by simp [letters]; omega) ?_
    repeat' (first | (k_unfold; (try dsimp only)) | (k_end; wrow_close) | ((fail_if_success (with_reducible show wpAny _ _ (binaryOp Operator.Pow _ _) _ _ _)); walk1) | ((fail_if_success (with_reducible show wpAny _ _ (binaryOp Operator.Pow _ _) _ _ _)); dsimp only; walk1) | (leave1; walk_say "STEP leave1"; try dsimp only) | fail "no step")
    have hll : (letters (figsZ g)).length = (figsZ g).length := by simp [letters]
    rw [hll]
    refine pow_int (by omega) (by rw [show Builtin.Int.intBits (16 : Int) = 5 by decide]; omega) ?_
    rw [show (((figsZ g).length : Int) + 2).toNat = (figsZ g).length + 2 by omega]
    repeat' (first | (k_unfold; (try dsimp only)) | (k_end; wrow_close) | ((fail_if_success (with_reducible show wpAny _ _ (call (.ref _) _) _ _ _)); walk1) | ((fail_if_success (with_reducible show wpAny _ _ (call (.ref _) _) _ _ _)); dsimp only; walk1) | (leave1; walk_say "STEP leave1"; try dsimp only) | fail "no step")
    rw [short_of]
    rename (Fr _ _ _ _) => F7
    rename (News _ _ _ _) => N7
    have hsf : Figs 16 ((figsZ g).map (15 - ·) ++ [15, 15]) := by
      intro d hd
      rcases List.mem_append.mp hd with h | h
      · obtain ⟨e, he, rfl⟩ := List.mem_map.mp h
        have := figs_figs g e he; omega
      · simp at h; omega
    have hsn : 0 ≤ ofD 16 ((figsZ g).map (15 - ·) ++ [15, 15]) := ofD_nonneg (by decide) hsf
    refine' ap_call B F7 X N7 T ?hk (ds := (figsZ g).map (15 - ·) ++ [15, 15]) ?hz hsf ?ht ?hl ?dp ?un ?_
    case hk => rfl
    case hz => omega
    case ht => intro d hd; simp at hd; omega
    case hl => simp; omega
    case dp => decide
    case un => decide
    intro b8 t8 h8 tk8 hb8 F8 N8
    repeat' (first | (k_unfold; (try dsimp only)) | (k_end; wrow_close) | ((fail_if_success (with_reducible show wpAny _ _ (eval (Expr.ListComp _ _ _ _) _) _ _ _)); walk1) | ((fail_if_success (with_reducible show wpAny _ _ (eval (Expr.ListComp _ _ _ _) _) _ _ _)); dsimp only; walk1) | (leave1; walk_say "STEP leave1"; try dsimp only) | fail "no step")
    rename (Fr _ _ _ _) => F9
    rename (News _ _ _ _) => N9
    refine comp_eval F9 (by with_unfolding_all rfl) (by decide) rfl (by decide) ?_
    repeat' (first | (k_unfold; (try dsimp only)) | (k_end; wrow_close) | ((fail_if_success (with_reducible show wpAny _ _ (pyIter _) _ _ _)); walk1) | ((fail_if_success (with_reducible show wpAny _ _ (pyIter _) _ _ _)); dsimp only; walk1) | (leave1; walk_say "STEP leave1"; try dsimp only) | fail "no step")
    refine csrc_bytes (Acc := fun i ys => IntsAre ys (((letters (figsZ g)).map (145 - ·)).take i)) hb rfl F9 N9 (by rw [hll, sizeLine_eq]; omega) rfl rfl .nil ?_ ?_
    · intro i k t ys C m₃ h tk E' hk hAcc hm hn F5 N5
      refine cturn_nil (wpAny_BinOp ?_)
      repeat' (first | (k_unfold; (try dsimp only)) | (k_end; wrow_close) | ((fail_if_success (with_reducible show wpAny _ _ (eval (Expr.Name _ _) _) _ _ _)); walk1) | ((fail_if_success (with_reducible show wpAny _ _ (eval (Expr.Name _ _) _) _ _ _)); dsimp only; walk1) | (leave1; walk_say "STEP leave1"; try dsimp only) | fail "no step")
      refine comp_name rfl rfl hn hm ?_
      refine sub_int ⟨⟨_, _, rfl, fun _ _ e => e⟩, ints_take_snoc hAcc ?_⟩
      rw [List.getElem?_map, hk]; rfl
    · rintro s₂ ⟨hh, rfl⟩ us2 hus2
      intro D11 h11 tk11 F11 N11 off11
      (try dsimp only)
      rw [List.take_of_length_le (by simp)] at hus2
      repeat' (first | (k_unfold; (try dsimp only)) | (k_end; wrow_close) | ((fail_if_success (with_reducible show wpAny _ _ (call (.type "bytes") _) _ _ _)); walk1) | ((fail_if_success (with_reducible show wpAny _ _ (call (.type "bytes") _) _ _ _)); dsimp only; walk1) | (leave1; walk_say "STEP leave1"; try dsimp only) | fail "no step")
      have hin : ∀ x ∈ (letters (figsZ g)).map (145 - ·), 0 ≤ x ∧ x < 256 := by
        intro x hx
        obtain ⟨e, he, rfl⟩ := List.mem_map.mp hx
        simp only [letters, List.mem_reverse, List.mem_map] at he
        obtain ⟨d, hd, rfl⟩ := he
        have := figs_figs g d hd; omega
      refine KBa.make_K F11 N11 rfl (News.isList N11 (by k_mem)) hus2 hin (by simp [hll]; omega) ?_
      intro h12 t12 k12 F12 N12 hin2
      repeat' (first | (k_unfold; (try dsimp only)) | (k_end; wrow_close) | ((fail_if_success (with_reducible show wpAny _ _ (binaryOp _ _ _) _ _ _)); walk1) | ((fail_if_success (with_reducible show wpAny _ _ (binaryOp _ _ _) _ _ _)); dsimp only; walk1) | (leave1; walk_say "STEP leave1"; try dsimp only) | fail "no step")
      refine KBa.add_K (ks := [80, 80]) rfl (KBa.ints_make hin) (by simp [hll]; omega) ?_
      intro t13 k13 hk13
      repeat' (first | (k_unfold; (try dsimp only)) | (k_end; wrow_close) | ((fail_if_success (with_reducible show wpAny _ _ (compareOp _ _ _) _ _ _)); walk1) | ((fail_if_success (with_reducible show wpAny _ _ (compareOp _ _ _) _ _ _)); dsimp only; walk1) | (leave1; walk_say "STEP leave1"; try dsimp only) | fail "no step")
      refine ne_bytes ?_
      have heq := turned hb8 hk13
      rw [heq, bne_self_eq_false]
      repeat' (first | (k_unfold; (try dsimp only)) | (k_end; wrow_close) | ((fail_if_success (with_reducible show wpAny _ _ (execs _ _) _ _ _)); walk1) | ((fail_if_success (with_reducible show wpAny _ _ (execs _ _) _ _ _)); dsimp only; walk1) | (leave1; walk_say "STEP leave1"; try dsimp only) | fail "no step")
      refine wpAny_execs_nil ?_
      (try dsimp only)
      refine next _ _ b tb D5 us us.length hb F12 ?_ hus
      intro p hp
      refine N12 p ?_
      simp only [List.mem_cons] at hp ⊢
      rcases hp with rfl | rfl | rfl | hp
      · exact Or.inr (Or.inr (Or.inl rfl))
      · exact Or.inr (Or.inr (Or.inr (Or.inl rfl)))
      · exact Or.inr (Or.inr (Or.inr (Or.inr (Or.inl rfl))))
      · exact Or.inr (Or.inr (Or.inr (Or.inr (Or.inr hp))))
  run_tac sqEnd
end
end Mine
end

section
open PySem PySem.W PyProof.Rows PyProof.Rows.LCg PySem.Calls
set_option maxRecDepth 100000
namespace Mine
/-- the codes of the weights' letters -/
noncomputable def codesZ (g : Int) : List Nat := (letters (waysZ (wtsZ g 8))).map Int.toNat
noncomputable def nameS (g : Int) : PySem.Str := ⟨(codesZ g).toArray⟩
noncomputable def oneS (c : Nat) : PySem.Str := ⟨#[c]⟩
theorem ones_step (x : Nat) (l : List Nat) : oneS x ++ PySem.Str.ofString "" ++ ⟨l.toArray⟩ = (⟨(x :: l).toArray⟩ : PySem.Str) := by
  show (⟨(#[x] ++ (PySem.Str.ofString "").cps) ++ l.toArray⟩ : PySem.Str) = _
  rw [show (PySem.Str.ofString "").cps = #[] by decide]
  congr 1
  apply Array.ext'
  simp
theorem strs_take_snoc {ys : List Value} {out : List PySem.Str} {i : Nat} {z : PySem.Str} {t : Tok} (h : StrsAre ys (out.take i)) (hz : out[i]? = some z) : StrsAre (ys ++ [.str z t]) (out.take (i + 1)) := by
  rw [List.take_add_one, hz]
  exact StrsAre.append' h (.cons _ _ .nil)
theorem sum_ones : ∀ l : List Nat, (l.map (PySem.Str.length ∘ oneS)).sum = l.length
  | [] => rfl
  | x :: l => by rw [List.map_cons, List.sum_cons, sum_ones l, List.length_cons]; show 1 + _ = _; omega
theorem join_ones : ∀ l : List Nat, PySem.Txt.join (PySem.Str.ofString "") (l.map oneS) = ⟨l.toArray⟩ := by
  have h : ∀ l : List Nat, PySem.Str.join (PySem.Str.ofString "") (l.map oneS) = ⟨l.toArray⟩ := by
    intro l
    induction l with
    | nil => rfl
    | cons x l ih =>
      cases l with
      | nil => rfl
      | cons y l =>
        show (oneS x ++ PySem.Str.ofString "" ++ PySem.Str.join (PySem.Str.ofString "") ((y :: l).map oneS)) = _
        rw [ih]
        exact ones_step x _
  intro l
  show PySem.Builtin.Str.glued _ _ = _
  rw [PySem.StrLaws.glued_eq_join]
  exact h l
theorem name_len (g : Int) : (nameS g).length ≤ 145 := by
  show (codesZ g).toArray.size ≤ 145
  have h := figs_len g
  rw [figsZ, List.length_append, show mostZ.length = 37 from rfl] at h
  simp [codesZ, letters]; omega
theorem word_cut (g : Int) : (letters (figsZ g)).take ((letters (figsZ g)).length - 37) = letters (waysZ (wtsZ g 8)) := by
  have e : letters (figsZ g) = letters (waysZ (wtsZ g 8)) ++ letters mostZ := by simp [letters, figsZ]
  rw [e, List.length_append, show (letters mostZ).length = 37 from rfl, Nat.add_sub_cancel, List.take_left']
  rfl
theorem cut_gen {ks xs bs : List Int} (hge : 37 ≤ ks.length) (hx : ks.take (ks.length - 37) = xs) (h : bs = (ks.drop ((none : Option Int).elim 0 (clipAt ks.length))).take ((some (-37 : Int)).elim ks.length (clipAt ks.length) - (none : Option Int).elim 0 (clipAt ks.length))) : bs = xs := by
  rw [h, ← hx]
  simp only [Option.elim, List.drop_zero]
  congr 1
  generalize ks.length = n at hge ⊢
  unfold clipAt
  simp only [show (-37 : Int) < 0 by decide, if_true]
  omega
theorem figs_ge (g : Int) : 37 ≤ (letters (figsZ g)).length := by
  rw [show (letters (figsZ g)).length = (figsZ g).length by simp [letters], figsZ, List.length_append, show mostZ.length = 37 from rfl]; omega
theorem word_len (g : Int) : (letters (waysZ (wtsZ g 8))).length ≤ 145 := by
  have := name_len g
  rw [show (nameS g).length = (codesZ g).length by simp [nameS, PySem.Str.length], codesZ, List.length_map] at this
  exact this
theorem word_code {g : Int} {k : Int} (h : k ∈ letters (waysZ (wtsZ g 8))) : 65 ≤ k ∧ k ≤ 79 := by
  simp only [letters, List.mem_reverse, List.mem_map] at h
  obtain ⟨d, hd, rfl⟩ := h
  have := ways_figs (List.Sublist.refl _) d hd
  omega
section
variable {w : World} {mean : ExcName → Option Value} {mg mb : PySem.Str → Option Value} {h₀ : Heap} {L fa : Addr} {cd : Value} {G : Array GenState} {D : Drawn} {os : OsState} {Q : Flow → Shared → Prop} {E : Value → Shared → Prop}
set_option maxHeartbeats 4000000 in
theorem law_H {A₀ : Around} (B : Below A₀ h₀ [] h₀) (X : (hd.heap_39 w.params).In h₀) (T : Top topProg LS mean mg mb h₀) {H : Heap} {tk : Nat} {g : Int} {tb : Tok} {b : Array UInt8} {lt : Addr} {m0 : PySem.Str → Option Value} {us : List Value} {kt : Nat} {rest : List (Addr × Obj)}
    (hb : KBw.bInts b = letters (figsZ g))
    (F : Fr h₀ L H (fun y => if y = PySem.Str.ofString "told" then some (.ref lt) else if y = PySem.Str.ofString "word" then some (.bytes b tb) else m0 y))
    (N : News h₀ L H ((lt, W.listOf (List.toArray us) kt) :: rest))
    (next : ∀ H' tk' lp t1 t2 t3 t4 t5, Fr h₀ L H' (fun y => if y = PySem.Str.ofString "peer" then some (.ref lp) else if y = PySem.Str.ofString "name" then some (.str (nameS g) t1) else if y = PySem.Str.ofString "told" then some (.ref lt) else if y = PySem.Str.ofString "word" then some (.bytes b tb) else m0 y) →
      News h₀ L H' ((lp, { cls := .type "tuple", data := .seq #[.str (PySem.Str.ofString "P" ++ nameS g) t2, .int 21 t3, .int 0 t4, .int 0 t5] }) :: (lt, W.listOf (List.toArray us) kt) :: rest) → wpC (model PySem.Challenge.rw_xi0008_01.row.prog w) (lawA L fa cd) (execs lawC (lawEnv L fa cd)) Q E ⟨H', G, D, tk', os⟩) :
    wpC (model PySem.Challenge.rw_xi0008_01.row.prog w) (lawA L fa cd) (execs lawH (lawEnv L fa cd)) Q E ⟨H, G, D, tk, os⟩ := by
  run_tac sqBegin
  revert X; k_fill; intro X
  delta lawH lawA lawEnv lawScope
  (try dsimp only)
  have hle := figs_len g
  have hll : (letters (figsZ g)).length = (figsZ g).length := by simp [letters]
  refine wpC_execs_tk ?_
  intro tk0
  repeat' (first | (k_unfold; (try dsimp only)) | (k_end; wrow_close) | ((fail_if_success (with_reducible show wpAny _ _ (eval (Expr.ListComp _ _ _ _) _) _ _ _)); walk1) | ((fail_if_success (with_reducible show wpAny _ _ (eval (Expr.ListComp _ _ _ _) _) _ _ _)); dsimp only; walk1) | (leave1; walk_say "STEP leave1"; try dsimp only) | fail "no step")
  rename (Fr _ _ _ _) => F1
  rename (News _ _ _ _) => N1
  refine comp_eval F1 (by with_unfolding_all rfl) (by decide) rfl (by decide) ?_
  repeat' (first | (k_unfold; (try dsimp only)) | (k_end; wrow_close) | ((fail_if_success (with_reducible show wpAny _ _ (pyIter _) _ _ _)); (fail_if_success (with_reducible show wpAny _ _ (subscriptTail _ _ _ _) _ _ _)); walk1) | ((fail_if_success (with_reducible show wpAny _ _ (pyIter _) _ _ _)); (fail_if_success (with_reducible show wpAny _ _ (subscriptTail _ _ _ _) _ _ _)); dsimp only; walk1) | (leave1; walk_say "STEP leave1"; try dsimp only) | fail "no step")
  rename (Fr _ _ _ _) => F2
  rename (News _ _ _ _) => N2
  (try dsimp only)
  refine KBc.slice_K (s := ⟨_, _, _, _, _⟩) F2 N2 hb (by constructor) (by constructor) (by rw [hll]; omega) ?_
  intro h3 t3 k3 F3 N3 hcut
  have hcut' := cut_gen (figs_ge g) (word_cut g) hcut
  clear hcut
  repeat' (first | (k_unfold; (try dsimp only)) | (k_end; wrow_close) | ((fail_if_success (with_reducible show wpAny _ _ (pyIter _) _ _ _)); walk1) | ((fail_if_success (with_reducible show wpAny _ _ (pyIter _) _ _ _)); dsimp only; walk1) | (leave1; walk_say "STEP leave1"; try dsimp only) | fail "no step")
  refine csrc_bytes (Acc := fun i ys => StrsAre ys ((((codesZ g).map oneS)).take i)) hcut' rfl F3 N3 (Nat.le_trans (word_len g) (by decide)) rfl rfl .nil ?_ ?_
  · intro i k t ys C m₃ h tk E' hk hAcc hm hn F5 N5
    refine cturn_nil ?_
    repeat' (first | (k_unfold; (try dsimp only)) | (k_end; wrow_close) | ((fail_if_success (with_reducible show wpAny _ _ (eval (Expr.Name _ _) _) _ _ _)); walk1) | ((fail_if_success (with_reducible show wpAny _ _ (eval (Expr.Name _ _) _) _ _ _)); dsimp only; walk1) | (leave1; walk_say "STEP leave1"; try dsimp only) | fail "no step")
    refine comp_builtin F5 (by assumption) (by assumption) (by k_is) (by boot_fast) (by decide) ?_ rfl rfl rfl rfl
    repeat' (first | (k_unfold; (try dsimp only)) | (k_end; wrow_close) | ((fail_if_success (with_reducible show wpAny _ _ (eval (Expr.Name _ _) _) _ _ _)); walk1) | ((fail_if_success (with_reducible show wpAny _ _ (eval (Expr.Name _ _) _) _ _ _)); dsimp only; walk1) | (leave1; walk_say "STEP leave1"; try dsimp only) | fail "no step")
    refine comp_name rfl rfl hn hm ?_
    repeat' (first | (k_unfold; (try dsimp only)) | (k_end; wrow_close) | ((fail_if_success (with_reducible show wpAny _ _ (call (.builtin "chr") _) _ _ _)); walk1) | ((fail_if_success (with_reducible show wpAny _ _ (call (.builtin "chr") _) _ _ _)); dsimp only; walk1) | (leave1; walk_say "STEP leave1"; try dsimp only) | fail "no step")
    have hkw := word_code (List.mem_of_getElem? hk)
    refine chr_of_range (by omega) (by omega) ?_
    refine ⟨⟨_, _, rfl, fun _ _ e => e⟩, strs_take_snoc hAcc ?_⟩
    rw [List.getElem?_map, codesZ, List.getElem?_map, hk]; rfl
  · rintro s₂ ⟨hh, rfl⟩ us2 hus2
    intro D11 h11 tk11 F11 N11 off11
    (try dsimp only)
    rw [List.take_of_length_le (by simp [codesZ])] at hus2
    repeat' (first | (k_unfold; (try dsimp only)) | (k_end; wrow_close) | ((fail_if_success (with_reducible show wpAny _ _ (call (.builtin "str.join") _) _ _ _)); walk1) | ((fail_if_success (with_reducible show wpAny _ _ (call (.builtin "str.join") _) _ _ _)); dsimp only; walk1) | (leave1; walk_say "STEP leave1"; try dsimp only) | fail "no step")
    refine join_listW (News.isList N11 (by k_mem)) hus2 (by decide) ?_ ?_
    · have := word_len g
      rw [List.map_map]
      rw [show ((codesZ g).map (PySem.Str.length ∘ oneS)).sum = (codesZ g).length from sum_ones _]
      rw [List.length_map, codesZ, List.length_map]; omega
    intro t12 k12
    rw [join_ones]
    repeat' (first | (k_unfold; (try dsimp only)) | (k_end; wrow_close) | ((fail_if_success (with_reducible show wpAny _ _ (execs _ _) _ _ _)); walk1) | ((fail_if_success (with_reducible show wpAny _ _ (execs _ _) _ _ _)); dsimp only; walk1) | (leave1; walk_say "STEP leave1"; try dsimp only) | fail "no step")
    (try dsimp only)
    refine wpC_execs_tk ?_
    intro tk0
    repeat' (first | (k_unfold; (try dsimp only)) | (k_end; wrow_close) | ((fail_if_success (with_reducible show wpAny _ _ (binaryOp _ _ _) _ _ _)); walk1) | ((fail_if_success (with_reducible show wpAny _ _ (binaryOp _ _ _) _ _ _)); dsimp only; walk1) | (leave1; walk_say "STEP leave1"; try dsimp only) | fail "no step")
    have hnl := name_len g
    have hp1 : (PySem.Str.ofString "P").length = 1 := by decide
    refine PyProof.Rows.add_str (fun t5 k5 => ?_) (by rw [sizeLine_eq, hp1]; exact Nat.le_trans (Nat.add_le_add_left hnl 1) (by decide))
    repeat' (first | (k_unfold; (try dsimp only)) | (k_end; wrow_close) | ((fail_if_success (with_reducible show wpAny _ _ (execs _ _) _ _ _)); walk1) | ((fail_if_success (with_reducible show wpAny _ _ (execs _ _) _ _ _)); dsimp only; walk1) | (leave1; walk_say "STEP leave1"; try dsimp only) | fail "no step")
    rename (Fr _ _ _ _) => F13
    rename (News _ _ _ _) => N13
    (try dsimp only)
    exact next _ _ _ _ _ _ _ _ F13 (news_drop2 N13)
  run_tac sqEnd
end
end Mine
end

section
open PySem PySem.W PyProof.Rows PyProof.Rows.LCg PySem.Calls
set_option maxRecDepth 100000
namespace Mine
open PySem.StrLaws PySem.Builtin.Str
/-- the parts of a row of codes between the signs c -/
noncomputable def pieces (c : Nat) : List Nat → List (List Nat)
  | [] => [[]]
  | x :: l => if x = c then [] :: pieces c l else match pieces c l with
    | p :: ps => (x :: p) :: ps
    | [] => [[x]]
theorem pieces_app {c : Nat} {b : List Nat} : ∀ {a : List Nat}, c ∉ a → pieces c (a ++ c :: b) = a :: pieces c b
  | [], _ => by simp [pieces]
  | x :: a, h => by
    have h1 : x ≠ c := fun e => h (by simp [e])
    have ih := pieces_app (b := b) (a := a) fun hm => h (List.mem_cons_of_mem _ hm)
    simp only [List.cons_append, pieces, if_neg h1, ih]
theorem pieces_none {c : Nat} : ∀ {a : List Nat}, c ∉ a → pieces c a = [a]
  | [], _ => rfl
  | x :: a, h => by
    have h1 : x ≠ c := fun e => h (by simp [e])
    have ih := pieces_none (a := a) fun hm => h (List.mem_cons_of_mem _ hm)
    simp only [pieces, if_neg h1, ih]
theorem pieces_len (c : Nat) : ∀ l : List Nat, (pieces c l).length = l.count c + 1
  | [] => rfl
  | x :: l => by
    have ih := pieces_len c l
    unfold pieces
    split
    · rename_i h; subst h; simp [ih]
    · rename_i h
      have hb : (x == c) = false := by simpa using h
      rw [List.count_cons, hb]
      cases e : pieces c l with
      | nil => rw [e] at ih; simp at ih
      | cons p ps => rw [e] at ih; simp at ih ⊢; omega
noncomputable def posF (c : Nat) : Nat → List Nat → List Nat
  | _, [] => []
  | a, x :: l => if x = c then a :: posF c (a + 1) l else posF c (a + 1) l
theorem occ_run (x : PySem.Str) (c : Nat) : ∀ (l : List Nat) (a : Nat) (st : Array Nat × Nat), x.cps.toList.drop a = l → a + l.length = x.length → st.fst.size ≤ a → st.snd ≤ a →
    (forIn (List.range' a (l.length + 1)) st (occBody x ⟨#[c]⟩ x.length (x.length + 1))).run.fst.toList = st.fst.toList ++ posF c a l
  | [], a, st, hd, hn, h1, h2 => by
    have hx : ¬ (a + (⟨#[c]⟩ : PySem.Str).length ≤ x.length) := by
      show ¬ (a + 1 ≤ x.length); simp at hn; omega
    rw [show ([] : List Nat).length + 1 = 1 from rfl, List.range'_one, List.forIn_cons]
    unfold occBody
    rw [if_neg fun h => hx h.1.2]
    simp [posF]
  | y :: l, a, st, hd, hn, h1, h2 => by
    have hd' : x.cps.toList.drop (a + 1) = l := by rw [← List.drop_drop, hd]; rfl
    have hy : x.cps.toList[a]? = some y := by
      have := congrArg (·[0]?) hd
      simpa using this
    rw [List.length_cons] at hn
    rw [List.length_cons, List.range'_succ, List.forIn_cons]
    by_cases hc : y = c
    · have hs := (subAt_one x c a).mpr (by rw [hy, hc])
      have hcond : ((st.fst.size < x.length + 1 ∧ st.snd ≤ a) ∧ a + (⟨#[c]⟩ : PySem.Str).length ≤ x.length) ∧ subAt x ⟨#[c]⟩ a = true := ⟨⟨⟨by omega, h2⟩, hs.1⟩, hs.2⟩
      have hb : occBody x ⟨#[c]⟩ x.length (x.length + 1) a st = pure (ForInStep.yield (st.fst.push a, a + 1)) := by
        unfold occBody; rw [if_pos hcond]; rfl
      rw [hb]
      have ih := occ_run x c l (a + 1) (st.fst.push a, a + 1) hd' (by omega) (by simp; omega) (Nat.le_refl _)
      refine Eq.trans ih ?_
      simp [posF, hc]
    · have hb : occBody x ⟨#[c]⟩ x.length (x.length + 1) a st = pure (ForInStep.yield (st.fst, st.snd)) := by
        unfold occBody
        rw [if_neg]
        intro h
        have := (subAt_one x c a).mp ⟨h.1.2, h.2⟩
        rw [hy] at this
        exact hc (Option.some.inj this)
      rw [hb]
      have ih := occ_run x c l (a + 1) (st.fst, st.snd) hd' (by omega) (by show st.fst.size ≤ a + 1; omega) (by show st.snd ≤ a + 1; omega)
      refine Eq.trans ih ?_
      simp [posF, hc]
theorem occ_pos (x : PySem.Str) (c : Nat) : occurrences x ⟨#[c]⟩ 0 x.length (x.length + 1) = posF c 0 x.cps.toList := by
  rw [occ_eq]
  have h := occ_run x c x.cps.toList 0 (#[], 0) rfl (by simp [PySem.Str.length]) (Nat.le_refl _) (Nat.le_refl _)
  rw [show x.cps.toList.length = x.length by simp [PySem.Str.length]] at h
  simpa using h
theorem parts_pos (x : PySem.Str) (c : Nat) : ∀ (l : List Nat) (a k : Nat), x.cps.toList.drop (a + k) = l → a + k + l.length = x.length →
    (partsFrom x 1 a (posF c (a + k) l)).map (·.cps.toList) = match pieces c l with | p :: ps => ((x.cps.toList.drop a).take k ++ p) :: ps | [] => []
  | [], a, k, hd, hn => by
    have hl : x.cps.toList.length = x.length := by simp [PySem.Str.length]
    simp only [posF, partsFrom, pieces, List.map_cons, List.map_nil, List.append_nil, strSub_toList]
    simp at hn
    congr 2
    omega
  | y :: l, a, k, hd, hn => by
    have hd' : x.cps.toList.drop (a + k + 1) = l := by rw [← List.drop_drop, hd]; rfl
    rw [List.length_cons] at hn
    by_cases hc : y = c
    · have ih := parts_pos x c l (a + k + 1) 0 hd' (by omega)
      simp only [posF, if_pos hc, partsFrom, pieces, List.map_cons, strSub_toList]
      rw [Nat.add_zero] at ih
      rw [ih, List.append_nil, show a + k - a = k by omega]
      cases e : pieces c l with
      | nil => exact absurd (pieces_len c l) (by rw [e]; simp)
      | cons p ps => simp
    · have ih := parts_pos x c l a (k + 1) hd' (by omega)
      simp only [posF, if_neg hc, pieces]
      rw [show a + (k + 1) = a + k + 1 by omega] at ih
      rw [ih]
      have hy : (x.cps.toList.drop a).take (k + 1) = (x.cps.toList.drop a).take k ++ [y] := by
        have h1 : (x.cps.toList.drop a)[k]? = some y := by
          rw [List.getElem?_drop]
          have := congrArg (·[0]?) hd
          simpa using this
        rw [List.take_add_one, h1]; rfl
      cases e : pieces c l with
      | nil => exact absurd (pieces_len c l) (by rw [e]; simp)
      | cons p ps => simp [hy]
theorem kind_one {c : Nat} (hc : c < 256) : PySem.Builtin.Str.strKind ⟨#[c]⟩ = 1 := by
  unfold PySem.Builtin.Str.strKind
  rw [if_pos (by simpa using hc)]
theorem kind_ge (x : PySem.Str) : 1 ≤ PySem.Builtin.Str.strKind x := by
  unfold PySem.Builtin.Str.strKind
  split
  · omega
  · split <;> omega
theorem split_pieces (x : PySem.Str) {c : Nat} (hc : c < 256) : (PySem.Txt.split x ⟨#[c]⟩).map (·.cps.toList) = pieces c x.cps.toList := by
  run_tac sqBegin
  have hl : x.cps.toList.length = x.length := by simp [PySem.Str.length]
  unfold PySem.Txt.split
  by_cases h0 : x.length = 0
  · have hx : x.cps.toList = [] := List.length_eq_zero_iff.mp (by rw [hl, h0])
    rw [if_pos (by rw [h0]; rfl)]
    simp [hx, pieces]
  · have hk := kind_ge x
    rw [if_neg (by rw [kind_one hc]; simp [show (⟨#[c]⟩ : PySem.Str).length = 1 from rfl]; omega), occ_pos]
    have h := parts_pos x c x.cps.toList 0 0 rfl (by simp [PySem.Str.length])
    simp only [Nat.add_zero] at h
    have h' : (partsFrom x 1 0 (posF c 0 x.cps.toList)).map (·.cps.toList) = pieces c x.cps.toList := by
      rw [h]
      cases e : pieces c x.cps.toList with
      | nil => exact absurd (pieces_len c x.cps.toList) (by rw [e]; simp)
      | cons p ps => simp
    by_cases he : (posF c 0 x.cps.toList).isEmpty = true
    · rw [if_pos he]
      rw [List.isEmpty_iff.mp he] at h'
      rw [← h']
      simp only [partsFrom, List.map_cons, List.map_nil, strSub_toList]
      rw [List.drop_zero, List.take_of_length_le (by omega)]
    · rw [if_neg he, partsBetween_eq]; exact h'
  run_tac sqEnd
theorem str_list (x : PySem.Str) : x.cps.toList.length = x.length := by simp [PySem.Str.length]
theorem getD_list (x : PySem.Str) (i : Nat) : x.cps.getD i 0 = x.cps.toList.getD i 0 := by
  simp
theorem find_at {x : PySem.Str} {c : Nat} {p q : List Nat} (i : Nat) (hi : i ≤ p.length) (h : x.cps.toList = p ++ c :: q) (hp : ∀ j, i ≤ j → j < p.length → p.getD j 0 ≠ c) : PySem.Txt.find3 x ⟨#[c]⟩ (i : Int) = (p.length : Int) := by
  run_tac sqBegin
  have hl := str_list x
  rw [h] at hl
  simp only [List.length_append, List.length_cons] at hl
  have hf : fromIndex x.length (i : Int) = i := by unfold fromIndex; rw [if_neg (by omega)]; omega
  have hat : x.cps.getD p.length 0 = c := by rw [getD_list, h]; simp
  have hbf : ∀ j, j < p.length → x.cps.getD j 0 = p.getD j 0 := by
    intro j hj
    rw [getD_list, h, List.getD_eq_getElem?_getD, List.getElem?_append_left hj, List.getD_eq_getElem?_getD]
  rcases StrLaws.find3_spec x c (i : Int) with ⟨h1, h2⟩ | ⟨k, h1, h2, h3, h4, h5⟩
  · exact absurd hat (h2 p.length (by rw [hf]; exact hi) (by omega))
  · rw [h1]
    rw [hf] at h2 h5
    rcases Nat.lt_trichotomy k p.length with hk | hk | hk
    · rw [hbf k hk] at h4
      exact absurd h4 (hp k h2 hk)
    · rw [hk]
    · exact absurd hat (h5 p.length hi hk)
  run_tac sqEnd
theorem find_no {x : PySem.Str} {c : Nat} (i : Nat) (h : ∀ j, i ≤ j → j < x.length → x.cps.toList.getD j 0 ≠ c) : PySem.Txt.find3 x ⟨#[c]⟩ (i : Int) = -1 := by
  run_tac sqBegin
  rcases StrLaws.find3_spec x c (i : Int) with ⟨h1, h2⟩ | ⟨k, h1, h2, h3, h4, h5⟩
  · exact h1
  · have hf : i ≤ k := by
      unfold fromIndex at h2; rw [if_neg (by omega)] at h2; omega
    rw [getD_list] at h4
    exact absurd h4 (h k hf h3)
  run_tac sqEnd
theorem find_zero (x y : PySem.Str) : PySem.Txt.find x y = PySem.Txt.find3 x y ((0 : Nat) : Int) := rfl
theorem slice_list (x : PySem.Str) {a b : Nat} (hab : a ≤ b) (hb : b ≤ x.length) : (PySem.Txt.slice x (some (a : Int)) (some (b : Int))).cps.toList = (x.cps.toList.drop a).take (b - a) := by
  unfold PySem.Txt.slice
  have hs := StrLaws.sliced_plain x hab hb
  split
  · rename_i h
    rw [StrLaws.strSliceIndices_plain hab hb] at h
    simp at h
    have ha : a = 0 := by omega
    have hb' : b = x.length := by omega
    subst ha
    rw [hb', List.drop_zero, Nat.sub_zero, List.take_of_length_le (by rw [str_list]; exact Nat.le_refl _)]
  · exact hs
theorem slice_head (x : PySem.Str) {b : Nat} (hb : b ≤ x.length) : (PySem.Txt.slice x none (some (b : Int))).cps.toList = x.cps.toList.take b := by
  have e : PySem.Txt.slice x none (some (b : Int)) = PySem.Txt.slice x (some ((0 : Nat) : Int)) (some (b : Int)) := by
    unfold PySem.Txt.slice strSliceIndices
    simp only [Int.natCast_zero, Int.lt_irrefl, if_false, show (1 : Int) > 0 from by decide, if_true]
    rw [show max (0 : Int) (min 0 (x.length : Int)) = 0 by omega]
  rw [e, slice_list x (Nat.zero_le _) hb]
  simp
theorem item_list {x : PySem.Str} {i : Nat} {c : Nat} (h : x.cps.toList[i]? = some c) : PySem.Txt.item x (i : Int) = ⟨#[c]⟩ := by
  have hi : i < x.length := by
    rw [← str_list]
    exact (List.getElem?_eq_some_iff.mp h).1
  unfold PySem.Txt.item PySem.Txt.charAt
  have e : seqIndex? (i : Int) x.length = some i := by
    unfold seqIndex?
    simp [show ¬ ((i : Int) < 0) by omega, hi]
  rw [e]
  simp only [Option.bind_some]
  have : x.cps[i]? = some c := by simpa using h
  rw [this]; rfl
end Mine
end

section
open PySem PySem.W PyProof.Rows PyProof.Rows.LCg PySem.Calls
set_option maxRecDepth 100000
namespace Mine
open PySem.NumText
theorem text_gen {x : PySem.Str} (h : ∀ c ∈ x.cps.toList, 1 ≤ c ∧ c < 128) :
    PySem.intText? x = match digits? 10 (core x.cps.toList) with
      | some ds => if ds.size ≤ 4300 then some (worth (sign (x.cps.toList.dropWhile blank)).1 ds) else none
      | none => none := by
  have e1 : numTextOf x = x.cps.toList := by
    refine if_pos ?_
    rw [← Array.all_toList, List.all_eq_true]
    intro c hc
    exact decide_eq_true (h c hc).2
  have e2 : numSeenOf x = x.cps.toList := by
    show (numTextOf x).takeWhile _ = _
    rw [e1]
    exact takeWhile_all fun c hc => bne_iff_ne.mpr (by have := h c hc; omega)
  unfold PySem.intText?
  rw [e1, e2]
  exact if_pos (beq_self_eq_true _)
theorem text_reads {x : PySem.Str} {neg : Bool} {ds : List Nat} (h : ∀ c ∈ x.cps.toList, 1 ≤ c ∧ c < 128) (hs : sign (x.cps.toList.dropWhile blank) = (neg, ds)) (hd : AllDigits ds) (hne : ds ≠ []) (hl : ds.length ≤ 4300) :
    PySem.intText? x = some (if neg = true then -((digitsVal ds : Nat) : Int) else ((digitsVal ds : Nat) : Int)) := by
  rw [text_gen h]
  have ec : core x.cps.toList = ds := by
    unfold core
    rw [hs]
    show (ds.reverse.dropWhile blank).reverse = ds
    rw [dropWhile_digits hd.reverse, List.reverse_reverse]
  rw [ec, hs, digits_of hd hne]
  have hsz := push_size ds #[]
  have hv := push_foldl ds #[]
  show (if _ ≤ 4300 then some (worth neg _) else none) = _
  rw [if_pos (by rw [hsz]; simp only [Array.size_empty]; omega)]
  unfold worth digitsVal
  rw [hv]
  cases neg <;> rfl
theorem text_none {x : PySem.Str} {c : Nat} {cs : List Nat} (hx : x.cps.toList = c :: cs) (h : ∀ d ∈ c :: cs, 65 ≤ d ∧ d ≤ 79) : PySem.intText? x = none := by
  run_tac sqBegin
  rw [text_gen (by rw [hx]; intro d hd; have := h d hd; omega), hx]
  have hc := h c List.mem_cons_self
  have es : sign ((c :: cs).dropWhile blank) = (false, c :: cs) := by rw [dropWhile_of (by omega)]; exact sign_of (by omega) (by omega)
  have er : ((c :: cs).reverse.dropWhile blank) = (c :: cs).reverse := by
    have hr : ∀ d ∈ (c :: cs).reverse, 65 ≤ d := fun d hd => (h d (List.mem_reverse.mp hd)).1
    generalize (c :: cs).reverse = r at hr ⊢
    cases r with
    | nil => rfl
    | cons d r => exact dropWhile_of (by have := hr d List.mem_cons_self; omega)
  have ec : core (c :: cs) = c :: cs := by
    unfold core
    rw [es]
    show ((c :: cs).reverse.dropWhile blank).reverse = c :: cs
    rw [er, List.reverse_reverse]
  rw [ec]
  have hd : digits? 10 (c :: cs) = none := by
    unfold digits?
    have : step 10 ((#[] : Array Nat), false) c = none := by
      have h65 : (c = 65 ∨ c = 66 ∨ c = 67 ∨ c = 68 ∨ c = 69 ∨ c = 70 ∨ c = 71 ∨ c = 72 ∨ c = 73 ∨ c = 74 ∨ c = 75 ∨ c = 76 ∨ c = 77 ∨ c = 78 ∨ c = 79) := (by decide : ∀ c : Nat, c < 80 → 65 ≤ c → (c = 65 ∨ c = 66 ∨ c = 67 ∨ c = 68 ∨ c = 69 ∨ c = 70 ∨ c = 71 ∨ c = 72 ∨ c = 73 ∨ c = 74 ∨ c = 75 ∨ c = 76 ∨ c = 77 ∨ c = 78 ∨ c = 79)) c (by omega) (by omega)
      rcases h65 with rfl | rfl | rfl | rfl | rfl | rfl | rfl | rfl | rfl | rfl | rfl | rfl | rfl | rfl | rfl <;> rfl
    rw [List.foldlM_cons, this]; rfl
  rw [hd]
  run_tac sqEnd
/-- the figures of a number -/
noncomputable def numC (n : Int) : List Nat := (Nat.toDigits 10 n.toNat).map Char.toNat
theorem num_codes {n : Int} (h : 0 ≤ n) : (PySem.Str.ofString (toString n)).cps.toList = numC n := by
  obtain ⟨m, rfl⟩ := Int.eq_ofNat_of_zero_le h
  exact KIN.signs_num m
theorem num_digits (n : Int) : AllDigits (numC n) := by
  intro c hc
  obtain ⟨ch, hch, rfl⟩ := List.mem_map.mp hc
  exact digit_range (Nat.isDigit_of_mem_toDigits (by decide) (by decide) hch)
theorem num_ne (n : Int) : numC n ≠ [] := by
  intro e
  have h := toDigits_len_ge 10 n.toNat
  rw [List.map_eq_nil_iff.mp e] at h
  exact absurd h (by decide)
theorem num_val {n : Int} (h : 0 ≤ n) : ((digitsVal (numC n) : Nat) : Int) = n := by
  rw [numC, KIN.val_back]; omega
theorem num_len {n : Int} (h : 0 ≤ n) (h1 : n < 10 ^ 30) : (numC n).length ≤ 31 := by
  have h2 := toString_length_le h (by decide) h1
  rw [← str_list, num_codes h] at h2
  omega
/-- the port as it is written, its codes and its worth -/
noncomputable def preC (i : Nat) : List Nat := match i % 4 with
  | 0 => []
  | 1 => [43]
  | 2 => [48, 48]
  | _ => [32, 45]
noncomputable def preS (i : Nat) : PySem.Str := match i % 4 with
  | 0 => PySem.Str.ofString ""
  | 1 => PySem.Str.ofString "+"
  | 2 => PySem.Str.ofString "00"
  | _ => PySem.Str.ofString " -"
noncomputable def preV (i : Nat) (n : Int) : Int := match i % 4 with
  | 3 => -n
  | _ => n
theorem four (i : Nat) : i % 4 = 0 ∨ i % 4 = 1 ∨ i % 4 = 2 ∨ i % 4 = 3 :=
  (by decide : ∀ k : Nat, k < 4 → (k = 0 ∨ k = 1 ∨ k = 2 ∨ k = 3)) (i % 4) (Nat.mod_lt _ (by decide))
theorem pre_codes (i : Nat) : (preS i).cps.toList = preC i := by
  rcases four i with h | h | h | h <;> simp only [preS, preC, h] <;> decide
theorem port_codes {i : Nat} {n : Int} (h : 0 ≤ n) : (preS i ++ PySem.Str.ofString (toString n)).cps.toList = preC i ++ numC n := by
  rw [PySem.Str.cps_append, Array.toList_append, pre_codes, num_codes h]
theorem port_range {i : Nat} {n : Int} : ∀ c ∈ preC i ++ numC n, 1 ≤ c ∧ c ≤ 57 := by
  intro c hc
  rcases List.mem_append.mp hc with h | h
  · rcases four i with e | e | e | e <;> simp only [preC, e] at h <;> simp at h <;> omega
  · have := num_digits n c h; omega
theorem port_reads {y : PySem.Str} {i : Nat} {n : Int} (h : 0 ≤ n) (h1 : n < 10 ^ 30) (hy : y.cps.toList = preC i ++ numC n) : PySem.intText? y = some (preV i n) := by
  run_tac sqBegin
  have hr := port_range (i := i) (n := n)
  have hl := num_len h h1
  have hd := num_digits n
  have hn := num_ne n
  have hv := num_val h
  have hrange : ∀ c ∈ y.cps.toList, 1 ≤ c ∧ c < 128 := by
    rw [hy]; intro c hc; have := hr c hc; omega
  cases e : numC n with
  | nil => exact absurd e hn
  | cons c cs =>
    rw [e] at hy hd hv hl
    have hc := hd.head
    rcases four i with q | q | q | q
    · have hp : preC i = [] := by simp only [preC, q]
      rw [hp, List.nil_append] at hy
      rw [text_reads (neg := false) (ds := c :: cs) hrange (by rw [hy, dropWhile_of (by omega)]; exact sign_of (by omega) (by omega)) hd (by simp) (by omega)]
      simp [preV, q, hv]
    · have hp : preC i = [43] := by simp only [preC, q]
      rw [hp] at hy
      rw [text_reads (neg := false) (ds := c :: cs) hrange (by rw [hy, List.singleton_append, dropWhile_of (by omega)]; rfl) hd (by simp) (by omega)]
      simp [preV, q, hv]
    · have hp : preC i = [48, 48] := by simp only [preC, q]
      rw [hp] at hy
      have hd2 : AllDigits (48 :: 48 :: c :: cs) := by
        intro x hx
        rcases List.mem_cons.mp hx with rfl | hx
        · omega
        · rcases List.mem_cons.mp hx with rfl | hx
          · omega
          · exact hd x hx
      rw [text_reads (neg := false) (ds := 48 :: 48 :: c :: cs) hrange (by rw [hy]; show sign ((48 :: 48 :: c :: cs).dropWhile blank) = _; rw [dropWhile_of (by omega)]; exact sign_of (by omega) (by omega)) hd2 (by simp) (by simp at hl ⊢; omega)]
      have : digitsVal (48 :: 48 :: c :: cs) = digitsVal (c :: cs) := by simp [digitsVal]
      simp [preV, q, this, hv]
    · have hp : preC i = [32, 45] := by simp only [preC, q]
      rw [hp] at hy
      rw [text_reads (neg := true) (ds := c :: cs) hrange (by rw [hy]; show sign ((32 :: 45 :: c :: cs).dropWhile blank) = _; rw [List.dropWhile_cons_of_pos (by decide), dropWhile_of (by omega)]; rfl) hd (by simp) (by omega)]
      simp [preV, q, hv]
  run_tac sqEnd
end Mine
end

section
open PySem PySem.W PyProof.Rows PyProof.Rows.LCg PySem.Calls
set_option maxRecDepth 100000
namespace Mine
/-- what a reply with one open bracket and a closing one behind it holds -/
theorem reply_facts {r : PySem.Str} {pre body post : List Nat} {c d : Nat} (h : r.cps.toList = pre ++ 40 :: (body ++ 41 :: post)) (h1 : 40 ∉ pre) (h2 : 41 ∉ body) (hb0 : body[0]? = some c) (hbl : body.getLast? = some d) :
    lefts r = (pre.length : Int) ∧ rights r = ((pre.length + 1 + body.length : Nat) : Int) ∧ marks r = ⟨#[c]⟩ ∧ PySem.Txt.item r (rights r - 1) = ⟨#[d]⟩ ∧ (c < 256 → (partsOf r).map (·.cps.toList) = pieces c body) := by
  have hlen := str_list r
  have hbn : 1 ≤ body.length := by
    cases body with
    | nil => simp at hb0
    | cons _ _ => simp
  rw [h] at hlen
  simp only [List.length_append, List.length_cons] at hlen
  have hl : lefts r = (pre.length : Int) := by
    unfold lefts
    rw [find_zero, show PySem.Str.ofString "(" = ⟨#[40]⟩ by decide]
    refine find_at 0 (Nat.zero_le _) h ?_
    intro j _ hj e
    rw [List.getD_eq_getElem?_getD, List.getElem?_eq_getElem hj] at e
    exact h1 (e ▸ List.getElem_mem hj)
  have h' : r.cps.toList = (pre ++ 40 :: body) ++ 41 :: post := by rw [h]; simp
  have hr : rights r = ((pre.length + 1 + body.length : Nat) : Int) := by
    unfold rights
    rw [hl, show PySem.Str.ofString ")" = ⟨#[41]⟩ by decide, show (pre.length : Int) + 1 = ((pre.length + 1 : Nat) : Int) by omega]
    rw [find_at (pre.length + 1) (by simp) h']
    · simp; omega
    · intro j hj1 hj2 e
      simp only [List.length_append, List.length_cons] at hj2
      rw [List.getD_eq_getElem?_getD, List.getElem?_append_right (by omega), show j - pre.length = (j - pre.length - 1) + 1 by omega, List.getElem?_cons_succ, List.getElem?_eq_getElem (by omega)] at e
      exact h2 (e ▸ List.getElem_mem _)
  have hm : marks r = ⟨#[c]⟩ := by
    unfold marks
    rw [hl, show (pre.length : Int) + 1 = ((pre.length + 1 : Nat) : Int) by omega]
    refine item_list ?_
    rw [h, List.getElem?_append_right (by omega), show pre.length + 1 - pre.length = 0 + 1 by omega, List.getElem?_cons_succ, List.getElem?_append_left (by omega), hb0]
  refine ⟨hl, hr, hm, ?_, fun hc => ?_⟩
  · rw [hr, show ((pre.length + 1 + body.length : Nat) : Int) - 1 = ((pre.length + body.length : Nat) : Int) by omega]
    refine item_list ?_
    rw [h, List.getElem?_append_right (by omega), show pre.length + body.length - pre.length = (body.length - 1) + 1 by omega, List.getElem?_cons_succ, List.getElem?_append_left (by omega)]
    rw [List.getLast?_eq_getElem?] at hbl
    exact hbl
  · unfold partsOf
    rw [hm, split_pieces _ hc, hl, hr, show (pre.length : Int) + 1 = ((pre.length + 1 : Nat) : Int) by omega, slice_list _ (by omega) (by omega)]
    rw [h, List.drop_append, List.drop_eq_nil_of_le (by omega), List.nil_append, show pre.length + 1 - pre.length = 1 by omega, List.drop_one, List.tail_cons, List.take_append, show pre.length + 1 + body.length - (pre.length + 1) = body.length by omega]
    simp
theorem item_ne {c d : Nat} (h : c ≠ d) : ((⟨#[c]⟩ : PySem.Str) != ⟨#[d]⟩) = true := by
  rw [bne_iff_ne]
  intro e
  injection e with e
  simp at e
  exact h e
theorem head_is {r : PySem.Str} (h : r.cps.toList.take 3 = [50, 50, 57]) (hl : 3 ≤ r.length) : (PySem.Txt.slice r none (some 3) != PySem.Str.ofString "229") = false := by
  have e : PySem.Txt.slice r none (some 3) = PySem.Str.ofString "229" := by
    have h3 := slice_head r hl
    rw [h] at h3
    apply PySem.Str.ext'
    apply Array.toList_inj.mp
    exact h3.trans (by decide)
  rw [e]; simp
theorem head_not {r : PySem.Str} (h : r.cps.toList.take 3 ≠ [50, 50, 57]) (hl : 3 ≤ r.length) : (PySem.Txt.slice r none (some 3) != PySem.Str.ofString "229") = true := by
  rw [bne_iff_ne]
  intro e
  have h3 := slice_head r hl
  have e3 : PySem.Txt.slice r none (some ((3 : Nat) : Int)) = PySem.Str.ofString "229" := e
  rw [e3] at h3
  exact h (h3.symm.trans (by decide))
theorem proto_iff {r : PySem.Str} {pre body post : List Nat} {c : Nat} (h : r.cps.toList = pre ++ 40 :: (body ++ 41 :: post)) (h1 : 40 ∉ pre) (h2 : 41 ∉ body) (hb0 : body[0]? = some c) (hbl : body.getLast? = some c) (hc : c < 256) : RProto r ↔ (pieces c body).length ≠ 5 := by
  run_tac sqBegin
  obtain ⟨a1, a2, a3, a4, a5⟩ := reply_facts h h1 h2 hb0 hbl
  have hp : (partsOf r).length = (pieces c body).length := by rw [← a5 hc, List.length_map]
  unfold RProto
  rw [a3, a4, hp, a1, a2]
  constructor
  · rintro (h | h | h | h)
    · omega
    · omega
    · simp at h
    · exact h
  · exact fun h => Or.inr (Or.inr (Or.inr h))
  run_tac sqEnd
theorem part_three {r : PySem.Str} {pre body post : List Nat} {c d : Nat} (h : r.cps.toList = pre ++ 40 :: (body ++ 41 :: post)) (h1 : 40 ∉ pre) (h2 : 41 ∉ body) (hb0 : body[0]? = some c) (hbl : body.getLast? = some d) (hc : c < 256) {y : PySem.Str} (hy : (partsOf r)[3]? = some y) : (pieces c body)[3]? = some y.cps.toList := by
  run_tac sqBegin
  obtain ⟨a1, a2, a3, a4, a5⟩ := reply_facts h h1 h2 hb0 hbl
  rw [← a5 hc, List.getElem?_map, hy]; rfl
  run_tac sqEnd
/-- a mark, the name, the mark, the second part, the mark, the fourth and the mark -/
noncomputable def bodyC (c : Nat) (nm p q : List Nat) : List Nat := c :: (nm ++ c :: (p ++ c :: (q ++ [c])))
theorem body_first (c : Nat) (nm p q : List Nat) : (bodyC c nm p q)[0]? = some c := rfl
theorem body_last (c : Nat) (nm p q : List Nat) : (bodyC c nm p q).getLast? = some c := by
  unfold bodyC
  rw [show c :: (nm ++ c :: (p ++ c :: (q ++ [c]))) = (c :: (nm ++ c :: (p ++ c :: q))) ++ [c] by simp]
  rw [List.getLast?_append]; rfl
theorem body_pieces {c : Nat} {nm p q : List Nat} (h1 : c ∉ nm) (h2 : c ∉ p) (h3 : c ∉ q) : pieces c (bodyC c nm p q) = [[], nm, p, q, []] := by
  unfold bodyC
  rw [show c :: (nm ++ c :: (p ++ c :: (q ++ [c]))) = [] ++ c :: (nm ++ c :: (p ++ c :: (q ++ c :: []))) from rfl]
  rw [pieces_app (by simp), pieces_app h1, pieces_app h2, pieces_app h3]; rfl
theorem body_more {c : Nat} {nm p q : List Nat} (h1 : c ∈ nm) : (pieces c (bodyC c nm p q)).length ≠ 5 := by
  rw [pieces_len]
  unfold bodyC
  have := List.count_pos_iff.mpr h1
  simp [List.count_cons, List.count_append]
  omega
theorem codes_range {g : Int} {c : Nat} (h : c ∈ codesZ g) : 65 ≤ c ∧ c ≤ 79 := by
  obtain ⟨k, hk, rfl⟩ := List.mem_map.mp h
  have := word_code hk; omega
/-- a letter is in the name just if its number is one of the ways -/
theorem code_in {g : Int} {i : Nat} : 65 + i ∈ codesZ g ↔ (i : Int) ∈ waysZ (wtsZ g 8) := by
  simp only [codesZ, List.mem_map, letters, List.mem_reverse]
  constructor
  · rintro ⟨k, ⟨d, hd, rfl⟩, hk⟩
    have := ways_figs (List.Sublist.refl _) d hd
    have : d = (i : Int) := by omega
    exact this ▸ hd
  · intro h
    exact ⟨65 + (i : Int), ⟨_, h, rfl⟩, by omega⟩
theorem strOk_of {x : PySem.Str} (h : ∀ c ∈ x.cps.toList, c < 128) : PyData.strOk x = true := by
  unfold PyData.strOk
  rw [← Array.all_toList, List.all_eq_true]
  intro c hc
  exact decide_eq_true (by have := h c hc; omega)
theorem shaped_ss {a b : PySem.Str} (ha : ∀ c ∈ a.cps.toList, c < 128) (hb : ∀ c ∈ b.cps.toList, c < 128) : SeqAt.shaped (.list [.str a, .str b]) = true := by
  simp [SeqAt.shaped, PyData.canLay0, PyData.canLayAll0, PyData.depth, PyData.depthAll, strOk_of ha, strOk_of hb]
theorem shaped_si {a : PySem.Str} {n : Int} (ha : ∀ c ∈ a.cps.toList, c < 128) : SeqAt.shaped (.tuple [.str a, .int n]) = true := by
  simp [SeqAt.shaped, PyData.canLay0, PyData.canLayAll0, PyData.depth, PyData.depthAll, strOk_of ha]
theorem host_codes (g : Int) : (PySem.Str.ofString "P" ++ nameS g).cps.toList = 80 :: codesZ g := by
  rw [PySem.Str.cps_append, Array.toList_append, show (PySem.Str.ofString "P").cps.toList = [80] by decide]
  simp [nameS]
theorem host_low (g : Int) : ∀ c ∈ (PySem.Str.ofString "P" ++ nameS g).cps.toList, c < 128 := by
  rw [host_codes]
  intro c hc
  rcases List.mem_cons.mp hc with rfl | hc
  · decide
  · have := codes_range hc; omega
theorem reply_low {g number : Int} {i : Nat} {r : PySem.Str} (hi : i < 16) (h : r.cps.toList = [50, 50, 57, 32, 58, 41, 32] ++ 40 :: (bodyC (65 + i) (codesZ g) [49] (preC i ++ numC number) ++ 41 :: [32, 40, 124, 124, 124, 57, 124, 41])) : ∀ c ∈ r.cps.toList, c < 128 := by
  run_tac sqBegin
  rw [h]
  intro c hc
  have hb : c ∈ bodyC (65 + i) (codesZ g) [49] (preC i ++ numC number) → c < 128 := by
    intro hb
    unfold bodyC at hb
    rcases List.mem_cons.mp hb with rfl | hb
    · omega
    rcases List.mem_append.mp hb with hb | hb
    · have := codes_range hb; omega
    rcases List.mem_cons.mp hb with rfl | hb
    · omega
    rcases List.mem_append.mp hb with hb | hb
    · have := List.mem_singleton.mp hb; omega
    rcases List.mem_cons.mp hb with rfl | hb
    · omega
    rcases List.mem_append.mp hb with hb | hb
    · have := port_range c hb; omega
    · have := List.mem_singleton.mp hb; omega
  rcases List.mem_append.mp hc with hc | hc
  · exact (show ∀ c ∈ [50, 50, 57, 32, 58, 41, 32], c < 128 by decide) c hc
  rcases List.mem_cons.mp hc with rfl | hc
  · decide
  rcases List.mem_append.mp hc with hc | hc
  · exact hb hc
  · exact (show ∀ c ∈ [41, 32, 40, 124, 124, 124, 57, 124, 41], c < 128 by decide) c hc
  run_tac sqEnd
theorem proto_low : ∀ c ∈ (PySem.Str.ofString "proto").cps.toList, c < 128 := by decide
end Mine
end

section
open PySem PySem.W PyProof.Rows PyProof.Rows.LCg PySem.Calls
set_option maxRecDepth 100000
namespace Mine
theorem five_same {m : PySem.Str → Option Value} {a b c d e : PySem.Str} : m = fun y => if y = a then m a else if y = b then m b else if y = c then m c else if y = d then m d else if y = e then m e else m y := by
  funext y
  repeat (split; (rename_i h; rw [h]))
  rfl
/-- the frame within the loop of the letters -/
noncomputable def LetM (m₀ : PySem.Str → Option Value) (m₁ : PySem.Str → Option Value) : Prop :=
  ∃ P1 P2 P3 P4 P5 : Option Value, m₁ = fun y => if y = PySem.Str.ofString "due" then P1 else if y = PySem.Str.ofString "reply" then P2 else if y = PySem.Str.ofString "port" then P3 else if y = PySem.Str.ofString "mark" then P4 else if y = PySem.Str.ofString "letter" then P5 else m₀ y
noncomputable def LetJ (m₀ : PySem.Str → Option Value) (news : List (Addr × Obj)) (_ : Nat) (m₁ : PySem.Str → Option Value) (news₁ : List (Addr × Obj)) : Prop := LetM m₀ m₁ ∧ news₁ = news
theorem add_strG {prog : Program} {w : World} {A : Around} {E : Value → Shared → Prop} {s : Shared} {x y : PySem.Str} {t u : Tok} {Q : Value → Shared → Prop} (hsz : x.length + y.length ≤ 100000)
    (h : ∀ z t' tk, z.cps.toList = x.cps.toList ++ y.cps.toList → z.length = x.length + y.length → Q (.str z t') { s with toks := tk }) : wpAny (model prog w) A (binaryOp .Add (.str x t) (.str y u)) Q E s :=
  PyProof.Rows.add_str (fun t' tk => h _ t' tk (by rw [PySem.Str.cps_append, Array.toList_append]) (PySem.Str.length_append x y)) (by rw [sizeLine_eq]; omega)
theorem val_item (i : Nat) {n : Int} (a b c d : Tok) : ∃ t, (#[Value.int n a, .int n b, .int n c, .int (-n) d] : Array Value)[((0 + (i : Int)).fmod 4).toNat]? = some (.int (preV i n) t) := by
  have e : ((0 + (i : Int)).fmod 4).toNat = i % 4 := by rw [Int.fmod_eq_emod_of_nonneg _ (by decide)]; omega
  rw [e]
  rcases four i with h | h | h | h <;> rw [h] <;> simp only [preV, h] <;> exact ⟨_, rfl⟩
theorem num_len' {n : Int} (h : 0 ≤ n) (h1 : n < 10 ^ 30) : (PySem.Str.ofString (toString n)).length ≤ 31 := by
  rw [← str_list, num_codes h]; exact num_len h h1
theorem pre_len (i : Nat) : (preS i).length ≤ 2 := by
  rcases four i with h | h | h | h <;> simp only [preS, h] <;> decide
theorem reply_list {g number : Int} {i : Nat} {pt r1 r2 r3 r4 r5 r6 r7 r : PySem.Str} (h0 : 0 ≤ number) (hpt : pt.cps.toList = (preS i).cps.toList ++ (PySem.Str.ofString (toString number)).cps.toList)
    (hr1 : r1.cps.toList = (PySem.Str.ofString "229 :) (").cps.toList ++ (⟨#[((65 : Int) + (0 + (i : Int))).toNat]⟩ : PySem.Str).cps.toList) (hr2 : r2.cps.toList = r1.cps.toList ++ (nameS g).cps.toList)
    (hr3 : r3.cps.toList = r2.cps.toList ++ (⟨#[((65 : Int) + (0 + (i : Int))).toNat]⟩ : PySem.Str).cps.toList) (hr4 : r4.cps.toList = r3.cps.toList ++ (PySem.Str.ofString "1").cps.toList) (hr5 : r5.cps.toList = r4.cps.toList ++ (⟨#[((65 : Int) + (0 + (i : Int))).toNat]⟩ : PySem.Str).cps.toList)
    (hr6 : r6.cps.toList = r5.cps.toList ++ pt.cps.toList) (hr7 : r7.cps.toList = r6.cps.toList ++ (⟨#[((65 : Int) + (0 + (i : Int))).toNat]⟩ : PySem.Str).cps.toList) (hr8 : r.cps.toList = r7.cps.toList ++ (PySem.Str.ofString ") (|||9|)").cps.toList) :
    r.cps.toList = [50, 50, 57, 32, 58, 41, 32] ++ 40 :: (bodyC (65 + i) (codesZ g) [49] (preC i ++ numC number) ++ 41 :: [32, 40, 124, 124, 124, 57, 124, 41]) := by
  have e : ((65 : Int) + (0 + (i : Int))).toNat = 65 + i := by omega
  rw [hr8, hr7, hr6, hr5, hr4, hr3, hr2, hr1, hpt, pre_codes, num_codes h0, e]
  rw [show (PySem.Str.ofString "229 :) (").cps.toList = [50, 50, 57, 32, 58, 41, 32, 40] by decide, show (PySem.Str.ofString "1").cps.toList = [49] by decide, show (PySem.Str.ofString ") (|||9|)").cps.toList = [41, 32, 40, 124, 124, 124, 57, 124, 41] by decide]
  simp [bodyC, nameS]
theorem turn_norm {α β : Type} [DecidableEq α] {a b c d e : α} {A B C D E P1 P2 P3 P4 P5 : β} {m : α → β} :
    (fun y => if y = a then A else if y = b then B else if y = c then C else if y = d then D else if y = e then E else if y = a then P1 else if y = b then P2 else if y = c then P3 else if y = d then P4 else if y = e then P5 else m y) =
    fun y => if y = a then A else if y = b then B else if y = c then C else if y = d then D else if y = e then E else m y := by
  run_tac sqBegin
  funext y
  by_cases h1 : y = a
  · simp only [if_pos h1]
  by_cases h2 : y = b
  · simp only [if_neg h1, if_pos h2]
  by_cases h3 : y = c
  · simp only [if_neg h1, if_neg h2, if_pos h3]
  by_cases h4 : y = d
  · simp only [if_neg h1, if_neg h2, if_neg h3, if_pos h4]
  by_cases h5 : y = e
  · simp only [if_neg h1, if_neg h2, if_neg h3, if_neg h4, if_pos h5]
  simp only [if_neg h1, if_neg h2, if_neg h3, if_neg h4, if_neg h5]
  run_tac sqEnd
theorem turn_norm2 {α β : Type} [DecidableEq α] {a b c d e : α} {A A' B C D E P1 P2 P3 P4 P5 : β} {m : α → β} :
    (fun y => if y = a then A else if y = a then A' else if y = b then B else if y = c then C else if y = d then D else if y = e then E else if y = a then P1 else if y = b then P2 else if y = c then P3 else if y = d then P4 else if y = e then P5 else m y) =
    fun y => if y = a then A else if y = b then B else if y = c then C else if y = d then D else if y = e then E else m y := by
  refine Eq.trans ?_ (turn_norm (P1 := P1) (P2 := P2) (P3 := P3) (P4 := P4) (P5 := P5))
  funext y
  by_cases h1 : y = a
  · simp only [if_pos h1]
  · simp only [if_neg h1]
theorem body_no {g n : Int} {i : Nat} {c : Nat} (hc : c = 40 ∨ c = 41) : c ∉ bodyC (65 + i) (codesZ g) [49] (preC i ++ numC n) := by
  unfold bodyC
  have h1 : c ∉ codesZ g := fun h => by have := codes_range h; omega
  have h2 : c ∉ preC i ++ numC n := by
    intro h
    rcases List.mem_append.mp h with h | h
    · rcases four i with e | e | e | e <;> simp only [preC, e] at h <;> simp at h <;> omega
    · have := num_digits n c h; omega
  simp only [List.mem_cons, List.mem_append, not_or, List.not_mem_nil, not_false_eq_true, and_true]
  exact ⟨by omega, h1, by omega, by omega, by omega, ⟨fun h => h2 (List.mem_append_left _ h), fun h => h2 (List.mem_append_right _ h)⟩, by omega⟩
theorem list_item {prog : Program} {w : World} {A : Around} {E : Value → Shared → Prop} {s : Shared} {value slice : PySem.Expr} {l : Addr} {items : Array Value} {k : Int} {u : Tok} {v : Value} {Q : Value → Shared → Prop}
    (hl : s.heap.IsList l items) (h0 : 0 ≤ k) (hhi : k < 2 ^ 63) (hx : items[k.toNat]? = some v) (h : Q v s)
    (hs : subscripted slice false (.ref l) (.int k u) = operate [.ref l, .int k u] (getItem (.ref l) (.int k u)) := by with_unfolding_all rfl) :
    wpAny (model prog w) A (subscriptTail value slice (.ref l) (.int k u)) Q E s :=
  tail_any hl.typeIs slot_list_getitem.lookup (wpAny_getItem_list hl h0 hhi hx h) hs
theorem pre_item (i : Nat) (a b c d : Tok) : ∃ t, (#[Value.str (PySem.Str.ofString "") a, .str (PySem.Str.ofString "+") b, .str (PySem.Str.ofString "00") c, .str (PySem.Str.ofString " -") d] : Array Value)[((0 + (i : Int)).fmod 4).toNat]? = some (.str (preS i) t) := by
  have e : ((0 + (i : Int)).fmod 4).toNat = i % 4 := by rw [Int.fmod_eq_emod_of_nonneg _ (by decide)]; omega
  rw [e]
  rcases four i with h | h | h | h <;> rw [h] <;> simp only [preS, h] <;> exact ⟨_, rfl⟩
theorem mod_four (i : Nat) : 0 ≤ (0 + (i : Int)).fmod 4 ∧ (0 + (i : Int)).fmod 4 < 2 ^ 63 := by
  rw [Int.fmod_eq_emod_of_nonneg _ (by decide)]; omega
theorem num_small {n : Int} (h0 : 0 ≤ n) (h1 : n < 10 ^ 30) : n.natAbs.log2 < 1920 := shown (N := 2 ^ 1920) (by have : (0 : Int) < 2 ^ 1920 := Int.pow_pos (by decide); omega) (Int.lt_trans h1 (by decide +kernel)) (Int.le_refl _)
section
variable {w : World} {mean : ExcName → Option Value} {mg mb : PySem.Str → Option Value} {h₀ : Heap} {L fa : Addr} {cd : Value} {G : Array GenState} {D : Drawn} {os : OsState} {Q : Flow → Shared → Prop} {E : Value → Shared → Prop}
set_option maxHeartbeats 4000000 in
theorem law_C {A₀ : Around} (B : Below A₀ h₀ [] h₀) (X : (hd.heap_39 w.params).In h₀) (T : Top topProg LS mean mg mb h₀) {H : Heap} {tk : Nat} {g number : Int} {t0 t1 t2 t3 t4 t5 : Tok} {lp lws : Addr} {m0 : PySem.Str → Option Value} {ys : List Value} {kws : Nat} {rest : List (Addr × Obj)}
    (F : Fr h₀ L H (fun y => if y = PySem.Str.ofString "peer" then some (.ref lp) else if y = PySem.Str.ofString "name" then some (.str (nameS g) t1) else if y = PySem.Str.ofString "ways" then some (.ref lws) else if y = PySem.Str.ofString "number" then some (.int number t0) else m0 y))
    (N : News h₀ L H ((lp, { cls := .type "tuple", data := .seq #[.str (PySem.Str.ofString "P" ++ nameS g) t2, .int 21 t3, .int 0 t4, .int 0 t5] }) :: (lws, W.listOf ys.toArray kws) :: rest))
    (hys : IntsAre ys (waysZ (wtsZ g 8))) (hn0 : 0 ≤ number) (hn1 : number < 10 ^ 30)
    (next : ∀ H' tk' P1 P2 P3 P4 P5, Fr h₀ L H' (fun y => if y = PySem.Str.ofString "due" then P1 else if y = PySem.Str.ofString "reply" then P2 else if y = PySem.Str.ofString "port" then P3 else if y = PySem.Str.ofString "mark" then P4 else if y = PySem.Str.ofString "letter" then P5 else if y = PySem.Str.ofString "peer" then some (.ref lp) else if y = PySem.Str.ofString "name" then some (.str (nameS g) t1) else if y = PySem.Str.ofString "ways" then some (.ref lws) else if y = PySem.Str.ofString "number" then some (.int number t0) else m0 y) →
      News h₀ L H' ((lp, { cls := .type "tuple", data := .seq #[.str (PySem.Str.ofString "P" ++ nameS g) t2, .int 21 t3, .int 0 t4, .int 0 t5] }) :: (lws, W.listOf ys.toArray kws) :: rest) → wpC (model PySem.Challenge.rw_xi0008_01.row.prog w) (lawA L fa cd) (execs lawD (lawEnv L fa cd)) Q E ⟨H', G, D, tk', os⟩)
    (hE : PassesOwn (model PySem.Challenge.rw_xi0008_01.row.prog w) (lawA L fa cd) (lawEnv L fa cd) E) :
    wpC (model PySem.Challenge.rw_xi0008_01.row.prog w) (lawA L fa cd) (execs lawC (lawEnv L fa cd)) Q E ⟨H, G, D, tk, os⟩ := by
  run_tac sqBegin
  revert X; k_fill; intro X
  revert hE
  delta lawC lawA lawEnv lawScope
  (try dsimp only)
  intro hE
  refine wpC_execs_tk ?_
  intro tk0
  refine for_fr F (by rfl) (by rfl) ?_ (hE := hE)
  repeat' (first | (k_unfold; (try dsimp only)) | (k_end; wrow_close) | ((fail_if_success (with_reducible show wpAny _ _ (pyIter _) _ _ _)); walk1) | ((fail_if_success (with_reducible show wpAny _ _ (pyIter _) _ _ _)); dsimp only; walk1) | (leave1; walk_say "STEP leave1"; try dsimp only) | fail "no step")
  rename (Fr _ _ _ _) => F1
  rename (News _ _ _ _) => N1
  rename (IsRange _ _ _ _ _ _ _ _) => hr
  refine loop_range (n := 16) (LetJ _ _) rfl hr (by decide) (by decide) F1 N1 ⟨⟨_, _, _, _, _, five_same⟩, rfl⟩ ?_ ?_
  · rintro i t' m₁ news₁ I oI h tk hi ⟨⟨P1, P2, P3, P4, P5, rfl⟩, rfl⟩ hoff F2 N2
    (try dsimp only at F2 N2)
    repeat' (first | (k_unfold; (try dsimp only)) | (k_end; wrow_close) | ((fail_if_success (with_reducible show wpAny _ _ (call (.builtin "chr") _) _ _ _)); walk1) | ((fail_if_success (with_reducible show wpAny _ _ (call (.builtin "chr") _) _ _ _)); dsimp only; walk1) | (leave1; walk_say "STEP leave1"; try dsimp only) | fail "no step")
    refine chr_of_range (by omega) (by omega) ?_
    repeat' (first | (k_unfold; (try dsimp only)) | (k_end; wrow_close) | ((fail_if_success (with_reducible show wpAny _ _ (subscriptTail _ _ _ _) _ _ _)); walk1) | ((fail_if_success (with_reducible show wpAny _ _ (subscriptTail _ _ _ _) _ _ _)); dsimp only; walk1) | (leave1; walk_say "STEP leave1"; try dsimp only) | fail "no step")
    rename (News _ _ _ _) => N3
    obtain ⟨t6, hx6⟩ := pre_item i _ _ _ _
    refine list_item (News.isList N3 (by k_mem)) (mod_four i).1 (mod_four i).2 hx6 ?_
    repeat' (first | (k_unfold; (try dsimp only)) | (k_end; wrow_close) | ((fail_if_success (with_reducible show wpAny _ _ (call (.type "str") _) _ _ _)); walk1) | ((fail_if_success (with_reducible show wpAny _ _ (call (.type "str") _) _ _ _)); dsimp only; walk1) | (leave1; walk_say "STEP leave1"; try dsimp only) | fail "no step")
    refine P.str_of_int (num_small hn0 hn1) ?_
    repeat' (first | (k_unfold; (try dsimp only)) | (k_end; wrow_close) | ((fail_if_success (with_reducible show wpAny _ _ (binaryOp _ _ _) _ _ _)); walk1) | ((fail_if_success (with_reducible show wpAny _ _ (binaryOp _ _ _) _ _ _)); dsimp only; walk1) | (leave1; walk_say "STEP leave1"; try dsimp only) | fail "no step")
    have hnl := name_len g
    have hul := num_len' hn0 hn1
    have hpl := pre_len i
    have l1 : (PySem.Str.ofString "229 :) (").length = 8 := by decide
    have l2 : (PySem.Str.ofString "1").length = 1 := by decide
    have l3 : (PySem.Str.ofString ") (|||9|)").length = 9 := by decide
    have l4 : (PySem.Str.ofString "P").length = 1 := by decide
    have l5 : (⟨#[((65 : Int) + (0 + (i : Int))).toNat]⟩ : PySem.Str).length = 1 := rfl
    refine add_strG (by omega) ?_
    intro pt t7 k7 hpt hptl
    repeat' (first | (k_unfold; (try dsimp only)) | (k_end; wrow_close) | ((fail_if_success (with_reducible show wpAny _ _ (binaryOp _ _ _) _ _ _)); walk1) | ((fail_if_success (with_reducible show wpAny _ _ (binaryOp _ _ _) _ _ _)); dsimp only; walk1) | (leave1; walk_say "STEP leave1"; try dsimp only) | fail "no step")
    refine add_strG (by omega) ?_
    intro r1 t8 k8 hr1 hl1
    repeat' (first | (k_unfold; (try dsimp only)) | (k_end; wrow_close) | ((fail_if_success (with_reducible show wpAny _ _ (binaryOp _ _ _) _ _ _)); walk1) | ((fail_if_success (with_reducible show wpAny _ _ (binaryOp _ _ _) _ _ _)); dsimp only; walk1) | (leave1; walk_say "STEP leave1"; try dsimp only) | fail "no step")
    refine add_strG (by omega) ?_
    intro r2 t9 k9 hr2 hl2
    repeat' (first | (k_unfold; (try dsimp only)) | (k_end; wrow_close) | ((fail_if_success (with_reducible show wpAny _ _ (binaryOp _ _ _) _ _ _)); walk1) | ((fail_if_success (with_reducible show wpAny _ _ (binaryOp _ _ _) _ _ _)); dsimp only; walk1) | (leave1; walk_say "STEP leave1"; try dsimp only) | fail "no step")
    refine add_strG (by omega) ?_
    intro r3 t10 k10 hr3 hl3
    repeat' (first | (k_unfold; (try dsimp only)) | (k_end; wrow_close) | ((fail_if_success (with_reducible show wpAny _ _ (binaryOp _ _ _) _ _ _)); walk1) | ((fail_if_success (with_reducible show wpAny _ _ (binaryOp _ _ _) _ _ _)); dsimp only; walk1) | (leave1; walk_say "STEP leave1"; try dsimp only) | fail "no step")
    refine add_strG (by omega) ?_
    intro r4 t11 k11 hr4 hl4
    repeat' (first | (k_unfold; (try dsimp only)) | (k_end; wrow_close) | ((fail_if_success (with_reducible show wpAny _ _ (binaryOp _ _ _) _ _ _)); walk1) | ((fail_if_success (with_reducible show wpAny _ _ (binaryOp _ _ _) _ _ _)); dsimp only; walk1) | (leave1; walk_say "STEP leave1"; try dsimp only) | fail "no step")
    refine add_strG (by omega) ?_
    intro r5 t12 k12 hr5 hl5
    repeat' (first | (k_unfold; (try dsimp only)) | (k_end; wrow_close) | ((fail_if_success (with_reducible show wpAny _ _ (binaryOp _ _ _) _ _ _)); walk1) | ((fail_if_success (with_reducible show wpAny _ _ (binaryOp _ _ _) _ _ _)); dsimp only; walk1) | (leave1; walk_say "STEP leave1"; try dsimp only) | fail "no step")
    refine add_strG (by omega) ?_
    intro r6 t13 k13 hr6 hl6
    repeat' (first | (k_unfold; (try dsimp only)) | (k_end; wrow_close) | ((fail_if_success (with_reducible show wpAny _ _ (binaryOp _ _ _) _ _ _)); walk1) | ((fail_if_success (with_reducible show wpAny _ _ (binaryOp _ _ _) _ _ _)); dsimp only; walk1) | (leave1; walk_say "STEP leave1"; try dsimp only) | fail "no step")
    refine add_strG (by omega) ?_
    intro r7 t14 k14 hr7 hl7
    repeat' (first | (k_unfold; (try dsimp only)) | (k_end; wrow_close) | ((fail_if_success (with_reducible show wpAny _ _ (binaryOp _ _ _) _ _ _)); walk1) | ((fail_if_success (with_reducible show wpAny _ _ (binaryOp _ _ _) _ _ _)); dsimp only; walk1) | (leave1; walk_say "STEP leave1"; try dsimp only) | fail "no step")
    refine add_strG (by omega) ?_
    intro r t15 k15 hr8 hl8
    have hR := reply_list hn0 hpt hr1 hr2 hr3 hr4 hr5 hr6 hr7 hr8
    have hRl : r.length ≤ 4000 ∧ 3 ≤ r.length := by omega
    obtain ⟨hRl, hR3⟩ := hRl
    clear hpt hptl hr1 hr2 hr3 hr4 hr5 hr6 hr7 hr8 hl1 hl2 hl3 hl4 hl5 hl6 hl7 hl8 hx6
    repeat' (first | (k_unfold; (try dsimp only)) | (k_end; wrow_close) | ((fail_if_success (with_reducible show wpAny _ _ (binaryOp _ _ _) _ _ _)); walk1) | ((fail_if_success (with_reducible show wpAny _ _ (binaryOp _ _ _) _ _ _)); dsimp only; walk1) | (leave1; walk_say "STEP leave1"; try dsimp only) | fail "no step")
    refine add_strG (by omega) ?_
    intro hs t16 k16 hhs hhl
    repeat' (first | (k_unfold; (try dsimp only)) | (k_end; wrow_close) | ((fail_if_success (with_reducible show wpAny _ _ (subscriptTail _ _ _ _) _ _ _)); walk1) | ((fail_if_success (with_reducible show wpAny _ _ (subscriptTail _ _ _ _) _ _ _)); dsimp only; walk1) | (leave1; walk_say "STEP leave1"; try dsimp only) | fail "no step")
    rename (News _ _ _ _) => N4
    obtain ⟨t17, hx17⟩ := val_item i (n := number) _ _ _ _
    refine list_item (News.isList N4 (by k_mem)) (mod_four i).1 (mod_four i).2 hx17 ?_
    repeat' (first | (k_unfold; (try dsimp only)) | (k_end; wrow_close) | ((fail_if_success (with_reducible show wpAny _ _ (compareOp _ _ _) _ _ _)); walk1) | ((fail_if_success (with_reducible show wpAny _ _ (compareOp _ _ _) _ _ _)); dsimp only; walk1) | (leave1; walk_say "STEP leave1"; try dsimp only) | fail "no step")
    have hse : hs = PySem.Str.ofString "P" ++ nameS g := by
      apply PySem.Str.ext'
      apply Array.toList_inj.mp
      rw [hhs, PySem.Str.cps_append, Array.toList_append]
    subst hse
    clear hhs hhl hx17
    rename (Fr _ _ _ _) => F5
    rename (News _ _ _ _) => N5
    have hpre40 : (40 : Nat) ∉ [50, 50, 57, 32, 58, 41, 32] := by decide
    have hc41 := body_no (g := g) (n := number) (i := i) (Or.inr rfl)
    have h229 := head_is (r := r) (by rw [hR]; rfl) hR3
    have hlow := reply_low hi hR
    by_cases hin : (i : Int) ∈ waysZ (wtsZ g 8)
    · have hi14 : (i : Int) ≤ 14 := (ways_figs (List.Sublist.refl _) _ hin).2
      refine in_list_ints (News.isList N5 (by k_mem)) hys ?_
      rw [show ((waysZ (wtsZ g 8)).any (· == 0 + (i : Int))) = true from List.any_eq_true.mpr ⟨_, hin, by simp⟩]
      repeat' (first | (k_unfold; (try dsimp only)) | (k_end; wrow_close) | ((fail_if_success (with_reducible show wpAny _ _ (call (.ref _) _) _ _ _)); walk1) | ((fail_if_success (with_reducible show wpAny _ _ (call (.ref _) _) _ _ _)); dsimp only; walk1) | (leave1; walk_say "STEP leave1"; try dsimp only) | fail "no step")
      rename (Fr _ _ _ _) => F6
      rename (News _ _ _ _) => N6
      have hRP : RProto r := (proto_iff hR hpre40 hc41 (body_first _ _ _ _) (body_last _ _ _ _) (by omega)).mpr (body_more (code_in.mpr hin))
      refine' read_call B F6 X N6 T ?hk (p := lp) (hst := PySem.Str.ofString "P" ++ nameS g) ?hp hRl ?hreply ?hproto ?hnv ?hok ?dp ?un
      case hk => rfl
      case hp => k_mem
      case hreply => intro h; rw [h229] at h; cases h
      case hnv => exact fun h => absurd hRP h
      case hok => exact fun h => absurd hRP h
      case dp => decide
      case un => decide
      intro _ D7 t7 h7 tk7 F7 N7
      repeat' (first | (k_unfold; (try dsimp only)) | (k_end; wrow_close) | ((fail_if_success (with_reducible show wpAny _ _ (compareOp _ _ _) _ _ _)); walk1) | ((fail_if_success (with_reducible show wpAny _ _ (compareOp _ _ _) _ _ _)); dsimp only; walk1) | (leave1; walk_say "STEP leave1"; try dsimp only) | fail "no step")
      refine ne_dataH (by ke_read) (by ke_read) (shaped_ss proto_low hlow) (shaped_ss proto_low hlow) (by ke_room) ?_
      ke_norm
      repeat' (first | (k_unfold; (try dsimp only)) | (k_end; wrow_close) | ((fail_if_success (with_reducible show wpAny _ _ (execs _ _) _ _ _)); walk1) | ((fail_if_success (with_reducible show wpAny _ _ (execs _ _) _ _ _)); dsimp only; walk1) | (leave1; walk_say "STEP leave1"; try dsimp only) | fail "no step")
      refine wpAny_execs_nil ?_
      (try dsimp only)
      refine wpAny_execs_nil ?_
      rename (Fr _ _ _ _) => F8
      rename (News _ _ _ _) => N8
      (try dsimp only at F8 N8)
      show LEnd _ _ _ _ _ _ _
      refine LEnd.intro ((lp, _) :: (lws, _) :: rest) F8 N8 ?_ hoff ⟨⟨_, _, _, _, _, turn_norm2⟩, rfl⟩
      intro p hp
      rcases List.mem_cons.mp hp with rfl | hp
      · k_mem
      · repeat (first | exact hp | refine List.mem_cons_of_mem _ ?_)
    · refine in_list_ints (News.isList N5 (by k_mem)) hys ?_
      rw [show ((waysZ (wtsZ g 8)).any (· == 0 + (i : Int))) = false from by
        rw [Bool.eq_false_iff]; intro h; obtain ⟨d, hd, he⟩ := List.any_eq_true.mp h
        have : d = (i : Int) := by simpa using he
        exact hin (this ▸ hd)]
      repeat' (first | (k_unfold; (try dsimp only)) | (k_end; wrow_close) | ((fail_if_success (with_reducible show wpAny _ _ (call (.ref _) _) _ _ _)); walk1) | ((fail_if_success (with_reducible show wpAny _ _ (call (.ref _) _) _ _ _)); dsimp only; walk1) | (leave1; walk_say "STEP leave1"; try dsimp only) | fail "no step")
      rename (Fr _ _ _ _) => F6
      rename (News _ _ _ _) => N6
      have hpc : pieces (65 + i) (bodyC (65 + i) (codesZ g) [49] (preC i ++ numC number)) = [[], codesZ g, [49], preC i ++ numC number, []] :=
        body_pieces (fun h => hin (code_in.mp h)) (by simp; omega) (fun h => by have := port_range _ h; omega)
      have hno : ¬ RProto r := fun h => (proto_iff hR hpre40 hc41 (body_first _ _ _ _) (body_last _ _ _ _) (by omega)).mp h (by rw [hpc]; rfl)
      have hpt : ∀ y, (partsOf r)[3]? = some y → PySem.intText? y = some (preV i number) ∧ y.length ≤ 640 := by
        intro y hy
        have h3 := part_three hR hpre40 hc41 (body_first _ _ _ _) (body_last _ _ _ _) (by omega) hy
        rw [hpc] at h3
        have h4 : y.cps.toList = preC i ++ numC number := (Option.some.inj h3).symm
        refine ⟨port_reads hn0 hn1 h4, ?_⟩
        rw [← str_list, h4, List.length_append]
        have := num_len hn0 hn1
        have h5 : (preC i).length ≤ 2 := by rcases four i with h | h | h | h <;> simp [preC, h]
        omega
      refine' read_call B F6 X N6 T ?hk2 (p := lp) (hst := PySem.Str.ofString "P" ++ nameS g) ?hp2 hRl ?hreply2 ?hproto2 ?hnv2 ?hok2 ?dp2 ?un2
      case hk2 => rfl
      case hp2 => k_mem
      case hreply2 => intro h; rw [h229] at h; cases h
      case hnv2 => exact fun _ y hy => ⟨_, hpt y hy⟩
      case hproto2 => exact fun h => absurd h hno
      case dp2 => decide
      case un2 => decide
      intro _ _ y n hy hn D7 t7 h7 tk7 F7 N7
      have hnn : n = preV i number := Option.some.inj (hn.symm.trans (hpt y hy).1)
      subst hnn
      repeat' (first | (k_unfold; (try dsimp only)) | (k_end; wrow_close) | ((fail_if_success (with_reducible show wpAny _ _ (compareOp _ _ _) _ _ _)); walk1) | ((fail_if_success (with_reducible show wpAny _ _ (compareOp _ _ _) _ _ _)); dsimp only; walk1) | (leave1; walk_say "STEP leave1"; try dsimp only) | fail "no step")
      refine ne_dataH (by ke_read) (by ke_read) (shaped_si (host_low g)) (shaped_si (host_low g)) (by ke_room) ?_
      ke_norm
      repeat' (first | (k_unfold; (try dsimp only)) | (k_end; wrow_close) | ((fail_if_success (with_reducible show wpAny _ _ (execs _ _) _ _ _)); walk1) | ((fail_if_success (with_reducible show wpAny _ _ (execs _ _) _ _ _)); dsimp only; walk1) | (leave1; walk_say "STEP leave1"; try dsimp only) | fail "no step")
      refine wpAny_execs_nil ?_
      (try dsimp only)
      refine wpAny_execs_nil ?_
      rename (Fr _ _ _ _) => F8
      rename (News _ _ _ _) => N8
      (try dsimp only at F8 N8)
      show LEnd _ _ _ _ _ _ _
      refine LEnd.intro ((lp, _) :: (lws, _) :: rest) F8 N8 ?_ hoff ⟨⟨_, _, _, _, _, turn_norm⟩, rfl⟩
      intro p hp
      rcases List.mem_cons.mp hp with rfl | hp
      · k_mem
      · repeat (first | exact hp | refine List.mem_cons_of_mem _ ?_)
  · intro h9 tk9 m9 news9 F9 N9 hJ
    obtain ⟨⟨P1, P2, P3, P4, P5, rfl⟩, rfl⟩ := hJ
    (try dsimp only at F9 N9)
    (try dsimp only)
    exact next _ _ _ _ _ _ _ F9 N9
  run_tac sqEnd
end
end Mine
end

section
open PySem PySem.W PyProof.Rows PyProof.Rows.LCg PySem.Calls
set_option maxRecDepth 100000
namespace Mine
/-- the reply with the mark P, and the one without the name -/
noncomputable def fairC (g n : Int) : List Nat := bodyC 80 (codesZ g) [49] (numC n)
noncomputable def fewC (n : Int) : List Nat := 80 :: ([49] ++ 80 :: (numC n ++ [80]))
noncomputable def spC (g n : Int) : Nat → List Nat
  | 0 => [58, 41, 32] ++ 40 :: (fairC g n ++ [80]) ++ [41]
  | 1 => [58, 41, 32] ++ 40 :: fewC n ++ [41]
  | 2 => [58, 41, 32] ++ 40 :: (fairC g n ++ [81]) ++ [41]
  | 3 => [58, 41, 32] ++ 40 :: (fairC g n ++ [81])
  | _ => [50, 49, 50, 41]
noncomputable def cdC : Nat → List Nat
  | 0 => [49, 50, 57]
  | 1 => [50, 49, 57]
  | _ => [50, 50, 56, 32, 50, 50, 57]
theorem num_no {n : Int} {c : Nat} (h : c < 48 ∨ 57 < c) : c ∉ numC n := fun hm => by have := num_digits n c hm; omega
theorem codes_no {g : Int} {c : Nat} (h : c < 65 ∨ 79 < c) : c ∉ codesZ g := fun hm => by have := codes_range hm; omega
theorem fair_no {g n : Int} {c : Nat} (h : c = 40 ∨ c = 41) : c ∉ fairC g n := by
  unfold fairC bodyC
  have h1 := codes_no (g := g) (c := c) (by omega)
  have h2 := num_no (n := n) (c := c) (by omega)
  simp only [List.mem_cons, List.mem_append, not_or, List.not_mem_nil, not_false_eq_true, and_true]
  exact ⟨by omega, h1, by omega, by omega, by omega, h2, by omega⟩
theorem few_no {n : Int} {c : Nat} (h : c = 40 ∨ c = 41) : c ∉ fewC n := by
  unfold fewC
  have h2 := num_no (n := n) (c := c) (by omega)
  simp only [List.mem_cons, List.mem_append, not_or, List.not_mem_nil, not_false_eq_true, and_true]
  exact ⟨by omega, by omega, by omega, h2, by omega⟩
theorem fair_range {g n : Int} : ∀ c ∈ fairC g n, c < 128 := by
  intro c hb
  unfold fairC bodyC at hb
  rcases List.mem_cons.mp hb with rfl | hb
  · omega
  rcases List.mem_append.mp hb with hb | hb
  · have := codes_range hb; omega
  rcases List.mem_cons.mp hb with rfl | hb
  · omega
  rcases List.mem_append.mp hb with hb | hb
  · have := List.mem_singleton.mp hb; omega
  rcases List.mem_cons.mp hb with rfl | hb
  · omega
  rcases List.mem_append.mp hb with hb | hb
  · have := num_digits n c hb; omega
  · have := List.mem_singleton.mp hb; omega
theorem few_range {n : Int} : ∀ c ∈ fewC n, c < 128 := by
  intro c hb
  unfold fewC at hb
  rcases List.mem_cons.mp hb with rfl | hb
  · omega
  rcases List.mem_append.mp hb with hb | hb
  · have := List.mem_singleton.mp hb; omega
  rcases List.mem_cons.mp hb with rfl | hb
  · omega
  rcases List.mem_append.mp hb with hb | hb
  · have := num_digits n c hb; omega
  · have := List.mem_singleton.mp hb; omega
theorem range_app {a b : List Nat} (ha : ∀ c ∈ a, c < 128) (hb : ∀ c ∈ b, c < 128) : ∀ c ∈ a ++ b, c < 128 := by
  intro c hc
  rcases List.mem_append.mp hc with h | h
  · exact ha c h
  · exact hb c h
theorem sp_range {g n : Int} (i : Nat) : ∀ c ∈ spC g n i, c < 128 := by
  match i with
  | 0 => exact range_app (range_app (by decide) (range_app (a := [40]) (by decide) (range_app fair_range (by decide)))) (by decide)
  | 1 => exact range_app (range_app (by decide) (range_app (a := [40]) (by decide) few_range)) (by decide)
  | 2 => exact range_app (range_app (by decide) (range_app (a := [40]) (by decide) (range_app fair_range (by decide)))) (by decide)
  | 3 => exact range_app (by decide) (range_app (a := [40]) (by decide) (range_app fair_range (by decide)))
  | _ + 4 => exact (by decide : ∀ c ∈ [50, 49, 50, 41], c < 128)
theorem fair_first (g n : Int) (z : List Nat) : (fairC g n ++ z)[0]? = some 80 := rfl
theorem codes_count (g : Int) : (codesZ g).count 80 = 0 := List.count_eq_zero.mpr (codes_no (by omega))
theorem num_count (n : Int) : (numC n).count 80 = 0 := List.count_eq_zero.mpr (num_no (by omega))
theorem sp_proto {g n : Int} {i : Nat} {x : PySem.Str} (h : x.cps.toList = [50, 50, 57, 32] ++ spC g n i) : RProto x := by
  run_tac sqBegin
  have hlen := str_list x
  match i with
  | 0 =>
    have h' : x.cps.toList = [50, 50, 57, 32, 58, 41, 32] ++ 40 :: ((fairC g n ++ [80]) ++ 41 :: []) := by rw [h]; simp [spC]
    refine (proto_iff h' (by decide) ?_ (fair_first g n _) (c := 80) (by simp) (by decide)).mpr ?_
    · rw [List.mem_append, not_or]; exact ⟨fair_no (Or.inr rfl), by decide⟩
    · rw [pieces_len, List.count_append]
      simp [fairC, bodyC, List.count_cons, List.count_append, codes_count, num_count]
  | 1 =>
    have h' : x.cps.toList = [50, 50, 57, 32, 58, 41, 32] ++ 40 :: (fewC n ++ 41 :: []) := by rw [h]; simp [spC]
    refine (proto_iff h' (by decide) (few_no (Or.inr rfl)) (c := 80) rfl ?_ (by decide)).mpr ?_
    · unfold fewC
      rw [show 80 :: ([49] ++ 80 :: (numC n ++ [80])) = (80 :: ([49] ++ 80 :: numC n)) ++ [80] by simp, List.getLast?_append]; rfl
    · rw [pieces_len]
      simp [fewC, List.count_cons, List.count_append, num_count]
  | 2 =>
    have h' : x.cps.toList = [50, 50, 57, 32, 58, 41, 32] ++ 40 :: ((fairC g n ++ [81]) ++ 41 :: []) := by rw [h]; simp [spC]
    obtain ⟨a1, a2, a3, a4, a5⟩ := reply_facts h' (by decide) (by rw [List.mem_append, not_or]; exact ⟨fair_no (Or.inr rfl), by decide⟩) (fair_first g n _) (d := 81) (by simp)
    refine Or.inr (Or.inr (Or.inl ?_))
    rw [a3, a4]
    exact item_ne (by decide)
  | 3 =>
    have h' : x.cps.toList = [50, 50, 57, 32, 58, 41, 32] ++ 40 :: (fairC g n ++ [81]) := by rw [h]; simp [spC]
    refine Or.inr (Or.inl ?_)
    have hl : lefts x = 7 := by
      unfold lefts
      rw [find_zero, show PySem.Str.ofString "(" = ⟨#[40]⟩ by decide]
      exact find_at (p := [50, 50, 57, 32, 58, 41, 32]) 0 (Nat.zero_le _) h' (by
        intro j _ hj
        have : j = 0 ∨ j = 1 ∨ j = 2 ∨ j = 3 ∨ j = 4 ∨ j = 5 ∨ j = 6 := (by decide : ∀ j : Nat, j < 7 → (j = 0 ∨ j = 1 ∨ j = 2 ∨ j = 3 ∨ j = 4 ∨ j = 5 ∨ j = 6)) j (by simp at hj; omega)
        rcases this with rfl | rfl | rfl | rfl | rfl | rfl | rfl <;> decide)
    have hr : rights x = -1 := by
      unfold rights
      rw [hl, show PySem.Str.ofString ")" = ⟨#[41]⟩ by decide]
      refine find_no 8 ?_
      intro j hj1 hj2 e
      rw [h', List.getD_eq_getElem?_getD, List.getElem?_append_right (by simp; omega)] at e
      have hj : j - [50, 50, 57, 32, 58, 41, 32].length = (j - 8) + 1 := by simp; omega
      rw [hj, List.getElem?_cons_succ] at e
      cases q : (fairC g n ++ [81])[j - 8]? with
      | none => rw [q] at e; simp at e
      | some d =>
        rw [q] at e
        have hd : d = 41 := e
        have hm := List.mem_of_getElem? q
        rw [hd, List.mem_append] at hm
        rcases hm with hm | hm
        · exact fair_no (Or.inr rfl) hm
        · simp at hm
    rw [hr]; decide
  | _ + 4 =>
    have h' : x.cps.toList = [50, 50, 57, 32, 50, 49, 50, 41] := h
    refine Or.inl ?_
    have hl : lefts x = -1 := by
      unfold lefts
      rw [find_zero, show PySem.Str.ofString "(" = ⟨#[40]⟩ by decide]
      refine find_no 0 ?_
      intro j _ hj
      rw [h'] at hlen ⊢
      have : j = 0 ∨ j = 1 ∨ j = 2 ∨ j = 3 ∨ j = 4 ∨ j = 5 ∨ j = 6 ∨ j = 7 := (by decide : ∀ j : Nat, j < 8 → (j = 0 ∨ j = 1 ∨ j = 2 ∨ j = 3 ∨ j = 4 ∨ j = 5 ∨ j = 6 ∨ j = 7)) j (by simp at hlen; omega)
      rcases this with rfl | rfl | rfl | rfl | rfl | rfl | rfl | rfl <;> decide
    rw [hl]; decide
  run_tac sqEnd
theorem cd_not {i : Nat} {x : PySem.Str} {z : List Nat} (h : x.cps.toList = cdC i ++ z) : (PySem.Txt.slice x none (some 3) != PySem.Str.ofString "229") = true := by
  have hlen := str_list x
  rw [h, List.length_append] at hlen
  refine head_not ?_ ?_
  · rw [h]
    match i with
    | 0 => show [49, 50, 57] ≠ [50, 50, 57]; decide
    | 1 => show [50, 49, 57] ≠ [50, 50, 57]; decide
    | _ + 2 => show [50, 50, 56] ≠ [50, 50, 57]; decide
  · match i with
    | 0 => have : (cdC 0).length = 3 := rfl
           omega
    | 1 => have : (cdC 1).length = 3 := rfl
           omega
    | k + 2 => have : (cdC (k + 2)).length = 7 := rfl
               omega
theorem cd_len (i : Nat) : 3 ≤ (cdC i).length ∧ (cdC i).length ≤ 7 := by
  match i with
  | 0 => exact ⟨by decide, by decide⟩
  | 1 => exact ⟨by decide, by decide⟩
  | _ + 2 => exact ⟨(by decide : 3 ≤ 7), (by decide : 7 ≤ 7)⟩
theorem cd_range (i : Nat) : ∀ c ∈ cdC i, c < 128 := by
  match i with
  | 0 => decide
  | 1 => decide
  | _ + 2 => exact (by decide : ∀ c ∈ [50, 50, 56, 32, 50, 50, 57], c < 128)
theorem cd_no (i : Nat) : 40 ∉ cdC i ++ [32, 58, 41, 32] := by
  match i with
  | 0 => decide
  | 1 => decide
  | _ + 2 => exact (by decide : 40 ∉ [50, 50, 56, 32, 50, 50, 57] ++ [32, 58, 41, 32])
theorem cd_facts {g n : Int} {i : Nat} {x : PySem.Str} (h0 : 0 ≤ n) (h1 : n < 10 ^ 30) (h : x.cps.toList = (cdC i ++ [32, 58, 41, 32]) ++ 40 :: (fairC g n ++ 41 :: [])) :
    ¬ RProto x ∧ (∀ y, (partsOf x)[3]? = some y → ∃ k, PySem.intText? y = some k ∧ y.length ≤ 640) ∧ (PySem.Txt.slice x none (some 3) != PySem.Str.ofString "229") = true ∧ (∀ c ∈ x.cps.toList, c < 128) := by
  have hpc : pieces 80 (fairC g n) = [[], codesZ g, [49], numC n, []] := body_pieces (codes_no (by omega)) (by decide) (num_no (by omega))
  refine ⟨fun hp => (proto_iff h (cd_no i) (fair_no (Or.inr rfl)) (body_first _ _ _ _) (body_last _ _ _ _) (by decide)).mp hp (by rw [hpc]; rfl), ?_, ?_, ?_⟩
  · intro y hy
    have h3 := part_three h (cd_no i) (fair_no (Or.inr rfl)) (body_first _ _ _ _) (body_last _ _ _ _) (by decide) hy
    have h4 : y.cps.toList = preC 0 ++ numC n := by
      have : (pieces 80 (fairC g n))[3]? = some y.cps.toList := h3
      rw [hpc] at this
      exact (Option.some.inj this).symm
    refine ⟨_, port_reads h0 h1 h4, ?_⟩
    rw [← str_list, h4]
    have := num_len h0 h1
    show (numC n).length ≤ 640
    omega
  · exact cd_not (i := i) (z := [32, 58, 41, 32] ++ 40 :: (fairC g n ++ 41 :: [])) (by rw [h, List.append_assoc])
  · rw [h]
    exact range_app (range_app (cd_range i) (by decide)) (range_app (a := [40]) (by decide) (range_app fair_range (by decide)))
theorem cd_items {a b c : PySem.Str} {ta tb tc : Tok} (h : a.cps.toList = cdC 0 ∧ b.cps.toList = cdC 1 ∧ c.cps.toList = cdC 2) {i : Nat} {v : Value} (hv : [Value.str a ta, .str b tb, .str c tc][i]? = some v) : ∃ x t, v = .str x t ∧ x.cps.toList = cdC i := by
  obtain ⟨h0, h1, h2⟩ := h
  match i with
  | 0 => cases hv; exact ⟨_, _, rfl, h0⟩
  | 1 => cases hv; exact ⟨_, _, rfl, h1⟩
  | 2 => cases hv; exact ⟨_, _, rfl, h2⟩
  | k + 3 => simp at hv
theorem reply_word : ∀ c ∈ (PySem.Str.ofString "reply").cps.toList, c < 128 := by decide
end Mine
end

section
open PySem PySem.W PyProof.Rows PyProof.Rows.LCg PySem.Calls
set_option maxRecDepth 100000
namespace Mine
theorem one_same {m : PySem.Str → Option Value} {a : PySem.Str} : m = fun y => if y = a then m a else m y := by
  funext y
  split
  · rename_i h; rw [h]
  · rfl
theorem one_norm {α β : Type} [DecidableEq α] {a : α} {A P : β} {m : α → β} : (fun y => if y = a then A else if y = a then P else m y) = fun y => if y = a then A else m y := by
  funext y
  by_cases h : y = a
  · simp only [if_pos h]
  · simp only [if_neg h]
noncomputable def OneJ (a : PySem.Str) (m₀ : PySem.Str → Option Value) (news : List (Addr × Obj)) (_ : Nat) (m₁ : PySem.Str → Option Value) (news₁ : List (Addr × Obj)) : Prop := (∃ P : Option Value, m₁ = fun y => if y = a then P else m₀ y) ∧ news₁ = news
theorem reply_low' {a b : List Nat} {x : PySem.Str} (h : x.cps.toList = a ++ b) (ha : ∀ c ∈ a, c < 128) (hb : ∀ c ∈ b, c < 128) : ∀ c ∈ x.cps.toList, c < 128 := by rw [h]; exact range_app ha hb
theorem fair_list {g number : Int} {f1 f2 f3 fair : PySem.Str} (h0 : 0 ≤ number) (h1 : f1.cps.toList = (PySem.Str.ofString "P").cps.toList ++ (nameS g).cps.toList) (h2 : f2.cps.toList = f1.cps.toList ++ (PySem.Str.ofString "P1P").cps.toList)
    (h3 : f3.cps.toList = f2.cps.toList ++ (PySem.Str.ofString (toString number)).cps.toList) (h4 : fair.cps.toList = f3.cps.toList ++ (PySem.Str.ofString "P").cps.toList) : fair.cps.toList = fairC g number := by
  rw [h4, h3, h2, h1, num_codes h0, show (PySem.Str.ofString "P").cps.toList = [80] by decide, show (PySem.Str.ofString "P1P").cps.toList = [80, 49, 80] by decide]
  simp [fairC, bodyC, nameS]
theorem few_list {number : Int} {e1 few : PySem.Str} (h0 : 0 ≤ number) (h1 : e1.cps.toList = (PySem.Str.ofString "P1P").cps.toList ++ (PySem.Str.ofString (toString number)).cps.toList) (h2 : few.cps.toList = e1.cps.toList ++ (PySem.Str.ofString "P").cps.toList) : few.cps.toList = fewC number := by
  rw [h2, h1, num_codes h0, show (PySem.Str.ofString "P").cps.toList = [80] by decide, show (PySem.Str.ofString "P1P").cps.toList = [80, 49, 80] by decide]
  simp [fewC]
theorem sp_lists {g number : Int} {fair few a1 a2 b1 b2 c1 c2 d1 d2 : PySem.Str} (hf : fair.cps.toList = fairC g number) (hw : few.cps.toList = fewC number)
    (h1 : a1.cps.toList = (PySem.Str.ofString ":) (").cps.toList ++ fair.cps.toList) (h2 : a2.cps.toList = a1.cps.toList ++ (PySem.Str.ofString "P)").cps.toList)
    (h3 : b1.cps.toList = (PySem.Str.ofString ":) (").cps.toList ++ few.cps.toList) (h4 : b2.cps.toList = b1.cps.toList ++ (PySem.Str.ofString ")").cps.toList)
    (h5 : c1.cps.toList = (PySem.Str.ofString ":) (").cps.toList ++ fair.cps.toList) (h6 : c2.cps.toList = c1.cps.toList ++ (PySem.Str.ofString "Q)").cps.toList)
    (h7 : d1.cps.toList = (PySem.Str.ofString ":) (").cps.toList ++ fair.cps.toList) (h8 : d2.cps.toList = d1.cps.toList ++ (PySem.Str.ofString "Q").cps.toList) :
    a2.cps.toList = spC g number 0 ∧ b2.cps.toList = spC g number 1 ∧ c2.cps.toList = spC g number 2 ∧ d2.cps.toList = spC g number 3 ∧ (PySem.Str.ofString "212)").cps.toList = spC g number 4 := by
  rw [h2, h1, h4, h3, h6, h5, h8, h7, hf, hw, show (PySem.Str.ofString ":) (").cps.toList = [58, 41, 32, 40] by decide, show (PySem.Str.ofString "P)").cps.toList = [80, 41] by decide, show (PySem.Str.ofString ")").cps.toList = [41] by decide, show (PySem.Str.ofString "Q)").cps.toList = [81, 41] by decide, show (PySem.Str.ofString "Q").cps.toList = [81] by decide]
  refine ⟨?_, ?_, ?_, ?_, (by decide : (PySem.Str.ofString "212)").cps.toList = [50, 49, 50, 41])⟩ <;> simp [spC]
theorem sp_items {g number : Int} {a b c d e : PySem.Str} {ta tb tc td te : Tok} (h : a.cps.toList = spC g number 0 ∧ b.cps.toList = spC g number 1 ∧ c.cps.toList = spC g number 2 ∧ d.cps.toList = spC g number 3 ∧ e.cps.toList = spC g number 4) {i : Nat} {v : Value} (hv : [Value.str a ta, .str b tb, .str c tc, .str d td, .str e te][i]? = some v)
    (hl : a.length ≤ 1000 ∧ b.length ≤ 1000 ∧ c.length ≤ 1000 ∧ d.length ≤ 1000 ∧ e.length ≤ 1000) : ∃ x t, v = .str x t ∧ x.cps.toList = spC g number i ∧ x.length ≤ 1000 := by
  run_tac sqBegin
  obtain ⟨h0, h1, h2, h3, h4⟩ := h
  obtain ⟨m0, m1, m2, m3, m4⟩ := hl
  match i with
  | 0 => cases hv; exact ⟨_, _, rfl, h0, m0⟩
  | 1 => cases hv; exact ⟨_, _, rfl, h1, m1⟩
  | 2 => cases hv; exact ⟨_, _, rfl, h2, m2⟩
  | 3 => cases hv; exact ⟨_, _, rfl, h3, m3⟩
  | 4 => cases hv; exact ⟨_, _, rfl, h4, m4⟩
  | k + 5 => simp at hv
  run_tac sqEnd
section
variable {w : World} {mean : ExcName → Option Value} {mg mb : PySem.Str → Option Value} {h₀ : Heap} {L fa : Addr} {cd : Value} {G : Array GenState} {D : Drawn} {os : OsState} {Q : Flow → Shared → Prop} {E : Value → Shared → Prop}
set_option maxHeartbeats 4000000 in
theorem law_D {A₀ : Around} (B : Below A₀ h₀ [] h₀) (X : (hd.heap_39 w.params).In h₀) (T : Top topProg LS mean mg mb h₀) {H : Heap} {tk : Nat} {g number : Int} {t0 t1 t2 t3 t4 t5 : Tok} {lp : Addr} {m0 : PySem.Str → Option Value} {rest : List (Addr × Obj)}
    (F : Fr h₀ L H (fun y => if y = PySem.Str.ofString "peer" then some (.ref lp) else if y = PySem.Str.ofString "name" then some (.str (nameS g) t1) else if y = PySem.Str.ofString "number" then some (.int number t0) else m0 y))
    (N : News h₀ L H ((lp, { cls := .type "tuple", data := .seq #[.str (PySem.Str.ofString "P" ++ nameS g) t2, .int 21 t3, .int 0 t4, .int 0 t5] }) :: rest))
    (hn0 : 0 ≤ number) (hn1 : number < 10 ^ 30)
    (next : ∀ H' tk' P1 P2 few fair u1 u2, Fr h₀ L H' (fun y => if y = PySem.Str.ofString "code" then P1 else if y = PySem.Str.ofString "spoilt" then P2 else if y = PySem.Str.ofString "few" then some (.str few u1) else if y = PySem.Str.ofString "fair" then some (.str fair u2) else
        if y = PySem.Str.ofString "peer" then some (.ref lp) else if y = PySem.Str.ofString "name" then some (.str (nameS g) t1) else if y = PySem.Str.ofString "number" then some (.int number t0) else m0 y) →
      News h₀ L H' ((lp, { cls := .type "tuple", data := .seq #[.str (PySem.Str.ofString "P" ++ nameS g) t2, .int 21 t3, .int 0 t4, .int 0 t5] }) :: rest) → wpC (model PySem.Challenge.rw_xi0008_01.row.prog w) (lawA L fa cd) (execs lawE (lawEnv L fa cd)) Q E ⟨H', G, D, tk', os⟩)
    (hE : PassesOwn (model PySem.Challenge.rw_xi0008_01.row.prog w) (lawA L fa cd) (lawEnv L fa cd) E) :
    wpC (model PySem.Challenge.rw_xi0008_01.row.prog w) (lawA L fa cd) (execs lawD (lawEnv L fa cd)) Q E ⟨H, G, D, tk, os⟩ := by
  run_tac sqBegin
  revert X; k_fill; intro X
  revert hE
  delta lawD lawA lawEnv lawScope
  (try dsimp only)
  intro hE
  have hnl := name_len g
  have hul := num_len' hn0 hn1
  have l1 : (PySem.Str.ofString "P").length = 1 := by decide
  have l2 : (PySem.Str.ofString "P1P").length = 3 := by decide
  have l3 : (PySem.Str.ofString ":) (").length = 4 := by decide
  have l4 : (PySem.Str.ofString "P)").length = 2 := by decide
  have l5 : (PySem.Str.ofString ")").length = 1 := by decide
  have l6 : (PySem.Str.ofString "Q)").length = 2 := by decide
  have l7 : (PySem.Str.ofString "Q").length = 1 := by decide
  have l8 : (PySem.Str.ofString "229 ").length = 4 := by decide
  refine wpC_execs_tk ?_
  intro tk0
  repeat' (first | (k_unfold; (try dsimp only)) | (k_end; wrow_close) | ((fail_if_success (with_reducible show wpAny _ _ (binaryOp _ _ _) _ _ _)); walk1) | ((fail_if_success (with_reducible show wpAny _ _ (binaryOp _ _ _) _ _ _)); dsimp only; walk1) | (leave1; walk_say "STEP leave1"; try dsimp only) | fail "no step")
  refine add_strG (by omega) ?_
  intro f1 u1 k1 hf1 hl1
  repeat' (first | (k_unfold; (try dsimp only)) | (k_end; wrow_close) | ((fail_if_success (with_reducible show wpAny _ _ (binaryOp _ _ _) _ _ _)); walk1) | ((fail_if_success (with_reducible show wpAny _ _ (binaryOp _ _ _) _ _ _)); dsimp only; walk1) | (leave1; walk_say "STEP leave1"; try dsimp only) | fail "no step")
  refine add_strG (by omega) ?_
  intro f2 u2 k2 hf2 hl2
  repeat' (first | (k_unfold; (try dsimp only)) | (k_end; wrow_close) | ((fail_if_success (with_reducible show wpAny _ _ (call (.type "str") _) _ _ _)); walk1) | ((fail_if_success (with_reducible show wpAny _ _ (call (.type "str") _) _ _ _)); dsimp only; walk1) | (leave1; walk_say "STEP leave1"; try dsimp only) | fail "no step")
  refine P.str_of_int (num_small hn0 hn1) ?_
  repeat' (first | (k_unfold; (try dsimp only)) | (k_end; wrow_close) | ((fail_if_success (with_reducible show wpAny _ _ (binaryOp _ _ _) _ _ _)); walk1) | ((fail_if_success (with_reducible show wpAny _ _ (binaryOp _ _ _) _ _ _)); dsimp only; walk1) | (leave1; walk_say "STEP leave1"; try dsimp only) | fail "no step")
  refine add_strG (by omega) ?_
  intro f3 u3 k3 hf3 hl3
  repeat' (first | (k_unfold; (try dsimp only)) | (k_end; wrow_close) | ((fail_if_success (with_reducible show wpAny _ _ (binaryOp _ _ _) _ _ _)); walk1) | ((fail_if_success (with_reducible show wpAny _ _ (binaryOp _ _ _) _ _ _)); dsimp only; walk1) | (leave1; walk_say "STEP leave1"; try dsimp only) | fail "no step")
  refine add_strG (by omega) ?_
  intro fair u4 k4 hf4 hl4
  repeat' (first | (k_unfold; (try dsimp only)) | (k_end; wrow_close) | ((fail_if_success (with_reducible show wpAny _ _ (execs _ _) _ _ _)); walk1) | ((fail_if_success (with_reducible show wpAny _ _ (execs _ _) _ _ _)); dsimp only; walk1) | (leave1; walk_say "STEP leave1"; try dsimp only) | fail "no step")
  (try dsimp only)
  refine wpC_execs_tk ?_
  intro tk0
  repeat' (first | (k_unfold; (try dsimp only)) | (k_end; wrow_close) | ((fail_if_success (with_reducible show wpAny _ _ (call (.type "str") _) _ _ _)); walk1) | ((fail_if_success (with_reducible show wpAny _ _ (call (.type "str") _) _ _ _)); dsimp only; walk1) | (leave1; walk_say "STEP leave1"; try dsimp only) | fail "no step")
  refine P.str_of_int (num_small hn0 hn1) ?_
  repeat' (first | (k_unfold; (try dsimp only)) | (k_end; wrow_close) | ((fail_if_success (with_reducible show wpAny _ _ (binaryOp _ _ _) _ _ _)); walk1) | ((fail_if_success (with_reducible show wpAny _ _ (binaryOp _ _ _) _ _ _)); dsimp only; walk1) | (leave1; walk_say "STEP leave1"; try dsimp only) | fail "no step")
  refine add_strG (by omega) ?_
  intro e1 u5 k5 he1 hl5
  repeat' (first | (k_unfold; (try dsimp only)) | (k_end; wrow_close) | ((fail_if_success (with_reducible show wpAny _ _ (binaryOp _ _ _) _ _ _)); walk1) | ((fail_if_success (with_reducible show wpAny _ _ (binaryOp _ _ _) _ _ _)); dsimp only; walk1) | (leave1; walk_say "STEP leave1"; try dsimp only) | fail "no step")
  refine add_strG (by omega) ?_
  intro few u6 k6 he2 hl6
  repeat' (first | (k_unfold; (try dsimp only)) | (k_end; wrow_close) | ((fail_if_success (with_reducible show wpAny _ _ (execs _ _) _ _ _)); walk1) | ((fail_if_success (with_reducible show wpAny _ _ (execs _ _) _ _ _)); dsimp only; walk1) | (leave1; walk_say "STEP leave1"; try dsimp only) | fail "no step")
  (try dsimp only)
  refine wpC_execs_tk ?_
  intro tk0
  have hfair := fair_list hn0 hf1 hf2 hf3 hf4
  have hfew := few_list hn0 he1 he2
  have hfl : fair.length ≤ 190 ∧ few.length ≤ 40 := by omega
  obtain ⟨hfl, hwl⟩ := hfl
  clear hf1 hf2 hf3 hf4 he1 he2 hl1 hl2 hl3 hl4 hl5 hl6
  rename (Fr _ _ _ _) => F1
  rename (News _ _ _ _) => N1
  refine for_fr F1 (by rfl) (by rfl) ?_ (hE := hE)
  repeat' (first | (k_unfold; (try dsimp only)) | (k_end; wrow_close) | ((fail_if_success (with_reducible show wpAny _ _ (binaryOp _ _ _) _ _ _)); walk1) | ((fail_if_success (with_reducible show wpAny _ _ (binaryOp _ _ _) _ _ _)); dsimp only; walk1) | (leave1; walk_say "STEP leave1"; try dsimp only) | fail "no step")
  refine add_strG (by omega) ?_
  intro a1 u11 k11 ha1 la1
  repeat' (first | (k_unfold; (try dsimp only)) | (k_end; wrow_close) | ((fail_if_success (with_reducible show wpAny _ _ (binaryOp _ _ _) _ _ _)); walk1) | ((fail_if_success (with_reducible show wpAny _ _ (binaryOp _ _ _) _ _ _)); dsimp only; walk1) | (leave1; walk_say "STEP leave1"; try dsimp only) | fail "no step")
  refine add_strG (by omega) ?_
  intro a2 u12 k12 ha2 la2
  repeat' (first | (k_unfold; (try dsimp only)) | (k_end; wrow_close) | ((fail_if_success (with_reducible show wpAny _ _ (binaryOp _ _ _) _ _ _)); walk1) | ((fail_if_success (with_reducible show wpAny _ _ (binaryOp _ _ _) _ _ _)); dsimp only; walk1) | (leave1; walk_say "STEP leave1"; try dsimp only) | fail "no step")
  refine add_strG (by omega) ?_
  intro b1 u13 k13 hb1 lb1
  repeat' (first | (k_unfold; (try dsimp only)) | (k_end; wrow_close) | ((fail_if_success (with_reducible show wpAny _ _ (binaryOp _ _ _) _ _ _)); walk1) | ((fail_if_success (with_reducible show wpAny _ _ (binaryOp _ _ _) _ _ _)); dsimp only; walk1) | (leave1; walk_say "STEP leave1"; try dsimp only) | fail "no step")
  refine add_strG (by omega) ?_
  intro b2 u14 k14 hb2 lb2
  repeat' (first | (k_unfold; (try dsimp only)) | (k_end; wrow_close) | ((fail_if_success (with_reducible show wpAny _ _ (binaryOp _ _ _) _ _ _)); walk1) | ((fail_if_success (with_reducible show wpAny _ _ (binaryOp _ _ _) _ _ _)); dsimp only; walk1) | (leave1; walk_say "STEP leave1"; try dsimp only) | fail "no step")
  refine add_strG (by omega) ?_
  intro c1 u15 k15 hc1 lc1
  repeat' (first | (k_unfold; (try dsimp only)) | (k_end; wrow_close) | ((fail_if_success (with_reducible show wpAny _ _ (binaryOp _ _ _) _ _ _)); walk1) | ((fail_if_success (with_reducible show wpAny _ _ (binaryOp _ _ _) _ _ _)); dsimp only; walk1) | (leave1; walk_say "STEP leave1"; try dsimp only) | fail "no step")
  refine add_strG (by omega) ?_
  intro c2 u16 k16 hc2 lc2
  repeat' (first | (k_unfold; (try dsimp only)) | (k_end; wrow_close) | ((fail_if_success (with_reducible show wpAny _ _ (binaryOp _ _ _) _ _ _)); walk1) | ((fail_if_success (with_reducible show wpAny _ _ (binaryOp _ _ _) _ _ _)); dsimp only; walk1) | (leave1; walk_say "STEP leave1"; try dsimp only) | fail "no step")
  refine add_strG (by omega) ?_
  intro d1 u17 k17 hd1 ld1
  repeat' (first | (k_unfold; (try dsimp only)) | (k_end; wrow_close) | ((fail_if_success (with_reducible show wpAny _ _ (binaryOp _ _ _) _ _ _)); walk1) | ((fail_if_success (with_reducible show wpAny _ _ (binaryOp _ _ _) _ _ _)); dsimp only; walk1) | (leave1; walk_say "STEP leave1"; try dsimp only) | fail "no step")
  refine add_strG (by omega) ?_
  intro d2 u18 k18 hd2 ld2
  repeat' (first | (k_unfold; (try dsimp only)) | (k_end; wrow_close) | ((fail_if_success (with_reducible show wpAny _ _ (pyIter _) _ _ _)); walk1) | ((fail_if_success (with_reducible show wpAny _ _ (pyIter _) _ _ _)); dsimp only; walk1) | (leave1; walk_say "STEP leave1"; try dsimp only) | fail "no step")
  have hsp := sp_lists hfair hfew ha1 ha2 hb1 hb2 hc1 hc2 hd1 hd2
  have hspl : a2.length ≤ 1000 ∧ b2.length ≤ 1000 ∧ c2.length ≤ 1000 ∧ d2.length ≤ 1000 ∧ (PySem.Str.ofString "212)").length ≤ 1000 := ⟨by omega, by omega, by omega, by omega, by decide⟩
  clear ha1 ha2 hb1 hb2 hc1 hc2 hd1 hd2 la1 la2 lb1 lb2 lc1 lc2 ld1 ld2
  rename (Fr _ _ _ _) => F2
  rename (News _ _ _ _) => N2
  refine loop_led (OneJ (PySem.Str.ofString "spoilt") _ _) rfl (List.mem_cons_self) rfl rfl F2 N2 ?_ ⟨⟨_, one_same⟩, rfl⟩ ?_ ?_
  · rintro i m₁ news₁ ⟨_, rfl⟩
    k_mem
  · rintro i v m₁ news₁ I oI h tk hv ⟨⟨P, rfl⟩, rfl⟩ hoff F3 N3
    obtain ⟨x, tx, rfl, hx, hxl⟩ := sp_items hsp hv hspl
    (try dsimp only at F3 N3)
    repeat' (first | (k_unfold; (try dsimp only)) | (k_end; wrow_close) | ((fail_if_success (with_reducible show wpAny _ _ (binaryOp _ _ _) _ _ _)); walk1) | ((fail_if_success (with_reducible show wpAny _ _ (binaryOp _ _ _) _ _ _)); dsimp only; walk1) | (leave1; walk_say "STEP leave1"; try dsimp only) | fail "no step")
    refine PyProof.Rows.add_str (fun t8 k8 => ?_) (by rw [sizeLine_eq, l8]; omega)
    have hR : (PySem.Str.ofString "229 " ++ x).cps.toList = [50, 50, 57, 32] ++ spC g number i := by
      rw [PySem.Str.cps_append, Array.toList_append, hx, show (PySem.Str.ofString "229 ").cps.toList = [50, 50, 57, 32] by decide]
    have hRl : (PySem.Str.ofString "229 " ++ x).length ≤ 4000 ∧ 3 ≤ (PySem.Str.ofString "229 " ++ x).length := by rw [PySem.Str.length_append, l8]; omega
    have hRP := sp_proto hR
    have h229 := head_is (r := PySem.Str.ofString "229 " ++ x) (by rw [hR]; rfl) hRl.2
    have hlow := reply_low' hR (by decide) (sp_range i)
    repeat' (first | (k_unfold; (try dsimp only)) | (k_end; wrow_close) | ((fail_if_success (with_reducible show wpAny _ _ (call (.ref _) _) _ _ _)); walk1) | ((fail_if_success (with_reducible show wpAny _ _ (call (.ref _) _) _ _ _)); dsimp only; walk1) | (leave1; walk_say "STEP leave1"; try dsimp only) | fail "no step")
    rename (Fr _ _ _ _) => F6
    rename (News _ _ _ _) => N6
    refine' read_call B F6 X N6 T ?hk (p := lp) (hst := PySem.Str.ofString "P" ++ nameS g) ?hp hRl.1 ?hreply ?hproto ?hnv ?hok ?dp ?un
    case hk => rfl
    case hp => k_mem
    case hreply => intro h; rw [h229] at h; cases h
    case hnv => exact fun h => absurd hRP h
    case hok => exact fun h => absurd hRP h
    case dp => decide
    case un => decide
    · intro _ D7 t7 h7 tk7 F7 N7
      repeat' (first | (k_unfold; (try dsimp only)) | (k_end; wrow_close) | ((fail_if_success (with_reducible show wpAny _ _ (binaryOp _ _ _) _ _ _)); walk1) | ((fail_if_success (with_reducible show wpAny _ _ (binaryOp _ _ _) _ _ _)); dsimp only; walk1) | (leave1; walk_say "STEP leave1"; try dsimp only) | fail "no step")
      refine PyProof.Rows.add_str (fun t9 k9 => ?_) (by rw [sizeLine_eq, l8]; omega)
      repeat' (first | (k_unfold; (try dsimp only)) | (k_end; wrow_close) | ((fail_if_success (with_reducible show wpAny _ _ (compareOp _ _ _) _ _ _)); walk1) | ((fail_if_success (with_reducible show wpAny _ _ (compareOp _ _ _) _ _ _)); dsimp only; walk1) | (leave1; walk_say "STEP leave1"; try dsimp only) | fail "no step")
      refine ne_dataH (by ke_read) (by ke_read) (shaped_ss proto_low hlow) (shaped_ss proto_low hlow) (by ke_room) ?_
      ke_norm
      repeat' (first | (k_unfold; (try dsimp only)) | (k_end; wrow_close) | ((fail_if_success (with_reducible show wpAny _ _ (execs _ _) _ _ _)); walk1) | ((fail_if_success (with_reducible show wpAny _ _ (execs _ _) _ _ _)); dsimp only; walk1) | (leave1; walk_say "STEP leave1"; try dsimp only) | fail "no step")
      refine wpAny_execs_nil ?_
      (try dsimp only)
      refine wpAny_execs_nil ?_
      rename (Fr _ _ _ _) => F8
      rename (News _ _ _ _) => N8
      (try dsimp only at F8 N8)
      show LEnd _ _ _ _ _ _ _
      refine LEnd.intro _ F8 N8 ?_ hoff ⟨⟨_, one_norm⟩, rfl⟩
      intro p hp
      rcases List.mem_cons.mp hp with rfl | hp
      · k_mem
      · repeat (first | exact hp | refine List.mem_cons_of_mem _ ?_)
  · intro h9 tk9 m9 news9 F9 N9 hJ
    obtain ⟨⟨P1, rfl⟩, rfl⟩ := hJ
    (try dsimp only at F9 N9)
    (try dsimp only)
    refine wpC_execs_tk ?_
    intro tk0
    have l9 : (PySem.Str.ofString " :) (").length = 5 := by decide
    refine for_fr F9 (by rfl) (by rfl) ?_ (hE := hE)
    repeat' (first | (k_unfold; (try dsimp only)) | (k_end; wrow_close) | ((fail_if_success (with_reducible show wpAny _ _ (pyIter _) _ _ _)); walk1) | ((fail_if_success (with_reducible show wpAny _ _ (pyIter _) _ _ _)); dsimp only; walk1) | (leave1; walk_say "STEP leave1"; try dsimp only) | fail "no step")
    rename (Fr _ _ _ _) => F10
    rename (News _ _ _ _) => N10
    refine loop_led (OneJ (PySem.Str.ofString "code") _ _) rfl (List.mem_cons_self) rfl rfl F10 N10 ?_ ⟨⟨_, one_same⟩, rfl⟩ ?_ ?_
    · rintro i m₁ news₁ ⟨_, rfl⟩
      k_mem
    · rintro i v m₁ news₁ I oI h tk hv ⟨⟨P, rfl⟩, rfl⟩ hoff F3 N3
      obtain ⟨x, tx, rfl, hx⟩ := cd_items ⟨by decide, by decide, by decide⟩ hv
      (try dsimp only at F3 N3)
      have hxl : x.length = (cdC i).length := by rw [← str_list, hx]
      have hcl := cd_len i
      repeat' (first | (k_unfold; (try dsimp only)) | (k_end; wrow_close) | ((fail_if_success (with_reducible show wpAny _ _ (binaryOp _ _ _) _ _ _)); walk1) | ((fail_if_success (with_reducible show wpAny _ _ (binaryOp _ _ _) _ _ _)); dsimp only; walk1) | (leave1; walk_say "STEP leave1"; try dsimp only) | fail "no step")
      refine PyProof.Rows.add_str (fun t8 k8 => ?_) (by rw [sizeLine_eq, l9]; omega)
      repeat' (first | (k_unfold; (try dsimp only)) | (k_end; wrow_close) | ((fail_if_success (with_reducible show wpAny _ _ (binaryOp _ _ _) _ _ _)); walk1) | ((fail_if_success (with_reducible show wpAny _ _ (binaryOp _ _ _) _ _ _)); dsimp only; walk1) | (leave1; walk_say "STEP leave1"; try dsimp only) | fail "no step")
      refine PyProof.Rows.add_str (fun t8 k8 => ?_) (by rw [sizeLine_eq, PySem.Str.length_append, l9]; omega)
      repeat' (first | (k_unfold; (try dsimp only)) | (k_end; wrow_close) | ((fail_if_success (with_reducible show wpAny _ _ (binaryOp _ _ _) _ _ _)); walk1) | ((fail_if_success (with_reducible show wpAny _ _ (binaryOp _ _ _) _ _ _)); dsimp only; walk1) | (leave1; walk_say "STEP leave1"; try dsimp only) | fail "no step")
      refine PyProof.Rows.add_str (fun t8 k8 => ?_) (by rw [sizeLine_eq, PySem.Str.length_append, PySem.Str.length_append, l9, l5]; omega)
      have hR : (x ++ PySem.Str.ofString " :) (" ++ fair ++ PySem.Str.ofString ")").cps.toList = (cdC i ++ [32, 58, 41, 32]) ++ 40 :: (fairC g number ++ 41 :: []) := by
        rw [PySem.Str.cps_append, PySem.Str.cps_append, PySem.Str.cps_append, Array.toList_append, Array.toList_append, Array.toList_append, hx, hfair, show (PySem.Str.ofString " :) (").cps.toList = [32, 58, 41, 32, 40] by decide, show (PySem.Str.ofString ")").cps.toList = [41] by decide]
        simp
      have hRl : (x ++ PySem.Str.ofString " :) (" ++ fair ++ PySem.Str.ofString ")").length ≤ 4000 := by rw [PySem.Str.length_append, PySem.Str.length_append, PySem.Str.length_append, l9, l5]; omega
      obtain ⟨hno, hnv, hnh, hlow⟩ := cd_facts hn0 hn1 hR
      repeat' (first | (k_unfold; (try dsimp only)) | (k_end; wrow_close) | ((fail_if_success (with_reducible show wpAny _ _ (call (.ref _) _) _ _ _)); walk1) | ((fail_if_success (with_reducible show wpAny _ _ (call (.ref _) _) _ _ _)); dsimp only; walk1) | (leave1; walk_say "STEP leave1"; try dsimp only) | fail "no step")
      rename (Fr _ _ _ _) => F6
      rename (News _ _ _ _) => N6
      refine' read_call B F6 X N6 T ?hk2 (p := lp) (hst := PySem.Str.ofString "P" ++ nameS g) ?hp2 hRl ?hreply2 ?hproto2 ?hnv2 ?hok2 ?dp2 ?un2
      case hk2 => rfl
      case hp2 => k_mem
      case hproto2 => exact fun h => absurd h hno
      case hnv2 => exact fun _ => hnv
      case hok2 => intro _ h; rw [hnh] at h; cases h
      case dp2 => decide
      case un2 => decide
      · intro _ D7 t7 h7 tk7 F7 N7
        repeat' (first | (k_unfold; (try dsimp only)) | (k_end; wrow_close) | ((fail_if_success (with_reducible show wpAny _ _ (binaryOp _ _ _) _ _ _)); walk1) | ((fail_if_success (with_reducible show wpAny _ _ (binaryOp _ _ _) _ _ _)); dsimp only; walk1) | (leave1; walk_say "STEP leave1"; try dsimp only) | fail "no step")
        refine PyProof.Rows.add_str (fun t8 k8 => ?_) (by rw [sizeLine_eq, l9]; omega)
        repeat' (first | (k_unfold; (try dsimp only)) | (k_end; wrow_close) | ((fail_if_success (with_reducible show wpAny _ _ (binaryOp _ _ _) _ _ _)); walk1) | ((fail_if_success (with_reducible show wpAny _ _ (binaryOp _ _ _) _ _ _)); dsimp only; walk1) | (leave1; walk_say "STEP leave1"; try dsimp only) | fail "no step")
        refine PyProof.Rows.add_str (fun t8 k8 => ?_) (by rw [sizeLine_eq, PySem.Str.length_append, l9]; omega)
        repeat' (first | (k_unfold; (try dsimp only)) | (k_end; wrow_close) | ((fail_if_success (with_reducible show wpAny _ _ (binaryOp _ _ _) _ _ _)); walk1) | ((fail_if_success (with_reducible show wpAny _ _ (binaryOp _ _ _) _ _ _)); dsimp only; walk1) | (leave1; walk_say "STEP leave1"; try dsimp only) | fail "no step")
        refine PyProof.Rows.add_str (fun t8 k8 => ?_) (by rw [sizeLine_eq, PySem.Str.length_append, PySem.Str.length_append, l9, l5]; omega)
        repeat' (first | (k_unfold; (try dsimp only)) | (k_end; wrow_close) | ((fail_if_success (with_reducible show wpAny _ _ (compareOp _ _ _) _ _ _)); walk1) | ((fail_if_success (with_reducible show wpAny _ _ (compareOp _ _ _) _ _ _)); dsimp only; walk1) | (leave1; walk_say "STEP leave1"; try dsimp only) | fail "no step")
        refine ne_dataH (by ke_read) (by ke_read) (shaped_ss reply_word hlow) (shaped_ss reply_word hlow) (by ke_room) ?_
        ke_norm
        repeat' (first | (k_unfold; (try dsimp only)) | (k_end; wrow_close) | ((fail_if_success (with_reducible show wpAny _ _ (execs _ _) _ _ _)); walk1) | ((fail_if_success (with_reducible show wpAny _ _ (execs _ _) _ _ _)); dsimp only; walk1) | (leave1; walk_say "STEP leave1"; try dsimp only) | fail "no step")
        refine wpAny_execs_nil ?_
        (try dsimp only)
        refine wpAny_execs_nil ?_
        rename (Fr _ _ _ _) => F8
        rename (News _ _ _ _) => N8
        (try dsimp only at F8 N8)
        show LEnd _ _ _ _ _ _ _
        refine LEnd.intro _ F8 N8 ?_ hoff ⟨⟨_, one_norm⟩, rfl⟩
        intro p hp
        rcases List.mem_cons.mp hp with rfl | hp
        · k_mem
        · repeat (first | exact hp | refine List.mem_cons_of_mem _ ?_)
    · intro h11 tk11 m11 news11 F11 N11 hJ
      obtain ⟨⟨P2, rfl⟩, rfl⟩ := hJ
      (try dsimp only at F11 N11)
      (try dsimp only)
      refine next _ _ _ _ _ _ _ _ F11 ?_
      intro p hp
      refine N11 p ?_
      repeat (first | exact hp | refine List.mem_cons_of_mem _ ?_)
  run_tac sqEnd
end
end Mine
end

section
open PySem PySem.W PyProof.Rows PyProof.Rows.LCg PySem.Calls
set_option maxRecDepth 100000
namespace Mine
theorem val_facts {g : Int} {x : PySem.Str} (h : x.cps.toList = [50, 50, 57, 32, 58, 41, 32] ++ 40 :: (bodyC 80 [49] [50] (codesZ g) ++ 41 :: [])) :
    ¬ RProto x ∧ (PySem.Txt.slice x none (some 3) != PySem.Str.ofString "229") = false ∧ ∃ y, (partsOf x)[3]? = some y ∧ PySem.intText? y = none ∧ y.length ≤ 640 ∧ ∀ c ∈ y.cps.toList, c < 16 ^ 8 := by
  run_tac sqBegin
  have hpc : pieces 80 (bodyC 80 [49] [50] (codesZ g)) = [[], [49], [50], codesZ g, []] := body_pieces (by decide) (by decide) (codes_no (by omega))
  have h41 : 41 ∉ bodyC 80 [49] [50] (codesZ g) := by
    unfold bodyC
    have h1 := codes_no (g := g) (c := 41) (by omega)
    simp only [List.mem_cons, List.mem_append, not_or, List.not_mem_nil, not_false_eq_true, and_true]
    exact ⟨by omega, by omega, by omega, by omega, by omega, h1, by omega⟩
  obtain ⟨a1, a2, a3, a4, a5⟩ := reply_facts h (by decide) h41 (body_first _ _ _ _) (body_last _ _ _ _)
  refine ⟨fun hp => (proto_iff h (by decide) h41 (body_first _ _ _ _) (body_last _ _ _ _) (by decide)).mp hp (by rw [hpc]; rfl), head_is (by rw [h]; rfl) (by rw [← str_list, h]; simp), ?_⟩
  have a5' := a5 (by decide)
  rw [hpc] at a5'
  have hlen : (partsOf x).length = 5 := by
    have := congrArg List.length a5'
    simpa using this
  obtain ⟨y, hy⟩ : ∃ y, (partsOf x)[3]? = some y := ⟨_, List.getElem?_eq_getElem (by omega)⟩
  have h3 := part_three h (by decide) h41 (body_first _ _ _ _) (body_last _ _ _ _) (by decide) hy
  rw [hpc] at h3
  have h4 : y.cps.toList = codesZ g := (Option.some.inj h3).symm
  have hne : codesZ g ≠ [] := by
    have : (codesZ g).length = 1 + (wtsZ g 8).sum.toNat := by
      rw [codesZ, List.length_map, letters, List.length_reverse, List.length_map, ways_len fun k hk => by have := wts_bound g k hk; omega]
    intro e; rw [e] at this; simp at this; omega
  refine ⟨y, hy, ?_, ?_, ?_⟩
  · cases e : codesZ g with
    | nil => exact absurd e hne
    | cons c cs =>
      rw [e] at h4
      exact text_none h4 fun d hd => codes_range (g := g) (by rw [e]; exact hd)
  · rw [← str_list, h4]
    have := name_len g
    rw [show (nameS g).length = (codesZ g).length by simp [nameS, PySem.Str.length]] at this
    omega
  · intro c hc
    rw [h4] at hc
    have := codes_range hc; omega
  run_tac sqEnd
theorem value_word : ∀ c ∈ (PySem.Str.ofString "value").cps.toList, c < 128 := by decide
theorem shaped_s {a : PySem.Str} (ha : ∀ c ∈ a.cps.toList, c < 128) : SeqAt.shaped (.list [.str a]) = true := by
  simp [SeqAt.shaped, PyData.canLay0, PyData.canLayAll0, PyData.depth, PyData.depthAll, strOk_of ha]
section
variable {w : World} {mean : ExcName → Option Value} {mg mb : PySem.Str → Option Value} {h₀ : Heap} {L fa : Addr} {cd : Value} {G : Array GenState} {D : Drawn} {os : OsState} {Q : Flow → Shared → Prop} {E : Value → Shared → Prop}
set_option maxHeartbeats 4000000 in
theorem law_E {A₀ : Around} (B : Below A₀ h₀ [] h₀) (X : (hd.heap_39 w.params).In h₀) (T : Top topProg LS mean mg mb h₀) {H : Heap} {tk : Nat} {g : Int} {t1 t2 t3 t4 t5 : Tok} {lp : Addr} {m0 : PySem.Str → Option Value} {rest : List (Addr × Obj)}
    (F : Fr h₀ L H (fun y => if y = PySem.Str.ofString "peer" then some (.ref lp) else if y = PySem.Str.ofString "name" then some (.str (nameS g) t1) else m0 y))
    (N : News h₀ L H ((lp, { cls := .type "tuple", data := .seq #[.str (PySem.Str.ofString "P" ++ nameS g) t2, .int 21 t3, .int 0 t4, .int 0 t5] }) :: rest))
    (next : ∀ H' tk', Fr h₀ L H' (fun y => if y = PySem.Str.ofString "peer" then some (.ref lp) else if y = PySem.Str.ofString "name" then some (.str (nameS g) t1) else m0 y) →
      News h₀ L H' rest → wpAny (model PySem.Challenge.rw_xi0008_01.row.prog w) (lawA L fa cd) (execs lawF (lawEnv L fa cd)) Q E ⟨H', G, D, tk', os⟩) :
    wpC (model PySem.Challenge.rw_xi0008_01.row.prog w) (lawA L fa cd) (execs lawE (lawEnv L fa cd)) Q E ⟨H, G, D, tk, os⟩ := by
  run_tac sqBegin
  revert X; k_fill; intro X
  delta lawE lawA lawEnv lawScope
  (try dsimp only)
  have hnl := name_len g
  have l1 : (PySem.Str.ofString "229 :) (P1P2P").length = 13 := by decide
  have l2 : (PySem.Str.ofString "P)").length = 2 := by decide
  refine wpC_execs_cons (wpC_If ?_)
  refine wpC_isTrue_Compare1 ?_
  refine wpC_Call ?_
  repeat' (first | (k_unfold; (try dsimp only)) | (k_end; wrow_close) | (walk1) | (dsimp only; walk1) | (leave1; walk_say "STEP leave1"; try dsimp only) | fail "no step")
  refine wpC_callWith_ref ?_
  repeat' (first | (k_unfold; (try dsimp only)) | (k_end; wrow_close) | ((fail_if_success (with_reducible show wpAny _ _ (binaryOp _ _ _) _ _ _)); (fail_if_success (with_reducible show wpAny _ _ (FnAt _ _ ∧ _) _ _ _)); walk1) | ((fail_if_success (with_reducible show wpAny _ _ (binaryOp _ _ _) _ _ _)); (fail_if_success (with_reducible show wpAny _ _ (FnAt _ _ ∧ _) _ _ _)); dsimp only; walk1) | (leave1; walk_say "STEP leave1"; try dsimp only) | fail "no step")
  refine PyProof.Rows.add_str (fun t8 k8 => ?_) (by rw [sizeLine_eq, l1]; omega)
  repeat' (first | (k_unfold; (try dsimp only)) | (k_end; wrow_close) | ((fail_if_success (with_reducible show wpAny _ _ (binaryOp _ _ _) _ _ _)); (fail_if_success (with_reducible show wpAny _ _ (FnAt _ _ ∧ _) _ _ _)); walk1) | ((fail_if_success (with_reducible show wpAny _ _ (binaryOp _ _ _) _ _ _)); (fail_if_success (with_reducible show wpAny _ _ (FnAt _ _ ∧ _) _ _ _)); dsimp only; walk1) | (leave1; walk_say "STEP leave1"; try dsimp only) | fail "no step")
  refine PyProof.Rows.add_str (fun t8 k8 => ?_) (by rw [sizeLine_eq, PySem.Str.length_append, l1, l2]; omega)
  repeat' (first | (k_unfold; (try dsimp only)) | (k_end; wrow_close) | ((fail_if_success (with_reducible show wpAny _ _ (FnAt _ _ ∧ _) _ _ _)); walk1) | ((fail_if_success (with_reducible show wpAny _ _ (FnAt _ _ ∧ _) _ _ _)); dsimp only; walk1) | (leave1; walk_say "STEP leave1"; try dsimp only) | fail "no step")
  · exact ⟨_, _, _, _, (X.keeps (Fr.keep F)) _ _ (by k_is)⟩
  have hR : (PySem.Str.ofString "229 :) (P1P2P" ++ nameS g ++ PySem.Str.ofString "P)").cps.toList = [50, 50, 57, 32, 58, 41, 32] ++ 40 :: (bodyC 80 [49] [50] (codesZ g) ++ 41 :: []) := by
    rw [PySem.Str.cps_append, PySem.Str.cps_append, Array.toList_append, Array.toList_append, show (PySem.Str.ofString "229 :) (P1P2P").cps.toList = [50, 50, 57, 32, 58, 41, 32, 40, 80, 49, 80, 50, 80] by decide, show (PySem.Str.ofString "P)").cps.toList = [80, 41] by decide]
    simp [bodyC, nameS]
  have hRl : (PySem.Str.ofString "229 :) (P1P2P" ++ nameS g ++ PySem.Str.ofString "P)").length ≤ 4000 := by rw [PySem.Str.length_append, PySem.Str.length_append, l1, l2]; omega
  obtain ⟨hno, h229, y, hy, hyn, hy640, hyc⟩ := val_facts hR
  refine' read_value B F X N T ?hk (hst := PySem.Str.ofString "P" ++ nameS g) ?hp hRl h229 hno hy hyn hy640 hyc ?dp ?un ?_
  case hk => rfl
  case hp => k_mem
  case dp => decide
  case un => decide
  intro D7 t7 h7 tk7 F7 N7
  clear hyc hy640 hyn hy h229 hno hR hRl
  (try dsimp only)
  repeat' (first | (k_unfold; (try dsimp only)) | (k_end; wrow_close) | ((fail_if_success (with_reducible show wpAny _ _ (compareOp _ _ _) _ _ _)); (fail_if_success (with_reducible show wpAny _ _ (newList _) _ _ _)); walk1) | ((fail_if_success (with_reducible show wpAny _ _ (compareOp _ _ _) _ _ _)); (fail_if_success (with_reducible show wpAny _ _ (newList _) _ _ _)); dsimp only; walk1) | (leave1; walk_say "STEP leave1"; try dsimp only) | fail "no step")
  (try dsimp only)
  refine newList_K F7 N7 ?_
  intro l' h8 F8 N8 l8
  (try dsimp only)
  refine ne_dataH (by ke_read) (by ke_read) (shaped_s value_word) (shaped_s value_word) (by ke_room) ?_
  ke_norm
  refine wpAny_truthy_bool ?_
  rw [if_neg (by decide)]
  refine wpC_any ?_
  refine wpAny_execs_nil ?_
  (try dsimp only)
  refine wpC_any ?_
  refine next _ _ F8 ?_
  intro p hp
  exact N8 p (.tail _ (.tail _ (.tail _ hp)))
  run_tac sqEnd
end
end Mine
end

section
open PySem PySem.W PyProof.Rows PyProof.Rows.LCg PySem.Calls
set_option maxRecDepth 100000
namespace Mine
noncomputable def moreZ (mine best : List Int) : List Int := List.zipWith (fun o p => p - o) mine best
theorem common_len (f : List Int) : (commonZ f).length = 15 := by simp [commonZ]
theorem figs_drop (g : Int) : (figsZ g).drop 37 = waysZ (wtsZ g 8) := List.drop_left' (show mostZ.length = 37 from rfl)
theorem figs_take (g : Int) : (figsZ g).take 37 = mostZ := List.take_left' (show mostZ.length = 37 from rfl)
section
variable {w : World} {mean : ExcName → Option Value} {mg mb : PySem.Str → Option Value} {h₀ : Heap} {L fa : Addr} {cd : Value} {G : Array GenState} {D : Drawn} {os : OsState} {Q : Flow → Shared → Prop} {E : Value → Shared → Prop}
set_option maxHeartbeats 4000000 in
theorem law_F {A₀ : Around} (B : Below A₀ h₀ [] h₀) (X : (hd.heap_39 w.params).In h₀) (T : Top topProg LS mean mg mb h₀) {H : Heap} {tk : Nat} {g picks : Int} {t1 : Tok} {lt : Addr} {kt : Nat} {us : List Value} {m0 : PySem.Str → Option Value} {rest : List (Addr × Obj)}
    (F : Fr h₀ L H (fun y => if y = PySem.Str.ofString "told" then some (.ref lt) else if y = PySem.Str.ofString "picks" then some (.int picks t1) else m0 y))
    (N : News h₀ L H ((lt, W.listOf (List.toArray us) kt) :: rest)) (hus : IntsAre us (figsZ g)) (hp0 : 0 ≤ picks)
    (next : ∀ H' tk' MD BD RD ms bs zs km kb kr fal1 fal2 wd tw, 0 ≤ wd → wd < 297 → IntsAre ms (commonZ fal1) → IntsAre bs (commonZ fal2) → IntsAre zs (moreZ (commonZ fal1) (commonZ fal2)) → fal1.Perm (waysZ (wtsZ g 8)) → fal1.Pairwise (fun a b => b ≤ a) → fal2.Perm mostZ → fal2.Pairwise (fun a b => b ≤ a) →
      (∀ p ∈ rest, p.1 ≠ MD ∧ p.1 ≠ BD ∧ p.1 ≠ RD) → (MD ≠ RD ∧ BD ≠ RD) →
      Fr h₀ L H' (fun y => if y = PySem.Str.ofString "more" then some (.ref RD) else if y = PySem.Str.ofString "best" then some (.ref BD) else if y = PySem.Str.ofString "mine" then some (.ref MD) else if y = PySem.Str.ofString "width" then some (.int (4 + wd) tw) else if y = PySem.Str.ofString "told" then some (.ref lt) else if y = PySem.Str.ofString "picks" then some (.int picks t1) else m0 y) →
      News h₀ L H' ((RD, W.listOf (List.toArray zs) kr) :: (BD, W.listOf (List.toArray bs) kb) :: (MD, W.listOf (List.toArray ms) km) :: rest) → wpAny (model PySem.Challenge.rw_xi0008_01.row.prog w) (lawA L fa cd) (execs lawK (lawEnv L fa cd)) Q E ⟨H', G, D, tk', os⟩) :
    wpAny (model PySem.Challenge.rw_xi0008_01.row.prog w) (lawA L fa cd) (execs lawF (lawEnv L fa cd)) Q E ⟨H, G, D, tk, os⟩ := by
  run_tac sqBegin
  revert X; k_fill; intro X
  delta lawF lawA lawEnv lawScope
  (try dsimp only)
  have hle := figs_len g
  repeat' (first | (k_unfold; (try dsimp only)) | (k_end; wrow_close) | ((fail_if_success (with_reducible show wpAny _ _ (binaryOp Operator.FloorDiv _ _) _ _ _)); (fail_if_success (with_reducible show wpAny _ _ (binaryOp Operator.Mod _ _) _ _ _)); walk1) | ((fail_if_success (with_reducible show wpAny _ _ (binaryOp Operator.FloorDiv _ _) _ _ _)); (fail_if_success (with_reducible show wpAny _ _ (binaryOp Operator.Mod _ _) _ _ _)); dsimp only; walk1) | (leave1; walk_say "STEP leave1"; try dsimp only) | fail "no step")
  refine floordiv_int (by decide) ?_ (Or.inl (PyProof.noPylong_small (by decide)))
  repeat' (first | (k_unfold; (try dsimp only)) | (k_end; wrow_close) | ((fail_if_success (with_reducible show wpAny _ _ (binaryOp Operator.Mod _ _) _ _ _)); walk1) | ((fail_if_success (with_reducible show wpAny _ _ (binaryOp Operator.Mod _ _) _ _ _)); dsimp only; walk1) | (leave1; walk_say "STEP leave1"; try dsimp only) | fail "no step")
  refine mod_int' (by decide) ?_
  have hw : 0 ≤ (picks.fdiv 254).fmod 297 ∧ (picks.fdiv 254).fmod 297 < 297 := by
    rw [Int.fmod_eq_emod_of_nonneg _ (by decide)]; omega
  generalize (picks.fdiv 254).fmod 297 = wd at hw ⊢
  repeat' (first | (k_unfold; (try dsimp only)) | (k_end; wrow_close) | ((fail_if_success (with_reducible show wpAny _ _ (call (.ref _) _) _ _ _)); walk1) | ((fail_if_success (with_reducible show wpAny _ _ (call (.ref _) _) _ _ _)); dsimp only; walk1) | (leave1; walk_say "STEP leave1"; try dsimp only) | fail "no step")
  rename (Fr _ _ _ _) => F1
  rename (News _ _ _ _) => N1
  rename (IntsAre _ (List.drop 37 _)) => hI1
  rw [figs_drop] at hI1
  have hwl : (waysZ (wtsZ g 8)).length ≤ 182 := by rw [← figs_drop, List.length_drop]; omega
  refine' common_call B F1 X N1 T ?hk (List.mem_cons_self) hI1 ?hl ?dp ?un ?_
  case hk => rfl
  case hl => omega
  case dp => decide
  case un => decide
  intro MD ms km h2 tk2 fal1 hms hp1 hs1 off1 F2 N2
  repeat' (first | (k_unfold; (try dsimp only)) | (k_end; wrow_close) | ((fail_if_success (with_reducible show wpAny _ _ (call (.ref _) _) _ _ _)); (fail_if_success (with_reducible show wpAny _ _ (subscriptTail _ _ _ _) _ _ _)); walk1) | ((fail_if_success (with_reducible show wpAny _ _ (call (.ref _) _) _ _ _)); (fail_if_success (with_reducible show wpAny _ _ (subscriptTail _ _ _ _) _ _ _)); dsimp only; walk1) | (leave1; walk_say "STEP leave1"; try dsimp only) | fail "no step")
  rename (Fr _ _ _ _) => F3
  rename (News _ _ _ _) => N3
  (try dsimp only)
  refine kmk_slice_ints (s := ⟨_, _, _, _, _⟩) F3 N3 (News.isList N3 (by k_mem)) .none (.int _ _) hus (kmk_upto hus (by decide)) rfl ?_ (by with_unfolding_all rfl) (by intro _; with_unfolding_all rfl) (kmk_sz hus (by rw [sizeLine_eq]; omega))
  intro SD ss h5 F5 N5 lt5 hI2 hc5 hle5
  repeat' (first | (k_unfold; (try dsimp only)) | (k_end; wrow_close) | ((fail_if_success (with_reducible show wpAny _ _ (call (.ref _) _) _ _ _)); walk1) | ((fail_if_success (with_reducible show wpAny _ _ (call (.ref _) _) _ _ _)); dsimp only; walk1) | (leave1; walk_say "STEP leave1"; try dsimp only) | fail "no step")
  rename (Fr _ _ _ _) => F6
  rename (News _ _ _ _) => N6
  rw [show (37 : Int).toNat = 37 from rfl] at hI2
  rw [figs_take] at hI2
  refine' common_call B F6 X N6 T ?hk2 (List.mem_cons_self) hI2 ?hl2 ?dp2 ?un2 ?_
  case hk2 => rfl
  case hl2 => decide
  case dp2 => decide
  case un2 => decide
  intro BD bs kb h3 tk3 fal2 hbs hp2 hs2 off2 F7 N7
  repeat' (first | (k_unfold; (try dsimp only)) | (k_end; wrow_close) | ((fail_if_success (with_reducible show wpAny _ _ (exec (Stmt.Assign _ (Expr.ListComp _ _ _ _) _) _) _ _ _)); walk1) | ((fail_if_success (with_reducible show wpAny _ _ (exec (Stmt.Assign _ (Expr.ListComp _ _ _ _) _) _) _ _ _)); dsimp only; walk1) | (leave1; walk_say "STEP leave1"; try dsimp only) | fail "no step")
  (try dsimp only)
  rename (Fr _ _ _ _) => F8
  rename (News _ _ _ _) => N8
  refine comp_assign F8 rfl (by with_unfolding_all rfl) (by with_unfolding_all rfl) (by decide) rfl (by decide) rfl rfl ?_
  repeat' (first | (k_unfold; (try dsimp only)) | (k_end; wrow_close) | ((fail_if_success (with_reducible show wpAny _ _ (call (.type "zip") _) _ _ _)); walk1) | ((fail_if_success (with_reducible show wpAny _ _ (call (.type "zip") _) _ _ _)); dsimp only; walk1) | (leave1; walk_say "STEP leave1"; try dsimp only) | fail "no step")
  rename (Fr _ _ _ _) => F9
  rename (News _ _ _ _) => N9
  have hml := hms.length
  have hbl := hbs.length
  rw [common_len] at hml hbl
  refine csrc_zip (Acc := fun i ys => IntsAre ys ((moreZ (commonZ fal1) (commonZ fal2)).take i)) rfl F9 N9 (News.isList N9 (by k_mem)) (News.isList N9 (by k_mem)) (N9 (MD, _) (by k_mem)).2.1 (N9 (BD, _) (by k_mem)).2.1 ?_ rfl rfl rfl (by decide) (by rw [List.take_zero]; exact .nil) ?_ ?_
  · rw [sizeLine_eq]; omega
  · intro i a b zs C m₃ h tk E' ha hb hAcc h1 h2 hn F' N'
    obtain ⟨za, ta, rfl, hza⟩ := IntsAre.at hms i a ha
    obtain ⟨zb, tb, rfl, hzb⟩ := IntsAre.at hbs i b hb
    refine cturn_nil (wpAny_BinOp (comp_name rfl rfl hn h2 (comp_name rfl rfl hn h1 (sub_int ?_))))
    refine ⟨⟨_, _, rfl, fun _ _ e => e⟩, ints_take_snoc hAcc ?_⟩
    rw [moreZ, List.getElem?_zipWith, hza, hzb]
  · rintro s₂ ⟨hh, rfl⟩ zs hzs
    intro RD h10 tk10 F10 N10 off10
    (try dsimp only)
    rw [hml, hbl, Nat.min_self, List.take_of_length_le (by simp [moreZ, common_len])] at hzs
    have off10' := off1_mem off10
    have hm1 := off1
    have hm2 := off2
    refine next h10 tk10 MD BD RD ms bs zs km kb zs.length fal1 fal2 wd _ hw.1 hw.2 hms hbs hzs hp1 hs1 hp2 hs2 (fun p hp => ⟨?_, ?_, ?_⟩) ⟨?_, ?_⟩ F10 (news_sub N10 ?_)
    · exact off1 p (.tail _ (.tail _ hp))
    · exact off2 p (.tail _ (.tail _ (.tail _ (.tail _ hp))))
    · exact off10' p (.tail _ (.tail _ (.tail _ (.tail _ (.tail _ hp)))))
    · exact off10' (MD, _) (.tail _ (.tail _ (.head _)))
    · exact off10' (BD, _) (.head _)
    · intro p hp
      rcases List.mem_cons.mp hp with rfl | hp
      · k_mem
      rcases List.mem_cons.mp hp with rfl | hp
      · k_mem
      rcases List.mem_cons.mp hp with rfl | hp
      · k_mem
      · exact .tail _ (.tail _ (.tail _ (.tail _ (.tail _ (.tail _ hp)))))
  run_tac sqEnd
end
end Mine
end

section
open PySem PySem.W PyProof.Rows PyProof.Rows.LCg PySem.Calls
set_option maxRecDepth 100000
namespace Mine
theorem perm_nonneg {a b : List Int} (hp : a.Perm b) (h : ∀ x ∈ b, 0 ≤ x) : ∀ x ∈ a, 0 ≤ x := fun x hx => h x (hp.mem_iff.mp hx)
theorem sum_nonneg' : ∀ {l : List Int}, (∀ x ∈ l, 0 ≤ x) → 0 ≤ l.sum
  | [], _ => by simp
  | x :: l, h => by
    have h1 := h x List.mem_cons_self
    have h2 := sum_nonneg' (l := l) fun y hy => h y (List.mem_cons_of_mem _ hy)
    rw [List.sum_cons]; omega
noncomputable def capZ : List Int := [14, 27, 40, 53, 66, 79, 92, 104, 116, 127, 138, 148, 158, 167, 176]
noncomputable def mostS : List Int := [14, 13, 13, 13, 13, 13, 13, 12, 12, 11, 11, 10, 10, 9, 9, 8, 8, 7, 7, 6, 6, 5, 5, 4, 4, 3, 3, 2, 2, 2, 2, 1, 1, 1, 1, 1, 1]
theorem most_sorted : mostS.Pairwise (fun a b => b ≤ a) := by decide +kernel
theorem most_perm : mostS.Perm mostZ := List.isPerm_iff.mp (by decide +kernel)
theorem best_eq {fal : List Int} (hp : fal.Perm mostZ) (hs : fal.Pairwise (fun a b => b ≤ a)) : commonZ fal = capZ := by
  have e : fal = mostS := (hp.trans most_perm.symm).eq_of_pairwise (fun a b _ _ h1 h2 => Int.le_antisymm h2 h1) hs most_sorted
  rw [e]; decide +kernel
theorem cap_get {i : Nat} (h : i < 15) : capZ[i]? = some ((cap (i + 1) : Nat) : Int) := by
  have e := cap_list
  have : ((List.range 15).map fun i => cap (i + 1))[i]? = some (cap (i + 1)) := by rw [List.getElem?_map, List.getElem?_range h]; rfl
  rw [e] at this
  have h2 : capZ = ([14, 27, 40, 53, 66, 79, 92, 104, 116, 127, 138, 148, 158, 167, 176] : List Nat).map (fun n : Nat => (n : Int)) := by decide
  rw [h2, List.getElem?_map, this]; rfl
theorem common_get {fal : List Int} {i : Nat} (h : i < 15) : (commonZ fal)[i]? = some (fal.take (i + 1)).sum := by
  rw [commonZ, List.getElem?_map, List.getElem?_range h]; rfl
theorem ways_ge (g : Int) : 15 ≤ (waysZ (wtsZ g 8)).length := by
  rw [ways_len fun k hk => by have := wts_bound g k hk; omega]
  have e : wtsZ g 8 = [lastZ g 1, lastZ g 2, lastZ g 3, lastZ g 4, lastZ g 5, lastZ g 6, lastZ g 7, lastZ g 8] := rfl
  rw [e]
  simp only [List.sum_cons, List.sum_nil]
  have := lastZ_bound g 1; have := lastZ_bound g 2; have := lastZ_bound g 3; have := lastZ_bound g 4
  have := lastZ_bound g 5; have := lastZ_bound g 6; have := lastZ_bound g 7; have := lastZ_bound g 8
  omega
theorem mine_bound {g : Int} {fal : List Int} (hp : fal.Perm (waysZ (wtsZ g 8))) {i : Nat} (h : i < 15) : 0 ≤ (fal.take (i + 1)).sum ∧ (fal.take (i + 1)).sum ≤ cap (i + 1) := by
  constructor
  · refine sum_nonneg' fun x hx => ?_
    exact (ways_figs (List.Sublist.refl _) x (hp.mem_iff.mp (List.mem_of_mem_take hx))).1
  · refine top_le (wts_len8 g) (wts_rises g) (fun k hk => by have := wts_bound g k hk; omega) hp (i + 1) ?_
    rw [hp.length_eq]
    have := ways_ge g; omega
theorem cap_le {i : Nat} (h : i < 15) : (cap (i + 1) : Int) ≤ 176 := by
  have h1 := cap_get h
  have h2 := List.mem_of_getElem? h1
  exact (by decide : ∀ x ∈ capZ, x ≤ 176) _ h2
theorem figs_by {B : Int} {ds : List Int} (hl : ds.length = 15) (h : ∀ i, i < 15 → ∃ x, ds[i]? = some x ∧ 0 ≤ x ∧ x < B) : Figs B ds := by
  intro d hd
  obtain ⟨i, hi⟩ := List.mem_iff_getElem?.mp hd
  have hi15 : i < 15 := by rw [← hl]; exact (List.getElem?_eq_some_iff.mp hi).1
  obtain ⟨x, hx, h0, h1⟩ := h i hi15
  rw [hx] at hi
  exact (Option.some.inj hi) ▸ ⟨h0, h1⟩
theorem mine_figs {g B : Int} {fal : List Int} (hp : fal.Perm (waysZ (wtsZ g 8))) (hB : 512 ≤ B) : Figs B (commonZ fal) :=
  figs_by (common_len fal) fun i hi => ⟨_, common_get hi, (mine_bound hp hi).1, by have := (mine_bound hp hi).2; have := cap_le hi; omega⟩
theorem best_figs {B : Int} (hB : 512 ≤ B) : Figs B capZ := fun d hd => by
  have := (by decide : ∀ x ∈ capZ, 0 ≤ x ∧ x ≤ 176) d hd
  omega
theorem more_len (a b : List Int) (ha : a.length = 15) (hb : b.length = 15) : (moreZ a b).length = 15 := by simp [moreZ, ha, hb]
theorem more_figs {g B : Int} {fal : List Int} (hp : fal.Perm (waysZ (wtsZ g 8))) (hB : 512 ≤ B) : Figs B (moreZ (commonZ fal) capZ) :=
  figs_by (more_len _ _ (common_len fal) rfl) fun i hi => by
    refine ⟨cap (i + 1) - (fal.take (i + 1)).sum, ?_, ?_, ?_⟩
    · rw [moreZ, List.getElem?_zipWith, common_get hi, cap_get hi]
    · have := (mine_bound hp hi).2; omega
    · have := (mine_bound hp hi).1; have := cap_le hi; omega
theorem ofD_more {B : Int} : ∀ {x y : List Int}, x.length = y.length → ofD B (moreZ x y) = ofD B y - ofD B x
  | [], [], _ => by simp [ofD, moreZ]
  | a :: x, b :: y, h => by
    have ih := ofD_more (B := B) (x := x) (y := y) (by simpa using h)
    unfold moreZ at ih ⊢
    simp only [List.zipWith_cons_cons, ofD, ih, Int.mul_sub]; omega
  | [], b :: y, h => by simp at h
  | a :: x, [], h => by simp at h
theorem more_eq {B : Int} {x y l : List Int} {k : Nat} (h : x.length = y.length) (hm : moreZ x y = l ++ List.replicate k 0) : ofD B y - ofD B x = ofD B l := by
  rw [← ofD_more h, hm, ofD_append, ofD_zero, Int.mul_zero, Int.add_zero]
theorem figs_left {B : Int} {a b : List Int} (h : Figs B (a ++ b)) : Figs B a := fun d hd => h d (List.mem_append_left _ hd)
theorem pow_ge {n : Nat} (h : 9 ≤ n) : (512 : Int) ≤ 2 ^ n := by
  obtain ⟨k, rfl⟩ := Nat.exists_eq_add_of_le h
  rw [Int.pow_add]
  have : (1 : Int) ≤ 2 ^ k := Int.pow_pos (by decide)
  have e : (2 : Int) ^ 9 = 512 := by decide
  rw [e]; omega
end Mine
end

section
open PySem PySem.W PyProof.Rows PyProof.Rows.LCg PySem.Calls
set_option maxRecDepth 100000
namespace Mine
noncomputable def PopJ (full : List Int) (RD : Addr) (m : PySem.Str → Option Value) (rest : List (Addr × Obj)) (n : Nat) (m₁ : PySem.Str → Option Value) (news₁ : List (Addr × Obj)) : Prop :=
  ∃ us l kr k, m₁ = m ∧ news₁ = (RD, W.listOf (List.toArray us) kr) :: rest ∧ IntsAre us l ∧ full = l ++ List.replicate k 0 ∧ l.length = n
theorem list_last {prog : Program} {w : World} {A : Around} {E : Value → Shared → Prop} {s : Shared} {value slice : PySem.Expr} {l : Addr} {us : List Value} {ns : List Int} {d : Int} {u : Tok} {Q : Value → Shared → Prop}
    (hl : s.heap.IsList l us.toArray) (hi : IntsAre us (ns ++ [d])) (h : ∀ t, Q (.int d t) s)
    (hs : subscripted slice false (.ref l) (.int (-1) u) = operate [.ref l, .int (-1) u] (getItem (.ref l) (.int (-1) u)) := by with_unfolding_all rfl) :
    wpAny (model prog w) A (subscriptTail value slice (.ref l) (.int (-1) u)) Q E s := by
  have hlen := hi.length
  rw [List.length_append, List.length_singleton] at hlen
  obtain ⟨v, hv⟩ : ∃ v, us[ns.length]? = some v := ⟨_, List.getElem?_eq_getElem (by omega)⟩
  obtain ⟨z, t, rfl, hz⟩ := IntsAre.at hi _ _ hv
  have hz' : z = d := by rw [List.getElem?_append_right (Nat.le_refl _), Nat.sub_self] at hz; exact (Option.some.inj hz).symm
  subst hz'
  refine tail_any hl.typeIs slot_list_getitem.lookup (wpAny_getItem_list_neg hl (by decide) (by rw [List.size_toArray]; omega) (by decide) ?_ (h t)) hs
  rw [List.size_toArray, show ((-1 : Int) + (us.length : Int)).toNat = ns.length by omega]
  simpa using hv
section
variable {w : World} {mean : ExcName → Option Value} {mg mb : PySem.Str → Option Value} {h₀ : Heap} {L fa : Addr} {cd : Value} {G : Array GenState} {D : Drawn} {os : OsState} {Q : Flow → Shared → Prop} {E : Value → Shared → Prop}
set_option maxHeartbeats 4000000 in
theorem law_K {A₀ : Around} (B : Below A₀ h₀ [] h₀) (X : (hd.heap_39 w.params).In h₀) (T : Top topProg LS mean mg mb h₀) {H : Heap} {tk : Nat} {RD : Addr} {kr : Nat} {zs : List Value} {full : List Int} {m0 : PySem.Str → Option Value} {rest : List (Addr × Obj)}
    (F : Fr h₀ L H (fun y => if y = PySem.Str.ofString "more" then some (.ref RD) else m0 y))
    (N : News h₀ L H ((RD, W.listOf (List.toArray zs) kr) :: rest)) (hzs : IntsAre zs full) (hfl : full.length ≤ 15) (hoff : ∀ p ∈ rest, p.1 ≠ RD)
    (hE : PassesOwn (model PySem.Challenge.rw_xi0008_01.row.prog w) (lawA L fa cd) (lawEnv L fa cd) E)
    (next : ∀ H' tk' us l kr k, full = l ++ List.replicate k 0 → Top1 l → IntsAre us l → Fr h₀ L H' (fun y => if y = PySem.Str.ofString "more" then some (.ref RD) else m0 y) →
      News h₀ L H' ((RD, W.listOf (List.toArray us) kr) :: rest) → wpAny (model PySem.Challenge.rw_xi0008_01.row.prog w) (lawA L fa cd) (execs lawM (lawEnv L fa cd)) Q E ⟨H', G, D, tk', os⟩) :
    wpAny (model PySem.Challenge.rw_xi0008_01.row.prog w) (lawA L fa cd) (execs lawK (lawEnv L fa cd)) Q E ⟨H, G, D, tk, os⟩ := by
  run_tac sqBegin
  revert X; k_fill; intro X
  revert hE
  delta lawK lawA lawEnv lawScope
  (try dsimp only)
  intro hE
  repeat' (first | (k_unfold; (try dsimp only)) | (k_end; wrow_close) | ((fail_if_success (with_reducible show wpAny _ _ (exec (Stmt.While _ _ _ _) _) _ _ _)); walk1) | ((fail_if_success (with_reducible show wpAny _ _ (exec (Stmt.While _ _ _ _) _) _ _ _)); dsimp only; walk1) | (leave1; walk_say "STEP leave1"; try dsimp only) | fail "no step")
  refine While_inv2 (PopJ full RD _ rest) F N (n₀ := full.length) ⟨zs, full, kr, 0, rfl, rfl, hzs, by simp, rfl⟩ ?_ hE
  rintro n m₁ news₁ h tk F2 N2 ⟨us, l, kr', k, rfl, rfl, hus, hful, hln⟩
  have hll : l.length ≤ 15 := by have := congrArg List.length hful; simp at this; omega
  rcases List.eq_nil_or_concat l with rfl | ⟨l', d, rfl⟩
  · repeat' (first | (k_unfold; (try dsimp only)) | (k_end; wrow_close) | ((fail_if_success (with_reducible show wpAny _ _ (compareOp _ _ _) _ _ _)); (fail_if_success (with_reducible show wpAny _ _ (newList _) _ _ _)); walk1) | ((fail_if_success (with_reducible show wpAny _ _ (compareOp _ _ _) _ _ _)); (fail_if_success (with_reducible show wpAny _ _ (newList _) _ _ _)); dsimp only; walk1) | (leave1; walk_say "STEP leave1"; try dsimp only) | fail "no step")
    refine newList_K F2 N2 ?_
    intro ED h3 F3 N3 l3
    refine ke_ne_ints (News.isList N3 (by k_mem)) (News.isList N3 (by k_mem)) hus .nil (by ke_room) ?_
    rw [show (!decide (([] : List Int) = [])) = false by decide]
    repeat' (first | (k_unfold; (try dsimp only)) | (k_end; wrow_close) | ((fail_if_success (with_reducible show wpAny _ _ (execs _ _) _ _ _)); walk1) | ((fail_if_success (with_reducible show wpAny _ _ (execs _ _) _ _ _)); dsimp only; walk1) | (leave1; walk_say "STEP leave1"; try dsimp only) | fail "no step")
    (try dsimp only)
    refine next _ _ us [] kr' k hful (by intro d hd; simp at hd) hus F3 ?_
    exact fun p hp => N3 p (.tail _ hp)
  · rw [List.concat_eq_append] at *
    repeat' (first | (k_unfold; (try dsimp only)) | (k_end; wrow_close) | ((fail_if_success (with_reducible show wpAny _ _ (compareOp _ _ _) _ _ _)); (fail_if_success (with_reducible show wpAny _ _ (newList _) _ _ _)); walk1) | ((fail_if_success (with_reducible show wpAny _ _ (compareOp _ _ _) _ _ _)); (fail_if_success (with_reducible show wpAny _ _ (newList _) _ _ _)); dsimp only; walk1) | (leave1; walk_say "STEP leave1"; try dsimp only) | fail "no step")
    refine newList_K F2 N2 ?_
    intro ED h3 F3 N3 l3
    refine ke_ne_ints (News.isList N3 (by k_mem)) (News.isList N3 (by k_mem)) hus .nil (by ke_room) ?_
    rw [show (!decide (l' ++ [d] = [])) = true by simp]
    repeat' (first | (k_unfold; (try dsimp only)) | (k_end; wrow_close) | ((fail_if_success (with_reducible show wpAny _ _ (subscriptTail _ _ _ _) _ _ _)); walk1) | ((fail_if_success (with_reducible show wpAny _ _ (subscriptTail _ _ _ _) _ _ _)); dsimp only; walk1) | (leave1; walk_say "STEP leave1"; try dsimp only) | fail "no step")
    refine list_last (News.isList N3 (by k_mem)) hus ?_
    intro t4
    repeat' (first | (k_unfold; (try dsimp only)) | (k_end; wrow_close) | ((fail_if_success (with_reducible show wpAny _ _ (compareOp _ _ _) _ _ _)); walk1) | ((fail_if_success (with_reducible show wpAny _ _ (compareOp _ _ _) _ _ _)); dsimp only; walk1) | (leave1; walk_say "STEP leave1"; try dsimp only) | fail "no step")
    refine eq_int ?_
    by_cases hd : d = 0
    · rw [show (d == 0) = true by simpa using hd]
      repeat' (first | (k_unfold; (try dsimp only)) | (k_end; wrow_close) | ((fail_if_success (with_reducible show wpAny _ _ (call (.builtin "list.pop") _) _ _ _)); walk1) | ((fail_if_success (with_reducible show wpAny _ _ (call (.builtin "list.pop") _) _ _ _)); dsimp only; walk1) | (leave1; walk_say "STEP leave1"; try dsimp only) | fail "no step")
      subst hd
      have hlt : RD < ED := l3 (RD, _) (.head _)
      have hul := hus.length
      rw [List.length_append, List.length_singleton] at hul hll
      refine kpa_pop F3 N3 (Upd.tail (Nat.ne_of_gt hlt) (Upd.head hoff)) hus (by omega) (by rw [sizeLine_eq]; omega) ?_
      intro h5 t5 F5 N5 hus5
      repeat' (first | (k_unfold; (try dsimp only)) | (k_end; wrow_close) | ((fail_if_success (with_reducible show wpAny _ _ (execs _ _) _ _ _)); walk1) | ((fail_if_success (with_reducible show wpAny _ _ (execs _ _) _ _ _)); dsimp only; walk1) | (leave1; walk_say "STEP leave1"; try dsimp only) | fail "no step")
      refine wpAny_execs_nil ?_
      refine ⟨_, _, _, _, l'.length, rfl, F5, (fun p hp => N5 p (.tail _ hp)), ?_, us.dropLast, l', _, k + 1, rfl, rfl, ?_, ?_, rfl⟩
      · rw [← hln, List.length_append, List.length_singleton]; omega
      · rw [List.dropLast_concat] at hus5; exact hus5
      · rw [hful, List.replicate_succ, List.append_assoc]; rfl
    · rw [show (d == 0) = false by simpa using hd]
      repeat' (first | (k_unfold; (try dsimp only)) | (k_end; wrow_close) | ((fail_if_success (with_reducible show wpAny _ _ (execs _ _) _ _ _)); walk1) | ((fail_if_success (with_reducible show wpAny _ _ (execs _ _) _ _ _)); dsimp only; walk1) | (leave1; walk_say "STEP leave1"; try dsimp only) | fail "no step")
      (try dsimp only)
      refine next _ _ us (l' ++ [d]) kr' k hful (by intro e he; simp at he; exact he ▸ hd) hus F3 ?_
      exact fun p hp => N3 p (.tail _ hp)
  run_tac sqEnd
end
end Mine
end

section
open PySem PySem.W PyProof.Rows PyProof.Rows.LCg PySem.Calls
set_option maxRecDepth 100000
namespace Mine
/-- a code made at the first call of an inner def lies elsewhere than the table -/
theorem tab_ne {h₀ h : Heap} {L c P : Addr} {oc : Obj} {ps vs : Array Value} {x : PySem.Str} {t : Tok} {news : List (Addr × Obj)} (N : News h₀ L h news) (hc : (c, oc) ∈ news) (ht : (P, tabObj ps) ∈ news) (hd : oc.data = .fields vs) (hv : vs[1]? = some (.str x t)) (hp : ∀ y u, ps[1]? ≠ some (.str y u)) : c ≠ P := by
  rintro rfl
  have e := (N _ hc).1.symm.trans (N _ ht).1
  have e2 : oc = tabObj ps := Option.some.inj e
  subst e2
  have e3 : ps = vs := by injection hd
  subst e3
  exact hp _ _ hv
section
variable {w : World} {mean : ExcName → Option Value} {mg mb : PySem.Str → Option Value} {h₀ : Heap} {L fa : Addr} {cd : Value} {G : Array GenState} {D : Drawn} {os : OsState} {Q : Flow → Shared → Prop} {E : Value → Shared → Prop}
set_option maxHeartbeats 4000000 in
theorem law_M {A₀ : Around} (B : Below A₀ h₀ [] h₀) (X : (hd.heap_39 w.params).In h₀) (T : Top topProg LS mean mg mb h₀) {H : Heap} {tk : Nat} {g wd : Int} {tw : Tok} {RD BD MD : Addr} {kr kb km : Nat} {us bs ms : List Value} {l fal1 fal2 : List Int} {k : Nat} {m0 : PySem.Str → Option Value} {rest : List (Addr × Obj)}
    (F : Fr h₀ L H (fun y => if y = PySem.Str.ofString "more" then some (.ref RD) else if y = PySem.Str.ofString "best" then some (.ref BD) else if y = PySem.Str.ofString "mine" then some (.ref MD) else if y = PySem.Str.ofString "width" then some (.int (4 + wd) tw) else m0 y))
    (N : News h₀ L H ((RD, W.listOf (List.toArray us) kr) :: (BD, W.listOf (List.toArray bs) kb) :: (MD, W.listOf (List.toArray ms) km) :: (44, tabObj #[]) :: (37, tabObj #[]) :: rest))
    (hoff : ∀ p ∈ (44, tabObj #[]) :: (37, tabObj #[]) :: rest, p.1 ≠ MD ∧ p.1 ≠ BD ∧ p.1 ≠ RD) (hrest : ∀ p ∈ rest, p.1 ≠ 44 ∧ p.1 ≠ 37) (hd2 : MD ≠ RD ∧ BD ≠ RD)
    (CH1 : CodeHd h₀ 48 44) (CH2 : CodeHd h₀ 41 37)
    (hw0 : 0 ≤ wd) (hw1 : wd < 297) (hms : IntsAre ms (commonZ fal1)) (hbs : IntsAre bs (commonZ fal2)) (hus : IntsAre us l) (hp1 : fal1.Perm (waysZ (wtsZ g 8))) (hp2 : fal2.Perm mostZ) (hs2 : fal2.Pairwise (fun a b => b ≤ a))
    (hfull : moreZ (commonZ fal1) (commonZ fal2) = l ++ List.replicate k 0) (ht1 : Top1 l)
    (next : ∀ H' tk' c9 oc9 vs9 u9 ps44, oc9.data = .fields vs9 → vs9[1]? = some (.str (PySem.Str.ofString "_int2digits.<locals>.inner") u9) → c9 ≠ 37 →
      Fr h₀ L H' (fun y => if y = PySem.Str.ofString "more" then some (.ref RD) else if y = PySem.Str.ofString "best" then some (.ref BD) else if y = PySem.Str.ofString "mine" then some (.ref MD) else if y = PySem.Str.ofString "width" then some (.int (4 + wd) tw) else m0 y) →
      News h₀ L H' ((c9, oc9) :: (37, tabObj #[rawInt 41, rawInt 4, .ref c9]) :: (44, tabObj ps44) :: rest) → wpAny (model PySem.Challenge.rw_xi0008_01.row.prog w) (lawA L fa cd) (execs lawG (lawEnv L fa cd)) Q E ⟨H', G, D, tk', os⟩) :
    wpAny (model PySem.Challenge.rw_xi0008_01.row.prog w) (lawA L fa cd) (execs lawM (lawEnv L fa cd)) Q E ⟨H, G, D, tk, os⟩ := by
  run_tac sqBegin
  revert X; k_fill; intro X
  delta lawM lawA lawEnv lawScope
  (try dsimp only)
  have hbest := best_eq hp2 hs2
  rw [hbest] at hbs hfull
  have hB : (512 : Int) ≤ 2 ^ (4 + wd + 5).toNat := pow_ge (by omega)
  have hf1 := mine_figs hp1 hB
  have hf2 := best_figs hB
  have hf3 : Figs (2 ^ (4 + wd + 5).toNat) l := figs_left (hfull ▸ more_figs hp1 hB)
  have hsub := more_eq (B := 2 ^ (4 + wd + 5).toNat) (common_len fal1) hfull
  have hll : l.length ≤ 15 := by
    have e := congrArg List.length hfull
    rw [more_len _ _ (common_len fal1) rfl, List.length_append] at e
    omega
  repeat' (first | (k_unfold; (try dsimp only)) | (k_end; wrow_close) | ((fail_if_success (with_reducible show wpAny _ _ (call (.ref _) _) _ _ _)); walk1) | ((fail_if_success (with_reducible show wpAny _ _ (call (.ref _) _) _ _ _)); dsimp only; walk1) | (leave1; walk_say "STEP leave1"; try dsimp only) | fail "no step")
  rename (Fr _ _ _ _) => F1
  rename (News _ _ _ _) => N1
  have o44 := hoff (44, tabObj #[]) (.head _)
  have o37 := hoff (37, tabObj #[]) (.tail _ (.head _))
  have N2 : News h₀ L H ((44, tabObj #[]) :: (RD, W.listOf (List.toArray us) kr) :: (BD, W.listOf (List.toArray bs) kb) :: (MD, W.listOf (List.toArray ms) km) :: (37, tabObj #[]) :: rest) := news_sub N1 (by
    intro p hp
    simp only [List.mem_cons] at hp ⊢
    rcases hp with h | h | h | h | h | h <;> simp [h])
  refine' d2i_call (rest := (RD, W.listOf (List.toArray us) kr) :: (BD, W.listOf (List.toArray bs) kb) :: (MD, W.listOf (List.toArray ms) km) :: (37, tabObj #[]) :: rest) B F1 X N2 T ?hk rfl (Or.inl rfl) ?hr CH1 ?hm hbs ?hlen ?hn ?hn2 hf2 ?dp ?un ?_
  case hk => rfl
  case hr =>
    intro q hq
    rcases List.mem_cons.mp hq with rfl | hq
    · exact Ne.symm o44.2.2
    rcases List.mem_cons.mp hq with rfl | hq
    · exact Ne.symm o44.2.1
    rcases List.mem_cons.mp hq with rfl | hq
    · exact Ne.symm o44.1
    rcases List.mem_cons.mp hq with rfl | hq
    · decide
    · exact (hrest q hq).1
  case hm => k_mem
  case hlen => decide
  case hn => omega
  case hn2 => omega
  case dp => decide
  case un => decide
  intro t2 h2 tk2 c2 oc2 vs2 u2 hd2' hv2 F3 N3
  repeat' (first | (k_unfold; (try dsimp only)) | (k_end; wrow_close) | ((fail_if_success (with_reducible show wpAny _ _ (call (.ref _) _) _ _ _)); walk1) | ((fail_if_success (with_reducible show wpAny _ _ (call (.ref _) _) _ _ _)); dsimp only; walk1) | (leave1; walk_say "STEP leave1"; try dsimp only) | fail "no step")
  rename (Fr _ _ _ _) => F4
  rename (News _ _ _ _) => N4
  have n44 : c2 ≠ 44 := tab_ne N4 (by k_mem) (by k_mem) hd2' hv2 (by intro y u e; simp [rawInt] at e)
  have n37 : c2 ≠ 37 := tab_ne (ps := #[]) N4 (by k_mem) (by k_mem) hd2' hv2 (by intro y u e; simp at e)
  have N5 : News h₀ L _ ((44, tabObj #[rawInt 56, rawInt 4, .ref c2]) :: (c2, oc2) :: (RD, W.listOf (List.toArray us) kr) :: (BD, W.listOf (List.toArray bs) kb) :: (MD, W.listOf (List.toArray ms) km) :: (37, tabObj #[]) :: rest) := news_sub N4 (by
    intro p hp
    simp only [List.mem_cons] at hp ⊢
    rcases hp with h | h | h | h | h | h | h <;> simp [h])
  refine' d2i_call (rest := (c2, oc2) :: (RD, W.listOf (List.toArray us) kr) :: (BD, W.listOf (List.toArray bs) kb) :: (MD, W.listOf (List.toArray ms) km) :: (37, tabObj #[]) :: rest) B F4 X N5 T ?hk3 rfl (Or.inr ⟨c2, oc2, vs2, u2, rfl, List.mem_cons_self, hd2', hv2⟩) ?hr3 CH1 ?hm3 hms ?hlen3 ?hn3 ?hn23 hf1 ?dp3 ?un3 ?_
  case hk3 => rfl
  case hr3 =>
    intro q hq
    rcases List.mem_cons.mp hq with rfl | hq
    · exact n44
    rcases List.mem_cons.mp hq with rfl | hq
    · exact Ne.symm o44.2.2
    rcases List.mem_cons.mp hq with rfl | hq
    · exact Ne.symm o44.2.1
    rcases List.mem_cons.mp hq with rfl | hq
    · exact Ne.symm o44.1
    rcases List.mem_cons.mp hq with rfl | hq
    · decide
    · exact (hrest q hq).1
  case hm3 => k_mem
  case hlen3 => rw [common_len]; decide
  case hn3 => omega
  case hn23 => omega
  case dp3 => decide
  case un3 => decide
  intro t6 h6 tk6 c6 oc6 vs6 u6 hd6 hv6 F6 N6
  repeat' (first | (k_unfold; (try dsimp only)) | (k_end; wrow_close) | ((fail_if_success (with_reducible show wpAny _ _ (call (.ref _) _) _ _ _)); walk1) | ((fail_if_success (with_reducible show wpAny _ _ (call (.ref _) _) _ _ _)); dsimp only; walk1) | (leave1; walk_say "STEP leave1"; try dsimp only) | fail "no step")
  rename (Fr _ _ _ _) => F7
  rename (News _ _ _ _) => N7
  have m37 : c6 ≠ 37 := tab_ne (ps := #[]) N7 (by k_mem) (by k_mem) hd6 hv6 (by intro y u e; simp at e)
  have N8 : News h₀ L _ ((37, tabObj #[]) :: (RD, W.listOf (List.toArray us) kr) :: (44, tabObj #[rawInt 56, rawInt 4, .ref c6]) :: rest) := news_sub N7 (by
    intro p hp
    simp only [List.mem_cons] at hp ⊢
    rcases hp with h | h | h | h <;> simp [h])
  refine' i2d_call (rest := (RD, W.listOf (List.toArray us) kr) :: (44, tabObj #[rawInt 56, rawInt 4, .ref c6]) :: rest) B F7 X N8 T ?hk4 rfl (Or.inl rfl) ?hr4 CH2 (ds := l) hsub ?hlen4 ?hn4 ?hn24 hf3 ht1 ?dp4 ?un4 ?_
  case hk4 => rfl
  case hr4 =>
    intro q hq
    rcases List.mem_cons.mp hq with rfl | hq
    · exact Ne.symm o37.2.2
    rcases List.mem_cons.mp hq with rfl | hq
    · exact (by decide : (44 : Nat) ≠ 37)
    · exact (hrest q hq).2
  case hlen4 => omega
  case hn4 => omega
  case hn24 => omega
  case dp4 => decide
  case un4 => decide
  intro D9 us9 cap9 h9 tk9 c9 oc9 vs9 u9 hus9 hd9 hv9 F9 N9
  repeat' (first | (k_unfold; (try dsimp only)) | (k_end; wrow_close) | ((fail_if_success (with_reducible show wpAny _ _ (compareOp _ _ _) _ _ _)); walk1) | ((fail_if_success (with_reducible show wpAny _ _ (compareOp _ _ _) _ _ _)); dsimp only; walk1) | (leave1; walk_say "STEP leave1"; try dsimp only) | fail "no step")
  rename (Fr _ _ _ _) => F10
  rename (News _ _ _ _) => N10
  refine ke_ne_ints (News.isList N10 (by k_mem)) (News.isList N10 (by k_mem)) hus9 hus (by ke_room) ?_
  rw [show (!decide (l = l)) = false by simp]
  repeat' (first | (k_unfold; (try dsimp only)) | (k_end; wrow_close) | ((fail_if_success (with_reducible show wpAny _ _ (execs _ _) _ _ _)); walk1) | ((fail_if_success (with_reducible show wpAny _ _ (execs _ _) _ _ _)); dsimp only; walk1) | (leave1; walk_say "STEP leave1"; try dsimp only) | fail "no step")
  refine wpAny_execs_nil ?_
  (try dsimp only)
  have k37 : c9 ≠ 37 := tab_ne N10 (by k_mem) (by k_mem) hd9 hv9 (by intro y u e; simp [rawInt] at e)
  refine next _ _ c9 oc9 vs9 u9 #[rawInt 56, rawInt 4, .ref c6] hd9 hv9 k37 F10 (news_sub N10 ?_)
  intro p hp
  rcases List.mem_cons.mp hp with rfl | hp
  · k_mem
  rcases List.mem_cons.mp hp with rfl | hp
  · k_mem
  · exact .tail _ (.tail _ (.tail _ (.tail _ hp)))
  run_tac sqEnd
end
end Mine
end

section
open PySem PySem.W PyProof.Rows PyProof.Rows.LCg PySem.Calls
set_option maxRecDepth 100000
namespace Mine
/-- the items at the places that b tells -/
noncomputable def selZ (b : Nat → Bool) (ws : List Int) : Nat → List Int
  | 0 => []
  | i + 1 => selZ b ws i ++ (if b i = true then [ws.getD i 0] else [])
theorem sel_sub (b : Nat → Bool) (ws : List Int) : ∀ i, i ≤ ws.length → (selZ b ws i).Sublist (ws.take i)
  | 0, _ => by simp [selZ]
  | i + 1, h => by
    have ih := sel_sub b ws i (by omega)
    have e : ws.take (i + 1) = ws.take i ++ [ws.getD i 0] := by
      rw [List.take_add_one, List.getD_eq_getElem?_getD, List.getElem?_eq_getElem (by omega)]; rfl
    rw [e]
    unfold selZ
    refine ih.append ?_
    split
    · exact List.Sublist.refl _
    · exact List.nil_sublist _
theorem one_normZ {α β : Type} [DecidableEq α] {a : α} {A P : β} {m : α → β} : (fun y => if y = a then A else if y = a then P else m y) = fun y => if y = a then A else m y := by
  funext y
  by_cases h : y = a
  · simp only [if_pos h]
  · simp only [if_neg h]
section
variable {w : World} {mean : ExcName → Option Value} {mg mb : PySem.Str → Option Value} {h₀ : Heap} {L fa : Addr} {cd : Value} {G : Array GenState} {D : Drawn} {os : OsState} {Q : Flow → Shared → Prop} {E : Value → Shared → Prop}
set_option maxHeartbeats 4000000 in
theorem law_G {A₀ : Around} (B : Below A₀ h₀ [] h₀) (X : (hd.heap_39 w.params).In h₀) (T : Top topProg LS mean mg mb h₀) {H : Heap} {tk : Nat} {g picks : Int} {tp : Tok} {lw : Addr} {kw : Nat} {ws : List Value} {m0 : PySem.Str → Option Value} {oS oM : Obj} {rest : List (Addr × Obj)}
    (F : Fr h₀ L H (fun y => if y = PySem.Str.ofString "weights" then some (.ref lw) else if y = PySem.Str.ofString "picks" then some (.int picks tp) else m0 y))
    (N : News h₀ L H ((lw, W.listOf (List.toArray ws) kw) :: (L + 1 + 1, oS) :: (L + 1, oM) :: rest)) (hws : IntsAre ws (wtsZ g 8)) (hp0 : 0 ≤ picks)
    (hS : ∃ v, oS.data = .cell v) (hM : ∃ v, oM.data = .cell v) (hlw : L + 1 + 1 < lw ∧ L + 1 < lw) (hrest : ∀ p ∈ rest, p.1 ≠ L + 1 ∧ p.1 ≠ L + 1 + 1)
    (next : ∀ H' tk' S R aS aR vS vR kS kR oS', S.Sublist (wtsZ g 8) → R.Sublist (wtsZ g 8) → R.sum ≤ S.sum → IntsAre vS S → IntsAre vR R → oS'.data = .cell (some (.ref aS)) → (∀ p ∈ rest, p.1 ≠ aS ∧ p.1 ≠ aR) →
      Fr h₀ L H' (fun y => if y = PySem.Str.ofString "rest" then some (.ref aR) else if y = PySem.Str.ofString "weights" then some (.ref lw) else if y = PySem.Str.ofString "picks" then some (.int picks tp) else m0 y) →
      News h₀ L H' ((aS, W.listOf (List.toArray vS) kS) :: (aR, W.listOf (List.toArray vR) kR) :: (L + 1 + 1, oS') :: rest) → wpAny (model PySem.Challenge.rw_xi0008_01.row.prog w) (lawA L fa cd) (execs lawZ (lawEnv L fa cd)) Q E ⟨H', G, D, tk', os⟩) :
    wpAny (model PySem.Challenge.rw_xi0008_01.row.prog w) (lawA L fa cd) (execs lawG (lawEnv L fa cd)) Q E ⟨H, G, D, tk, os⟩ := by
  run_tac sqBegin
  revert X; k_fill; intro X
  delta lawG lawA lawEnv lawScope
  (try dsimp only)
  obtain ⟨vS, hS⟩ := hS
  obtain ⟨vM, hM⟩ := hM
  repeat' (first | (k_unfold; (try dsimp only)) | (k_end; wrow_close) | ((fail_if_success (with_reducible show wpAny _ _ (binaryOp Operator.Mod _ _) _ _ _)); walk1) | ((fail_if_success (with_reducible show wpAny _ _ (binaryOp Operator.Mod _ _) _ _ _)); dsimp only; walk1) | (leave1; walk_say "STEP leave1"; try dsimp only) | fail "no step")
  refine mod_int' (by decide) ?_
  have hm : 0 ≤ picks.fmod 254 ∧ picks.fmod 254 < 254 := by
    rw [Int.fmod_eq_emod_of_nonneg _ (by decide)]; omega
  generalize picks.fmod 254 = md at hm ⊢
  repeat' (first | (k_unfold; (try dsimp only)) | (k_end; wrow_close) | ((fail_if_success (with_reducible show wpAny _ _ (exec (Stmt.Assign _ (Expr.ListComp _ _ _ _) _) _) _ _ _)); walk1) | ((fail_if_success (with_reducible show wpAny _ _ (exec (Stmt.Assign _ (Expr.ListComp _ _ _ _) _) _) _ _ _)); dsimp only; walk1) | (leave1; walk_say "STEP leave1"; try dsimp only) | fail "no step")
  refine stCN (own := [(lw, W.listOf (List.toArray ws) kw), (L + 1 + 1, oS)]) F N rfl hM ?_ ?_ ?_
  · intro p hp
    rcases List.mem_cons.mp hp with rfl | hp
    · exact Nat.ne_of_gt hlw.2
    · rw [List.mem_singleton.mp hp]; exact Nat.succ_ne_self _
  · exact fun p hp => (hrest p hp).1
  intro h1 oM1 F1 N1 hM1
  (try simp only [List.cons_append, List.nil_append] at N1)
  (try dsimp only)
  repeat' (first | (k_unfold; (try dsimp only)) | (k_end; wrow_close) | ((fail_if_success (with_reducible show wpAny _ _ (exec (Stmt.Assign _ _ _) _) _ _ _)); walk1) | ((fail_if_success (with_reducible show wpAny _ _ (exec (Stmt.Assign _ _ _) _) _ _ _)); dsimp only; walk1) | (leave1; walk_say "STEP leave1"; try dsimp only) | fail "no step")
  refine wpAny_Assign_Name ?_ (by with_unfolding_all rfl)
  rename (Fr _ _ _ _) => F2
  rename (News _ _ _ _) => N2
  (try simp only [List.cons_append, List.nil_append] at N2)
  refine comp_eval F2 (by with_unfolding_all rfl) (by decide) rfl (by decide) ?_
  repeat' (first | (k_unfold; (try dsimp only)) | (k_end; wrow_close) | ((fail_if_success (with_reducible show wpAny _ _ (call (.type "enumerate") _) _ _ _)); walk1) | ((fail_if_success (with_reducible show wpAny _ _ (call (.type "enumerate") _) _ _ _)); dsimp only; walk1) | (leave1; walk_say "STEP leave1"; try dsimp only) | fail "no step")
  rename (Fr _ _ _ _) => F3
  rename (News _ _ _ _) => N3
  (try simp only [List.cons_append, List.nil_append] at N3)
  have hwl := hws.length
  rw [wts_len8] at hwl
  refine csrc_enum (Acc := fun i ys => IntsAre ys (selZ (fun i => Builtin.bitAnd ((1 + md).fdiv (2 ^ (i : Int).toNat)) 1 == 1) (wtsZ g 8) i)) rfl F3 N3 (News.isList N3 (by k_mem)) (N3 (lw, _) (by k_mem)).2.1 (by rw [sizeLine_eq]; omega) rfl rfl rfl (by decide) .nil ?_ ?_
  · intro i t b zs C m₃ h tk E' hb hAcc h1 h2 hn F4 N4
    obtain ⟨zb, tb, rfl, hzb⟩ := IntsAre.at hws i b hb
    refine cturn_one ?_
    repeat' (first | (k_unfold; (try dsimp only)) | (k_end; wrow_close) | ((fail_if_success (with_reducible show wpAny _ _ (eval (Expr.Name _ _) _) _ _ _)); walk1) | ((fail_if_success (with_reducible show wpAny _ _ (eval (Expr.Name _ _) _) _ _ _)); dsimp only; walk1) | (leave1; walk_say "STEP leave1"; try dsimp only) | fail "no step")
    refine lcf_cell N4 rfl (by k_mem) hM1 ?_ rfl rfl
    repeat' (first | (k_unfold; (try dsimp only)) | (k_end; wrow_close) | ((fail_if_success (with_reducible show wpAny _ _ (eval (Expr.Name _ _) _) _ _ _)); walk1) | ((fail_if_success (with_reducible show wpAny _ _ (eval (Expr.Name _ _) _) _ _ _)); dsimp only; walk1) | (leave1; walk_say "STEP leave1"; try dsimp only) | fail "no step")
    refine comp_name rfl rfl hn h1 ?_
    repeat' (first | (k_unfold; (try dsimp only)) | (k_end; wrow_close) | ((fail_if_success (with_reducible show wpAny _ _ (binaryOp Operator.RShift _ _) _ _ _)); walk1) | ((fail_if_success (with_reducible show wpAny _ _ (binaryOp Operator.RShift _ _) _ _ _)); dsimp only; walk1) | (leave1; walk_say "STEP leave1"; try dsimp only) | fail "no step")
    refine rshift_int (by omega) ?_
    repeat' (first | (k_unfold; (try dsimp only)) | (k_end; wrow_close) | ((fail_if_success (with_reducible show wpAny _ _ (binaryOp _ _ _) _ _ _)); walk1) | ((fail_if_success (with_reducible show wpAny _ _ (binaryOp _ _ _) _ _ _)); dsimp only; walk1) | (leave1; walk_say "STEP leave1"; try dsimp only) | fail "no step")
    refine and_int ?_
    repeat' (first | (k_unfold; (try dsimp only)) | (k_end; wrow_close) | ((fail_if_success (with_reducible show wpAny _ _ (compareOp _ _ _) _ _ _)); walk1) | ((fail_if_success (with_reducible show wpAny _ _ (compareOp _ _ _) _ _ _)); dsimp only; walk1) | (leave1; walk_say "STEP leave1"; try dsimp only) | fail "no step")
    refine eq_int ?_
    repeat' (first | (k_unfold; (try dsimp only)) | (k_end; wrow_close) | ((fail_if_success (with_reducible show wpAny _ _ (truthy _) _ _ _)); walk1) | ((fail_if_success (with_reducible show wpAny _ _ (truthy _) _ _ _)); dsimp only; walk1) | (leave1; walk_say "STEP leave1"; try dsimp only) | fail "no step")
    refine wpAny_truthy_bool ?_
    refine ⟨⟨_, _, rfl, fun _ _ e => e⟩, ?_⟩
    split
    · rename_i hbit
      refine comp_name rfl rfl hn h2 ⟨⟨_, _, rfl, fun _ _ e => e⟩, ?_⟩
      unfold selZ
      rw [if_pos hbit, List.getD_eq_getElem?_getD, hzb]
      exact IntsAre.append hAcc (.cons _ _ .nil)
    · rename_i hbit
      unfold selZ
      rw [if_neg hbit, List.append_nil]
      exact hAcc
  · rintro s₂ ⟨hh, rfl⟩ ss hss
    intro SD h5 tk5 F5 N5 off5
    (try dsimp only)
    rw [hwl] at hss
    have off5' := off1_mem off5
    have subS := sel_sub (fun i => Builtin.bitAnd ((1 + md).fdiv (2 ^ (i : Int).toNat)) 1 == 1) (wtsZ g 8) 8 (by rw [wts_len8]; exact Nat.le_refl _)
    rw [List.take_of_length_le (by rw [wts_len8]; exact Nat.le_refl _)] at subS
    generalize selZ (fun i => Builtin.bitAnd ((1 + md).fdiv (2 ^ (i : Int).toNat)) 1 == 1) (wtsZ g 8) 8 = sel at hss subS
    refine stCN (own := [(SD, lst ss), (lw, W.listOf (List.toArray ws) kw)]) F5 N5 rfl hS ?_ ?_ ?_
    · intro p hp
      rcases List.mem_cons.mp hp with rfl | hp
      · exact Ne.symm (off5' (L + 1 + 1, oS) (.tail _ (.head _)))
      · rw [List.mem_singleton.mp hp]; exact Nat.ne_of_gt hlw.1
    · intro p hp
      rcases List.mem_cons.mp hp with rfl | hp
      · exact Ne.symm (Nat.succ_ne_self _)
      · exact (hrest p hp).2
    intro h6 oS6 F6 N6 hS6
    (try simp only [List.cons_append, List.nil_append] at N6)
    (try dsimp only)
    repeat' (first | (k_unfold; (try dsimp only)) | (k_end; wrow_close) | ((fail_if_success (with_reducible show wpAny _ _ (exec (Stmt.Assign _ _ _) _) _ _ _)); walk1) | ((fail_if_success (with_reducible show wpAny _ _ (exec (Stmt.Assign _ _ _) _) _ _ _)); dsimp only; walk1) | (leave1; walk_say "STEP leave1"; try dsimp only) | fail "no step")
    refine comp_assign F6 rfl (by with_unfolding_all rfl) (by with_unfolding_all rfl) (by decide) rfl (by decide) rfl rfl ?_
    repeat' (first | (k_unfold; (try dsimp only)) | (k_end; wrow_close) | ((fail_if_success (with_reducible show wpAny _ _ (pyIter _) _ _ _)); walk1) | ((fail_if_success (with_reducible show wpAny _ _ (pyIter _) _ _ _)); dsimp only; walk1) | (leave1; walk_say "STEP leave1"; try dsimp only) | fail "no step")
    rename (Fr _ _ _ _) => F7
    rename (News _ _ _ _) => N7
    refine csrc_list (Acc := fun i ys => IntsAre ys (selZ (fun i => !(sel.any (· == (wtsZ g 8).getD i 0))) (wtsZ g 8) i)) rfl F7 N7 (News.isList N7 (by k_mem)) (N7 (lw, _) (by k_mem)).2.1 (by rw [sizeLine_eq]; omega) rfl rfl .nil ?_ ?_
    · intro i b zs C m₃ h tk E' hb hAcc h2 hn F8 N8
      obtain ⟨zb, tb, rfl, hzb⟩ := IntsAre.at hws i b hb
      refine cturn_one ?_
      repeat' (first | (k_unfold; (try dsimp only)) | (k_end; wrow_close) | ((fail_if_success (with_reducible show wpAny _ _ (eval (Expr.Name _ _) _) _ _ _)); walk1) | ((fail_if_success (with_reducible show wpAny _ _ (eval (Expr.Name _ _) _) _ _ _)); dsimp only; walk1) | (leave1; walk_say "STEP leave1"; try dsimp only) | fail "no step")
      refine comp_name rfl rfl hn h2 ?_
      repeat' (first | (k_unfold; (try dsimp only)) | (k_end; wrow_close) | ((fail_if_success (with_reducible show wpAny _ _ (eval (Expr.Name _ _) _) _ _ _)); walk1) | ((fail_if_success (with_reducible show wpAny _ _ (eval (Expr.Name _ _) _) _ _ _)); dsimp only; walk1) | (leave1; walk_say "STEP leave1"; try dsimp only) | fail "no step")
      refine lcf_cell N8 rfl (by k_mem) hS6 ?_ rfl rfl
      repeat' (first | (k_unfold; (try dsimp only)) | (k_end; wrow_close) | ((fail_if_success (with_reducible show wpAny _ _ (compareOp _ _ _) _ _ _)); walk1) | ((fail_if_success (with_reducible show wpAny _ _ (compareOp _ _ _) _ _ _)); dsimp only; walk1) | (leave1; walk_say "STEP leave1"; try dsimp only) | fail "no step")
      refine notin_list_ints (News.isList N8 (by k_mem)) hss ?_
      repeat' (first | (k_unfold; (try dsimp only)) | (k_end; wrow_close) | ((fail_if_success (with_reducible show wpAny _ _ (truthy _) _ _ _)); walk1) | ((fail_if_success (with_reducible show wpAny _ _ (truthy _) _ _ _)); dsimp only; walk1) | (leave1; walk_say "STEP leave1"; try dsimp only) | fail "no step")
      refine wpAny_truthy_bool ?_
      refine ⟨⟨_, _, rfl, fun _ _ e => e⟩, ?_⟩
      have hgd : (wtsZ g 8).getD i 0 = zb := by rw [List.getD_eq_getElem?_getD, hzb]; rfl
      split
      · rename_i hbit
        refine comp_name rfl rfl hn h2 ⟨⟨_, _, rfl, fun _ _ e => e⟩, ?_⟩
        unfold selZ
        rw [hgd, if_pos hbit]
        exact IntsAre.append hAcc (.cons _ _ .nil)
      · rename_i hbit
        unfold selZ
        rw [hgd, if_neg hbit, List.append_nil]
        exact hAcc
    · rintro s₂ ⟨hh, rfl⟩ rs hrs
      intro RD h9 tk9 F9 N9 off9
      (try dsimp only)
      rw [hwl] at hrs
      have off9' := off1_mem off9
      have subR := sel_sub (fun i => !(sel.any (· == (wtsZ g 8).getD i 0))) (wtsZ g 8) 8 (by rw [wts_len8]; exact Nat.le_refl _)
      rw [List.take_of_length_le (by rw [wts_len8]; exact Nat.le_refl _)] at subR
      generalize selZ (fun i => !(sel.any (· == (wtsZ g 8).getD i 0))) (wtsZ g 8) 8 = res at hrs subR
      repeat' (first | (k_unfold; (try dsimp only)) | (k_end; wrow_close) | ((fail_if_success (with_reducible show wpAny _ _ (call (.builtin "sum") _) _ _ _)); walk1) | ((fail_if_success (with_reducible show wpAny _ _ (call (.builtin "sum") _) _ _ _)); dsimp only; walk1) | (leave1; walk_say "STEP leave1"; try dsimp only) | fail "no step")
      refine sum_keep rfl (News.isList N9 (by k_mem)) hss (fun h10 tk10 t10 hk10 => ?_)
      have F10 := F9.keeps hk10
      have N10 := N9.grown hk10
      clear F9 N9
      repeat' (first | (k_unfold; (try dsimp only)) | (k_end; wrow_close) | ((fail_if_success (with_reducible show wpAny _ _ (call (.builtin "sum") _) _ _ _)); walk1) | ((fail_if_success (with_reducible show wpAny _ _ (call (.builtin "sum") _) _ _ _)); dsimp only; walk1) | (leave1; walk_say "STEP leave1"; try dsimp only) | fail "no step")
      refine sum_keep rfl (News.isList N10 (by k_mem)) hrs (fun h11 tk11 t11 hk11 => ?_)
      have F11 := F10.keeps hk11
      have N11 := N10.grown hk11
      clear F10 N10
      repeat' (first | (k_unfold; (try dsimp only)) | (k_end; wrow_close) | ((fail_if_success (with_reducible show wpAny _ _ (compareOp _ _ _) _ _ _)); walk1) | ((fail_if_success (with_reducible show wpAny _ _ (compareOp _ _ _) _ _ _)); dsimp only; walk1) | (leave1; walk_say "STEP leave1"; try dsimp only) | fail "no step")
      refine lt_int ?_
      refine wpAny_truthy_bool ?_
      by_cases hlt : sel.sum < res.sum
      · rw [if_pos (by simpa using hlt)]
        repeat' (first | (k_unfold; (try dsimp only)) | (k_end; wrow_close) | ((fail_if_success (with_reducible show wpAny _ _ (storeName _ _ _) _ _ _)); walk1) | ((fail_if_success (with_reducible show wpAny _ _ (storeName _ _ _) _ _ _)); dsimp only; walk1) | (leave1; walk_say "STEP leave1"; try dsimp only) | fail "no step")
        rename (Fr _ _ _ _) => F12
        rename (News _ _ _ _) => N12
        have N13 : News h₀ L _ ([(RD, lst rs), (SD, lst ss), (lw, W.listOf (List.toArray ws) kw)] ++ (L + 1 + 1, oS6) :: (L + 1, oM1) :: rest) := fun p hp => N12 p (.tail _ hp)
        refine stCN F12 N13 rfl hS6 ?_ ?_ ?_
        · intro p hp
          rcases List.mem_cons.mp hp with rfl | hp
          · exact Ne.symm (off9' (L + 1 + 1, oS6) (.tail _ (.tail _ (.head _))))
          rcases List.mem_cons.mp hp with rfl | hp
          · exact Ne.symm (off5' (L + 1 + 1, oS) (.tail _ (.head _)))
          · rw [List.mem_singleton.mp hp]; exact Nat.ne_of_gt hlw.1
        · intro p hp
          rcases List.mem_cons.mp hp with rfl | hp
          · exact Ne.symm (Nat.succ_ne_self _)
          · exact (hrest p hp).2
        intro h14 oS14 F14 N14 hS14
        (try simp only [List.cons_append, List.nil_append] at N14)
        (try dsimp only)
        repeat' (first | (k_unfold; (try dsimp only)) | (k_end; wrow_close) | ((fail_if_success (with_reducible show wpAny _ _ (execs _ _) _ _ _)); walk1) | ((fail_if_success (with_reducible show wpAny _ _ (execs _ _) _ _ _)); dsimp only; walk1) | (leave1; walk_say "STEP leave1"; try dsimp only) | fail "no step")
        refine wpAny_execs_nil ?_
        (try dsimp only)
        rename (Fr _ _ _ _) => F15
        rename (News _ _ _ _) => N15
        rw [one_normZ] at F15
        refine next _ _ res sel RD SD rs ss rs.length ss.length oS14 subR subS (by omega) hrs hss hS14 ?_ F15 (news_sub N15 ?_)
        · exact fun p hp => ⟨off9' p (.tail _ (.tail _ (.tail _ (.tail _ hp)))), off5' p (.tail _ (.tail _ (.tail _ hp)))⟩
        · intro p hp
          rcases List.mem_cons.mp hp with rfl | hp
          · k_mem
          rcases List.mem_cons.mp hp with rfl | hp
          · k_mem
          rcases List.mem_cons.mp hp with rfl | hp
          · k_mem
          · repeat (first | exact hp | refine List.mem_cons_of_mem _ ?_)
      · rw [if_neg (by simpa using hlt)]
        repeat' (first | (k_unfold; (try dsimp only)) | (k_end; wrow_close) | ((fail_if_success (with_reducible show wpAny _ _ (execs _ _) _ _ _)); walk1) | ((fail_if_success (with_reducible show wpAny _ _ (execs _ _) _ _ _)); dsimp only; walk1) | (leave1; walk_say "STEP leave1"; try dsimp only) | fail "no step")
        refine wpAny_execs_nil ?_
        (try dsimp only)
        refine next _ _ sel res SD RD ss rs ss.length rs.length oS6 subS subR (by omega) hss hrs hS6 ?_ F11 (news_sub N11 ?_)
        · exact fun p hp => ⟨off5' p (.tail _ (.tail _ (.tail _ hp))), off9' p (.tail _ (.tail _ (.tail _ (.tail _ hp))))⟩
        · intro p hp
          rcases List.mem_cons.mp hp with rfl | hp
          · k_mem
          rcases List.mem_cons.mp hp with rfl | hp
          · k_mem
          rcases List.mem_cons.mp hp with rfl | hp
          · k_mem
          · repeat (first | exact hp | refine List.mem_cons_of_mem _ ?_)
  run_tac sqEnd
end
end Mine
end

section
open PySem PySem.W PyProof.Rows PyProof.Rows.LCg PySem.Calls
set_option maxRecDepth 100000
namespace Mine
open PySem.Builtin.Int (intBits)
theorem pow_mono {b : Int} (hb : 1 ≤ b) {m n : Nat} (h : m ≤ n) : b ^ m ≤ b ^ n := by
  obtain ⟨k, rfl⟩ := Nat.exists_eq_add_of_le h
  rw [Int.pow_add]
  have h1 : (1 : Int) ≤ b ^ k := Int.pow_pos (by omega)
  have h2 : (0 : Int) < b ^ m := Int.pow_pos (by omega)
  have h3 := Int.mul_le_mul_of_nonneg_left h1 (show 0 ≤ b ^ m by omega)
  omega
theorem bits_of_pos {y : Int} (h : 0 < y) : (2 : Int) ^ intBits y ≤ 2 * y ∧ y < 2 ^ intBits y := by
  obtain ⟨n, rfl⟩ := Int.eq_ofNat_of_zero_le (Int.le_of_lt h)
  have hn : n ≠ 0 := by omega
  have e : intBits (n : Int) = n.log2 + 1 := by
    unfold intBits
    simp [hn]
  rw [e]
  have h1 := Nat.log2_self_le hn
  have h2 := Nat.lt_log2_self (n := n)
  constructor
  · have : (2 : Int) ^ (n.log2 + 1) = 2 * ((2 ^ n.log2 : Nat) : Int) := by rw [Int.pow_succ]; push_cast; omega
    rw [this]; omega
  · exact_mod_cast h2
theorem prod_cons (B k : Int) (l : List Int) : prodZ (k :: l) B = (B ^ k.toNat + 1) * prodZ l B := by
  have h : ∀ (l : List Int) (p : Int), l.foldl (fun p w => p * (B ^ w.toNat + 1)) p = p * l.foldl (fun p w => p * (B ^ w.toNat + 1)) 1 := by
    intro l
    induction l with
    | nil => intro p; simp
    | cons x l ih => intro p; rw [List.foldl_cons, List.foldl_cons, ih, ih (1 * _), Int.one_mul, Int.mul_assoc]
  rw [prodZ, List.foldl_cons, h, Int.one_mul]; rfl
theorem sum_pos : ∀ {l : List Int}, (∀ k ∈ l, 1 ≤ k) → 0 ≤ l.sum
  | [], _ => by simp
  | k :: l, h => by
    have h1 := h k List.mem_cons_self
    have h2 := sum_pos (l := l) fun x hx => h x (List.mem_cons_of_mem _ hx)
    rw [List.sum_cons]; omega
theorem prod_ge {B : Int} (hB : 16 ≤ B) : ∀ {l : List Int}, (∀ k ∈ l, 1 ≤ k) → B ^ l.sum.toNat ≤ prodZ l B
  | [], _ => by simp [prodZ]
  | k :: l, h => by
    have h1 := h k List.mem_cons_self
    have hl : ∀ x ∈ l, 1 ≤ x := fun x hx => h x (List.mem_cons_of_mem _ hx)
    have h2 := prod_ge hB hl
    have h3 := sum_pos hl
    rw [prod_cons, List.sum_cons, show (k + l.sum).toNat = k.toNat + l.sum.toNat by omega, Int.pow_add]
    have h4 : (0 : Int) < B ^ l.sum.toNat := Int.pow_pos (by omega)
    have h5 : (0 : Int) < B ^ k.toNat := Int.pow_pos (by omega)
    have h6 : B ^ k.toNat * B ^ l.sum.toNat ≤ B ^ k.toNat * prodZ l B := Int.mul_le_mul_of_nonneg_left h2 (by omega)
    rw [Int.add_mul, Int.one_mul]
    omega
theorem prod_up {B : Int} (hB : 16 ≤ B) : ∀ {l : List Int}, (∀ k ∈ l, 1 ≤ k) → 16 ^ l.length * prodZ l B ≤ 17 ^ l.length * B ^ l.sum.toNat
  | [], _ => by simp [prodZ]
  | k :: l, h => by
    have h1 := h k List.mem_cons_self
    have hl : ∀ x ∈ l, 1 ≤ x := fun x hx => h x (List.mem_cons_of_mem _ hx)
    have ih := prod_up hB hl
    have h3 := sum_pos hl
    have hge := prod_ge hB hl
    rw [prod_cons, List.sum_cons, show (k + l.sum).toNat = k.toNat + l.sum.toNat by omega, Int.pow_add, List.length_cons, Int.pow_succ, Int.pow_succ]
    have h4 : (0 : Int) < B ^ l.sum.toNat := Int.pow_pos (by omega)
    have hk : B ≤ B ^ k.toNat := by
      obtain ⟨j, hj⟩ : ∃ j, k.toNat = j + 1 := ⟨k.toNat - 1, by omega⟩
      rw [hj, Int.pow_succ]
      have : (1 : Int) ≤ B ^ j := Int.pow_pos (by omega)
      have := Int.mul_le_mul_of_nonneg_right this (show 0 ≤ B by omega)
      omega
    have h6 : 16 * (B ^ k.toNat + 1) ≤ 17 * B ^ k.toNat := by omega
    have hP : 0 ≤ 16 ^ l.length * prodZ l B := Int.mul_nonneg (Int.le_of_lt (Int.pow_pos (by decide))) (by omega)
    have h7 : 16 * (B ^ k.toNat + 1) * (16 ^ l.length * prodZ l B) ≤ 17 * B ^ k.toNat * (17 ^ l.length * B ^ l.sum.toNat) := Int.mul_le_mul h6 ih hP (Int.mul_nonneg (by decide) (by omega))
    have e1 : (16 : Int) ^ l.length * 16 * ((B ^ k.toNat + 1) * prodZ l B) = 16 * (B ^ k.toNat + 1) * (16 ^ l.length * prodZ l B) := by ac_rfl
    have e2 : (17 : Int) ^ l.length * 17 * (B ^ k.toNat * B ^ l.sum.toNat) = 17 * B ^ k.toNat * (17 ^ l.length * B ^ l.sum.toNat) := by ac_rfl
    rw [e1, e2]; exact h7
theorem ratio {n : Nat} (h : n ≤ 8) : (17 : Int) ^ n < 2 * 16 ^ n := by
  have : n = 0 ∨ n = 1 ∨ n = 2 ∨ n = 3 ∨ n = 4 ∨ n = 5 ∨ n = 6 ∨ n = 7 ∨ n = 8 := (by decide : ∀ n : Nat, n < 9 → (n = 0 ∨ n = 1 ∨ n = 2 ∨ n = 3 ∨ n = 4 ∨ n = 5 ∨ n = 6 ∨ n = 7 ∨ n = 8)) n (by omega)
  rcases this with rfl | rfl | rfl | rfl | rfl | rfl | rfl | rfl | rfl <;> decide
theorem prod_lt {B : Int} (hB : 16 ≤ B) {l : List Int} (h : ∀ k ∈ l, 1 ≤ k) (hl : l.length ≤ 8) : prodZ l B < 2 * B ^ l.sum.toNat := by
  have h1 := prod_up hB h
  have h2 := ratio hl
  have h4 : (0 : Int) < B ^ l.sum.toNat := Int.pow_pos (by omega)
  have h5 : (0 : Int) < 16 ^ l.length := Int.pow_pos (by decide)
  have h6 : 17 ^ l.length * B ^ l.sum.toNat < 2 * 16 ^ l.length * B ^ l.sum.toNat := Int.mul_lt_mul_of_pos_right h2 h4
  have h7 : 16 ^ l.length * prodZ l B < 16 ^ l.length * (2 * B ^ l.sum.toNat) := by
    have e : (2 : Int) * 16 ^ l.length * B ^ l.sum.toNat = 16 ^ l.length * (2 * B ^ l.sum.toNat) := by ac_rfl
    rw [e] at h6; omega
  exact Int.lt_of_mul_lt_mul_left h7 (by omega)
theorem sub_len8 {g : Int} {l : List Int} (h : l.Sublist (wtsZ g 8)) : l.length ≤ 8 := by rw [← wts_len8 g]; exact h.length_le
theorem sub_ge {g : Int} {l : List Int} (h : l.Sublist (wtsZ g 8)) : ∀ k ∈ l, 1 ≤ k := fun k hk => (wts_bound g k (h.subset hk)).1
theorem sub_sum : ∀ {a b : List Int}, a.Sublist b → (∀ k ∈ b, 1 ≤ k) → a.sum ≤ b.sum := by
  intro a b h
  induction h with
  | slnil => intro _; exact Int.le_refl _
  | cons k _ ih => intro hb; have := ih fun x hx => hb x (List.mem_cons_of_mem _ hx); have := hb k List.mem_cons_self; rw [List.sum_cons]; omega
  | cons_cons k _ ih => intro hb; have := ih fun x hx => hb x (List.mem_cons_of_mem _ hx); rw [List.sum_cons, List.sum_cons]; omega
theorem sum_144 {g : Int} {l : List Int} (h : l.Sublist (wtsZ g 8)) : l.sum ≤ 144 := Int.le_trans (sub_sum h fun k hk => (wts_bound g k hk).1) (wts_sum g)
/-- what the division asks -/
theorem div_facts {g wd : Int} {S R : List Int} (hw0 : 0 ≤ wd) (hw1 : wd < 297) (hS : S.Sublist (wtsZ g 8)) (hR : R.Sublist (wtsZ g 8)) (hle : R.sum ≤ S.sum) :
    0 < prodZ S (2 ^ (4 + wd).toNat) ∧ 0 < prodZ R (2 ^ (4 + wd).toNat) ∧ prodZ R (2 ^ (4 + wd).toNat) < 2 ^ intBits (prodZ S (2 ^ (4 + wd).toNat)) ∧ 1 ≤ intBits (prodZ S (2 ^ (4 + wd).toNat)) ∧ intBits (prodZ S (2 ^ (4 + wd).toNat)) ≤ 43201 := by
  have hB : (16 : Int) ≤ 2 ^ (4 + wd).toNat := by
    obtain ⟨k, hk⟩ : ∃ k, (4 + wd).toNat = 4 + k := ⟨wd.toNat, by omega⟩
    rw [hk, Int.pow_add]
    have : (1 : Int) ≤ 2 ^ k := Int.pow_pos (by decide)
    have e : (2 : Int) ^ 4 = 16 := by decide
    rw [e]; omega
  have s1 := prod_ge hB (sub_ge hS)
  have s2 := prod_lt hB (sub_ge hS) (sub_len8 hS)
  have r1 := prod_ge hB (sub_ge hR)
  have r2 := prod_lt hB (sub_ge hR) (sub_len8 hR)
  have p1 : (0 : Int) < (2 ^ (4 + wd).toNat) ^ S.sum.toNat := Int.pow_pos (by omega)
  have p2 : (0 : Int) < (2 ^ (4 + wd).toNat) ^ R.sum.toNat := Int.pow_pos (by omega)
  have hpos : 0 < prodZ S (2 ^ (4 + wd).toNat) := by omega
  have hb := bits_of_pos hpos
  have h144 := sum_144 hS
  have hs0 := sum_pos (sub_ge hS)
  have hr0 := sum_pos (sub_ge hR)
  have eS : ((2 : Int) ^ (4 + wd).toNat) ^ S.sum.toNat = 2 ^ ((4 + wd).toNat * S.sum.toNat) := by rw [Int.pow_mul]
  have hup : intBits (prodZ S (2 ^ (4 + wd).toNat)) ≤ (4 + wd).toNat * S.sum.toNat + 1 := by
    refine bits_lt (by omega) ?_
    rw [Int.pow_succ, ← eS]; omega
  have hm : (4 + wd).toNat * S.sum.toNat ≤ 300 * 144 := Nat.mul_le_mul (by omega) (by omega)
  refine ⟨hpos, by omega, ?_, ?_, by omega⟩
  · have hlow : (2 : Int) ^ ((4 + wd).toNat * S.sum.toNat) < 2 ^ intBits (prodZ S (2 ^ (4 + wd).toNat)) := by rw [← eS]; omega
    have hlt : (4 + wd).toNat * S.sum.toNat < intBits (prodZ S (2 ^ (4 + wd).toNat)) := Nat.lt_of_not_le fun h => by have := pow_mono (b := 2) (by decide) h; omega
    have h2 : (2 : Int) ^ ((4 + wd).toNat * S.sum.toNat + 1) ≤ 2 ^ intBits (prodZ S (2 ^ (4 + wd).toNat)) := pow_mono (by decide) hlt
    have h3 : ((2 : Int) ^ (4 + wd).toNat) ^ R.sum.toNat ≤ (2 ^ (4 + wd).toNat) ^ S.sum.toNat := pow_mono (by omega) (by omega)
    rw [Int.pow_succ, ← eS] at h2
    omega
  · rcases Nat.eq_zero_or_pos (intBits (prodZ S (2 ^ (4 + wd).toNat))) with h | h
    · rw [h] at hb; omega
    · exact h
theorem div_one {y f l : Int} {n : Nat} (hy : 0 < y) (h0 : 0 ≤ f) (hf : f < 2 ^ n) (hl0 : 0 ≤ l) (hl : l < y) : 0 ≤ y * f + l ∧ y * f + l < 2 ^ n * y ∧ (y * f + l) / y = f ∧ (y * f + l) % y = l := by
  have h1 : 0 ≤ y * f := Int.mul_nonneg (by omega) h0
  have h2 : y * (f + 1) ≤ y * 2 ^ n := Int.mul_le_mul_of_nonneg_left (by omega) (by omega)
  rw [Int.mul_add, Int.mul_one] at h2
  refine ⟨by omega, by rw [Int.mul_comm (2 ^ n)]; omega, ?_, ?_⟩
  · rw [Int.mul_add_ediv_left _ _ (by omega), Int.ediv_eq_zero_of_lt hl0 hl, Int.add_zero]
  · rw [Int.mul_add_emod_self_left, Int.emod_eq_of_lt hl0 hl]
end Mine
end

section
open PySem PySem.W PyProof.Rows PyProof.Rows.LCg PySem.Calls
set_option maxRecDepth 100000
namespace Mine
open PySem.Builtin.Int (intBits)
theorem pair_ne {h₀ h : Heap} {L D P : Addr} {q r : Int} {tq tr : Tok} {ps : Array Value} {news : List (Addr × Obj)} (N : News h₀ L h news) (hc : (D, pairObj q r tq tr) ∈ news) (ht : (P, tabObj ps) ∈ news) : D ≠ P := by
  rintro rfl
  have e := Option.some.inj ((N _ hc).1.symm.trans (N _ ht).1)
  have e2 := congrArg Obj.cls e
  cases e2
theorem ofD_one' (B o : Int) : o = ofD B [o] := by simp [ofD]
section
variable {w : World} {mean : ExcName → Option Value} {mg mb : PySem.Str → Option Value} {h₀ : Heap} {L fa : Addr} {cd : Value} {G : Array GenState} {D : Drawn} {os : OsState} {Q : Flow → Shared → Prop} {E : Value → Shared → Prop}
set_option maxHeartbeats 4000000 in
theorem law_Z {A₀ : Around} (B : Below A₀ h₀ [] h₀) (X : (hd.heap_39 w.params).In h₀) (T : Top topProg LS mean mg mb h₀) {H : Heap} {tk : Nat} {g wd number : Int} {tw tn : Tok} {S R : List Int} {aS aR c9 : Addr} {vS vR : List Value} {kS kR : Nat} {m0 : PySem.Str → Option Value} {oS oc9 : Obj} {ps44 vs9 : Array Value} {u9 : Tok} {rest : List (Addr × Obj)}
    (F : Fr h₀ L H (fun y => if y = PySem.Str.ofString "rest" then some (.ref aR) else if y = PySem.Str.ofString "width" then some (.int (4 + wd) tw) else if y = PySem.Str.ofString "number" then some (.int number tn) else m0 y))
    (N : News h₀ L H ((aS, W.listOf (List.toArray vS) kS) :: (aR, W.listOf (List.toArray vR) kR) :: (L + 1 + 1, oS) :: (c9, oc9) :: (37, tabObj #[rawInt 41, rawInt 4, .ref c9]) :: (44, tabObj ps44) :: rest))
    (hS : S.Sublist (wtsZ g 8)) (hR : R.Sublist (wtsZ g 8)) (hle : R.sum ≤ S.sum) (hvS : IntsAre vS S) (hvR : IntsAre vR R) (hcell : oS.data = .cell (some (.ref aS)))
    (hw0 : 0 ≤ wd) (hw1 : wd < 297) (hd9 : oc9.data = .fields vs9) (hv9 : vs9[1]? = some (.str (PySem.Str.ofString "_int2digits.<locals>.inner") u9)) (hc37 : c9 ≠ 37)
    (hoff : aS ≠ 37 ∧ aR ≠ 37 ∧ L + 1 + 1 ≠ 37) (hrest : ∀ p ∈ rest, p.1 ≠ 37) (CH2 : CodeHd h₀ 41 37)
    (hend : ∀ H' tk' m' ps37 ps44' news', Fr h₀ L H' m' → News h₀ L H' news' → (37, tabObj ps37) ∈ news' → (44, tabObj ps44') ∈ news' → Q (.ret (.bool true)) ⟨H', G, D, tk', os⟩) :
    wpAny (model PySem.Challenge.rw_xi0008_01.row.prog w) (lawA L fa cd) (execs lawZ (lawEnv L fa cd)) Q E ⟨H, G, D, tk, os⟩ := by
  run_tac sqBegin
  revert X; k_fill; intro X
  delta lawZ lawA lawEnv lawScope
  (try dsimp only)
  obtain ⟨d1, d2, d3, d4, d5⟩ := div_facts hw0 hw1 hS hR hle
  have hbb : intBits ((2 : Int) ^ (4 + wd).toNat) ≤ 400 := by
    have := bits_lt (x := (2 : Int) ^ (4 + wd).toNat) (n := (4 + wd).toNat + 1) (Int.le_of_lt (Int.pow_pos (by decide))) (by rw [Int.pow_succ]; have := Int.pow_pos (n := 2) (m := (4 + wd).toNat) (by decide); omega)
    omega
  have hposS : ∀ k ∈ S, 0 ≤ k ∧ k ≤ 40 := fun k hk => by have := wts_bound g k (hS.subset hk); omega
  have hposR : ∀ k ∈ R, 0 ≤ k ∧ k ≤ 40 := fun k hk => by have := wts_bound g k (hR.subset hk); omega
  repeat' (first | (k_unfold; (try dsimp only)) | (k_end; wrow_close) | ((fail_if_success (with_reducible show wpAny _ _ (binaryOp Operator.Pow _ _) _ _ _)); walk1) | ((fail_if_success (with_reducible show wpAny _ _ (binaryOp Operator.Pow _ _) _ _ _)); dsimp only; walk1) | (leave1; walk_say "STEP leave1"; try dsimp only) | fail "no step")
  refine pow_int (by omega) (by rw [show intBits (2 : Int) = 2 by decide]; omega) ?_
  repeat' (first | (k_unfold; (try dsimp only)) | (k_end; wrow_close) | ((fail_if_success (with_reducible show wpAny _ _ (call (.ref _) _) _ _ _)); walk1) | ((fail_if_success (with_reducible show wpAny _ _ (call (.ref _) _) _ _ _)); dsimp only; walk1) | (leave1; walk_say "STEP leave1"; try dsimp only) | fail "no step")
  rename (Fr _ _ _ _) => F1
  rename (News _ _ _ _) => N1
  refine' product_call B F1 X N1 T ?hk (ws := S) ⟨_, by k_mem, Or.inl ⟨rfl, vS, kS, rfl, hvS⟩⟩ hposS (sub_len8 hS) hbb ?dp ?un ?_
  case hk => rfl
  case dp => decide
  case un => decide
  intro t2 h2 tk2 hb2 F2 N2
  repeat' (first | (k_unfold; (try dsimp only)) | (k_end; wrow_close) | ((fail_if_success (with_reducible show wpAny _ _ (binaryOp Operator.Pow _ _) _ _ _)); walk1) | ((fail_if_success (with_reducible show wpAny _ _ (binaryOp Operator.Pow _ _) _ _ _)); dsimp only; walk1) | (leave1; walk_say "STEP leave1"; try dsimp only) | fail "no step")
  refine pow_int (by omega) (by rw [show intBits (2 : Int) = 2 by decide]; omega) ?_
  repeat' (first | (k_unfold; (try dsimp only)) | (k_end; wrow_close) | ((fail_if_success (with_reducible show wpAny _ _ (call (.ref _) _) _ _ _)); walk1) | ((fail_if_success (with_reducible show wpAny _ _ (call (.ref _) _) _ _ _)); dsimp only; walk1) | (leave1; walk_say "STEP leave1"; try dsimp only) | fail "no step")
  rename (Fr _ _ _ _) => F3
  rename (News _ _ _ _) => N3
  refine' product_call B F3 X N3 T ?hk2 (ws := R) ⟨_, by k_mem, Or.inl ⟨rfl, vR, kR, rfl, hvR⟩⟩ hposR (sub_len8 hR) hbb ?dp2 ?un2 ?_
  case hk2 => rfl
  case dp2 => decide
  case un2 => decide
  intro t4 h4 tk4 hb4 F4 N4
  have hfd : ofD (2 ^ (4 + wd).toNat) (waysZ R) = prodZ R (2 ^ (4 + wd).toNat) := ofD_ways R
  generalize prodZ S (2 ^ (4 + wd).toNat) = y at d1 d3 d4 d5 hb2 F4 ⊢
  generalize prodZ R (2 ^ (4 + wd).toNat) = f at d2 d3 hb4 F4 hfd ⊢
  (try clear F1); (try clear N1); (try clear N2); (try clear F3); (try clear N3)
  repeat' (first | (k_unfold; (try dsimp only)) | (k_end; wrow_close) | ((fail_if_success (with_reducible show wpAny _ _ (binaryOp Operator.Mod _ _) _ _ _)); walk1) | ((fail_if_success (with_reducible show wpAny _ _ (binaryOp Operator.Mod _ _) _ _ _)); dsimp only; walk1) | (leave1; walk_say "STEP leave1"; try dsimp only) | fail "no step")
  refine mod_int' (by omega) ?_
  have hl : 0 ≤ (-1 - number).fmod y ∧ (-1 - number).fmod y < y := by
    rw [Int.fmod_eq_emod_of_nonneg _ (by omega)]
    exact ⟨Int.emod_nonneg _ (by omega), Int.emod_lt_of_pos _ d1⟩
  generalize (-1 - number).fmod y = lf at hl ⊢
  obtain ⟨hl0, hl1⟩ := hl
  repeat' (first | (k_unfold; (try dsimp only)) | (k_end; wrow_close) | ((fail_if_success (with_reducible show wpAny _ _ (binaryOp Operator.Mult _ _) _ _ _)); walk1) | ((fail_if_success (with_reducible show wpAny _ _ (binaryOp Operator.Mult _ _) _ _ _)); dsimp only; walk1) | (leave1; walk_say "STEP leave1"; try dsimp only) | fail "no step")
  refine mul_int ?_ (IntMulOk.of_le hb2 hb4 (by omega))
  repeat' (first | (k_unfold; (try dsimp only)) | (k_end; wrow_close) | ((fail_if_success (with_reducible show wpAny _ _ (call (.ref _) _) _ _ _)); walk1) | ((fail_if_success (with_reducible show wpAny _ _ (call (.ref _) _) _ _ _)); dsimp only; walk1) | (leave1; walk_say "STEP leave1"; try dsimp only) | fail "no step")
  obtain ⟨e0, e1, e2, e3⟩ := div_one (n := intBits y) d1 (Int.le_of_lt d2) d3 hl0 hl1
  obtain ⟨b1, b2⟩ := bits_of_pos d1
  rename (Fr _ _ _ _) => F5
  rename (News _ _ _ _) => N5
  refine' div_all 4 B F5 X N5 T ?hk3 (intBits y) _ _ _ _ _ d4 ?hj ?hj5 e0 e1 b1 b2 ?dp3 ?un3 ?_
  case hk3 => rfl
  case hj => omega
  case hj5 => omega
  case dp3 => decide
  case un3 => decide
  intro FD tq tr h6 tk6 F6 N6
  rw [e2, e3] at N6
  clear e0 e1 e2 e3
  repeat' (first | (k_unfold; (try dsimp only)) | (k_end; wrow_close) | ((fail_if_success (with_reducible show wpAny _ _ (compareOp _ _ _) _ _ _)); walk1) | ((fail_if_success (with_reducible show wpAny _ _ (compareOp _ _ _) _ _ _)); dsimp only; walk1) | (leave1; walk_say "STEP leave1"; try dsimp only) | fail "no step")
  refine ne_dataH (by ke_read) (by ke_read) rfl rfl (by ke_room) ?_
  ke_norm
  repeat' (first | (k_unfold; (try dsimp only)) | (k_end; wrow_close) | ((fail_if_success (with_reducible show wpAny _ _ (execs _ _) _ _ _)); walk1) | ((fail_if_success (with_reducible show wpAny _ _ (execs _ _) _ _ _)); dsimp only; walk1) | (leave1; walk_say "STEP leave1"; try dsimp only) | fail "no step")
  refine wpAny_execs_nil ?_
  (try dsimp only)
  repeat' (first | (k_unfold; (try dsimp only)) | (k_end; wrow_close) | ((fail_if_success (with_reducible show wpAny _ _ (binaryOp Operator.Pow _ _) _ _ _)); walk1) | ((fail_if_success (with_reducible show wpAny _ _ (binaryOp Operator.Pow _ _) _ _ _)); dsimp only; walk1) | (leave1; walk_say "STEP leave1"; try dsimp only) | fail "no step")
  refine pow_int (by omega) (by rw [show intBits (2 : Int) = 2 by decide]; omega) ?_
  rw [Int.toNat_natCast]
  repeat' (first | (k_unfold; (try dsimp only)) | (k_end; wrow_close) | ((fail_if_success (with_reducible show wpAny _ _ (binaryOp Operator.Sub _ _) _ _ _)); walk1) | ((fail_if_success (with_reducible show wpAny _ _ (binaryOp Operator.Sub _ _) _ _ _)); dsimp only; walk1) | (leave1; walk_say "STEP leave1"; try dsimp only) | fail "no step")
  refine sub_int ?_
  obtain ⟨o, ho⟩ : ∃ o : Int, o = 2 ^ intBits y - 1 := ⟨_, rfl⟩
  rw [← ho]
  have ho0 : 1 ≤ o := by
    obtain ⟨k, hk⟩ : ∃ k, intBits y = k + 1 := ⟨intBits y - 1, by omega⟩
    rw [hk, Int.pow_succ] at ho
    have : (1 : Int) ≤ 2 ^ k := Int.pow_pos (by decide)
    omega
  have ho1 : o < 2 ^ intBits y := by omega
  have hob : intBits o ≤ 43201 := Nat.le_trans (bits_lt (by omega) ho1) d5
  repeat' (first | (k_unfold; (try dsimp only)) | (k_end; wrow_close) | ((fail_if_success (with_reducible show wpAny _ _ (binaryOp Operator.Mult _ _) _ _ _)); walk1) | ((fail_if_success (with_reducible show wpAny _ _ (binaryOp Operator.Mult _ _) _ _ _)); dsimp only; walk1) | (leave1; walk_say "STEP leave1"; try dsimp only) | fail "no step")
  refine mul_int ?_ (IntMulOk.of_le hb2 hob (by omega))
  repeat' (first | (k_unfold; (try dsimp only)) | (k_end; wrow_close) | ((fail_if_success (with_reducible show wpAny _ _ (call (.ref _) _) _ _ _)); walk1) | ((fail_if_success (with_reducible show wpAny _ _ (call (.ref _) _) _ _ _)); dsimp only; walk1) | (leave1; walk_say "STEP leave1"; try dsimp only) | fail "no step")
  rw [show y * o + y - 1 = y * o + (y - 1) by omega]
  obtain ⟨e0, e1, e2, e3⟩ := div_one (l := y - 1) (n := intBits y) d1 (show 0 ≤ o by omega) ho1 (by omega) (by omega)
  rename (Fr _ _ _ _) => F7
  rename (News _ _ _ _) => N7
  refine' div_all 4 B F7 X N7 T ?hk4 (intBits y) _ _ _ _ _ d4 ?hj4 ?hj54 e0 e1 b1 b2 ?dp4 ?un4 ?_
  case hk4 => rfl
  case hj4 => omega
  case hj54 => omega
  case dp4 => decide
  case un4 => decide
  intro FD2 tq2 tr2 h8 tk8 F8 N8
  rw [e2, e3] at N8
  clear e0 e1 e2 e3
  repeat' (first | (k_unfold; (try dsimp only)) | (k_end; wrow_close) | ((fail_if_success (with_reducible show wpAny _ _ (compareOp _ _ _) _ _ _)); walk1) | ((fail_if_success (with_reducible show wpAny _ _ (compareOp _ _ _) _ _ _)); dsimp only; walk1) | (leave1; walk_say "STEP leave1"; try dsimp only) | fail "no step")
  refine ne_dataH (by ke_read) (by ke_read) rfl rfl (by ke_room) ?_
  ke_norm
  repeat' (first | (k_unfold; (try dsimp only)) | (k_end; wrow_close) | ((fail_if_success (with_reducible show wpAny _ _ (call (.ref _) _) _ _ _)); walk1) | ((fail_if_success (with_reducible show wpAny _ _ (call (.ref _) _) _ _ _)); dsimp only; walk1) | (leave1; walk_say "STEP leave1"; try dsimp only) | fail "no step")
  rename (Fr _ _ _ _) => F9
  rename (News _ _ _ _) => N9
  have fd37 : FD ≠ 37 := pair_ne N9 (by k_mem) (by k_mem)
  have N10 : News h₀ L _ ((37, tabObj #[rawInt 41, rawInt 4, .ref c9]) :: (FD, pairObj f lf tq tr) :: (aR, W.listOf (List.toArray vR) kR) :: (c9, oc9) :: [(44, tabObj ps44)]) := news_sub N9 (by
    intro p hp
    simp only [List.mem_cons, List.not_mem_nil, or_false] at hp ⊢
    rcases hp with h | h | h | h | h <;> simp [h])
  refine' i2d_call (rest := (FD, pairObj f lf tq tr) :: (aR, W.listOf (List.toArray vR) kR) :: (c9, oc9) :: [(44, tabObj ps44)]) B F9 X N10 T ?hk5 rfl (Or.inr ⟨c9, oc9, vs9, u9, rfl, by k_mem, hd9, hv9⟩) ?hr5 CH2 (ds := [o]) (ofD_one' _ o) ?hlen5 ?hn5 ?hn25 ?hf5 ?ht5 ?dp5 ?un5 ?_
  case hk5 => rfl
  case hr5 =>
    intro q hq
    rcases List.mem_cons.mp hq with rfl | hq
    · exact fd37
    rcases List.mem_cons.mp hq with rfl | hq
    · exact hoff.2.1
    rcases List.mem_cons.mp hq with rfl | hq
    · exact hc37
    · rw [List.mem_singleton.mp hq]; exact (by decide : (44 : Nat) ≠ 37)
  case hlen5 => exact (by decide : 1 ≤ 400)
  case hn5 => omega
  case hn25 => omega
  case hf5 =>
    intro d hd
    rw [List.mem_singleton.mp hd, Int.toNat_natCast]
    exact ⟨by omega, ho1⟩
  case ht5 =>
    intro d hd
    have : o = d := by simpa using hd
    omega
  case dp5 => decide
  case un5 => decide
  intro D11 us11 cap11 h11 tk11 c11 oc11 vs11 u11 hus11 hd11 hv11 F11 N11
  repeat' (first | (k_unfold; (try dsimp only)) | (k_end; wrow_close) | ((fail_if_success (with_reducible show wpAny _ _ (newList _) _ _ _)); walk1) | ((fail_if_success (with_reducible show wpAny _ _ (newList _) _ _ _)); dsimp only; walk1) | (leave1; walk_say "STEP leave1"; try dsimp only) | fail "no step")
  refine newList_K F11 N11 ?_ (hsz := Nat.le_of_ble_eq_true rfl)
  intro l12 h12 F12 N12 lt12
  (try dsimp only)
  refine ke_ne_ints (News.isList N12 (by k_mem)) (News.isList N12 (by k_mem)) hus11 (.cons _ _ .nil) (by ke_room) ?_
  rw [show (!decide ([o] = [o])) = false by simp]
  repeat' (first | (k_unfold; (try dsimp only)) | (k_end; wrow_close) | ((fail_if_success (with_reducible show wpAny _ _ (execs _ _) _ _ _)); walk1) | ((fail_if_success (with_reducible show wpAny _ _ (execs _ _) _ _ _)); dsimp only; walk1) | (leave1; walk_say "STEP leave1"; try dsimp only) | fail "no step")
  refine wpAny_execs_nil ?_
  (try dsimp only)
  have o37 : c11 ≠ 37 := tab_ne N12 (by k_mem) (by k_mem) hd11 hv11 (by intro y u e; simp [rawInt] at e)
  have N13 : News h₀ L _ ((FD, pairObj f lf tq tr) :: (37, tabObj #[rawInt 41, rawInt 4, .ref c11]) :: (aR, W.listOf (List.toArray vR) kR) :: (c11, oc11) :: [(44, tabObj ps44)]) := news_sub N12 (by
    intro p hp
    simp only [List.mem_cons, List.not_mem_nil, or_false] at hp ⊢
    rcases hp with h | h | h | h | h <;> simp [h])
  clear N12 N11
  repeat' (first | (k_unfold; (try dsimp only)) | (k_end; wrow_close) | ((fail_if_success (with_reducible show wpAny _ _ (call (.ref _) _) _ _ _)); walk1) | ((fail_if_success (with_reducible show wpAny _ _ (call (.ref _) _) _ _ _)); dsimp only; walk1) | (leave1; walk_say "STEP leave1"; try dsimp only) | fail "no step")
  rename (Fr _ _ _ _) => F14
  rename (News _ _ _ _) => N14
  have N15 : News h₀ L _ ((37, tabObj #[rawInt 41, rawInt 4, .ref c11]) :: (aR, W.listOf (List.toArray vR) kR) :: (c11, oc11) :: [(44, tabObj ps44)]) := news_sub N14 (by
    intro p hp
    simp only [List.mem_cons, List.not_mem_nil, or_false] at hp ⊢
    rcases hp with h | h | h | h <;> simp [h])
  have hways := ways_figs hR
  have hB : (16 : Int) ≤ 2 ^ (4 + wd).toNat := by
    obtain ⟨k, hk⟩ : ∃ k, (4 + wd).toNat = 4 + k := ⟨wd.toNat, by omega⟩
    rw [hk, Int.pow_add]
    have : (1 : Int) ≤ 2 ^ k := Int.pow_pos (by decide)
    have e : (2 : Int) ^ 4 = 16 := by decide
    rw [e]; omega
  refine' i2d_call (rest := (aR, W.listOf (List.toArray vR) kR) :: (c11, oc11) :: [(44, tabObj ps44)]) B F14 X N15 T ?hk6 rfl (Or.inr ⟨c11, oc11, vs11, u11, rfl, by k_mem, hd11, hv11⟩) ?hr6 CH2 (ds := waysZ R) hfd.symm ?hlen6 ?hn6 ?hn26 ?hf6 ?ht6 ?dp6 ?un6 ?_
  case hk6 => rfl
  case hr6 =>
    intro q hq
    rcases List.mem_cons.mp hq with rfl | hq
    · exact hoff.2.1
    rcases List.mem_cons.mp hq with rfl | hq
    · exact o37
    · rw [List.mem_singleton.mp hq]; exact (by decide : (44 : Nat) ≠ 37)
  case hlen6 =>
    rw [ways_len fun k hk => (hposR k hk).1]
    have := sum_144 hR; omega
  case hn6 => omega
  case hn26 => omega
  case hf6 => exact fun d hd => by have := hways d hd; omega
  case ht6 => exact ways_top1 fun k hk => by have := sub_ge hR k hk; omega
  case dp6 => decide
  case un6 => decide
  intro D16 us16 cap16 h16 tk16 c16 oc16 vs16 u16 hus16 hd16 hv16 F16 N16
  repeat' (first | (k_unfold; (try dsimp only)) | (k_end; wrow_close) | ((fail_if_success (with_reducible show wpAny _ _ (call (.ref _) _) _ _ _)); walk1) | ((fail_if_success (with_reducible show wpAny _ _ (call (.ref _) _) _ _ _)); dsimp only; walk1) | (leave1; walk_say "STEP leave1"; try dsimp only) | fail "no step")
  rename (Fr _ _ _ _) => F17
  rename (News _ _ _ _) => N17
  refine' ways_call B F17 X N17 T ?hk7 (ws := R) ⟨_, by k_mem, Or.inl ⟨rfl, vR, kR, rfl, hvR⟩⟩ hposR (sub_len8 hR) ?dp7 ?un7 ?_
  case hk7 => rfl
  case dp7 => decide
  case un7 => decide
  intro WD ws18 k18 h18 tk18 hws18 hWD F18 N18
  repeat' (first | (k_unfold; (try dsimp only)) | (k_end; wrow_close) | ((fail_if_success (with_reducible show wpAny _ _ (compareOp _ _ _) _ _ _)); walk1) | ((fail_if_success (with_reducible show wpAny _ _ (compareOp _ _ _) _ _ _)); dsimp only; walk1) | (leave1; walk_say "STEP leave1"; try dsimp only) | fail "no step")
  refine ke_eq_ints (News.isList N18 (by k_mem)) (News.isList N18 (by k_mem)) hus16 hws18 (by ke_room) ?_
  rw [show (decide (waysZ R = waysZ R)) = true by simp]
  exact hend _ _ _ _ _ _ F18 N18 (by k_mem) (by k_mem)
  run_tac sqEnd
end
end Mine
end

section
open PySem PySem.W PyProof.Rows PyProof.Rows.LCg PySem.Calls
set_option maxRecDepth 100000
namespace Mine
theorem Fr.put2 {h₀ h : Heap} {L : Addr} {m : PySem.Str → Option Value} {x1 x2 : PySem.Str} {v1 v2 : Option Value} (F : Fr h₀ L h m) (h1 : m x1 = v1) (h2 : m x2 = v2) : Fr h₀ L h (fun y => if y = x1 then v1 else if y = x2 then v2 else m y) := by
  have e : m = fun y => if y = x1 then v1 else if y = x2 then v2 else m y := by
    funext y
    split
    · rename_i q; rw [q, h1]
    split
    · rename_i q; rw [q, h2]
    · rfl
  exact e ▸ F
theorem Fr.put3 {h₀ h : Heap} {L : Addr} {m : PySem.Str → Option Value} {x1 x2 x3 : PySem.Str} {v1 v2 v3 : Option Value} (F : Fr h₀ L h m) (h1 : m x1 = v1) (h2 : m x2 = v2) (h3 : m x3 = v3) : Fr h₀ L h (fun y => if y = x1 then v1 else if y = x2 then v2 else if y = x3 then v3 else m y) := by
  have e : m = fun y => if y = x1 then v1 else if y = x2 then v2 else if y = x3 then v3 else m y := by
    funext y
    split
    · rename_i q; rw [q, h1]
    split
    · rename_i q; rw [q, h2]
    split
    · rename_i q; rw [q, h3]
    · rfl
  exact e ▸ F
theorem Fr.put4 {h₀ h : Heap} {L : Addr} {m : PySem.Str → Option Value} {x1 x2 x3 x4 : PySem.Str} {v1 v2 v3 v4 : Option Value} (F : Fr h₀ L h m) (h1 : m x1 = v1) (h2 : m x2 = v2) (h3 : m x3 = v3) (h4 : m x4 = v4) : Fr h₀ L h (fun y => if y = x1 then v1 else if y = x2 then v2 else if y = x3 then v3 else if y = x4 then v4 else m y) := by
  have e : m = fun y => if y = x1 then v1 else if y = x2 then v2 else if y = x3 then v3 else if y = x4 then v4 else m y := by
    funext y
    split
    · rename_i q; rw [q, h1]
    split
    · rename_i q; rw [q, h2]
    split
    · rename_i q; rw [q, h3]
    split
    · rename_i q; rw [q, h4]
    · rfl
  exact e ▸ F
theorem cell_ne {h₀ h : Heap} {L c P : Addr} {oc oM : Obj} {vs : Array Value} {v : Option Value} {news : List (Addr × Obj)} (N : News h₀ L h news) (hc : (c, oc) ∈ news) (ht : (P, oM) ∈ news) (hd : oc.data = .fields vs) (hv : oM.data = .cell v) : c ≠ P := by
  rintro rfl
  have e : oc = oM := Option.some.inj ((N _ hc).1.symm.trans (N _ ht).1)
  rw [e, hv] at hd
  cases hd
section
variable {w : World} {mean : ExcName → Option Value} {mg mb : PySem.Str → Option Value} {h₀ : Heap} {L fa : Addr} {cd : Value} {G : Array GenState} {D : Drawn} {os : OsState} {Q : Flow → Shared → Prop} {E : Value → Shared → Prop}
set_option maxHeartbeats 4000000 in
theorem law_rest {A₀ : Around} (B : Below A₀ h₀ [] h₀) (X : (hd.heap_39 w.params).In h₀) (T : Top topProg LS mean mg mb h₀) {H : Heap} {tk : Nat} {g number picks : Int} {t1 tn tp : Tok} {lm lws lw : Addr} {m0 : PySem.Str → Option Value} {zs ys ws : List Value} {km kws kw : Nat} {oS oM : Obj}
    (F : Fr h₀ L H (fun y => if y = PySem.Str.ofString "whole" then some (.int (ofD 16 (figsZ g)) t1) else if y = PySem.Str.ofString "most" then some (.ref lm) else if y = PySem.Str.ofString "ways" then some (.ref lws) else if y = PySem.Str.ofString "weights" then some (.ref lw) else if y = PySem.Str.ofString "number" then some (.int number tn) else if y = PySem.Str.ofString "picks" then some (.int picks tp) else m0 y))
    (N : News h₀ L H ((lm, W.listOf zs.toArray km) :: (lws, W.listOf ys.toArray kws) :: (44, tabObj #[]) :: (37, tabObj #[]) :: (lw, W.listOf ws.toArray kw) :: (L + 1 + 1, oS) :: (L + 1, oM) :: []))
    (hzs : IntsAre zs mostZ) (hys : IntsAre ys (waysZ (wtsZ g 8))) (hws : IntsAre ws (wtsZ g 8)) (hn0 : 0 ≤ number) (hn1 : number < 10 ^ 30) (hp0 : 0 ≤ picks)
    (hS : ∃ v, oS.data = .cell v) (hM : ∃ v, oM.data = .cell v) (hlw : L + 1 + 1 < lw ∧ L + 1 < lw ∧ 44 < lw ∧ 37 < lw) (hL : 44 < L ∧ 37 < L) (CH1 : CodeHd h₀ 48 44) (CH2 : CodeHd h₀ 41 37)
    (hE : PassesOwn (model PySem.Challenge.rw_xi0008_01.row.prog w) (lawA L fa cd) (lawEnv L fa cd) E)
    (hend : ∀ H' tk' m' ps37 ps44' news', Fr h₀ L H' m' → News h₀ L H' news' → (37, tabObj ps37) ∈ news' → (44, tabObj ps44') ∈ news' → Q (.ret (.bool true)) ⟨H', G, D, tk', os⟩) :
    wpC (model PySem.Challenge.rw_xi0008_01.row.prog w) (lawA L fa cd) (execs lawB (lawEnv L fa cd)) Q E ⟨H, G, D, tk, os⟩ := by
  run_tac sqBegin
  refine law_B B X T F N hzs hys ?_
  intro H1 tk1 b tb lt us kt hb F1 N1 hus
  refine law_H B X T hb F1 N1 ?_
  intro H2 tk2 lp u1 u2 u3 u4 u5 F2 N2
  have N2' : News h₀ L H2 ((lp, { cls := .type "tuple", data := .seq #[.str (PySem.Str.ofString "P" ++ nameS g) u2, .int 21 u3, .int 0 u4, .int 0 u5] }) :: (lws, W.listOf ys.toArray kws) :: (lt, W.listOf (List.toArray us) kt) :: (44, tabObj #[]) :: (37, tabObj #[]) :: (lw, W.listOf ws.toArray kw) :: (L + 1 + 1, oS) :: (L + 1, oM) :: []) := news_sub N2 (by
    intro p hp
    simp only [List.mem_cons, List.not_mem_nil, or_false] at hp ⊢
    rcases hp with h | h | h | h | h | h | h | h <;> simp [h])
  refine law_C B X T (Fr.put4 F2 rfl rfl rfl rfl) N2' hys hn0 hn1 ?_ hE
  intro H3 tk3 P1 P2 P3 P4 P5 F3 N3
  refine law_D B X T (Fr.put3 F3 rfl rfl rfl) N3 hn0 hn1 ?_ hE
  intro H4 tk4 P6 P7 few fair u6 u7 F4 N4
  refine law_E B X T (Fr.put2 F4 rfl rfl) N4 ?_
  intro H5 tk5 F5 N5
  have N5' : News h₀ L H5 ((lt, W.listOf (List.toArray us) kt) :: (44, tabObj #[]) :: (37, tabObj #[]) :: (lw, W.listOf ws.toArray kw) :: (L + 1 + 1, oS) :: (L + 1, oM) :: []) := fun p hp => N5 p (.tail _ hp)
  refine law_F B X T (Fr.put2 F5 rfl rfl) N5' hus hp0 ?_
  intro H6 tk6 MD BD RD ms bs ds km2 kb kr fal1 fal2 wd tw hw0 hw1 hms hbs hds hq1 hq2 hq3 hq4 hoff hdist F6 N6
  refine law_K B X T F6 N6 hds (by rw [more_len _ _ (common_len _) (common_len _)]; exact Nat.le_refl _) ?_ hE ?_
  · intro p hp
    rcases List.mem_cons.mp hp with rfl | hp
    · exact hdist.2
    rcases List.mem_cons.mp hp with rfl | hp
    · exact hdist.1
    · exact (hoff p hp).2.2
  intro H7 tk7 vs l kr7 k hfull ht1 hvs F7 N7
  refine law_M B X T F7 N7 hoff ?_ hdist CH1 CH2 hw0 hw1 hms hbs hvs hq1 hq3 hq4 hfull ht1 ?_
  · intro p hp
    rcases List.mem_cons.mp hp with rfl | hp
    · exact ⟨Nat.ne_of_gt hlw.2.2.1, Nat.ne_of_gt hlw.2.2.2⟩
    rcases List.mem_cons.mp hp with rfl | hp
    · exact ⟨Nat.ne_of_gt (Nat.lt_trans hL.1 (Nat.lt_trans (Nat.lt_succ_self _) (Nat.lt_succ_self _))), Nat.ne_of_gt (Nat.lt_trans hL.2 (Nat.lt_trans (Nat.lt_succ_self _) (Nat.lt_succ_self _)))⟩
    · rw [List.mem_singleton.mp hp]
      exact ⟨Nat.ne_of_gt (Nat.lt_trans hL.1 (Nat.lt_succ_self _)), Nat.ne_of_gt (Nat.lt_trans hL.2 (Nat.lt_succ_self _))⟩
  intro H8 tk8 c9 oc9 vs9 u9 ps44 hd9 hv9 hc37 F8 N8
  have N8' : News h₀ L H8 ((lw, W.listOf ws.toArray kw) :: (L + 1 + 1, oS) :: (L + 1, oM) :: (c9, oc9) :: (37, tabObj #[rawInt 41, rawInt 4, .ref c9]) :: (44, tabObj ps44) :: []) := news_sub N8 (by
    intro p hp
    simp only [List.mem_cons, List.not_mem_nil, or_false] at hp ⊢
    rcases hp with h | h | h | h | h | h <;> simp [h])
  obtain ⟨vS, hvS⟩ := hS
  obtain ⟨vM, hvM⟩ := hM
  refine law_G B X T (Fr.put2 F8 rfl rfl) N8' hws hp0 ⟨vS, hvS⟩ ⟨vM, hvM⟩ ⟨hlw.1, hlw.2.1⟩ ?_ ?_
  · intro p hp
    rcases List.mem_cons.mp hp with rfl | hp
    · exact ⟨cell_ne N8' (by k_mem) (by k_mem) hd9 hvM, cell_ne N8' (by k_mem) (by k_mem) hd9 hvS⟩
    rcases List.mem_cons.mp hp with rfl | hp
    · exact ⟨Nat.ne_of_lt (Nat.lt_trans hL.2 (Nat.lt_succ_self _)), Nat.ne_of_lt (Nat.lt_trans hL.2 (Nat.lt_trans (Nat.lt_succ_self _) (Nat.lt_succ_self _)))⟩
    · rw [List.mem_singleton.mp hp]
      exact ⟨Nat.ne_of_lt (Nat.lt_trans hL.1 (Nat.lt_succ_self _)), Nat.ne_of_lt (Nat.lt_trans hL.1 (Nat.lt_trans (Nat.lt_succ_self _) (Nat.lt_succ_self _)))⟩
  intro H9 tk9 S R aS aR vS9 vR9 kS kR oS9 hsS hsR hle hiS hiR hoS hoff9 F9 N9
  have h37 := hoff9 (37, tabObj #[rawInt 41, rawInt 4, .ref c9]) (.tail _ (.head _))
  refine law_Z B X T (Fr.put3 F9 rfl rfl rfl) N9 hsS hsR hle hiS hiR hoS hw0 hw1 hd9 hv9 hc37 ⟨Ne.symm h37.1, Ne.symm h37.2, Nat.ne_of_gt (Nat.lt_trans hL.2 (Nat.lt_trans (Nat.lt_succ_self _) (Nat.lt_succ_self _)))⟩ (by intro p hp; cases hp) CH2 hend
  run_tac sqEnd
end
end Mine
end

section
open PySem PySem.W PyProof.Rows PyProof.Rows.LCg PySem.Calls
set_option maxRecDepth 100000
namespace Mine
theorem Fr.put6 {h₀ h : Heap} {L : Addr} {m : PySem.Str → Option Value} {x1 x2 x3 x4 x5 x6 : PySem.Str} {v1 v2 v3 v4 v5 v6 : Option Value} (F : Fr h₀ L h m) (h1 : m x1 = v1) (h2 : m x2 = v2) (h3 : m x3 = v3) (h4 : m x4 = v4) (h5 : m x5 = v5) (h6 : m x6 = v6) : Fr h₀ L h (fun y => if y = x1 then v1 else if y = x2 then v2 else if y = x3 then v3 else if y = x4 then v4 else if y = x5 then v5 else if y = x6 then v6 else m y) := by
  have e : m = fun y => if y = x1 then v1 else if y = x2 then v2 else if y = x3 then v3 else if y = x4 then v4 else if y = x5 then v5 else if y = x6 then v6 else m y := by
    funext y
    split
    · rename_i q; rw [q, h1]
    split
    · rename_i q; rw [q, h2]
    split
    · rename_i q; rw [q, h3]
    split
    · rename_i q; rw [q, h4]
    split
    · rename_i q; rw [q, h5]
    split
    · rename_i q; rw [q, h6]
    · rfl
  exact e ▸ F
theorem news_pick9 {h₀ h : Heap} {L : Addr} {x a r b c d e f i : Addr × Obj} (N : News h₀ L h (x :: a :: r :: b :: c :: d :: e :: f :: i :: [])) : News h₀ L h (a :: b :: f :: i :: c :: d :: e :: []) := by
  run_tac sqBegin
  refine news_sub N ?_
  intro p hp
  simp only [List.mem_cons, List.not_mem_nil, or_false] at hp ⊢
  rcases hp with h | h | h | h | h | h | h <;> simp [h]
  run_tac sqEnd
theorem mod_number (z : Int) : 0 ≤ z.fmod (10 ^ 30) ∧ z.fmod (10 ^ 30) < 10 ^ 30 := by
  have h : (0 : Int) < 10 ^ 30 := Int.pow_pos (by decide)
  rw [Int.fmod_eq_emod_of_nonneg _ (by omega)]
  exact ⟨Int.emod_nonneg _ (by omega), Int.emod_lt_of_pos _ h⟩
set_option maxHeartbeats 4000000 in
theorem law0 : PySem.Challenge.rw_xi0008_01.Holds := by
  run_tac sqBegin
  refine hdC ?_
  k_fill
  intro w s₀ s₁ mg mb G Y fa o pm cd doc dV kV ho hd hcd hD hmg hg args vals as hpre hlay hrd hwl hlo
  have KX := km_in_of Y
  km_tabs Y
  have X := (Ground.X G).1
  have V := (Ground.X G).2
  refine Ground.open G ?_
  intro T B D TE TW
  try (refine guard_noD D (by decide +kernel) ?_; clear D)
  km_lay T hmg ho hd cd
  clear hmg
  wrow_args hpre hlay hrd hwl hlo
  obtain rfl : dV = .none := hD.none rfl
  obtain rfl : kV = .none := hD.kw.elim (fun h => h.2) fun h => absurd rfl h.1
  refine' codeC_top (args := ⟨[?v], []⟩) (binds := [(PySem.Str.ofString "script", ?v)]) (T.nolimit) ho hd hcd ?room ?bind ?kind ?nd ?_
  case room => decide +kernel
  case bind => exact BindsTo.of_eq rfl
  case kind =>
    intro n x hx
    simp only [List.mem_cons, List.not_mem_nil, or_false] at hx
    subst hx
    exact Or.inl (by rfl)
  case nd => dsimp only [docDef]; decide +kernel
  clear hd
  intro L' h₁ tk cells F N Y'
  kn_ghosts F T
  k_cells Y'
  dsimp only [docDef]
  rename (News _ _ _ _) => N1
  (try simp only [List.cons_append, List.nil_append] at N1)
  (try k_fold)
  (try dsimp only)
  refine wpC_execs_tk ?_
  intro tk0
  repeat' (first | (k_unfold; (try dsimp only)) | (k_end; wrow_close) | ((fail_if_success (with_reducible show wpAny _ _ (call (.ref _) _) _ _ _)); walk1) | ((fail_if_success (with_reducible show wpAny _ _ (call (.ref _) _) _ _ _)); dsimp only; walk1) | (leave1; walk_say "STEP leave1"; try dsimp only) | fail "no step")
  rename (Fr _ _ _ _) => F2
  rename (Below _ _ _ _) => B2
  rename (Top topProg _ _ _ _ (ghostOf _ _)) => T2
  rename (Frag.In _ (ghostOf _ _)) => X2
  rename (¬ (63 : Int) < _) => hlen
  rename (IntsAre _ _) => hI
  refine' heap_call B2 F2 X2 N1 T2 ?hk lifted hI ?hl ?dp ?un ?p ?_
  case hk => rfl
  case hl => omega
  case dp => decide
  case un => decide
  case p => decide
  intro gaps tg h2 tk2 hgaps F3 N3
  repeat' (first | (k_unfold; (try dsimp only)) | (k_end; wrow_close) | ((fail_if_success (with_reducible show wpAny _ _ (call (.ref _) _) _ _ _)); walk1) | ((fail_if_success (with_reducible show wpAny _ _ (call (.ref _) _) _ _ _)); dsimp only; walk1) | (leave1; walk_say "STEP leave1"; try dsimp only) | fail "no step")
  (try dsimp only)
  refine wpC_execs_tk ?_
  intro tk0
  repeat' (first | (k_unfold; (try dsimp only)) | (k_end; wrow_close) | ((fail_if_success (with_reducible show wpAny _ _ (call (.ref _) _) _ _ _)); walk1) | ((fail_if_success (with_reducible show wpAny _ _ (call (.ref _) _) _ _ _)); dsimp only; walk1) | (leave1; walk_say "STEP leave1"; try dsimp only) | fail "no step")
  rename (Fr _ _ _ _) => F4
  rename (News _ _ _ _) => N4
  refine' heap_call B2 F4 X2 N4 T2 ?hk lifted hI ?hl ?dp ?un ?p ?_
  case hk => rfl
  case hl => omega
  case dp => decide
  case un => decide
  case p => decide
  intro picks tpicks h5 tk5 hpicks F5 N5
  repeat' (first | (k_unfold; (try dsimp only)) | (k_end; wrow_close) | ((fail_if_success (with_reducible show wpAny _ _ (call (.ref _) _) _ _ _)); walk1) | ((fail_if_success (with_reducible show wpAny _ _ (call (.ref _) _) _ _ _)); dsimp only; walk1) | (leave1; walk_say "STEP leave1"; try dsimp only) | fail "no step")
  (try dsimp only)
  refine wpC_execs_tk ?_
  intro tk0
  repeat' (first | (k_unfold; (try dsimp only)) | (k_end; wrow_close) | ((fail_if_success (with_reducible show wpAny _ _ (call (.ref _) _) _ _ _)); walk1) | ((fail_if_success (with_reducible show wpAny _ _ (call (.ref _) _) _ _ _)); dsimp only; walk1) | (leave1; walk_say "STEP leave1"; try dsimp only) | fail "no step")
  rename (Fr _ _ _ _) => F6
  rename (News _ _ _ _) => N6
  refine' heap_call B2 F6 X2 N6 T2 ?hk lifted hI ?hl ?dp ?un ?p ?_
  case hk => rfl
  case hl => omega
  case dp => decide
  case un => decide
  case p => decide
  intro numb tnumb h7 tk7 hnumb F7 N7
  repeat' (first | (k_unfold; (try dsimp only)) | (k_end; wrow_close) | ((fail_if_success (with_reducible show wpAny _ _ (call (.ref _) _) _ _ _)); walk1) | ((fail_if_success (with_reducible show wpAny _ _ (call (.ref _) _) _ _ _)); dsimp only; walk1) | (leave1; walk_say "STEP leave1"; try dsimp only) | fail "no step")
  (try dsimp only)
  refine wpC_execs_tk ?_
  intro tk0
  repeat' (first | (k_unfold; (try dsimp only)) | (k_end; wrow_close) | ((fail_if_success (with_reducible show wpAny _ _ (call (.ref _) _) _ _ _)); walk1) | ((fail_if_success (with_reducible show wpAny _ _ (call (.ref _) _) _ _ _)); dsimp only; walk1) | (leave1; walk_say "STEP leave1"; try dsimp only) | fail "no step")
  (try dsimp only)
  refine wpC_execs_tk ?_
  intro tk0
  repeat' (first | (k_unfold; (try dsimp only)) | (k_end; wrow_close) | ((fail_if_success (with_reducible show wpAny _ _ (call (.ref _) _) _ _ _)); walk1) | ((fail_if_success (with_reducible show wpAny _ _ (call (.ref _) _) _ _ _)); dsimp only; walk1) | (leave1; walk_say "STEP leave1"; try dsimp only) | fail "no step")
  (try dsimp only)
  refine wpC_execs_tk ?_
  intro tk0
  repeat' (first | (k_unfold; (try dsimp only)) | (k_end; wrow_close) | ((fail_if_success (with_reducible show wpAny _ _ (exec (Stmt.For _ _ _ _ _) _) _ _ _)); walk1) | ((fail_if_success (with_reducible show wpAny _ _ (exec (Stmt.For _ _ _ _ _) _) _ _ _)); dsimp only; walk1) | (leave1; walk_say "STEP leave1"; try dsimp only) | fail "no step")
  rename (Fr _ _ _ _) => FW
  refine for_fr FW (by rfl) (by rfl) ?_
  repeat' (first | (k_unfold; (try dsimp only)) | (k_end; wrow_close) | ((fail_if_success (with_reducible show wpAny _ _ (pyIter _) _ _ _)); walk1) | ((fail_if_success (with_reducible show wpAny _ _ (pyIter _) _ _ _)); dsimp only; walk1) | (leave1; walk_say "STEP leave1"; try dsimp only) | fail "no step")
  rename (Fr _ _ _ _) => FW2
  rename (News _ _ _ _) => NW2
  refine' wts_range gaps ?hh ?hr FW2 NW2 ?hl ?_ ?_
  case hh => rfl
  case hr => assumption
  case hl => rfl
  · intro i t' P tl vs k' I oI h tk hi hvs hoff Fi Ni
    (try dsimp only at Fi Ni)
    repeat' (first | (k_unfold; (try dsimp only)) | (k_end; wrow_close) | ((fail_if_success (with_reducible show wpAny _ _ (binaryOp Operator.Pow _ _) _ _ _)); walk1) | ((fail_if_success (with_reducible show wpAny _ _ (binaryOp Operator.Pow _ _) _ _ _)); dsimp only; walk1) | (leave1; walk_say "STEP leave1"; try dsimp only) | fail "no step")
    refine pow_int (by omega) (by rw [show Builtin.Int.intBits (4 : Int) = 3 by decide]; omega) ?_
    repeat' (first | (k_unfold; (try dsimp only)) | (k_end; wrow_close) | ((fail_if_success (with_reducible show wpAny _ _ (binaryOp Operator.FloorDiv _ _) _ _ _)); walk1) | ((fail_if_success (with_reducible show wpAny _ _ (binaryOp Operator.FloorDiv _ _) _ _ _)); dsimp only; walk1) | (leave1; walk_say "STEP leave1"; try dsimp only) | fail "no step")
    refine floordiv_int (wts_four (g := 0) i).1 ?_ (Or.inl (PyProof.noPylong_small ((wts_four' hi).2)))
    rw [(wts_four (g := gaps) i).2]
    repeat' (first | (k_unfold; (try dsimp only)) | (k_end; wrow_close) | ((fail_if_success (with_reducible show wpAny _ _ (call (.builtin "list.append") _) _ _ _)); walk1) | ((fail_if_success (with_reducible show wpAny _ _ (call (.builtin "list.append") _) _ _ _)); dsimp only; walk1) | (leave1; walk_say "STEP leave1"; try dsimp only) | fail "no step")
    have hsz : vs.toArray.size ≤ sizeLine := by
      have := hvs.length
      rw [wtsZ_length] at this
      rw [List.size_toArray, sizeLine_eq]; omega
    have hIl := hoff _ (.head _)
    rename (Fr _ _ _ _) => Fa
    rename (News _ _ _ _) => Na
    refine append_K Fa Na (Upd.tail (Ne.symm hIl) (Upd.head ?_)) ?_ hsz
    · intro p hp
      simp only [List.mem_cons, List.not_mem_nil, or_false] at hp
      rename (_ + 1 + 1 < _ ∧ _) => l1
      rcases hp with rfl | rfl | rfl | rfl
      · exact Nat.ne_of_lt l1.1
      · exact Nat.ne_of_lt l1.2.1
      · exact Nat.ne_of_lt l1.2.2.1
      · exact Nat.ne_of_lt l1.2.2.2
    intro h3 Fb Nb
    rw [lastZ_step] at Fb Nb
    rw [List.push_toArray] at Nb
    repeat' (first | (k_unfold; (try dsimp only)) | (k_end; wrow_close) | (walk1) | (dsimp only; walk1) | (leave1; walk_say "STEP leave1"; try dsimp only) | fail "no step")
    refine LEnd.intro _ Fb Nb (fun p hp => hp) (fun p hp => ?_) ⟨_, _, _, _, put_norm2, rfl, wts_snoc hvs⟩
    rcases List.mem_cons.mp hp with rfl | hp
    · exact hIl
    · exact hoff p (.tail _ hp)
  intro h tk P tl vs k' hvs Fw Nw
  (try dsimp only)
  (try dsimp only at Fw Nw)
  refine wpC_execs_tk ?_
  intro tk0
  repeat' (first | (k_unfold; (try dsimp only)) | (k_end; wrow_close) | ((fail_if_success (with_reducible show wpAny _ _ (call (.ref _) _) _ _ _)); walk1) | ((fail_if_success (with_reducible show wpAny _ _ (call (.ref _) _) _ _ _)); dsimp only; walk1) | (leave1; walk_say "STEP leave1"; try dsimp only) | fail "no step")
  rename (Fr _ _ _ _) => F9
  rename (News _ _ _ _) => N9
  refine' ways_call B2 F9 X2 N9 T2 ?hk (ws := wtsZ gaps 8) ⟨_, .head _, Or.inl ⟨rfl, vs, _, rfl, hvs⟩⟩ (wtsZ_pos (by decide)) (by rw [wtsZ_length]; decide) ?dp ?un ?_
  case hk => rfl
  case dp => decide
  case un => decide
  intro WD ys k9 h9 tk9 hys hWD F10 N10
  repeat' (first | (k_unfold; (try dsimp only)) | (k_end; wrow_close) | ((fail_if_success (with_reducible show wpAny _ _ (call (.ref _) _) _ _ _)); walk1) | ((fail_if_success (with_reducible show wpAny _ _ (call (.ref _) _) _ _ _)); dsimp only; walk1) | (leave1; walk_say "STEP leave1"; try dsimp only) | fail "no step")
  (try dsimp only)
  refine wpC_execs_tk ?_
  intro tk0
  repeat' (first | (k_unfold; (try dsimp only)) | (k_end; wrow_close) | ((fail_if_success (with_reducible show wpAny _ _ (call (.ref _) _) _ _ _)); walk1) | ((fail_if_success (with_reducible show wpAny _ _ (call (.ref _) _) _ _ _)); dsimp only; walk1) | (leave1; walk_say "STEP leave1"; try dsimp only) | fail "no step")
  rename (IsRange _ _ _ _ _ _ _ _) => hr11
  have N12 := range_news (by assumption) (by assumption) hr11
  rename (Fr _ _ _ _) => F12
  refine' ways_call B2 F12 X2 N12 T2 ?hk (ws := (List.range 8).map fun i : Nat => 1 + (i : Int)) ⟨_, .head _, Or.inr ⟨1, 9, 8, _, _, _, rfl, by decide, by decide, rfl⟩⟩ (by decide) (by decide) ?dp ?un ?_
  case hk => rfl
  case dp => decide
  case un => decide
  intro MD zs k13 h13 tk13 hzs hMD F13 N13
  repeat' (first | (k_unfold; (try dsimp only)) | (k_end; wrow_close) | ((fail_if_success (with_reducible show wpAny _ _ (call (.ref _) _) _ _ _)); walk1) | ((fail_if_success (with_reducible show wpAny _ _ (call (.ref _) _) _ _ _)); dsimp only; walk1) | (leave1; walk_say "STEP leave1"; try dsimp only) | fail "no step")
  (try dsimp only)
  refine wpC_execs_tk ?_
  intro tk0
  repeat' (first | (k_unfold; (try dsimp only)) | (k_end; wrow_close) | ((fail_if_success (with_reducible show wpAny _ _ (call (.ref _) _) _ _ _)); walk1) | ((fail_if_success (with_reducible show wpAny _ _ (call (.ref _) _) _ _ _)); dsimp only; walk1) | (leave1; walk_say "STEP leave1"; try dsimp only) | fail "no step")
  rename (Fr _ _ _ _) => F14
  rename (News _ _ _ _) => N14
  refine' product_call B2 F14 X2 N14 T2 ?hk (ws := wtsZ gaps 8) ⟨_, .tail _ (.tail _ (.tail _ (.head _))), Or.inl ⟨rfl, vs, _, rfl, hvs⟩⟩ (wtsZ_pos (by decide)) (by rw [wtsZ_length]; decide) (by decide) ?dp ?un ?_
  case hk => rfl
  case dp => decide
  case un => decide
  intro tp h15 tk15 hbits F15 N15
  repeat' (first | (k_unfold; (try dsimp only)) | (k_end; wrow_close) | ((fail_if_success (with_reducible show wpAny _ _ (binaryOp _ _ _) _ _ _)); walk1) | ((fail_if_success (with_reducible show wpAny _ _ (binaryOp _ _ _) _ _ _)); dsimp only; walk1) | (leave1; walk_say "STEP leave1"; try dsimp only) | fail "no step")
  refine pow_int (by decide) (by decide) ?_
  repeat' (first | (k_unfold; (try dsimp only)) | (k_end; wrow_close) | ((fail_if_success (with_reducible show wpAny _ _ (binaryOp Operator.Mult _ _) _ _ _)); walk1) | ((fail_if_success (with_reducible show wpAny _ _ (binaryOp Operator.Mult _ _) _ _ _)); dsimp only; walk1) | (leave1; walk_say "STEP leave1"; try dsimp only) | fail "no step")
  refine mul_int ?_ (IntMulOk.of_le hbits (show PySem.Builtin.Int.intBits ((16 : Int) ^ (37 : Int).toNat) ≤ 200 by decide +kernel) (by decide))
  repeat' (first | (k_unfold; (try dsimp only)) | (k_end; wrow_close) | ((fail_if_success (with_reducible show wpAny _ _ (call (.ref _) _) _ _ _)); walk1) | ((fail_if_success (with_reducible show wpAny _ _ (call (.ref _) _) _ _ _)); dsimp only; walk1) | (leave1; walk_say "STEP leave1"; try dsimp only) | fail "no step")
  rename (IsRange _ _ _ _ _ _ _ _) => hr16
  have N16 := range_news (by assumption) (by assumption) hr16
  rename (Fr _ _ _ _) => F16
  refine' product_call B2 F16 X2 N16 T2 ?hk (ws := (List.range 8).map fun i : Nat => 1 + (i : Int)) ⟨_, .head _, Or.inr ⟨1, 9, 8, _, _, _, rfl, by decide, by decide, rfl⟩⟩ (by decide) (by decide) (by decide) ?dp ?un ?_
  case hk => rfl
  case dp => decide
  case un => decide
  intro tp2 h17 tk17 hbits2 F17 N17
  repeat' (first | (k_unfold; (try dsimp only)) | (k_end; wrow_close) | ((fail_if_success (with_reducible show wpAny _ _ (execs _ _) _ _ _)); walk1) | ((fail_if_success (with_reducible show wpAny _ _ (execs _ _) _ _ _)); dsimp only; walk1) | (leave1; walk_say "STEP leave1"; try dsimp only) | fail "no step")
  rename (Fr _ _ _ _) => F18
  rename (News _ _ _ _) => N18
  rename (_ + 1 + 1 < _ ∧ _) => hlw
  rename (44 < _ ∧ _) => hL
  have hmz := hzs
  rw [most_eq] at hmz
  (try dsimp only at F18 N18)
  (try dsimp only)
  rename (CodeHd _ (48, 44).fst (48, 44).snd) => hC1
  rename (CodeHd _ (41, 37).fst (41, 37).snd) => hC2
  refine' law_rest (g := gaps) B2 X2 T2 (Fr.put6 F18 (congrArg (fun z => some (Value.int z _)) (figs_of gaps)) rfl rfl rfl rfl rfl) (news_pick9 N18) hmz hys hvs (mod_number numb).1 (mod_number numb).2 hpicks ⟨_, by assumption⟩ ⟨_, by assumption⟩ hlw hL hC1 hC2 ?hE ?hend
  case hE =>
    delta lawA lawEnv lawScope
    passes_own
  case hend =>
    intro H' tk' m' ps37 ps44 news' F19 N19 m37 m44
    (try dsimp only)
    refine ⟨⟨_, rfl⟩, kn_pt w hT9 ?_ ⟨?_, GrownAt.of N19 m44, GrownAt.of N19 m37, True.intro⟩⟩
    · intro a x; rfl
    · clear F18 N18
      k_end
      wrow_close
  run_tac sqEnd
end Mine
end
theorem PySem.Challenge.cw_xi0008_01_holds : PySem.Challenge.rw_xi0008_01.Holds := by
  exact Mine.law0
