import PyProof.Rows.All
import Wide.All
import OpenK.AllK
import Wide.FinOn
import Lean
import PySem.Challenge.RW_ff0025_01
set_option Elab.async false
set_option maxRecDepth 100000
set_option maxHeartbeats 0
section
open PySem PySem.W PySem.Calls PyProof.Rows Lean Meta Elab
namespace Mine

theorem seg_mono {tb : String → Option Builtin} {p : Program} {w : World} {n₀ : Nat} {ann : Option Value} {b : Nat} (k : Nat) : ∀ (n : Nat) (s : Shared) (t : Thread) (r : Flow × Shared × Code × Pos),
    segRun tb p w n₀ ann b n s t = some r → segRun tb p w n₀ ann b (n + k) s t = some r
  | 0, _, _, _, h => by cases h
  | n + 1, s, t, r, h => by
    rw [show n + 1 + k = n + k + 1 by omega]
    unfold segRun at h ⊢
    split
    · next f e => rw [e] at h; exact h
    · next e =>
      rw [e] at h
      dsimp only at h ⊢
      split
      · next e => rw [e] at h; cases h
      · next e =>
        rw [e] at h
        dsimp only at h ⊢
        split
        · next s' t' e => rw [e] at h; exact seg_mono k n s' t' r h
        · next e => rw [e] at h; cases h
theorem seg_to {tb : String → Option Builtin} {p : Program} {w : World} {n₀ : Nat} {ann : Option Value} {b n N M : Nat} {s s' : Shared} {t t' : Thread} {r : Flow × Shared × Code × Pos}
    (h : segGo tb p w n₀ ann b n s t = some (s', t')) (k : segRun tb p w n₀ ann b N s' t' = some r) (le : Nat.ble (Nat.add n N) M = true) : segRun tb p w n₀ ann b M s t = some r := by
  have e := seg_mono (M - (n + N)) _ _ _ _ (seg_go h k)
  have l : n + N ≤ M := Nat.le_of_ble_eq_true le
  rwa [show n + N + (M - (n + N)) = M by omega] at e

/-- the states at which a turn of a comprehension begins, and the steps to them -/
def turns (p : Program) (w : World) (n : Nat) (s : Shared) (t : Thread) : Nat × Array (Nat × Shared) := Id.run do
  let mut s := s
  let mut t := t
  let mut m := 0
  let mut out := #[]
  for i in [0:n] do
    if (endAt 1 t).isSome then break
    let start := match t.cur with | .pure (.again (.compLoop ..)) => true | _ => false
    match step (denote table) p w s t with
    | .go s' t' =>
      s := s'
      t := t'
      m := i + 1
      if start then out := out.push (i + 1, s')
    | .halt _ _ => break
  return (m, out)

/-- a state of the top, as the shared tops keep it -/
def note (objs : Array (Obj × Obj × Lean.Expr)) (S : PySem.W.State) : MetaM TopState := do
  let some (t, n, l) := S.tree | throwError "layTop: no tree"
  let some n := n.rawNatLit? | throwError "layTop: its size"
  return ⟨t.constName!, n, l, S.gens, S.drawn, S.toks, objs.map (·.2.2.constName!)⟩
def named (ty pf : Lean.Expr) : MetaM Lean.Expr := do return mkConst (← withOptions (Elab.async.set · false) (mkAuxLemma [] ty pf (cache := false)))

/-- the objects of a state and its tree, written from the first in the form that the kernel reads quickly -/
def layQ (old : Array (Obj × Obj × Lean.Expr)) (s s' : Shared) : MetaM (Array (Obj × Obj × Lean.Expr)) := do
  unless s.heap.objs.size == s'.heap.objs.size && toExpr s.heap.life == toExpr s'.heap.life do throwError "layTop: the worlds part"
  let P := mkConst ``Params
  let mut out := #[]
  for ((o, o'), i) in (s.heap.objs.zip s'.heap.objs).zipIdx do
    if let some (a, a', e) := old[i]? then
      if sameObjNow a o && sameObjNow a' o' then
        out := out.push (a, a', e)
        continue
    let v ← withLocalDeclD `P P fun p => do
      let e := objE p o
      unless e == objE p o' do throwError "layTop: an object is the world's"
      mkLambdaFVars #[p] e
    let v := match ← Fast.quick v with | some (x, _) => x | none => v
    let c ← defAt `o (← mkArrow P (mkConst ``Obj)) v
    Fast.primed.modify (·.insert c.constName! none)
    out := out.push (o, o', c)
  return out
def stateQ (old : Array (Obj × Obj × Lean.Expr)) (s s' : Shared) : MetaM (Array (Obj × Obj × Lean.Expr) × PySem.W.State) := do
  let objs ← layQ old s s'
  unless toExpr s.drawn == toExpr s'.drawn && s.toks == s'.toks do throwError "layTop: the worlds part"
  let P := mkConst ``Params
  let v ← withLocalDeclD `P P fun p => mkLambdaFVars #[p] (treeE p (objs.map (·.2.2)) 1 0)
  let t ← defAt `tree (← mkArrow P (mkConst ``BT)) v
  Fast.primed.modify (·.insert t.constName! none)
  return (objs, { heap := default, gens := ← gensE s s', drawn := toExpr s.drawn, toks := mkRawNatLit s.toks, tree := some (t, mkRawNatLit s.heap.objs.size, toExpr s.heap.life) })
/-- the module's top, statement by statement, in large pieces; a long comprehension by its turns -/
def layTop (nm : Name) (pE : Lean.Expr) (most perCut : Nat) (rowC rowS : String) : Term.TermElabM Unit := do
  let p ← progOf pE
  let (t, t') ← match ← traceTop p 100000 1, ← traceTop p 100000 2 with
    | .ok t, .ok t' => pure (t, t')
    | _, _ => throwError "layTop: no trace"
  let (W, OS) := (mkConst ``World, mkConst ``OsState)
  let (tb, m0, annE) := (mkConst ``treeTable, natE t.s0.heap.objs.size, toExpr t.ann)
  let bE ← mkAppM ``behindTheImports #[pE]
  let some cells ← cellsD? bE | throwError "layTop: the body"
  unless cells.length == t.pieces.length do throwError "layTop: the body"
  let scope ← mkAppM ``Module.scope #[← mkAppM ``Program.main #[pE]]
  let (pS, cS) := (← Term.exprToSyntax scope, ← Term.exprToSyntax (toExpr t.code))
  let envV ← instantiateMVars (← Term.withSynthesize (Term.elabTermEnsuringType (← `(({ scope := $pS, locals := mainNs, globals := mainNs, cells := [], code := $cS, frame := some $(quote t.frame) } : Env))) (mkConst ``Env)))
  let envE ← defAt `env (mkConst ``Env) envV
  let qE := toExpr t.framePos
  let B := listE (mkConst ``Frame) [mkApp (mkConst ``topFrame) qE]
  let cE := mkApp2 (mkConst ``Code.body) bE envE
  let one := natE 1
  let run (f : Name) (n w s th : Lean.Expr) : Lean.Expr := mkAppN (mkConst f) #[tb, pE, w, m0, annE, one, n, s, th]
  let fin (w os : Lean.Expr) (S : PySem.W.State) (pos : Pos) (T : Bool) : MetaM Lean.Expr := do
    mkAppM ``some #[← mkAppM ``Prod.mk #[mkConst ``Flow.next, ← mkAppM ``Prod.mk #[if T then S.atT w os else S.at w os, ← mkAppM ``Prod.mk #[cE, toExpr pos]]]]
  let boot := (Array.range t.s0.heap.objs.size).map fun i => (t.s0.heap.objs[i]!, t'.s0.heap.objs[i]!, mkConst ((`PySem.W).str s!"boot_o_{i}"))
  let bootQ ← boot.mapM fun (a, b, e) => do return (a, b, match ← Fast.prime e.constName! with | some (n, _) => mkConst n | none => e)
  let (oB, Sb) ← stateQ (← layQ bootQ t.pre.s t'.pre.s) t.block.s t'.block.s
  -- the groups: runs of statements of at most «most» steps that ask no row; a statement that asks one stands alone
  let mut groups : Array (List Lean.Expr × Nat × Snap × Snap × Bool) := #[]
  for (st, x, x') in cells.zip (t.pieces.zip t'.pieces) do
    let alone := !(x.rows.isEmpty && x'.rows.isEmpty)
    let n := max x.steps x'.steps
    match groups.back? with
    | some (l, m, _, _, al) => if !alone && !al && m + n ≤ most then groups := groups.pop.push (l ++ [st], m + n, x, x', false) else groups := groups.push ([st], n, x, x', alone)
    | none => groups := groups.push ([st], n, x, x', alone)
  let mut o := oB
  let mut S := Sb
  let mut pos := t.block.pos
  let mut (from1, from2) := (t.block.s, t'.block.s)
  let mut idx := 0
  let mut lems : Array (Lean.Expr × PySem.W.State × Pos × PySem.W.State × Nat × Pos × Lean.Expr) := #[]
  for (sts, n, x, x', alone) in groups do
    let t0 ← IO.monoMsNow
    let stE ← defAt `sts (mkApp (mkConst ``List [0]) (mkConst ``Stmt)) (listE (mkConst ``Stmt) sts)
    let (S1, pos1, oNow) := (S, pos, o)
    let whole := mkAppN (mkConst ``piecesOf) #[stE, envE, cE, toExpr pos1, B]
    let (o', S') ← stateQ oNow x.s x'.s
    let M := n + 1
    let lem ← if !alone then liftT (← byPiece [] (fun w os => pure (run ``segRunT (natE M) w (S1.atT w os) whole)) fun w os => fin w os S' x.pos true) ``segRun_of
      else do
        let th := piecesOf ((t.body.drop idx).take 1) t.benv t.bcode pos1 [topFrame t.framePos]
        let (m1, a1) := turns p (← fixWorld 1 true) 100000 from1 th
        let (m2, a2) := turns p (← fixWorld 2 false) 100000 from2 th
        unless m1 == x.steps && m2 == x'.steps && a1.size == a2.size && a1.size > 0 do throwError "layTop: the turns {m1} {m2} {a1.size} {a2.size}"
        -- the first turn begins at another place of the text than the others
        let (a1, a2) := (a1.extract 1 a1.size, a2.extract 1 a2.size)
        let follow (r : String) (b : Bool) (w : Lean.Expr) : Lean.Expr := mkApp3 (mkConst ``World.withFollow) w (mkStrLit r) (mkConst (if b then ``Bool.true else ``Bool.false))
        let some ((c1, f1), (c2, f2)) := (a1.zip a2)[0]? | throwError "layTop: no turn"
        let (of_, Sf) ← stateQ oNow f1 f2
        let thrV ← withLocalDeclD `w W fun w => withLocalDeclD `os OS fun os => do
          let v := follow rowS false (follow rowC true w)
          let r ← whnfQuick (run ``segGoT (natE c1) v (S1.atT v os) whole)
          unless r.isAppOfArity ``Option.some 2 do throwError "layTop: no state"
          let r ← Dig.kw r.appArg!
          unless r.isAppOfArity ``Prod.mk 4 do throwError "layTop: no pair"
          mkLambdaFVars #[w, os] (r.appArg!.replace fun e => if e == v then some w else none)
        let thr ← defAt `thread (← mkArrow W (← mkArrow OS (mkConst ``Thread))) thrV
        Fast.primed.modify (·.insert thr.constName! none)
        let at_ (w os : Lean.Expr) := mkApp2 thr w os
        let go (ws : Lean.Expr → Lean.Expr) (c : Nat) (Sp Sn : PySem.W.State) (tp : Lean.Expr → Lean.Expr → Lean.Expr) : MetaM Lean.Expr := do
          liftT (← byPiece [rowS] (fun w os => pure (run ``segGoT (natE c) (ws w) (Sp.atT (ws w) os) (tp (ws w) os))) fun w os => do mkAppM ``some #[← mkAppM ``Prod.mk #[Sn.atT (ws w) os, at_ (ws w) os]]) ``segGo_of
        -- the way to the first turn, for either answer
        let firsts ← [(false, c2), (true, c1)].mapM fun (b, c) => go (follow rowC b) c S1 Sf fun _ _ => whole
        logInfo m!"first {(← IO.monoMsNow) - t0} ms"
        -- the turns
        let mut ls := #[]
        let mut Sp := Sf
        let mut oj := of_
        let mut at0 := c1
        for (((k1, s1), (k2, s2)), i) in (a1.zip a2).zipIdx do
          if i > 0 && (i % perCut == 0) then
            unless k1 - c1 == k2 - c2 do throwError "layTop: the turns part"
            let (o2, Sn) ← stateQ oj s1 s2
            let c := k1 - at0
            ls := ls.push (c, Sp, Sn, ← go id c Sp Sn at_)
            oj := o2
            Sp := Sn
            at0 := k1
            logInfo m!"turns {i} {(← IO.monoMsNow) - t0} ms"
        let left := m1 - at0 + 1
        let Sl := Sp
        let last ← liftT (← byPiece [rowS] (fun w os => pure (run ``segRunT (natE left) w (Sl.atT w os) (at_ w os))) fun w os => fin w os S' x.pos true) ``segRun_of
        logInfo m!"last {(← IO.monoMsNow) - t0} ms"
        let mut Nr := natE left
        for (c, _, _, _) in ls.toList.reverse do Nr := mkApp2 (mkConst ``Nat.add) (natE c) Nr
        let rest ← do
          let (ty, pf) ← withLocalDeclD `w W fun w => do
            let (f, g, r) ← withLocalDeclD `os OS fun os => do
              let r ← fin w os S' x.pos false
              let mut k ← mkAppM ``congrFun #[mkApp last w, os]
              let mut N := natE left
              for (c, Sp, Sn, l) in ls.toList.reverse do
                k := mkAppN (mkConst ``seg_go) #[tb, pE, w, m0, annE, one, natE c, N, Sp.at w os, Sn.at w os, at_ w os, at_ w os, r.appArg!, ← mkAppM ``congrFun #[mkApp l w, os], k]
                N := mkApp2 (mkConst ``Nat.add) (natE c) N
              pure (← mkLambdaFVars #[os] k, ← mkLambdaFVars #[os] (run ``segRun N w (Sf.at w os) (at_ w os)), ← mkLambdaFVars #[os] r)
            pure (← mkForallFVars #[w] (← mkEq g r), ← mkLambdaFVars #[w] (← mkAppM ``funext #[f]))
          named ty pf
        let P ← withLocalDeclD `w W fun w => do
          let (g, r) ← withLocalDeclD `os OS fun os => do pure (← mkLambdaFVars #[os] (run ``segRun (natE M) w (S1.at w os) whole), ← mkLambdaFVars #[os] (← fin w os S' x.pos false))
          mkLambdaFVars #[w] (← mkEq g r)
        let sides ← ([(false, c2), (true, c1)].zip firsts).mapM fun ((b, c), l) => do
          let le ← mkDecideProof (← mkEq (mkApp2 (mkConst ``Nat.ble) (mkApp2 (mkConst ``Nat.add) (natE c) Nr) (natE M)) (mkConst ``Bool.true))
          let (ty, pf) ← withLocalDeclD `w W fun w => do
            let v := follow rowC b w
            let f ← withLocalDeclD `os OS fun os => do
              mkLambdaFVars #[os] (mkAppN (mkConst ``seg_to) #[tb, pE, v, m0, annE, one, natE c, Nr, natE M, S1.at v os, Sf.at v os, whole, at_ v os, (← fin v os S' x.pos false).appArg!, ← mkAppM ``congrFun #[mkApp l w, os], ← mkAppM ``congrFun #[mkApp rest v, os], le])
            pure (← mkForallFVars #[w] (mkApp P v).headBeta, ← mkLambdaFVars #[w] (← mkAppM ``funext #[f]))
          named ty pf
        pure (mkApp4 (mkConst ``byRow2) (mkStrLit rowC) P sides[0]! sides[1]!)
    logInfo m!"{sts.length} statements, {n} steps: {(← IO.monoMsNow) - t0} ms"
    lems := lems.push (stE, S1, pos1, S', M, x.pos, lem)
    o := o'
    S := S'
    pos := x.pos
    idx := idx + sts.length
    from1 := x.s
    from2 := x'.s
  let (Sk, posK) := (S, pos)
  let stL := mkApp (mkConst ``List [0]) (mkConst ``Stmt)
  let (ty, pf) ← withLocalDeclD `p (mkConst ``Program) fun pv => withLocalDeclD `b stL fun b => withLocalDeclD `w W fun w => withLocalDeclD `os OS fun os =>
    withLocalDeclD `rest stL fun rest => withLocalDeclD `N (mkConst ``Nat) fun N => withLocalDeclD `r (mkConst ``Shared) fun r => do
      let top (n s th : Lean.Expr) : Lean.Expr := mkAppN (mkConst ``topRun) #[tb, pE, w, m0, annE, n, s, th]
      let th (l : Lean.Expr) (q : Pos) : Lean.Expr := mkAppN (mkConst ``restOf) #[l, envE, cE, toExpr q, B]
      let someR ← mkAppM ``some #[r]
      withLocalDeclD `h (← mkEq (top N (Sk.at w os) (th rest posK)) someR) fun h => do
        let mut k := h
        let mut N' := N
        let mut rs := rest
        for (stE, S1, pos1, S', M, pos', lem) in lems.toList.reverse do
          k := mkAppN (mkConst ``piece_app) #[tb, pE, w, m0, annE, envE, qE, natE M, N', S1.at w os, S'.at w os, r, stE, rs, cE, toExpr pos1, toExpr pos', ← mkAppM ``congrFun #[mkApp lem w, os], k]
          N' := mkApp2 (mkConst ``Nat.add) (natE M) N'
          rs ← mkAppM ``HAppend.hAppend #[stE, rs]
        let xs := #[pv, b, w, os, rest, N, r, h]
        pure (← mkForallFVars xs (← mkEq (top N' (Sb.at w os) (th rs t.block.pos)) someR), ← mkLambdaFVars xs k)
  let chain := nm ++ `chain
  addDecl (.thmDecl { name := chain, levelParams := [], type := ty, value := pf })
  let (nB, nK) := (← note oB Sb, ← note o Sk)
  let e : TopEntry := ⟨cells.toArray, lems.map (·.1.constName!), lems.map (·.2.2.2.2.1), chain, envE.constName!, m0, annE, qE, toExpr t.block.pos, toExpr posK, boot.map (·.2.2.constName!), nB, nK⟩
  modifyEnv fun env => topsExt.addEntry env e
  logInfo m!"LAID {cells.length} statements, {lems.size} pieces"

/-- the objects at written places, read in one walk over the heap -/
def picks : List Nat → List Obj → List (Option Obj)
  | [], _ => []
  | d :: ds, os => match os.drop d with
    | [] => none :: picks ds []
    | o :: r => alive o :: picks ds r
def adds : Nat → List Nat → List Addr
  | _, [] => []
  | b, d :: ds => Nat.add b d :: adds (Nat.succ (Nat.add b d)) ds
theorem picks_eq (h : Heap) : ∀ (ds : List Nat) (b : Nat), picks ds (h.objs.toList.drop b) = (adds b ds).map h.get?
  | [], _ => rfl
  | d :: ds, b => by
    have e : (h.objs.toList.drop b).drop d = h.objs.toList.drop (b + d) := by rw [List.drop_drop]
    have q := List.head?_drop (l := h.objs.toList) (i := b + d)
    have t := List.tail_drop (l := h.objs.toList) (i := b + d)
    have g : h.get? (b + d) = (h.objs.toList[b + d]?).bind alive := by
      unfold Heap.get?
      rw [← Array.getElem?_toList]
      cases h.objs.toList[b + d]? with
      | none => rfl
      | some o => obtain ⟨c, dd, dt, sl⟩ := o; cases dt <;> rfl
    unfold picks adds
    rw [e, List.map_cons]
    show _ = h.get? (b + d) :: (adds (b + d + 1) ds).map h.get?
    rw [g, ← picks_eq h ds (b + d + 1), ← t, ← q]
    cases h.objs.toList.drop (b + d) with
    | nil => rfl
    | cons o r => rfl
theorem picks_all (h : Heap) (ds : List Nat) : picks ds h.objs.toList = (adds 0 ds).map h.get? := by
  have := picks_eq h ds 0
  rwa [List.drop_zero] at this
def pickHook (K : Params → Frag) (gs : List Nat) (e : ∀ P, adds 0 gs = (K P).map (·.1)) (ts : List Addr) : Hook where
  α := List (Option Obj) × List (Option Obj)
  obs := fun s => (picks gs s.heap.objs.toList, ts.map s.heap.get?)
  val := fun w => ((K w.params).map fun p => some p.2, ts.map fun _ => some (tabObj #[]))
  says := fun w h => InK K w h ∧ ∀ P ∈ ts, h.get? P = some (tabObj #[])
  of := fun w s x => ⟨InK.of e w s ((picks_all s.heap gs).symm.trans (Prod.mk.inj x).1), List.map_inj_left.mp (Prod.mk.inj x).2⟩
  keeps := fun w h h' x k => ⟨InK.keeps w h h' x.1 k, fun P hP => k _ _ (x.2 P hP)⟩
theorem pick_in {K : Params → Frag} {gs : List Nat} {e : ∀ P, adds 0 gs = (K P).map (·.1)} {ts : List Addr} {w : World} {h : Heap} (Y : (pickHook K gs e ts).says w h) : (K w.params).In h := Y.1
theorem pick_tabs {K : Params → Frag} {gs : List Nat} {e : ∀ P, adds 0 gs = (K P).map (·.1)} {ts : List Addr} {w : World} {h : Heap} (Y : (pickHook K gs e ts).says w h) : ∀ P ∈ ts, h.get? P = some (tabObj #[]) := Y.2

open Tactic in
def makeK : TacticM Unit := do
  let p ← progOf (mkConst ``PySem.Challenge.pw_ff0025_01)
  discard <| Term.withDeclName `Mine.hd (mkFrag p (some "law"))
theorem made : True := by
  run_tac makeK
  trivial

open Tactic in
def myHead : TacticM Unit := withMainContext do
  let ty ← whnfR (← instantiateMVars (← getMainTarget))
  let r ← if ty.isAppOfArity ``OpenRowC.Holds 1 then mkAppM ``RowC.toRowW #[← mkAppM ``OpenRowC.toRowC #[ty.appArg!]] else mkAppM ``OpenRow.toRowW #[ty.appArg!]
  let pE ← whnfR (← mkAppM ``RowW.prog #[r])
  let t0 ← IO.monoMsNow
  layTop `Mine.top pE 700 8 "comprehension-iter-twice" "special-get-raises"
  logInfo m!"top {(← IO.monoMsNow) - t0} ms"
  let as := (← kPairs `Mine.hd.heap_1 (mkConst ``Nat.zero)).map (·.1)
  let gs := (as.foldl (fun (l, b) a => (l.push (mkRawNatLit (a - b)), a + 1)) ((#[] : Array Lean.Expr), 0)).1
  let (kS, gS) := (← Term.exprToSyntax (mkConst `Mine.hd.heap_1), ← Term.exprToSyntax (listE (mkConst ``Nat) gs.toList))
  evalTactic (← `(tactic| o_head (pickHook $kS $gS (fun _ => by kernel_rfl) [1695])))
  logInfo m!"head {(← IO.monoMsNow) - t0} ms"
local macro_rules | `(tactic| k_head) => `(tactic| run_tac myHead)
open_top hd2 for PySem.Challenge.rw_ff0025_01
end Mine
end
section
open PySem PySem.W PySem.Calls PyProof.Rows PySem.Spec
namespace Mine
theorem fresh_F0 : True := by
  w_top off
  run_tac do
    walkLines.set (0, {})
    walkStart.set 0
    walkLate.set false
  trivial

abbrev Ext (h h' : Heap) : Prop := ∀ b o, h.get? b = some o → h'.get? b = some o

theorem ext_hide_but {h h' : Heap} {l : List Addr} (k : ∀ b o, b ∉ l → h.get? b = some o → h'.get? b = some o) : Ext (hideAll h l) (hideAll h' l) := by
  intro b o e
  by_cases hb : b ∈ l
  · rw [hideAll_none l hb] at e; cases e
  · exact hideAll_get l (k b o hb (of_hideAll l e)) hb
theorem ext_hide {h h' : Heap} {l : List Addr} (k : Ext h h') : Ext (hideAll h l) (hideAll h' l) := ext_hide_but fun b o _ e => k b o e
theorem hide_ext {h : Heap} {l : List Addr} : Ext (hideAll h l) h := fun _ _ e => of_hideAll l e
theorem ext_into {h₀ h : Heap} {l : List Addr} (k : Ext h₀ h) (n : ∀ b ∈ l, h₀.get? b = none) : Ext h₀ (hideAll h l) := fun b o e =>
  hideAll_get l (k b o e) fun hb => by rw [n b hb] at e; cases e

section
variable {prog : Program} {w : World} {A : Around} {R : Result → Shared → Prop} {s : Shared}

/-- a comprehension's loop by what holds of the heap beside its own objects -/
theorem compLoop_J {elt iter : Expr} {x : Str} {px : Pos} {scope : Scope} {pos : Pos} {I D : Addr} {fp wr : List Addr} {n : Nat} {P : Nat → Value → Prop} {St : Nat → Heap → Prop}
    {cenv : Env} {m : Str → Option Value} (W : Walks prog w A I fp wr n P St) (J : Nat → List Value → Heap → Prop)
    (hlive : ∀ i h, St i h → ∀ b ∈ wr, ∃ o, h.get? b = some o)
    (hmono : ∀ j ys h h', Ext h h' → J j ys h → J j ys h')
    (hx : cenv.kindOf x = some .local) (hp : (cenv.scope.kind == .class || (cenv.scope.kind == .module && cenv.locals != cenv.globals)) = false)
    (hDC : D ≠ cenv.locals) (hDf : D ∉ fp) (hCf : cenv.locals ∉ fp)
    (hst : St 0 s.heap) (hacc : s.heap.PlainList D #[]) (hn : s.heap.Ns cenv.locals m) (hJ : J 0 [] (hideAll s.heap (D :: cenv.locals :: wr)))
    (helt : ∀ i v ys s₂ m₂, i < n → P i v → s₂.heap.Ns cenv.locals m₂ → m₂ x = some v → (∃ h tk, s₂ = { s with heap := h, toks := tk }) →
      (∀ b ∈ D :: cenv.locals :: wr, ∃ o, s₂.heap.get? b = some o) → J i ys (hideAll s₂.heap (D :: cenv.locals :: wr)) → ys.length = i →
      wpAny (model prog w) A (eval elt cenv) (fun y s₃ => ∃ h' tk, s₃ = { s₂ with heap := h', toks := tk } ∧ (∀ b ∈ D :: cenv.locals :: fp, ∀ o, s₂.heap.get? b = some o → h'.get? b = some o) ∧
        J (i + 1) (ys ++ [y]) (hideAll h' (D :: cenv.locals :: wr))) (notedBy (model prog w) A cenv fun e s' => R (.error e) s') s₂)
    (hR : ∀ h' tk m' ys, ys.length = n → h'.Ns cenv.locals m' → h'.PlainList D ys.toArray → J n ys (hideAll h' (D :: cenv.locals :: wr)) → R (.ok .next) { s with heap := h', toks := tk })
    (hsz : n ≤ sizeLine) :
    codeAny (model prog w) A (.compLoop (.ListComp elt [⟨.Name x px, iter, [], 0⟩] scope pos) 0 (.ref I) (.ref D) cenv) R s := by
  refine codeAny_compLoop_list
    (fun k s' => ∃ h' tk m' ys, s' = { s with heap := h', toks := tk } ∧ St ys.length h' ∧ h'.PlainList D ys.toArray ∧ h'.Ns cenv.locals m' ∧
      J ys.length ys (hideAll h' (D :: cenv.locals :: wr)) ∧ ys.length ≤ n ∧ k = n + 1 - ys.length) ?_ (n + 1)
    ⟨s.heap, s.toks, m, [], rfl, hst, hacc, hn, hJ, Nat.zero_le _, rfl⟩
  rintro k s' ⟨H, tk, m', ys, rfl, hst', hacc', hn', hJ', hi, rfl⟩
  have hCw : cenv.locals ∉ wr := fun h => hCf (W.sub _ h)
  have hDw : D ∉ wr := fun h => hDf (W.sub _ h)
  by_cases hlt : ys.length < n
  · refine W.item ys.length _ _ _ hlt hst' fun v h₁ tk₁ hPv hst₁ hk₁ => ?_
    refine wpAny_assign_Name (wpAny_storeName_local hx (hn'.at' fun o e => hk₁ _ o hCw e) (fun h₂ hn₂ hs₂ => ?_) hp)
    have hst₂ : St (ys.length + 1) h₂ := W.frame _ _ _ hst₁ fun b hb o e => hs₂.extBut b o (fun h => hCf (h ▸ hb)) e
    have hacc₂ : h₂.PlainList D ys.toArray := hacc'.at fun o e => hs₂.extBut D o hDC (hk₁ D o hDw e)
    have hJ₂ : J ys.length ys (hideAll h₂ (D :: cenv.locals :: wr)) := hmono _ _ _ _ (ext_hide_but fun b o hb e => by
      simp only [List.mem_cons, not_or] at hb
      exact hs₂.extBut b o hb.2.1 (hk₁ b o hb.2.2 e)) hJ'
    have alive : ∀ b ∈ D :: cenv.locals :: wr, ∃ o, h₂.get? b = some o := by
      intro b hb
      rcases List.mem_cons.mp hb with rfl | hb
      · obtain ⟨_, e⟩ := hacc₂; exact ⟨_, e⟩
      · rcases List.mem_cons.mp hb with rfl | hb
        · obtain ⟨o, _, _, e, _⟩ := hn₂; exact ⟨o, e⟩
        · exact hlive _ _ hst₂ b hb
    refine wpAny_mono (helt ys.length v ys { s with heap := h₂, toks := tk₁ + 1 } _ hlt hPv hn₂ (by simp) ⟨_, _, rfl⟩ alive hJ₂ rfl) (fun y s₃ h₃ => ?_) fun _ _ e => e
    obtain ⟨h₃, tk₃, rfl, hk₃, hJ₃⟩ := h₃
    have hst₃ : St (ys.length + 1) h₃ := W.frame _ _ _ hst₂ fun b hb o e => hk₃ b (List.mem_cons_of_mem _ (List.mem_cons_of_mem _ hb)) o e
    have hacc₃ : h₃.PlainList D ys.toArray := hacc₂.at fun o e => hk₃ D (List.mem_cons_self ..) o e
    have hn₃ := hn₂.at' fun o e => hk₃ cenv.locals (List.mem_cons_of_mem _ (List.mem_cons_self ..)) o e
    refine wpAny_list_append_plain (hsz := by rw [List.size_toArray]; omega) hacc₃ fun h₄ hl₄ hs₄ => ?_
    have e1 : (ys ++ [y]).length = ys.length + 1 := by rw [List.length_append, List.length_singleton]
    refine ⟨n + 1 - (ys.length + 1), by omega, h₄, tk₃, _, ys ++ [y], rfl, ?_, ?_, hn₃.sameBut hs₄ (Ne.symm hDC), ?_, (by rw [e1]; exact hlt), (by rw [e1])⟩
    · rw [e1]; exact W.frame _ _ h₄ hst₃ fun b hb o e => hs₄.extBut b o (fun h => hDf (h ▸ hb)) e
    · simpa using hl₄
    · rw [e1]
      exact hmono _ _ _ _ (ext_hide_but fun b o hb e => by
        simp only [List.mem_cons, not_or] at hb
        exact hs₄.extBut b o hb.1 e) hJ₃
  · have hin : ys.length = n := by omega
    refine W.done _ _ _ (hin ▸ hst') fun h₁ tk₁ hk₁ => ?_
    refine hR h₁ tk₁ m' ys hin (hn'.at' fun o e => hk₁ _ o hCw e) (hacc'.at fun o e => hk₁ _ o hDw e) ?_
    exact hin ▸ hmono _ _ _ _ (ext_hide_but fun b o hb e => by
        simp only [List.mem_cons, not_or] at hb
        exact hk₁ b o hb.2.2 e) hJ'
end
end Mine
end
section
open PySem PySem.W PySem.Calls PyProof.Rows PySem.Spec
namespace Mine
theorem fresh_F1 : True := by
  w_top off
  run_tac do
    walkLines.set (0, {})
    walkStart.set 0
    walkLate.set false
  trivial
section
variable {prog : Program} {w : World} {A : Around} {E : Value → Shared → Prop} {env : Env}

/-- what a turn of a comprehension shows: it leaves what is hidden and adds to J -/
def EltJ (prog : Program) (w : World) (A : Around) (env : Env) (scope : Scope) (cl : List (Str × Addr)) (x : Str) (elt : Expr) (n : Nat) (P : Nat → Value → Prop) (src : List Addr) (J : Nat → List Value → Heap → Prop) (s₁ : Shared) : Prop :=
  ∀ C i v ys Hd s₂ m₂ E', (∀ b ∈ Hd, s₁.heap.get? b = none) → (∀ b ∈ Hd, ∃ o, s₂.heap.get? b = some o) → i < n → P i v → s₂.heap.Ns C m₂ → m₂ x = some v → (∃ h tk, s₂ = { s₁ with heap := h, toks := tk }) →
    J i ys (hideAll s₂.heap Hd) → ys.length = i → s₁.heap.objs.size ≤ C →
    wpAny (model prog w) A (eval elt (compEnvC scope cl C env)) (fun y s₃ => ∃ h' tk, s₃ = { s₂ with heap := h', toks := tk } ∧ (∀ b ∈ Hd ++ src, ∀ o, s₂.heap.get? b = some o → h'.get? b = some o) ∧ J (i + 1) (ys ++ [y]) (hideAll h' Hd)) E' s₂

def DoneJ (n : Nat) (J : Nat → List Value → Heap → Prop) (s₁ : Shared) (Q : Value → Shared → Prop) : Prop :=
  ∀ D ys h' tk Hd k, ys.length = n → (∀ b ∈ Hd, s₁.heap.get? b = none) → D ∈ Hd → h'.get? D = some { cls := .type "list", data := .seq ys.toArray k } → J n ys (hideAll h' Hd) → Q (.ref D) { s₁ with heap := h', toks := tk }

theorem compBlock_J {elt iter : Expr} {x : Str} {px : Pos} {scope : Scope} {cl : List (Str × Addr)} {pos : Pos} {s₁ s₂ : Shared} {I : Addr} {src : List Addr} {n : Nat} {P : Nat → Value → Prop}
    {St : Nat → Heap → Prop} (W : Walks prog w A I (I :: src) [I] n P St) (hsz : n ≤ sizeLine) (J : Nat → List Value → Heap → Prop) {RR : Value → Addr → Result → Shared → Prop}
    (hlive : ∀ i h, St i h → ∃ o, h.get? I = some o)
    (hmono : ∀ j ys h h', Ext h h' → J j ys h → J j ys h')
    (hcell : ∀ y ∈ scope.names, y.2 ≠ .cell) (hkind : scope.kind = .function) (hx : scope.names.lookup x = some .local) (hst : St 0 s₂.heap)
    (h12 : ∃ h tk, s₂ = { s₁ with heap := h, toks := tk }) (k12 : Ext s₁.heap s₂.heap) (hI : s₁.heap.get? I = none) (hsrc : ∀ b ∈ src, b < s₁.heap.objs.size) (hle : s₁.heap.objs.size ≤ s₂.heap.objs.size)
    (hJ : J 0 [] s₁.heap) (hq : EltJ prog w A env scope cl x elt n P src J s₁)
    (hRR : ∀ D C h' tk m' ys Hd, C ∈ Hd → D ≠ C → s₂.heap.get? D = none → s₂.heap.get? C = none → h'.Ns C m' → h'.PlainList D ys.toArray → ys.length = n → (∀ b ∈ Hd, s₁.heap.get? b = none) → D ∈ Hd → J n ys (hideAll h' Hd) → RR (.ref D) C (.ok .next) { s₂ with heap := h', toks := tk }) :
    wpAny (model prog w) A (newList []) (fun acc s₃ => wpAny (model prog w) A (newFunctionEnv scope env.globals cl [] env.qual none .none (some env)) (fun cenv s₄ =>
      codeAny (model prog w) A (.compStart (.ListComp elt [⟨.Name x px, iter, [], 0⟩] scope pos) 0 (.ref I) acc { cenv with scope := relabel scope env }) (RR acc cenv.locals) s₄) E s₃) E s₂ := by
  refine wpAny_newObj_type (wpAny_newFunctionEnv hcell (by intro y hy; simp at hy) (fun h₁ hns₁ hsb₁ => ?_) hkind)
  dsimp only at hns₁ hsb₁ ⊢
  generalize hH2 : s₂.heap.push { cls := .type "list", dict := none, data := .seq ([] : List Value).toArray } = H2 at hns₁ hsb₁ ⊢
  have hC : H2.objs.size = s₂.heap.objs.size + 1 := by rw [← hH2, Heap.size_push]
  have hDC : s₂.heap.objs.size ≠ H2.objs.size := by rw [hC]; exact Nat.ne_of_lt (Nat.lt_succ_self _)
  obtain ⟨oI, hoI⟩ := hlive _ _ hst
  have hIlt : I < s₂.heap.objs.size := Heap.lt_size hoI
  have hfp : ∀ b ∈ I :: src, b < s₂.heap.objs.size := fun b hb => by
    rcases List.mem_cons.mp hb with rfl | hb
    · exact hIlt
    · exact Nat.lt_of_lt_of_le (hsrc b hb) hle
  have hDf : s₂.heap.objs.size ∉ I :: src := fun hm => Nat.lt_irrefl _ (hfp _ hm)
  have hCf : H2.objs.size ∉ I :: src := fun hm => by have := hfp _ hm; rw [hC] at this; exact Nat.lt_irrefl _ (Nat.lt_of_succ_lt this)
  have below : ∀ b, b < s₂.heap.objs.size → b ≠ H2.objs.size ∧ b ≠ s₂.heap.objs.size := fun b hb => ⟨by rw [hC]; exact Nat.ne_of_lt (Nat.lt_succ_of_lt hb), Nat.ne_of_lt hb⟩
  have old : ∀ b o, s₂.heap.get? b = some o → h₁.get? b = some o := fun b o e => hsb₁.extBut b o (below b (Heap.lt_size e)).1 (Heap.get?_push_of_some _ (hH2 ▸ Heap.get?_push_of_some _ e))
  have hacc : h₁.PlainList s₂.heap.objs.size #[] := ⟨_, hsb₁.extBut _ _ hDC (Heap.get?_push_of_some _ (hH2 ▸ Heap.get?_push_size _ rfl))⟩
  have hst₁ : St 0 h₁ := W.frame _ _ _ hst fun b _ o e => old b o e
  have fresh : ∀ h : Heap, ∀ a, h.objs.size ≤ a → h.get? a = none := fun h a ha => by
    cases e : h.get? a with
    | none => rfl
    | some o' => exact absurd (Heap.lt_size e) (Nat.not_lt.mpr ha)
  have hHd : ∀ b ∈ s₂.heap.objs.size :: H2.objs.size :: [I], s₁.heap.get? b = none := by
    intro b hb
    rcases List.mem_cons.mp hb with rfl | hb
    · exact fresh _ _ hle
    · rcases List.mem_cons.mp hb with rfl | hb
      · refine fresh _ _ ?_; rw [hC]; exact Nat.le_succ_of_le hle
      · rw [List.mem_singleton.mp hb]; exact hI
  have loop : ∀ s₃ : Shared, s₃ = { s₂ with heap := h₁, toks := s₂.toks + ([] : List (Str × Value)).length } →
      codeAny (model prog w) A (.compLoop (.ListComp elt [⟨.Name x px, iter, [], 0⟩] scope pos) 0 (.ref I) (.ref s₂.heap.objs.size) (compEnvC scope cl H2.objs.size env))
        (RR (.ref s₂.heap.objs.size) H2.objs.size) s₃ := by
    rintro s₃ rfl
    refine compLoop_J (hsz := hsz) (cenv := compEnvC scope cl H2.objs.size env) W J (fun i h st b hb => by rw [List.mem_singleton.mp hb]; exact hlive i h st) hmono (lookup_relabel_local hx) (by simp [compEnvC, relabel, hkind]) hDC hDf hCf hst₁ hacc hns₁
      (hmono _ _ _ _ (ext_into (fun b o e => old b o (k12 b o e)) hHd) hJ) ?_ ?_
    · rintro i v ys s₃ m₃ hi hP hn hm ⟨h3, tk3, rfl⟩ hal hJ' hl
      obtain ⟨h2, tk2, rfl⟩ := h12
      refine wpAny_mono (hq H2.objs.size i v ys _ { s₁ with heap := h3, toks := tk3 } m₃ _ hHd hal hi hP hn hm ⟨_, _, rfl⟩ hJ' hl (by rw [hC]; exact Nat.le_succ_of_le hle)) (fun y s₄ h₄ => ?_) fun _ _ e => e
      obtain ⟨h', tk, rfl, hk, hJ4⟩ := h₄
      refine ⟨h', tk, rfl, fun b hb o e => hk b ?_ o e, hJ4⟩
      simp only [List.cons_append, List.nil_append, List.mem_cons] at hb ⊢
      exact hb
    · intro h' tk m' ys hl hn hpl hJ'
      exact hRR _ _ h' tk m' ys _ (List.mem_cons_of_mem _ (List.mem_cons_self ..)) hDC (fresh _ _ (Nat.le_refl _)) (fresh _ _ (by rw [hC]; exact Nat.le_succ _)) hn hpl hl hHd (List.mem_cons_self ..) hJ'
  exact codeAny_compStart_list (loop _ rfl) (W.self 0 _ _ _ hst₁ (loop _ rfl))

theorem ListComp_J {s : Shared} {elt iter : Expr} {x : Str} {px : Pos} {scope : Scope} {cl : List (Str × Addr)} {pos : Pos} {Q : Value → Shared → Prop} (J : Nat → List Value → Heap → Prop)
    (hmono : ∀ j ys h h', Ext h h' → J j ys h → J j ys h')
    (hclos : closureFor scope env = pure cl) (hcell : ∀ y ∈ scope.names, y.2 ≠ .cell) (hkind : scope.kind = .function)
    (hnames : ∀ y ∈ scope.names, y.2 = .local → scope.names.lookup y.1 = some .local) (hx : scope.names.lookup x = some .local)
    (h : wpAny (model prog w) A (eval iter env) (fun xv s₁ => wpAny (model prog w) A (pyIter xv) (fun it s₂ => ∃ I src n P St, it = .ref I ∧ Walks prog w A I (I :: src) [I] n P St ∧ n ≤ sizeLine ∧ St 0 s₂.heap ∧ (∀ i h, St i h → ∃ o, h.get? I = some o) ∧
      (∃ h tk, s₂ = { s₁ with heap := h, toks := tk }) ∧ Ext s₁.heap s₂.heap ∧ s₁.heap.get? I = none ∧ (∀ b ∈ src, b < s₁.heap.objs.size) ∧ s₁.heap.objs.size ≤ s₂.heap.objs.size ∧ J 0 [] s₁.heap ∧
      EltJ prog w A env scope cl x elt n P src J s₁ ∧ DoneJ n J s₁ Q) E s₁) E s)
    (hs : ∀ x, foldedSetIterable iter env x = pure x := by intro _; rfl) :
    wpAny (model prog w) A (eval (.ListComp elt [⟨.Name x px, iter, [], 0⟩] scope pos) env) Q E s := by
  rw [eval_ListComp]
  refine wpAny_comprehension_free (use := none) rfl hs hclos hkind hnames (wpAny_mono h (fun xv s₁ h₁ => wpAny_mono h₁ (fun it s₂ h₂ => ?_) fun _ _ e => e) fun _ _ e => e)
  obtain ⟨I, src, n, P, St, rfl, W, hsz, hst, hlive, h12, k12, hI, hsrc, hle, hJ, hq, hQ⟩ := h₂
  refine compBlock_J (RR := fun acc C => compPost (model prog w) A E none Q acc C) W hsz J hlive hmono hcell hkind hx hst h12 k12 hI hsrc hle hJ hq ?_
  intro D C h' tk m' ys Hd hCH hDC hD hC hn hpl hlen hHd hDH hJ'
  refine ⟨m', hn, fun h'' hs'' => ?_⟩
  obtain ⟨k, hk⟩ := hpl
  obtain ⟨h2, tk2, rfl⟩ := h12
  refine hQ D ys h'' tk Hd k hlen hHd hDH (hs''.extBut D _ hDC hk) (hmono _ _ _ _ (ext_hide_but fun b o hb e => hs''.extBut b o (fun e => ?_) e) hJ')
  subst e; exact hb hCH

theorem Assign_ListComp_J {s : Shared} {elt iter : Expr} {x y : Str} {px py : Pos} {scope : Scope} {cl : List (Str × Addr)} {pos spos : Pos} {Q : Flow → Shared → Prop} (J : Nat → List Value → Heap → Prop)
    (hmono : ∀ j ys h h', Ext h h' → J j ys h → J j ys h')
    (hsw : swapsWith (.ListComp elt [⟨.Name x px, iter, [], 0⟩] scope pos) (some (.Name y py)) spos.line env = pure true)
    (hclos : closureFor scope env = pure cl) (hcell : ∀ z ∈ scope.names, z.2 ≠ .cell) (hkind : scope.kind = .function)
    (hnames : ∀ z ∈ scope.names, z.2 = .local → scope.names.lookup z.1 = some .local) (hx : scope.names.lookup x = some .local)
    (h : wpAny (model prog w) A (eval iter env) (fun xv s₁ => wpAny (model prog w) A (pyIter xv) (fun it s₂ => ∃ I src n P St, it = .ref I ∧ Walks prog w A I (I :: src) [I] n P St ∧ n ≤ sizeLine ∧ St 0 s₂.heap ∧ (∀ i h, St i h → ∃ o, h.get? I = some o) ∧
      (∃ h tk, s₂ = { s₁ with heap := h, toks := tk }) ∧ Ext s₁.heap s₂.heap ∧ s₁.heap.get? I = none ∧ (∀ b ∈ src, b < s₁.heap.objs.size) ∧ s₁.heap.objs.size ≤ s₂.heap.objs.size ∧ J 0 [] s₁.heap ∧
      EltJ prog w A env scope cl x elt n P src J s₁ ∧
      (∀ D ys h' tk Hd k C, ys.length = n → (∀ b ∈ Hd, s₁.heap.get? b = none) → D ∈ Hd → C ∈ Hd → D ≠ C → (∃ m, h'.Ns C m) → h'.get? D = some { cls := .type "list", data := .seq ys.toArray k } → J n ys (hideAll h' Hd) →
        wpAny (model prog w) A (assign (.Name y py) env (.ref D)) (fun _ s'' => ∃ m, s''.heap.Ns C m ∧ ∀ h', Heap.SameBut C s''.heap h' → Q .next { s'' with heap := h' }) E { s₁ with heap := h', toks := tk })) E s₁) E s)
    (hs : ∀ x, foldedSetIterable iter env x = pure x := by intro _; rfl) :
    wpAny (model prog w) A (exec (.Assign [.Name y py] (.ListComp elt [⟨.Name x px, iter, [], 0⟩] scope pos) spos) env) Q E s := by
  rw [exec_Assign_Name_used _ _ _ _ hsw]
  refine wpAny_bind (wpAny_standAt (wpAny_bind ?_))
  show wpAny _ A (do let _ ← comprehension (.ListComp elt [⟨.Name x px, iter, [], 0⟩] scope pos) scope env _ (newList []) false (eval iter env) (some (assign (.Name y py) env))) _ _ s
  refine wpAny_bind (wpAny_mono (wpAny_comprehension_free (use := some (assign (.Name y py) env)) (Q := fun _ s' => Q .next s') rfl hs hclos hkind hnames
    (wpAny_mono h (fun xv s₁ h₁ => wpAny_mono h₁ (fun it s₂ h₂ => ?_) fun _ _ e => e) fun _ _ e => e)) (fun _ s' hq => wpAny_pure (wpAny_pure hq)) fun _ _ e => e)
  obtain ⟨I, src, n, P, St, rfl, W, hsz, hst, hlive, h12, k12, hI, hsrc, hle, hJ, hq, hQ⟩ := h₂
  refine compBlock_J (RR := fun acc C => compPost (model prog w) A E (some (assign (.Name y py) env)) (fun _ s' => Q .next s') acc C) W hsz J hlive hmono hcell hkind hx hst h12 k12 hI hsrc hle hJ hq ?_
  intro D C h' tk m' ys Hd hCH hDC hD hC hn hpl hlen hHd hDH hJ'
  obtain ⟨k, hk⟩ := hpl
  obtain ⟨h2, tk2, rfl⟩ := h12
  exact hQ D ys h' tk Hd k C hlen hHd hDH hCH hDC ⟨m', hn⟩ hk hJ'

theorem ListComp_list {s : Shared} {elt iter : Expr} {x : Str} {px : Pos} {scope : Scope} {cl : List (Str × Addr)} {pos : Pos} {Q : Value → Shared → Prop} (J : Nat → List Value → Heap → Prop)
    (hmono : ∀ j ys h h', Ext h h' → J j ys h → J j ys h') (hh : A.handled = none)
    (hclos : closureFor scope env = pure cl) (hcell : ∀ y ∈ scope.names, y.2 ≠ .cell) (hkind : scope.kind = .function)
    (hnames : ∀ y ∈ scope.names, y.2 = .local → scope.names.lookup y.1 = some .local) (hx : scope.names.lookup x = some .local)
    (h : wpAny (model prog w) A (eval iter env) (fun xv s₁ => ∃ ax vs, xv = .ref ax ∧ s₁.heap.IsList ax (List.toArray vs) ∧ vs.length ≤ sizeLine ∧ J 0 [] s₁.heap ∧
      EltJ prog w A env scope cl x elt vs.length (fun i v => vs[i]? = some v) [ax] J s₁ ∧ DoneJ vs.length J s₁ Q) E s)
    (hs : ∀ x, foldedSetIterable iter env x = pure x := by intro _; rfl) :
    wpAny (model prog w) A (eval (.ListComp elt [⟨.Name x px, iter, [], 0⟩] scope pos) env) Q E s := by
  refine ListComp_J J hmono hclos hcell hkind hnames hx (wpAny_mono h (fun xv s₁ h₁ => ?_) fun _ _ e => e) hs
  obtain ⟨ax, vs, rfl, hl, hsz, hJ, hq, hd⟩ := h₁
  obtain ⟨oax, hoax, _⟩ := id hl
  have hlt : ax < s₁.heap.objs.size := Heap.lt_size hoax
  have hW := Walks.list (prog := prog) (w := w) hh s₁.heap.objs.size ax (Nat.ne_of_lt hlt) vs.toArray
  simp only [List.size_toArray] at hW
  refine wpAny_pyIter_list hl ⟨s₁.heap.objs.size, [ax], vs.length, _, _, rfl, hW, hsz, ⟨⟨_, Heap.get?_push_size _ rfl, rfl, rfl⟩, hl.push _⟩, (fun i h st => by obtain ⟨⟨o, e, _⟩, _⟩ := st; exact ⟨o, e⟩),
    ⟨_, _, rfl⟩, (fun b o e => Heap.get?_push_of_some _ e), ?_, (fun b hb => by rw [List.mem_singleton.mp hb]; exact hlt), (by show _ ≤ (s₁.heap.push _).objs.size; rw [Heap.size_push]; exact Nat.le_succ _), hJ, ?_, hd⟩
  · cases e : s₁.heap.get? s₁.heap.objs.size with
    | none => rfl
    | some o' => exact absurd (Heap.lt_size e) (Nat.lt_irrefl _)
  · simpa using hq

theorem ListComp_range {s : Shared} {elt iter : Expr} {x : Str} {px : Pos} {scope : Scope} {cl : List (Str × Addr)} {pos : Pos} {Q : Value → Shared → Prop} (J : Nat → List Value → Heap → Prop)
    (hmono : ∀ j ys h h', Ext h h' → J j ys h → J j ys h') (hh : A.handled = none)
    (hclos : closureFor scope env = pure cl) (hcell : ∀ y ∈ scope.names, y.2 ≠ .cell) (hkind : scope.kind = .function)
    (hnames : ∀ y ∈ scope.names, y.2 = .local → scope.names.lookup y.1 = some .local) (hx : scope.names.lookup x = some .local)
    (h : wpAny (model prog w) A (eval iter env) (fun xv s₁ => ∃ r a b c t u v, ∃ n : Nat, xv = .ref r ∧ IsRange s₁.heap r a b c t u v ∧ Builtin.Range.small a b c = true ∧ Builtin.Range.rangeSize a b c = (n : Int) ∧ n ≤ sizeLine ∧ J 0 [] s₁.heap ∧
      EltJ prog w A env scope cl x elt n (fun i v => ∃ t, v = .int (a + i * c) t) [] J s₁ ∧ DoneJ n J s₁ Q) E s)
    (hs : ∀ x, foldedSetIterable iter env x = pure x := by intro _; rfl) :
    wpAny (model prog w) A (eval (.ListComp elt [⟨.Name x px, iter, [], 0⟩] scope pos) env) Q E s := by
  refine ListComp_J J hmono hclos hcell hkind hnames hx (wpAny_mono h (fun xv s₁ h₁ => ?_) fun _ _ e => e) hs
  obtain ⟨r, a, b, c, t, u, v, n, rfl, hr, hsm, hn, hsz, hJ, hq, hd⟩ := h₁
  refine wpAny_pyIter_range hr hsm ⟨s₁.heap.objs.size, [], n, _, _, rfl, Walks.range hh s₁.heap.objs.size a c n, hsz, (by show IsRangeIter _ _ _ _ _; rw [hn]; simpa using Heap.get?_push_size _ rfl), (fun i h st => ⟨_, st⟩),
    ⟨_, _, rfl⟩, (fun b o e => Heap.get?_push_of_some _ e), ?_, (fun b hb => nomatch hb), (by show _ ≤ (s₁.heap.push _).objs.size; rw [Heap.size_push]; exact Nat.le_succ _), hJ, hq, hd⟩
  cases e : s₁.heap.get? s₁.heap.objs.size with
  | none => rfl
  | some o' => exact absurd (Heap.lt_size e) (Nat.lt_irrefl _)

def DoneA (prog : Program) (w : World) (A : Around) (E : Value → Shared → Prop) (env : Env) (y : Str) (py : Pos) (n : Nat) (J : Nat → List Value → Heap → Prop) (s₁ : Shared) (Q : Flow → Shared → Prop) : Prop :=
  ∀ D ys h' tk Hd k C, ys.length = n → (∀ b ∈ Hd, s₁.heap.get? b = none) → D ∈ Hd → C ∈ Hd → D ≠ C → (∃ m, h'.Ns C m) → h'.get? D = some { cls := .type "list", data := .seq (List.toArray ys) k } → J n ys (hideAll h' Hd) →
        wpAny (model prog w) A (assign (.Name y py) env (.ref D)) (fun _ s'' => ∃ m, s''.heap.Ns C m ∧ ∀ h', Heap.SameBut C s''.heap h' → Q .next { s'' with heap := h' }) E { s₁ with heap := h', toks := tk }

theorem Assign_ListComp_range {s : Shared} {elt iter : Expr} {x y : Str} {px py : Pos} {scope : Scope} {cl : List (Str × Addr)} {pos spos : Pos} {Q : Flow → Shared → Prop} (J : Nat → List Value → Heap → Prop)
    (hmono : ∀ j ys h h', Ext h h' → J j ys h → J j ys h') (hh : A.handled = none)
    (hsw : swapsWith (.ListComp elt [⟨.Name x px, iter, [], 0⟩] scope pos) (some (.Name y py)) spos.line env = pure true)
    (hclos : closureFor scope env = pure cl) (hcell : ∀ y ∈ scope.names, y.2 ≠ .cell) (hkind : scope.kind = .function)
    (hnames : ∀ y ∈ scope.names, y.2 = .local → scope.names.lookup y.1 = some .local) (hx : scope.names.lookup x = some .local)
    (h : wpAny (model prog w) A (eval iter env) (fun xv s₁ => ∃ r a b c t u v, ∃ n : Nat, xv = .ref r ∧ IsRange s₁.heap r a b c t u v ∧ Builtin.Range.small a b c = true ∧ Builtin.Range.rangeSize a b c = (n : Int) ∧ n ≤ sizeLine ∧ J 0 [] s₁.heap ∧
      EltJ prog w A env scope cl x elt n (fun i v => ∃ t, v = .int (a + i * c) t) [] J s₁ ∧ DoneA prog w A E env y py n J s₁ Q) E s)
    (hs : ∀ x, foldedSetIterable iter env x = pure x := by intro _; rfl) :
    wpAny (model prog w) A (exec (.Assign [.Name y py] (.ListComp elt [⟨.Name x px, iter, [], 0⟩] scope pos) spos) env) Q E s := by
  refine Assign_ListComp_J J hmono hsw hclos hcell hkind hnames hx (wpAny_mono h (fun xv s₁ h₁ => ?_) fun _ _ e => e) hs
  obtain ⟨r, a, b, c, t, u, v, n, rfl, hr, hsm, hn, hsz, hJ, hq, hd⟩ := h₁
  refine wpAny_pyIter_range hr hsm ⟨s₁.heap.objs.size, [], n, _, _, rfl, Walks.range hh s₁.heap.objs.size a c n, hsz, (by show IsRangeIter _ _ _ _ _; rw [hn]; simpa using Heap.get?_push_size _ rfl), (fun i h st => ⟨_, st⟩),
    ⟨_, _, rfl⟩, (fun b o e => Heap.get?_push_of_some _ e), ?_, (fun b hb => nomatch hb), (by show _ ≤ (s₁.heap.push _).objs.size; rw [Heap.size_push]; exact Nat.le_succ _), hJ, hq, hd⟩
  cases e : s₁.heap.get? s₁.heap.objs.size with
  | none => rfl
  | some o' => exact absurd (Heap.lt_size e) (Nat.lt_irrefl _)
end
end Mine
end
section
open PySem PySem.W PySem.Calls PyProof.Rows PySem.Spec
namespace Mine
theorem fresh_F2 : True := by
  w_top off
  run_tac do
    walkLines.set (0, {})
    walkStart.set 0
    walkLate.set false
  trivial

/-- what is encoded: octets, or a row -/
inductive T where
  | leaf (b : Array UInt8)
  | node (ks : List T)

abbrev View := Addr → Obj → Prop
abbrev vw (h : Heap) : View := fun a o => h.get? a = some o

mutual
def TIn (P : View) : T → Value → Prop
  | .leaf b, v => ∃ tk, v = .bytes b tk
  | .node ks, v => ∃ a vs n, v = .ref a ∧ P a (W.listOf (List.toArray vs) n) ∧ TsIn P ks vs
def TsIn (P : View) : List T → List Value → Prop
  | [], vs => vs = []
  | k :: ks, vs => ∃ v vs', vs = v :: vs' ∧ TIn P k v ∧ TsIn P ks vs'
end
mutual
theorem TIn.mono {P P' : View} (h : ∀ a o, P a o → P' a o) : ∀ (t : T) (v : Value), TIn P t v → TIn P' t v
  | .leaf _, _, x => by simpa [TIn] using x
  | .node ks, v, x => by
    simp only [TIn] at x ⊢
    obtain ⟨a, vs, n, e, p, q⟩ := x
    exact ⟨a, vs, n, e, h _ _ p, TsIn.mono h ks vs q⟩
theorem TsIn.mono {P P' : View} (h : ∀ a o, P a o → P' a o) : ∀ (ts : List T) (vs : List Value), TsIn P ts vs → TsIn P' ts vs
  | [], _, x => by simpa [TsIn] using x
  | k :: ks, vs, x => by
    simp only [TsIn] at x ⊢
    obtain ⟨v, vs', e, p, q⟩ := x
    exact ⟨v, vs', e, TIn.mono h k v p, TsIn.mono h ks vs' q⟩
end
theorem TsIn.length {P : View} : ∀ {ts : List T} {vs : List Value}, TsIn P ts vs → vs.length = ts.length
  | [], _, x => by simp only [TsIn] at x; subst x; rfl
  | _ :: _, _, x => by
    simp only [TsIn] at x
    obtain ⟨v, vs', e, _, q⟩ := x
    subst e
    simp [q.length]
theorem TsIn.get {P : View} : ∀ {ts : List T} {vs : List Value} {i : Nat} {v : Value}, TsIn P ts vs → vs[i]? = some v → ∃ t, ts[i]? = some t ∧ TIn P t v
  | [], _, _, _, x, e => by simp only [TsIn] at x; subst x; simp at e
  | _ :: _, _, i, _, x, e => by
    simp only [TsIn] at x
    obtain ⟨v, vs', e', p, q⟩ := x
    subst e'
    cases i with
    | zero => simp at e; subst e; exact ⟨_, rfl, p⟩
    | succ i => simpa using q.get (i := i) (by simpa using e)

mutual
def T.body : T → Nat
  | .leaf b => b.size
  | .node ks => T.sum ks
def T.sum : List T → Nat
  | [] => 0
  | k :: ks => T.size k + T.sum ks
def T.size : T → Nat
  | .leaf b => if b.size = 1 ∧ (b.toList.getD 0 0).toNat < 128 then 1 else if b.size < 56 then b.size + 1 else if b.size < 256 then b.size + 2 else b.size + 3
  | .node ks => if T.sum ks < 56 then T.sum ks + 1 else if T.sum ks < 256 then T.sum ks + 2 else T.sum ks + 3
end
mutual
def T.dep : T → Nat
  | .leaf _ => 1
  | .node ks => T.deps ks + 1
def T.deps : List T → Nat
  | [] => 0
  | k :: ks => max (T.dep k) (T.deps ks)
end
mutual
def T.ok : T → Prop
  | .leaf b => b.size ≤ 196
  | .node ks => ks.length ≤ 4 ∧ T.oks ks
def T.oks : List T → Prop
  | [] => True
  | k :: ks => T.ok k ∧ T.oks ks
end
theorem T.oks_get {ts : List T} {i : Nat} {t : T} (o : T.oks ts) (e : ts[i]? = some t) : t.ok := by
  induction ts generalizing i with
  | nil => simp at e
  | cons k ks ih =>
    simp only [T.oks] at o
    cases i with
    | zero => simp at e; subst e; exact o.1
    | succ i => exact ih o.2 (i := i) (by simpa using e)
theorem T.dep_le {ts : List T} {i : Nat} {t : T} (e : ts[i]? = some t) : t.dep ≤ T.deps ts := by
  induction ts generalizing i with
  | nil => simp at e
  | cons k ks ih =>
    rw [T.deps]
    cases i with
    | zero => simp at e; subst e; exact Nat.le_max_left _ _
    | succ i => exact Nat.le_trans (ih (i := i) (by simpa using e)) (Nat.le_max_right _ _)

def Site (w : World) (A : Around) (h : Heap) : Prop :=
  ∃ A₀ base outer h₀ env L m p loose mean mg mb, Below A₀ base outer h₀ ∧ Fr h₀ L h m ∧ (hd.heap_1 w.params).In h₀ ∧ Top p loose mean mg mb h₀ ∧ A.frames = some (env :: outer) ∧ env.frame = some L ∧ env.scope.kind = .function ∧ A.handled = none
theorem Site.ext {w : World} {A : Around} {h h' : Heap} (S : Site w A h) (k : Ext h h') : Site w A h' :=
  let ⟨A₀, base, outer, h₀, env, L, m, p, loose, mean, mg, mb, B, F, r⟩ := S
  ⟨A₀, base, outer, h₀, env, L, m, p, loose, mean, mg, mb, B, F.keeps k, r⟩

abbrev prog : Program := PySem.Challenge.pw_ff0025_01


/-- room for k defs more, one within the other -/
structure Room (w : World) (A : Around) (h : Heap) (k : Nat) : Prop where
  site : Site w A h
  depth : A.depth + k < recursionLimit
  units : A.units + 12 * k < cLine

/-- irreducible: else each rule of an end that is tried in vain unfolds it -/
@[irreducible] def Leave0 (g : Heap) (L' : Addr) (R : Result → Shared → Prop) (v : Value) (s' : Shared) : Prop := ∃ m', Fr g L' s'.heap m' ∧ R (.ok (.ret v)) s'
theorem leave0_out {g : Heap} {L' : Addr} {R : Result → Shared → Prop} {v : Value} {s' : Shared} (h : Leave0 g L' R v s') : ∃ m', Fr g L' s'.heap m' ∧ R (.ok (.ret v)) s' := by
  unfold Leave0 at h; exact h
theorem leave0_in {g : Heap} {L' : Addr} {R : Result → Shared → Prop} {v : Value} {s' : Shared} (h : ∃ m', Fr g L' s'.heap m' ∧ R (.ok (.ret v)) s') : Leave0 g L' R v s' := by
  unfold Leave0; exact h

theorem enter {w : World} {A : Around} {s : Shared} {R : Result → Shared → Prop} {k : Nat} {name qual : Str} {params : Arguments} {body : List Stmt} {scope : Scope} {dV kV doc pm cdv ct oc : Value} {an od : Option Addr} {osl : Array (Option Value)} {f : Addr} {args : Args} {binds : List (Str × Value)}
    (S : Room w A s.heap (k + 1))
    (ho : (hd.heap_1 w.params).lookup f = some ⟨oc, od, .func (fnOf name qual params body scope dV kV doc pm an cdv ct), osl⟩) (hcd : codeIn (hd.heap_1 w.params) cdv qual = true)
    (hbind : BindsTo s (fnOf name qual params body scope dV kV doc pm an cdv ct) args binds) (hloc : ∀ y ∈ binds, scope.names.lookup y.1 = some .local)
    (h : ∀ (dp un : Nat) (gd : Option (List Code)) (env : Env) (outer : List Env) (base g h₁ : Heap) (L' : Addr) (p : Program) (loose : List Str) (mean : ExcName → Option Value) (mg mb : Str → Option Value), dp + k + 1 < recursionLimit → un + 12 * k + 12 < cLine →
      Fr g L' h₁ (fun y => binds.reverse.lookup y) → News g L' h₁ [] → Below ⟨none, dp, some (env :: outer), gd, un⟩ base (env :: outer) g → (hd.heap_1 w.params).In g → Top p loose mean mg mb g → Ext s.heap g →
      wpAny (model prog w) (Around.deeper ⟨none, dp, some (env :: outer), gd, un⟩ (envOf qual scope L' f cdv)) (execs body (envOf qual scope L' f cdv))
        (fun fl s' => Leave0 g L' R (match fl with | .ret v => v | _ => .none) s')
        (fun e s' => wpAny (model prog w) (Around.deeper ⟨none, dp, some (env :: outer), gd, un⟩ (envOf qual scope L' f cdv)) (leaving (envOf qual scope L' f cdv) e) (fun _ s'' => R (.error e) s'') (fun e' s'' => R (.error e') s'') s')
        { s with heap := h₁, toks := s.toks + binds.length })
    (hco : scope.isCoroutine = false) (hgen : scope.isGenerator = false) (hk : scope.kind = .function)
    (hcell : ∀ x ∈ scope.names, x.2 ≠ .cell) : codeAny (model prog w) A (.call (.ref f) args) R s := by
  obtain ⟨⟨A₀, base, outer, h₀, env, L, m, p, loose, mean, mg, mb, B, F, X, T, hA, hf, hke, hh⟩, hd, hu⟩ := S
  obtain ⟨handled, dp, fr, gd, un⟩ := A
  dsimp only at hA hh hd hu
  subst hA hh
  refine code_defG B F X News.nil T rfl hf hke ho hcd (by show dp < recursionLimit; omega) hbind hloc (fun g L' h₁ FG F' N' B' X' T' G => ?_) hco hgen hk hcell
  refine wpAny_mono (h dp un gd env outer base g h₁ L' p loose mean mg mb (by omega) (by omega) F' N' B' X' T' (fun b o e => G b o e (by simp))) (fun fl s' hl => ?_) fun _ _ e => e
  obtain ⟨m', Fe, hr⟩ := leave0_out hl
  exact ⟨L', m', [], Fe, News.nil, fun _ _ => hr⟩

theorem Room.ext {w : World} {A : Around} {h h' : Heap} {k : Nat} (R : Room w A h k) (e : Ext h h') : Room w A h' k := ⟨R.site.ext e, R.depth, R.units⟩
theorem Room.le {w : World} {A : Around} {h : Heap} {k k' : Nat} (R : Room w A h k) (e : k' ≤ k) : Room w A h k' := ⟨R.site, by have := R.depth; omega, by have := R.units; omega⟩
/-- room from within -/
theorem room_in {w : World} {dp un : Nat} {gd : Option (List Code)} {env : Env} {outer : List Env} {base g h : Heap} {L' : Addr} {p : Program} {loose : List Str} {mean : ExcName → Option Value} {mg mb m : Str → Option Value} {e : Env} {k : Nat}
    (hdp : dp + k + 1 < recursionLimit) (hu : un + 12 * k + 12 < cLine) (F : Fr g L' h m) (B : Below ⟨none, dp, some (env :: outer), gd, un⟩ base (env :: outer) g) (X : (hd.heap_1 w.params).In g) (T : Top p loose mean mg mb g)
    (hf : e.frame = some L') (hk : e.scope.kind = .function) : Room w (Around.deeper ⟨none, dp, some (env :: outer), gd, un⟩ e) h k :=
  ⟨⟨_, base, env :: outer, g, e, L', m, p, loose, mean, mg, mb, B, F, X, T, rfl, hf, hk, rfl⟩, by show dp + 1 + k < _; omega, by show un + 3 + 12 * k < _; omega⟩
theorem news_done {g h₁ h' : Heap} {L' D : Addr} {m : Str → Option Value} {o : Obj} {news : List (Addr × Obj)} (F₁ : Fr g L' h₁ m) (N : News g L' h' news) (hD : h₁.get? D = none) (hk : h'.get? D = some o) : News g L' h' ((D, o) :: news) := by
  intro p hp
  rcases List.mem_cons.mp hp with rfl | hp
  · refine ⟨hk, ?_, ?_⟩
    · rintro rfl
      obtain ⟨oL, _, _, e, _⟩ := F₁.ns
      rw [e] at hD; cases hD
    · cases e : g.get? D with
      | none => rfl
      | some o' => rw [F₁.keep _ _ e] at hD; cases hD
  · exact N p hp
theorem leave0_ {g h : Heap} {L' : Addr} {R : Result → Shared → Prop} {v : Value} {s' : Shared} {m' : Str → Option Value} (F' : Fr g L' s'.heap m') (G : Ext h g) (k : Ext h s'.heap → R (.ok (.ret v)) s') : Leave0 g L' R v s' :=
  leave0_in ⟨m', F', k fun b o e => F'.keep b o (G b o e)⟩
theorem sum_sizes : ∀ ks : List T, ((ks.map fun t => (t.size : Int)).sum) = (T.sum ks : Nat)
  | [] => by simp [T.sum]
  | k :: ks => by rw [List.map_cons, List.sum_cons, sum_sizes ks, T.sum]; omega
def Stop (P : Prop) : Prop := P
theorem stop_ {P : Prop} (h : Stop P) : P := h
theorem ints_snoc {vs : List Value} {ns : List Int} {n : Int} {t : Tok} : IntsAre vs ns → IntsAre (vs ++ [.int n t]) (ns ++ [n])
  | .nil => .cons _ _ .nil
  | .cons _ _ h => .cons _ _ (ints_snoc h)
theorem take_snoc {α β : Type} {l : List α} {i : Nat} {a : α} (f : α → β) (e : l[i]? = some a) : (l.take (i + 1)).map f = (l.take i).map f ++ [f a] := by
  rw [List.take_add_one, e]; simp
/-- a quick look ahead: a local name -/
theorem guard_local {M : Model} {A : Around} {E : Value → Shared → Prop} {s : Shared} {env : Env} {x : Str} {pos : Pos} {Q : Value → Shared → Prop} (_ : env.kindOf x = some .local) (k : wpAny M A (eval (.Name x pos) env) Q E s) : wpAny M A (eval (.Name x pos) env) Q E s := k
end Mine
end
section
open PySem PySem.W PySem.Calls PyProof.Rows PySem.Spec
namespace Mine
theorem fresh_F3 : True := by
  w_top off
  run_tac do
    walkLines.set (0, {})
    walkStart.set 0
    walkLate.set false
  trivial
section
variable {prog : Program} {w : World} {A : Around} {E : Value → Shared → Prop} {s : Shared} {value slice : PySem.Expr} {b : Array UInt8} {t : Tok} {Q : Value → Shared → Prop}
theorem item_b {i : Int} {ui : Tok} (h0 : 0 ≤ i) (h1 : i < (b.size : Int)) (hf : b.size ≤ 1099511627776) (h : Q (.int ((b.toList.getD i.toNat 0).toNat : Nat) s.toks) { s with toks := s.toks + 1 })
    (hs : subscripted slice false (.bytes b t) (.int i ui) = operate [.bytes b t, .int i ui] (getItem (.bytes b t) (.int i ui)))
    (ht : ∀ r, letTemporaryGo value (.bytes b t) r = pure ()) : wpAny (model prog w) A (subscriptTail value slice (.bytes b t) (.int i ui)) Q E s := by
  have e : b = b.toList.toArray := by simp
  rw [e] at hs ht ⊢
  exact KBy.item_N (by simpa using hf) h0 (by simpa using h1) h hs ht
end
end Mine
end
section
open PySem PySem.W PySem.Calls PyProof.Rows PySem.Spec
namespace Mine
theorem fresh_G1 : True := by
  w_top off
  run_tac do
    walkLines.set (0, {})
    walkStart.set 0
    walkLate.set false
  trivial
local macro_rules | `(tactic| walk_at "enter") => `(tactic| (refine' enter (by assumption) ?k6 ?k7 ?k9 ?kB ?_ ?c2 ?c3 ?c4 ?c5; (case k6 => k_is); (case k7 => k_is); (case k9 => exact BindsTo.of_eq rfl); (case c5 => decide); (case kB => exact locs rfl); (case c2 => exact rfl); (case c3 => exact rfl); (case c4 => exact rfl); k_whole; intro dp' un' gd' env' outer' base' g' h' L' p' loose' mean' mg' mb' hd' hu' F' N' B' X' T' G'; (try dsimp only); (try k_fold)))
local macro_rules | `(tactic| walk_at "room") => `(tactic| (refine Room.le (room_in (by assumption) (by assumption) (by assumption) (by assumption) (by assumption) (by assumption) (by rfl) (by rfl)) ?_))
local macro_rules | `(tactic| walk_at "subscriptTail") => `(tactic| ((with_reducible show wpAny _ _ (subscriptTail _ _ (Value.bytes _ _) (Value.int _ _)) _ _ _); (refine item_b (by omega) (by omega) (by omega) ?_ (by with_unfolding_all rfl) (by intro _; with_unfolding_all rfl))))
local macro_rules | `(tactic| walk_at "eval ListComp") => `(tactic| (refine stop_ ?_))
local macro_rules | `(tactic| walk_at "call ref") => `(tactic| (refine stop_ ?_))

def BodySpec (t : T) : Prop := t.ok → ∀ (w : World) (A : Around) (s : Shared) (v : Value) (Q E : Value → Shared → Prop), Room w A s.heap (2 * t.dep + 1) → TIn (vw s.heap) t v →
  (∀ h' tk' tok, Ext s.heap h' → Q (.int t.body tok) { s with heap := h', toks := tk' }) → wpAny (model prog w) A (call (.ref 1809) [v]) Q E s
def SizeSpec (t : T) : Prop := t.ok → ∀ (w : World) (A : Around) (s : Shared) (v : Value) (Q E : Value → Shared → Prop), Room w A s.heap (2 * t.dep + 2) → TIn (vw s.heap) t v →
  (∀ h' tk' tok, Ext s.heap h' → Q (.int t.size tok) { s with heap := h', toks := tk' }) → wpAny (model prog w) A (call (.ref 1816) [v]) Q E s

theorem body_leaf (b : Array UInt8) : BodySpec (.leaf b) := by
  intro ok w A s v Q E R ht hret
  simp only [TIn, T.ok] at ht ok
  obtain ⟨tk, rfl⟩ := ht
  refine wpAny_call ?_
  walk_at "enter"
  rename_i dp un gd env outer base g h₁ L' p loose mean mg mb hdp hun F N B X Tp G
  k_steps
  refine leave0_ (by assumption) G ?_
  intro hE
  exact hret _ _ _ hE

theorem body_node (ks : List T) (ih : ∀ t ∈ ks, SizeSpec t) : BodySpec (.node ks) := by
  intro ok w A s v Q E R ht hret
  simp only [TIn, T.ok] at ht ok
  obtain ⟨a, vs, n, rfl, hl, hk⟩ := ht
  refine wpAny_call ?_
  walk_at "enter"
  rename_i dp un gd env outer base g h₁ L' p loose mean mg mb hdp hun F N B X Tp G
  have hl' := G _ _ hl
  have hL : Heap.IsList _ a vs.toArray := ⟨_, hl', rfl, n, rfl⟩
  k_steps
  rename Fr _ _ _ _ => F
  have hm : ∃ m₀, Fr g L' _ m₀ ∧ m₀ (Str.ofString "tree") = some (.ref a) := ⟨_, F, rfl⟩
  clear F
  obtain ⟨m₀, F, hm⟩ := hm
  show wpAny _ _ _ _ _ _
  refine ListComp_list (fun j ys h => Fr g L' h m₀ ∧ IntsAre ys ((ks.take j).map fun t => (t.size : Int))) ?_ (by rfl) (by rfl) (by decide) (by rfl) (by decide) (by rfl) ?_
  · rintro j ys h h' hE ⟨F, hi⟩
    exact ⟨F.keeps hE, hi⟩
  refine ld F hm ?_
  refine ⟨a, vs, rfl, hL.at fun o e => F.keep _ o e, ?_, ⟨F, ?_⟩, ?_, ?_⟩
  · rw [hk.length]; exact Nat.le_trans ok.1 (by decide)
  · exact .nil
  · rintro C i v ys Hd s₂ m₂ E' hHd hal hi hP hn hmx ⟨h₂, tk₂, rfl⟩ ⟨F₂, hys⟩ hlen hC
    have F := F₂.keeps hide_ext
    dsimp only at F
    k_steps
    show wpAny _ _ _ _ _ _
    obtain ⟨t, et, htv⟩ := hk.get hP
    have hle := T.dep_le et
    refine ih t (List.mem_of_getElem? et) (T.oks_get ok.2 et) w _ _ v _ _ (by walk_at "room"; simp only [T.dep]; omega) (TIn.mono (fun a o e => F.keep _ _ (G _ _ e)) _ _ htv) fun h' tk' tok hE => ?_
    refine ⟨h', tk', rfl, fun b _ o e => hE b o e, F₂.keeps (ext_hide hE), ?_⟩
    rw [take_snoc _ et]
    exact ints_snoc hys
  · intro D ys h' tk' Hd k hlen hHd hD hk' ⟨F₂, hys⟩
    have N := news_done F (News.nil) (hHd D hD) hk'
    replace F := F₂.keeps hide_ext
    have hys' : IntsAre ys (ks.map fun t => (t.size : Int)) := by rw [hk.length, List.take_length] at hys; exact hys
    k_steps
    refine leave0_ (by assumption) G ?_
    intro hE
    rw [sum_sizes]
    exact hret _ _ _ hE

theorem ret_int {Q : Value → Shared → Prop} {v v' : Int} {tok : Tok} {s : Shared} (h : Q (.int v' tok) s) (e : v = v') : Q (.int v tok) s := e ▸ h
theorem size_leaf {b : Array UInt8} {v : Int} (h : v = if b.size = 1 ∧ (b.toList.getD 0 0).toNat < 128 then 1 else if b.size < 56 then b.size + 1 else if b.size < 256 then b.size + 2 else b.size + 3) : v = ((T.leaf b).size : Nat) := by
  rw [h, T.size]
theorem size_node {ks : List T} {v : Int} (h : v = if T.sum ks < 56 then T.sum ks + 1 else if T.sum ks < 256 then T.sum ks + 2 else T.sum ks + 3) : v = ((T.node ks).size : Nat) := by
  rw [h, T.size]

theorem size_of_body (t : T) (ih : BodySpec t) : SizeSpec t := by
  intro ok w A s v Q E R ht hret
  have key : ∀ (w : World) (A : Around) (s : Shared) (v : Value) (Q E : Value → Shared → Prop), Room w A s.heap (2 * t.dep + 1) → TIn (vw s.heap) t v → (∀ h' tk' tok, Ext s.heap h' → Q (.int t.body tok) { s with heap := h', toks := tk' }) → wpAny (model prog w) A (call (.ref 1809) [v]) Q E s := ih ok
  cases t with
  | leaf b =>
    have ht' := ht
    simp only [TIn, T.ok] at ht' ok
    obtain ⟨tk, rfl⟩ := ht'
    refine wpAny_call ?_
    walk_at "enter"
    rename_i dp un gd env outer base g h₁ L' p loose mean mg mb hdp hun F N B X Tp G
    k_steps
    show wpAny _ _ _ _ _ _
    refine key w _ _ _ _ _ (by walk_at "room"; omega) (TIn.mono (fun a o e => Fr.keep (by assumption) _ _ (G _ _ e)) _ _ ht) fun h' tk' tok hE => ?_
    rename Fr _ _ _ _ => F
    replace F := F.keeps hE
    simp only [T.body]
    k_steps
    all_goals (show Leave0 g L' _ _ _; refine leave0_ (by assumption) G ?_; intro hE)
    all_goals (refine ret_int (hret _ _ _ hE) (size_leaf ?_))
    all_goals (clear key ih; (try simp only [Int.toNat_zero] at *); repeat' split)
    all_goals omega
  | node ks =>
    have ht' := ht
    simp only [TIn, T.ok] at ht' ok
    obtain ⟨a, vs, n, rfl, hl, hk⟩ := ht'
    refine wpAny_call ?_
    walk_at "enter"
    rename_i dp un gd env outer base g h₁ L' p loose mean mg mb hdp hun F N B X Tp G
    have hl' := G _ _ hl
    have hL : Heap.IsList _ a vs.toArray := ⟨_, hl', rfl, n, rfl⟩
    k_steps
    show wpAny _ _ _ _ _ _
    refine key w _ _ _ _ _ (by walk_at "room"; omega) (TIn.mono (fun a o e => Fr.keep (by assumption) _ _ (G _ _ e)) _ _ ht) fun h' tk' tok hE => ?_
    rename Fr _ _ _ _ => F
    replace F := F.keeps hE
    simp only [T.body]
    k_steps
    all_goals (show Leave0 g L' _ _ _; refine leave0_ (by assumption) G ?_; intro hE)
    all_goals (refine ret_int (hret _ _ _ hE) (size_node ?_))
    all_goals (clear key ih; (try simp only [Int.toNat_zero] at *); repeat' split)
    all_goals omega

theorem body_spec : ∀ (n : Nat) (t : T), t.dep ≤ n → BodySpec t := by
  intro n
  induction n with
  | zero => intro t h; cases t <;> simp only [T.dep] at h <;> omega
  | succ n ih =>
    intro t h
    cases t with
    | leaf b => exact body_leaf b
    | node ks =>
      refine body_node ks fun t ht => ?_
      obtain ⟨i, hi, e⟩ := List.getElem_of_mem ht
      have := T.dep_le (ts := ks) (i := i) (t := t) (by rw [List.getElem?_eq_getElem hi, e])
      exact size_of_body t (ih t (by simp only [T.dep] at h; omega))
theorem size_spec (t : T) : SizeSpec t := size_of_body t (body_spec _ t (Nat.le_refl _))
theorem bodySpec (t : T) : BodySpec t := body_spec _ t (Nat.le_refl _)
end Mine
end
section
open PySem PySem.W PySem.Calls PyProof.Rows PySem.Spec
namespace Mine
theorem fresh_F4 : True := by
  w_top off
  run_tac do
    walkLines.set (0, {})
    walkStart.set 0
    walkLate.set false
  trivial

/-- new generators may stand, each at rest; the old ones stand as they stood -/
def GX (a b : Array GenState) : Prop := a.size ≤ b.size ∧ (∀ (i : Nat) x, a[i]? = some x → b[i]? = some x) ∧ ∀ (i : Nat) x, a.size ≤ i → b[i]? = some x → x.bare = true
theorem GX.refl (a : Array GenState) : GX a a := ⟨Nat.le_refl _, fun _ _ e => e, fun i x h e => by rw [Array.getElem?_eq_none h] at e; cases e⟩
theorem GX.trans {a b c : Array GenState} (x : GX a b) (y : GX b c) : GX a c := ⟨Nat.le_trans x.1 y.1, fun i z e => y.2.1 i z (x.2.1 i z e), fun i z h e => by
  rcases Nat.lt_or_ge i b.size with hb | hb
  · obtain ⟨z', e'⟩ : ∃ z', b[i]? = some z' := ⟨_, Array.getElem?_eq_getElem hb⟩
    have e2 := y.2.1 i z' e'
    rw [e] at e2
    cases e2
    exact x.2.2 i z h e'
  · exact y.2.2 i z hb e⟩
theorem GX.bare {a b : Array GenState} (x : GX a b) (h : ∀ y ∈ a, y.bare = true) : ∀ y ∈ b, y.bare = true := by
  intro y hy
  obtain ⟨i, hi, rfl⟩ := Array.mem_iff_getElem.mp hy
  rcases Nat.lt_or_ge i a.size with ha | ha
  · have e := x.2.1 i _ (Array.getElem?_eq_getElem ha)
    rw [Array.getElem?_eq_getElem hi] at e
    rw [Option.some.inj e]
    exact h _ (Array.getElem_mem ha)
  · exact x.2.2 i _ ha (Array.getElem?_eq_getElem hi)

/-- as GX, beside the generator g -/
def GG (g : Nat) (a b : Array GenState) : Prop :=
  a.size ≤ b.size ∧ (∀ (i : Nat) x, i ≠ g → a[i]? = some x → b[i]? = some x) ∧ (∀ (i : Nat) x, a.size ≤ i → b[i]? = some x → x.bare = true) ∧ (b[g]? = a[g]? ∨ ∀ x, b[g]? = some x → x.bare = true)
theorem GG.refl (g : Nat) (a : Array GenState) : GG g a a := ⟨Nat.le_refl _, fun _ _ _ e => e, (fun i x h e => by rw [Array.getElem?_eq_none h] at e; cases e), .inl rfl⟩
theorem GG.trans {g : Nat} {a b c : Array GenState} (x : GG g a b) (y : GG g b c) : GG g a c := ⟨Nat.le_trans x.1 y.1, fun i z hi e => y.2.1 i z hi (x.2.1 i z hi e), fun i z h e => by
  rcases Nat.lt_or_ge i b.size with hb | hb
  · obtain ⟨z', e'⟩ : ∃ z', b[i]? = some z' := ⟨_, Array.getElem?_eq_getElem hb⟩
    by_cases hg : i = g
    · subst hg
      rcases y.2.2.2 with q | q
      · rw [q] at e; exact x.2.2.1 i z h e
      · exact q z e
    · have e2 := y.2.1 i z' hg e'
      rw [e] at e2
      cases e2
      exact x.2.2.1 i z h e'
  · exact y.2.2.1 i z hb e, by
  rcases y.2.2.2 with q | q
  · rcases x.2.2.2 with r | r
    · exact .inl (q.trans r)
    · exact .inr fun z e => r z (q ▸ e)
  · exact .inr q⟩

def KX (s s' : Shared) : Prop := ∃ h' tk gs, s' = { s with heap := h', toks := tk, gens := gs } ∧ Ext s.heap h' ∧ GX s.gens gs
def SinceX (C : Addr) (wr : List Addr) (s₀ s : Shared) : Prop :=
  ∃ h' tk gs, s = { s₀ with heap := h', toks := tk, gens := gs } ∧ (∀ b o, b ≠ C → b ∉ wr → s₀.heap.get? b = some o → h'.get? b = some o) ∧ GX s₀.gens gs
theorem SinceX.refl (C : Addr) (wr : List Addr) (s : Shared) : SinceX C wr s s := ⟨s.heap, s.toks, s.gens, rfl, fun _ _ _ _ e => e, GX.refl _⟩
theorem SinceX.step {C : Addr} {wr : List Addr} {s₀ s : Shared} (x : SinceX C wr s₀ s) {h' : Heap} {tk : Nat} {gs : Array GenState} (hk : ∀ b o, b ≠ C → b ∉ wr → s.heap.get? b = some o → h'.get? b = some o) (hg : GX s.gens gs) :
    SinceX C wr s₀ { s with heap := h', toks := tk, gens := gs } := by
  obtain ⟨h₁, tk₁, gs₁, rfl, hk₁, hg₁⟩ := x
  exact ⟨h', tk, gs, rfl, fun b o hC hw e => hk b o hC hw (hk₁ b o hC hw e), hg₁.trans hg⟩

abbrev loopCode (elt iter : Expr) (x : Str) (px : Pos) (scope : Scope) (pos : Pos) (I : Addr) (cenv : Env) : Code := .compLoop (.GeneratorExp elt [⟨.Name x px, iter, [], 0⟩] scope pos) 0 (.ref I) .none cenv
abbrev startCode (elt iter : Expr) (x : Str) (px : Pos) (scope : Scope) (pos : Pos) (I : Addr) (cenv : Env) : Code := .compStart (.GeneratorExp elt [⟨.Name x px, iter, [], 0⟩] scope pos) 0 (.ref I) .none cenv
abbrev endX (C : Addr) (wr : List Addr) : GenEnd := fun n s₀ r s₁ => r = .ok .next ∧ (n = 0 ∧ SinceX C wr s₀ s₁)
def protoX (C : Addr) (fp wr : List Addr) (n₀ : Nat) (F : Nat → Value → Prop) : Protocol := fun m s₀ v s kap =>
  F (n₀ - 1 - m) v ∧ SinceX C wr s₀ s ∧ ∀ s'' : Shared, (∀ b ∈ C :: fp, ∀ o, s.heap.get? b = some o → s''.heap.get? b = some o) → kap (.send .none) s''

section
variable {prog : Program} {w : World} {A : Around}

def EltX (prog : Program) (w : World) (A : Around) (elt : Expr) (x : Str) (code : Code) (cenv : Env) (fp wr : List Addr) (n₀ : Nat) (P : Nat → Value → Prop) (F : Nat → Value → Prop) (href : Heap) : Prop :=
  ∀ E' i v (s₂ : Shared) m₂, i < n₀ → P i v → s₂.heap.Ns cenv.locals m₂ → m₂ x = some v → (∀ b ∈ fp, b ∉ wr → ∀ o, href.get? b = some o → s₂.heap.get? b = some o) →
    wpAny (model prog w) (A.over code []) (eval elt cenv) (fun y s₃ => F i y ∧ KX s₂ s₃) E' s₂

theorem seg_loopX {elt iter : Expr} {x : Str} {px : Pos} {scope : Scope} {pos : Pos} {I : Addr} {fp wr : List Addr} {n₀ : Nat} {P : Nat → Value → Prop} {St₀ : Nat → Heap → Prop} {cenv : Env}
    (hh : A.handled = none) (W₀ : ∀ A' : Around, A'.handled = none → Walks prog w A' I fp wr n₀ P St₀) (F : Nat → Value → Prop) (href : Heap)
    (hx : cenv.kindOf x = some .local) (hp : (cenv.scope.kind == .class || (cenv.scope.kind == .module && cenv.locals != cenv.globals)) = false)
    (hco : cenv.scope.isCoroutine = false) (hCf : cenv.locals ∉ fp) (hq : EltX prog w A elt x (loopCode elt iter x px scope pos I cenv) cenv fp wr n₀ P F href) :
    ∀ (k i : Nat) (s₀ s : Shared) (m : Str → Option Value), n₀ - i = k → i ≤ n₀ → St₀ i s.heap → s.heap.Ns cenv.locals m → SinceX cenv.locals wr s₀ s →
      (∀ b ∈ fp, b ∉ wr → ∀ o, href.get? b = some o → s.heap.get? b = some o) →
      Seg (model prog w) A (endX cenv.locals wr) (protoX cenv.locals fp wr n₀ F) k s₀ (loopCode elt iter x px scope pos I cenv) ((model prog w).den (loopCode elt iter x px scope pos I cenv)) [] s := by
  have hh' : (A.over (loopCode elt iter x px scope pos I cenv) []).handled = none := hh
  have hCw : cenv.locals ∉ wr := fun h => hCf ((W₀ A hh).sub _ h)
  intro k
  induction k with
  | zero =>
    intro i s₀ s m hk hi hst hn hsince hkp
    have hin : i = n₀ := by omega
    subst hin
    show Seg _ A _ _ _ s₀ _ ((compTurn (.GeneratorExp elt [⟨.Name x px, iter, [], 0⟩] scope pos) 0 (.ref I) .none cenv).onRaise (leaving cenv)) [] s
    rw [compTurn_gen, Sem.onRaise_eq_wrap]
    refine seg_bind_wrap (wpAny_standAt ?_)
    refine seg_bind_wrap ((W₀ _ hh').done s _ _ hst fun h' tk hk' => ?_)
    exact seg_end (.ok .next) ⟨rfl, rfl, hsince.step (fun b o _ hw e => hk' b o hw e) (GX.refl _)⟩
  | succ k ih =>
    intro i s₀ s m hk hi hst hn hsince hkp
    have hlt : i < n₀ := by omega
    show Seg _ A _ _ _ s₀ _ ((compTurn (.GeneratorExp elt [⟨.Name x px, iter, [], 0⟩] scope pos) 0 (.ref I) .none cenv).onRaise (leaving cenv)) [] s
    rw [compTurn_gen, Sem.onRaise_eq_wrap]
    refine seg_bind_wrap (wpAny_standAt ?_)
    refine seg_bind_wrap ((W₀ _ hh').item i s _ _ hlt hst fun v h₁ tk₁ hPv hst₁ hk₁ => ?_)
    refine seg_bind_wrap (wpAny_of_eq (rfl : letOwnedTupleGo (.Name x px) (.ref I) v = pure ()) ?_)
    refine seg_bind_wrap (wpAny_assign_Name (wpAny_storeName_local hx (hn.at' fun o e => hk₁ _ o hCw e) (fun h₂ hn₂ hs₂ => ?_) hp))
    have up₂ : ∀ b o, b ≠ cenv.locals → b ∉ wr → s.heap.get? b = some o → h₂.get? b = some o := fun b o hbC hbw e => hs₂.extBut b o hbC (hk₁ b o hbw e)
    have hst₂ : St₀ (i + 1) h₂ := (W₀ A hh).frame _ _ _ hst₁ fun b hb o e => hs₂.extBut b o (fun h => hCf (h ▸ hb)) e
    have hkp₂ : ∀ b ∈ fp, b ∉ wr → ∀ o, href.get? b = some o → h₂.get? b = some o := fun b hb hbw o e => up₂ b o (fun h => hCf (h ▸ hb)) hbw (hkp b hb hbw o e)
    refine seg_bind_wrap (wpAny_of_eq (a := true) rfl ?_)
    have hsince₃ : SinceX cenv.locals wr s₀ { s with heap := h₂, toks := tk₁ + 1 } := hsince.step (fun b o hbC hbw e => up₂ b o hbC hbw e) (GX.refl _)
    simp only [if_true]
    have hy : ∀ v, yieldOut cenv v = yieldValue v := fun v => by simp only [yieldOut, hco, Bool.false_eq_true, if_false]
    simp only [hy]
    rw [Sem.bind_eq_wrap', Sem.bind_eq_wrap', Sem.wrap_wrap, Sem.wrap_wrap]
    refine seg_wrap (wpAny_mono (hq _ i v _ _ hlt hPv hn₂ (by simp) fun b hb hbw o e => hkp₂ b hb hbw o e) (fun y s₄ h₄ => ?_) fun _ _ e => e)
    obtain ⟨hFy, h₄, tk₄, gs₄, rfl, hk₄, hg₄⟩ := h₄
    have hidx : n₀ - 1 - k = i := by omega
    refine seg_at (seg_yield rfl rfl rfl ⟨by show F (n₀ - 1 - k) y; rw [hidx]; exact hFy, hsince₃.step (fun b o _ _ e => hk₄ b o e) hg₄, fun s'' hal => ?_⟩)
    refine seg_again rfl (ih (i + 1) s'' s'' _ (by omega) hlt ((W₀ A hh).frame _ _ _ hst₂ fun b hb o e => hal b (List.mem_cons_of_mem _ hb) o (hk₄ b o e))
      ((hn₂.keeps hk₄).at' fun o e => hal _ (List.mem_cons_self ..) o e) (SinceX.refl _ _ _) fun b hb hbw o e => hal b (List.mem_cons_of_mem _ hb) o (hk₄ b o (hkp₂ b hb hbw o e)))

theorem seg_startX {elt iter : Expr} {x : Str} {px : Pos} {scope : Scope} {pos : Pos} {I : Addr} {fp wr : List Addr} {n₀ : Nat} {P : Nat → Value → Prop} {St₀ : Nat → Heap → Prop} {cenv : Env}
    (hh : A.handled = none) (W₀ : ∀ A' : Around, A'.handled = none → Walks prog w A' I fp wr n₀ P St₀) (F : Nat → Value → Prop) (href : Heap)
    (hx : cenv.kindOf x = some .local) (hp : (cenv.scope.kind == .class || (cenv.scope.kind == .module && cenv.locals != cenv.globals)) = false)
    (hco : cenv.scope.isCoroutine = false) (hCf : cenv.locals ∉ fp) (hq : EltX prog w A elt x (loopCode elt iter x px scope pos I cenv) cenv fp wr n₀ P F href)
    (s₀ s : Shared) (m : Str → Option Value) (hst : St₀ 0 s.heap) (hn : s.heap.Ns cenv.locals m) (hsince : SinceX cenv.locals wr s₀ s)
    (hkp : ∀ b ∈ fp, b ∉ wr → ∀ o, href.get? b = some o → s.heap.get? b = some o) :
    Seg (model prog w) A (endX cenv.locals wr) (protoX cenv.locals fp wr n₀ F) n₀ s₀ (startCode elt iter x px scope pos I cenv) ((model prog w).den (startCode elt iter x px scope pos I cenv)) [] s := by
  have hh' : (A.over (startCode elt iter x px scope pos I cenv) []).handled = none := hh
  have loop := seg_loopX (iter := iter) (px := px) (scope := scope) (pos := pos) hh W₀ F href hx hp hco hCf hq n₀ 0 s₀ s m (Nat.sub_zero _) (Nat.zero_le _) hst hn hsince hkp
  show Seg _ A _ _ _ s₀ _ ((compStart (.GeneratorExp elt [⟨.Name x px, iter, [], 0⟩] scope pos) 0 (.ref I) .none cenv).onRaise (leaving cenv)) [] s
  unfold compStart
  rw [Sem.onRaise_eq_wrap]
  show Seg _ A _ _ _ s₀ _ ((ask >>= _).wrap _ _ _ _) [] s
  refine seg_bind_wrap (wpAny_askSetting ?_)
  split
  · exact seg_again rfl loop
  · first
      | exact seg_bind_wrap (wpAny_rule (seg_bind_wrap (wpAny_standAt (seg_bind_wrap ((W₀ _ hh').self 0 s _ _ hst (seg_again rfl loop))))))
      | (refine seg_bind_wrap (wpAny_rule ?_); show Seg _ A _ _ _ s₀ _ ((standAt iter.pos >>= _).wrap _ _ _ _) [] s; exact seg_bind_wrap (wpAny_standAt (seg_bind_wrap ((W₀ _ hh').self 0 s _ _ hst (seg_again rfl loop)))))

def GenAtX (prog : Program) (w : World) (A : Around) (a : Addr) (g : Nat) (C : Addr) (fp wr : List Addr) (n₀ : Nat) (F : Nat → Value → Prop) (j : Nat) (s : Shared) : Prop :=
  s.heap.IsGen a g ∧ s.heap.NoLimit ∧ ∃ gs, s.gens[g]? = some gs ∧ ∀ s'' : Shared, (∀ b ∈ C :: fp, ∀ o, s.heap.get? b = some o → s''.heap.get? b = some o) →
    gs.Goes (model prog w) A.in1 (endX C wr) (protoX C fp wr n₀ F) (n₀ - j) (.send .none) s''

theorem setGen_ne {s : Shared} {g i : Nat} {x : GenState} (h : i ≠ g) : (s.setGen g x).gens[i]? = s.gens[i]? := by simp [Shared.setGen, Ne.symm h]
theorem setGen_size {s : Shared} {g : Nat} {x : GenState} : (s.setGen g x).gens.size = s.gens.size := by simp [Shared.setGen]

theorem gg_of {s : Shared} {g : Nat} {gs gs' : GenState} {b : Array GenState} {h' : Heap} {tk : Nat} (hgs : s.gens[g]? = some gs) (hX : GX (s.setGen g .running).gens b) (hb : gs'.bare = true) :
    GG g s.gens (({ s.setGen g .running with heap := h', toks := tk, gens := b } : Shared).setGen g gs').gens := by
  have hlt : g < s.gens.size := by
    rcases Nat.lt_or_ge g s.gens.size with h' | h'
    · exact h'
    · rw [Array.getElem?_eq_none h'] at hgs; cases hgs
  have hr : (s.setGen g .running).gens[g]? = some .running := setGen_self hgs
  refine ⟨by rw [setGen_size]; exact setGen_size (s := s) (g := g) (x := .running) ▸ hX.1, fun i x hi e => ?_, fun i x hi e => ?_, .inr fun x e => ?_⟩
  · rw [setGen_ne hi]
    exact hX.2.1 i x (by rw [setGen_ne hi]; exact e)
  · have hi' : i ≠ g := fun q => by rw [q] at hi; exact Nat.lt_irrefl _ (Nat.lt_of_lt_of_le hlt hi)
    rw [setGen_ne hi'] at e
    exact hX.2.2 i x (by rw [setGen_size]; exact hi) e
  · rw [setGen_self (gs := .running) (by exact hX.2.1 g _ hr)] at e
    cases e; exact hb

theorem WalksS.genexpX (hh : A.handled = none) (a : Addr) (g : Nat) (C : Addr) (fp wr : List Addr) (n₀ : Nat) (F : Nat → Value → Prop) (haC : a ≠ C) (haf : a ∉ fp) (hsub : ∀ b ∈ wr, b ∈ fp)
    (hroom : A.depth < recursionLimit) (hcs : cStatics ∈ fp) (hcC : cStatics ≠ C) (hcw : cStatics ∉ wr) :
    WalksS prog w A a (a :: C :: fp) (C :: wr) (GG g) n₀ F (GenAtX prog w A a g C fp wr n₀ F) where
  sub := fun b hb => by
    rcases List.mem_cons.mp hb with rfl | hb
    · simp
    · exact List.mem_cons_of_mem _ (List.mem_cons_of_mem _ (hsub b hb))
  grefl := fun _ => GG.refl _ _
  gtrans := fun _ _ _ x y => x.trans y
  frame := fun j s h' tk st _ hk =>
    ⟨let ⟨o, nm, qn, ho, r⟩ := st.1; ⟨o, nm, qn, hk a (List.mem_cons_self ..) o ho, r⟩,
     (let ⟨mc, hns, hnn⟩ := st.2.1; ⟨mc, hns.at' fun o e => hk cStatics (List.mem_cons_of_mem _ (List.mem_cons_of_mem _ hcs)) o e, hnn⟩),
     let ⟨gs, hgs, hgo⟩ := st.2.2; ⟨gs, hgs, fun s'' hal => hgo s'' fun b hb o e => hal b hb o (hk b (List.mem_cons_of_mem _ hb) o e)⟩⟩
  item := fun j s Q E hj st hQ => by
    obtain ⟨hg, hl, gs, hgs, hgo⟩ := st
    obtain ⟨m, hm⟩ : ∃ m, n₀ - j = m + 1 := ⟨n₀ - j - 1, by omega⟩
    rw [hm] at hgo
    refine wpAny_with_toks (Nat.le_refl s.toks) ?_
    refine wpAny_pyNext_genexpQ (P := fun n s₀ s₁ => n = 0 ∧ SinceX C wr s₀ s₁) hh hl hroom hg hgs (hgo _ fun _ _ _ e => e) (fun v s₁ gs' hb hv => ?_) (fun s₁ hp h' hk => ?_)
    · obtain ⟨hF, ⟨h₁, tk₁, g₁, rfl, hk₁, hX⟩, hkap⟩ := hv
      have hidx : n₀ - 1 - (m + 1 - 1) = j := by omega
      rw [hidx] at hF
      have haw : a ∉ wr := fun h => haf (hsub a h)
      intro htk
      have hr : (s.setGen g .running).gens[g]? = some .running := setGen_self hgs
      refine hQ v _ hF ⟨let ⟨o, nm, qn, ho, r⟩ := hg; ⟨o, nm, qn, hk₁ a o haC haw ho, r⟩, (let ⟨mc, hns, hnn⟩ := hl; ⟨mc, hns.at' fun o e => hk₁ cStatics o hcC hcw e, hnn⟩), gs', setGen_self (gs := .running) (by exact hX.2.1 g _ hr), fun s'' hal => ?_⟩
        ⟨fun b o hb e => hk₁ b o (fun h => hb (h ▸ List.mem_cons_self ..)) (fun h => hb (List.mem_cons_of_mem _ h)) e, gg_of hgs hX hb, rfl, rfl, htk⟩
      have e : n₀ - (j + 1) = m := by omega
      rw [e]
      exact hkap s'' hal
    · exact absurd hp.1 (Nat.succ_ne_zero m)
  done := fun s Q E st hQ => by
    obtain ⟨hg, hl, gs, hgs, hgo⟩ := st
    rw [Nat.sub_self] at hgo
    refine wpAny_with_toks (Nat.le_refl s.toks) ?_
    refine wpAny_pyNext_genexpQ (P := fun n s₀ s₁ => n = 0 ∧ SinceX C wr s₀ s₁) hh hl hroom hg hgs (hgo _ fun _ _ _ e => e) (fun v s₁ gs' hb hv => ?_) (fun s₁ hp h' hk => ?_)
    · obtain ⟨_, _, hkap⟩ := hv
      exact False.elim (hkap s₁ fun _ _ _ e => e)
    · obtain ⟨_, h₁, tk₁, g₁, rfl, hk₁, hX⟩ := hp
      intro htk
      exact hQ _ ⟨fun b o hb e => hk b o (hk₁ b o (fun h => hb (h ▸ List.mem_cons_self ..)) (fun h => hb (List.mem_cons_of_mem _ h)) e), gg_of hgs hX rfl, rfl, rfl, htk⟩
  self := fun _ _ _ _ st hQ => wpAny_pyIter_gen st.1 hQ

/-- a generator over a list of the heap's, made: what it gives, item by item -/
theorem GeneratorExp_X {E : Value → Shared → Prop} {s : Shared} {env : Env} {elt iter : Expr} {x : Str} {px : Pos} {scope : Scope} {cl : List (Str × Addr)} {pos : Pos} {Q : Value → Shared → Prop}
    (hh : A.handled = none) (hco : scope.isCoroutine = false) (hclos : closureFor scope env = pure cl) (hcell : ∀ y ∈ scope.names, y.2 ≠ .cell) (h0 : scope.names.lookup (".0" : Str) = some NameKind.local)
    (hx : scope.names.lookup x = some .local) (hkind : scope.kind = .function) (hroom : A.depth < recursionLimit)
    (h : wpAny (model prog w) A (eval iter env) (fun xv s₁ => ∃ ax vs, xv = .ref ax ∧ s₁.heap.IsList ax (List.toArray vs) ∧ s₁.heap.NoLimit ∧
      ∀ s₂, (∃ h' tk, s₂ = { s₁ with heap := h', toks := tk }) → Ext s₁.heap s₂.heap →
      wpAny (model prog w) A (genexprCode env pos (env.qual ++ "<genexpr>") scope) (fun code s₃ => wpAny (model prog w) A (builtinsFor env.globals env.builtins) (fun bi s₄ =>
        ∃ F P, P < s₁.heap.objs.size ∧ P ≠ ax ∧ s₄.heap.NoLimit ∧ (∀ b o, b ≠ P → s₂.heap.get? b = some o → s₄.heap.get? b = some o) ∧ (∃ h' tk, s₄ = { s₂ with heap := h', toks := tk }) ∧
          (∀ href, (∀ b o, s₄.heap.get? b = some o → href.get? b = some o) →
            EltX prog w A.in4.in1 elt x (loopCode elt iter x px scope pos s₁.heap.objs.size (genEnv scope cl s₄.heap.objs.size code bi env)) (genEnv scope cl s₄.heap.objs.size code bi env) (List.range s₄.heap.objs.size) [s₁.heap.objs.size] vs.length (fun i v => vs[i]? = some v) F href) ∧
          (∀ a h₅ tk gs, gs.bare = true → s₄.heap.objs.size < a → h₅.objs.size = a + 1 → (∀ b o, s₄.heap.get? b = some o → h₅.get? b = some o) →
            WalksS prog w A.in4 a (a :: s₄.heap.objs.size :: List.range s₄.heap.objs.size) (s₄.heap.objs.size :: [s₁.heap.objs.size]) (GG s₄.gens.size) vs.length F
              (GenAtX prog w A.in4 a s₄.gens.size s₄.heap.objs.size (List.range s₄.heap.objs.size) [s₁.heap.objs.size] vs.length F) →
            GenAtX prog w A.in4 a s₄.gens.size s₄.heap.objs.size (List.range s₄.heap.objs.size) [s₁.heap.objs.size] vs.length F 0 { s₄ with gens := s₄.gens.push gs, toks := tk, heap := h₅ } →
            Q (.ref a) { s₄ with gens := s₄.gens.push gs, toks := tk, heap := h₅ })) E s₃) E s₂) E s)
    (hs : ∀ x, genFold iter env x = pure x) :
    wpAny (model prog w) A (eval (.GeneratorExp elt [⟨.Name x px, iter, [], 0⟩] scope pos) env) Q E s := by
  refine wpAny_GeneratorExp_make hco hclos hcell h0 hkind hroom (wpAny_mono h (fun xv s₁ h₁ => ?_) fun _ _ e => e) hs
  obtain ⟨ax, vs, rfl, hl, hlim, h₁⟩ := h₁
  obtain ⟨oax, hoax, _⟩ := id hl
  have hlt : ax < s₁.heap.objs.size := Heap.lt_size hoax
  refine wpAny_pyIter_list hl ⟨hlim.keeps fun b o e => Heap.get?_push_of_some _ e, ?_⟩
  have hst : Heap.IsListIter (s₁.heap.push { cls := .type "list_iterator", data := .fields #[.ref ax, .int 0 0] }) s₁.heap.objs.size ax 0 ∧ Heap.IsList (s₁.heap.push { cls := .type "list_iterator", data := .fields #[.ref ax, .int 0 0] }) ax vs.toArray :=
    ⟨⟨_, Heap.get?_push_size _ rfl, rfl, rfl⟩, hl.push _⟩
  refine wpAny_mono (h₁ _ ⟨_, _, rfl⟩ (fun b o e => Heap.get?_push_of_some _ e)) (fun code s₃ h₃ => wpAny_mono h₃ (fun bi s₄ h₄ => ?_) fun _ _ e => e) fun _ _ e => e
  obtain ⟨F, P, hP1, hPa, hl4, k24, ⟨h4, tk4, rfl⟩, hq, hQ⟩ := h₄
  dsimp only at hl4 k24
  have hclt : cStatics < h4.objs.size := let ⟨_, hn, _⟩ := hl4; hn.lt
  have hI4 : s₁.heap.objs.size < h4.objs.size := Heap.lt_size (k24 _ _ (Ne.symm (Nat.ne_of_lt hP1)) (Heap.get?_push_size _ rfl))
  have hax4 : ax < h4.objs.size := Nat.lt_trans hlt hI4
  intro h' hn' hs'
  dsimp only at hn' hs'
  have hsz : h'.objs.size = h4.objs.size + 1 := by rw [hs'.1, Heap.size_push]
  have keep' : ∀ b o, h4.get? b = some o → h'.get? b = some o := fun b o e => hs'.extBut b o (Nat.ne_of_lt (Heap.lt_size e)) (Heap.get?_push_of_some _ e)
  have W₀ : ∀ A' : Around, A'.handled = none → Walks prog w A' s₁.heap.objs.size (List.range h4.objs.size) [s₁.heap.objs.size] vs.length (fun i v => vs[i]? = some v) (fun i h => h.IsListIter s₁.heap.objs.size ax i ∧ h.IsList ax vs.toArray) := fun A' hA => by
    have := (Walks.list (prog := prog) (w := w) hA s₁.heap.objs.size ax (Nat.ne_of_lt hlt) vs.toArray).mono_fp (fp' := List.range h4.objs.size) fun b hb => by
      simp only [List.mem_cons, List.not_mem_nil, or_false] at hb
      rcases hb with rfl | rfl
      · exact List.mem_range.mpr hI4
      · exact List.mem_range.mpr hax4
    simpa using this
  have haC : h'.objs.size ≠ h4.objs.size := by rw [hsz]; exact Nat.succ_ne_self _
  have haf : h'.objs.size ∉ List.range h4.objs.size := fun hm => by have := List.mem_range.mp hm; omega
  have hcw : cStatics ∉ [s₁.heap.objs.size] := fun hm => by
    have e := List.mem_singleton.mp hm
    have : cStatics < s₁.heap.objs.size := let ⟨_, hn, _⟩ := hlim; hn.lt
    rw [e] at this; exact Nat.lt_irrefl _ this
  have keep₅ : ∀ b o, h4.get? b = some o → (h'.push { cls := .type "generator", data := .fields #[.int s₁.gens.size 0, .str "<genexpr>" (tk4 + 1), .str (env.qual ++ "<genexpr>") (tk4 + 1 + 1)] }).get? b = some o :=
    fun b o e => Heap.get?_push_of_some _ (keep' b o e)
  refine hQ _ _ _ _ rfl (by show h4.objs.size < h'.objs.size; omega) (by rw [Heap.size_push]) keep₅ (WalksS.genexpX (A := A.in4) hh _ _ _ _ _ _ F haC haf (fun b hb => by rw [List.mem_singleton.mp hb]; exact List.mem_range.mpr hI4) hroom (List.mem_range.mpr hclt) (Nat.ne_of_lt hclt) hcw) ?_
  refine ⟨⟨_, _, _, Heap.get?_push_size _ rfl, rfl, rfl, rfl⟩, hl4.keeps keep₅, _, Array.getElem?_push_size .., fun s'' hal => ⟨rfl, ?_⟩⟩
  refine seg_startX (A := A.in4.in1) (cenv := genEnv scope cl h4.objs.size code bi env) (m := fun y => if y = ".0" then some (.ref s₁.heap.objs.size) else none) hh W₀ F h4 hx (by simp [genEnv, hkind]) hco
    (fun hm => Nat.lt_irrefl _ (List.mem_range.mp hm)) (hq _ fun _ _ e => e) s'' s'' ?_ ?_ (SinceX.refl _ _ _) ?_
  · refine ⟨(hst.1.at fun o e => ?_), (hst.2.at fun o e => ?_)⟩
    · exact hal _ (List.mem_cons_of_mem _ (List.mem_range.mpr hI4)) o (keep₅ _ _ (k24 _ _ (Ne.symm (Nat.ne_of_lt hP1)) e))
    · exact hal _ (List.mem_cons_of_mem _ (List.mem_range.mpr hax4)) o (keep₅ _ _ (k24 _ _ (Ne.symm hPa) e))
  · exact (hn'.push _).at' fun o e => hal _ (List.mem_cons_self ..) o e
  · exact fun b hb _ o e => hal b (List.mem_cons_of_mem _ hb) o (keep₅ _ _ e)
end
end Mine
end
section
open PySem PySem.W PySem.Calls PyProof.Rows PySem.Spec
namespace Mine
theorem fresh_F5 : True := by
  w_top off
  run_tac do
    walkLines.set (0, {})
    walkStart.set 0
    walkLate.set false
  trivial
open Builtin
theorem slot_join : Slot "bytes" "join" "bytes.join" :=
  .of (owner := "bytes") (n := "join") (by rw [typeLookup_type, builtinLookup_eq_fast]; kernel_rfl) (by decide +kernel) (by decide +kernel) (by decide +kernel)
    (by first | exact .inl (by decide +kernel) | exact .inr (by decide +kernel)) (by rw [isSubtype_type]; kernel_rfl)
theorem entry_join : entryFor table "bytes.join" = some Builtin.«bytes.join» := by first | exact entryFor_of_fast (by kernel_rfl) | exact entryFor_of_tree (by kernel_rfl)
theorem args_join (a b : Value) : argsOk "bytes.join" ⟨[a, b], []⟩ := by unfold argsOk; kernel_rfl
theorem self_join (a b : Value) : selfAndOne "bytes.join" ⟨[a, b], []⟩ = pure (a, b) := by first | rfl | kernel_rfl
theorem take_bytes {id : String} {b : Array UInt8} {t : Tok} : Bytes.takeBufferQuiet? id (.bytes b t) 0 = pure (some (b, none)) := by
  unfold Bytes.takeBufferQuiet? Bytes.takeBuffer?
  rw [KBy.special_eq KBy.look_buffer, KBy.own_buffer]
  simp only [pure_bind]
  have e : ((0 : Int) == Bytes.fullReadOnly) = false := by decide
  show ((do let r ← Bytes.buffer? id (.bytes b t) ((0 : Int) == Bytes.fullReadOnly); pure (r.map (·, none)) : Sem (Option (Array UInt8 × Option Value))).attempt >>= _) = _
  rw [e, KBy.buffer_eq]
  rfl

section
variable {prog : Program} {w : World} {A : Around} {E : Value → Shared → Prop} {s : Shared}
theorem letGo_bytes {M : Model} {keep : List Value} {Q : Unit → Shared → Prop} (h : Q () s) : ∀ (taken : List (Value × Option Value)), (∀ p ∈ taken, p.2 = none) → wpAny M A (Bytes.joinLetGo taken keep) Q E s
  | [], _ => wpAny_pure h
  | (x, u) :: r, hn => by
    obtain rfl : u = none := hn (x, u) (List.mem_cons_self ..)
    unfold Bytes.joinLetGo
    dsimp only
    refine wpAny_bind (m := pure _) (wpAny_pure ?_)
    refine wpAny_bind (wpAny_letGo ?_)
    exact letGo_bytes h r fun p hp => hn p (List.mem_cons_of_mem _ hp)

theorem wpRange {β : Type} {M : Model} {n : Nat} (f : Nat → β → Sem (ForInStep β)) (I : Nat → β → Prop) (step : ∀ i b, i < n → I i b → wpAny M A (f i b) (fun r s' => s' = s ∧ ∃ b', r = .yield b' ∧ I (i + 1) b') E s) :
    ∀ (k i : Nat) (b : β), i + k = n → I i b → wpAny M A (forIn (List.range' i k) b f) (fun b' s' => s' = s ∧ I n b') E s := by
  intro k
  induction k with
  | zero =>
    intro i b e h
    have : i = n := by omega
    subst this
    exact wpAny_pure ⟨rfl, h⟩
  | succ k ih =>
    intro i b e h
    rw [List.range'_succ, List.forIn_cons]
    refine wpAny_bind (wpAny_mono (step i b (by omega) h) (fun r s' hr => ?_) fun _ _ x => x)
    obtain ⟨rfl, b', rfl, hb⟩ := hr
    exact ih (i + 1) b' (by omega) hb

def cat (d : Nat → Array UInt8) (n : Nat) : List UInt8 := ((List.range n).map fun i => (d i).toList).flatten

theorem joined_nil : ∀ (l : List (Array UInt8)), (Bytes.joined #[] l).toList = (l.map (·.toList)).flatten := by
  have key : ∀ (l : List (Array UInt8)) (k : Nat) (out : Array UInt8), ((l.zipIdx k).foldl (fun out (p : Array UInt8 × Nat) => (if p.2 > 0 then out ++ #[] else out) ++ p.1) out).toList = out.toList ++ (l.map (·.toList)).flatten := by
    intro l
    induction l with
    | nil => intro k out; simp
    | cons a l ih =>
      intro k out
      rw [List.zipIdx_cons, List.foldl_cons, ih]
      split <;> simp
  intro l
  have := key l 0 #[]
  simpa [Bytes.joined] using this
theorem sizes_le : ∀ (l : List (Array UInt8)) (k : Nat), l.foldl (fun acc p => acc + p.size) k = k + ((l.map (·.toList)).flatten).length
  | [], k => by simp
  | a :: l, k => by rw [List.foldl_cons, sizes_le l]; simp; omega


theorem bytes_join {t : Tok} {I : Addr} {fp wr : List Addr} {G : Array GenState → Array GenState → Prop} {n : Nat} {P : Nat → Value → Prop} {St : Nat → Shared → Prop} {d : Nat → Array UInt8} {Q : Value → Shared → Prop}
    (W : WalksS prog w A.in1.in1.in1 I fp wr G n P St) (hT : ∀ i s, St i s → s.TypeIs (.ref I) "generator") (hst : St 0 s) (hfp : ∀ b ∈ fp, b < s.heap.objs.size) (hI : I ∈ fp)
    (hself : ∀ Q' E', Q' (.ref I) s → wpAny (model prog w) A.in1 (pyIter (.ref I)) Q' E' s)
    (hP : ∀ i v, P i v → ∃ tk, v = .bytes (d i) tk) (hsz : (cat d n).length ≤ 16777216) (hn : n ≤ sizeLine)
    (hQ : ∀ s' r tok tk', Moved (s.heap.objs.size :: wr) G { s with heap := s.heap.push { cls := .type "list", data := .seq #[] } } s' → r.toList = cat d n → Q (.bytes r tok) { s' with toks := tk' }) :
    wpAny (model prog w) A (call (.builtin "bytes.join") [.bytes #[] t, .ref I]) Q E s := by
  refine wpAny_call_entry slot_join (typeIs_bytes _ _ _) entry_join ?_ (args_join _ _)
  unfold Builtin.«bytes.join» Bytes.joinM
  refine wpAny_bind (wpAny_of_eq (self_join _ _) ?_)
  dsimp only
  refine wpAny_bind ?_
  unfold Bytes.joinItems
  refine wpAny_bind (wpAny_typeOf (hT 0 _ hst) ?_)
  rw [if_neg (by decide)]
  refine wpAny_bind (wpAny_tryCatch (hself _ _ ?_))
  refine call_list_gen (hn := hn) W hT hst hfp hI fun s' acc' c' hm hS hacc => ?_
  obtain ⟨vs, rfl⟩ : ∃ vs : List Value, acc' = vs.toArray := ⟨acc'.toList, by simp⟩
  have hlen : vs.length = n := by simpa using hacc.1
  have hv : ∀ (i : Nat) (v : Value), vs[i]? = some v → ∃ tk, v = Value.bytes (d i) tk := fun i v e => hP i v (hacc.2 i v (by simpa using e))
  refine wpAny_bind (wpAny_seqItems hS rfl ?_)
  dsimp only
  rw [if_pos (by decide)]
  by_cases h1 : ∃ x, vs = [x]
  · obtain ⟨x, rfl⟩ := h1
    obtain rfl : 1 = n := by simpa using hlen
    obtain ⟨tk, rfl⟩ := hv 0 x rfl
    refine wpAny_bind (wpAny_typeOf (typeIs_bytes _ _ _) ?_)
    rw [if_pos (by decide)]
    refine wpAny_bind (wpAny_rule (wpAny_pure ⟨_, rfl, ?_⟩))
    exact hQ s' (d 0) tk s'.toks hm (by simp [cat])
  · have hne : ∀ {f : Value → Sem Fin} {g : Sem Fin}, (match vs.toArray with | #[x] => f x | _ => g) = g := by
      intro f g
      rcases vs with _ | ⟨x, _ | ⟨y, r⟩⟩
      · rfl
      · exact absurd ⟨x, rfl⟩ h1
      · rfl
    refine (congrArg (fun tr => wpAny (model prog w) A.in1 tr _ E s') hne).mpr ?_
    refine wpAny_bind ?_
    rw [Std.Legacy.Range.forIn_eq_forIn_range']
    simp only [Std.Legacy.Range.size, Nat.sub_zero, Nat.add_sub_cancel, Nat.div_one, List.size_toArray]
    refine wpAny_mono (wpRange (n := n) _ (fun i (b : Array (Array UInt8) × List (Value × Option Value)) => b.1.toList = (List.range i).map d ∧ ∀ p ∈ b.2, p.2 = none ∧ ∃ y tk, p.1 = .bytes y tk) ?_ vs.length 0 _ (by omega) ⟨by simp, by simp⟩) (fun b s'' hb => ?_) fun _ _ x => x
    · rintro i ⟨parts, taken⟩ hi ⟨h1, h2⟩
      obtain ⟨tk, hx⟩ := hv i (vs[i]'(by omega)) (by simp)
      refine wpAny_bind (wpAny_seqItems hS rfl ?_)
      dsimp only
      have hany : (taken.any fun x => x.1.onHeap) = false := by
        rw [List.any_eq_false]
        intro p hp
        obtain ⟨_, y, tk, e⟩ := h2 p hp
        rw [e]; simp [Value.onHeap]
      have hget : vs.toArray.getD i Value.none = .bytes (d i) tk := by
        have : i < vs.length := by omega
        simp [this, hx]
      rw [hget, hany, if_neg (by decide)]
      refine wpAny_bind (wpAny_holding (wpAny_of_eq take_bytes ?_))
      dsimp only
      refine wpAny_bind (wpAny_seqItems hS rfl ?_)
      dsimp only
      rw [if_neg (by simp)]
      refine wpAny_pure ⟨rfl, _, rfl, ?_, ?_⟩
      · simp [List.range_succ]; exact h1
      · intro p hp
        rcases List.mem_append.mp hp with hp | hp
        · exact h2 p hp
        · rw [List.mem_singleton.mp hp]; exact ⟨rfl, _, _, rfl⟩
    · obtain ⟨rfl, h1, h2⟩ := hb
      obtain ⟨parts, taken⟩ := b
      dsimp only at h1 h2 ⊢
      have hc : (parts.toList.map (·.toList)).flatten = cat d n := by rw [h1, List.map_map]; rfl
      refine wpAny_bind (wpAny_of_eq (a := #[]) rfl ?_)
      have htl : Bytes.tooLong (parts.foldl (· + ·.size) ((#[] : Array UInt8).size * (parts.size - 1))) = false := by
        refine KBy.tooLong_not ?_
        rw [← Array.foldl_toList, sizes_le, hc]
        simpa using hsz
      rw [htl, if_neg (by decide)]
      have hj : (Bytes.joined #[] parts.toList).toList = cat d n := by rw [joined_nil, hc]
      refine wpAny_bind (wpAny_mkBytes ?_ ?_)
      · refine wpAny_bind (wpAny_holding (wpAny_point ?_))
        refine wpAny_bind (letGo_bytes ?_ _ fun p hp => (h2 p hp).1)
        exact wpAny_pure ⟨_, rfl, hQ _ _ _ _ hm hj⟩
      · rw [sizeLine_eq, ← Array.length_toList, hj]; exact hsz
end
end Mine
end
section
open PySem PySem.W PySem.Calls PyProof.Rows PySem.Spec
namespace Mine
theorem fresh_F6 : True := by
  w_top off
  run_tac do
    walkLines.set (0, {})
    walkStart.set 0
    walkLate.set false
  trivial
theorem ga_by : typeLookup (.type "bytes") "__getattribute__" = pure (some (.builtin "bytes.__getattribute__")) := by rw [typeLookup_type, builtinLookup_eq_fast]; kernel_rfl
theorem canon_ga_by : (Manifest.canonical "bytes.__getattribute__" != "object.__getattribute__") = false := by decide +kernel
theorem no_getattr_by : typeLookup (.type "bytes") "__getattr__" = pure none := by rw [typeLookup_type, builtinLookup_eq_fast]; kernel_rfl
theorem type_join : typeOf (.builtin "bytes.join") = pure (.type "method_descriptor") := by show builtinType _ = _; rw [builtinType_eq_fast]; kernel_rfl
section
variable {M : Model} {A : Around} {E : Value → Shared → Prop} {s : Shared}
theorem method_join {b : Array UInt8} {t : Tok} {pl : Sem Bool} {Q : Value × List Value → Shared → Prop} (h : Q (.builtin "bytes.join", [.bytes b t]) s) :
    wpAny M A (getMethod (.bytes b t) (PySem.Str.ofString "join") pl) Q E s :=
  getMethod_value (T := "bytes") (name := PySem.Str.ofString "join") (ga := "bytes.__getattribute__") (id := "bytes.join") (typeIs_bytes s b t) (by intro _ x; cases x) ga_by canon_ga_by no_getattr_by slot_join.lookup type_join h
end
/-- the sequel holds at every heap that keeps all but these -/
def ExtB (l : List Addr) (h h' : Heap) : Prop := ∀ b o, b ∉ l → h.get? b = some o → h'.get? b = some o
theorem ExtB.refl (l : List Addr) (h : Heap) : ExtB l h h := fun _ _ _ e => e
theorem ExtB.trans {l : List Addr} {a b c : Heap} (x : ExtB l a b) (y : ExtB l b c) : ExtB l a c := fun q o n e => y q o n (x q o n e)
theorem Ext.but {l : List Addr} {h h' : Heap} (x : Ext h h') : ExtB l h h' := fun b o _ e => x b o e
theorem ExtB.mono {l l' : List Addr} {h h' : Heap} (x : ExtB l h h') (k : ∀ a ∈ l, a ∈ l') : ExtB l' h h' := fun b o n e => x b o (fun q => n (k _ q)) e
end Mine
end
section
open PySem PySem.W PySem.Calls PyProof.Rows PySem.Spec
namespace Mine
theorem fresh_G2 : True := by
  w_top off
  run_tac do
    walkLines.set (0, {})
    walkStart.set 0
    walkLate.set false
  trivial
local macro_rules | `(tactic| walk_at "enter") => `(tactic| (refine' enter (by assumption) ?k6 ?k7 ?k9 ?kB ?_ ?c2 ?c3 ?c4 ?c5; (case k6 => k_is); (case k7 => k_is); (case k9 => exact BindsTo.of_eq rfl); (case c5 => decide); (case kB => exact locs rfl); (case c2 => exact rfl); (case c3 => exact rfl); (case c4 => exact rfl); k_whole; intro dp' un' gd' env' outer' base' g' h' L' p' loose' mean' mg' mb' hd' hu' F' N' B' X' T' G'; (try dsimp only); (try k_fold)))
local macro_rules | `(tactic| walk_at "room") => `(tactic| (refine Room.le (room_in (by assumption) (by assumption) (by assumption) (by assumption) (by assumption) (by assumption) (by rfl) (by rfl)) ?_))
local macro_rules | `(tactic| walk_at "eval ListComp") => `(tactic| (refine stop_ ?_))
local macro_rules | `(tactic| walk_at "call ref") => `(tactic| (refine stop_ ?_))

def be (n : Nat) : List UInt8 := if n < 256 then [n.toUInt8] else [(n / 256).toUInt8, (n % 256).toUInt8]

theorem bits1 {n : Nat} (h0 : 56 ≤ n) (h1 : n < 256) : ((Builtin.Int.intBits (n : Int) : Int) + 7).fdiv 8 = 1 := by
  have a : Builtin.Int.intBits (n : Int) ≤ 8 := intBits_le_iff.mpr (by simp; omega)
  have b : ¬ Builtin.Int.intBits (n : Int) ≤ 0 := fun h => by have := intBits_le_iff.mp h; simp at this; omega
  rw [Int.fdiv_eq_ediv_of_nonneg _ (by decide)]; omega
theorem bits2 {n : Nat} (h0 : 256 ≤ n) (h1 : n < 65536) : ((Builtin.Int.intBits (n : Int) : Int) + 7).fdiv 8 = 2 := by
  have a : Builtin.Int.intBits (n : Int) ≤ 16 := intBits_le_iff.mpr (by simp; omega)
  have b : ¬ Builtin.Int.intBits (n : Int) ≤ 8 := fun h => by have := intBits_le_iff.mp h; simp at this; omega
  rw [Int.fdiv_eq_ediv_of_nonneg _ (by decide)]; omega
theorem b_of_ints {b : Array UInt8} {l : List UInt8} (h : KBw.bInts b = l.map fun c => ((c.toNat : Nat) : Int)) : b.toList = l := by
  unfold KBw.bInts at h
  revert h
  generalize b.toList = m
  intro h
  induction m generalizing l with
  | nil => cases l with | nil => rfl | cons a l => simp at h
  | cons x m ih =>
    cases l with
    | nil => simp at h
    | cons a l =>
      simp only [List.map_cons, List.cons.injEq] at h
      obtain ⟨h1, h2⟩ := h
      have e : x = a := UInt8.toNat_inj.mp (by omega)
      rw [ih h2, e]

theorem itb_spec (w : World) (A : Around) (s : Shared) (n : Nat) (tk : Tok) (Q E : Value → Shared → Prop) (R : Room w A s.heap 1) (h0 : 56 ≤ n) (h1 : n < 65536)
  (hret : ∀ h' tk' tok b, Ext s.heap h' → b.toList = be n → Q (.bytes b tok) { s with heap := h', toks := tk' }) : wpAny (model prog w) A (call (.ref 1464) [.int n tk]) Q E s := by
  refine wpAny_call ?_
  walk_at "enter"
  rename_i dp un gd env outer base g h₁ L' p loose mean mg mb hdp hun F N B X Tp G
  have hN : (0 : Int) ≤ n := by omega
  have hN0 : (56 : Int) ≤ n := by omega
  by_cases hs : n < 256
  · have hb := bits1 h0 hs
    have hN1 : (n : Int) < 256 := by omega
    k_steps
    all_goals (try (exfalso; omega))
    all_goals (try simp only [hb])
    k_steps
    rename KBw.bInts _ = _ => hi
    refine leave0_ (by assumption) G ?_
    intro hE
    refine hret _ _ _ _ hE (b_of_ints ?_)
    rw [hi, be, if_pos hs]
    simp <;> omega
  · have hb := bits2 (Nat.le_of_not_lt hs) h1
    have hN1 : (n : Int) < 65536 := by omega
    k_steps
    all_goals (try (exfalso; omega))
    all_goals (try simp only [hb])
    k_steps
    rename KBw.bInts _ = _ => hi
    refine leave0_ (by assumption) G ?_
    intro hE
    refine hret _ _ _ _ hE (b_of_ints ?_)
    rw [hi, be, if_neg hs]
    simp <;> omega

def pre (off n : Nat) : List UInt8 := if n < 56 then [(off + n).toUInt8] else (off + 55 + (be n).length).toUInt8 :: be n
theorem be_len (n : Nat) : (be n).length = if n < 256 then 1 else 2 := by unfold be; split <;> rfl

/-- the table of the 256 octets -/
theorem all_bytes (P : Params) : ∃ xs k, (hd.heap_1 P).lookup 1450 = some ⟨.type "tuple", none, .seq xs k, #[]⟩ ∧ xs.size = 256 ∧ ((List.range 256).all fun i => match xs[i]? with | some (.bytes b _) => b == #[i.toUInt8] | _ => false) = true := by
  refine ⟨_, _, rfl, ?_, ?_⟩
  · kernel_rfl
  · kernel_rfl

theorem item_all {w : World} {A : Around} {E : Value → Shared → Prop} {s : Shared} {value slice : PySem.Expr} {k : Int} {u : Tok} {Q : Value → Shared → Prop} {h₀ : Heap} {L : Addr} {m : Str → Option Value} (F : Fr h₀ L s.heap m) (X : (hd.heap_1 w.params).In h₀)
    (h0 : 0 ≤ k) (h1 : k < 256) (h : ∀ tok, Q (.bytes #[k.toNat.toUInt8] tok) s)
    (hs : subscripted slice false (.ref 1450) (.int k u) = operate [.ref 1450, .int k u] (getItem (.ref 1450) (.int k u))) :
    wpAny (model prog w) A (subscriptTail value slice (.ref 1450) (.int k u)) Q E s := by
  obtain ⟨xs, n, e, hsz, hall⟩ := all_bytes w.params
  have ht : IsTup s.heap 1450 xs.toList.toArray := ⟨_, F.keep _ _ (X _ _ e), rfl, n, by simp⟩
  have hk : k.toNat < 256 := by omega
  have hx := List.all_eq_true.mp hall k.toNat (List.mem_range.mpr hk)
  have hlt : k.toNat < xs.size := by omega
  have hg : xs[k.toNat]? = some (xs[k.toNat]'hlt) := Array.getElem?_eq_getElem hlt
  rw [hg] at hx
  revert hx
  cases hb : (xs[k.toNat]'hlt) with
  | bytes b tok =>
    intro hx
    have : b = #[k.toNat.toUInt8] := eq_of_beq hx
    subst this
    refine item_tupleT ht (by omega) (by omega) (j := k.toNat) ?_ ?_ (h tok) hs
    · have hn : ¬ k < 0 := by omega
      have hl : xs.toList.length = 256 := by simpa using hsz
      rw [hl]
      simp only [seqIndex?, hn, if_false]
      have : (0 ≤ k ∧ k < ((256 : Nat) : Int)) := ⟨h0, by omega⟩
      simp [this]; exact h1
    · simp [hlt, hb]
  | _ => intro hx; simp at hx

local macro_rules | `(tactic| walk_at "subscriptTail") => `(tactic| ((with_reducible show wpAny _ _ (subscriptTail _ _ (Value.ref 1450) (Value.int _ _)) _ _ _); (refine item_all (by assumption) (by assumption) (by omega) (by omega) ?_ (by with_unfolding_all rfl)); intro _))

local macro_rules | `(tactic| walk_at "binaryOp Add bytes bytes") => `(tactic| ((with_reducible show wpAny _ _ (binaryOp Operator.Add (Value.bytes _ _) (Value.bytes _ _)) _ _ _); (refine KBy.add_bytes (by first | omega | (simp; omega)) ?_); intro _ _))

theorem lp_spec (w : World) (A : Around) (s : Shared) (n : Nat) (o : Int) (off : Nat) (tk tk2 : Tok) (Q E : Value → Shared → Prop) (R : Room w A s.heap 2) (h1 : n < 65536) (ho : o = off) (hoff : off = 128 ∨ off = 192)
  (hret : ∀ h' tk' tok b, Ext s.heap h' → b.toList = pre off n → Q (.bytes b tok) { s with heap := h', toks := tk' }) : wpAny (model prog w) A (call (.ref 1715) [.int n tk, .int o tk2]) Q E s := by
  subst ho
  refine wpAny_call ?_
  walk_at "enter"
  rename_i dp un gd env outer base g h₁ L' p loose mean mg mb hdp hun F N B X Tp G
  have hN : (0 : Int) ≤ n := by omega
  have hN1 : (n : Int) < 65536 := by omega
  have hoff2 : (off : Int) = 128 ∨ (off : Int) = 192 := by omega
  by_cases hs : n < 56
  · have hs1 : (n : Int) < 56 := by omega
    k_steps
    refine leave0_ (by assumption) G ?_
    intro hE
    refine hret _ _ _ _ hE ?_
    rw [pre, if_pos hs]
    have : ((off : Int) + (n : Int)).toNat = off + n := by omega
    rw [this]
  · have hs1 : ¬ (n : Int) < 56 := by omega
    k_steps
    show wpAny _ _ _ _ _ _
    refine itb_spec w _ _ n _ _ _ (by walk_at "room"; omega) (by omega) h1 fun h' tk' tok b hE hb => ?_
    have hbl : b.size = (be n).length := by rw [← hb]; simp
    have hbl2 := be_len n
    have hbs : b.size ≤ 2 := by rw [hbl, hbl2]; split <;> omega
    have hbs1 : 1 ≤ b.size := by rw [hbl, hbl2]; split <;> omega
    rename Fr _ _ _ _ => F
    replace F := F.keeps hE
    replace N := News.grown N hE
    k_steps
    refine leave0_ (by assumption) G ?_
    intro hE
    refine hret _ _ _ _ hE ?_
    rw [pre, if_neg hs]
    have : ((off : Int) + 56 - 1 + (b.size : Int)).toNat = off + 55 + (be n).length := by omega
    rw [this]
    simp [hb]
end Mine
end
section
open PySem PySem.W PySem.Calls PyProof.Rows PySem.Spec
namespace Mine
theorem fresh_G3 : True := by
  w_top off
  run_tac do
    walkLines.set (0, {})
    walkStart.set 0
    walkLate.set false
  trivial
local macro_rules | `(tactic| walk_at "enter") => `(tactic| (refine' enter (by assumption) ?k6 ?k7 ?k9 ?kB ?_ ?c2 ?c3 ?c4 ?c5; (case k6 => k_is); (case k7 => k_is); (case k9 => exact BindsTo.of_eq rfl); (case c5 => decide); (case kB => exact locs rfl); (case c2 => exact rfl); (case c3 => exact rfl); (case c4 => exact rfl); k_whole; intro dp' un' gd' env' outer' base' g' h' L' p' loose' mean' mg' mb' hd' hu' F' N' B' X' T' G'; (try dsimp only); (try k_fold)))
local macro_rules | `(tactic| walk_at "room") => `(tactic| (refine Room.le (room_in (by assumption) (by assumption) (by assumption) (by assumption) (by assumption) (by assumption) (by rfl) (by rfl)) ?_))
local macro_rules | `(tactic| walk_at "subscriptTail") => `(tactic| ((with_reducible show wpAny _ _ (subscriptTail _ _ (Value.bytes _ _) (Value.int _ _)) _ _ _); (refine item_b (by omega) (by omega) (by omega) ?_ (by with_unfolding_all rfl) (by intro _; with_unfolding_all rfl))))
local macro_rules | `(tactic| walk_at "subscriptTail") => `(tactic| ((with_reducible show wpAny _ _ (subscriptTail _ _ (Value.ref 1450) (Value.int _ _)) _ _ _); (refine item_all (by assumption) (by assumption) (by omega) (by omega) ?_ (by with_unfolding_all rfl)); intro _))
local macro_rules | `(tactic| walk_at "binaryOp Add bytes bytes") => `(tactic| ((with_reducible show wpAny _ _ (binaryOp Operator.Add (Value.bytes _ _) (Value.bytes _ _)) _ _ _); (refine KBy.add_bytes (by first | omega | (simp; omega)) ?_); intro _ _))
local macro_rules | `(tactic| walk_at "eval ListComp") => `(tactic| (refine stop_ ?_))
local macro_rules | `(tactic| walk_at "call ref") => `(tactic| (refine stop_ ?_))

mutual
def T.enc : T → List UInt8
  | .leaf b => if b.size = 1 ∧ (b.toList.getD 0 0).toNat < 128 then b.toList else pre 128 b.size ++ b.toList
  | .node ks => pre 192 (T.encs ks).length ++ T.encs ks
def T.encs : List T → List UInt8
  | [] => []
  | k :: ks => T.enc k ++ T.encs ks
end
def genPos : Pos := { line := 224, col := 27, endLine := 224, endCol := 56 }
def Hit (h : Heap) : Prop := ∃ P ps c', h.IsCode 1699 P ps ∧ codeAmong genPos ps.toList = some c'
theorem Hit.ext {h h' : Heap} (x : Hit h) (e : Ext h h') : Hit h' := let ⟨P, ps, c', a, b⟩ := x; ⟨P, ps, c', a.keeps e, b⟩
def EncSpec (t : T) : Prop := t.ok → t.enc.length < 65536 → ∀ (w : World) (A : Around) (s : Shared) (v : Value) (Q E : Value → Shared → Prop), Room w A s.heap (3 * t.dep) → Hit s.heap → TIn (vw s.heap) t v →
  (∀ h' tk' gs tok b, Ext s.heap h' → GX s.gens gs → b.toList = t.enc → Q (.bytes b tok) { s with heap := h', toks := tk', gens := gs }) → wpAny (model prog w) A (call (.ref 1700) [v]) Q E s

theorem enc_leaf (b : Array UInt8) : EncSpec (.leaf b) := by
  intro ok _ w A s v Q E R _ ht hret
  simp only [TIn, T.ok] at ht ok
  obtain ⟨tk, rfl⟩ := ht
  refine wpAny_call ?_
  have R' : Room w A s.heap (2 + 1) := R
  walk_at "enter"
  rename_i dp un gd env outer base g h₁ L' p loose mean mg mb hdp hun F N B X Tp G
  k_steps
  · show Leave0 g L' _ _ _
    refine leave0_ (by assumption) G ?_
    intro hE
    refine hret _ _ _ _ _ hE (GX.refl _) ?_
    rw [T.enc, if_pos]
    refine ⟨by omega, ?_⟩
    simp only [Int.toNat_zero] at *
    omega
  all_goals (
    show wpAny _ _ _ _ _ _
    refine lp_spec w _ _ b.size 128 128 _ _ _ _ (by walk_at "room"; omega) (by omega) rfl (.inl rfl) fun h' tk' tok p hE hp => ?_
    have hps : p.size ≤ 3 := by rw [← Array.length_toList, hp]; unfold pre be; split <;> (try split) <;> simp
    rename Fr _ _ _ _ => F
    rename News _ _ _ _ => N
    replace F := F.keeps hE
    replace N := News.grown N hE
    k_steps
    show Leave0 g L' _ _ _
    refine leave0_ (by assumption) G ?_
    intro hE
    refine hret _ _ _ _ _ hE (GX.refl _) ?_
    rw [T.enc, if_neg, Array.toList_append, hp]
    intro hc
    simp only [Int.toNat_zero] at *
    omega)
local macro_rules | `(tactic| walk_at "eval GeneratorExp") => `(tactic| (refine stop_ ?_))

local macro_rules | `(tactic| walk_at "call builtin:bytes.join") => `(tactic| (refine stop_ ?_))
def dOf (ks : List T) (i : Nat) : Array UInt8 := (((ks[i]?).map T.enc).getD []).toArray
local macro_rules | `(tactic| walk_at "getMethod bytes") => `(tactic| (refine method_join ?_))
theorem encs_le : ∀ {ks : List T} {i : Nat} {t : T}, ks[i]? = some t → t.enc.length ≤ (T.encs ks).length
  | [], _, _, e => by simp at e
  | k :: ks, 0, t, e => by simp at e; subst e; simp [T.encs]
  | k :: ks, i + 1, t, e => by
    have := encs_le (ks := ks) (i := i) (t := t) (by simpa using e)
    simp [T.encs]; omega
theorem enc_le {ks : List T} {i : Nat} {t : T} (e : ks[i]? = some t) : t.enc.length ≤ (T.node ks).enc.length := by
  have := encs_le e
  rw [T.enc, List.length_append]
  omega
theorem isCode_list {h : Heap} {c P : Addr} {ps vs : Array Value} {n : Nat} (x : h.IsCode c P ps) (y : h.get? P = some (W.listOf vs n)) : False := by
  obtain ⟨_, _, _, _, _, _, _, _, _, op, _, _, _, _, _, _, _, hop, hpd, _⟩ := x
  rw [y] at hop
  cases hop
  cases hpd
theorem get_size (h : Heap) : h.get? h.objs.size = none := by
  cases e : h.get? h.objs.size with
  | none => rfl
  | some o => exact absurd (Heap.lt_size e) (Nat.lt_irrefl _)
theorem kitAt_F {h h' : Heap} {L a : Addr} {m : Str → Option Value} {vs : Array Value} (F : Fr h L h' m) (hl : h.IsList a vs) : KitAt a "list" h' := by
  obtain ⟨o, e, c, r⟩ := hl
  exact ⟨o, F.keep _ _ e, c⟩
local macro_rules | `(tactic| walk_at "call builtin:isinstance") => `(tactic| ((with_reducible show wpAny _ _ (call _ [Value.ref _, Value.ref _]) _ _ _); refine' kia_tup kitx_list ?X ?c ?p ?ee ?nb ?_; (case c => exact kitAt_F (by assumption) (by assumption)); (case X => k_in); (case p => kit_tp); (case ee => kit_is); (case nb => kit_nb); k_whole; intro _))
section
variable {A : Around} {elt iter : Expr} {x : Str} {px : Pos} {scope : Scope} {pos : Pos} {I : Addr} {cenv : Env} {l : List Env}
theorem over_frames (h : A.frames = some l) : ((A.in4.in1).over (loopCode elt iter x px scope pos I cenv) []).frames = some (cenv :: l) := by
  show pushEnvs [cenv] (pushEnvs [] A.frames) = _
  rw [h]; rfl
theorem over_depth : ((A.in4.in1).over (loopCode elt iter x px scope pos I cenv) []).depth = A.depth + 1 := by rfl
theorem over_units : ((A.in4.in1).over (loopCode elt iter x px scope pos I cenv) []).units = A.units + 4 + 1 + 3 := by rfl
theorem over_handled (h : A.handled = none) : ((A.in4.in1).over (loopCode elt iter x px scope pos I cenv) []).handled = none := by
  show (marksOver [] (A.handled, A.handled)).1 = _
  rw [h]; rfl
end
theorem GX.gg {a b : Array GenState} {gs : GenState} (hb : gs.bare = true) (x : GG a.size (a.push gs) b) : GX a b := by
  obtain ⟨x1, x2, x3, x4⟩ := x
  have hp : (a.push gs)[a.size]? = some gs := Array.getElem?_push_size ..
  rw [Array.size_push] at x1 x3
  refine ⟨by omega, fun i z e => ?_, fun i z h e => ?_⟩
  · have hi : i < a.size := by
      rcases Nat.lt_or_ge i a.size with q | q
      · exact q
      · rw [Array.getElem?_eq_none q] at e; cases e
    refine x2 i z (Nat.ne_of_lt hi) ?_
    rw [Array.getElem?_push_lt hi, ← e, Array.getElem?_eq_getElem hi]
  · rcases Nat.lt_or_ge a.size i with q | q
    · exact x3 i z q e
    · have : i = a.size := by omega
      subst this
      rcases x4 with r | r
      · rw [r, hp] at e; cases e; exact hb
      · exact r z e
theorem cat_dOf : ∀ (ks : List T), cat (dOf ks) ks.length = T.encs ks := by
  have key : ∀ (ks : List T), ((List.range ks.length).map fun i => (((ks[i]?).map T.enc).getD [])) = ks.map T.enc := by
    intro ks
    apply List.ext_getElem (by simp)
    intro i h1 h2
    have : i < ks.length := by simpa using h1
    simp [this]
  have fl : ∀ (ks : List T), (ks.map T.enc).flatten = T.encs ks := by
    intro ks
    induction ks with
    | nil => simp [T.encs]
    | cons k ks ih => simp [T.encs, ih]
  intro ks
  rw [cat, ← fl, ← key]
  congr 1
theorem Site.of {w : World} {A A₀ : Around} {h h₀ base : Heap} {outer : List Env} {env : Env} {L : Addr} {m mg mb : Str → Option Value} {p : Program} {loose : List Str} {mean : ExcName → Option Value}
    (B : Below A₀ base outer h₀) (F : Fr h₀ L h m) (X : (hd.heap_1 w.params).In h₀) (T : Top p loose mean mg mb h₀) (hA : A.frames = some (env :: outer)) (hf : env.frame = some L) (hk : env.scope.kind = .function) (hh : A.handled = none) : Site w A h :=
  ⟨A₀, base, outer, h₀, env, L, m, p, loose, mean, mg, mb, B, F, X, T, hA, hf, hk, hh⟩
theorem genElt {w : World} {A : Around} {s : Shared} {cenv : Env} {h₀ : Heap} {L : Addr} {m mg mb : Str → Option Value} {p : Program} {loose : List Str} {v : Value} {Q E : Value → Shared → Prop}
    (F₀ : Fr h₀ L s.heap m) (X₀ : (hd.heap_1 w.params).In h₀) (T₀ : TopRead p loose mg mb h₀) (hL : cenv.locals = L) (hv : m (Str.ofString "x") = some v) (hg : cenv.globals = mainGlobals) (hk : cenv.scope.kind = .function)
    (h1 : cenv.kindOf (Str.ofString "encode_raw") = some .globalImplicit) (h2 : cenv.scope.names.lookup (Str.ofString "x") = some .local) (h : wpAny (model prog w) A (call (.ref 1700) [v]) Q E s) :
    wpAny (model prog w) A (eval (Expr.Call (.Name (Str.ofString "encode_raw") { line := 224, col := 28, endLine := 224, endCol := 38 }) [.Name (Str.ofString "x") { line := 224, col := 39, endLine := 224, endCol := 40 }] [] { line := 224, col := 28, endLine := 224, endCol := 41 }) cenv) Q E s := by
  subst hL
  walk1
  refine nameG_K F₀ X₀ T₀ (by k_is) ?_ hg hk h1 (by decide)
  walk1
  walk1
  refine ldG F₀.ns hv ?_ hk h2 (by decide)
  walk1
  exact ⟨X₀.keeps F₀.keep, h⟩
theorem enc_node (ks : List T) (ih : ∀ t ∈ ks, EncSpec t) : EncSpec (.node ks) := by
  intro ok hlen w A s v Q E R hit ht hret
  simp only [TIn, T.ok] at ht ok
  obtain ⟨a, vs, n, rfl, hl, hk⟩ := ht
  refine wpAny_call ?_
  have R' : Room w A s.heap (3 * T.deps ks + 2 + 1) := R.le (by simp only [T.dep]; omega)
  walk_at "enter"
  rename_i dp un gd env outer base g h₁ L' p loose mean mg mb hdp hun F N B X Tp G
  have hl' := G _ _ hl
  have hL : Heap.IsList _ a vs.toArray := ⟨_, hl', rfl, n, rfl⟩
  k_steps
  rename Fr _ _ _ _ => F
  have hm : ∃ m₀, Fr g L' _ m₀ ∧ m₀ (Str.ofString "item") = some (.ref a) := ⟨_, F, rfl⟩
  clear F
  obtain ⟨m₀, F, hm⟩ := hm
  show wpAny _ _ _ _ _ _
  refine GeneratorExp_X rfl rfl (by rfl) (by decide) (by rfl) (by rfl) rfl (by show dp + 1 < _; omega) ?_ (by intro _; with_unfolding_all rfl)
  refine ld F hm ?_
  refine ⟨a, vs, rfl, hL.at fun o e => F.keep _ o e, Tp.nolimit.keeps F.keep, ?_⟩
  rintro s₂ ⟨h₂, tk₂, rfl⟩ hE₂
  dsimp only at hE₂ ⊢
  obtain ⟨P, ps, c', hok, hps⟩ := hit
  obtain ⟨bm, ob, hb1, hb2, hb3, hb4, hb5, hb6⟩ := Tp.bmain
  have kg : Ext g h₂ := fun b o e => hE₂ _ _ (F.keep b o e)
  refine wpAny_genexprCode_hit rfl (hok.keeps fun b o e => kg b o (G b o e)) hps ?_
  refine wpAny_builtinsFor (Tp.g.keeps kg) hb1 hb2 (kg _ _ hb3) hb4 hb5 hb6 ?_
  refine ⟨fun i v => ∃ tk, v = .bytes (dOf ks i) tk, P, Nat.lt_of_lt_of_le (hok.keeps G).lt.2 (Nat.le_trans (Nat.le_trans F.above (Nat.le_of_lt F.ns.lt)) (Nat.le_refl _)), ?_, Tp.nolimit.keeps kg, fun _ _ _ e => e, ⟨_, _, rfl⟩, ?_, ?_⟩
  · rintro rfl
    exact isCode_list hok hl
  · intro href hr E' i v s₃ m₃ hi hP hns hx hfr
    have kI := ext_into (l := [_]) hE₂ (fun b hb => by rw [List.mem_singleton.mp hb]; exact get_size _)
    have hkeep : ∀ b o, (hideAll h₂ [_]).get? b = some o → s₃.heap.get? b = some o := fun b o e => hfr b (List.mem_range.mpr (Heap.lt_size (of_hideAll _ e))) (fun hb => by rw [hideAll_none _ hb] at e; cases e) o (hr _ _ (of_hideAll _ e))
    have F₀ : Fr (hideAll h₂ [_]) _ _ _ := ⟨hns, hkeep, Nat.le_of_eq (hideAll_size _ _)⟩
    have X₀ := X.keeps (fun b o e => kI b o (F.keep b o e))
    have T₀ := Tp.keeps (fun b o e => kI b o (F.keep b o e))
    have FI := F.keeps kI
    have FI0 := F
    clear F
    refine genElt F₀ X₀ (topRead_of T₀) rfl hx rfl rfl (by rfl) (by rfl) ?_
    obtain ⟨t, et, htv⟩ := hk.get hP
    have hle := T.dep_le et
    refine ih t (List.mem_of_getElem? et) (T.oks_get ok.2 et) (Nat.lt_of_le_of_lt (enc_le et) hlen) w _ _ v _ _ ?_ ?_ ?_ fun h' tk' gs tok b hE hX hb => ?_
    · refine ⟨Site.of (pushX B FI (by rfl) (by rfl)) F₀ X₀ T₀ (over_frames rfl) rfl rfl (over_handled rfl), ?_, ?_⟩
      · rw [over_depth]
        show dp + 1 + 1 + _ < _
        omega
      · rw [over_units]
        show un + 3 + 4 + 1 + 3 + _ < _
        omega
    · exact Hit.ext ⟨P, ps, c', hok.keeps fun b o e => kI b o (FI0.keep _ _ (G b o e)), hps⟩ F₀.keep
    · exact TIn.mono (fun a o e => F₀.keep _ _ (kI _ _ (FI0.keep _ _ (G _ _ e)))) _ _ htv
    · refine ⟨⟨tok, ?_⟩, _, _, _, rfl, hE, hX⟩
      congr 1
      apply Array.toList_inj.mp
      rw [hb, dOf, et]
      rfl
  · intro a' h₅ tk gs hbare hlt hsz hk5 W St
    k_steps
    show wpAny _ _ _ _ _ _
    have W3 := WalksS.of_in1 W
    have elen := hk.length
    refine bytes_join (d := dOf ks) W3 ?hT ?hst ?hfp ?hI ?hself ?hP ?hsz ?hn ?hQ
    case hT => exact fun i s st => st.1.typeIs
    case hst => first | exact St | exact W3.frame _ _ _ _ St (by dsimp only; omega) fun _ _ _ e => e
    case hfp =>
      intro b hb
      rcases List.mem_cons.mp hb with rfl | hb
      · show @LT.lt Nat _ _ h₅.objs.size
        rw [hsz]; exact Nat.lt_succ_self _
      · have hlt' : @LT.lt Nat _ h₂.objs.size h₅.objs.size := by rw [hsz]; exact Nat.lt_succ_of_lt hlt
        rcases List.mem_cons.mp hb with rfl | hb
        · exact hlt'
        · exact Nat.lt_trans (List.mem_range.mp hb) hlt'
    case hI => exact List.mem_cons_self ..
    case hself => exact fun Q' E' q => wpAny_pyIter_gen St.1 q
    case hP => exact fun i v h => h
    case hsz =>
      rw [elen, cat_dOf]
      have := hlen
      rw [T.enc, List.length_append] at this
      omega
    case hn => rw [elen]; exact Nat.le_trans ok.1 (by decide)
    case hQ =>
      intro s' r tok tk' hm hr
      have kfin : Ext _ s'.heap := fun b o e => by
        have e2 := hE₂ _ _ e
        have e5 := hk5 _ _ e2
        have l2 := Heap.lt_size e2
        have l5 := Heap.lt_size e5
        have l1 := Heap.lt_size e
        refine hm.heap b o ?_ (Heap.get?_push_of_some _ e5)
        intro hb
        rcases List.mem_cons.mp hb with rfl | hb
        · exact Nat.lt_irrefl _ l5
        rcases List.mem_cons.mp hb with rfl | hb
        · exact Nat.lt_irrefl _ l2
        rw [List.mem_singleton.mp hb] at l1
        exact Nat.lt_irrefl _ l1
      have hG := GX.gg hbare hm.gens
      obtain ⟨h6, gs6, dr6, tk6, os6⟩ := s'
      obtain rfl : dr6 = s.drawn := hm.drawn
      obtain rfl : os6 = s.os := hm.os
      dsimp only at kfin hG
      replace F := F.keeps kfin
      rename News _ _ _ _ => N
      replace N := N.grown kfin
      have hrs : r.size = (T.encs ks).length := by rw [← Array.length_toList, hr, elen, cat_dOf]
      have hrl : r.size < 65536 := by
        have := hlen
        rw [T.enc, List.length_append] at this
        omega
      clear hm St W W3
      k_steps
      show wpAny _ _ _ _ _ _
      refine lp_spec w _ _ r.size 192 192 _ _ _ _ (by walk_at "room"; omega) (by omega) rfl (.inr rfl) fun h' tk' tok p hE hp => ?_
      have hps : p.size ≤ 3 := by rw [← Array.length_toList, hp]; unfold pre be; split <;> (try split) <;> simp
      rename Fr _ _ _ _ => F
      rename News _ _ _ _ => N
      replace F := F.keeps hE
      replace N := News.grown N hE
      k_steps
      show Leave0 g L' _ _ _
      refine leave0_ (by assumption) G ?_
      intro hE
      refine hret _ _ _ _ _ hE hG ?_
      rw [T.enc, Array.toList_append, hp, hr, elen, cat_dOf, hrs]
end Mine
end
section
open PySem PySem.W PySem.Calls PyProof.Rows PySem.Spec
namespace Mine
theorem fresh_F7 : True := by
  w_top off
  run_tac do
    walkLines.set (0, {})
    walkStart.set 0
    walkLate.set false
  trivial
/-- a place in the program at which a def may be called, and objects beside the ground that may change -/
def SiteN (w : World) (A : Around) (h : Heap) (news : List (Addr × Obj)) : Prop :=
  ∃ A₀ base outer h₀ env L m p loose mean mg mb, Below A₀ base outer h₀ ∧ Fr h₀ L h m ∧ News h₀ L h news ∧ (hd.heap_1 w.params).In h₀ ∧ Top p loose mean mg mb h₀ ∧ A.frames = some (env :: outer) ∧ env.frame = some L ∧ env.scope.kind = .function ∧ A.handled = none
structure RoomN (w : World) (A : Around) (h : Heap) (k : Nat) (news : List (Addr × Obj)) : Prop where
  site : SiteN w A h news
  depth : A.depth + k < recursionLimit
  units : A.units + 12 * k < cLine
theorem RoomN.le {w : World} {A : Around} {h : Heap} {k k' : Nat} {news} (R : RoomN w A h k news) (e : k' ≤ k) : RoomN w A h k' news := ⟨R.site, by have := R.depth; omega, by have := R.units; omega⟩
theorem RoomN.room {w : World} {A : Around} {h : Heap} {k : Nat} {news} (R : RoomN w A h k news) : Room w A h k :=
  ⟨let ⟨A₀, base, outer, h₀, env, L, m, p, loose, mean, mg, mb, B, F, _, X, T, r⟩ := R.site; ⟨A₀, base, outer, h₀, env, L, m, p, loose, mean, mg, mb, B, F, X, T, r⟩, R.depth, R.units⟩
theorem Room.n {w : World} {A : Around} {h : Heap} {k : Nat} (R : Room w A h k) : RoomN w A h k [] :=
  ⟨let ⟨A₀, base, outer, h₀, env, L, m, p, loose, mean, mg, mb, B, F, X, T, r⟩ := R.site; ⟨A₀, base, outer, h₀, env, L, m, p, loose, mean, mg, mb, B, F, News.nil, X, T, r⟩, R.depth, R.units⟩

theorem RoomN.inK {w : World} {A : Around} {h : Heap} {k : Nat} {news} (R : RoomN w A h k news) : (hd.heap_1 w.params).In h := by
  obtain ⟨A₀, base, outer, h₀, env, L, m, p, loose, mean, mg, mb, B, F, N, X, _⟩ := R.site
  exact X.keeps F.keep

theorem enterN {w : World} {A : Around} {s : Shared} {R : Result → Shared → Prop} {k : Nat} {news : List (Addr × Obj)} {name qual : Str} {params : Arguments} {body : List Stmt} {scope : Scope} {dV kV doc pm cdv ct oc : Value} {an od : Option Addr} {osl : Array (Option Value)} {f : Addr} {args : Args} {binds : List (Str × Value)}
    (S : RoomN w A s.heap (k + 1) news)
    (ho : (hd.heap_1 w.params).lookup f = some ⟨oc, od, .func (fnOf name qual params body scope dV kV doc pm an cdv ct), osl⟩) (hcd : codeIn (hd.heap_1 w.params) cdv qual = true)
    (hbind : BindsTo s (fnOf name qual params body scope dV kV doc pm an cdv ct) args binds) (hloc : ∀ y ∈ binds, scope.names.lookup y.1 = some .local)
    (h : ∀ (dp un : Nat) (gd : Option (List Code)) (env : Env) (outer : List Env) (base g h₁ : Heap) (L' : Addr) (p : Program) (loose : List Str) (mean : ExcName → Option Value) (mg mb : Str → Option Value), dp + k + 1 < recursionLimit → un + 12 * k + 12 < cLine →
      Fr g L' h₁ (fun y => binds.reverse.lookup y) → News g L' h₁ news → Below ⟨none, dp, some (env :: outer), gd, un⟩ base (env :: outer) g → (hd.heap_1 w.params).In g → Top p loose mean mg mb g → ExtB (news.map (·.1)) s.heap g →
      wpAny (model prog w) (Around.deeper ⟨none, dp, some (env :: outer), gd, un⟩ (envOf qual scope L' f cdv)) (execs body (envOf qual scope L' f cdv))
        (fun fl s' => Leave0 g L' R (match fl with | .ret v => v | _ => .none) s')
        (fun e s' => wpAny (model prog w) (Around.deeper ⟨none, dp, some (env :: outer), gd, un⟩ (envOf qual scope L' f cdv)) (leaving (envOf qual scope L' f cdv) e) (fun _ s'' => R (.error e) s'') (fun e' s'' => R (.error e') s'') s')
        { s with heap := h₁, toks := s.toks + binds.length })
    (hco : scope.isCoroutine = false) (hgen : scope.isGenerator = false) (hk : scope.kind = .function)
    (hcell : ∀ x ∈ scope.names, x.2 ≠ .cell) : codeAny (model prog w) A (.call (.ref f) args) R s := by
  obtain ⟨⟨A₀, base, outer, h₀, env, L, m, p, loose, mean, mg, mb, B, F, N, X, T, hA, hf, hke, hh⟩, hd, hu⟩ := S
  obtain ⟨handled, dp, fr, gd, un⟩ := A
  dsimp only at hA hh hd hu
  subst hA hh
  refine code_defG B F X N T rfl hf hke ho hcd (by show dp < recursionLimit; omega) hbind hloc (fun g L' h₁ FG F' N' B' X' T' G => ?_) hco hgen hk hcell
  refine wpAny_mono (h dp un gd env outer base g h₁ L' p loose mean mg mb (by omega) (by omega) F' N' B' X' T' (fun b o n e => G b o e n)) (fun fl s' hl => ?_) fun _ _ e => e
  obtain ⟨m', Fe, hr⟩ := leave0_out hl
  exact ⟨L', m', [], Fe, News.nil, fun _ _ => hr⟩

theorem roomN_in {w : World} {dp un : Nat} {gd : Option (List Code)} {env : Env} {outer : List Env} {base g h : Heap} {L' : Addr} {p : Program} {loose : List Str} {mean : ExcName → Option Value} {mg mb m : Str → Option Value} {e : Env} {k : Nat} {news : List (Addr × Obj)}
    (hdp : dp + k + 1 < recursionLimit) (hu : un + 12 * k + 12 < cLine) (F : Fr g L' h m) (N : News g L' h news) (B : Below ⟨none, dp, some (env :: outer), gd, un⟩ base (env :: outer) g) (X : (hd.heap_1 w.params).In g) (T : Top p loose mean mg mb g)
    (hf : e.frame = some L') (hk : e.scope.kind = .function) : RoomN w (Around.deeper ⟨none, dp, some (env :: outer), gd, un⟩ e) h k news :=
  ⟨⟨_, base, env :: outer, g, e, L', m, p, loose, mean, mg, mb, B, F, N, X, T, rfl, hf, hk, rfl⟩, by show dp + 1 + k < _; omega, by show un + 3 + 12 * k < _; omega⟩
theorem leaveN {g h : Heap} {L' : Addr} {R : Result → Shared → Prop} {v : Value} {s' : Shared} {m' : Str → Option Value} {l : List Addr} (F' : Fr g L' s'.heap m') (G : ExtB l h g) (k : ExtB l h s'.heap → R (.ok (.ret v)) s') : Leave0 g L' R v s' :=
  leave0_in ⟨m', F', k fun b o n e => F'.keep b o (G b o n e)⟩

/-- the frame after a call that wrote only ledger objects -/
theorem Fr.but {g h h' : Heap} {L : Addr} {m : Str → Option Value} {news : List (Addr × Obj)} {l : List Addr} (F : Fr g L h m) (N : News g L h news) (hE : ExtB l h h') (hl : ∀ a ∈ l, ∃ o, (a, o) ∈ news) : Fr g L h' m :=
  ⟨F.ns.at fun o e => hE L o (fun q => let ⟨_, hm⟩ := hl _ q; (N _ hm).2.1 rfl) e,
   fun b o e => hE b o (fun q => by obtain ⟨_, hm⟩ := hl _ q; rw [(N _ hm).2.2] at e; cases e) (F.keep b o e), F.above⟩
theorem News.but {g h h' : Heap} {L : Addr} {m : Str → Option Value} {news news' : List (Addr × Obj)} {l : List Addr} (F : Fr g L h m) (N : News g L h news) (hE : ExtB l h h')
    (hn : ∀ p ∈ news', (p ∈ news ∧ p.1 ∉ l) ∨ ((∃ o, (p.1, o) ∈ news) ∧ h'.get? p.1 = some p.2) ∨ (h.get? p.1 = none ∧ h'.get? p.1 = some p.2)) : News g L h' news' := by
  intro p hp
  rcases hn p hp with ⟨h1, h2⟩ | ⟨⟨o, h1⟩, h2⟩ | ⟨h1, h2⟩
  · exact ⟨hE _ _ h2 (N _ h1).1, (N _ h1).2⟩
  · exact ⟨h2, (N _ h1).2⟩
  · refine ⟨h2, ?_, ?_⟩
    · rintro e
      obtain ⟨oL, _, _, hL, _⟩ := F.ns
      rw [e, hL] at h1; cases h1
    · cases e : g.get? p.1 with
      | none => rfl
      | some o => rw [F.keep _ _ e] at h1; cases h1

def pE : Program := { (default : Program) with main := { (default : Program).main with body := [.Import [⟨"sys", none, default⟩] default] } }
theorem Top.weak {p : Program} {loose : List Str} {mean : ExcName → Option Value} {mg mb : Str → Option Value} {h h' : Heap} {c P : Addr} {ps : Array Value} (T : Top p loose mean mg mb h) (hc : h.IsCode c P ps)
    (hk : ∀ b o, b ≠ P → h.get? b = some o → h'.get? b = some o) : ∃ loose', Top pE loose' mean mg mb h' := by
  obtain ⟨_, _, _, _, _, _, _, _, _, op, _, _, _, _, _, _, _, hop, hpd, _⟩ := hc
  have ns : ∀ {a m}, h.Ns a m → h'.Ns a m := fun {a m} n => by
    refine n.at' fun o e => hk a o ?_ e
    rintro rfl
    obtain ⟨oL, es, _, e1, e2, _⟩ := n
    rw [hop] at e1; cases e1; rw [hpd] at e2; cases e2
  refine ⟨loose ++ (recsOf p).map (·.name) ++ (litsOf p).map (·.1) ++ (clssOf p loose).map (·.name), ns T.g, ns T.b, ?_, ?_, ?_, ?_, ?_, ?_, T.builtins, ?_, ?_, ?_⟩
  · obtain ⟨mc, h1, h2⟩ := T.nolimit; exact ⟨mc, ns h1, h2⟩
  · obtain ⟨mc, h1, h2⟩ := T.nodigits; exact ⟨mc, ns h1, h2⟩
  · intro d hd; exact absurd hd (by have : recsOf pE = [] := rfl; rw [this]; exact List.not_mem_nil)
  · intro d hd; exact absurd hd (by have : ownsOf pE = [] := rfl; rw [this]; exact List.not_mem_nil)
  · intro x d hd; have : valOf pE x = none := rfl; rw [this] at hd; cases hd
  · intro x h1 h2 _ _ _
    simp only [List.mem_append, not_or] at h2
    exact T.free x h1 h2.1.1.1 h2.1.1.2 h2.1.2 h2.2
  · intro d hd; exact absurd hd (by have : recsOf pE = [] := rfl; rw [this]; exact List.not_mem_nil)
  · obtain ⟨bm, ob, h1, h2, h3, h4, h5, h6⟩ := T.bmain
    refine ⟨bm, ob, h1, h2, hk _ _ ?_ h3, h4, h5, h6⟩
    rintro rfl
    rw [hop] at h3; cases h3; rw [hpd] at h6; cases h6
  · intro hi; have : importsNone pE = false := rfl; rw [this] at hi; cases hi
end Mine
end
section
open PySem PySem.W PySem.Calls PyProof.Rows PySem.Spec
namespace Mine
theorem fresh_G4 : True := by
  w_top off
  run_tac do
    walkLines.set (0, {})
    walkStart.set 0
    walkLate.set false
  trivial
local macro_rules | `(tactic| walk_at "enter") => `(tactic| (refine' enter (by assumption) ?k6 ?k7 ?k9 ?kB ?_ ?c2 ?c3 ?c4 ?c5; (case k6 => k_is); (case k7 => k_is); (case k9 => exact BindsTo.of_eq rfl); (case c5 => decide); (case kB => exact locs rfl); (case c2 => exact rfl); (case c3 => exact rfl); (case c4 => exact rfl); k_whole; intro dp' un' gd' env' outer' base' g' h' L' p' loose' mean' mg' mb' hd' hu' F' N' B' X' T' G'; (try dsimp only); (try k_fold)))
local macro_rules | `(tactic| walk_at "room") => `(tactic| (refine Room.le (room_in (by assumption) (by assumption) (by assumption) (by assumption) (by assumption) (by assumption) (by rfl) (by rfl)) ?_))
local macro_rules | `(tactic| walk_at "subscriptTail") => `(tactic| ((with_reducible show wpAny _ _ (subscriptTail _ _ (Value.bytes _ _) (Value.int _ _)) _ _ _); (refine item_b (by omega) (by omega) (by omega) ?_ (by with_unfolding_all rfl) (by intro _; with_unfolding_all rfl))))
local macro_rules | `(tactic| walk_at "subscriptTail") => `(tactic| ((with_reducible show wpAny _ _ (subscriptTail _ _ (Value.ref 1450) (Value.int _ _)) _ _ _); (refine item_all (by assumption) (by assumption) (by omega) (by omega) ?_ (by with_unfolding_all rfl)); intro _))
local macro_rules | `(tactic| walk_at "binaryOp Add bytes bytes") => `(tactic| ((with_reducible show wpAny _ _ (binaryOp Operator.Add (Value.bytes _ _) (Value.bytes _ _)) _ _ _); (refine KBy.add_bytes (by first | omega | (simp; omega)) ?_); intro _ _))
local macro_rules | `(tactic| walk_at "eval ListComp") => `(tactic| (refine stop_ ?_))
local macro_rules | `(tactic| walk_at "call ref") => `(tactic| (refine stop_ ?_))
local macro_rules | `(tactic| walk_at "eval GeneratorExp") => `(tactic| (refine stop_ ?_))
local macro_rules | `(tactic| walk_at "call builtin:bytes.join") => `(tactic| (refine stop_ ?_))
local macro_rules | `(tactic| walk_at "getMethod bytes") => `(tactic| (refine method_join ?_))
local macro_rules | `(tactic| walk_at "call builtin:isinstance") => `(tactic| ((with_reducible show wpAny _ _ (call _ [Value.ref _, Value.ref _]) _ _ _); refine' kia_tup kitx_list ?X ?c ?p ?ee ?nb ?_; (case c => exact kitAt_F (by assumption) (by assumption)); (case X => k_in); (case p => kit_tp); (case ee => kit_is); (case nb => kit_nb); k_whole; intro _))
local macro_rules | `(tactic| walk_at "enter") => `(tactic| (refine' enterN (by assumption) ?k6 ?k7 ?k9 ?kB ?_ ?c2 ?c3 ?c4 ?c5; (case k6 => k_is); (case k7 => k_is); (case k9 => exact BindsTo.of_eq rfl); (case c5 => decide); (case kB => exact locs rfl); (case c2 => exact rfl); (case c3 => exact rfl); (case c4 => exact rfl); k_whole; intro dp' un' gd' env' outer' base' g' h' L' p' loose' mean' mg' mb' hd' hu' F' N' B' X' T' G'; (try dsimp only); (try k_fold)))

mutual
theorem TIn.keep {h h' : Heap} {c P : Addr} {ps : Array Value} (hc : h.IsCode c P ps) (hk : ExtB [P] h h') : ∀ (t : T) (v : Value), TIn (vw h) t v → TIn (vw h') t v
  | .leaf _, _, x => by simpa [TIn] using x
  | .node ks, v, x => by
    simp only [TIn] at x ⊢
    obtain ⟨a, vs, n, e, p, q⟩ := x
    exact ⟨a, vs, n, e, hk _ _ (fun hm => by rw [List.mem_singleton.mp hm] at p; exact isCode_list hc p) p, TsIn.keep hc hk ks vs q⟩
theorem TsIn.keep {h h' : Heap} {c P : Addr} {ps : Array Value} (hc : h.IsCode c P ps) (hk : ExtB [P] h h') : ∀ (ts : List T) (vs : List Value), TsIn (vw h) ts vs → TsIn (vw h') ts vs
  | [], _, x => by simpa [TsIn] using x
  | k :: ks, vs, x => by
    simp only [TsIn] at x ⊢
    obtain ⟨v, vs', e, p, q⟩ := x
    exact ⟨v, vs', e, TIn.keep hc hk k v p, TsIn.keep hc hk ks vs' q⟩
end
theorem enc_specN : ∀ (n : Nat) (t : T), t.dep ≤ n → EncSpec t := by
  intro n
  induction n with
  | zero => intro t h; cases t <;> simp only [T.dep] at h <;> omega
  | succ n ih =>
    intro t h
    cases t with
    | leaf b => exact enc_leaf b
    | node ks =>
      refine enc_node ks fun t ht => ?_
      obtain ⟨i, hi, e⟩ := List.getElem_of_mem ht
      have := T.dep_le (ts := ks) (i := i) (t := t) (by rw [List.getElem?_eq_getElem hi, e])
      exact ih t (by simp only [T.dep] at h; omega)
theorem enc_spec (t : T) : EncSpec t := enc_specN _ t (Nat.le_refl _)
theorem not_size {h : Heap} {b : Addr} {o : Obj} (e : h.get? b = some o) : b ∉ [h.objs.size] := fun hb => by
  have l := Heap.lt_size e
  rw [List.mem_singleton.mp hb] at l
  exact Nat.lt_irrefl _ l
theorem News.one {g h : Heap} {L a : Addr} {o : Obj} {r} (N : News g L h ((a, o) :: r)) : h.get? a = some o ∧ a ≠ L ∧ g.get? a = none := N (a, o) (List.mem_cons_self ..)

theorem isCode_at {h h' : Heap} {c P : Addr} {ps : Array Value} (x : h.IsCode c P ps) (hc : ∀ o, c ≠ P → h.get? c = some o → h'.get? c = some o) (hp : ∀ o, h.get? P = some o → h'.get? P = some o) : h'.IsCode c P ps := by
  obtain ⟨o, vs, file, tf, flags, tg, inF, text, tt, op, ho, hd, h11, h2, h7, h9, h10, hop, hpd, htr, hne⟩ := x
  exact ⟨o, vs, file, tf, flags, tg, inF, text, tt, op, hc _ hne ho, hd, h11, h2, h7, h9, h10, hp _ hop, hpd, htr, hne⟩
theorem isCode_ne {h : Heap} {c P : Addr} {ps : Array Value} (x : h.IsCode c P ps) : c ≠ P := by
  obtain ⟨o, vs, file, tf, flags, tg, inF, text, tt, op, ho, hd, h11, h2, h7, h9, h10, hop, hpd, htr, hne⟩ := x
  exact hne
theorem isCode_get {h : Heap} {c P : Addr} {ps : Array Value} (x : h.IsCode c P ps) : ∃ o, h.get? c = some o := by
  obtain ⟨o, vs, file, tf, flags, tg, inF, text, tt, op, ho, hd, h11, h2, h7, h9, h10, hop, hpd, htr, hne⟩ := x
  exact ⟨o, ho⟩
theorem tableAt_at {h h' : Heap} {c P : Addr} {ps : Array Value} (x : h.TableAt c P ps) (hn : c ≠ P) (hc : ∀ o, c ≠ P → h.get? c = some o → h'.get? c = some o) (hp : ∀ o, h.get? P = some o → h'.get? P = some o) : h'.TableAt c P ps := by
  obtain ⟨⟨oc, vc, hoc, r⟩, htP⟩ := x
  exact ⟨⟨oc, vc, hc _ hn hoc, r⟩, hp _ htP⟩
theorem RoomN.site_get {w : World} {A : Around} {h : Heap} {k : Nat} {a : Addr} {o : Obj} {r} (R : RoomN w A h k ((a, o) :: r)) : h.get? a = some o ∧ True := by
  obtain ⟨A₀, base, outer, h₀, env, L, m, p, loose, mean, mg, mb, B, F, N, _⟩ := R.site
  exact ⟨(N _ (List.mem_cons_self ..)).1, trivial⟩
end Mine
end
section
open PySem PySem.W PySem.Calls PyProof.Rows PySem.Spec
namespace Mine
theorem fresh_F8 : True := by
  w_top off
  run_tac do
    walkLines.set (0, {})
    walkStart.set 0
    walkLate.set false
  trivial
/-- the octets from i to j -/
def cutL (l : List UInt8) (i j : Nat) : List UInt8 := (l.drop i).take (j - i)
theorem picked_cut (b : Array UInt8) {i j : Int} (h0 : 0 ≤ i) (h1 : 0 ≤ j) : (KBy.picked b (some i) (some j)) = (cutL b.toList i.toNat j.toNat).toArray := by
  rw [KBc.picked_eq, cutL]
  simp only [Option.elim]
  obtain ⟨a, rfl⟩ := Int.eq_ofNat_of_zero_le h0
  obtain ⟨c, rfl⟩ := Int.eq_ofNat_of_zero_le h1
  rw [clipAt_nat, clipAt_nat, Int.toNat_natCast, Int.toNat_natCast]
  congr 1
  have hl : b.toList.length = b.size := Array.length_toList ..
  rcases Nat.le_total a b.size with ha | ha
  · rw [Nat.min_eq_left ha]
    rcases Nat.le_total c b.size with hc | hc
    · rw [Nat.min_eq_left hc]
    · rw [Nat.min_eq_right hc, List.take_of_length_le (by simp [hl]), List.take_of_length_le (by simp [hl]; omega)]
  · rw [Nat.min_eq_right ha, List.drop_of_length_le (by omega), List.drop_of_length_le (by omega)]
    simp
section
variable {prog : Program} {w : World} {A : Around} {E : Value → Shared → Prop} {s : Shared} {value slice : PySem.Expr} {b c : Array UInt8} {t u : Tok} {h₀ : Heap} {L : Addr} {m : PySem.Str → Option Value} {news : List (Addr × Obj)} {Q : Value → Shared → Prop}
theorem slice_b {i j : Int} {ti tj : Tok} (hF : Fr h₀ L s.heap m) (hN : News h₀ L s.heap news) (h0 : 0 ≤ i) (h1 : 0 ≤ j) (hz : b.size ≤ 16777216)
    (h : ∀ h' t' k, Fr h₀ L h' m → News h₀ L h' news → Q (.bytes (cutL b.toList i.toNat j.toNat).toArray t') { s with heap := h', toks := k })
    (hs : subscripted slice false (.bytes b t) (.ref s.heap.objs.size) = operate [.ref s.heap.objs.size, .bytes b t] (getItem (.bytes b t) (.ref s.heap.objs.size)) := by with_unfolding_all rfl)
    (ht : ∀ r, letTemporaryGo value (.bytes b t) r = pure () := by intro _; with_unfolding_all rfl) :
    wpAny (model prog w) A (subscriptTail value slice (.bytes b t) (.ref s.heap.objs.size)) Q E { s with heap := s.heap.push { cls := .type "slice", data := .fields #[.int i ti, .int j tj, .none] } } :=
  KBc.slice_K hF hN rfl (by constructor) (by constructor) (by rw [KBw.ints_length]; exact hz) (fun h' t' k F N _ => by rw [picked_cut b h0 h1]; exact h h' t' k F N) hs ht
theorem eq_no (hn : b.toList ≠ c.toList) (h : Q (.bool false) s) : wpAny (model prog w) A (compareOp .Eq (.bytes b t) (.bytes c u)) Q E s := by
  refine eq_bytes ?_
  rw [beq_eq_false_iff_ne.mpr hn]
  exact h
end
def tupO (vs : Array Value) : Obj := { cls := .type "tuple", data := .seq vs }
end Mine
end
section
open PySem PySem.W PySem.Calls PyProof.Rows PySem.Spec
namespace Mine
theorem fresh_G6 : True := by
  w_top off
  run_tac do
    walkLines.set (0, {})
    walkStart.set 0
    walkLate.set false
  trivial
local macro_rules | `(tactic| walk_at "enter") => `(tactic| (refine' enter (by assumption) ?k6 ?k7 ?k9 ?kB ?_ ?c2 ?c3 ?c4 ?c5; (case k6 => k_is); (case k7 => k_is); (case k9 => exact BindsTo.of_eq rfl); (case c5 => decide); (case kB => exact locs rfl); (case c2 => exact rfl); (case c3 => exact rfl); (case c4 => exact rfl); k_whole; intro dp' un' gd' env' outer' base' g' h' L' p' loose' mean' mg' mb' hd' hu' F' N' B' X' T' G'; (try dsimp only); (try k_fold)))
local macro_rules | `(tactic| walk_at "room") => `(tactic| (refine Room.le (room_in (by assumption) (by assumption) (by assumption) (by assumption) (by assumption) (by assumption) (by rfl) (by rfl)) ?_))
local macro_rules | `(tactic| walk_at "subscriptTail") => `(tactic| ((with_reducible show wpAny _ _ (subscriptTail _ _ (Value.bytes _ _) (Value.int _ _)) _ _ _); (refine item_b (by omega) (by omega) (by omega) ?_ (by with_unfolding_all rfl) (by intro _; with_unfolding_all rfl))))
local macro_rules | `(tactic| walk_at "subscriptTail") => `(tactic| ((with_reducible show wpAny _ _ (subscriptTail _ _ (Value.ref 1450) (Value.int _ _)) _ _ _); (refine item_all (by assumption) (by assumption) (by omega) (by omega) ?_ (by with_unfolding_all rfl)); intro _))
local macro_rules | `(tactic| walk_at "binaryOp Add bytes bytes") => `(tactic| ((with_reducible show wpAny _ _ (binaryOp Operator.Add (Value.bytes _ _) (Value.bytes _ _)) _ _ _); (refine KBy.add_bytes (by first | omega | (simp; omega)) ?_); intro _ _))
local macro_rules | `(tactic| walk_at "eval ListComp") => `(tactic| (refine stop_ ?_))
local macro_rules | `(tactic| walk_at "eval GeneratorExp") => `(tactic| (refine stop_ ?_))
local macro_rules | `(tactic| walk_at "call builtin:bytes.join") => `(tactic| (refine stop_ ?_))
local macro_rules | `(tactic| walk_at "getMethod bytes") => `(tactic| (refine method_join ?_))
local macro_rules | `(tactic| walk_at "call builtin:isinstance") => `(tactic| ((with_reducible show wpAny _ _ (call _ [Value.ref _, Value.ref _]) _ _ _); refine' kia_tup kitx_list ?X ?c ?p ?ee ?nb ?_; (case c => exact kitAt_F (by assumption) (by assumption)); (case X => k_in); (case p => kit_tp); (case ee => kit_is); (case nb => kit_nb); k_whole; intro _))

theorem bei_spec (w : World) (A : Around) (s : Shared) (b : Array UInt8) (t : Tok) (Q E : Value → Shared → Prop) (R : Room w A s.heap 1) (hb : b.size ≤ 8)
    (hret : ∀ h' tk' tok, Ext s.heap h' → Q (.int (KFB.value (KBw.bInts b)) tok) { s with heap := h', toks := tk' }) : wpAny (model prog w) A (call (.ref 1457) [.bytes b t]) Q E s := by
  refine wpAny_call ?_
  have R' : Room w A s.heap (0 + 1) := R
  walk_at "enter"
  rename_i dp un gd env outer base g h₁ L' p loose mean mg mb hdp hun F N B X Tp G
  k_steps
  refine leave0_ (by assumption) G ?_
  intro hE
  exact hret _ _ _ hE
end Mine
end
section
open PySem PySem.W PySem.Calls PyProof.Rows PySem.Spec
namespace Mine
theorem fresh_G7 : True := by
  w_top off
  run_tac do
    walkLines.set (0, {})
    walkStart.set 0
    walkLate.set false
  trivial
local macro_rules | `(tactic| walk_at "enter") => `(tactic| (refine' enter (by assumption) ?k6 ?k7 ?k9 ?kB ?_ ?c2 ?c3 ?c4 ?c5; (case k6 => k_is); (case k7 => k_is); (case k9 => exact BindsTo.of_eq rfl); (case c5 => decide); (case kB => exact locs rfl); (case c2 => exact rfl); (case c3 => exact rfl); (case c4 => exact rfl); k_whole; intro dp' un' gd' env' outer' base' g' h' L' p' loose' mean' mg' mb' hd' hu' F' N' B' X' T' G'; (try dsimp only); (try k_fold)))
local macro_rules | `(tactic| walk_at "room") => `(tactic| (refine Room.le (room_in (by assumption) (by assumption) (by assumption) (by assumption) (by assumption) (by assumption) (by rfl) (by rfl)) ?_))
local macro_rules | `(tactic| walk_at "subscriptTail") => `(tactic| ((with_reducible show wpAny _ _ (subscriptTail _ _ (Value.bytes _ _) (Value.int _ _)) _ _ _); (refine item_b (by omega) (by omega) (by omega) ?_ (by with_unfolding_all rfl) (by intro _; with_unfolding_all rfl))))
local macro_rules | `(tactic| walk_at "subscriptTail") => `(tactic| ((with_reducible show wpAny _ _ (subscriptTail _ _ (Value.ref 1450) (Value.int _ _)) _ _ _); (refine item_all (by assumption) (by assumption) (by omega) (by omega) ?_ (by with_unfolding_all rfl)); intro _))
local macro_rules | `(tactic| walk_at "binaryOp Add bytes bytes") => `(tactic| ((with_reducible show wpAny _ _ (binaryOp Operator.Add (Value.bytes _ _) (Value.bytes _ _)) _ _ _); (refine KBy.add_bytes (by first | omega | (simp; omega)) ?_); intro _ _))
local macro_rules | `(tactic| walk_at "eval ListComp") => `(tactic| (refine stop_ ?_))
local macro_rules | `(tactic| walk_at "call ref") => `(tactic| (refine stop_ ?_))
local macro_rules | `(tactic| walk_at "eval GeneratorExp") => `(tactic| (refine stop_ ?_))
local macro_rules | `(tactic| walk_at "call builtin:bytes.join") => `(tactic| (refine stop_ ?_))
local macro_rules | `(tactic| walk_at "getMethod bytes") => `(tactic| (refine method_join ?_))
local macro_rules | `(tactic| walk_at "call builtin:isinstance") => `(tactic| ((with_reducible show wpAny _ _ (call _ [Value.ref _, Value.ref _]) _ _ _); refine' kia_tup kitx_list ?X ?c ?p ?ee ?nb ?_; (case c => exact kitAt_F (by assumption) (by assumption)); (case X => k_in); (case p => kit_tp); (case ee => kit_is); (case nb => kit_nb); k_whole; intro _))

local macro_rules | `(tactic| walk_at "subscriptTail") => `(tactic| ((with_reducible show wpAny _ _ (subscriptTail _ _ (Value.bytes _ _) (Value.ref _)) _ _ _); (with_reducible rename Fr _ _ _ _ => F'); (with_reducible rename News _ _ _ _ => N'); (refine slice_b (s := ⟨_, _, _, _, _⟩) F' N' (by omega) (by omega) (by omega) ?_); intro _ _ _ _ _))
local macro_rules | `(tactic| walk_at "compareOp Eq bytes bytes") => `(tactic| (refine stop_ ?_))

def ClpRet (s : Shared) (Q : Value → Shared → Prop) (p : List UInt8) (kind : String) (n pos : Int) : Prop :=
  ∀ h' tk' D t1 t2 t3 t4 (pb : Array UInt8), Ext s.heap h' → s.heap.get? D = none → h'.get? D = some (tupO #[.bytes pb t1, .str kind t2, .int n t3, .int pos t4]) → pb.toList = p → Q (.ref D) { s with heap := h', toks := tk' }
theorem none_of {h g : Heap} {D : Addr} (G : Ext h g) (n : g.get? D = none) : h.get? D = none := by
  cases e : h.get? D with
  | none => rfl
  | some o => rw [G _ _ e] at n; cases n
theorem clp_end {s : Shared} {Q : Value → Shared → Prop} {p : List UInt8} {kind : String} {n pos n' pos' : Int} (hret : ClpRet s Q p kind n pos) {h' : Heap} {tk' : Nat} {D : Addr} {t1 t2 t3 t4 : Tok} {pb : Array UInt8} (h1 : Ext s.heap h') (h2 : s.heap.get? D = none)
    (h3 : h'.get? D = some (tupO #[.bytes pb t1, .str kind t2, .int n' t3, .int pos' t4])) (h4 : pb.toList = p) (hn : n' = n) (hp : pos' = pos) : Q (.ref D) { s with heap := h', toks := tk' } := by
  subst hn hp
  exact hret _ _ _ _ _ _ _ _ h1 h2 h3 h4
theorem clp_single (w : World) (A : Around) (s : Shared) (d : Array UInt8) (i : Int) (t ti : Tok) (Q E : Value → Shared → Prop) (R : Room w A s.heap 2) (hz : d.size ≤ 16777216) (h0 : 0 ≤ i) (h1 : i < d.size)
    (hb0 : ((d.toList.getD i.toNat 0).toNat : Int) < 128) (hret : ClpRet s Q [] "bytes" 1 i) : wpAny (model prog w) A (call (.ref 1722) [.bytes d t, .int i ti]) Q E s := by
  refine wpAny_call ?_
  have R' : Room w A s.heap (1 + 1) := R
  walk_at "enter"
  rename_i dp un gd env outer base g h₁ L' p loose mean mg mb hdp hun F N B X Tp G
  k_steps
  all_goals try (exfalso; omega)
  all_goals (
    show Leave0 g L' _ _ _
    rename News _ _ _ _ => N
    have hN := N _ (List.mem_cons_self ..)
    refine leave0_ (by assumption) G ?_
    intro hE
    refine clp_end hret hE (none_of G hN.2.2) hN.1 ?_ (by omega) (by omega)
    first | rfl | simp)
theorem clp_short (w : World) (A : Around) (s : Shared) (d : Array UInt8) (i n : Int) (t ti : Tok) (Q E : Value → Shared → Prop) (R : Room w A s.heap 2) (hz : d.size ≤ 16777216) (h0 : 0 ≤ i) (h1 : i < d.size) (hn : 0 ≤ n ∧ n < 56)
    (hb0 : ((d.toList.getD i.toNat 0).toNat : Int) = 128 + n) (hb1 : n ≠ 1 ∨ i + 1 < d.size ∧ 128 ≤ ((d.toList.getD (i + 1).toNat 0).toNat : Int)) (hret : ClpRet s Q (cutL d.toList i.toNat (i + 1).toNat) "bytes" n (i + 1)) : wpAny (model prog w) A (call (.ref 1722) [.bytes d t, .int i ti]) Q E s := by
  refine wpAny_call ?_
  have R' : Room w A s.heap (1 + 1) := R
  walk_at "enter"
  rename_i dp un gd env outer base g h₁ L' p loose mean mg mb hdp hun F N B X Tp G
  k_steps
  all_goals try (exfalso; omega)
  all_goals (
    show Leave0 g L' _ _ _
    rename News _ _ _ _ => N
    have hN := N _ (List.mem_cons_self ..)
    refine leave0_ (by assumption) G ?_
    intro hE
    refine clp_end hret hE (none_of G hN.2.2) hN.1 ?_ (by omega) (by omega)
    first | rfl | simp)
theorem clp_slist (w : World) (A : Around) (s : Shared) (d : Array UInt8) (i n : Int) (t ti : Tok) (Q E : Value → Shared → Prop) (R : Room w A s.heap 2) (hz : d.size ≤ 16777216) (h0 : 0 ≤ i) (h1 : i < d.size) (hn : 0 ≤ n ∧ n < 56)
    (hb0 : ((d.toList.getD i.toNat 0).toNat : Int) = 192 + n) (hret : ClpRet s Q (cutL d.toList i.toNat (i + 1).toNat) "list" n (i + 1)) : wpAny (model prog w) A (call (.ref 1722) [.bytes d t, .int i ti]) Q E s := by
  refine wpAny_call ?_
  have R' : Room w A s.heap (1 + 1) := R
  walk_at "enter"
  rename_i dp un gd env outer base g h₁ L' p loose mean mg mb hdp hun F N B X Tp G
  k_steps
  all_goals try (exfalso; omega)
  all_goals (
    show Leave0 g L' _ _ _
    rename News _ _ _ _ => N
    have hN := N _ (List.mem_cons_self ..)
    refine leave0_ (by assumption) G ?_
    intro hE
    refine clp_end hret hE (none_of G hN.2.2) hN.1 ?_ (by omega) (by omega)
    first | rfl | simp)
local macro_rules | `(tactic| walk_at "binaryOp Add bytes bytes") => `(tactic| (refine stop_ ?_))
theorem cut_size (d : Array UInt8) (i j : Nat) : (cutL d.toList i j).toArray.size ≤ j - i := by
  rw [List.size_toArray, cutL, List.length_take]; omega
theorem clp_lstr (w : World) (A : Around) (s : Shared) (d : Array UInt8) (i n : Int) (t ti : Tok) (Q E : Value → Shared → Prop) (R : Room w A s.heap 2) (hz : d.size ≤ 16777216) (h0 : 0 ≤ i) (h1 : i < d.size) (hn : 56 ≤ n)
    (hb0 : 184 ≤ ((d.toList.getD i.toNat 0).toNat : Int) ∧ ((d.toList.getD i.toNat 0).toNat : Int) ≤ 191) (hb1 : cutL d.toList (i + 1).toNat (i + 1 + 1).toNat ≠ [0] ∧ cutL d.toList (i + 1).toNat (i + 2).toNat ≠ [0]) (hv : KFB.value (KBw.bInts (cutL d.toList (i + 1).toNat (i + 1 + (((d.toList.getD i.toNat 0).toNat : Int) - 183)).toNat).toArray) = n)
    (hret : ClpRet s Q (cutL d.toList i.toNat (i + 1).toNat ++ cutL d.toList (i + 1).toNat (i + 1 + (((d.toList.getD i.toNat 0).toNat : Int) - 183)).toNat) "bytes" n (i + 1 + (((d.toList.getD i.toNat 0).toNat : Int) - 183))) : wpAny (model prog w) A (call (.ref 1722) [.bytes d t, .int i ti]) Q E s := by
  refine wpAny_call ?_
  have R' : Room w A s.heap (1 + 1) := R
  walk_at "enter"
  rename_i dp un gd env outer base g h₁ L' p loose mean mg mb hdp hun F N B X Tp G
  k_steps
  all_goals try (exfalso; omega)
  show wpAny _ _ _ _ _ _
  refine eq_no (by first | exact hb1.1 | exact hb1.2) ?_
  k_steps
  show wpAny _ _ _ _ _ _
  have hs1 := cut_size d (i + 1).toNat (i + 1 + (((d.toList.getD i.toNat 0).toNat : Int) - 183)).toNat
  have hs2 := cut_size d i.toNat (i + 1).toNat
  refine bei_spec w _ _ _ _ _ _ (by walk_at "room"; omega) (by omega) fun h' tk' tok hE => ?_
  rename Fr _ _ _ _ => F
  rename News _ _ _ _ => N
  replace F := F.keeps hE
  replace N := News.grown N hE
  k_steps
  all_goals try (exfalso; omega)
  show wpAny _ _ _ _ _ _
  refine KBy.add_bytes (by omega) ?_
  intro _ _
  k_steps
  show Leave0 g L' _ _ _
  rename News _ _ _ _ => N
  have hN := N _ (List.mem_cons_self ..)
  refine leave0_ (by assumption) G ?_
  intro hE
  refine clp_end hret hE (none_of G hN.2.2) hN.1 ?_ hv rfl
  simp
theorem clp_llist (w : World) (A : Around) (s : Shared) (d : Array UInt8) (i n : Int) (t ti : Tok) (Q E : Value → Shared → Prop) (R : Room w A s.heap 2) (hz : d.size ≤ 16777216) (h0 : 0 ≤ i) (h1 : i < d.size) (hn : 56 ≤ n)
    (hb0 : 248 ≤ ((d.toList.getD i.toNat 0).toNat : Int) ∧ ((d.toList.getD i.toNat 0).toNat : Int) ≤ 255) (hb1 : cutL d.toList (i + 1).toNat (i + 1 + 1).toNat ≠ [0] ∧ cutL d.toList (i + 1).toNat (i + 2).toNat ≠ [0]) (hv : KFB.value (KBw.bInts (cutL d.toList (i + 1).toNat (i + 1 + (((d.toList.getD i.toNat 0).toNat : Int) - 192 - 56 + 1)).toNat).toArray) = n)
    (hret : ClpRet s Q (cutL d.toList i.toNat (i + 1).toNat ++ cutL d.toList (i + 1).toNat (i + 1 + (((d.toList.getD i.toNat 0).toNat : Int) - 192 - 56 + 1)).toNat) "list" n (i + 1 + (((d.toList.getD i.toNat 0).toNat : Int) - 192 - 56 + 1))) : wpAny (model prog w) A (call (.ref 1722) [.bytes d t, .int i ti]) Q E s := by
  refine wpAny_call ?_
  have R' : Room w A s.heap (1 + 1) := R
  walk_at "enter"
  rename_i dp un gd env outer base g h₁ L' p loose mean mg mb hdp hun F N B X Tp G
  k_steps
  all_goals try (exfalso; omega)
  show wpAny _ _ _ _ _ _
  refine eq_no (by first | exact hb1.1 | exact hb1.2) ?_
  k_steps
  show wpAny _ _ _ _ _ _
  have hs1 := cut_size d (i + 1).toNat (i + 1 + (((d.toList.getD i.toNat 0).toNat : Int) - 192 - 56 + 1)).toNat
  have hs2 := cut_size d i.toNat (i + 1).toNat
  refine bei_spec w _ _ _ _ _ _ (by walk_at "room"; omega) (by omega) fun h' tk' tok hE => ?_
  rename Fr _ _ _ _ => F
  rename News _ _ _ _ => N
  replace F := F.keeps hE
  replace N := News.grown N hE
  k_steps
  all_goals try (exfalso; omega)
  show wpAny _ _ _ _ _ _
  refine KBy.add_bytes (by omega) ?_
  intro _ _
  k_steps
  show Leave0 g L' _ _ _
  rename News _ _ _ _ => N
  have hN := N _ (List.mem_cons_self ..)
  refine leave0_ (by assumption) G ?_
  intro hE
  refine clp_end hret hE (none_of G hN.2.2) hN.1 ?_ hv rfl
  simp
end Mine
end
section
open PySem PySem.W PySem.Calls PyProof.Rows PySem.Spec
namespace Mine
theorem fresh_F9 : True := by
  w_top off
  run_tac do
    walkLines.set (0, {})
    walkStart.set 0
    walkLate.set false
  trivial
/-- made between the two heaps -/
def fresh (h h' : Heap) : View := fun a o => h.get? a = none ∧ h'.get? a = some o

def WhileH (h₀ : Heap) (L : Addr) (s : Shared) (J : Nat → Heap → (Str → Option Value) → List (Addr × Obj) → Prop) (Q : Flow → Shared → Prop) (n : Nat) (f : Flow) (s₃ : Shared) : Prop :=
  match f with
  | .next | .cont => ∃ h' tk m₂ news₂ n', s₃ = { s with heap := h', toks := tk } ∧ Fr h₀ L h' m₂ ∧ News h₀ L h' news₂ ∧ n' < n ∧ J n' h' m₂ news₂
  | .brk => Q .next s₃
  | .ret v => Q (.ret v) s₃
theorem WhileH.intro {h₀ h' : Heap} {L : Addr} {s : Shared} {J : Nat → Heap → (Str → Option Value) → List (Addr × Obj) → Prop} {Q : Flow → Shared → Prop} {n n' tk : Nat} {m₂ : Str → Option Value} {news₂ : List (Addr × Obj)}
    (F : Fr h₀ L h' m₂) (N : News h₀ L h' news₂) (hn : n' < n) (hJ : J n' h' m₂ news₂) : WhileH h₀ L s J Q n .next { s with heap := h', toks := tk } :=
  ⟨h', tk, m₂, news₂, n', rfl, F, N, hn, hJ⟩
section
variable {prog : Program} {w : World} {A : Around} {E : Value → Shared → Prop} {Q : Flow → Shared → Prop} {s : Shared} {env : Env} {h₀ : Heap} {L : Addr}
theorem While_H {test : Expr} {body : List Stmt} {pos : Pos} {m : Str → Option Value} {news : List (Addr × Obj)} (J : Nat → Heap → (Str → Option Value) → List (Addr × Obj) → Prop) {n₀ : Nat}
    (F : Fr h₀ L s.heap m) (N : News h₀ L s.heap news) (hJ : J n₀ s.heap m news)
    (turn : ∀ n m₁ news₁ h₁ tk₁, Fr h₀ L h₁ m₁ → News h₀ L h₁ news₁ → J n h₁ m₁ news₁ →
      wpAny (model prog w) A (isTrue test env (eval test env)) (fun b s₂ =>
        if b = true then wpAny (model prog w) A (execs body env) (WhileH h₀ L s J Q n) E s₂ else Q .next s₂) E { s with heap := h₁, toks := tk₁ })
    (hE : PassesOwn (model prog w) A env E := by passes_own) :
    wpAny (model prog w) A (exec (.While test body [] pos) env) Q E s := by
  refine wpAny_While (codeAny_whileLoop (fun n s' => ∃ h₁ tk₁ m₁ news₁, s' = { s with heap := h₁, toks := tk₁ } ∧ Fr h₀ L h₁ m₁ ∧ News h₀ L h₁ news₁ ∧ J n h₁ m₁ news₁) ?_ n₀ ⟨s.heap, s.toks, m, news, rfl, F, N, hJ⟩)
  rintro n s' ⟨h₁, tk₁, m₁, news₁, rfl, F₁, N₁, J₁⟩
  refine wpAny_mono (turn n m₁ news₁ h₁ tk₁ F₁ N₁ J₁) (fun b s₂ h₂ => ?_) hE
  cases b with
  | false =>
    simp only [Bool.false_eq_true, if_false] at h₂ ⊢
    exact wpAny_execs_nil h₂
  | true =>
    simp only [if_true] at h₂ ⊢
    refine wpAny_mono h₂ (fun f s₃ h₃ => ?_) hE
    cases f with
    | next =>
      obtain ⟨h', tk, m₂, news₂, n', rfl, F₂, N₂, hn, J₂⟩ := h₃
      exact ⟨n', hn, h', tk, m₂, news₂, rfl, F₂, N₂, J₂⟩
    | cont =>
      obtain ⟨h', tk, m₂, news₂, n', rfl, F₂, N₂, hn, J₂⟩ := h₃
      exact ⟨n', hn, h', tk, m₂, news₂, rfl, F₂, N₂, J₂⟩
    | brk => exact h₃
    | ret v => exact h₃
end
end Mine
end
section
open PySem PySem.W PySem.Calls PyProof.Rows PySem.Spec
namespace Mine
theorem fresh_G8 : True := by
  w_top off
  run_tac do
    walkLines.set (0, {})
    walkStart.set 0
    walkLate.set false
  trivial
def single (b : Array UInt8) : Bool := b.size == 1 && decide ((b.toList.getD 0 0).toNat < 128)
def T.pay : T → List UInt8
  | .leaf b => b.toList
  | .node ks => T.encs ks
def T.hd : T → List UInt8
  | .leaf b => if b.size = 1 ∧ (b.toList.getD 0 0).toNat < 128 then [] else pre 128 b.size
  | .node ks => pre 192 (T.encs ks).length
def T.kind : T → String
  | .leaf _ => "bytes"
  | .node _ => "list"
theorem T.enc_eq (t : T) : t.enc = t.hd ++ t.pay := by
  cases t with
  | leaf b => rw [T.enc, T.hd, T.pay]; split <;> simp
  | node ks => rw [T.enc, T.hd, T.pay]
mutual
/-- the own octets of an item and of all below it -/
def PIn (P : View) : T → Value → Prop
  | .leaf b, v => ∃ a bb tok n, v = .ref a ∧ P a (W.listOf #[.bytes bb tok] n) ∧ bb.toList = (T.leaf b).enc
  | .node ks, v => ∃ a bb tok vs n, v = .ref a ∧ P a (W.listOf (List.toArray (.bytes bb tok :: vs)) n) ∧ bb.toList = (T.node ks).enc ∧ PsIn P ks vs
def PsIn (P : View) : List T → List Value → Prop
  | [], vs => vs = []
  | k :: ks, vs => ∃ v vs', vs = v :: vs' ∧ PIn P k v ∧ PsIn P ks vs'
end
mutual
theorem PIn.mono {P P' : View} (h : ∀ a o, P a o → P' a o) : ∀ (t : T) (v : Value), PIn P t v → PIn P' t v
  | .leaf _, _, x => by
    simp only [PIn] at x ⊢
    obtain ⟨a, bb, tok, n, e, p, q⟩ := x
    exact ⟨a, bb, tok, n, e, h _ _ p, q⟩
  | .node ks, v, x => by
    simp only [PIn] at x ⊢
    obtain ⟨a, bb, tok, vs, n, e, p, q, r⟩ := x
    exact ⟨a, bb, tok, vs, n, e, h _ _ p, q, PsIn.mono h ks vs r⟩
theorem PsIn.mono {P P' : View} (h : ∀ a o, P a o → P' a o) : ∀ (ts : List T) (vs : List Value), PsIn P ts vs → PsIn P' ts vs
  | [], _, x => by simpa [PsIn] using x
  | k :: ks, vs, x => by
    simp only [PsIn] at x ⊢
    obtain ⟨v, vs', e, p, q⟩ := x
    exact ⟨v, vs', e, PIn.mono h k v p, PsIn.mono h ks vs' q⟩
end
theorem PsIn.length {P : View} : ∀ {ts : List T} {vs : List Value}, PsIn P ts vs → vs.length = ts.length
  | [], _, x => by simp only [PsIn] at x; subst x; rfl
  | _ :: _, _, x => by
    simp only [PsIn] at x
    obtain ⟨v, vs', e, _, q⟩ := x
    subst e
    simp [q.length]
theorem PsIn.snoc {P : View} : ∀ {ts : List T} {vs : List Value} {t : T} {v : Value}, PsIn P ts vs → PIn P t v → PsIn P (ts ++ [t]) (vs ++ [v])
  | [], _, t, v, x, y => by
    simp only [PsIn] at x; subst x
    exact ⟨v, [], rfl, y, rfl⟩
  | k :: ks, _, t, v, x, y => by
    simp only [PsIn] at x
    obtain ⟨v', vs', e, p, q⟩ := x
    subst e
    exact ⟨v', vs' ++ [v], rfl, p, q.snoc y⟩
theorem TsIn.snoc {P : View} : ∀ {ts : List T} {vs : List Value} {t : T} {v : Value}, TsIn P ts vs → TIn P t v → TsIn P (ts ++ [t]) (vs ++ [v])
  | [], _, t, v, x, y => by
    simp only [TsIn] at x; subst x
    exact ⟨v, [], rfl, y, rfl⟩
  | k :: ks, _, t, v, x, y => by
    simp only [TsIn] at x
    obtain ⟨v', vs', e, p, q⟩ := x
    subst e
    exact ⟨v', vs' ++ [v], rfl, p, q.snoc y⟩
theorem encs_append : ∀ (a b : List T), T.encs (a ++ b) = T.encs a ++ T.encs b
  | [], b => by simp [T.encs]
  | k :: a, b => by simp [T.encs, encs_append a b]
theorem be_value (n : Nat) (h0 : 56 ≤ n) (h : n < 65536) : KFB.value (KBw.bInts (be n).toArray) = n ∧ (be n).head? ≠ some 0 := by
  unfold be
  split
  · constructor
    · simp [KFB.value, KBw.bInts]; omega
    · simp
      intro h'
      have := congrArg UInt8.toNat h'
      simp at this; omega
  · constructor
    · simp [KFB.value, KBw.bInts]; omega
    · simp
      intro h'
      have := congrArg UInt8.toNat h'
      simp at this; omega
end Mine
end
section
open PySem PySem.W PySem.Calls PyProof.Rows PySem.Spec
namespace Mine
theorem fresh_G9 : True := by
  w_top off
  run_tac do
    walkLines.set (0, {})
    walkStart.set 0
    walkLate.set false
  trivial
theorem drop_getD {D X : List UInt8} {i : Nat} (h : D.drop i = X) (k : Nat) : D.getD (i + k) 0 = X.getD k 0 := by
  subst h
  simp [List.getD_eq_getElem?_getD, List.getElem?_drop]
theorem cut_at {D X : List UInt8} {i : Nat} (h : D.drop i = X) (a b : Nat) : cutL D (i + a) (i + b) = (X.drop a).take (b - a) := by
  subst h
  rw [cutL, List.drop_drop]
  congr 1; omega
theorem pre_val (off n : Nat) (ho : off = 128 ∨ off = 192) (hn : n < 65536) :
    (n < 56 ∧ pre off n = [(off + n).toUInt8] ∧ ((off + n).toUInt8).toNat = off + n) ∨
    (56 ≤ n ∧ ∃ x ll, pre off n = x :: be n ∧ (be n).length = ll ∧ x.toNat = off + 55 + ll ∧ (ll = 1 ∨ ll = 2)) := by
  unfold pre
  split
  · refine .inl ⟨by omega, rfl, ?_⟩
    simp; omega
  · refine .inr ⟨by omega, _, _, rfl, rfl, ?_, ?_⟩
    · have := be_len n
      simp; split at this <;> omega
    · have := be_len n
      split at this <;> omega
/-- the head of the item that stands at i -/
theorem clp_spec (t : T) (hlen : t.enc.length < 65536) (w : World) (A : Around) (s : Shared) (d : Array UInt8) (i : Nat) (rest : List UInt8) (hat : d.toList.drop i = t.enc ++ rest) (hz : d.size ≤ 16777216) (td ti : Tok) (Q E : Value → Shared → Prop) (R : Room w A s.heap 2)
    (hret : ClpRet s Q t.hd t.kind t.pay.length ((i : Int) + t.hd.length)) : wpAny (model prog w) A (call (.ref 1722) [.bytes d td, .int (i : Int) ti]) Q E s := by
  have h00 := drop_getD hat 0
  have hlt : t.enc ≠ [] → (i : Int) < d.size := fun hne => by
    have e : d.toList.length = d.size := Array.length_toList ..
    have : i < d.toList.length := by
      rcases Nat.lt_or_ge i d.toList.length with h | h
      · exact h
      · rw [List.drop_of_length_le h] at hat
        exact absurd (List.append_eq_nil_iff.mp hat.symm).1 hne
    omega
  have c1 : cutL d.toList (i : Int).toNat ((i : Int) + 1).toNat = ((t.enc ++ rest).drop 0).take 1 := by
    have := cut_at hat 0 1
    simpa using this
  simp only [Nat.add_zero] at h00
  have i1 : ((i : Int) + 1).toNat = i + 1 := by omega
  have i2 : ((i : Int) + 2).toNat = i + 2 := by omega
  have i3 : ((i : Int) + 1 + 1).toNat = i + 2 := by omega
  have hple : ∀ (off n : Nat) (P : List UInt8), (off = 128 ∨ off = 192) → n < 65536 → t.hd = pre off n → t.pay = P → P.length = n → (off = 128 → t.kind = "bytes") → (off = 192 → t.kind = "list") →
      (off = 128 → n = 1 → 128 ≤ (P.getD 0 0).toNat) → wpAny (model prog w) A (call (.ref 1722) [.bytes d td, .int (i : Int) ti]) Q E s := by
    intro off n P ho hn hhd hpay hPl hk1 hk2 hP1
    have henc : t.enc = pre off n ++ P := by rw [T.enc_eq, hhd, hpay]
    rw [hhd, hpay, hPl] at hret
    rcases pre_val off n ho hn with ⟨h56, hp, hv⟩ | ⟨h56, x, ll, hp, hll, hx, hll'⟩
    · have hi := hlt (by rw [henc, hp]; simp)
      rw [henc, hp] at h00 c1 hat
      simp only [List.cons_append, List.nil_append, List.getD_cons_zero, List.drop_zero, List.take_succ_cons, List.take_zero] at h00 c1 hat
      have hb0 : (((d.toList.getD (i : Int).toNat 0)).toNat : Int) = off + n := by
        rw [Int.toNat_natCast, h00, hv]; omega
      rw [hp] at hret
      rcases ho with rfl | rfl
      · rw [hk1 rfl] at hret
        refine clp_short w A s d i n td ti Q E R hz (by omega) hi (by omega) (by rw [hb0]; rfl) ?_ (by rw [c1]; simpa using hret)
        by_cases h1 : n = 1
        · refine .inr ?_
          have g1 := drop_getD hat 1
          have hP := hP1 rfl h1
          obtain ⟨y, hy⟩ : ∃ y, P = [y] := List.length_eq_one_iff.mp (by omega)
          subst hy
          simp only [List.getD_cons_zero] at hP
          rw [i1, g1]
          refine ⟨?_, by simp only [List.cons_append, List.getD_cons_succ, List.getD_cons_zero]; omega⟩
          have e : d.toList.length = d.size := Array.length_toList ..
          have := congrArg List.length hat
          simp at this
          omega
        · exact .inl (by omega)
      · rw [hk2 rfl] at hret
        exact clp_slist w A s d i n td ti Q E R hz (by omega) hi (by omega) (by rw [hb0]; rfl) (by rw [c1]; simpa using hret)
    · have hi := hlt (by rw [henc, hp]; simp)
      rw [henc, hp] at h00 c1 hat
      simp only [List.cons_append, List.getD_cons_zero, List.drop_zero, List.take_succ_cons, List.take_zero] at h00 c1 hat
      have hb0 : (((d.toList.getD (i : Int).toNat 0)).toNat : Int) = off + 55 + ll := by
        rw [Int.toNat_natCast, h00, hx]; omega
      obtain ⟨hv1, hv2⟩ := be_value n h56 hn
      have cb : cutL d.toList (i + 1) (i + 1 + ll) = be n := by
        have := cut_at hat 1 (1 + ll)
        rw [← Nat.add_assoc] at this
        rw [this]
        simp only [List.drop_succ_cons, List.drop_zero]
        rw [List.append_assoc, Nat.add_sub_cancel_left, ← hll, List.take_left]
      have c2 : cutL d.toList (i + 1) (i + 2) ≠ [0] := by
        have := cut_at hat 1 2
        rw [this]
        simp only [List.drop_succ_cons, List.drop_zero]
        intro h'
        apply hv2
        cases hbe : be n with
        | nil => rw [hbe] at hll; simp at hll; omega
        | cons z zs =>
          rw [hbe] at h'
          simp at h'
          simp [h']
      rw [hp] at hret
      rcases ho with rfl | rfl
      · rw [hk1 rfl] at hret
        have el : (((d.toList.getD (i : Int).toNat 0)).toNat : Int) - 183 = ll := by omega
        refine clp_lstr w A s d i n td ti Q E R hz (by omega) hi (by omega) (by omega) ⟨by rw [i1, i3]; exact c2, by rw [i1, i2]; exact c2⟩ ?_ ?_
        · rw [el, i1, show ((i : Int) + 1 + ll).toNat = i + 1 + ll by omega, cb]; exact hv1
        · rw [el, i1, show ((i : Int) + 1 + ll).toNat = i + 1 + ll by omega, cb, ← i1, c1]
          have : (i : Int) + 1 + ll = (i : Int) + (x :: be n).length := by simp [hll]; omega
          rw [this]
          exact hret
      · rw [hk2 rfl] at hret
        have el : (((d.toList.getD (i : Int).toNat 0)).toNat : Int) - 192 - 56 + 1 = ll := by omega
        refine clp_llist w A s d i n td ti Q E R hz (by omega) hi (by omega) (by omega) ⟨by rw [i1, i3]; exact c2, by rw [i1, i2]; exact c2⟩ ?_ ?_
        · rw [el, i1, show ((i : Int) + 1 + ll).toNat = i + 1 + ll by omega, cb]; exact hv1
        · rw [el, i1, show ((i : Int) + 1 + ll).toNat = i + 1 + ll by omega, cb, ← i1, c1]
          have : (i : Int) + 1 + ll = (i : Int) + (x :: be n).length := by simp [hll]; omega
          rw [this]
          exact hret
  cases t with
  | node ks =>
    refine hple 192 (T.encs ks).length (T.encs ks) (.inr rfl) ?_ rfl rfl rfl (by intro h; cases h) (fun _ => rfl) (by intro h; cases h)
    rw [T.enc, List.length_append] at hlen; omega
  | leaf b =>
    have hbl : b.toList.length = b.size := Array.length_toList ..
    by_cases hs : b.size = 1 ∧ (b.toList.getD 0 0).toNat < 128
    · obtain ⟨x, hx⟩ : ∃ x, b.toList = [x] := List.length_eq_one_iff.mp (by omega)
      have hx2 : x.toNat < 128 := by have := hs.2; rw [hx] at this; simpa using this
      have henc : (T.leaf b).enc = [x] := by rw [T.enc, if_pos hs, hx]
      have hhd : (T.leaf b).hd = [] := by rw [T.hd, if_pos hs]
      have hpay : (T.leaf b).pay = [x] := by rw [T.pay, hx]
      rw [hhd, hpay] at hret
      rw [henc] at h00 hlt
      refine clp_single w A s d i td ti Q E R hz (by omega) (hlt (by simp)) ?_ (by rw [T.kind] at hret; simpa using hret)
      rw [Int.toNat_natCast, h00]
      simp; omega
    · refine hple 128 b.size b.toList (.inl rfl) ?_ (by rw [T.hd, if_neg hs]) rfl hbl (fun _ => rfl) (by intro h; cases h) ?_
      · rw [T.enc, if_neg hs, List.length_append] at hlen; omega
      · intro _ h1
        by_cases h2 : (b.toList.getD 0 0).toNat < 128
        · exact absurd ⟨h1, h2⟩ hs
        · omega
end Mine
end
section
open PySem PySem.W PySem.Calls PyProof.Rows PySem.Spec
namespace Mine
theorem fresh_G10 : True := by
  w_top off
  run_tac do
    walkLines.set (0, {})
    walkStart.set 0
    walkLate.set false
  trivial
local macro_rules | `(tactic| walk_at "enter") => `(tactic| (refine' enter (by assumption) ?k6 ?k7 ?k9 ?kB ?_ ?c2 ?c3 ?c4 ?c5; (case k6 => k_is); (case k7 => k_is); (case k9 => exact BindsTo.of_eq rfl); (case c5 => decide); (case kB => exact locs rfl); (case c2 => exact rfl); (case c3 => exact rfl); (case c4 => exact rfl); k_whole; intro dp' un' gd' env' outer' base' g' h' L' p' loose' mean' mg' mb' hd' hu' F' N' B' X' T' G'; (try dsimp only); (try k_fold)))
local macro_rules | `(tactic| walk_at "room") => `(tactic| (refine Room.le (room_in (by assumption) (by assumption) (by assumption) (by assumption) (by assumption) (by assumption) (by rfl) (by rfl)) ?_))
local macro_rules | `(tactic| walk_at "subscriptTail") => `(tactic| ((with_reducible show wpAny _ _ (subscriptTail _ _ (Value.bytes _ _) (Value.int _ _)) _ _ _); (refine item_b (by omega) (by omega) (by omega) ?_ (by with_unfolding_all rfl) (by intro _; with_unfolding_all rfl))))
local macro_rules | `(tactic| walk_at "subscriptTail") => `(tactic| ((with_reducible show wpAny _ _ (subscriptTail _ _ (Value.ref 1450) (Value.int _ _)) _ _ _); (refine item_all (by assumption) (by assumption) (by omega) (by omega) ?_ (by with_unfolding_all rfl)); intro _))
local macro_rules | `(tactic| walk_at "binaryOp Add bytes bytes") => `(tactic| ((with_reducible show wpAny _ _ (binaryOp Operator.Add (Value.bytes _ _) (Value.bytes _ _)) _ _ _); (refine KBy.add_bytes (by first | omega | (simp; omega)) ?_); intro _ _))
local macro_rules | `(tactic| walk_at "eval ListComp") => `(tactic| (refine stop_ ?_))
local macro_rules | `(tactic| walk_at "call ref") => `(tactic| (refine stop_ ?_))
local macro_rules | `(tactic| walk_at "eval GeneratorExp") => `(tactic| (refine stop_ ?_))
local macro_rules | `(tactic| walk_at "call builtin:bytes.join") => `(tactic| (refine stop_ ?_))
local macro_rules | `(tactic| walk_at "getMethod bytes") => `(tactic| (refine method_join ?_))
local macro_rules | `(tactic| walk_at "call builtin:isinstance") => `(tactic| ((with_reducible show wpAny _ _ (call _ [Value.ref _, Value.ref _]) _ _ _); refine' kia_tup kitx_list ?X ?c ?p ?ee ?nb ?_; (case c => exact kitAt_F (by assumption) (by assumption)); (case X => k_in); (case p => kit_tp); (case ee => kit_is); (case nb => kit_nb); k_whole; intro _))

local macro_rules | `(tactic| walk_at "subscriptTail") => `(tactic| ((with_reducible show wpAny _ _ (subscriptTail _ _ (Value.bytes _ _) (Value.ref _)) _ _ _); (with_reducible rename Fr _ _ _ _ => F'); (with_reducible rename News _ _ _ _ => N'); (refine slice_b (s := ⟨_, _, _, _, _⟩) F' N' (by omega) (by omega) (by omega) ?_); intro _ _ _ _ _))


def CpSpec (t : T) : Prop := t.ok → t.enc.length < 65536 → ∀ (w : World) (A : Around) (s : Shared) (d : Array UInt8) (i : Nat) (rest : List UInt8) (pb : Array UInt8) (td tp ti tk tl : Tok) (Q E : Value → Shared → Prop),
  Room w A s.heap (t.dep + 2) → d.size ≤ 16777216 → d.toList.drop i = t.pay ++ rest → pb.toList = t.hd →
  (∀ h' tk' D v pv t3, Ext s.heap h' → s.heap.get? D = none → h'.get? D = some (tupO #[v, pv, .int ((i : Int) + t.pay.length) t3]) → TIn (fresh s.heap h') t v → PIn (fresh s.heap h') t pv → Q (.ref D) { s with heap := h', toks := tk' }) →
  wpAny (model prog w) A (call (.ref 1729) [.bytes d td, .bytes pb tp, .int (i : Int) ti, .str t.kind tk, .int (t.pay.length : Int) tl]) Q E s
theorem cp_leaf (b : Array UInt8) : CpSpec (.leaf b) := by
  intro ok hlen w A s d i rest pb td tp ti tk tl Q E R hz hat hpb hret
  refine wpAny_call ?_
  have R' : Room w A s.heap (2 + 1) := R.le (by simp only [T.dep]; omega)
  have hpl : ((T.leaf b).pay.length : Int) = b.size := by rw [T.pay, Array.length_toList]
  rw [T.enc_eq, List.length_append] at hlen
  have hps : pb.size = (T.leaf b).hd.length := by rw [← Array.length_toList, hpb]
  rw [T.kind]
  generalize hnn : ((T.leaf b).pay.length : Int) = nn at *
  have hcs := cut_size d (i : Int).toNat ((i : Int) + nn).toNat
  walk_at "enter"
  rename_i dp un gd env outer base g h₁ L' p loose mean mg mb hdp hun F N B X Tp G
  k_steps
  show Leave0 g L' _ _ _
  rename News _ _ _ _ => N
  have hN := N _ (List.mem_cons_self ..)
  have hN2 := N _ (List.mem_cons_of_mem _ (List.mem_cons_self ..))
  have ecut : (cutL d.toList (i : Int).toNat ((i : Int) + nn).toNat).toArray = b := by
    apply Array.toList_inj.mp
    have := cut_at hat 0 b.size
    rw [show ((i : Int) + nn).toNat = i + b.size by omega, Int.toNat_natCast]
    simp only [Nat.add_zero] at this
    rw [this, T.pay, List.drop_zero, Nat.sub_zero, ← Array.length_toList, List.take_left]
  rw [ecut] at hN hN2
  refine leave0_ (by assumption) G ?_
  intro hE
  refine hret _ _ _ _ _ _ hE (none_of G hN.2.2) hN.1 ?_ ?_
  · simp only [TIn]
    exact ⟨_, rfl⟩
  · simp only [PIn]
    refine ⟨_, _, _, _, rfl, ⟨none_of G hN2.2.2, hN2.1⟩, ?_⟩
    rw [Array.toList_append, hpb, T.enc_eq, T.pay]
end Mine
end
section
open PySem PySem.W PySem.Calls PyProof.Rows PySem.Spec
namespace Mine
theorem fresh_F10 : True := by
  w_top off
  run_tac do
    walkLines.set (0, {})
    walkStart.set 0
    walkLate.set false
  trivial
theorem noI_by : typeLookup (.type "bytes") (dunderI "add") = pure none := by
  show typeLookup (.type "bytes") "__iadd__" = pure none
  rw [typeLookup_type, builtinLookup_eq_fast]; kernel_rfl
section
variable {prog : Program} {w : World} {A : Around} {E : Value → Shared → Prop} {s : Shared} {b c : Array UInt8} {t u : Tok} {Q : Value → Shared → Prop}
theorem iadd_bytes (hsz : b.size + c.size ≤ 16777216) (h : ∀ t' k, Q (.bytes (b ++ c) t') { s with toks := k }) : wpAny (model prog w) A (inplaceOp .Add (.bytes b t) (.bytes c u)) Q E s := by
  refine iconcat_gives (typeIs_bytes s b t) (typeIs_bytes s c u) noI_by KBy.noFill_bytes_add KBy.seq_bytes_add FB.slot_bytes_add FB.entry_bytes_add (FB.args_bytes_add_2 _ _) (KBy.gives_bytes_add (KBy.tooLong_not hsz)) ?_
  by_cases hb : b.isEmpty = true
  · rw [if_pos hb]
    have e : b = #[] := Array.isEmpty_iff.1 hb
    have h' := h u s.toks
    rw [e, Array.empty_append] at h'
    exact h'
  · rw [if_neg hb]
    by_cases hc : c.isEmpty = true
    · rw [if_pos hc]
      have e : c = #[] := Array.isEmpty_iff.1 hc
      have h' := h t s.toks
      rw [e, Array.append_empty] at h'
      exact h'
    · rw [if_neg hc]
      exact ⟨by rw [Array.size_append, sizeLine_eq]; exact hsz, h s.toks (s.toks + 1)⟩
end
end Mine
end
section
open PySem PySem.W PySem.Calls PyProof.Rows PySem.Spec
namespace Mine
theorem fresh_G8b : True := by
  w_top off
  run_tac do
    walkLines.set (0, {})
    walkStart.set 0
    walkLate.set false
  trivial
abbrev inR (R : List (Addr × Obj)) : View := fun a o => (a, o) ∈ R
theorem inR_l {R R' : List (Addr × Obj)} : ∀ a o, inR R a o → inR (R ++ R') a o := fun _ _ h => List.mem_append_left _ h
theorem inR_r {R R' : List (Addr × Obj)} : ∀ a o, inR R' a o → inR (R ++ R') a o := fun _ _ h => List.mem_append_right _ h
mutual
theorem TIn.led {P : View} : ∀ (t : T) (v : Value), TIn P t v → ∃ R : List (Addr × Obj), (∀ p ∈ R, P p.1 p.2) ∧ TIn (inR R) t v
  | .leaf b, v, x => ⟨[], (fun p h => (nomatch h)), by simpa [TIn] using x⟩
  | .node ks, v, x => by
    simp only [TIn] at x
    obtain ⟨a, vs, n, e, p, q⟩ := x
    obtain ⟨R, h1, h2⟩ := TsIn.led ks vs q
    refine ⟨(a, W.listOf vs.toArray n) :: R, ?_, ?_⟩
    · intro p' hp
      rcases List.mem_cons.mp hp with rfl | hp
      · exact p
      · exact h1 _ hp
    · simp only [TIn]
      exact ⟨a, vs, n, e, List.mem_cons_self .., TsIn.mono (fun _ _ h => List.mem_cons_of_mem _ h) _ _ h2⟩
theorem TsIn.led {P : View} : ∀ (ts : List T) (vs : List Value), TsIn P ts vs → ∃ R : List (Addr × Obj), (∀ p ∈ R, P p.1 p.2) ∧ TsIn (inR R) ts vs
  | [], vs, x => ⟨[], (fun p h => (nomatch h)), by simpa [TsIn] using x⟩
  | k :: ks, vs, x => by
    simp only [TsIn] at x
    obtain ⟨v, vs', e, p, q⟩ := x
    obtain ⟨R1, h1, h2⟩ := TIn.led k v p
    obtain ⟨R2, h3, h4⟩ := TsIn.led ks vs' q
    refine ⟨R1 ++ R2, ?_, ?_⟩
    · intro p' hp
      rcases List.mem_append.mp hp with hp | hp
      · exact h1 _ hp
      · exact h3 _ hp
    · simp only [TsIn]
      exact ⟨v, vs', e, TIn.mono inR_l _ _ h2, TsIn.mono inR_r _ _ h4⟩
end
mutual
theorem PIn.led {P : View} : ∀ (t : T) (v : Value), PIn P t v → ∃ R : List (Addr × Obj), (∀ p ∈ R, P p.1 p.2) ∧ PIn (inR R) t v
  | .leaf b, v, x => by
    simp only [PIn] at x
    obtain ⟨a, bb, tok, n, e, p, q⟩ := x
    refine ⟨[(a, W.listOf #[.bytes bb tok] n)], ?_, ?_⟩
    · intro p' hp
      rw [List.mem_singleton.mp hp]; exact p
    · simp only [PIn]
      exact ⟨a, bb, tok, n, e, List.mem_cons_self .., q⟩
  | .node ks, v, x => by
    simp only [PIn] at x
    obtain ⟨a, bb, tok, vs, n, e, p, q, r⟩ := x
    obtain ⟨R, h1, h2⟩ := PsIn.led ks vs r
    refine ⟨(a, W.listOf (List.toArray (.bytes bb tok :: vs)) n) :: R, ?_, ?_⟩
    · intro p' hp
      rcases List.mem_cons.mp hp with rfl | hp
      · exact p
      · exact h1 _ hp
    · simp only [PIn]
      exact ⟨a, bb, tok, vs, n, e, List.mem_cons_self .., q, PsIn.mono (fun _ _ h => List.mem_cons_of_mem _ h) _ _ h2⟩
theorem PsIn.led {P : View} : ∀ (ts : List T) (vs : List Value), PsIn P ts vs → ∃ R : List (Addr × Obj), (∀ p ∈ R, P p.1 p.2) ∧ PsIn (inR R) ts vs
  | [], vs, x => ⟨[], (fun p h => (nomatch h)), by simpa [PsIn] using x⟩
  | k :: ks, vs, x => by
    simp only [PsIn] at x
    obtain ⟨v, vs', e, p, q⟩ := x
    obtain ⟨R1, h1, h2⟩ := PIn.led k v p
    obtain ⟨R2, h3, h4⟩ := PsIn.led ks vs' q
    refine ⟨R1 ++ R2, ?_, ?_⟩
    · intro p' hp
      rcases List.mem_append.mp hp with hp | hp
      · exact h1 _ hp
      · exact h3 _ hp
    · simp only [PsIn]
      exact ⟨v, vs', e, PIn.mono inR_l _ _ h2, PsIn.mono inR_r _ _ h4⟩
end
/-- a ledger made longer by what a call has made -/
theorem News.plus {g h h' : Heap} {L : Addr} {m : Str → Option Value} {news : List (Addr × Obj)} (F : Fr g L h m) (N : News g L h' news) : ∀ (R : List (Addr × Obj)), (∀ p ∈ R, fresh h h' p.1 p.2) → News g L h' (R ++ news)
  | [], _ => N
  | (a, o) :: R, hR => by
    have := hR _ (List.mem_cons_self ..)
    exact news_done F (News.plus F N R fun p hp => hR p (List.mem_cons_of_mem _ hp)) this.1 this.2
theorem News.sub {g h : Heap} {L : Addr} {news news' : List (Addr × Obj)} (N : News g L h news) (hs : ∀ p ∈ news', p ∈ news) : News g L h news' := fun p hp => N p (hs p hp)
theorem inR_fresh {s g h : Heap} {L : Addr} {news R : List (Addr × Obj)} (G : Ext s g) (N : News g L h news) (hs : ∀ p ∈ R, p ∈ news) : ∀ a o, inR R a o → fresh s h a o := fun a o hm => by
  have := N _ (hs _ hm)
  refine ⟨?_, this.1⟩
  cases e : s.get? a with
  | none => rfl
  | some o' => have := this.2.2; rw [G _ _ e] at this; cases this
end Mine
end
section
open PySem PySem.W PySem.Calls PyProof.Rows PySem.Spec
namespace Mine
theorem fresh_G11 : True := by
  w_top off
  run_tac do
    walkLines.set (0, {})
    walkStart.set 0
    walkLate.set false
  trivial
local macro_rules | `(tactic| walk_at "enter") => `(tactic| (refine' enter (by assumption) ?k6 ?k7 ?k9 ?kB ?_ ?c2 ?c3 ?c4 ?c5; (case k6 => k_is); (case k7 => k_is); (case k9 => exact BindsTo.of_eq rfl); (case c5 => decide); (case kB => exact locs rfl); (case c2 => exact rfl); (case c3 => exact rfl); (case c4 => exact rfl); k_whole; intro dp' un' gd' env' outer' base' g' h' L' p' loose' mean' mg' mb' hd' hu' F' N' B' X' T' G'; (try dsimp only); (try k_fold)))
local macro_rules | `(tactic| walk_at "room") => `(tactic| (refine Room.le (room_in (by assumption) (by assumption) (by assumption) (by assumption) (by assumption) (by assumption) (by rfl) (by rfl)) ?_))
local macro_rules | `(tactic| walk_at "subscriptTail") => `(tactic| ((with_reducible show wpAny _ _ (subscriptTail _ _ (Value.bytes _ _) (Value.int _ _)) _ _ _); (refine item_b (by omega) (by omega) (by omega) ?_ (by with_unfolding_all rfl) (by intro _; with_unfolding_all rfl))))
local macro_rules | `(tactic| walk_at "subscriptTail") => `(tactic| ((with_reducible show wpAny _ _ (subscriptTail _ _ (Value.ref 1450) (Value.int _ _)) _ _ _); (refine item_all (by assumption) (by assumption) (by omega) (by omega) ?_ (by with_unfolding_all rfl)); intro _))
local macro_rules | `(tactic| walk_at "binaryOp Add bytes bytes") => `(tactic| ((with_reducible show wpAny _ _ (binaryOp Operator.Add (Value.bytes _ _) (Value.bytes _ _)) _ _ _); (refine KBy.add_bytes (by first | omega | (simp; omega)) ?_); intro _ _))
local macro_rules | `(tactic| walk_at "eval ListComp") => `(tactic| (refine stop_ ?_))
local macro_rules | `(tactic| walk_at "call ref") => `(tactic| (refine stop_ ?_))
local macro_rules | `(tactic| walk_at "eval GeneratorExp") => `(tactic| (refine stop_ ?_))
local macro_rules | `(tactic| walk_at "call builtin:bytes.join") => `(tactic| (refine stop_ ?_))
local macro_rules | `(tactic| walk_at "getMethod bytes") => `(tactic| (refine method_join ?_))
local macro_rules | `(tactic| walk_at "call builtin:isinstance") => `(tactic| ((with_reducible show wpAny _ _ (call _ [Value.ref _, Value.ref _]) _ _ _); refine' kia_tup kitx_list ?X ?c ?p ?ee ?nb ?_; (case c => exact kitAt_F (by assumption) (by assumption)); (case X => k_in); (case p => kit_tp); (case ee => kit_is); (case nb => kit_nb); k_whole; intro _))

local macro_rules | `(tactic| walk_at "subscriptTail") => `(tactic| ((with_reducible show wpAny _ _ (subscriptTail _ _ (Value.bytes _ _) (Value.ref _)) _ _ _); (with_reducible rename Fr _ _ _ _ => F'); (with_reducible rename News _ _ _ _ => N'); (refine slice_b (s := ⟨_, _, _, _, _⟩) F' N' (by omega) (by omega) (by omega) ?_); intro _ _ _ _ _))


local macro_rules | `(tactic| walk_at "call builtin:list.append") => `(tactic| (k_dflt (refine' append_K ?k1 ?k2 ?k3 ?_ ?z; (case k1 => k_asm); (case k2 => k_asm); (case k3 => k_upd); (case z => (rw [List.size_toArray]; exact Nat.le_trans (by omega) (by decide : 100 ≤ sizeLine))); k_whole); intro _ _ _))
local macro_rules | `(tactic| walk_at "loadName") => `(tactic| (k_dflt (refine' wpAny_loadName_local ?a ?b (Fr.ns ?c) ?d ?_; (case a => rfl); (case b => rfl); (case c => k_asm); (case d => assumption)); k_whole))
local macro_rules | `(tactic| walk_at "inplaceOp Add bytes bytes") => `(tactic| ((refine iadd_bytes (by omega) ?_); intro _ _))
local macro_rules | `(tactic| k_all) => `(tactic| assumption)
local macro_rules | `(tactic| walk_at "exec While") => `(tactic| (refine stop_ ?_))
local macro_rules | `(tactic| walk_at "exec While Compare") => `(tactic| (refine stop_ ?_))
local macro_rules | `(tactic| walk_at "subscriptTail Name Constant ref int") => `(tactic| ((with_reducible show wpAny _ _ (subscriptTail _ _ (Value.ref _) (Value.int _ _)) _ _ _); k_dflt (refine' item_litK ?k1 ?k2 ?k3 ?k4 ?_ ?k6; (case k1 => is_list); (case k2 => decide); (case k3 => decide); (case k4 => rfl); (case k6 => with_unfolding_all rfl); k_whole)))
local macro_rules | `(tactic| walk_at "eval Name") => `(tactic| ((with_unfolding_all refine guard_local (by rfl) ?_); k_dflt (refine' ld ?k1 ?k2 ?_; (case k1 => k_asm); (case k2 => assumption); k_whole)))
theorem enc_pos (t : T) : 0 < t.enc.length := by
  have : ∀ off n, 0 < (pre off n).length := fun off n => by unfold pre; split <;> simp
  cases t with
  | node ks => rw [T.enc, List.length_append]; have := this 192 (T.encs ks).length; omega
  | leaf b =>
    rw [T.enc]
    split
    · have : b.toList.length = b.size := Array.length_toList ..
      omega
    · rw [List.length_append]; have := this 128 b.size; omega
theorem encs_at {ks : List T} {j : Nat} {t : T} (e : ks[j]? = some t) : T.encs ks = T.encs (ks.take j) ++ (t.enc ++ T.encs (ks.drop (j + 1))) ∧ T.encs (ks.take (j + 1)) = T.encs (ks.take j) ++ t.enc := by
  have h1 : ks = ks.take j ++ (t :: ks.drop (j + 1)) := by
    have hj : j < ks.length := by
      rcases Nat.lt_or_ge j ks.length with h | h
      · exact h
      · rw [List.getElem?_eq_none h] at e; cases e
    have : ks[j] = t := by rw [List.getElem?_eq_getElem hj] at e; exact Option.some.inj e
    rw [← this, List.drop_eq_getElem_cons hj |>.symm, List.take_append_drop]
  constructor
  · conv => lhs; rw [h1]
    rw [encs_append, T.encs]
  · rw [List.take_add_one, e, encs_append]
    simp [T.encs]
theorem PIn.head {P : View} : ∀ {t : T} {v : Value}, PIn P t v → ∃ a bb tok r n, v = .ref a ∧ P a (W.listOf (List.toArray (.bytes bb tok :: r)) n) ∧ bb.toList = t.enc
  | .leaf b, _, x => by
    simp only [PIn] at x
    obtain ⟨a, bb, tok, n, e, p, q⟩ := x
    exact ⟨a, bb, tok, [], n, e, p, q⟩
  | .node ks, _, x => by
    simp only [PIn] at x
    obtain ⟨a, bb, tok, vs, n, e, p, q, _⟩ := x
    exact ⟨a, bb, tok, vs, n, e, p, q⟩
theorem ne_of {h : Heap} {a b : Addr} {o : Obj} (e1 : h.get? a = none) (e2 : h.get? b = some o) : @Ne Nat a b := by
  rintro rfl
  rw [e1] at e2; cases e2
structure CpJ (d : Array UInt8) (td : Tok) (i : Nat) (ks : List T) (p0 : List UInt8) (te : Tok) (aI aP : Addr) (n : Nat) (m : Str → Option Value) (news : List (Addr × Obj)) (j : Nat) (vs ps : List Value) (n1 n2 : Nat) (lr : Array UInt8) (tlr tns : Tok) (R : List (Addr × Obj)) : Prop where
  le : j ≤ ks.length
  n : n = ks.length - j
  news : news = (aP, W.listOf ps.toArray n2) :: (aI, W.listOf vs.toArray n1) :: R
  rP : ∀ p ∈ R, p.1 ≠ aP
  rI : ∀ p ∈ R, p.1 ≠ aI
  m1 : m (Str.ofString "rlp") = some (.bytes d td)
  m2 : m (Str.ofString "items") = some (.ref aI)
  m3 : m (Str.ofString "per_item_rlp") = some (.ref aP)
  m4 : m (Str.ofString "list_rlp") = some (.bytes lr tlr)
  m5 : m (Str.ofString "next_item_start") = some (.int (i + (T.encs (ks.take j)).length : Nat) tns)
  m6 : m (Str.ofString "end") = some (.int (i + (T.encs ks).length : Nat) te)
  lr : lr.toList = p0 ++ T.encs (ks.take j)
  vs : TsIn (inR R) (ks.take j) vs
  ps : PsIn (inR R) (ks.take j) ps
theorem cp_node (ks : List T) (ih : ∀ t ∈ ks, CpSpec t) : CpSpec (.node ks) := by
  intro ok hlen w A s d i rest pb td tp ti tk tl Q E R hz hat hpb hret
  refine wpAny_call ?_
  have R' : Room w A s.heap (T.deps ks + 2 + 1) := R.le (by simp only [T.dep]; omega)
  have ok : ks.length ≤ 4 ∧ T.oks ks := by simpa only [T.ok] using ok
  rw [T.kind]
  rw [T.enc_eq, List.length_append] at hlen
  simp only [T.pay] at *
  walk_at "enter"
  rename_i dp un gd env outer base g h₁ L' p loose mean mg mb hdp hun F N B X Tp G
  k_steps
  show wpAny _ _ _ _ _ _
  rename Fr _ _ _ _ => F
  rename News _ _ _ _ => N
  obtain ⟨m₀, aI, aP, te, hIP, F, N, e1, e2, e3, e4, e5, e6⟩ : ∃ m₀ aI aP te, @Ne Nat aP aI ∧ Fr g L' _ m₀ ∧ News g L' _ [(aP, W.listOf #[] 0), (aI, W.listOf #[] 0)] ∧ m₀ (Str.ofString "rlp") = some (.bytes d td) ∧ m₀ (Str.ofString "items") = some (.ref aI) ∧
    m₀ (Str.ofString "per_item_rlp") = some (.ref aP) ∧ m₀ (Str.ofString "list_rlp") = some (.bytes pb tp) ∧ m₀ (Str.ofString "next_item_start") = some (.int (i : Int) ti) ∧ m₀ (Str.ofString "end") = some (.int ((i : Int) + (T.encs ks).length) te) :=
    ⟨_, _, _, _, (by omega), F, N, rfl, rfl, rfl, rfl, rfl, rfl⟩
  refine While_H (fun n h m news => ∃ j vs ps n1 n2 lr tlr tns R, CpJ d td i ks (T.node ks).hd te aI aP n m news j vs ps n1 n2 lr tlr tns R) (n₀ := ks.length) F N ?_ ?_
  · refine ⟨0, [], [], 0, 0, pb, tp, ti, [], Nat.zero_le _, rfl, rfl, (fun p h => (nomatch h)), (fun p h => (nomatch h)), e1, e2, e3, e4, ?_, ?_, ?_, ?_, ?_⟩
    · rw [e5]; simp [T.encs]
    · rw [e6]; simp
    · rw [hpb]; simp [T.encs]
    · simp [TsIn]
    · simp [PsIn]
  rintro n m₁ news₁ h₁ tk₁ F₁ N₁ ⟨j, vs, ps, n1, n2, lr, tlr, tns, Rl, hle, rfl, rfl, hrP, hrI, m1, m2, m3, m4, m5, m6, hlr, hvs, hps0⟩
  clear F N e1 e2 e3 e4 e5 e6
  rcases Nat.lt_or_ge j ks.length with hj | hj
  · obtain ⟨t, et⟩ : ∃ t, ks[j]? = some t := ⟨_, List.getElem?_eq_getElem hj⟩
    obtain ⟨ea, eb⟩ := encs_at et
    have tp0 := enc_pos t
    have el := congrArg List.length ea
    simp only [List.length_append] at el
    k_steps
    show wpAny _ _ _ _ _ _
    have hat2 : d.toList.drop (i + (T.encs (ks.take j)).length) = t.enc ++ (T.encs (ks.drop (j + 1)) ++ rest) := by
      rw [← List.drop_drop, hat, ea, List.append_assoc, List.drop_left, List.append_assoc]
    refine clp_spec t (by omega) w _ _ d _ _ hat2 hz _ _ _ _ (by walk_at "room"; omega) ?_
    intro h2 tk2 D1 t1 t2 t3 t4 pb1 hE1 hD1 hD1' hpb1
    unfold tupO at hD1'
    rw [← Int.natCast_add] at hD1'
    have n1P := ne_of hD1 (N₁ _ (List.mem_cons_self ..)).1
    have n1I := ne_of hD1 (N₁ _ (List.mem_cons_of_mem _ (List.mem_cons_self ..))).1
    have N2 := News.grown N₁ hE1
    have N₂ := news_done F₁ N2 hD1 hD1'
    have F₂ := F₁.keeps hE1
    clear N₁ F₁ N2
    k_steps
    show wpAny _ _ _ _ _ _
    rename Fr _ _ _ _ => F₃
    rename News _ _ _ _ => N₃
    refine ih t (List.mem_of_getElem? et) (T.oks_get ok.2 et) (by omega) w _ _ d _ (T.encs (ks.drop (j + 1)) ++ rest) pb1 _ _ _ _ _ _ _ (by walk_at "room"; have := T.dep_le et; omega) hz ?_ hpb1 ?_
    · rw [← List.drop_drop, hat2, T.enc_eq, List.append_assoc, List.drop_left]
    intro h4 tk4 D2 v pv t3 hE2 hD2 hD2' hv hpv
    unfold tupO at hD2'
    have gP := (N₃ _ (.tail _ (.head _))).1
    have gI := (N₃ _ (.tail _ (.tail _ (.head _)))).1
    have n2P := ne_of hD2 gP
    have n2I := ne_of hD2 gI
    obtain ⟨R1, hR1, hv1⟩ := TIn.led t v hv
    obtain ⟨R2, hR2, hp1⟩ := PIn.led t pv hpv
    obtain ⟨apv, bpv, tpv, rpv, npv, rfl, hph, hpb⟩ := PIn.head hp1
    have n3P := ne_of (hR2 _ hph).1 gP
    have n3I := ne_of (hR2 _ hph).1 gI
    have N4 := News.plus F₃ (News.plus F₃ (News.grown N₃ hE2) R2 hR2) R1 hR1
    have N5 := news_done F₃ N4 hD2 hD2'
    have F₄ := F₃.keeps hE2
    obtain ⟨R', hR', hv2, hp2, hrP', hrI'⟩ : ∃ R', R' = R1 ++ (R2 ++ Rl) ∧ TIn (inR R') t v ∧ PIn (inR R') t (.ref apv) ∧ (∀ p ∈ R', p.1 ≠ aP) ∧ (∀ p ∈ R', p.1 ≠ aI) := by
      refine ⟨_, rfl, TIn.mono inR_l _ _ hv1, PIn.mono (fun a o h => inR_r a o (inR_l a o h)) _ _ hp1, ?_, ?_⟩ <;> intro p hp <;>
        rcases List.mem_append.mp hp with hp | hp <;> try (rcases List.mem_append.mp hp with hp | hp)
      · exact ne_of (hR1 _ hp).1 gP
      · exact ne_of (hR2 _ hp).1 gP
      · exact hrP _ hp
      · exact ne_of (hR1 _ hp).1 gI
      · exact ne_of (hR2 _ hp).1 gI
      · exact hrI _ hp
    have hmem : ∀ p ∈ R', p ∈ R1 ++ (R2 ++ Rl) := fun p hp => hR' ▸ hp
    have hvs' : TsIn (inR R') (ks.take j) vs := TsIn.mono (fun a o h => by rw [hR']; exact inR_r a o (inR_r a o h)) _ _ hvs
    have hps' : PsIn (inR R') (ks.take j) ps := PsIn.mono (fun a o h => by rw [hR']; exact inR_r a o (inR_r a o h)) _ _ hps0
    have N₅ := News.sub (news' := (apv, W.listOf (List.toArray (.bytes bpv tpv :: rpv)) npv) :: (D2, _) :: (D1, _) :: (aP, W.listOf ps.toArray n2) :: (aI, W.listOf vs.toArray n1) :: R') N5 (by
      intro p hp
      rcases List.mem_cons.mp hp with rfl | hp
      · exact .tail _ (List.mem_append_right _ (List.mem_append_left _ hph))
      rcases List.mem_cons.mp hp with rfl | hp
      · exact .head _
      refine .tail _ ?_
      rcases List.mem_cons.mp hp with rfl | hp
      · exact List.mem_append_right _ (List.mem_append_right _ (.head _))
      rcases List.mem_cons.mp hp with rfl | hp
      · exact List.mem_append_right _ (List.mem_append_right _ (.tail _ (.head _)))
      rcases List.mem_cons.mp hp with rfl | hp
      · exact List.mem_append_right _ (List.mem_append_right _ (.tail _ (.tail _ (.head _))))
      rcases List.mem_append.mp (hmem _ hp) with hp | hp
      · exact List.mem_append_left _ hp
      rcases List.mem_append.mp hp with hp | hp
      · exact List.mem_append_right _ (List.mem_append_left _ hp)
      · exact List.mem_append_right _ (List.mem_append_right _ (.tail _ (.tail _ (.tail _ hp)))))
    clear hmem hR' N4 N5 N₃ hR1 hR2 hv1 hp1 hrP hrI
    have hls : lr.size < 65536 := by rw [← Array.length_toList, hlr, List.length_append]; omega
    have hps : bpv.size < 65536 := by rw [← Array.length_toList, hpb]; omega
    have hvl := hvs.length
    have hpl := hps0.length
    rw [List.length_take] at hvl hpl
    k_steps
    rename Fr _ _ _ _ => F₆
    rename News _ _ _ _ => N₆
    have q1 : (ps ++ [Value.ref apv]).toArray = ps.toArray.push (.ref apv) := by simp
    have q2 : (vs ++ [v]).toArray = vs.toArray.push v := by simp
    have htk : ks.take (j + 1) = ks.take j ++ [t] := by rw [List.take_add_one, et]; rfl
    have hval : ((i + (T.encs (ks.take j)).length + t.hd.length : Nat) : Int) + (t.pay.length : Int) = ((i + (T.encs (ks.take (j + 1))).length : Nat) : Int) := by
      rw [eb, List.length_append, T.enc_eq, List.length_append]; omega
    obtain ⟨m₂, tl', F₇, o1, o2, o3, o4, o5, o6⟩ : ∃ m₂ tl', Fr g L' _ m₂ ∧ m₂ (Str.ofString "rlp") = some (.bytes d td) ∧ m₂ (Str.ofString "items") = some (.ref aI) ∧ m₂ (Str.ofString "per_item_rlp") = some (.ref aP) ∧
        m₂ (Str.ofString "list_rlp") = some (.bytes (lr ++ bpv) tl') ∧ m₂ (Str.ofString "next_item_start") = some (.int ((i + (T.encs (ks.take (j + 1))).length : Nat) : Int) t3) ∧ m₂ (Str.ofString "end") = some (.int (i + (T.encs ks).length : Nat) te) :=
      ⟨_, _, F₆, m1, m2, m3, rfl, (show some (Value.int _ t3) = _ from congrArg (fun z => some (Value.int z t3)) hval), m6⟩
    clear F₆
    refine' WhileH.intro (n' := ks.length - (j + 1)) (news₂ := (aP, W.listOf (ps ++ [Value.ref apv]).toArray (n2 + 1)) :: (aI, W.listOf (vs ++ [v]).toArray (n1 + 1)) :: R') F₇ (News.sub N₆ ?sub) ?lt ⟨j + 1, vs ++ [v], ps ++ [.ref apv], n1 + 1, n2 + 1, lr ++ bpv, tl', t3, R', ?J⟩
    case sub =>
      rw [q1, q2]
      intro p hp
      rcases List.mem_cons.mp hp with rfl | hp
      · k_mem
      rcases List.mem_cons.mp hp with rfl | hp
      · k_mem
      repeat (first | exact hp | refine List.mem_cons_of_mem _ ?_)
    case J =>
      exact {
        le := by omega
        n := rfl
        news := rfl
        rP := hrP'
        rI := hrI'
        m1 := o1
        m2 := o2
        m3 := o3
        m4 := o4
        m5 := o5
        m6 := o6
        lr := by rw [Array.toList_append, hlr, hpb, eb, List.append_assoc]
        vs := htk ▸ hvs'.snoc hv2
        ps := htk ▸ hps'.snoc hp2 }
    case lt => omega
  · obtain rfl : j = ks.length := by omega
    rw [List.take_length] at hvs hps0 hlr m5
    k_steps
    refine' kl_insert (its := ps.toArray) (n := n2) (l := .bytes lr tlr :: ps) ?kF ?kN rfl ?ke ?kU ?kz ?_
    (case kF => k_asm)
    (case kN => k_asm)
    (case ke => simp [kl_ins])
    (case kU => k_upd)
    (case kz => simp [hps0.length]; exact Nat.le_trans ok.1 (by decide))
    intro h5 F₅ N₅
    k_steps
    show Leave0 g L' _ _ _
    rename News _ _ _ _ => N₆
    have hN := N₆ _ (List.mem_cons_self ..)
    refine leave0_ (by assumption) G ?_
    intro hE
    refine hret _ _ _ (.ref aI) (.ref aP) tns hE (none_of G hN.2.2) ?tup ?T ?P
    case tup => rw [← Int.natCast_add]; exact hN.1
    case T =>
      simp only [TIn]
      refine ⟨aI, vs, n1, rfl, inR_fresh (R := [(aI, W.listOf vs.toArray n1)]) G N₆ ?_ _ _ (.head _), TsIn.mono (inR_fresh G N₆ ?_) _ _ hvs⟩
      · intro p hp; rw [List.mem_singleton.mp hp]; k_mem
      · intro p hp; repeat (first | exact hp | refine List.mem_cons_of_mem _ ?_)
    case P =>
      simp only [PIn]
      refine ⟨aP, lr, tlr, ps, n2 + 1, rfl, inR_fresh (R := [(aP, W.listOf (List.toArray (.bytes lr tlr :: ps)) (n2 + 1))]) G N₆ ?_ _ _ (.head _), ?_, PsIn.mono (inR_fresh G N₆ ?_) _ _ hps0⟩
      · intro p hp; rw [List.mem_singleton.mp hp]; k_mem
      · rw [hlr, T.enc_eq, T.pay]
      · intro p hp; repeat (first | exact hp | refine List.mem_cons_of_mem _ ?_)
end Mine
end
section
open PySem PySem.W PySem.Calls PyProof.Rows PySem.Spec
namespace Mine
theorem fresh_G12 : True := by
  w_top off
  run_tac do
    walkLines.set (0, {})
    walkStart.set 0
    walkLate.set false
  trivial
local macro_rules | `(tactic| walk_at "enter") => `(tactic| (refine' enter (by assumption) ?k6 ?k7 ?k9 ?kB ?_ ?c2 ?c3 ?c4 ?c5; (case k6 => k_is); (case k7 => k_is); (case k9 => exact BindsTo.of_eq rfl); (case c5 => decide); (case kB => exact locs rfl); (case c2 => exact rfl); (case c3 => exact rfl); (case c4 => exact rfl); k_whole; intro dp' un' gd' env' outer' base' g' h' L' p' loose' mean' mg' mb' hd' hu' F' N' B' X' T' G'; (try dsimp only); (try k_fold)))
local macro_rules | `(tactic| walk_at "room") => `(tactic| (refine Room.le (room_in (by assumption) (by assumption) (by assumption) (by assumption) (by assumption) (by assumption) (by rfl) (by rfl)) ?_))
local macro_rules | `(tactic| walk_at "subscriptTail") => `(tactic| ((with_reducible show wpAny _ _ (subscriptTail _ _ (Value.bytes _ _) (Value.int _ _)) _ _ _); (refine item_b (by omega) (by omega) (by omega) ?_ (by with_unfolding_all rfl) (by intro _; with_unfolding_all rfl))))
local macro_rules | `(tactic| walk_at "subscriptTail") => `(tactic| ((with_reducible show wpAny _ _ (subscriptTail _ _ (Value.ref 1450) (Value.int _ _)) _ _ _); (refine item_all (by assumption) (by assumption) (by omega) (by omega) ?_ (by with_unfolding_all rfl)); intro _))
local macro_rules | `(tactic| walk_at "binaryOp Add bytes bytes") => `(tactic| ((with_reducible show wpAny _ _ (binaryOp Operator.Add (Value.bytes _ _) (Value.bytes _ _)) _ _ _); (refine KBy.add_bytes (by first | omega | (simp; omega)) ?_); intro _ _))
local macro_rules | `(tactic| walk_at "eval ListComp") => `(tactic| (refine stop_ ?_))
local macro_rules | `(tactic| walk_at "call ref") => `(tactic| (refine stop_ ?_))
local macro_rules | `(tactic| walk_at "eval GeneratorExp") => `(tactic| (refine stop_ ?_))
local macro_rules | `(tactic| walk_at "call builtin:bytes.join") => `(tactic| (refine stop_ ?_))
local macro_rules | `(tactic| walk_at "getMethod bytes") => `(tactic| (refine method_join ?_))
local macro_rules | `(tactic| walk_at "call builtin:isinstance") => `(tactic| ((with_reducible show wpAny _ _ (call _ [Value.ref _, Value.ref _]) _ _ _); refine' kia_tup kitx_list ?X ?c ?p ?ee ?nb ?_; (case c => exact kitAt_F (by assumption) (by assumption)); (case X => k_in); (case p => kit_tp); (case ee => kit_is); (case nb => kit_nb); k_whole; intro _))

local macro_rules | `(tactic| walk_at "subscriptTail") => `(tactic| ((with_reducible show wpAny _ _ (subscriptTail _ _ (Value.bytes _ _) (Value.ref _)) _ _ _); (with_reducible rename Fr _ _ _ _ => F'); (with_reducible rename News _ _ _ _ => N'); (refine slice_b (s := ⟨_, _, _, _, _⟩) F' N' (by omega) (by omega) (by omega) ?_); intro _ _ _ _ _))


theorem cp_specN : ∀ (n : Nat) (t : T), t.dep ≤ n → CpSpec t := by
  intro n
  induction n with
  | zero => intro t h; cases t <;> simp only [T.dep] at h <;> omega
  | succ n ih =>
    intro t h
    cases t with
    | leaf b => exact cp_leaf b
    | node ks =>
      refine cp_node ks fun t ht => ?_
      obtain ⟨i, hi, e⟩ := List.getElem_of_mem ht
      have := T.dep_le (ts := ks) (i := i) (t := t) (by rw [List.getElem?_eq_getElem hi, e])
      exact ih t (by simp only [T.dep] at h; omega)
theorem cp_spec (t : T) : CpSpec t := cp_specN _ t (Nat.le_refl _)
/-- consume_item at the place of an item: the item, its octets and all below, and the end -/
theorem ci_spec (t : T) (ok : t.ok) (hlen : t.enc.length < 65536) (w : World) (A : Around) (s : Shared) (d : Array UInt8) (i : Nat) (rest : List UInt8) (hat : d.toList.drop i = t.enc ++ rest) (hz : d.size ≤ 16777216) (td ti : Tok) (Q E : Value → Shared → Prop) (R : Room w A s.heap (t.dep + 3))
    (hret : ∀ h' tk' D v pv t3, Ext s.heap h' → s.heap.get? D = none → h'.get? D = some (tupO #[v, pv, .int ((i + t.enc.length : Nat) : Int) t3]) → TIn (fresh s.heap h') t v → PIn (fresh s.heap h') t pv → Q (.ref D) { s with heap := h', toks := tk' }) :
    wpAny (model prog w) A (call (.ref 1736) [.bytes d td, .int (i : Int) ti]) Q E s := by
  refine wpAny_call ?_
  have R' : Room w A s.heap (t.dep + 2 + 1) := R
  walk_at "enter"
  rename_i dp un gd env outer base g h₁ L' p loose mean mg mb hdp hun F N B X Tp G
  k_steps
  show wpAny _ _ _ _ _ _
  refine clp_spec t hlen w _ _ d _ _ hat hz _ _ _ _ (by walk_at "room"; omega) ?_
  intro h2 tk2 D1 t1 t2 t3 t4 pb1 hE1 hD1 hD1' hpb1
  unfold tupO at hD1'
  rw [← Int.natCast_add] at hD1'
  rename Fr _ _ _ _ => F₁
  rename News _ _ _ _ => N₁
  have N2 := News.grown N₁ hE1
  have N₂ := news_done F₁ N2 hD1 hD1'
  have F₂ := F₁.keeps hE1
  clear N₁ F₁ N2
  k_steps
  show wpAny _ _ _ _ _ _
  rename Fr _ _ _ _ => F₃
  rename News _ _ _ _ => N₃
  refine cp_spec t ok hlen w _ _ d _ rest pb1 _ _ _ _ _ _ _ (by walk_at "room"; omega) hz ?_ hpb1 ?_
  · rw [← List.drop_drop, hat, T.enc_eq, List.append_assoc, List.drop_left]
  intro h4 tk4 D2 v pv t5 hE2 hD2 hD2' hv hpv
  have F₄ := F₃.keeps hE2
  have N4 := News.grown N₃ hE2
  have N₄ := news_done F₃ N4 hD2 hD2'
  clear N4 N₃
  k_steps
  show Leave0 g L' _ _ _
  have hfr : ∀ a o, fresh _ h4 a o → fresh s.heap h4 a o := fun a o h => ⟨none_of G (none_of F₃.keep h.1), h.2⟩
  have hval : ((i + t.hd.length : Nat) : Int) + (t.pay.length : Int) = ((i + t.enc.length : Nat) : Int) := by
    rw [T.enc_eq, List.length_append]; omega
  rw [hval] at hD2'
  refine leave0_ (by assumption) G ?_
  intro hE
  exact hret _ _ _ v pv t5 hE (none_of G (none_of F₃.keep hD2)) hD2' (TIn.mono hfr _ _ hv) (PIn.mono hfr _ _ hpv)
end Mine
end
section
open PySem PySem.W PySem.Calls PyProof.Rows PySem.Spec
namespace Mine
theorem fresh_H1 : True := by
  w_top off
  run_tac do
    walkLines.set (0, {})
    walkStart.set 0
    walkLate.set false
  trivial
def T.kids : T → List T
  | .leaf _ => []
  | .node ks => ks
mutual
/-- the map of an item whose head stands at i -/
def PlIn (P : View) : T → Nat → Value → Prop
  | .leaf b, i, v => ∃ a tv t1 t2 t3 l n, v = .ref a ∧ P a (tupO #[tv, .int (i : Nat) t1, .int ((i + (T.leaf b).hd.length : Nat) : Int) t2, .int ((i + (T.leaf b).enc.length : Nat) : Int) t3, .ref l]) ∧ TIn P (.leaf b) tv ∧ P l (W.listOf #[] n)
  | .node ks, i, v => ∃ a tv t1 t2 t3 l n kvs, v = .ref a ∧ P a (tupO #[tv, .int (i : Nat) t1, .int ((i + (T.node ks).hd.length : Nat) : Int) t2, .int ((i + (T.node ks).enc.length : Nat) : Int) t3, .ref l]) ∧ TIn P (.node ks) tv ∧ P l (W.listOf (List.toArray kvs) n) ∧
      PlsIn P ks (i + (T.node ks).hd.length) kvs
def PlsIn (P : View) : List T → Nat → List Value → Prop
  | [], _, vs => vs = []
  | k :: ks, i, vs => ∃ v vs', vs = v :: vs' ∧ PlIn P k i v ∧ PlsIn P ks (i + k.enc.length) vs'
end
theorem be_pre (off n : Nat) : (pre off n).length = if n < 56 then 1 else if n < 256 then 2 else 3 := by
  unfold pre
  split
  · rfl
  · have := be_len n
    simp only [List.length_cons]
    split at this <;> split <;> omega
mutual
theorem size_enc : ∀ (t : T), t.enc.length < 65536 → t.size = t.enc.length ∧ t.body = t.pay.length
  | .leaf b, h => by
    have hb : b.toList.length = b.size := Array.length_toList ..
    refine ⟨?_, by rw [T.body, T.pay, hb]⟩
    rw [T.size, T.enc]
    by_cases hs : b.size = 1 ∧ (b.toList.getD 0 0).toNat < 128
    · rw [if_pos hs, if_pos hs, hb]; omega
    · rw [if_neg hs, if_neg hs, List.length_append, be_pre, hb]
      split <;> (try split) <;> omega
  | .node ks, h => by
    have hl : (T.encs ks).length < 65536 := by rw [T.enc, List.length_append] at h; omega
    have hs := sum_enc ks hl
    refine ⟨?_, by rw [T.body, T.pay, hs]⟩
    rw [T.size, T.enc, List.length_append, be_pre, hs]
    split <;> (try split) <;> omega
theorem sum_enc : ∀ (ks : List T), (T.encs ks).length < 65536 → T.sum ks = (T.encs ks).length
  | [], _ => by simp [T.sum, T.encs]
  | k :: ks, h => by
    rw [T.encs, List.length_append] at h ⊢
    rw [T.sum, (size_enc k (by omega)).1, sum_enc ks (by omega)]
end
mutual
theorem PlIn.mono {P P' : View} (h : ∀ a o, P a o → P' a o) : ∀ (t : T) (i : Nat) (v : Value), PlIn P t i v → PlIn P' t i v
  | .leaf b, i, v, x => by
    simp only [PlIn] at x ⊢
    obtain ⟨a, tv, t1, t2, t3, l, n, e, p, q, r⟩ := x
    exact ⟨a, tv, t1, t2, t3, l, n, e, h _ _ p, TIn.mono h _ _ q, h _ _ r⟩
  | .node ks, i, v, x => by
    simp only [PlIn] at x ⊢
    obtain ⟨a, tv, t1, t2, t3, l, n, kvs, e, p, q, r, z⟩ := x
    exact ⟨a, tv, t1, t2, t3, l, n, kvs, e, h _ _ p, TIn.mono h _ _ q, h _ _ r, PlsIn.mono h ks _ kvs z⟩
theorem PlsIn.mono {P P' : View} (h : ∀ a o, P a o → P' a o) : ∀ (ts : List T) (i : Nat) (vs : List Value), PlsIn P ts i vs → PlsIn P' ts i vs
  | [], _, _, x => by simpa [PlsIn] using x
  | k :: ks, i, vs, x => by
    simp only [PlsIn] at x ⊢
    obtain ⟨v, vs', e, p, q⟩ := x
    exact ⟨v, vs', e, PlIn.mono h k i v p, PlsIn.mono h ks _ vs' q⟩
end
theorem PlIn.tup {P : View} {t : T} {i : Nat} {v : Value} (x : PlIn P t i v) : ∃ a tv t1 t2 t3 l n kvs, v = .ref a ∧ P a (tupO #[tv, .int (i : Nat) t1, .int ((i + t.hd.length : Nat) : Int) t2, .int ((i + t.enc.length : Nat) : Int) t3, .ref l]) ∧ TIn P t tv ∧ P l (W.listOf (List.toArray kvs) n) ∧
    PlsIn P t.kids (i + t.hd.length) kvs := by
  cases t with
  | leaf b =>
    simp only [PlIn] at x
    obtain ⟨a, tv, t1, t2, t3, l, n, e, p, q, r⟩ := x
    exact ⟨a, tv, t1, t2, t3, l, n, [], e, p, q, r, by simp [T.kids, PlsIn]⟩
  | node ks =>
    simp only [PlIn] at x
    exact x
theorem PlsIn.length {P : View} : ∀ {ts : List T} {i : Nat} {vs : List Value}, PlsIn P ts i vs → vs.length = ts.length
  | [], _, _, x => by simp only [PlsIn] at x; subst x; rfl
  | _ :: _, _, _, x => by
    simp only [PlsIn] at x
    obtain ⟨v, vs', e, _, q⟩ := x
    subst e
    simp [q.length]
theorem PlsIn.get {P : View} : ∀ {ts : List T} {i j : Nat} {vs : List Value} {v : Value}, PlsIn P ts i vs → vs[j]? = some v → ∃ t, ts[j]? = some t ∧ PlIn P t (i + (T.encs (ts.take j)).length) v
  | [], _, _, _, _, x, e => by simp only [PlsIn] at x; subst x; simp at e
  | k :: ks, i, j, _, _, x, e => by
    simp only [PlsIn] at x
    obtain ⟨v', vs', e', p, q⟩ := x
    subst e'
    cases j with
    | zero => simp at e; subst e; exact ⟨k, rfl, by simpa [T.encs] using p⟩
    | succ j =>
      obtain ⟨t, h1, h2⟩ := q.get (j := j) (by simpa using e)
      refine ⟨t, by simpa using h1, ?_⟩
      rw [List.take_succ_cons, T.encs, List.length_append, ← Nat.add_assoc]
      exact h2
theorem PlsIn.snoc {P : View} : ∀ {ts : List T} {i : Nat} {vs : List Value} {t : T} {v : Value}, PlsIn P ts i vs → PlIn P t (i + (T.encs ts).length) v → PlsIn P (ts ++ [t]) i (vs ++ [v])
  | [], i, _, t, v, x, y => by
    simp only [PlsIn] at x; subst x
    simp only [T.encs, List.length_nil, Nat.add_zero] at y
    exact ⟨v, [], rfl, y, rfl⟩
  | k :: ks, i, _, t, v, x, y => by
    simp only [PlsIn] at x
    obtain ⟨v', vs', e, p, q⟩ := x
    subst e
    refine ⟨v', vs' ++ [v], rfl, p, q.snoc ?_⟩
    rw [T.encs, List.length_append, ← Nat.add_assoc] at y
    exact y
mutual
theorem PlIn.led {P : View} : ∀ (t : T) (i : Nat) (v : Value), PlIn P t i v → ∃ R : List (Addr × Obj), (∀ p ∈ R, P p.1 p.2) ∧ PlIn (inR R) t i v
  | .leaf b, i, v, x => by
    simp only [PlIn] at x
    obtain ⟨a, tv, t1, t2, t3, l, n, e, p, q, r⟩ := x
    obtain ⟨R1, h1, h2⟩ := TIn.led _ _ q
    refine ⟨(a, tupO #[tv, .int (i : Nat) t1, .int ((i + (T.leaf b).hd.length : Nat) : Int) t2, .int ((i + (T.leaf b).enc.length : Nat) : Int) t3, .ref l]) :: (l, W.listOf #[] n) :: R1, ?_, ?_⟩
    · intro p' hp
      rcases List.mem_cons.mp hp with rfl | hp
      · exact p
      rcases List.mem_cons.mp hp with rfl | hp
      · exact r
      · exact h1 _ hp
    · simp only [PlIn]
      exact ⟨a, tv, t1, t2, t3, l, n, e, .head _, TIn.mono (fun _ _ h => .tail _ (.tail _ h)) _ _ h2, .tail _ (.head _)⟩
  | .node ks, i, v, x => by
    simp only [PlIn] at x
    obtain ⟨a, tv, t1, t2, t3, l, n, kvs, e, p, q, r, z⟩ := x
    obtain ⟨R1, h1, h2⟩ := TIn.led _ _ q
    obtain ⟨R2, h3, h4⟩ := PlsIn.led ks _ _ z
    refine ⟨(a, tupO #[tv, .int (i : Nat) t1, .int ((i + (T.node ks).hd.length : Nat) : Int) t2, .int ((i + (T.node ks).enc.length : Nat) : Int) t3, .ref l]) :: (l, W.listOf (List.toArray kvs) n) :: (R1 ++ R2), ?_, ?_⟩
    · intro p' hp
      rcases List.mem_cons.mp hp with rfl | hp
      · exact p
      rcases List.mem_cons.mp hp with rfl | hp
      · exact r
      rcases List.mem_append.mp hp with hp | hp
      · exact h1 _ hp
      · exact h3 _ hp
    · simp only [PlIn]
      exact ⟨a, tv, t1, t2, t3, l, n, kvs, e, .head _, TIn.mono (fun _ _ h => .tail _ (.tail _ (List.mem_append_left _ h))) _ _ h2, .tail _ (.head _), PlsIn.mono (fun _ _ h => .tail _ (.tail _ (List.mem_append_right _ h))) _ _ _ h4⟩
theorem PlsIn.led {P : View} : ∀ (ts : List T) (i : Nat) (vs : List Value), PlsIn P ts i vs → ∃ R : List (Addr × Obj), (∀ p ∈ R, P p.1 p.2) ∧ PlsIn (inR R) ts i vs
  | [], _, vs, x => ⟨[], (fun p h => (nomatch h)), by simpa [PlsIn] using x⟩
  | k :: ks, i, vs, x => by
    simp only [PlsIn] at x
    obtain ⟨v, vs', e, p, q⟩ := x
    obtain ⟨R1, h1, h2⟩ := PlIn.led k i v p
    obtain ⟨R2, h3, h4⟩ := PlsIn.led ks _ vs' q
    refine ⟨R1 ++ R2, ?_, ?_⟩
    · intro p' hp
      rcases List.mem_append.mp hp with hp | hp
      · exact h1 _ hp
      · exact h3 _ hp
    · simp only [PlsIn]
      exact ⟨v, vs', e, PlIn.mono inR_l _ _ _ h2, PlsIn.mono inR_r _ _ _ h4⟩
end
end Mine
end
section
open PySem PySem.W PySem.Calls PyProof.Rows PySem.Spec
namespace Mine
theorem fresh_F11 : True := by
  w_top off
  run_tac do
    walkLines.set (0, {})
    walkStart.set 0
    walkLate.set false
  trivial
def ForH (h₀ : Heap) (L : Addr) (s : Shared) (own : List (Addr × Obj)) (Jn : (Str → Option Value) → List (Addr × Obj) → Prop) (Q : Flow → Shared → Prop) (f : Flow) (s₃ : Shared) : Prop :=
  match f with
  | .next | .cont => ∃ h' tk m₂ news₂, s₃ = { s with heap := h', toks := tk } ∧ Fr h₀ L h' m₂ ∧ News h₀ L h' (news₂ ++ own) ∧ (∀ p ∈ own, ∀ q ∈ news₂, q.1 ≠ p.1) ∧ Jn m₂ news₂
  | .brk => Q .next s₃
  | .ret v => Q (.ret v) s₃
section
variable {prog : Program} {w : World} {A : Around} {E : Value → Shared → Prop} {Q : Flow → Shared → Prop} {s : Shared} {env : Env} {h₀ : Heap}
theorem For_H {x : Str} {px pos : Pos} {iter : Expr} {body : List Stmt} {m : Str → Option Value} {news : List (Addr × Obj)} {a : Addr} {vs : List Value} (hh : A.handled = none) (hx : env.kindOf x = some .local)
    (hp : (env.scope.kind == .class || (env.scope.kind == .module && env.locals != env.globals)) = false)
    (F : Fr h₀ env.locals s.heap m) (N : News h₀ env.locals s.heap news) (hl : h₀.IsList a vs.toArray) (hnl : h₀.NoLimit) (J : Nat → (Str → Option Value) → List (Addr × Obj) → Prop) (h0 : J 0 m news)
    (hit : ∀ Q', Q' (.ref a) s → wpAny (model prog w) A (eval iter env) Q' E s)
    (step : ∀ i v m₁ news₁ own h tk, vs[i]? = some v → J i m₁ news₁ → (∀ p ∈ own, ∀ q ∈ news₁, q.1 ≠ p.1) → Fr h₀ env.locals h (fun y => if y = x then some v else m₁ y) → News h₀ env.locals h (news₁ ++ own) →
      wpAny (model prog w) A (execs body env) (ForH h₀ env.locals s own (J (i + 1)) Q) E { s with heap := h, toks := tk })
    (hQ : ∀ h' tk m' news', Fr h₀ env.locals h' m' → News h₀ env.locals h' news' → J vs.length m' news' → Q .next { s with heap := h', toks := tk })
    (hs : ∀ x, foldedSetIterable iter env x = pure x := by intro _; rfl)
    (hE : PassesOwn (model prog w) A env E := by passes_own) :
    wpAny (model prog w) A (exec (.For (.Name x px) iter body [] pos) env) Q E s := by
  refine For_invV h₀ hx hp (hit _ ?_) hs hE
  obtain ⟨oa, hoa, _⟩ := id hl
  have hoa' := F.keep _ _ hoa
  have hlt : a < s.heap.objs.size := Heap.lt_size hoa'
  have hls : s.heap.IsList a vs.toArray := hl.at fun o e => F.keep _ _ e
  refine wpAny_pyIter_list hls ?_
  have hg0 : h₀.get? s.heap.objs.size = none := by
    cases e : h₀.get? s.heap.objs.size with
    | none => rfl
    | some o => exact absurd (Heap.lt_size (F.keep _ _ e)) (Nat.lt_irrefl _)
  have hW := Walks.list (prog := prog) (w := w) (A := A) hh s.heap.objs.size a (Nat.ne_of_lt hlt) vs.toArray
  refine ⟨s.heap.objs.size, _, _, _, _, _, m, news, J, rfl, hW, ?_, ?_, ?_, ?_, F.push _, News.pushKeep N _, h0, ?_, ?_⟩
  · intro hm
    rcases List.mem_cons.mp hm with hm | hm
    · have := F.ns.lt; rw [hm] at this; exact Nat.lt_irrefl _ this
    · have l1 := Heap.lt_size hoa
      rw [← List.mem_singleton.mp hm] at l1
      exact Nat.lt_irrefl _ (Nat.lt_of_lt_of_le l1 F.above)
  · intro b hb; rw [List.mem_singleton.mp hb]; exact hg0
  · intro p hp hm
    have l := Heap.lt_size (N p hp).1
    rw [List.mem_singleton.mp hm] at l
    exact Nat.lt_irrefl _ l
  · exact ⟨⟨_, Heap.get?_push_size _ rfl, rfl, rfl⟩, hls.push _⟩
  · rintro i v m₁ news₁ s₁ own ⟨h, tk, rfl⟩ hi hP hJ hnw hown hown2 hown3 hst F₁ N₁
    have hIo : ∀ p ∈ own, p.1 = s.heap.objs.size := fun p hp => by
      rcases List.mem_cons.mp (hown p hp) with q | q
      · exact q
      · have q := List.mem_singleton.mp q
        have := (N₁ p (List.mem_append_left _ hp)).2.2
        rw [q, hoa] at this; cases this
    refine wpAny_mono (step i v m₁ news₁ own h tk (by simpa using hP) hJ (fun p hp q hq e => hnw q hq (by rw [e, hIo p hp]; exact List.mem_singleton_self _)) F₁ (fun p hp => N₁ p ?_)) (fun f s₃ h₃ => ?_) fun _ _ e => e
    · rcases List.mem_append.mp hp with hp | hp
      · exact List.mem_append_right _ hp
      · exact List.mem_append_left _ hp
    · have fin : (∃ h' tk m₂ news₂, s₃ = { s with heap := h', toks := tk } ∧ Fr h₀ env.locals h' m₂ ∧ News h₀ env.locals h' (news₂ ++ own) ∧ (∀ p ∈ own, ∀ q ∈ news₂, q.1 ≠ p.1) ∧ J (i + 1) m₂ news₂) →
          LoopStepU h₀ env.locals [s.heap.objs.size] own (J (i + 1)) { heap := h, gens := s.gens, drawn := s.drawn, toks := tk, os := s.os } .next s₃ := by
        rintro ⟨h', tk', m₂, news₂, rfl, F₂, N₂, hd, hJ₂⟩
        obtain ⟨oI, hoI, _⟩ := hst.1
        have hIm := hown3 s.heap.objs.size (List.mem_cons_self ..) hg0 oI hoI
        refine ⟨rfl, h', tk', m₂, news₂, rfl, F₂, fun p hp => N₂ p ?_, fun q hq hm => ?_, hJ₂⟩
        · rcases List.mem_append.mp hp with hp | hp
          · exact List.mem_append_right _ hp
          · exact List.mem_append_left _ hp
        · exact hd _ hIm q hq (List.mem_singleton.mp hm)
      cases f with
      | next => exact fin h₃
      | cont => exact fin h₃
      | brk => exact h₃
      | ret v => exact h₃
  · intro h' tk m' news' F' N' _ hJ
    exact hQ h' tk m' news' F' N' (by simpa using hJ)
end
end Mine
end
section
open PySem PySem.W PySem.Calls PyProof.Rows PySem.Spec
namespace Mine
theorem fresh_H2 : True := by
  w_top off
  run_tac do
    walkLines.set (0, {})
    walkStart.set 0
    walkLate.set false
  trivial
local macro_rules | `(tactic| walk_at "enter") => `(tactic| (refine' enter (by assumption) ?k6 ?k7 ?k9 ?kB ?_ ?c2 ?c3 ?c4 ?c5; (case k6 => k_is); (case k7 => k_is); (case k9 => exact BindsTo.of_eq rfl); (case c5 => decide); (case kB => exact locs rfl); (case c2 => exact rfl); (case c3 => exact rfl); (case c4 => exact rfl); k_whole; intro dp' un' gd' env' outer' base' g' h' L' p' loose' mean' mg' mb' hd' hu' F' N' B' X' T' G'; (try dsimp only); (try k_fold)))
local macro_rules | `(tactic| walk_at "room") => `(tactic| (refine Room.le (room_in (by assumption) (by assumption) (by assumption) (by assumption) (by assumption) (by assumption) (by rfl) (by rfl)) ?_))
local macro_rules | `(tactic| walk_at "subscriptTail") => `(tactic| ((with_reducible show wpAny _ _ (subscriptTail _ _ (Value.bytes _ _) (Value.int _ _)) _ _ _); (refine item_b (by omega) (by omega) (by omega) ?_ (by with_unfolding_all rfl) (by intro _; with_unfolding_all rfl))))
local macro_rules | `(tactic| walk_at "subscriptTail") => `(tactic| ((with_reducible show wpAny _ _ (subscriptTail _ _ (Value.ref 1450) (Value.int _ _)) _ _ _); (refine item_all (by assumption) (by assumption) (by omega) (by omega) ?_ (by with_unfolding_all rfl)); intro _))
local macro_rules | `(tactic| walk_at "binaryOp Add bytes bytes") => `(tactic| ((with_reducible show wpAny _ _ (binaryOp Operator.Add (Value.bytes _ _) (Value.bytes _ _)) _ _ _); (refine KBy.add_bytes (by first | omega | (simp; omega)) ?_); intro _ _))
local macro_rules | `(tactic| walk_at "eval ListComp") => `(tactic| (refine stop_ ?_))
local macro_rules | `(tactic| walk_at "call ref") => `(tactic| (refine stop_ ?_))
local macro_rules | `(tactic| walk_at "eval GeneratorExp") => `(tactic| (refine stop_ ?_))
local macro_rules | `(tactic| walk_at "call builtin:bytes.join") => `(tactic| (refine stop_ ?_))
local macro_rules | `(tactic| walk_at "getMethod bytes") => `(tactic| (refine method_join ?_))
local macro_rules | `(tactic| walk_at "call builtin:isinstance") => `(tactic| ((with_reducible show wpAny _ _ (call _ [Value.ref _, Value.ref _]) _ _ _); refine' kia_tup kitx_list ?X ?c ?p ?ee ?nb ?_; (case c => exact kitAt_F (by assumption) (by assumption)); (case X => k_in); (case p => kit_tp); (case ee => kit_is); (case nb => kit_nb); k_whole; intro _))

local macro_rules | `(tactic| walk_at "subscriptTail") => `(tactic| ((with_reducible show wpAny _ _ (subscriptTail _ _ (Value.bytes _ _) (Value.ref _)) _ _ _); (with_reducible rename Fr _ _ _ _ => F'); (with_reducible rename News _ _ _ _ => N'); (refine slice_b (s := ⟨_, _, _, _, _⟩) F' N' (by omega) (by omega) (by omega) ?_); intro _ _ _ _ _))


local macro_rules | `(tactic| walk_at "exec For Name Name cons nil") => `(tactic| (refine stop_ ?_))
theorem kitAt_F' {h h' : Heap} {L a : Addr} {m : Str → Option Value} {vs : Array Value} (F : Fr h L h' m) (hl : h.IsList a vs) : KitAt a "list" h' := by
  obtain ⟨o, e, c, r⟩ := hl
  exact ⟨o, F.keep _ _ e, c⟩
def PlcSpec (t : T) : Prop := t.ok → t.enc.length < 65536 → ∀ (w : World) (A : Around) (s : Shared) (v : Value) (i : Nat) (ti : Tok) (Q E : Value → Shared → Prop), Room w A s.heap (2 * t.dep + 3) → ∀ (P0 : View), (∀ a o, P0 a o → s.heap.get? a = some o) → TIn P0 t v →
  (∀ h' tk' aT tv t1 t2 t3 l, Ext s.heap h' → fresh s.heap h' aT (tupO #[tv, .int (i : Nat) t1, .int ((i + t.hd.length : Nat) : Int) t2, .int ((i + t.enc.length : Nat) : Int) t3, .ref l]) → PlIn (fun a o => P0 a o ∨ fresh s.heap h' a o) t i (.ref aT) → Q (.ref aT) { s with heap := h', toks := tk' }) → wpAny (model prog w) A (call (.ref 1823) [v, .int (i : Int) ti]) Q E s

abbrev orR (B : View) (R : List (Addr × Obj)) : View := fun a o => B a o ∨ (a, o) ∈ R
theorem PlIn.split {B P : View} {t : T} {i : Nat} {v : Value} (x : PlIn (fun a o => B a o ∨ P a o) t i v) : ∃ R : List (Addr × Obj), (∀ p ∈ R, P p.1 p.2) ∧ PlIn (orR B R) t i v := by
  classical
  obtain ⟨R, h1, h2⟩ := PlIn.led t i v x
  refine ⟨R.filter fun p => decide (P p.1 p.2), fun p hp => by simpa using (List.mem_filter.mp hp).2, PlIn.mono (fun a o hm => ?_) _ _ _ h2⟩
  by_cases hP : P a o
  · exact .inr (List.mem_filter.mpr ⟨hm, by simpa using hP⟩)
  · rcases h1 _ hm with q | q
    · exact .inl q
    · exact absurd q hP
theorem plc_leaf (b : Array UInt8) : PlcSpec (.leaf b) := by
  intro ok hlen w A s v i ti Q E R P0 hP0 ht hret
  have ht0 := TIn.mono hP0 _ _ ht
  simp only [TIn] at ht
  obtain ⟨tk, rfl⟩ := ht
  refine wpAny_call ?_
  have R' : Room w A s.heap (2 * (T.leaf b).dep + 2 + 1) := R
  walk_at "enter"
  rename_i dp un gd env outer base g h₁ L' p loose mean mg mb hdp hun F N B X Tp G
  k_steps
  show wpAny _ _ _ _ _ _
  obtain ⟨es, eb⟩ := size_enc (.leaf b) hlen
  rename Fr _ _ _ _ => F
  rename News _ _ _ _ => N
  refine body_spec _ (.leaf b) (Nat.le_refl _) ok w _ _ _ _ _ (by walk_at "room"; omega) (TIn.mono (fun a o e => F.keep _ _ (G _ _ e)) _ _ ht0) fun h2 tk2 tok2 hE2 => ?_
  replace F := F.keeps hE2
  replace N := News.grown N hE2
  k_steps
  show wpAny _ _ _ _ _ _
  rename Fr _ _ _ _ => F
  rename News _ _ _ _ => N
  refine size_spec (.leaf b) ok w _ _ _ _ _ (by walk_at "room"; omega) (TIn.mono (fun a o e => F.keep _ _ (G _ _ e)) _ _ ht0) fun h3 tk3 tok3 hE3 => ?_
  replace F := F.keeps hE3
  replace N := News.grown N hE3
  k_steps
  show Leave0 g L' _ _ _
  rename News _ _ _ _ => N
  have hN := N _ (List.mem_cons_self ..)
  have hN2 := N _ (List.mem_cons_of_mem _ (List.mem_cons_self ..))
  have hb : b.toList.length = b.size := Array.length_toList ..
  have hel : (T.leaf b).enc.length = (T.leaf b).hd.length + (T.leaf b).pay.length := by rw [T.enc_eq, List.length_append]
  have v2 : (i : Int) + ((T.leaf b).size : Int) - ((T.leaf b).body : Int) = ((i + (T.leaf b).hd.length : Nat) : Int) := by omega
  have v3 : (i : Int) + ((T.leaf b).size : Int) - ((T.leaf b).body : Int) + ((T.leaf b).body : Int) = ((i + (T.leaf b).enc.length : Nat) : Int) := by omega
  rw [v3, v2] at hN
  refine leave0_ (by assumption) G ?_
  intro hE
  refine hret _ _ _ _ _ _ _ _ hE ⟨none_of G hN.2.2, hN.1⟩ ?_
  simp only [PlIn]
  exact ⟨_, _, _, _, _, _, _, rfl, .inr ⟨none_of G hN.2.2, hN.1⟩, by simp only [TIn]; exact ⟨_, rfl⟩, .inr ⟨none_of G hN2.2.2, hN2.1⟩⟩
end Mine
end
section
open PySem PySem.W PySem.Calls PyProof.Rows PySem.Spec
namespace Mine
theorem fresh_H3 : True := by
  w_top off
  run_tac do
    walkLines.set (0, {})
    walkStart.set 0
    walkLate.set false
  trivial
local macro_rules | `(tactic| walk_at "enter") => `(tactic| (refine' enter (by assumption) ?k6 ?k7 ?k9 ?kB ?_ ?c2 ?c3 ?c4 ?c5; (case k6 => k_is); (case k7 => k_is); (case k9 => exact BindsTo.of_eq rfl); (case c5 => decide); (case kB => exact locs rfl); (case c2 => exact rfl); (case c3 => exact rfl); (case c4 => exact rfl); k_whole; intro dp' un' gd' env' outer' base' g' h' L' p' loose' mean' mg' mb' hd' hu' F' N' B' X' T' G'; (try dsimp only); (try k_fold)))
local macro_rules | `(tactic| walk_at "room") => `(tactic| (refine Room.le (room_in (by assumption) (by assumption) (by assumption) (by assumption) (by assumption) (by assumption) (by rfl) (by rfl)) ?_))
local macro_rules | `(tactic| walk_at "subscriptTail") => `(tactic| ((with_reducible show wpAny _ _ (subscriptTail _ _ (Value.bytes _ _) (Value.int _ _)) _ _ _); (refine item_b (by omega) (by omega) (by omega) ?_ (by with_unfolding_all rfl) (by intro _; with_unfolding_all rfl))))
local macro_rules | `(tactic| walk_at "subscriptTail") => `(tactic| ((with_reducible show wpAny _ _ (subscriptTail _ _ (Value.ref 1450) (Value.int _ _)) _ _ _); (refine item_all (by assumption) (by assumption) (by omega) (by omega) ?_ (by with_unfolding_all rfl)); intro _))
local macro_rules | `(tactic| walk_at "binaryOp Add bytes bytes") => `(tactic| ((with_reducible show wpAny _ _ (binaryOp Operator.Add (Value.bytes _ _) (Value.bytes _ _)) _ _ _); (refine KBy.add_bytes (by first | omega | (simp; omega)) ?_); intro _ _))
local macro_rules | `(tactic| walk_at "eval ListComp") => `(tactic| (refine stop_ ?_))
local macro_rules | `(tactic| walk_at "call ref") => `(tactic| (refine stop_ ?_))
local macro_rules | `(tactic| walk_at "eval GeneratorExp") => `(tactic| (refine stop_ ?_))
local macro_rules | `(tactic| walk_at "call builtin:bytes.join") => `(tactic| (refine stop_ ?_))
local macro_rules | `(tactic| walk_at "getMethod bytes") => `(tactic| (refine method_join ?_))
local macro_rules | `(tactic| walk_at "call builtin:isinstance") => `(tactic| ((with_reducible show wpAny _ _ (call _ [Value.ref _, Value.ref _]) _ _ _); refine' kia_tup kitx_list ?X ?c ?p ?ee ?nb ?_; (case c => exact kitAt_F (by assumption) (by assumption)); (case X => k_in); (case p => kit_tp); (case ee => kit_is); (case nb => kit_nb); k_whole; intro _))

local macro_rules | `(tactic| walk_at "subscriptTail") => `(tactic| ((with_reducible show wpAny _ _ (subscriptTail _ _ (Value.bytes _ _) (Value.ref _)) _ _ _); (with_reducible rename Fr _ _ _ _ => F'); (with_reducible rename News _ _ _ _ => N'); (refine slice_b (s := ⟨_, _, _, _, _⟩) F' N' (by omega) (by omega) (by omega) ?_); intro _ _ _ _ _))


local macro_rules | `(tactic| walk_at "exec For Name Name cons nil") => `(tactic| (refine stop_ ?_))
local macro_rules | `(tactic| walk_at "call builtin:isinstance") => `(tactic| ((with_reducible show wpAny _ _ (call _ [Value.ref _, Value.type _]) _ _ _); refine' kia_one kitx_list ?X ?c ?ee ?nb ?_; (case c => exact kitAt_F' (by assumption) (by assumption)); (case X => k_in); (case ee => kit_is); (case nb => kit_nb); k_whole; intro _))


local macro_rules | `(tactic| walk_at "call builtin:list.append") => `(tactic| (k_dflt (refine' append_K ?k1 ?k2 ?k3 ?_ ?z; (case k1 => k_asm); (case k2 => k_asm); (case k3 => k_upd); (case z => (rw [List.size_toArray]; exact Nat.le_trans (by omega) (by decide : 100 ≤ sizeLine))); k_whole); intro _ _ _))
local macro_rules | `(tactic| k_all) => `(tactic| assumption)
local macro_rules | `(tactic| walk_at "subscriptTail Name UnaryOp ref int") => `(tactic| (refine stop_ ?_))
local macro_rules | `(tactic| walk_at "subscriptTail") => `(tactic| ((with_reducible show wpAny _ _ (subscriptTail _ _ (Value.ref _) (Value.int _ _)) _ _ _); k_dflt (refine' item_tupleT ?t ?a ?b ?c ?d ?_; (case t => first | exact News.isTup (by k_asm) (by k_mem) | exact Fr.tup (by assumption) (by assumption)); (case a => decide); (case b => decide); (case c => first | rfl | decide); (case d => first | rfl | simp); k_whole)))
local macro_rules | `(tactic| walk_at "eval Name") => `(tactic| ((with_unfolding_all refine guard_local (by rfl) ?_); k_dflt (refine' ld ?k1 ?k2 ?_; (case k1 => k_asm); (case k2 => assumption); k_whole)))
theorem last_of {prog : Program} {w : World} {A : Around} {E : Value → Shared → Prop} {s : Shared} {value slice : Expr} {l : Addr} {vi : List Value} {v : Value} {u : Tok} {Q : Value → Shared → Prop} (hl : s.heap.IsList l (vi ++ [v]).toArray) (h : Q v s)
    (hs : subscripted slice false (.ref l) (.int (-1) u) = operate [.ref l, .int (-1) u] (getItem (.ref l) (.int (-1) u)) := by with_unfolding_all rfl) (hg : ∀ r, letTemporaryGo value (.ref l) r = pure () := by intro _; with_unfolding_all rfl) :
    wpAny (model prog w) A (subscriptTail value slice (.ref l) (.int (-1) u)) Q E s :=
  subscriptTail_builtin hl.typeIs slot_list_getitem.lookup (wpAny_getItem_list_neg hl (by decide) (by simp <;> omega) (by decide) (by
    have e : ((-1 : Int) + ((vi ++ [v]).toArray.size : Int)).toNat = vi.length := by simp <;> omega
    rw [e]; simp) h) hs hg
structure PlJ (g : View) (i : Nat) (ks : List T) (a aK : Addr) (vi vb vst : Value) (j : Nat) (m : Str → Option Value) (news : List (Addr × Obj)) (kvs : List Value) (n : Nat) (R : List (Addr × Obj)) (tka : Tok) : Prop where
  news : news = (aK, W.listOf kvs.toArray n) :: R
  rK : ∀ p ∈ R, p.1 ≠ aK
  m1 : m (Str.ofString "tree") = some (.ref a)
  m2 : m (Str.ofString "head") = some vi
  m3 : m (Str.ofString "body") = some vb
  m4 : m (Str.ofString "start") = some vst
  m5 : m (Str.ofString "kids") = some (.ref aK)
  m6 : m (Str.ofString "at") = some (.int ((i + (T.node ks).hd.length + (T.encs (ks.take j)).length : Nat) : Int) tka)
  ks : PlsIn (orR g R) (ks.take j) (i + (T.node ks).hd.length) kvs
theorem plc_node (ks : List T) (ih : ∀ t ∈ ks, PlcSpec t) : PlcSpec (.node ks) := by
  intro ok hlen w A s v i ti Q E R P0 hP0 ht hret
  have ht0 := TIn.mono hP0 _ _ ht
  have ht1 := ht
  have ok0 := ok
  simp only [TIn, T.ok] at ht ok
  obtain ⟨a, vs, n, rfl, hl, hk⟩ := ht
  refine wpAny_call ?_
  have R' : Room w A s.heap (2 * (T.node ks).dep + 2 + 1) := R
  walk_at "enter"
  rename_i dp un gd env outer base g h₁ L' p loose mean mg mb hdp hun F N B X Tp G
  have hl' := G _ _ (hP0 _ _ hl)
  have hL : Heap.IsList _ a vs.toArray := ⟨_, hl', rfl, n, rfl⟩
  k_steps
  show wpAny _ _ _ _ _ _
  obtain ⟨es, eb⟩ := size_enc (.node ks) hlen
  rename Fr _ _ _ _ => F
  rename News _ _ _ _ => N
  refine body_spec _ (.node ks) (Nat.le_refl _) ok0 w _ _ _ _ _ (by walk_at "room"; omega) (TIn.mono (fun a o e => F.keep _ _ (G _ _ e)) _ _ ht0) fun h2 tk2 tok2 hE2 => ?_
  replace F := F.keeps hE2
  replace N := News.grown N hE2
  k_steps
  show wpAny _ _ _ _ _ _
  rename Fr _ _ _ _ => F
  rename News _ _ _ _ => N
  refine size_spec (.node ks) ok0 w _ _ _ _ _ (by walk_at "room"; omega) (TIn.mono (fun a o e => F.keep _ _ (G _ _ e)) _ _ ht0) fun h3 tk3 tok3 hE3 => ?_
  replace F := F.keeps hE3
  replace N := News.grown N hE3
  k_steps
  show wpAny _ _ _ _ _ _
  rename Fr _ _ _ _ => F
  rename News _ _ _ _ => N
  have hel : (T.node ks).enc.length = (T.node ks).hd.length + (T.node ks).pay.length := by rw [T.enc_eq, List.length_append]
  have v2 : (i : Int) + ((T.node ks).size : Int) - ((T.node ks).body : Int) = ((i + (T.node ks).hd.length : Nat) : Int) := by omega
  obtain ⟨m₀, aK, tb, ts, F, N, e1, e2, e3, e4, e5, e6⟩ : ∃ m₀ aK tb ts, Fr g L' _ m₀ ∧ News g L' _ [(aK, W.listOf #[] 0)] ∧ m₀ (Str.ofString "tree") = some (.ref a) ∧ m₀ (Str.ofString "head") = some (.int (i : Int) ti) ∧
    m₀ (Str.ofString "body") = some (.int ((T.node ks).body : Int) tb) ∧ m₀ (Str.ofString "start") = some (.int ((i : Int) + ((T.node ks).size : Int) - ((T.node ks).body : Int)) ts) ∧ m₀ (Str.ofString "kids") = some (.ref aK) ∧
    m₀ (Str.ofString "at") = some (.int ((i : Int) + ((T.node ks).size : Int) - ((T.node ks).body : Int)) ts) := ⟨_, _, _, _, F, N, rfl, rfl, rfl, rfl, rfl, rfl⟩
  rw [v2] at e4 e6
  refine For_H rfl (by rfl) (by rfl) F N hL Tp.nolimit (fun j m news => ∃ kvs n R tka, PlJ P0 i ks a aK (.int (i : Int) ti) (.int ((T.node ks).body : Int) tb) (.int ((i + (T.node ks).hd.length : Nat) : Int) ts) j m news kvs n R tka) ⟨[], 0, [], ts, rfl, (fun p h => (nomatch h)), e1, e2, e3, e4, e5, by rw [e6]; simp [T.encs], by simp [PlsIn]⟩ ?_ ?_ ?_
  · intro Q' q
    exact ld F e1 q
  · rintro j v m₁ news₁ own h₁ tk₁ hP ⟨kvs, nk, Rl, tka, rfl, hrK, m1, m2, m3, m4, m5, m6, hks⟩ hown F₁ N₁
    clear F N e1 e2 e3 e4 e5 e6
    k_steps
    show wpAny _ _ _ _ _ _
    obtain ⟨t, et, htv⟩ := hk.get hP
    obtain ⟨ea, eb'⟩ := encs_at et
    have el := congrArg List.length ea
    simp only [List.length_append] at el
    have htl : t.enc.length < 65536 := by
      have : (T.node ks).pay.length = (T.encs ks).length := rfl
      omega
    rename Fr _ _ _ _ => F₂
    rename News _ _ _ _ => N₂
    refine ih t (List.mem_of_getElem? et) (T.oks_get ok.2 et) htl w _ _ v _ _ _ _ (by walk_at "room"; have := T.dep_le et; simp only [T.dep]; omega) P0 (fun a o h => F₂.keep _ _ (G _ _ (hP0 _ _ h))) htv ?_
    intro h2 tk2 aT tv q1 q2 q3 l hE hT hpl
    obtain ⟨R1, hR1, hpl1⟩ := PlIn.split hpl
    have gK := (N₂ _ (.head _)).1
    have nTK := ne_of hT.1 gK
    obtain ⟨R', hR', hp2, hRo, hrK', hks'⟩ : ∃ R', R' = R1 ++ Rl ∧ PlIn (orR P0 R') t _ (.ref aT) ∧ (∀ p ∈ own, ∀ q ∈ R', q.1 ≠ p.1) ∧ (∀ p ∈ R' ++ own, p.1 ≠ aK) ∧ PlsIn (orR P0 R') (ks.take j) (i + (T.node ks).hd.length) kvs := by
      refine ⟨_, rfl, PlIn.mono (fun a o h => h.imp id (List.mem_append_left _)) _ _ _ hpl1, ?_, ?_, PlsIn.mono (fun a o h => h.imp id (List.mem_append_right _)) _ _ _ hks⟩
      · intro p hp q hq
        rcases List.mem_append.mp hq with hq | hq
        · exact ne_of (hR1 _ hq).1 (N₂ _ (List.mem_append_right _ hp)).1
        · exact hown _ hp _ (.tail _ hq)
      intro p hp
      rcases List.mem_append.mp hp with hp | hp
      · rcases List.mem_append.mp hp with hp | hp
        · exact ne_of (hR1 _ hp).1 gK
        · exact hrK _ hp
      · exact fun e => hown _ hp _ (.head _) e.symm
    have N4 := News.plus F₂ (News.grown N₂ hE) R1 hR1
    have N5 := news_done F₂ N4 hT.1 hT.2
    have F₄ := F₂.keeps hE
    unfold tupO at N5
    have N₅ := News.sub (news' := (aT, _) :: (aK, W.listOf kvs.toArray nk) :: (R' ++ own)) N5 (by
      intro p hp
      rcases List.mem_cons.mp hp with rfl | hp
      · exact .head _
      rcases List.mem_cons.mp hp with rfl | hp
      · exact .tail _ (List.mem_append_right _ (.head _))
      rcases List.mem_append.mp hp with hp | hp
      · rw [hR'] at hp
        rcases List.mem_append.mp hp with hp | hp
        · exact .tail _ (List.mem_append_left _ hp)
        · exact .tail _ (List.mem_append_right _ (.tail _ (List.mem_append_left _ hp)))
      · exact .tail _ (List.mem_append_right _ (.tail _ (List.mem_append_right _ hp))))
    clear N4 N5 N₂
    have hvl := hks.length
    rw [List.length_take] at hvl
    k_steps
    rename Fr _ _ _ _ => F₆
    rename News _ _ _ _ => N₆
    have q1' : kvs.toArray.push (.ref aT) = (kvs ++ [Value.ref aT]).toArray := by simp
    have hKl := (N₆ (aK, W.listOf (kvs.toArray.push (.ref aT)) (nk + 1)) (by k_mem)).1
    show wpAny _ _ _ _ _ _
    refine last_of (vi := kvs) (v := .ref aT) ⟨_, hKl, rfl, nk + 1, by rw [q1']⟩ ?_
    k_steps
    rename Fr _ _ _ _ => F₈
    rename News _ _ _ _ => N₈
    have htk : ks.take (j + 1) = ks.take j ++ [t] := by rw [List.take_add_one, et]; rfl
    have hval : ((i + (T.node ks).hd.length + (T.encs (ks.take j)).length + t.enc.length : Nat) : Int) = ((i + (T.node ks).hd.length + (T.encs (ks.take (j + 1))).length : Nat) : Int) := by
      rw [eb', List.length_append]; omega
    obtain ⟨m₂, F₉, o1, o2, o3, o4, o5, o6⟩ : ∃ m₂, Fr g L' _ m₂ ∧ m₂ (Str.ofString "tree") = some (.ref a) ∧ m₂ (Str.ofString "head") = some (.int (i : Int) ti) ∧ m₂ (Str.ofString "body") = some (.int ((T.node ks).body : Int) tb) ∧
        m₂ (Str.ofString "start") = some (.int ((i + (T.node ks).hd.length : Nat) : Int) ts) ∧ m₂ (Str.ofString "kids") = some (.ref aK) ∧ m₂ (Str.ofString "at") = some (.int ((i + (T.node ks).hd.length + (T.encs (ks.take (j + 1))).length : Nat) : Int) q3) :=
      ⟨_, F₈, m1, m2, m3, m4, m5, (show some (Value.int _ q3) = _ from congrArg (fun z => some (Value.int z q3)) hval)⟩
    clear F₈
    refine ⟨_, _, m₂, (aK, W.listOf (kvs ++ [Value.ref aT]).toArray (nk + 1)) :: R', rfl, F₉, News.sub N₈ ?_, ?_, kvs ++ [.ref aT], nk + 1, R', q3, ?_⟩
    · rw [← q1']
      intro p hp
      rcases List.mem_cons.mp hp with rfl | hp
      · k_mem
      repeat (first | exact hp | refine List.mem_cons_of_mem _ ?_)
    · intro p hp q hq
      rcases List.mem_cons.mp hq with rfl | hq
      · exact fun e => (hrK' p (List.mem_append_right _ hp)) e.symm
      · exact hRo p hp q hq
    · exact {
        news := rfl
        rK := fun p hp => hrK' p (List.mem_append_left _ hp)
        m1 := o1
        m2 := o2
        m3 := o3
        m4 := o4
        m5 := o5
        m6 := o6
        ks := htk ▸ hks'.snoc hp2 }
  · rintro h₁ tk₁ m₁ news₁ F₁ N₁ ⟨kvs, nk, Rl, tka, rfl, hrK, m1, m2, m3, m4, m5, m6, hks⟩
    rw [List.take_of_length_le (by rw [← hk.length]; exact Nat.le_refl _)] at hks
    k_steps
    show Leave0 g L' _ _ _
    rename News _ _ _ _ => N₆
    have hN := N₆ _ (.head _)
    have v3 : ((i + (T.node ks).hd.length : Nat) : Int) + ((T.node ks).body : Int) = ((i + (T.node ks).enc.length : Nat) : Int) := by omega
    rw [v3] at hN
    refine leave0_ (by assumption) G ?_
    intro hE
    refine hret _ _ _ _ _ _ _ _ hE ⟨none_of G hN.2.2, hN.1⟩ ?_
    simp only [PlIn]
    refine ⟨_, _, _, _, _, _, _, kvs, rfl, .inr ⟨none_of G hN.2.2, hN.1⟩, ?_, .inr (inR_fresh (R := [(aK, W.listOf kvs.toArray nk)]) G N₆ ?_ _ _ (.head _)), PlsIn.mono (fun a o h => h.imp id fun h => inR_fresh G N₆ ?_ _ _ h) _ _ _ hks⟩
    · exact TIn.mono (fun a o h => .inl h) _ _ ht1
    · intro p hp; rw [List.mem_singleton.mp hp]; k_mem
    · intro p hp; repeat (first | exact hp | refine List.mem_cons_of_mem _ ?_)
theorem plc_spec : ∀ (n : Nat) (t : T), t.dep ≤ n → PlcSpec t := by
  intro n
  induction n with
  | zero => intro t h; cases t <;> simp only [T.dep] at h <;> omega
  | succ n ih =>
    intro t h
    cases t with
    | leaf b => exact plc_leaf b
    | node ks =>
      refine plc_node ks fun t ht => ?_
      obtain ⟨i, hi, e⟩ := List.getElem_of_mem ht
      have := T.dep_le (ts := ks) (i := i) (t := t) (by rw [List.getElem?_eq_getElem hi, e])
      exact ih t (by simp only [T.dep] at h; omega)
end Mine
end
section
open PySem PySem.W PySem.Calls PyProof.Rows PySem.Spec PySem.SeqAt
namespace Mine
theorem fresh_E1 : True := by
  w_top off
  run_tac do
    walkLines.set (0, {})
    walkStart.set 0
    walkLate.set false
  trivial
theorem eqAt_bytes {A : Around} {s : Shared} {b c : Array UInt8} {t u : Tok} (h : b.toList = c.toList) : EqAt A s (.bytes b t) (.bytes c u) true := fun prog w E Q hq => by
  refine eqBool_bytes ?_
  rw [decide_eq_true h]; exact hq
theorem eqAt_int {A : Around} {s : Shared} {i j : Int} {t u : Tok} (h : i = j) : EqAt A s (.int i t) (.int j u) true := by
  subst h
  have := EqAt.int_int (A := A) (s := s) i t i u
  rw [beq_self_eq_true] at this
  exact this
theorem eqAt_str {A : Around} {s : Shared} {i j : Str} {t u : Tok} (h : i = j) : EqAt A s (.str i t) (.str j u) true := by
  subst h
  have := EqAt.str_str (A := A) (s := s) i t i u
  rw [beq_self_eq_true] at this
  exact this
/-- two tuples of the same data differ not -/
theorem ne_tup {prog : Program} {w : World} {A : Around} {E : Value → Shared → Prop} {s : Shared} {a b : Addr} {xs ys : Array Value} {Q : Value → Shared → Prop} (ha : s.heap.IsTuple a xs) (hb : s.heap.IsTuple b ys) (hu : A.units < cLine) (hs : xs.size = ys.size)
    (he : ∀ j (h1 : j < xs.size) (h2 : j < ys.size), EqAt A.in1 s xs[j] ys[j] true) (h : Q (.bool false) s) : wpAny (model prog w) A (compareOp .NotEq (.ref a) (.ref b)) Q E s := by
  refine RcNeAt.tuples (e := fun _ => true) ha hb hu he prog w E Q ?_
  have e2 : (!((List.range (min xs.size ys.size)).all (fun _ => true) && xs.size == ys.size)) = false := by
    rw [hs]; simp
  rw [e2]; exact h
theorem eqAt_refs {A : Around} {s : Shared} {l b : Addr} (h : RcAt A s (.ref l) (.ref b) true) : EqAt A s (.ref l) (.ref b) true := by
  by_cases e : l = b
  · subst e; exact EqAt.same _
  · exact EqAt.of_refs e h
theorem all_true (n : Nat) : ((List.range n).all fun _ => true) = true := by simp
mutual
theorem tin_eq : ∀ (t : T) (A : Around) (s : Shared) (v v' : Value), TIn (vw s.heap) t v → TIn (vw s.heap) t v' → A.units + t.dep < cLine → EqAt A s v v' true
  | .leaf b, A, s, v, v', x, y, hu => by
    simp only [TIn] at x y
    obtain ⟨t, rfl⟩ := x
    obtain ⟨u, rfl⟩ := y
    exact eqAt_bytes rfl
  | .node ks, A, s, v, v', x, y, hu => by
    simp only [TIn] at x y
    obtain ⟨a, vs, n, rfl, p, q⟩ := x
    obtain ⟨a', vs', n', rfl, p', q'⟩ := y
    simp only [T.dep] at hu
    refine eqAt_refs ?_
    have := RcAt.lists (A := A) (s := s) (l := a) (b := a') (items := vs.toArray) (items2 := vs'.toArray) (e := fun _ => true) ⟨_, p, rfl, n, rfl⟩ ⟨_, p', rfl, n', rfl⟩ (by simp [q.length, q'.length]) (by omega)
      (fun j h1 h2 => by simpa using tsin_eq ks A.in1 s vs vs' q q' (by show A.units + 1 + _ < _; omega) j (by simpa using h1) (by simpa using h2))
    rw [all_true] at this
    exact this
theorem tsin_eq : ∀ (ts : List T) (A : Around) (s : Shared) (vs vs' : List Value), TsIn (vw s.heap) ts vs → TsIn (vw s.heap) ts vs' → A.units + T.deps ts < cLine → ∀ (j : Nat) (h1 : j < vs.length) (h2 : j < vs'.length), EqAt A s vs[j] vs'[j] true
  | [], A, s, vs, vs', x, y, hu, j, h1, h2 => by simp only [TsIn] at x; subst x; simp at h1
  | k :: ks, A, s, vs, vs', x, y, hu, j, h1, h2 => by
    simp only [TsIn] at x y
    obtain ⟨v, r, rfl, p, q⟩ := x
    obtain ⟨v', r', rfl, p', q'⟩ := y
    simp only [T.deps] at hu
    cases j with
    | zero => exact tin_eq k A s v v' p p' (by omega)
    | succ j => exact tsin_eq ks A s r r' q q' (by omega) j (by simpa using h1) (by simpa using h2)
end
mutual
theorem pin_eq : ∀ (t : T) (A : Around) (s : Shared) (v v' : Value), PIn (vw s.heap) t v → PIn (vw s.heap) t v' → A.units + t.dep < cLine → EqAt A s v v' true
  | .leaf b, A, s, v, v', x, y, hu => by
    simp only [PIn] at x y
    obtain ⟨a, bb, tk, n, rfl, p, q⟩ := x
    obtain ⟨a', bb', tk', n', rfl, p', q'⟩ := y
    simp only [T.dep] at hu
    refine eqAt_refs ?_
    have := RcAt.lists (A := A) (s := s) (l := a) (b := a') (items := #[.bytes bb tk]) (items2 := #[.bytes bb' tk']) (e := fun _ => true) ⟨_, p, rfl, n, rfl⟩ ⟨_, p', rfl, n', rfl⟩ rfl (by omega)
      (fun j h1 h2 => by
        obtain rfl : j = 0 := by simp at h1; omega
        exact eqAt_bytes (by rw [q, q']))
    rw [all_true] at this
    exact this
  | .node ks, A, s, v, v', x, y, hu => by
    simp only [PIn] at x y
    obtain ⟨a, bb, tk, vs, n, rfl, p, q, r⟩ := x
    obtain ⟨a', bb', tk', vs', n', rfl, p', q', r'⟩ := y
    simp only [T.dep] at hu
    refine eqAt_refs ?_
    have := RcAt.lists (A := A) (s := s) (l := a) (b := a') (items := (Value.bytes bb tk :: vs).toArray) (items2 := (Value.bytes bb' tk' :: vs').toArray) (e := fun _ => true) ⟨_, p, rfl, n, rfl⟩ ⟨_, p', rfl, n', rfl⟩ (by simp [r.length, r'.length]) (by omega)
      (fun j h1 h2 => by
        cases j with
        | zero => exact eqAt_bytes (by rw [q, q'])
        | succ j => simpa using psin_eq ks A.in1 s vs vs' r r' (by show A.units + 1 + _ < _; omega) j (by simpa using h1) (by simpa using h2))
    rw [all_true] at this
    exact this
theorem psin_eq : ∀ (ts : List T) (A : Around) (s : Shared) (vs vs' : List Value), PsIn (vw s.heap) ts vs → PsIn (vw s.heap) ts vs' → A.units + T.deps ts < cLine → ∀ (j : Nat) (h1 : j < vs.length) (h2 : j < vs'.length), EqAt A s vs[j] vs'[j] true
  | [], A, s, vs, vs', x, y, hu, j, h1, h2 => by simp only [PsIn] at x; subst x; simp at h1
  | k :: ks, A, s, vs, vs', x, y, hu, j, h1, h2 => by
    simp only [PsIn] at x y
    obtain ⟨v, r, rfl, p, q⟩ := x
    obtain ⟨v', r', rfl, p', q'⟩ := y
    simp only [T.deps] at hu
    cases j with
    | zero => exact pin_eq k A s v v' p p' (by omega)
    | succ j => exact psin_eq ks A s r r' q q' (by omega) j (by simpa using h1) (by simpa using h2)
end
end Mine
end
section
open PySem PySem.W PySem.Calls PyProof.Rows PySem.Spec
namespace Mine
theorem fresh_F12 : True := by
  w_top off
  run_tac do
    walkLines.set (0, {})
    walkStart.set 0
    walkLate.set false
  trivial
/-- a def whose parameters may be cells, entered; what stands beside the ledger stands as it stood -/
theorem enterC {w : World} {A : Around} {s : Shared} {R : Result → Shared → Prop} {k : Nat} {news : List (Addr × Obj)} {name qual : Str} {params : Arguments} {body : List Stmt} {scope : Scope} {dV kV doc pm cdv ct oc : Value} {an od : Option Addr} {osl : Array (Option Value)} {f : Addr} {args : Args} {binds : List (Str × Value)}
    (S : RoomN w A s.heap (k + 1) news)
    (ho : (hd.heap_1 w.params).lookup f = some ⟨oc, od, .func (fnOf name qual params body scope dV kV doc pm an cdv ct), osl⟩) (hcd : codeIn (hd.heap_1 w.params) cdv qual = true)
    (hbind : BindsTo s (fnOf name qual params body scope dV kV doc pm an cdv ct) args binds) (hkind : (binds.all fun y => scope.names.lookup y.1 == some .local || scope.names.lookup y.1 == some .cell) = true)
    (hnd : ((cellsFrom 0 scope.names []).map (·.1)).Nodup)
    (h : ∀ (dp un : Nat) (gd : Option (List Code)) (env : Env) (outer : List Env) (base g h₁ : Heap) (L' : Addr) (p : Program) (loose : List Str) (mean : ExcName → Option Value) (mg mb : Str → Option Value) (tk : Nat) (cells : List (Addr × Obj)), dp + k + 1 < recursionLimit → un + 12 * k + 12 < cLine →
      Fr g L' h₁ (bindL (envOfC qual scope L' f cdv).kindOf binds fun _ => none) → News g L' h₁ (cells ++ news) →
      CellsAre (bindC (envOfC qual scope L' f cdv).kindOf binds fun _ => none) (cellsFrom (L' + 1) scope.names []) cells →
      Below ⟨none, dp, some (env :: outer), gd, un⟩ base (env :: outer) g → (hd.heap_1 w.params).In g → Top p loose mean mg mb g → ExtB (news.map (·.1)) s.heap g → (∀ p ∈ news, p.1 < L') →
      wpAny (model prog w) (Around.deeper ⟨none, dp, some (env :: outer), gd, un⟩ (envOfC qual scope L' f cdv)) (execs body (envOfC qual scope L' f cdv))
        (fun fl s' => Leave0 g L' R (match fl with | .ret v => v | _ => .none) s')
        (fun e s' => wpAny (model prog w) (Around.deeper ⟨none, dp, some (env :: outer), gd, un⟩ (envOfC qual scope L' f cdv)) (leaving (envOfC qual scope L' f cdv) e) (fun _ s'' => R (.error e) s'') (fun e' s'' => R (.error e') s'') s')
        { s with heap := h₁, toks := tk })
    (hco : scope.isCoroutine = false) (hgen : scope.isGenerator = false) (hk : scope.kind = .function) : codeAny (model prog w) A (.call (.ref f) args) R s := by
  obtain ⟨⟨A₀, base, outer, h₀, env, L, m, p, loose, mean, mg, mb, B, F, N, X, T, hA, hf, hke, hh⟩, hd, hu⟩ := S
  obtain ⟨handled, dp, fr, gd, un⟩ := A
  dsimp only at hA hh hd hu
  subst hA hh
  obtain ⟨FG, BG, st, lv⟩ := groundX (A := ⟨none, dp, some (env :: outer), gd, un⟩) (R := R) B F N rfl hf hke
  refine codeAny_call_function (by show dp < recursionLimit; omega) ((X.keeps F.keep) _ _ ho) rfl hco hgen rfl (codeRec_of (X.keeps F.keep) hcd) (hbind _ _ _ _ ?_)
  refine wpAny_newFunctionEnv_cells hk (kindsX hkind _) fun env' he s' x => ?_
  subst he
  refine ⟨(T.nolimit.keeps F.keep).keeps x.toInCall.keep, codeAny_func ?_⟩
  obtain ⟨h₁, tk, rfl, _⟩ := x.done
  have hk₁ := x.toInCall.keep
  obtain ⟨cells, NC, Y⟩ := Cl.news (h₀ := s.heap) (Nat.le_refl _) fun n c hm => ⟨x.cell n c (lookup_of_mem_nodup (cellsFrom_names scope.names 0 (s.heap.objs.size + 1) [] [] rfl ▸ hnd) hm), x.above n c hm⟩
  refine wpAny_mono (h dp un gd env outer base (hideAll s.heap (news.map (·.1))) h₁ s.heap.objs.size p loose mean mg mb tk cells (by omega) (by omega) ⟨x.toInCall.ns, fun b o e => hk₁ b o (of_hideAll _ e), Nat.le_of_eq (hideAll_size _ _)⟩ (fun p hp => ?_) Y BG (X.keeps fun b o e => st b o e) (T.keeps fun b o e => st b o e)
    (fun b o n e => hideAll_get _ e n) (fun p hp => Heap.lt_size (N p hp).1)) (fun fl s' hl => lv _ _ ?_) fun _ _ y => y
  · rcases List.mem_append.mp hp with hp | hp
    · refine ⟨(NC p hp).1, (NC p hp).2.1, ?_⟩
      cases q : (hideAll s.heap (news.map (·.1))).get? p.1 with
      | none => rfl
      | some o => have := of_hideAll _ q; rw [(NC p hp).2.2] at this; cases this
    · exact ⟨hk₁ _ _ (N p hp).1, Nat.ne_of_lt (Heap.lt_size (N p hp).1), hideAll_none _ (List.mem_map_of_mem hp)⟩
  · obtain ⟨m', Fe, hr⟩ := leave0_out hl
    exact ⟨_, m', [], Fe, News.nil, fun _ _ => hr⟩
end Mine
end
section
open PySem PySem.W PySem.Calls PyProof.Rows PySem.Spec
namespace Mine
theorem fresh_H4 : True := by
  w_top off
  run_tac do
    walkLines.set (0, {})
    walkStart.set 0
    walkLate.set false
  trivial
local macro_rules | `(tactic| walk_at "enter") => `(tactic| (refine' enter (by assumption) ?k6 ?k7 ?k9 ?kB ?_ ?c2 ?c3 ?c4 ?c5; (case k6 => k_is); (case k7 => k_is); (case k9 => exact BindsTo.of_eq rfl); (case c5 => decide); (case kB => exact locs rfl); (case c2 => exact rfl); (case c3 => exact rfl); (case c4 => exact rfl); k_whole; intro dp' un' gd' env' outer' base' g' h' L' p' loose' mean' mg' mb' hd' hu' F' N' B' X' T' G'; (try dsimp only); (try k_fold)))
local macro_rules | `(tactic| walk_at "room") => `(tactic| (refine Room.le (room_in (by assumption) (by assumption) (by assumption) (by assumption) (by assumption) (by assumption) (by rfl) (by rfl)) ?_))
local macro_rules | `(tactic| walk_at "subscriptTail") => `(tactic| ((with_reducible show wpAny _ _ (subscriptTail _ _ (Value.bytes _ _) (Value.int _ _)) _ _ _); (refine item_b (by omega) (by omega) (by omega) ?_ (by with_unfolding_all rfl) (by intro _; with_unfolding_all rfl))))
local macro_rules | `(tactic| walk_at "subscriptTail") => `(tactic| ((with_reducible show wpAny _ _ (subscriptTail _ _ (Value.ref 1450) (Value.int _ _)) _ _ _); (refine item_all (by assumption) (by assumption) (by omega) (by omega) ?_ (by with_unfolding_all rfl)); intro _))
local macro_rules | `(tactic| walk_at "binaryOp Add bytes bytes") => `(tactic| ((with_reducible show wpAny _ _ (binaryOp Operator.Add (Value.bytes _ _) (Value.bytes _ _)) _ _ _); (refine KBy.add_bytes (by first | omega | (simp; omega)) ?_); intro _ _))
local macro_rules | `(tactic| walk_at "eval ListComp") => `(tactic| (refine stop_ ?_))
local macro_rules | `(tactic| walk_at "call ref") => `(tactic| ((with_reducible show wpAny _ _ (call (Value.ref 1722) _) _ _ _); refine stop_ ?_))
local macro_rules | `(tactic| walk_at "call ref") => `(tactic| ((with_reducible show wpAny _ _ (call (Value.ref 1729) _) _ _ _); refine stop_ ?_))
local macro_rules | `(tactic| walk_at "call ref") => `(tactic| ((with_reducible show wpAny _ _ (call (Value.ref 1828) _) _ _ _); refine stop_ ?_))
local macro_rules | `(tactic| walk_at "eval GeneratorExp") => `(tactic| (refine stop_ ?_))
local macro_rules | `(tactic| walk_at "call builtin:bytes.join") => `(tactic| (refine stop_ ?_))
local macro_rules | `(tactic| walk_at "getMethod bytes") => `(tactic| (refine method_join ?_))
local macro_rules | `(tactic| walk_at "call builtin:isinstance") => `(tactic| ((with_reducible show wpAny _ _ (call _ [Value.ref _, Value.ref _]) _ _ _); refine' kia_tup kitx_list ?X ?c ?p ?ee ?nb ?_; (case c => exact kitAt_F (by assumption) (by assumption)); (case X => k_in); (case p => kit_tp); (case ee => kit_is); (case nb => kit_nb); k_whole; intro _))

local macro_rules | `(tactic| walk_at "subscriptTail") => `(tactic| ((with_reducible show wpAny _ _ (subscriptTail _ _ (Value.bytes _ _) (Value.ref _)) _ _ _); (with_reducible rename Fr _ _ _ _ => F'); (with_reducible rename News _ _ _ _ => N'); (refine slice_b (s := ⟨_, _, _, _, _⟩) F' N' (by omega) (by omega) (by omega) ?_); intro _ _ _ _ _))


local macro_rules | `(tactic| walk_at "enterC") => `(tactic| (refine' enterC ?kS ?k6 ?k7 ?k9 ?kB ?kD ?_ ?c2 ?c3 ?c4; (case kS => first | assumption | exact Room.n (by assumption)); (case k6 => k_is); (case k7 => k_is); (case k9 => exact BindsTo.of_eq rfl); (case kB => exact rfl); (case kD => decide +kernel); (case c2 => exact rfl); (case c3 => exact rfl); (case c4 => exact rfl); k_whole; intro dp' un' gd' env' outer' base' g' h' L' p' loose' mean' mg' mb' tk' cells' hd' hu' F' N' Y' B' X' T' G' lt'; (try dsimp only); k_cells Y'; (try simp only [List.cons_append, List.nil_append] at N'); (try k_fold)))
local macro_rules | `(tactic| k_room) => `(tactic| ((try simp only [depth_under_make, depth_under_kw, depth_in1, depth_deeper, depth_caller]); (try dsimp only); omega))
theorem hideQ {α : Type} {M : Model} {A : Around} {t : Sem α} {E : Value → Shared → Prop} {s : Shared} {Q : α → Shared → Prop} (h : ∀ K : α → Shared → Prop, (∀ v s', Q v s' → K v s') → wpAny M A t K E s) : wpAny M A t Q E s := h Q fun _ _ h => h
theorem name_news {g h : Heap} {L : Addr} {news : List (Addr × Obj)} (N : News g L h news) : ∃ nn, nn = news ∧ News g L h nn := ⟨_, rfl, N⟩
theorem pay_kids {t t' : T} {j : Nat} (e : t.kids[j]? = some t') : t.pay = T.encs t.kids := by
  cases t with
  | leaf b => simp [T.kids] at e
  | node ks => rfl
theorem kids_dep {t t' : T} {j : Nat} (e : t.kids[j]? = some t') : t'.dep + 1 ≤ t.dep := by
  cases t with
  | leaf b => simp [T.kids] at e
  | node ks => have := T.dep_le (ts := ks) e; simp only [T.dep]; omega
theorem kids_ok {t t' : T} {j : Nat} (ok : t.ok) (e : t.kids[j]? = some t') : t'.ok := by
  cases t with
  | leaf b => simp [T.kids] at e
  | node ks => rw [T.ok] at ok; exact T.oks_get ok.2 e
theorem kids_len {t : T} (ok : t.ok) : t.kids.length ≤ 4 := by
  cases t with
  | leaf b => simp [T.kids]
  | node ks => rw [T.ok] at ok; exact ok.1
/-- where a kid stands -/
theorem kid_at {t t' : T} {i j : Nat} {d rest : List UInt8} (hat : d.drop i = t.enc ++ rest) (e : t.kids[j]? = some t') : ∃ rest', d.drop (i + t.hd.length + (T.encs (t.kids.take j)).length) = t'.enc ++ rest' ∧
    t.hd.length + (T.encs (t.kids.take j)).length + t'.enc.length ≤ t.enc.length := by
  have h1 := (encs_at e).1
  have h2 := pay_kids e
  refine ⟨T.encs (t.kids.drop (j + 1)) ++ rest, ?_, ?_⟩
  · rw [← List.drop_drop, ← List.drop_drop, hat, T.enc_eq, List.append_assoc, List.drop_left, h2, h1, List.append_assoc, List.drop_left, List.append_assoc]
  · have e1 : t.enc.length = t.hd.length + t.pay.length := by rw [T.enc_eq, List.length_append]
    rw [e1, h2, h1]; simp only [List.length_append]; omega
theorem PIn.make {P : View} {t : T} {a : Addr} {bb : Array UInt8} {tok : Tok} {vs : List Value} {n : Nat} (h1 : P a (W.listOf (List.toArray (.bytes bb tok :: vs)) n)) (h2 : bb.toList = t.enc) (h3 : PsIn P t.kids vs) : PIn P t (.ref a) := by
  cases t with
  | leaf b =>
    simp only [T.kids, PsIn] at h3
    subst h3
    simp only [PIn]
    exact ⟨a, bb, tok, n, rfl, h1, h2⟩
  | node ks =>
    simp only [PIn]
    exact ⟨a, bb, tok, vs, n, rfl, h1, h2, h3⟩
local macro_rules | `(tactic| walk_at "subscriptTail Name Constant ref int") => `(tactic| ((with_reducible show wpAny _ _ (subscriptTail _ _ (Value.ref _) (Value.int _ _)) _ _ _); k_dflt (refine' item_tupleT ?t ?a ?b ?c ?d ?_; (case t => first | exact News.isTup (by k_asm) (by k_mem) | exact Fr.tup (by assumption) (by assumption)); (case a => decide); (case b => decide); (case c => first | rfl | decide); (case d => first | rfl | simp); k_whole)))
local macro_rules | `(tactic| walk_at "eval Name") => `(tactic| ((with_unfolding_all refine guard_local (by rfl) ?_); k_dflt (refine' ld ?k1 ?k2 ?_; (case k1 => k_asm); (case k2 => assumption); k_whole)))
theorem Ground.tup {g : Heap} {a : Addr} {xs : Array Value} (h : g.get? a = some (tupO xs)) : IsTup g a xs := ⟨_, h, rfl, 0, rfl⟩
def CutSpec (t : T) : Prop := t.ok → t.enc.length < 65536 → ∀ (w : World) (A : Around) (s : Shared) (d : Array UInt8) (i : Nat) (rest : List UInt8) (v : Value) (td : Tok) (Q E : Value → Shared → Prop), Room w A s.heap t.dep → d.size ≤ 16777216 → d.toList.drop i = t.enc ++ rest → PlIn (vw s.heap) t i v →
  (∀ h' tk' pv, Ext s.heap h' → PIn (fresh s.heap h') t pv → Q pv { s with heap := h', toks := tk' }) → wpAny (model prog w) A (call (.ref 1828) [.bytes d td, v]) Q E s
theorem dep_pos (t : T) : ∃ k, t.dep = k + 1 := by cases t <;> exact ⟨_, rfl⟩
theorem cut_turn (t : T) (ih : ∀ t' ∈ t.kids, CutSpec t') : CutSpec t := by
  intro ok hlen w A s d i rest v td Q E R hz hat hpl hret
  obtain ⟨a, tv, q1, q2, q3, l, n, kvs, rfl, hT, htv, hK, hks⟩ := hpl.tup
  obtain ⟨kd, hkd⟩ := dep_pos t
  refine wpAny_call ?_
  have R' : RoomN w A s.heap (kd + 1) [] := Room.n (hkd ▸ R)
  walk_at "enterC"
  rename_i dp un gd env outer base g h₁ L' p loose mean mg mb tk0 hdp hun F B X Tp G lt oc hoc N
  have G : Ext s.heap g := fun b o e => G b o (by simp) e
  have hTg := Ground.tup (G _ _ hT)
  have hKg : Heap.IsList g l kvs.toArray := ⟨_, G _ _ hK, rfl, n, rfl⟩
  k_steps
  show wpAny _ _ _ _ _ _
  rename Fr _ _ _ _ => F
  rename News _ _ _ _ => N
  obtain ⟨m₀, F, hm⟩ : ∃ m₀, Fr g L' _ m₀ ∧ m₀ (Str.ofString "place") = some (.ref a) := ⟨_, F, rfl⟩
  obtain ⟨nn, enn, N⟩ := name_news N
  refine ListComp_list (fun j ys h => Fr g L' h m₀ ∧ ∃ R, News g L' h (nn ++ R) ∧ PsIn (inR R) (t.kids.take j) ys) ?_ (by rfl) (by rfl) (by decide) (by rfl) (by decide) (by rfl) ?_
  · rintro j ys h h' hE ⟨F, R, N, hi⟩
    exact ⟨F.keeps hE, R, News.grown N hE, hi⟩
  refine hideQ fun K hq => ?_
  k_steps
  all_goals (try k_data)
  refine hq _ _ ?_
  rename Fr _ _ _ _ => F
  rename News _ _ _ _ => N
  refine ⟨l, kvs, rfl, hKg.at fun o e => F.keep _ o e, ?_, ⟨F, [], by rw [List.append_nil]; exact N, ?_⟩, ?_, ?_⟩
  · rw [hks.length]; exact Nat.le_trans (kids_len ok) (by decide)
  · simp [PsIn]
  · rintro C j v ys Hd s₂ m₂ E' hHd hal hi hP hn hmx ⟨h₂, tk₂, rfl⟩ ⟨F₂, Rl, N₂, hys⟩ hlen' hC
    have F := F₂.keeps hide_ext
    have N := News.grown N₂ hide_ext
    rw [enn] at N
    dsimp only at F N
    k_steps
    show wpAny _ _ _ _ _ _
    obtain ⟨t', et, htv'⟩ := hks.get hP
    obtain ⟨rest', hat', hl'⟩ := kid_at hat et
    have hkd' := kids_dep et
    refine ih t' (List.mem_of_getElem? et) (kids_ok ok et) (by omega) w _ _ d _ rest' v _ _ _ (by walk_at "room"; omega) hz hat' (PlIn.mono (fun a o e => F.keep _ _ (G _ _ e)) _ _ _ htv') fun h' tk' pv hE hpv => ?_
    obtain ⟨R1, hR1, hpv1⟩ := PIn.led _ _ hpv
    have htk : t.kids.take (j + 1) = t.kids.take j ++ [t'] := by rw [List.take_add_one, et]; rfl
    have hR1' : ∀ p ∈ R1, fresh h₂ (hideAll h' Hd) p.1 p.2 := fun p hp => ⟨(hR1 p hp).1, hideAll_get _ (hR1 p hp).2 fun hb => by
      obtain ⟨o', ho'⟩ := hal _ hb
      have := (hR1 p hp).1
      rw [ho'] at this; cases this⟩
    refine ⟨h', tk', rfl, fun b _ o e => hE b o e, F₂.keeps (ext_hide hE), R1 ++ Rl, News.sub (News.plus F (News.grown N₂ (ext_hide hE)) R1 hR1') (by
      intro p hp; simp only [List.mem_append] at hp ⊢; rcases hp with q | q | q <;> simp [q]), ?_⟩
    rw [htk]
    exact PsIn.snoc (PsIn.mono inR_r _ _ hys) (PIn.mono inR_l _ _ hpv1)
  · intro D ys h' tk' Hd k hlen' hHd hD hk' ⟨F₂, Rl, N₂, hys⟩
    have N := news_done F (News.grown N₂ hide_ext) (hHd D hD) hk'
    replace F := F₂.keeps hide_ext
    rw [enn] at N
    simp only [List.cons_append, List.nil_append] at N
    rw [hks.length, List.take_length] at hys
    k_steps
    show wpAny _ _ _ _ _ _
    rename News _ _ _ _ => N
    rename Fr _ _ _ _ => F
    have hyl : ys.length ≤ 4 := by rw [hlen', hks.length]; exact kids_len ok
    refine add_lists (vs := [Value.bytes (cutL d.toList (i : Int).toNat ((i + t.enc.length : Nat) : Int).toNat).toArray _]) (ws := ys) F N ⟨_, (N _ (.tail _ (.head _))).1, rfl, _, rfl⟩ ⟨_, (N _ (.head _)).1, rfl, _, rfl⟩ ?_ (by rw [List.length_singleton]; exact Nat.le_trans (by omega) (by decide : 5 ≤ sizeLine))
    intro h5 F5 N5
    rename News _ _ _ _ => N
    rename Fr _ _ _ _ => F
    k_steps
    show Leave0 g L' _ _ _
    refine leave0_ (by assumption) G ?_
    intro hE
    have hN := N _ (.head _)
    refine hret _ _ _ hE (PIn.make (vs := ys) (n := 0) (⟨none_of G hN.2.2, hN.1⟩ : fresh s.heap _ _ _) ?_ (PsIn.mono (inR_fresh G N ?_) _ _ hys))
    · have := cut_at hat 0 t.enc.length
      simp only [Nat.add_zero, Nat.sub_zero, List.drop_zero, List.take_left] at this
      show cutL d.toList (i : Int).toNat ((i + t.enc.length : Nat) : Int).toNat = t.enc
      rw [Int.toNat_natCast, Int.toNat_natCast]; exact this
    · intro p hp; repeat (first | exact hp | refine List.mem_cons_of_mem _ ?_)
theorem cut_specN : ∀ (n : Nat) (t : T), t.dep ≤ n → CutSpec t := by
  intro n
  induction n with
  | zero => intro t h; cases t <;> simp only [T.dep] at h <;> omega
  | succ n ih =>
    intro t h
    refine cut_turn t fun t' ht => ?_
    obtain ⟨i, hi, e⟩ := List.getElem_of_mem ht
    have := kids_dep (t := t) (t' := t') (j := i) (by rw [List.getElem?_eq_getElem hi, e])
    exact ih t' (by omega)
theorem cut_spec (t : T) : CutSpec t := cut_specN _ t (Nat.le_refl _)
end Mine
end
section
open PySem PySem.W PySem.Calls PyProof.Rows PySem.Spec
namespace Mine
theorem fresh_F13 : True := by
  w_top off
  run_tac do
    walkLines.set (0, {})
    walkStart.set 0
    walkLate.set false
  trivial
abbrev fr (l : List Env) : List Addr := l.filterMap (·.frame)
def framesOf (A : Around) : List Addr := match A.frames with
  | some l => fr l
  | none => []
/-- all but l stands as it stood; a frame up to its slots -/
def ExtT (fs l : List Addr) (h h' : Heap) : Prop := ∀ b o, b ∉ l → h.get? b = some o → (b ∉ fs → h'.get? b = some o) ∧ (b ∈ fs → ∃ sl, h'.get? b = some { o with slots := sl })
theorem ExtB.turn {fs l : List Addr} {h h' : Heap} (x : ExtB l h h') : ExtT fs l h h' := fun b o n e => ⟨fun _ => x b o n e, fun _ => ⟨o.slots, x b o n e⟩⟩
theorem ExtT.trans {fs l : List Addr} {a b c : Heap} (x : ExtT fs l a b) (y : ExtT fs l b c) : ExtT fs l a c := fun q o n e => by
  by_cases h : q ∈ fs
  · refine ⟨fun k => absurd h k, fun _ => ?_⟩
    obtain ⟨s1, h1⟩ := (x q o n e).2 h
    obtain ⟨s2, h2⟩ := (y q _ n h1).2 h
    exact ⟨s2, h2⟩
  · exact ⟨fun _ => (y q o n ((x q o n e).1 h)).1 h, fun k => absurd k h⟩
theorem ExtT.mono {fs fs' l l' : List Addr} {h h' : Heap} (x : ExtT fs l h h') (k : ∀ a ∈ l, a ∈ l') (kf : ∀ a ∈ fs, a ∈ fs') : ExtT fs' l' h h' := fun b o n e => by
  have := x b o (fun q => n (k _ q)) e
  by_cases hb : b ∈ fs
  · exact ⟨fun q => absurd (kf _ hb) q, fun _ => this.2 hb⟩
  · exact ⟨fun _ => this.1 hb, fun _ => ⟨o.slots, this.1 hb⟩⟩

/-- a place at which a def may be called, where exceptions may fly below -/
def SiteS (w : World) (A : Around) (h : Heap) (news : List (Addr × Obj)) : Prop :=
  ∃ A₀ base outer h₀ env L m p loose mean mg mb, Below A₀ base outer h₀ ∧ Fr h₀ L h m ∧ News h₀ L h news ∧ (hd.heap_1 w.params).In base ∧ Top p loose mean mg mb base ∧ KtsDicts (fr outer) h₀ ∧ A.frames = some (env :: outer) ∧ env.frame = some L ∧ env.scope.kind = .function ∧ A.handled = none
structure RoomS (w : World) (A : Around) (h : Heap) (k : Nat) (news : List (Addr × Obj)) : Prop where
  site : SiteS w A h news
  depth : A.depth + k < recursionLimit
  units : A.units + 12 * k < cLine
theorem RoomS.le {w : World} {A : Around} {h : Heap} {k k' : Nat} {news} (R : RoomS w A h k news) (e : k' ≤ k) : RoomS w A h k' news := ⟨R.site, by have := R.depth; omega, by have := R.units; omega⟩
theorem RoomS.n {w : World} {A : Around} {h : Heap} {k : Nat} {news} (R : RoomS w A h k news) : RoomN w A h k news :=
  ⟨let ⟨A₀, base, outer, h₀, env, L, m, p, loose, mean, mg, mb, B, F, N, X, T, _, r⟩ := R.site; ⟨A₀, base, outer, h₀, env, L, m, p, loose, mean, mg, mb, B, F, N, X.keeps B.stays, T.keeps B.stays, r⟩, R.depth, R.units⟩
theorem RoomS.sub {w : World} {A : Around} {h : Heap} {k : Nat} {news news' : List (Addr × Obj)} (R : RoomS w A h k news) (hs : ∀ p ∈ news', p ∈ news) : RoomS w A h k news' :=
  ⟨let ⟨A₀, base, outer, h₀, env, L, m, p, loose, mean, mg, mb, B, F, N, r⟩ := R.site; ⟨A₀, base, outer, h₀, env, L, m, p, loose, mean, mg, mb, B, F, (fun q hq => N q (hs q hq)), r⟩, R.depth, R.units⟩
@[irreducible] def LeaveR (R : Result → Shared → Prop) (v : Value) (s' : Shared) : Prop := R (.ok (.ret v)) s'
theorem leaveR_ {R : Result → Shared → Prop} {v : Value} {s' : Shared} (h : R (.ok (.ret v)) s') : LeaveR R v s' := by
  unfold LeaveR; exact h
theorem leaveR_out {R : Result → Shared → Prop} {v : Value} {s' : Shared} (h : LeaveR R v s') : R (.ok (.ret v)) s' := by
  unfold LeaveR at h; exact h
theorem kd_push {env : Env} {outer : List Env} {L : Addr} {g : Heap} {m : Str → Option Value} (hf : env.frame = some L) (n : g.Ns L m) (D : KtsDicts (fr outer) g) : KtsDicts (fr (env :: outer)) g := by
  intro b hb
  obtain ⟨e', he, hb'⟩ := List.mem_filterMap.mp hb
  rcases List.mem_cons.mp he with q | q
  · rw [q] at hb'
    obtain rfl : L = b := Option.some.inj (hf.symm.trans hb')
    obtain ⟨o, es, ep, h1, h2, _⟩ := n
    exact ⟨o, es, ep, h1, h2⟩
  · exact D b (List.mem_filterMap.mpr ⟨e', q, hb'⟩)
theorem kd_hide {fs l : List Addr} {g h : Heap} (D : KtsDicts fs g) (k : ∀ b o, g.get? b = some o → h.get? b = some o) : KtsDicts fs h := fun b hb =>
  let ⟨o, es, n, h1, h2⟩ := D b hb; ⟨o, es, n, k b o h1, h2⟩

theorem enterS {w : World} {A : Around} {s : Shared} {R : Result → Shared → Prop} {k : Nat} {news : List (Addr × Obj)} {name qual : Str} {params : Arguments} {body : List Stmt} {scope : Scope} {dV kV doc pm cdv ct oc : Value} {an od : Option Addr} {osl : Array (Option Value)} {f : Addr} {args : Args} {binds : List (Str × Value)}
    (S : RoomS w A s.heap (k + 1) news)
    (ho : (hd.heap_1 w.params).lookup f = some ⟨oc, od, .func (fnOf name qual params body scope dV kV doc pm an cdv ct), osl⟩) (hcd : codeIn (hd.heap_1 w.params) cdv qual = true)
    (hbind : BindsTo s (fnOf name qual params body scope dV kV doc pm an cdv ct) args binds) (hloc : ∀ y ∈ binds, scope.names.lookup y.1 = some .local)
    (h : ∀ (dp un : Nat) (gd : Option (List Code)) (env : Env) (outer : List Env) (base g h₁ : Heap) (L' : Addr) (p : Program) (loose : List Str) (mean : ExcName → Option Value) (mg mb : Str → Option Value), dp + k + 1 < recursionLimit → un + 12 * k + 12 < cLine →
      Fr g L' h₁ (fun y => binds.reverse.lookup y) → News g L' h₁ news → Below ⟨none, dp, some (env :: outer), gd, un⟩ base (env :: outer) g → (hd.heap_1 w.params).In g → Top p loose mean mg mb g → ExtB (news.map (·.1)) s.heap g →
      (hd.heap_1 w.params).In base → Top p loose mean mg mb base → KtsDicts (fr (env :: outer)) g → framesOf A = fr (env :: outer) →
      wpAny (model prog w) (Around.deeper ⟨none, dp, some (env :: outer), gd, un⟩ (envOf qual scope L' f cdv)) (execs body (envOf qual scope L' f cdv))
        (fun fl s' => LeaveR R (match fl with | .ret v => v | _ => .none) s')
        (fun e s' => wpAny (model prog w) (Around.deeper ⟨none, dp, some (env :: outer), gd, un⟩ (envOf qual scope L' f cdv)) (leaving (envOf qual scope L' f cdv) e) (fun _ s'' => R (.error e) s'') (fun e' s'' => R (.error e') s'') s')
        { s with heap := h₁, toks := s.toks + binds.length })
    (hco : scope.isCoroutine = false) (hgen : scope.isGenerator = false) (hk : scope.kind = .function)
    (hcell : ∀ x ∈ scope.names, x.2 ≠ .cell) : codeAny (model prog w) A (.call (.ref f) args) R s := by
  obtain ⟨⟨A₀, base, outer, h₀, env, L, m, p, loose, mean, mg, mb, B, F, N, X, T, D, hA, hf, hke, hh⟩, hd, hu⟩ := S
  obtain ⟨handled, dp, frs, gd, un⟩ := A
  dsimp only at hA hh hd hu
  subst hA hh
  have Xs := (X.keeps B.stays).keeps F.keep
  have Ts := T.keeps B.stays
  obtain ⟨FG, BG, st, _⟩ := groundX (A := ⟨none, dp, some (env :: outer), gd, un⟩) (R := R) B F N rfl hf hke
  refine codeAny_call_def (fd := fnOf name qual params body scope dV kV doc pm an cdv ct) (body := body) (binds := binds) (by show dp < recursionLimit; omega) (Xs _ _ ho) rfl (Ts.nolimit.keeps F.keep) (codeRec_of Xs hcd) rfl hbind hcell hloc (fun h₁ hns hk₁ => ?_) hco hgen hk
  refine wpAny_mono (h dp un gd env outer base _ h₁ s.heap.objs.size p loose mean mg mb (by omega) (by omega) ⟨hns, fun b o e => hk₁ b o (of_hideAll _ e), Nat.le_of_eq (hideAll_size _ _)⟩
    (fun p hp => ⟨hk₁ _ _ (N p hp).1, Nat.ne_of_lt (Heap.lt_size (N p hp).1), hideAll_none _ (List.mem_map_of_mem hp)⟩) BG ((X.keeps B.stays).keeps fun b o e => st b o e) (Ts.keeps fun b o e => st b o e)
    (fun b o n e => hideAll_get _ e n) X T (kd_push hf FG.ns (kd_hide (l := []) D fun b o e => st b o e)) rfl) (fun _ _ y => leaveR_out y) fun _ _ y => y

/-- the same where parameters are cells -/
theorem enterSC {w : World} {A : Around} {s : Shared} {R : Result → Shared → Prop} {k : Nat} {news : List (Addr × Obj)} {name qual : Str} {params : Arguments} {body : List Stmt} {scope : Scope} {dV kV doc pm cdv ct oc : Value} {an od : Option Addr} {osl : Array (Option Value)} {f : Addr} {args : Args} {binds : List (Str × Value)}
    (S : RoomS w A s.heap (k + 1) news)
    (ho : (hd.heap_1 w.params).lookup f = some ⟨oc, od, .func (fnOf name qual params body scope dV kV doc pm an cdv ct), osl⟩) (hcd : codeIn (hd.heap_1 w.params) cdv qual = true)
    (hbind : BindsTo s (fnOf name qual params body scope dV kV doc pm an cdv ct) args binds) (hkind : (binds.all fun y => scope.names.lookup y.1 == some .local || scope.names.lookup y.1 == some .cell) = true)
    (hnd : ((cellsFrom 0 scope.names []).map (·.1)).Nodup)
    (h : ∀ (dp un : Nat) (gd : Option (List Code)) (env : Env) (outer : List Env) (base g h₁ : Heap) (L' : Addr) (p : Program) (loose : List Str) (mean : ExcName → Option Value) (mg mb : Str → Option Value) (tk : Nat) (cells : List (Addr × Obj)), dp + k + 1 < recursionLimit → un + 12 * k + 12 < cLine →
      Fr g L' h₁ (bindL (envOfC qual scope L' f cdv).kindOf binds fun _ => none) → News g L' h₁ (cells ++ news) →
      CellsAre (bindC (envOfC qual scope L' f cdv).kindOf binds fun _ => none) (cellsFrom (L' + 1) scope.names []) cells →
      Below ⟨none, dp, some (env :: outer), gd, un⟩ base (env :: outer) g → (hd.heap_1 w.params).In g → Top p loose mean mg mb g → ExtB (news.map (·.1)) s.heap g →
      (hd.heap_1 w.params).In base → Top p loose mean mg mb base → KtsDicts (fr (env :: outer)) g → framesOf A = fr (env :: outer) →
      wpAny (model prog w) (Around.deeper ⟨none, dp, some (env :: outer), gd, un⟩ (envOfC qual scope L' f cdv)) (execs body (envOfC qual scope L' f cdv))
        (fun fl s' => LeaveR R (match fl with | .ret v => v | _ => .none) s')
        (fun e s' => wpAny (model prog w) (Around.deeper ⟨none, dp, some (env :: outer), gd, un⟩ (envOfC qual scope L' f cdv)) (leaving (envOfC qual scope L' f cdv) e) (fun _ s'' => R (.error e) s'') (fun e' s'' => R (.error e') s'') s')
        { s with heap := h₁, toks := tk })
    (hco : scope.isCoroutine = false) (hgen : scope.isGenerator = false) (hk : scope.kind = .function) : codeAny (model prog w) A (.call (.ref f) args) R s := by
  obtain ⟨⟨A₀, base, outer, h₀, env, L, m, p, loose, mean, mg, mb, B, F, N, X, T, D, hA, hf, hke, hh⟩, hd, hu⟩ := S
  obtain ⟨handled, dp, frs, gd, un⟩ := A
  dsimp only at hA hh hd hu
  subst hA hh
  have Xs := (X.keeps B.stays).keeps F.keep
  have Ts := T.keeps B.stays
  obtain ⟨FG, BG, st, _⟩ := groundX (A := ⟨none, dp, some (env :: outer), gd, un⟩) (R := R) B F N rfl hf hke
  refine codeAny_call_function (by show dp < recursionLimit; omega) (Xs _ _ ho) rfl hco hgen rfl (codeRec_of Xs hcd) (hbind _ _ _ _ ?_)
  refine wpAny_newFunctionEnv_cells hk (kindsX hkind _) fun env' he s' x => ?_
  subst he
  refine ⟨(Ts.nolimit.keeps F.keep).keeps x.toInCall.keep, codeAny_func ?_⟩
  obtain ⟨h₁, tk, rfl, _⟩ := x.done
  have hk₁ := x.toInCall.keep
  obtain ⟨cells, NC, Y⟩ := Cl.news (h₀ := s.heap) (Nat.le_refl _) fun n c hm => ⟨x.cell n c (lookup_of_mem_nodup (cellsFrom_names scope.names 0 (s.heap.objs.size + 1) [] [] rfl ▸ hnd) hm), x.above n c hm⟩
  refine wpAny_mono (h dp un gd env outer base (hideAll s.heap (news.map (·.1))) h₁ s.heap.objs.size p loose mean mg mb tk cells (by omega) (by omega) ⟨x.toInCall.ns, fun b o e => hk₁ b o (of_hideAll _ e), Nat.le_of_eq (hideAll_size _ _)⟩ (fun p hp => ?_) Y BG ((X.keeps B.stays).keeps fun b o e => st b o e) (Ts.keeps fun b o e => st b o e)
    (fun b o n e => hideAll_get _ e n) X T (kd_push hf FG.ns (kd_hide (l := []) D fun b o e => st b o e)) rfl) (fun _ _ y => leaveR_out y) fun _ _ y => y
  rcases List.mem_append.mp hp with hp | hp
  · refine ⟨(NC p hp).1, (NC p hp).2.1, ?_⟩
    cases q : (hideAll s.heap (news.map (·.1))).get? p.1 with
    | none => rfl
    | some o => have := of_hideAll _ q; rw [(NC p hp).2.2] at this; cases this
  · exact ⟨hk₁ _ _ (N p hp).1, Nat.ne_of_lt (Heap.lt_size (N p hp).1), hideAll_none _ (List.mem_map_of_mem hp)⟩

/-- room from within -/
theorem roomS_in {w : World} {dp un : Nat} {gd : Option (List Code)} {env : Env} {outer : List Env} {base g h : Heap} {L' : Addr} {p : Program} {loose : List Str} {mean : ExcName → Option Value} {mg mb m : Str → Option Value} {e : Env} {k : Nat} {news : List (Addr × Obj)}
    (hdp : dp + k + 1 < recursionLimit) (hu : un + 12 * k + 12 < cLine) (F : Fr g L' h m) (N : News g L' h news) (B : Below ⟨none, dp, some (env :: outer), gd, un⟩ base (env :: outer) g) (XB : (hd.heap_1 w.params).In base) (TB : Top p loose mean mg mb base) (D : KtsDicts (fr (env :: outer)) g)
    (hf : e.frame = some L') (hk : e.scope.kind = .function) : RoomS w (Around.deeper ⟨none, dp, some (env :: outer), gd, un⟩ e) h k news :=
  ⟨⟨_, base, env :: outer, g, e, L', m, p, loose, mean, mg, mb, B, F, N, XB, TB, D, rfl, hf, hk, rfl⟩, by show dp + 1 + k < _; omega, by show un + 3 + 12 * k < _; omega⟩

/-- after a call below which exceptions flew: the ground anew -/
theorem regain {A₀ : Around} {base g h h' : Heap} {outer : List Env} {L : Addr} {m : Str → Option Value} {news : List (Addr × Obj)} {l : List Addr} {e : Env} (hf : e.frame = some L)
    (B : Below A₀ base outer g) (F : Fr g L h m) (N : News g L h news) (D : KtsDicts (fr outer) g) (hE : ExtT (fr (e :: outer)) l h h') (hl : ∀ a ∈ l, ∃ o, (a, o) ∈ news) :
    ∃ g', KtsTurn (fr outer) g g' ∧ Fr g' L h' m ∧ Below A₀ base outer g' ∧ KtsDicts (fr outer) g' ∧ (∀ p ∈ news, p.1 ∉ l → h'.get? p.1 = some p.2 ∧ p.1 ≠ L ∧ g'.get? p.1 = none) := by
  have hmem : ∀ b, b ∈ fr (e :: outer) → b = L ∨ b ∈ fr outer := by
    intro b hb
    obtain ⟨e', he, hb'⟩ := List.mem_filterMap.mp hb
    rcases List.mem_cons.mp he with q | q
    · rw [q] at hb'
      exact .inl (Option.some.inj (hb'.symm.trans hf))
    · exact .inr (List.mem_filterMap.mpr ⟨e', q, hb'⟩)
  have hin : ∀ b, b ∈ fr outer → b ∈ fr (e :: outer) := fun b hb => by
    obtain ⟨e', he, hb⟩ := List.mem_filterMap.mp hb
    exact List.mem_filterMap.mpr ⟨e', .tail _ he, hb⟩
  have hLin : L ∈ fr (e :: outer) := List.mem_filterMap.mpr ⟨e, .head _, hf⟩
  have gl : ∀ b o, g.get? b = some o → b ∉ l := fun b o e' hb => by
    obtain ⟨o', ho'⟩ := hl b hb
    rw [(N _ ho').2.2] at e'; cases e'
  have nL : ∀ b o, g.get? b = some o → b ≠ L := fun b o e' q => by
    rw [q, kts_self F] at e'; cases e'
  obtain ⟨TT, S⟩ := kts_turn_at (h := h') (fs := fr outer) (g := g)
    (fun b hb => let ⟨o, _, _, h1, _⟩ := D b hb; ⟨o, h1⟩)
    (fun b o e' nb => (hE b o (gl b o e') (F.keep b o e')).1 fun q => (hmem b q).elim (nL b o e') nb)
    (fun b o e' hb => (hE b o (gl b o e') (F.keep b o e')).2 (hin b hb))
  refine ⟨_, TT, ⟨?_, S, by rw [TT.size]; exact F.above⟩, ⟨B.stack, fun b o e' => TT.other b o (B.stays b o e') (fun hm => ?_), B.frames.of_keeps fun b o e' _ => ?_⟩, D.turn TT, ?_⟩
  · obtain ⟨o, es, ep, h1, h2, h3⟩ := F.ns
    have : L ∉ l := fun q => by
      obtain ⟨o', ho'⟩ := hl L q
      exact (N _ ho').2.1 rfl
    obtain ⟨sl, hs⟩ := (hE L o this h1).2 hLin
    exact ⟨_, es, ep, hs, h2, h3⟩
  · rw [(B.frames.mem hm).1] at e'; cases e'
  · obtain ⟨sl, hs⟩ := TT.up e'
    exact ⟨_, hs, rfl⟩
  · intro p hp np
    have hN := N p hp
    refine ⟨(hE p.1 p.2 np hN.1).1 fun q => ?_, hN.2.1, TT.none_ _ hN.2.2⟩
    rcases hmem _ q with q | q
    · exact hN.2.1 q
    · obtain ⟨o, es, n, h1, h2⟩ := D _ q
      rw [hN.2.2] at h1; cases h1
end Mine
end
section
open PySem PySem.W PySem.Calls PyProof.Rows PySem.Spec
namespace Mine
theorem fresh_F14 : True := by
  w_top off
  run_tac do
    walkLines.set (0, {})
    walkStart.set 0
    walkLate.set false
  trivial
def ForT (L : Addr) (s : Shared) (own : List (Addr × Obj)) (Jn : Heap → (Str → Option Value) → List (Addr × Obj) → Prop) (Q : Flow → Shared → Prop) (f : Flow) (s₃ : Shared) : Prop :=
  match f with
  | .next | .cont => ∃ h' tk g₂ m₂ news₂, s₃ = { s with heap := h', toks := tk } ∧ Fr g₂ L h' m₂ ∧ News g₂ L h' (news₂ ++ own) ∧ (∀ p ∈ own, ∀ q ∈ news₂, q.1 ≠ p.1) ∧ Jn g₂ m₂ news₂
  | .brk => Q .next s₃
  | .ret v => Q (.ret v) s₃
section
variable {prog : Program} {w : World} {A : Around} {E : Value → Shared → Prop} {Q : Flow → Shared → Prop} {s : Shared} {env : Env}
/-- a for over a range; the ground may turn -/
theorem For_R {x : Str} {px pos : Pos} {iter : Expr} {body : List Stmt} (hh : A.handled = none) (hx : env.kindOf x = some .local)
    (hp : (env.scope.kind == .class || (env.scope.kind == .module && env.locals != env.globals)) = false) (J : Nat → Heap → (Str → Option Value) → List (Addr × Obj) → Prop)
    (hit : wpAny (model prog w) A (eval iter env) (fun xv s₁ => ∃ r a b c t u v, ∃ (n : Nat) (g : Heap) (m : Str → Option Value) (news : List (Addr × Obj)), xv = .ref r ∧ IsRange s₁.heap r a b c t u v ∧ Builtin.Range.small a b c = true ∧ Builtin.Range.rangeSize a b c = (n : Int) ∧
      Fr g env.locals s₁.heap m ∧ News g env.locals s₁.heap news ∧ J 0 g m news ∧
      (∀ i vt g₁ m₁ news₁ own h tk, i < n → J i g₁ m₁ news₁ → (∀ p ∈ own, ∀ q ∈ news₁, q.1 ≠ p.1) → Fr g₁ env.locals h (fun y => if y = x then some (.int (a + (i : Nat) * c) vt) else m₁ y) → News g₁ env.locals h (news₁ ++ own) →
        wpAny (model prog w) A (execs body env) (ForT env.locals s₁ own (J (i + 1)) Q) E { s₁ with heap := h, toks := tk }) ∧
      (∀ h' tk g' m' news', Fr g' env.locals h' m' → News g' env.locals h' news' → J n g' m' news' → Q .next { s₁ with heap := h', toks := tk })) E s)
    (hs : ∀ x, foldedSetIterable iter env x = pure x := by intro _; rfl)
    (hE : PassesOwn (model prog w) A env E := by passes_own) :
    wpAny (model prog w) A (exec (.For (.Name x px) iter body [] pos) env) Q E s := by
  refine wpAny_For (wpAny_mono hit (fun xv s₁ h₁ => ?_) fun _ _ e => e) hs
  obtain ⟨r, a, b, c, t, u, v, n, g, m, news, rfl, hr, hsm, hn, F, N, hJ, step, done⟩ := h₁
  refine wpAny_pyIter_range hr hsm ?_
  rw [hn]
  generalize hI : s₁.heap.objs.size = I
  have hW := Walks.range (prog := prog) (w := w) (A := A) hh I a c n
  have hfr : ∀ b o, s₁.heap.get? b = some o → b ≠ I := fun b o e q => absurd (Heap.lt_size e) (by rw [q, ← hI]; exact Nat.lt_irrefl _)
  refine codeAny_forLoop (fun k s' => ∃ i h tk g m news, s' = { s₁ with heap := h, toks := tk } ∧ IsRangeIter h I (a + (i : Nat) * c) ((n : Int) - (i : Nat)) c ∧ Fr g env.locals h m ∧ News g env.locals h news ∧ g.get? I = none ∧ I ≠ env.locals ∧ (∀ q ∈ news, q.1 ≠ I) ∧ J i g m news ∧ i ≤ n ∧ k = n + 1 - i) ?_ (n + 1)
    ⟨0, _, _, g, m, news, rfl, ?_, F.push _, News.pushKeep N _, ?_, ?_, fun q hq => hfr _ _ (N q hq).1, hJ, Nat.zero_le _, rfl⟩
  · rintro k s' ⟨i, h, tk, g₁, m₁, news₁, rfl, hst, F₁, N₁, gI, nL, nI, hJ₁, hi, rfl⟩
    by_cases hlt : i < n
    · refine hW.item i _ _ _ hlt hst fun v h₁ tk₁ hPv hst₁ hk₁ => ?_
      obtain ⟨vt, rfl⟩ := hPv
      have hk : ∀ b o, b ≠ I → h.get? b = some o → h₁.get? b = some o := fun b o n e => hk₁ b o (by simpa using n) e
      refine wpAny_assign_Name (wpAny_storeName_local hx (F₁.ns.at' fun o e => hk _ o (Ne.symm nL) e) (fun h₂ hn₂ hs₂ => ?_) hp)
      have hst₂ : IsRangeIter h₂ I (a + ((i + 1 : Nat) : Nat) * c) ((n : Int) - ((i + 1 : Nat) : Nat)) c := hs₂.extBut I _ nL hst₁
      obtain ⟨oI, hoI, hIs⟩ : ∃ oI, h₂.get? I = some oI ∧ ∀ h : Heap, h.get? I = some oI → IsRangeIter h I (a + ((i + 1 : Nat) : Nat) * c) ((n : Int) - ((i + 1 : Nat) : Nat)) c := ⟨_, hst₂, fun _ e => e⟩
      have keep₂ : ∀ b o, b ≠ I → b ≠ env.locals → h.get? b = some o → h₂.get? b = some o := fun b o n1 n2 e => hs₂.extBut b o n2 (hk b o n1 e)
      have F₂ : Fr g₁ env.locals h₂ (fun y => if y = x then some (.int (a + (i : Nat) * c) vt) else m₁ y) := ⟨hn₂, fun b o e => keep₂ b o (fun q => by rw [q, gI] at e; cases e) (fun q => by
        rw [q, kts_self F₁] at e; cases e) (F₁.keep b o e), F₁.above⟩
      have N₂ : News g₁ env.locals h₂ (news₁ ++ [(I, oI)]) := by
        intro p hp
        rcases List.mem_append.mp hp with hp | hp
        · have := N₁ p hp
          exact ⟨keep₂ _ _ (nI p hp) this.2.1 this.1, this.2⟩
        · rw [List.mem_singleton.mp hp]
          exact ⟨hoI, nL, gI⟩
      refine wpAny_mono (step i vt g₁ m₁ news₁ [(I, oI)] h₂ _ hlt hJ₁ (fun p hp q hq => by rw [List.mem_singleton.mp hp]; exact nI q hq) F₂ N₂) (fun f s₃ h₃ => ?_) hE
      have fin : (∃ h' tk g₂ m₂ news₂, s₃ = { s₁ with heap := h', toks := tk } ∧ Fr g₂ env.locals h' m₂ ∧ News g₂ env.locals h' (news₂ ++ [(I, oI)]) ∧ (∀ p ∈ [(I, oI)], ∀ q ∈ news₂, q.1 ≠ p.1) ∧ J (i + 1) g₂ m₂ news₂) → ∃ k', k' < n + 1 - i ∧ ∃ i h tk g m news, s₃ = { s₁ with heap := h, toks := tk } ∧ IsRangeIter h I (a + (i : Nat) * c) ((n : Int) - (i : Nat)) c ∧ Fr g env.locals h m ∧ News g env.locals h news ∧ g.get? I = none ∧ I ≠ env.locals ∧ (∀ q ∈ news, q.1 ≠ I) ∧ J i g m news ∧ i ≤ n ∧ k' = n + 1 - i := by
        rintro ⟨h', tk', g₂, m₂, news₂, e, F₃, N₃, hd, hJ₃⟩
        have hI3 := N₃ _ (List.mem_append_right _ (.head _))
        exact ⟨n + 1 - (i + 1), by omega, i + 1, h', tk', g₂, m₂, news₂, e, hIs _ hI3.1, F₃, (fun p hp => N₃ p (List.mem_append_left _ hp)), hI3.2.2, hI3.2.1, (fun q hq => hd _ (.head _) q hq), hJ₃, hlt, rfl⟩
      cases f with
      | next => exact fin h₃
      | cont => exact fin h₃
      | brk => exact h₃
      | ret v => exact h₃
    · obtain rfl : i = n := by omega
      refine hW.done _ _ _ hst fun h₁ tk₁ hk₁ => ?_
      have hk : ∀ b o, b ≠ I → h.get? b = some o → h₁.get? b = some o := fun b o n e => hk₁ b o (by simpa using n) e
      refine wpAny_execs_nil ?_
      refine done h₁ tk₁ g₁ m₁ news₁ ⟨F₁.ns.at' fun o e => hk _ o (Ne.symm nL) e, fun b o e => hk b o (fun q => by rw [q, gI] at e; cases e) (F₁.keep b o e), F₁.above⟩ (fun p hp => ⟨hk _ _ (nI p hp) (N₁ p hp).1, (N₁ p hp).2⟩) hJ₁
  · show IsRangeIter _ _ _ _ _
    rw [← hI]
    simpa using Heap.get?_push_size s₁.heap rfl
  · cases e : g.get? I with
    | none => rfl
    | some o => exact absurd rfl (hfr _ _ (F.keep _ _ e))
  · rintro rfl
    exact hfr _ _ F.ns.choose_spec.choose_spec.choose_spec.1 rfl
end
end Mine
end
section
open PySem PySem.W PySem.Calls PyProof.Rows PySem.Spec
namespace Mine
theorem fresh_L2 : True := by
  w_top off
  run_tac do
    walkLines.set (0, {})
    walkStart.set 0
    walkLate.set false
  trivial
local macro_rules | `(tactic| walk_at "enter") => `(tactic| (refine' enter (by assumption) ?k6 ?k7 ?k9 ?kB ?_ ?c2 ?c3 ?c4 ?c5; (case k6 => k_is); (case k7 => k_is); (case k9 => exact BindsTo.of_eq rfl); (case c5 => decide); (case kB => exact locs rfl); (case c2 => exact rfl); (case c3 => exact rfl); (case c4 => exact rfl); k_whole; intro dp' un' gd' env' outer' base' g' h' L' p' loose' mean' mg' mb' hd' hu' F' N' B' X' T' G'; (try dsimp only); (try k_fold)))
local macro_rules | `(tactic| walk_at "room") => `(tactic| (refine Room.le (room_in (by assumption) (by assumption) (by assumption) (by assumption) (by assumption) (by assumption) (by rfl) (by rfl)) ?_))
local macro_rules | `(tactic| walk_at "subscriptTail") => `(tactic| ((with_reducible show wpAny _ _ (subscriptTail _ _ (Value.bytes _ _) (Value.int _ _)) _ _ _); (refine item_b (by omega) (by omega) (by omega) ?_ (by with_unfolding_all rfl) (by intro _; with_unfolding_all rfl))))
local macro_rules | `(tactic| walk_at "subscriptTail") => `(tactic| ((with_reducible show wpAny _ _ (subscriptTail _ _ (Value.ref 1450) (Value.int _ _)) _ _ _); (refine item_all (by assumption) (by assumption) (by omega) (by omega) ?_ (by with_unfolding_all rfl)); intro _))
local macro_rules | `(tactic| walk_at "binaryOp Add bytes bytes") => `(tactic| ((with_reducible show wpAny _ _ (binaryOp Operator.Add (Value.bytes _ _) (Value.bytes _ _)) _ _ _); (refine KBy.add_bytes (by first | omega | (simp; omega)) ?_); intro _ _))
local macro_rules | `(tactic| walk_at "eval ListComp") => `(tactic| (refine stop_ ?_))
local macro_rules | `(tactic| walk_at "call ref") => `(tactic| ((with_reducible show wpAny _ _ (call (Value.ref 1722) _) _ _ _); refine stop_ ?_))
local macro_rules | `(tactic| walk_at "call ref") => `(tactic| ((with_reducible show wpAny _ _ (call (Value.ref 1729) _) _ _ _); refine stop_ ?_))
local macro_rules | `(tactic| walk_at "call ref") => `(tactic| ((with_reducible show wpAny _ _ (call (Value.ref 1748) _) _ _ _); refine stop_ ?_))
local macro_rules | `(tactic| walk_at "eval GeneratorExp") => `(tactic| (refine stop_ ?_))
local macro_rules | `(tactic| walk_at "call builtin:bytes.join") => `(tactic| (refine stop_ ?_))
local macro_rules | `(tactic| walk_at "getMethod bytes") => `(tactic| (refine method_join ?_))
local macro_rules | `(tactic| walk_at "call builtin:isinstance") => `(tactic| ((with_reducible show wpAny _ _ (call _ [Value.ref _, Value.ref _]) _ _ _); refine' kia_tup kitx_list ?X ?c ?p ?ee ?nb ?_; (case c => exact kitAt_F (by assumption) (by assumption)); (case X => k_in); (case p => kit_tp); (case ee => kit_is); (case nb => kit_nb); k_whole; intro _))

local macro_rules | `(tactic| walk_at "subscriptTail") => `(tactic| ((with_reducible show wpAny _ _ (subscriptTail _ _ (Value.bytes _ _) (Value.ref _)) _ _ _); (with_reducible rename Fr _ _ _ _ => F'); (with_reducible rename News _ _ _ _ => N'); (refine slice_b (s := ⟨_, _, _, _, _⟩) F' N' (by omega) (by omega) (by omega) ?_); intro _ _ _ _ _))


local macro_rules | `(tactic| walk_at "enterS") => `(tactic| (refine' enterS (by assumption) ?k6 ?k7 ?k9 ?kB ?_ ?c2 ?c3 ?c4 ?c5; (case k6 => k_is); (case k7 => k_is); (case k9 => first | exact binds_K (RoomN.inK (RoomS.n (by assumption))) rfl (by k_is) rfl rfl rfl | exact BindsTo.of_eq rfl); (case c5 => decide); (case kB => exact locs rfl); (case c2 => exact rfl); (case c3 => exact rfl); (case c4 => exact rfl); k_whole; intro dp' un' gd' env' outer' base' g' h' L' p' loose' mean' mg' mb' hd' hu' F' N' B' X' T' G' XB' TB' D' hfs'; (have X2' := X'; clear X'); (have T2' := T'; clear T'); (try dsimp only); (try k_fold)))
local macro_rules | `(tactic| walk_at "enterSC") => `(tactic| (refine' enterSC ?kS ?k6 ?k7 ?k9 ?kB ?kD ?_ ?c2 ?c3 ?c4; (case kS => assumption); (case k6 => k_is); (case k7 => k_is); (case k9 => exact BindsTo.of_eq rfl); (case kB => exact rfl); (case kD => decide +kernel); (case c2 => exact rfl); (case c3 => exact rfl); (case c4 => exact rfl); k_whole; intro dp' un' gd' env' outer' base' g' h' L' p' loose' mean' mg' mb' tk' cells' hd' hu' F' N' Y' B' X' T' G' XB' TB' D' hfs'; (have X2' := X'; clear X'); (have T2' := T'; clear T'); (try dsimp only); k_cells Y'; (try simp only [List.cons_append, List.nil_append] at N'); (try k_fold)))
local macro_rules | `(tactic| k_room) => `(tactic| ((try simp only [depth_under_make, depth_under_kw, depth_in1, depth_deeper, depth_caller]); (try dsimp only); omega))
/-- the fields of a lazy row -/
abbrev lzE (w : World) (k1 k2 k3 k4 k5 k6 k7 td t2 t3 t4 : Tok) (d : Array UInt8) (st en ix : Int) (e : Addr) (ln : Value) : List DictEntry :=
  [⟨PyData.keyHash w.params (Str.ofString "rlp"), .str (Str.ofString "rlp") k1, .bytes d td⟩, ⟨PyData.keyHash w.params (Str.ofString "start"), .str (Str.ofString "start") k2, .int st t2⟩, ⟨PyData.keyHash w.params (Str.ofString "end"), .str (Str.ofString "end") k3, .int en t3⟩,
   ⟨PyData.keyHash w.params (Str.ofString "index"), .str (Str.ofString "index") k4, .int ix t4⟩, ⟨PyData.keyHash w.params (Str.ofString "_elements"), .str (Str.ofString "_elements") k5, .ref e⟩, ⟨PyData.keyHash w.params (Str.ofString "_len"), .str (Str.ofString "_len") k6, ln⟩,
   ⟨PyData.keyHash w.params (Str.ofString "sedes"), .str (Str.ofString "sedes") k7, .none⟩]
theorem size_arr {α : Type} {l : List α} : l.toArray.size = l.length := List.size_toArray ..
local macro_rules | `(tactic| walk_at "call builtin:len") => `(tactic| (k_here; (with_reducible show wpAny _ _ (call (Value.builtin "len") [Value.ref _]) _ _ _); (refine call_len_list (News.isList (by k_asm) (by k_mem)) (by rw [size_arr]; omega) ?_)))
theorem turn_end {A : Around} {fs l : List Addr} {h g g' h' : Heap} {L' : Addr} {m : Str → Option Value} (hfs : framesOf A = fs) (G : ExtB l h g) (KT : KtsTurn fs g g') (F : Fr g' L' h' m) : ExtT (framesOf A) l h h' := fun b o n e => by
  have eg := G b o n e
  rw [hfs]
  exact ⟨fun q => F.keep _ _ (KT.other b o eg q), fun q => let ⟨sl, hs⟩ := KT.frame b o eg q; ⟨sl, F.keep _ _ hs⟩⟩
theorem len_spec (w : World) (A : Around) (s : Shared) (a dx e : Addr) (d : Array UInt8) (vs : List Value) (n : Nat) (st en : Int) (k1 k2 k3 k4 k5 k6 k7 td t2 t3 t4 : Tok) (Q E : Value → Shared → Prop) (h1 : @Ne Nat a dx) (h2 : @Ne Nat a e) (h3 : @Ne Nat dx e) (hv : vs.length ≤ 4)
  (R : RoomS w A s.heap 4 [(a, instObj 1787 dx), (dx, dictOf (lzE w k1 k2 k3 k4 k5 k6 k7 td t2 t3 t4 d st en en e .none) 7), (e, W.listOf vs.toArray n)])
  (hret : ∀ h' tk' tok, ExtT (framesOf A) [a, dx, e] s.heap h' → Q (.int vs.length tok) { s with heap := h', toks := tk' }) :
   wpAny (model prog w) A (call (.ref 1784) [.ref a]) Q E s := by
  refine wpAny_call ?_
  have R' : RoomS w A s.heap (3 + 1) _ := R
  walk_at "enterS"
  rename_i dp un gd env outer base g h₁ L' p loose mean mg mb hdp hun F N B G XB TB D hfs X Tp
  k_steps
  all_goals (try (exfalso; omega))
  show LeaveR _ _ _
  rename KtsTurn _ _ _ => KT
  refine leaveR_ ?_
  refine hret _ _ _ ?_
  exact turn_end hfs G KT (by assumption)
end Mine
end
section
open PySem PySem.W PySem.Calls PyProof.Rows PySem.Spec
namespace Mine
theorem fresh_L3 : True := by
  w_top off
  run_tac do
    walkLines.set (0, {})
    walkStart.set 0
    walkLate.set false
  trivial
local macro_rules | `(tactic| walk_at "enter") => `(tactic| (refine' enter (by assumption) ?k6 ?k7 ?k9 ?kB ?_ ?c2 ?c3 ?c4 ?c5; (case k6 => k_is); (case k7 => k_is); (case k9 => exact BindsTo.of_eq rfl); (case c5 => decide); (case kB => exact locs rfl); (case c2 => exact rfl); (case c3 => exact rfl); (case c4 => exact rfl); k_whole; intro dp' un' gd' env' outer' base' g' h' L' p' loose' mean' mg' mb' hd' hu' F' N' B' X' T' G'; (try dsimp only); (try k_fold)))
local macro_rules | `(tactic| walk_at "room") => `(tactic| (refine Room.le (room_in (by assumption) (by assumption) (by assumption) (by assumption) (by assumption) (by assumption) (by rfl) (by rfl)) ?_))
local macro_rules | `(tactic| walk_at "subscriptTail") => `(tactic| ((with_reducible show wpAny _ _ (subscriptTail _ _ (Value.bytes _ _) (Value.int _ _)) _ _ _); (refine item_b (by omega) (by omega) (by omega) ?_ (by with_unfolding_all rfl) (by intro _; with_unfolding_all rfl))))
local macro_rules | `(tactic| walk_at "subscriptTail") => `(tactic| ((with_reducible show wpAny _ _ (subscriptTail _ _ (Value.ref 1450) (Value.int _ _)) _ _ _); (refine item_all (by assumption) (by assumption) (by omega) (by omega) ?_ (by with_unfolding_all rfl)); intro _))
local macro_rules | `(tactic| walk_at "binaryOp Add bytes bytes") => `(tactic| ((with_reducible show wpAny _ _ (binaryOp Operator.Add (Value.bytes _ _) (Value.bytes _ _)) _ _ _); (refine KBy.add_bytes (by first | omega | (simp; omega)) ?_); intro _ _))
local macro_rules | `(tactic| walk_at "eval ListComp") => `(tactic| (refine stop_ ?_))
local macro_rules | `(tactic| walk_at "call ref") => `(tactic| ((with_reducible show wpAny _ _ (call (Value.ref 1722) _) _ _ _); refine stop_ ?_))
local macro_rules | `(tactic| walk_at "call ref") => `(tactic| ((with_reducible show wpAny _ _ (call (Value.ref 1729) _) _ _ _); refine stop_ ?_))
local macro_rules | `(tactic| walk_at "eval GeneratorExp") => `(tactic| (refine stop_ ?_))
local macro_rules | `(tactic| walk_at "call builtin:bytes.join") => `(tactic| (refine stop_ ?_))
local macro_rules | `(tactic| walk_at "getMethod bytes") => `(tactic| (refine method_join ?_))
local macro_rules | `(tactic| walk_at "call builtin:isinstance") => `(tactic| ((with_reducible show wpAny _ _ (call _ [Value.ref _, Value.ref _]) _ _ _); refine' kia_tup kitx_list ?X ?c ?p ?ee ?nb ?_; (case c => exact kitAt_F (by assumption) (by assumption)); (case X => k_in); (case p => kit_tp); (case ee => kit_is); (case nb => kit_nb); k_whole; intro _))

local macro_rules | `(tactic| walk_at "subscriptTail") => `(tactic| ((with_reducible show wpAny _ _ (subscriptTail _ _ (Value.bytes _ _) (Value.ref _)) _ _ _); (with_reducible rename Fr _ _ _ _ => F'); (with_reducible rename News _ _ _ _ => N'); (refine slice_b (s := ⟨_, _, _, _, _⟩) F' N' (by omega) (by omega) (by omega) ?_); intro _ _ _ _ _))


local macro_rules | `(tactic| k_room) => `(tactic| ((try simp only [depth_under_make, depth_under_kw, depth_in1, depth_deeper, depth_caller]); (try dsimp only); omega))
/-- a lazy item, not yet asked: what the ledger bears of it -/
def LzL (w : World) (d : Array UInt8) (td : Tok) : T → Nat → Value → List (Addr × Obj) → Prop
  | .leaf b, _, v, l => l = [] ∧ ∃ tk, v = .bytes b tk
  | .node ks, i, v, l => ∃ a dx e k1 k2 k3 k4 k5 k6 k7 t2 t3 t4 n, v = .ref a ∧ @Ne Nat a dx ∧ @Ne Nat a e ∧ @Ne Nat dx e ∧
      l = [(a, instObj 1787 dx), (dx, dictOf (lzE w k1 k2 k3 k4 k5 k6 k7 td t2 t3 t4 d ((i + (T.node ks).hd.length : Nat) : Int) ((i + (T.node ks).enc.length : Nat) : Int) ((i + (T.node ks).hd.length : Nat) : Int) e .none) 7), (e, W.listOf #[] n)]
theorem lz_end {w : World} {d : Array UInt8} {td : Tok} {ks : List T} {i : Nat} {s s' : Shared} {Q E : Value → Shared → Prop} {g : Heap} {L' : Addr} {m : Str → Option Value} {D a dx e : Addr} {k1 k2 k3 k4 k5 k6 k7 t2 t3 t4 t5 : Tok} {n : Nat} {r : List (Addr × Obj)}
    (F : Fr g L' s'.heap m) (G : Ext s.heap g)
    (N : News g L' s'.heap ((D, { cls := .type "tuple", data := .seq #[.ref a, .int ((i + (T.node ks).enc.length : Nat) : Int) t5] }) :: (e, W.listOf #[] n) :: (a, instObj 1787 dx) ::
      (dx, dictOf (lzE w k1 k2 k3 k4 k5 k6 k7 td t2 t3 t4 d ((i + (T.node ks).hd.length : Nat) : Int) ((i + (T.node ks).enc.length : Nat) : Int) ((i + (T.node ks).hd.length : Nat) : Int) e .none) 7) :: r))
    (h1 : @Ne Nat a dx) (h2 : @Ne Nat a e) (h3 : @Ne Nat dx e) (h4 : @Ne Nat a D) (h5 : @Ne Nat dx D) (h6 : @Ne Nat e D)
    (hret : ∀ h' tk' D v t3 l, Ext s.heap h' → s.heap.get? D = none → h'.get? D = some (tupO #[v, .int ((i + (T.node ks).enc.length : Nat) : Int) t3]) → LzL w d td (.node ks) i v l → (∀ p ∈ l, fresh s.heap h' p.1 p.2) → (∀ p ∈ l, @Ne Nat p.1 D) → Q (.ref D) { s with heap := h', toks := tk' })
    (hs : s' = { s with heap := s'.heap, toks := s'.toks } := by rfl) :
    Leave0 g L' (fun r s' => match r with | .ok (.ret v) => Q v s' | .ok _ => False | .error e => E e s') (.ref D) s' := by
  have hN := N _ (.head _)
  have hE' := N _ (.tail _ (.head _))
  have hA' := N _ (.tail _ (.tail _ (.head _)))
  have hD' := N _ (.tail _ (.tail _ (.tail _ (.head _))))
  refine leave0_ F G ?_
  intro hE
  rw [hs]
  refine hret _ _ D (.ref a) t5 [(a, _), (dx, _), (e, _)] hE (none_of G hN.2.2) hN.1 ⟨a, dx, e, k1, k2, k3, k4, k5, k6, k7, t2, t3, t4, n, rfl, h1, h2, h3, rfl⟩ ?_ ?_
  · intro p hp
    rcases List.mem_cons.mp hp with rfl | hp
    · exact ⟨none_of G hA'.2.2, hA'.1⟩
    rcases List.mem_cons.mp hp with rfl | hp
    · exact ⟨none_of G hD'.2.2, hD'.1⟩
    rw [List.mem_singleton.mp hp]
    exact ⟨none_of G hE'.2.2, hE'.1⟩
  · intro p hp
    rcases List.mem_cons.mp hp with rfl | hp
    · exact h4
    rcases List.mem_cons.mp hp with rfl | hp
    · exact h5
    rw [List.mem_singleton.mp hp]
    exact h6
theorem clz_spec (t : T) (ok : t.ok) (hlen : t.enc.length < 65536) (w : World) (A : Around) (s : Shared) (d : Array UInt8) (i : Nat) (rest : List UInt8) (hat : d.toList.drop i = t.enc ++ rest) (hz : d.size ≤ 16777216) (td ti : Tok) (Q E : Value → Shared → Prop) (R : Room w A s.heap 4)
    (hret : ∀ h' tk' D v t3 l, Ext s.heap h' → s.heap.get? D = none → h'.get? D = some (tupO #[v, .int ((i + t.enc.length : Nat) : Int) t3]) → LzL w d td t i v l → (∀ p ∈ l, fresh s.heap h' p.1 p.2) → (∀ p ∈ l, @Ne Nat p.1 D) → Q (.ref D) { s with heap := h', toks := tk' }) :
    wpAny (model prog w) A (call (.ref 1748) [.bytes d td, .int (i : Int) ti]) Q E s := by
  refine wpAny_call ?_
  have R' : Room w A s.heap (3 + 1) := R
  walk_at "enter"
  rename_i dp un gd env outer base g h₁ L' p loose mean mg mb hdp hun F N B X Tp G
  k_steps
  show wpAny _ _ _ _ _ _
  refine clp_spec t hlen w _ _ d _ _ hat hz _ _ _ _ (by walk_at "room"; omega) ?_
  intro h2 tk2 D1 t1 t2 t3 t4 pb1 hE1 hD1 hD1' hpb1
  unfold tupO at hD1'
  rw [← Int.natCast_add] at hD1'
  rename Fr _ _ _ _ => F₁
  rename News _ _ _ _ => N₁
  have N2 := News.grown N₁ hE1
  have N₂ := news_done F₁ N2 hD1 hD1'
  have F₂ := F₁.keeps hE1
  clear N₁ F₁ N2
  have hval : ((i + t.hd.length : Nat) : Int) + (t.pay.length : Int) = ((i + t.enc.length : Nat) : Int) := by
    rw [T.enc_eq, List.length_append]; omega
  cases t with
  | leaf b =>
    rw [T.kind] at N₂
    k_steps
    show wpAny _ _ _ _ _ _
    rename Fr _ _ _ _ => F₃
    rename News _ _ _ _ => N₃
    refine cp_leaf b ok hlen w _ _ d _ rest pb1 _ _ _ _ _ _ _ (by walk_at "room"; simp only [T.dep]; omega) hz ?_ hpb1 ?_
    · rw [← List.drop_drop, hat, T.enc_eq, List.append_assoc, List.drop_left]
    intro h4 tk4 D2 v pv t5 hE2 hD2 hD2' hv hpv
    unfold tupO at hD2'
    have F₄ := F₃.keeps hE2
    have N4 := News.grown N₃ hE2
    have N₄ := news_done F₃ N4 hD2 hD2'
    clear N4 N₃
    k_steps
    show Leave0 g L' _ _ _
    rename News _ _ _ _ => N
    have hN := N _ (.head _)
    rw [hval] at hN
    refine leave0_ (by assumption) G ?_
    intro hE
    simp only [TIn] at hv
    obtain ⟨tk, rfl⟩ := hv
    exact hret _ _ _ _ _ [] hE (none_of G hN.2.2) hN.1 ⟨rfl, _, rfl⟩ (fun p h => (nomatch h)) (fun p h => (nomatch h))
  | node ks =>
    rw [T.kind] at N₂
    k_steps
    show Leave0 g L' _ _ _
    rename News _ _ _ _ => N
    rw [hval] at N
    exact lz_end (by assumption) G N (by omega) (by omega) (by omega) (by omega) (by omega) (by omega) hret
end Mine
end
section
open PySem PySem.W PySem.Calls PyProof.Rows PySem.Spec
namespace Mine
theorem fresh_L4 : True := by
  w_top off
  run_tac do
    walkLines.set (0, {})
    walkStart.set 0
    walkLate.set false
  trivial
local macro_rules | `(tactic| walk_at "enter") => `(tactic| (refine' enter (by assumption) ?k6 ?k7 ?k9 ?kB ?_ ?c2 ?c3 ?c4 ?c5; (case k6 => k_is); (case k7 => k_is); (case k9 => exact BindsTo.of_eq rfl); (case c5 => decide); (case kB => exact locs rfl); (case c2 => exact rfl); (case c3 => exact rfl); (case c4 => exact rfl); k_whole; intro dp' un' gd' env' outer' base' g' h' L' p' loose' mean' mg' mb' hd' hu' F' N' B' X' T' G'; (try dsimp only); (try k_fold)))
local macro_rules | `(tactic| walk_at "room") => `(tactic| (refine Room.le (room_in (by assumption) (by assumption) (by assumption) (by assumption) (by assumption) (by assumption) (by rfl) (by rfl)) ?_))
local macro_rules | `(tactic| walk_at "subscriptTail") => `(tactic| ((with_reducible show wpAny _ _ (subscriptTail _ _ (Value.bytes _ _) (Value.int _ _)) _ _ _); (refine item_b (by omega) (by omega) (by omega) ?_ (by with_unfolding_all rfl) (by intro _; with_unfolding_all rfl))))
local macro_rules | `(tactic| walk_at "subscriptTail") => `(tactic| ((with_reducible show wpAny _ _ (subscriptTail _ _ (Value.ref 1450) (Value.int _ _)) _ _ _); (refine item_all (by assumption) (by assumption) (by omega) (by omega) ?_ (by with_unfolding_all rfl)); intro _))
local macro_rules | `(tactic| walk_at "binaryOp Add bytes bytes") => `(tactic| ((with_reducible show wpAny _ _ (binaryOp Operator.Add (Value.bytes _ _) (Value.bytes _ _)) _ _ _); (refine KBy.add_bytes (by first | omega | (simp; omega)) ?_); intro _ _))
local macro_rules | `(tactic| walk_at "eval ListComp") => `(tactic| (refine stop_ ?_))
local macro_rules | `(tactic| walk_at "call ref") => `(tactic| ((with_reducible show wpAny _ _ (call (Value.ref 1748) _) _ _ _); refine stop_ ?_))
local macro_rules | `(tactic| walk_at "eval GeneratorExp") => `(tactic| (refine stop_ ?_))
local macro_rules | `(tactic| walk_at "call builtin:bytes.join") => `(tactic| (refine stop_ ?_))
local macro_rules | `(tactic| walk_at "getMethod bytes") => `(tactic| (refine method_join ?_))
local macro_rules | `(tactic| walk_at "call builtin:isinstance") => `(tactic| ((with_reducible show wpAny _ _ (call _ [Value.ref _, Value.ref _]) _ _ _); refine' kia_tup kitx_list ?X ?c ?p ?ee ?nb ?_; (case c => exact kitAt_F (by assumption) (by assumption)); (case X => k_in); (case p => kit_tp); (case ee => kit_is); (case nb => kit_nb); k_whole; intro _))

local macro_rules | `(tactic| walk_at "subscriptTail") => `(tactic| ((with_reducible show wpAny _ _ (subscriptTail _ _ (Value.bytes _ _) (Value.ref _)) _ _ _); (with_reducible rename Fr _ _ _ _ => F'); (with_reducible rename News _ _ _ _ => N'); (refine slice_b (s := ⟨_, _, _, _, _⟩) F' N' (by omega) (by omega) (by omega) ?_); intro _ _ _ _ _))


local macro_rules | `(tactic| walk_at "enter") => `(tactic| (refine' enterN (by assumption) ?k6 ?k7 ?k9 ?kB ?_ ?c2 ?c3 ?c4 ?c5; (case k6 => k_is); (case k7 => k_is); (case k9 => first | exact binds_K (RoomN.inK (by assumption)) rfl (by k_is) rfl rfl rfl | exact BindsTo.of_eq rfl); (case c5 => decide); (case kB => exact locs rfl); (case c2 => exact rfl); (case c3 => exact rfl); (case c4 => exact rfl); k_whole; intro dp' un' gd' env' outer' base' g' h' L' p' loose' mean' mg' mb' hd' hu' F' N' B' X' T' G'; (try dsimp only); (try k_fold)))
local macro_rules | `(tactic| k_room) => `(tactic| ((try simp only [depth_under_make, depth_under_kw, depth_in1, depth_deeper, depth_caller]); (try dsimp only); omega))
local macro_rules | `(tactic| walk_at "roomN") => `(tactic| (refine RoomN.le (roomN_in (by assumption) (by assumption) (by assumption) (by assumption) (by assumption) (by assumption) (by assumption) (by rfl) (by rfl)) ?_))
local macro_rules | `(tactic| walk_at "call builtin:len") => `(tactic| (k_here; (with_reducible show wpAny _ _ (call (Value.builtin "len") [Value.ref _]) _ _ _); (refine call_len_list (News.isList (by k_asm) (by k_mem)) (by rw [size_arr]; omega) ?_)))
local macro_rules | `(tactic| walk_at "call builtin:list.append") => `(tactic| (k_dflt (refine' append_K ?k1 ?k2 ?k3 ?_ ?z; (case k1 => k_asm); (case k2 => k_asm); (case k3 => k_upd); (case z => (rw [List.size_toArray]; exact Nat.le_trans (by omega) (by decide : 100 ≤ sizeLine))); k_whole); intro _ _ _))
local macro_rules | `(tactic| k_all) => `(tactic| assumption)
theorem mem_fst {news : List (Addr × Obj)} {a : Addr} (h : a ∈ news.map (·.1)) : ∃ o, (a, o) ∈ news := by
  obtain ⟨⟨b, o⟩, hp, e⟩ := List.mem_map.mp h
  exact ⟨o, by rw [← e]; exact hp⟩
theorem alive {s g h : Heap} {L : Addr} {m : Str → Option Value} {news : List (Addr × Obj)} {l : List Addr} (G : ExtB l s g) (F : Fr g L h m) (N : News g L h news) (hl : ∀ a ∈ l, ∃ o, (a, o) ∈ news) : ∀ b o, s.get? b = some o → ∃ o', h.get? b = some o' := fun b o e => by
  by_cases hb : b ∈ l
  · obtain ⟨o', ho'⟩ := hl b hb
    exact ⟨o', (N _ ho').1⟩
  · exact ⟨o, F.keep _ _ (G _ _ hb e)⟩
theorem next_spec (t : T) (ok : t.ok) (hlen : t.enc.length < 65536) (w : World) (A : Around) (s : Shared) (a dx e : Addr) (d : Array UInt8) (rest : List UInt8) (vs : List Value) (n ix : Nat) (st en : Int) (k1 k2 k3 k4 k5 k6 k7 td t2 t3 t4 : Tok) (Q E : Value → Shared → Prop) (h1 : @Ne Nat a dx) (h2 : @Ne Nat a e) (h3 : @Ne Nat dx e) (hv : vs.length ≤ 4)
  (hat : d.toList.drop ix = t.enc ++ rest) (hz : d.size ≤ 16777216) (hlt : (ix : Int) < en)
  (R : RoomN w A s.heap 5 [(a, instObj 1787 dx), (dx, dictOf (lzE w k1 k2 k3 k4 k5 k6 k7 td t2 t3 t4 d st en ix e .none) 7), (e, W.listOf vs.toArray n)])
  (hret : ∀ h' tk' v l t4' n', ExtB [a, dx, e] s.heap h' → h'.get? a = some (instObj 1787 dx) → h'.get? dx = some (dictOf (lzE w k1 k2 k3 k4 k5 k6 k7 td t2 t3 t4' d st en ((ix + t.enc.length : Nat) : Int) e .none) 7) → h'.get? e = some (W.listOf (vs ++ [v]).toArray n') →
    LzL w d td t ix v l → (∀ p ∈ l, fresh s.heap h' p.1 p.2) → Q v { s with heap := h', toks := tk' }) :
   wpAny (model prog w) A (call (.ref 1770) [.ref a]) Q E s := by
  refine wpAny_call ?_
  have R' : RoomN w A s.heap (4 + 1) _ := R
  walk_at "enter"
  rename_i dp un gd env outer base g h₁ L' p loose mean mg mb hdp hun F N B X Tp G
  have hne : ¬ ((ix : Int) = en) := by omega
  k_steps
  all_goals (try (exfalso; omega))
  show wpAny _ _ _ _ _ _
  rename Fr _ _ _ _ => F
  rename News _ _ _ _ => N
  refine clz_spec t ok hlen w _ _ d _ rest hat hz _ _ _ _ ((roomN_in hdp hun F N B X Tp (by rfl) (by rfl)).le (by omega)).room ?_
  intro h2 tk2 D v t5 l hE hD hD' hl hlf hlD
  unfold tupO at hD'
  have n1 := ne_of hD (N _ (.head _)).1
  have n2 := ne_of hD (N _ (.tail _ (.head _))).1
  have n3 := ne_of hD (N _ (.tail _ (.tail _ (.head _)))).1
  have hal := alive G F N fun a' ha' => mem_fst ha'
  have hl1 : ∀ p ∈ l, p.1 ≠ dx := fun p hp => ne_of (hlf p hp).1 (N _ (.tail _ (.head _))).1
  have hl2 : ∀ p ∈ l, p.1 ≠ e := fun p hp => ne_of (hlf p hp).1 (N _ (.tail _ (.tail _ (.head _)))).1
  have N2 := News.plus F (News.grown N hE) l hlf
  have N3 := news_done F N2 hD hD'
  have N4 := News.sub (news' := (D, { cls := .type "tuple", data := .seq #[v, .int ((ix + t.enc.length : Nat) : Int) t5] }) :: (a, instObj 1787 dx) :: (dx, dictOf (lzE w k1 k2 k3 k4 k5 k6 k7 td t2 t3 t4 d st en ix e .none) 7) :: (e, W.listOf vs.toArray n) :: l) N3 (by
    intro p hp
    rcases List.mem_cons.mp hp with rfl | hp
    · exact .head _
    refine .tail _ ?_
    rcases List.mem_cons.mp hp with rfl | hp
    · exact List.mem_append_right _ (.head _)
    rcases List.mem_cons.mp hp with rfl | hp
    · exact List.mem_append_right _ (.tail _ (.head _))
    rcases List.mem_cons.mp hp with rfl | hp
    · exact List.mem_append_right _ (.tail _ (.tail _ (.head _)))
    · exact List.mem_append_left _ hp)
  have F4 := F.keeps hE
  clear N N2 N3 F
  k_steps
  show Leave0 g L' _ _ _
  rename News _ _ _ _ => N
  have hq : vs.toArray.push v = (vs ++ [v]).toArray := by simp
  rw [hq] at N
  have eA := (N _ (.tail _ (.head _))).1
  have eD := (N _ (.tail _ (.tail _ (.head _)))).1
  have eE := (N _ (.tail _ (.tail _ (.tail _ (.head _))))).1
  have eL : ∀ p ∈ l, Heap.get? _ p.1 = some p.2 := fun p hp => (N p (.tail _ (.tail _ (.tail _ (.tail _ hp))))).1
  refine leaveN (by assumption) G ?_
  intro hE
  refine hret _ _ v l _ _ hE eA eD eE hl fun p hp => ⟨?_, eL p hp⟩
  cases q : s.heap.get? p.1 with
  | none => rfl
  | some o =>
    obtain ⟨o', ho'⟩ := hal _ _ q
    have := (hlf p hp).1
    rw [ho'] at this; cases this
end Mine
end
section
open PySem PySem.W PySem.Calls PyProof.Rows PySem.Spec
namespace Mine
theorem fresh_L5 : True := by
  w_top off
  run_tac do
    walkLines.set (0, {})
    walkStart.set 0
    walkLate.set false
  trivial
local macro_rules | `(tactic| walk_at "enter") => `(tactic| (refine' enter (by assumption) ?k6 ?k7 ?k9 ?kB ?_ ?c2 ?c3 ?c4 ?c5; (case k6 => k_is); (case k7 => k_is); (case k9 => exact BindsTo.of_eq rfl); (case c5 => decide); (case kB => exact locs rfl); (case c2 => exact rfl); (case c3 => exact rfl); (case c4 => exact rfl); k_whole; intro dp' un' gd' env' outer' base' g' h' L' p' loose' mean' mg' mb' hd' hu' F' N' B' X' T' G'; (try dsimp only); (try k_fold)))
local macro_rules | `(tactic| walk_at "room") => `(tactic| (refine Room.le (room_in (by assumption) (by assumption) (by assumption) (by assumption) (by assumption) (by assumption) (by rfl) (by rfl)) ?_))
local macro_rules | `(tactic| walk_at "subscriptTail") => `(tactic| ((with_reducible show wpAny _ _ (subscriptTail _ _ (Value.bytes _ _) (Value.int _ _)) _ _ _); (refine item_b (by omega) (by omega) (by omega) ?_ (by with_unfolding_all rfl) (by intro _; with_unfolding_all rfl))))
local macro_rules | `(tactic| walk_at "subscriptTail") => `(tactic| ((with_reducible show wpAny _ _ (subscriptTail _ _ (Value.ref 1450) (Value.int _ _)) _ _ _); (refine item_all (by assumption) (by assumption) (by omega) (by omega) ?_ (by with_unfolding_all rfl)); intro _))
local macro_rules | `(tactic| walk_at "binaryOp Add bytes bytes") => `(tactic| ((with_reducible show wpAny _ _ (binaryOp Operator.Add (Value.bytes _ _) (Value.bytes _ _)) _ _ _); (refine KBy.add_bytes (by first | omega | (simp; omega)) ?_); intro _ _))
local macro_rules | `(tactic| walk_at "eval ListComp") => `(tactic| (refine stop_ ?_))
local macro_rules | `(tactic| walk_at "call ref") => `(tactic| ((with_reducible show wpAny _ _ (call (Value.ref 1770) _) _ _ _); refine stop_ ?_))
local macro_rules | `(tactic| walk_at "eval GeneratorExp") => `(tactic| (refine stop_ ?_))
local macro_rules | `(tactic| walk_at "call builtin:bytes.join") => `(tactic| (refine stop_ ?_))
local macro_rules | `(tactic| walk_at "getMethod bytes") => `(tactic| (refine method_join ?_))
local macro_rules | `(tactic| walk_at "call builtin:isinstance") => `(tactic| ((with_reducible show wpAny _ _ (call _ [Value.ref _, Value.ref _]) _ _ _); refine' kia_tup kitx_list ?X ?c ?p ?ee ?nb ?_; (case c => exact kitAt_F (by assumption) (by assumption)); (case X => k_in); (case p => kit_tp); (case ee => kit_is); (case nb => kit_nb); k_whole; intro _))

local macro_rules | `(tactic| walk_at "subscriptTail") => `(tactic| ((with_reducible show wpAny _ _ (subscriptTail _ _ (Value.bytes _ _) (Value.ref _)) _ _ _); (with_reducible rename Fr _ _ _ _ => F'); (with_reducible rename News _ _ _ _ => N'); (refine slice_b (s := ⟨_, _, _, _, _⟩) F' N' (by omega) (by omega) (by omega) ?_); intro _ _ _ _ _))


local macro_rules | `(tactic| walk_at "enter") => `(tactic| (refine' enterN (by assumption) ?k6 ?k7 ?k9 ?kB ?_ ?c2 ?c3 ?c4 ?c5; (case k6 => k_is); (case k7 => k_is); (case k9 => first | exact binds_K (RoomN.inK (by assumption)) rfl (by k_is) rfl rfl rfl | exact BindsTo.of_eq rfl); (case c5 => decide); (case kB => exact locs rfl); (case c2 => exact rfl); (case c3 => exact rfl); (case c4 => exact rfl); k_whole; intro dp' un' gd' env' outer' base' g' h' L' p' loose' mean' mg' mb' hd' hu' F' N' B' X' T' G'; (try dsimp only); (try k_fold)))
local macro_rules | `(tactic| k_room) => `(tactic| ((try simp only [depth_under_make, depth_under_kw, depth_in1, depth_deeper, depth_caller]); (try dsimp only); omega))
local macro_rules | `(tactic| walk_at "exec While") => `(tactic| (refine stop_ ?_))
local macro_rules | `(tactic| walk_at "exec While Compare") => `(tactic| (refine stop_ ?_))
local macro_rules | `(tactic| walk_at "call builtin:len") => `(tactic| (k_here; (with_reducible show wpAny _ _ (call (Value.builtin "len") [Value.ref _]) _ _ _); (refine call_len_list (News.isList (by k_asm) (by k_mem)) (by rw [size_arr]; omega) ?_); rw [size_arr]))
local macro_rules | `(tactic| k_all) => `(tactic| assumption)
local macro_rules | `(tactic| walk_at "subscriptTail Attribute Name Name ref int") => `(tactic| (refine stop_ ?_))
local macro_rules | `(tactic| walk_at "eval Name") => `(tactic| ((with_unfolding_all refine guard_local (by rfl) ?_); k_dflt (refine' ld ?k1 ?k2 ?_; (case k1 => k_asm); (case k2 => assumption); k_whole)))
def LzsL (w : World) (d : Array UInt8) (td : Tok) : List T → Nat → List Value → List (List (Addr × Obj)) → Prop
  | [], _, vs, ls => vs = [] ∧ ls = []
  | k :: ks, i, vs, ls => ∃ v vs' l ls', vs = v :: vs' ∧ ls = l :: ls' ∧ LzL w d td k i v l ∧ LzsL w d td ks (i + k.enc.length) vs' ls'
theorem LzsL.length {w : World} {d : Array UInt8} {td : Tok} : ∀ {ks : List T} {i : Nat} {vs : List Value} {ls : List (List (Addr × Obj))}, LzsL w d td ks i vs ls → vs.length = ks.length ∧ ls.length = ks.length
  | [], _, _, _, x => by obtain ⟨rfl, rfl⟩ := x; exact ⟨rfl, rfl⟩
  | _ :: _, _, _, _, x => by
    obtain ⟨v, vs', l, ls', rfl, rfl, _, q⟩ := x
    simp [q.length.1, q.length.2]
theorem LzsL.snoc {w : World} {d : Array UInt8} {td : Tok} : ∀ {ks : List T} {i : Nat} {vs : List Value} {ls : List (List (Addr × Obj))} {t : T} {v : Value} {l : List (Addr × Obj)}, LzsL w d td ks i vs ls → LzL w d td t (i + (T.encs ks).length) v l → LzsL w d td (ks ++ [t]) i (vs ++ [v]) (ls ++ [l])
  | [], i, _, _, t, v, l, x, y => by
    obtain ⟨rfl, rfl⟩ := x
    simp only [T.encs, List.length_nil, Nat.add_zero] at y
    exact ⟨v, [], l, [], rfl, rfl, y, rfl, rfl⟩
  | k :: ks, i, _, _, t, v, l, x, y => by
    obtain ⟨v', vs', l', ls', rfl, rfl, p, q⟩ := x
    refine ⟨v', vs' ++ [v], l', ls' ++ [l], rfl, rfl, p, q.snoc ?_⟩
    rw [T.encs, List.length_append, ← Nat.add_assoc] at y
    exact y
theorem LzsL.get {w : World} {d : Array UInt8} {td : Tok} : ∀ {ks : List T} {i j : Nat} {vs : List Value} {ls : List (List (Addr × Obj))} {t : T}, LzsL w d td ks i vs ls → ks[j]? = some t → ∃ v l, vs[j]? = some v ∧ ls[j]? = some l ∧ LzL w d td t (i + (T.encs (ks.take j)).length) v l
  | [], _, _, _, _, _, _, e => by simp at e
  | k :: ks, i, j, _, _, t, x, e => by
    obtain ⟨v', vs', l', ls', rfl, rfl, p, q⟩ := x
    cases j with
    | zero => simp at e; subst e; exact ⟨v', l', rfl, rfl, by simpa [T.encs] using p⟩
    | succ j =>
      obtain ⟨v, l, h1, h2, h3⟩ := q.get (j := j) (t := t) (by simpa using e)
      refine ⟨v, l, by simpa using h1, by simpa using h2, ?_⟩
      rw [List.take_succ_cons, T.encs, List.length_append, ← Nat.add_assoc]
      exact h3
/-- no object of one is of another -/
abbrev Apart (ls : List (List (Addr × Obj))) : Prop := ls.Pairwise fun l l' => ∀ p ∈ l, ∀ q ∈ l', p.1 ≠ q.1
abbrev lzO (w : World) (a dx e : Addr) (k1 k2 k3 k4 k5 k6 k7 td t2 t3 t4 : Tok) (d : Array UInt8) (st en ix : Int) (vs : List Value) (n : Nat) : List (Addr × Obj) :=
  [(a, instObj 1787 dx), (dx, dictOf (lzE w k1 k2 k3 k4 k5 k6 k7 td t2 t3 t4 d st en ix e .none) 7), (e, W.listOf vs.toArray n)]
structure GetJ (w : World) (d : Array UInt8) (td : Tok) (a dx e : Addr) (k1 k2 k3 k4 k5 k6 k7 t2 t3 : Tok) (ks : List T) (i : Nat) (st en at_ : Int) (us up : Tok) (n : Nat) (m : Str → Option Value) (news : List (Addr × Obj)) (j : Nat) (vs : List Value) (ls : List (List (Addr × Obj))) (t4 : Tok) (ne : Nat) : Prop where
  le : j ≤ ks.length
  n : n = ks.length - j
  news : news = lzO w a dx e k1 k2 k3 k4 k5 k6 k7 td t2 t3 t4 d st en ((i + (T.encs (ks.take j)).length : Nat) : Int) vs ne ++ ls.flatten
  ap : Apart ls
  na : ∀ p ∈ ls.flatten, p.1 ≠ a ∧ p.1 ≠ dx ∧ p.1 ≠ e
  lz : LzsL w d td (ks.take j) i vs ls
  m1 : m (Str.ofString "self") = some (.ref a)
  m2 : m (Str.ofString "start") = some (.int at_ us)
  m3 : m (Str.ofString "stop") = some (.int (at_ + 1) up)
theorem item_list {prog : Program} {w : World} {A : Around} {E : Value → Shared → Prop} {s : Shared} {value slice : Expr} {l : Addr} {vs : List Value} {k : Int} {v : Value} {u : Tok} {Q : Value → Shared → Prop} (hl : s.heap.IsList l vs.toArray) (h0 : 0 ≤ k) (hhi : k < 2 ^ 63) (hx : vs[k.toNat]? = some v) (h : Q v s)
    (hs : subscripted slice false (.ref l) (.int k u) = operate [.ref l, .int k u] (getItem (.ref l) (.int k u)) := by with_unfolding_all rfl) (hg : ∀ r, letTemporaryGo value (.ref l) r = pure () := by intro _; with_unfolding_all rfl) :
    wpAny (model prog w) A (subscriptTail value slice (.ref l) (.int k u)) Q E s :=
  subscriptTail_builtin hl.typeIs slot_list_getitem.lookup (wpAny_getItem_list hl h0 hhi (by simpa using hx) h) hs hg
theorem get_first (ks : List T) (hk4 : ks.length ≤ 4) (oks : T.oks ks) (hlen : (T.encs ks).length < 65536) (w : World) (A : Around) (s : Shared) (a dx e : Addr) (d : Array UInt8) (rest : List UInt8) (n i : Nat) (st at_ : Int) (k1 k2 k3 k4 k5 k6 k7 td t2 t3 t4 ta : Tok) (Q E : Value → Shared → Prop) (h1 : @Ne Nat a dx) (h2 : @Ne Nat a e) (h3 : @Ne Nat dx e)
  (hat : d.toList.drop i = T.encs ks ++ rest) (hz : d.size ≤ 16777216) (ha : at_ + 1 = ks.length) (ha0 : 0 ≤ at_)
  (R : RoomN w A s.heap 7 (lzO w a dx e k1 k2 k3 k4 k5 k6 k7 td t2 t3 t4 d st ((i + (T.encs ks).length : Nat) : Int) (i : Nat) [] n))
  (hret : ∀ h' tk' v vs ls t4' n', ExtB [a, dx, e] s.heap h' → h'.get? a = some (instObj 1787 dx) → h'.get? dx = some (dictOf (lzE w k1 k2 k3 k4 k5 k6 k7 td t2 t3 t4' d st ((i + (T.encs ks).length : Nat) : Int) ((i + (T.encs ks).length : Nat) : Int) e .none) 7) → h'.get? e = some (W.listOf vs.toArray n') →
    LzsL w d td ks i vs ls → Apart ls → (∀ p ∈ ls.flatten, fresh s.heap h' p.1 p.2) → vs[at_.toNat]? = some v → Q v { s with heap := h', toks := tk' }) :
   wpAny (model prog w) A (call (.ref 1777) [.ref a, .int at_ ta]) Q E s := by
  refine wpAny_call ?_
  have R' : RoomN w A s.heap (6 + 1) _ := R
  walk_at "enter"
  rename_i dp un gd env outer base g h₁ L' p loose mean mg mb hdp hun F N B X Tp G
  k_steps
  show wpAny _ _ _ _ _ _
  rename Fr _ _ _ _ => F
  rename News _ _ _ _ => N
  obtain ⟨m₀, us, up, F, e1, e2, e3⟩ : ∃ m₀ us up, Fr g L' _ m₀ ∧ m₀ (Str.ofString "self") = some (.ref a) ∧ m₀ (Str.ofString "start") = some (.int at_ us) ∧ m₀ (Str.ofString "stop") = some (.int (at_ + 1) up) := ⟨_, _, _, F, rfl, rfl, rfl⟩
  refine While_H (fun n h m news => ∃ j vs ls t4' ne, GetJ w d td a dx e k1 k2 k3 k4 k5 k6 k7 t2 t3 ks i st ((i + (T.encs ks).length : Nat) : Int) at_ us up n m news j vs ls t4' ne) (n₀ := ks.length) F N ?_ ?_
  · refine ⟨0, [], [], t4, n, ⟨Nat.zero_le _, rfl, by simp [T.encs], .nil, (fun p h => by simp at h), ⟨rfl, rfl⟩, e1, e2, e3⟩⟩
  rintro n' m₁ news₁ h₁' tk₁ F₁ N₁ ⟨j, vs, ls, t4', ne, hle, rfl, rfl, hap, hna, hlz, m1, m2, m3⟩
  clear F N e1 e2 e3
  have hvl := hlz.length.1
  rw [List.length_take] at hvl
  have hna1 : ∀ p ∈ ls.flatten, p.1 ≠ dx := fun p hp => (hna p hp).2.1
  have hna2 : ∀ p ∈ ls.flatten, p.1 ≠ e := fun p hp => (hna p hp).2.2
  simp only [List.cons_append, List.nil_append] at N₁
  rcases Nat.lt_or_ge j ks.length with hj | hj
  · obtain ⟨t, et⟩ : ∃ t, ks[j]? = some t := ⟨_, List.getElem?_eq_getElem hj⟩
    obtain ⟨ea, eb⟩ := encs_at et
    have tp0 := enc_pos t
    have el := congrArg List.length ea
    simp only [List.length_append] at el
    k_steps
    show wpAny _ _ _ _ _ _
    rename Fr _ _ _ _ => F₂
    rename News _ _ _ _ => N₂
    have hat2 : d.toList.drop (i + (T.encs (ks.take j)).length) = t.enc ++ (T.encs (ks.drop (j + 1)) ++ rest) := by
      rw [← List.drop_drop, hat, ea, List.append_assoc, List.drop_left, List.append_assoc]
    have N3 : News g L' _ (lzO w a dx e k1 k2 k3 k4 k5 k6 k7 td t2 t3 t4' d st ((i + (T.encs ks).length : Nat) : Int) ((i + (T.encs (ks.take j)).length : Nat) : Int) vs ne) := News.sub N₂ (by
      intro p hp
      rcases List.mem_cons.mp hp with rfl | hp
      · exact .head _
      rcases List.mem_cons.mp hp with rfl | hp
      · exact .tail _ (.head _)
      rw [List.mem_singleton.mp hp]
      exact .tail _ (.tail _ (.head _)))
    refine next_spec t (T.oks_get oks et) (by omega) w _ _ a dx e d _ vs ne _ st _ k1 k2 k3 k4 k5 k6 k7 td t2 t3 t4' _ _ h1 h2 h3 (by omega) hat2 hz (by omega) ((roomN_in hdp hun F₂ N3 B X Tp (by rfl) (by rfl)).le (by omega)) ?_
    intro h4 tk4 v l t4'' n4 hE gA gD gE hl hlf
    have F₄ := Fr.but F₂ N3 hE fun a' ha' => mem_fst ha'
    have htk : ks.take (j + 1) = ks.take j ++ [t] := by rw [List.take_add_one, et]; rfl
    have hix : (i + (T.encs (ks.take j)).length + t.enc.length) = (i + (T.encs (ks.take (j + 1))).length) := by rw [eb, List.length_append]; omega
    rw [hix] at gD
    have gA' := (N₂ _ (.head _)).1
    have gD' := (N₂ _ (.tail _ (.head _))).1
    have gE' := (N₂ _ (.tail _ (.tail _ (.head _)))).1
    have N₄ : News g L' h4 (lzO w a dx e k1 k2 k3 k4 k5 k6 k7 td t2 t3 t4'' d st ((i + (T.encs ks).length : Nat) : Int) ((i + (T.encs (ks.take (j + 1))).length : Nat) : Int) (vs ++ [v]) n4 ++ (ls ++ [l]).flatten) := News.but F₂ N₂ hE (by
      intro p hp
      rcases List.mem_append.mp hp with hp | hp
      · rcases List.mem_cons.mp hp with rfl | hp
        · exact .inr (.inl ⟨⟨_, .head _⟩, gA⟩)
        rcases List.mem_cons.mp hp with rfl | hp
        · exact .inr (.inl ⟨⟨_, .tail _ (.head _)⟩, gD⟩)
        rw [List.mem_singleton.mp hp]
        exact .inr (.inl ⟨⟨_, .tail _ (.tail _ (.head _))⟩, gE⟩)
      · rw [List.flatten_append] at hp
        rcases List.mem_append.mp hp with hp | hp
        · refine .inl ⟨.tail _ (.tail _ (.tail _ hp)), fun hm => ?_⟩
          have := hna p hp
          rcases List.mem_cons.mp hm with q | hm
          · exact this.1 q
          rcases List.mem_cons.mp hm with q | hm
          · exact this.2.1 q
          · exact this.2.2 (List.mem_singleton.mp hm)
        · have hp : p ∈ l := by simpa using hp
          exact .inr (.inr ⟨(hlf p hp).1, (hlf p hp).2⟩))
    have hnew : ∀ q ∈ l, ∀ p ∈ ls.flatten, p.1 ≠ q.1 := fun q hq p hp => (ne_of (hlf q hq).1 (N₂ p (.tail _ (.tail _ (.tail _ hp)))).1).symm
    have hnl : ∀ p ∈ l, p.1 ≠ a ∧ p.1 ≠ dx ∧ p.1 ≠ e := fun p hp => ⟨ne_of (hlf p hp).1 gA', ne_of (hlf p hp).1 gD', ne_of (hlf p hp).1 gE'⟩
    clear N₂ N3 F₂ hE
    k_steps
    refine WhileH.intro (n' := ks.length - (j + 1)) (by assumption) (by assumption) (by omega) ⟨j + 1, vs ++ [v], ls ++ [l], t4'', n4, ⟨by omega, rfl, rfl, ?_, ?_, htk ▸ hlz.snoc hl, m1, m2, m3⟩⟩
    · refine List.pairwise_append.mpr ⟨hap, List.pairwise_singleton _ _, fun x hx y hy p hp q hq => ?_⟩
      rw [List.mem_singleton.mp hy] at hq
      exact hnew q hq p (List.mem_flatten.mpr ⟨x, hx, hp⟩)
    · intro p hp
      rw [List.flatten_append] at hp
      rcases List.mem_append.mp hp with hp | hp
      · exact hna p hp
      · exact hnl p (by simpa using hp)
  · obtain rfl : j = ks.length := by omega
    k_steps
    rename Fr _ _ _ _ => F₂
    rename News _ _ _ _ => N₂
    rw [List.take_length] at hlz N₂
    obtain ⟨v, hv⟩ : ∃ v, vs[at_.toNat]? = some v := ⟨_, List.getElem?_eq_getElem (by omega)⟩
    show wpAny _ _ _ _ _ _
    refine kba_turn (value' := PySem.Expr.Name (PySem.Str.ofString "_") ⟨0, 0, 0, 0⟩) (fun _ => rfl) ?_
    refine item_list (vs := vs) ⟨_, (N₂ _ (.tail _ (.tail _ (.head _)))).1, rfl, _, rfl⟩ ha0 (by omega) hv ?_
    k_steps
    show Leave0 g L' _ _ _
    have eA := (N₂ _ (.head _)).1
    have eD := (N₂ _ (.tail _ (.head _))).1
    have eE := (N₂ _ (.tail _ (.tail _ (.head _)))).1
    refine leaveN (by assumption) G ?_
    intro hE
    refine hret _ _ v vs ls t4' ne hE eA eD eE hlz hap (fun p hp => ⟨?_, (N₂ p (.tail _ (.tail _ (.tail _ hp)))).1⟩) hv
    cases q : s.heap.get? p.1 with
    | none => rfl
    | some o =>
      have hn := hna p hp
      have := G _ _ (by simp [hn.1, hn.2.1, hn.2.2]) q
      rw [(N₂ p (.tail _ (.tail _ (.tail _ hp)))).2.2] at this
      cases this
end Mine
end
section
open PySem PySem.W PySem.Calls PyProof.Rows PySem.Spec
namespace Mine
theorem fresh_L6 : True := by
  w_top off
  run_tac do
    walkLines.set (0, {})
    walkStart.set 0
    walkLate.set false
  trivial
local macro_rules | `(tactic| walk_at "enter") => `(tactic| (refine' enter (by assumption) ?k6 ?k7 ?k9 ?kB ?_ ?c2 ?c3 ?c4 ?c5; (case k6 => k_is); (case k7 => k_is); (case k9 => exact BindsTo.of_eq rfl); (case c5 => decide); (case kB => exact locs rfl); (case c2 => exact rfl); (case c3 => exact rfl); (case c4 => exact rfl); k_whole; intro dp' un' gd' env' outer' base' g' h' L' p' loose' mean' mg' mb' hd' hu' F' N' B' X' T' G'; (try dsimp only); (try k_fold)))
local macro_rules | `(tactic| walk_at "room") => `(tactic| (refine Room.le (room_in (by assumption) (by assumption) (by assumption) (by assumption) (by assumption) (by assumption) (by rfl) (by rfl)) ?_))
local macro_rules | `(tactic| walk_at "subscriptTail") => `(tactic| ((with_reducible show wpAny _ _ (subscriptTail _ _ (Value.bytes _ _) (Value.int _ _)) _ _ _); (refine item_b (by omega) (by omega) (by omega) ?_ (by with_unfolding_all rfl) (by intro _; with_unfolding_all rfl))))
local macro_rules | `(tactic| walk_at "subscriptTail") => `(tactic| ((with_reducible show wpAny _ _ (subscriptTail _ _ (Value.ref 1450) (Value.int _ _)) _ _ _); (refine item_all (by assumption) (by assumption) (by omega) (by omega) ?_ (by with_unfolding_all rfl)); intro _))
local macro_rules | `(tactic| walk_at "binaryOp Add bytes bytes") => `(tactic| ((with_reducible show wpAny _ _ (binaryOp Operator.Add (Value.bytes _ _) (Value.bytes _ _)) _ _ _); (refine KBy.add_bytes (by first | omega | (simp; omega)) ?_); intro _ _))
local macro_rules | `(tactic| walk_at "eval ListComp") => `(tactic| (refine stop_ ?_))
local macro_rules | `(tactic| walk_at "call ref") => `(tactic| ((with_reducible show wpAny _ _ (call (Value.ref 1770) _) _ _ _); refine stop_ ?_))
local macro_rules | `(tactic| walk_at "eval GeneratorExp") => `(tactic| (refine stop_ ?_))
local macro_rules | `(tactic| walk_at "call builtin:bytes.join") => `(tactic| (refine stop_ ?_))
local macro_rules | `(tactic| walk_at "getMethod bytes") => `(tactic| (refine method_join ?_))
local macro_rules | `(tactic| walk_at "call builtin:isinstance") => `(tactic| ((with_reducible show wpAny _ _ (call _ [Value.ref _, Value.ref _]) _ _ _); refine' kia_tup kitx_list ?X ?c ?p ?ee ?nb ?_; (case c => exact kitAt_F (by assumption) (by assumption)); (case X => k_in); (case p => kit_tp); (case ee => kit_is); (case nb => kit_nb); k_whole; intro _))

local macro_rules | `(tactic| walk_at "subscriptTail") => `(tactic| ((with_reducible show wpAny _ _ (subscriptTail _ _ (Value.bytes _ _) (Value.ref _)) _ _ _); (with_reducible rename Fr _ _ _ _ => F'); (with_reducible rename News _ _ _ _ => N'); (refine slice_b (s := ⟨_, _, _, _, _⟩) F' N' (by omega) (by omega) (by omega) ?_); intro _ _ _ _ _))


local macro_rules | `(tactic| walk_at "enter") => `(tactic| (refine' enterN (by assumption) ?k6 ?k7 ?k9 ?kB ?_ ?c2 ?c3 ?c4 ?c5; (case k6 => k_is); (case k7 => k_is); (case k9 => first | exact binds_K (RoomN.inK (by assumption)) rfl (by k_is) rfl rfl rfl | exact BindsTo.of_eq rfl); (case c5 => decide); (case kB => exact locs rfl); (case c2 => exact rfl); (case c3 => exact rfl); (case c4 => exact rfl); k_whole; intro dp' un' gd' env' outer' base' g' h' L' p' loose' mean' mg' mb' hd' hu' F' N' B' X' T' G'; (try dsimp only); (try k_fold)))
local macro_rules | `(tactic| k_room) => `(tactic| ((try simp only [depth_under_make, depth_under_kw, depth_in1, depth_deeper, depth_caller]); (try dsimp only); omega))
local macro_rules | `(tactic| walk_at "exec While") => `(tactic| (refine stop_ ?_))
local macro_rules | `(tactic| walk_at "exec While Compare") => `(tactic| (refine stop_ ?_))
local macro_rules | `(tactic| walk_at "call builtin:len") => `(tactic| (k_here; (with_reducible show wpAny _ _ (call (Value.builtin "len") [Value.ref _]) _ _ _); (refine call_len_list (News.isList (by k_asm) (by k_mem)) (by rw [size_arr]; omega) ?_); rw [size_arr]))
local macro_rules | `(tactic| k_all) => `(tactic| assumption)
local macro_rules | `(tactic| walk_at "subscriptTail Attribute Name Name ref int") => `(tactic| (refine stop_ ?_))
local macro_rules | `(tactic| walk_at "eval Name") => `(tactic| ((with_unfolding_all refine guard_local (by rfl) ?_); k_dflt (refine' ld ?k1 ?k2 ?_; (case k1 => k_asm); (case k2 => assumption); k_whole)))
theorem get_again (w : World) (A : Around) (s : Shared) (a dx e : Addr) (d : Array UInt8) (n : Nat) (vs : List Value) (st en ix at_ : Int) (k1 k2 k3 k4 k5 k6 k7 td t2 t3 t4 ta : Tok) (v : Value) (Q E : Value → Shared → Prop)
  (hv4 : vs.length ≤ 4) (ha : at_ < vs.length) (ha0 : 0 ≤ at_) (hv : vs[at_.toNat]? = some v)
  (R : RoomN w A s.heap 2 (lzO w a dx e k1 k2 k3 k4 k5 k6 k7 td t2 t3 t4 d st en ix vs n))
  (hret : ∀ h' tk', Ext s.heap h' → Q v { s with heap := h', toks := tk' }) :
   wpAny (model prog w) A (call (.ref 1777) [.ref a, .int at_ ta]) Q E s := by
  refine wpAny_call ?_
  have R' : RoomN w A s.heap (1 + 1) _ := R
  have hold : ∀ p ∈ lzO w a dx e k1 k2 k3 k4 k5 k6 k7 td t2 t3 t4 d st en ix vs n, s.heap.get? p.1 = some p.2 := by
    obtain ⟨_, _, _, _, _, _, _, _, _, _, _, _, _, _, N, _⟩ := R.site
    exact fun p hp => (N p hp).1
  walk_at "enter"
  rename_i dp un gd env outer base g h₁ L' p loose mean mg mb hdp hun F N B X Tp G
  k_steps
  show wpAny _ _ _ _ _ _
  rename Fr _ _ _ _ => F
  rename News _ _ _ _ => N
  obtain ⟨m₀, us, up, F, e1, e2, e3⟩ : ∃ m₀ us up, Fr g L' _ m₀ ∧ m₀ (Str.ofString "self") = some (.ref a) ∧ m₀ (Str.ofString "start") = some (.int at_ us) ∧ m₀ (Str.ofString "stop") = some (.int (at_ + 1) up) := ⟨_, _, _, F, rfl, rfl, rfl⟩
  refine While_H (fun n' h m news => n' = 0 ∧ news = lzO w a dx e k1 k2 k3 k4 k5 k6 k7 td t2 t3 t4 d st en ix vs n ∧ m (Str.ofString "self") = some (.ref a) ∧ m (Str.ofString "start") = some (.int at_ us) ∧ m (Str.ofString "stop") = some (.int (at_ + 1) up)) (n₀ := 0) F N ⟨rfl, rfl, e1, e2, e3⟩ ?_
  rintro n' m₁ news₁ h₁' tk₁ F₁ N₁ ⟨rfl, rfl, m1, m2, m3⟩
  clear F N e1 e2 e3
  k_steps
  rename News _ _ _ _ => N₂
  show wpAny _ _ _ _ _ _
  refine kba_turn (value' := PySem.Expr.Name (PySem.Str.ofString "_") ⟨0, 0, 0, 0⟩) (fun _ => rfl) ?_
  refine item_list (vs := vs) ⟨_, (N₂ _ (.tail _ (.tail _ (.head _)))).1, rfl, _, rfl⟩ ha0 (by omega) hv ?_
  k_steps
  show Leave0 g L' _ _ _
  refine leaveN (by assumption) G ?_
  intro hE
  refine hret _ _ fun b o q => ?_
  by_cases hb : b ∈ (lzO w a dx e k1 k2 k3 k4 k5 k6 k7 td t2 t3 t4 d st en ix vs n).map (·.1)
  · obtain ⟨o', ho'⟩ := mem_fst hb
    have := hold _ ho'
    dsimp only at this
    rw [q] at this
    cases this
    exact (N₂ _ ho').1
  · exact hE b o hb q
end Mine
end
section
open PySem PySem.W PySem.Calls PyProof.Rows PySem.Spec
namespace Mine
theorem fresh_L7 : True := by
  w_top off
  run_tac do
    walkLines.set (0, {})
    walkStart.set 0
    walkLate.set false
  trivial
local macro_rules | `(tactic| walk_at "enter") => `(tactic| (refine' enter (by assumption) ?k6 ?k7 ?k9 ?kB ?_ ?c2 ?c3 ?c4 ?c5; (case k6 => k_is); (case k7 => k_is); (case k9 => exact BindsTo.of_eq rfl); (case c5 => decide); (case kB => exact locs rfl); (case c2 => exact rfl); (case c3 => exact rfl); (case c4 => exact rfl); k_whole; intro dp' un' gd' env' outer' base' g' h' L' p' loose' mean' mg' mb' hd' hu' F' N' B' X' T' G'; (try dsimp only); (try k_fold)))
local macro_rules | `(tactic| walk_at "room") => `(tactic| (refine Room.le (room_in (by assumption) (by assumption) (by assumption) (by assumption) (by assumption) (by assumption) (by rfl) (by rfl)) ?_))
local macro_rules | `(tactic| walk_at "subscriptTail") => `(tactic| ((with_reducible show wpAny _ _ (subscriptTail _ _ (Value.bytes _ _) (Value.int _ _)) _ _ _); (refine item_b (by omega) (by omega) (by omega) ?_ (by with_unfolding_all rfl) (by intro _; with_unfolding_all rfl))))
local macro_rules | `(tactic| walk_at "subscriptTail") => `(tactic| ((with_reducible show wpAny _ _ (subscriptTail _ _ (Value.ref 1450) (Value.int _ _)) _ _ _); (refine item_all (by assumption) (by assumption) (by omega) (by omega) ?_ (by with_unfolding_all rfl)); intro _))
local macro_rules | `(tactic| walk_at "binaryOp Add bytes bytes") => `(tactic| ((with_reducible show wpAny _ _ (binaryOp Operator.Add (Value.bytes _ _) (Value.bytes _ _)) _ _ _); (refine KBy.add_bytes (by first | omega | (simp; omega)) ?_); intro _ _))
local macro_rules | `(tactic| walk_at "eval ListComp") => `(tactic| (refine stop_ ?_))
local macro_rules | `(tactic| walk_at "call ref") => `(tactic| ((with_reducible show wpAny _ _ (call (Value.ref 1777) _) _ _ _); refine stop_ ?_))
local macro_rules | `(tactic| walk_at "call ref") => `(tactic| ((with_reducible show wpAny _ _ (call (Value.ref 1784) _) _ _ _); refine stop_ ?_))
local macro_rules | `(tactic| walk_at "call ref") => `(tactic| ((with_reducible show wpAny _ _ (call (Value.ref 1835) _) _ _ _); refine stop_ ?_))
local macro_rules | `(tactic| walk_at "eval GeneratorExp") => `(tactic| (refine stop_ ?_))
local macro_rules | `(tactic| walk_at "call builtin:bytes.join") => `(tactic| (refine stop_ ?_))
local macro_rules | `(tactic| walk_at "getMethod bytes") => `(tactic| (refine method_join ?_))
local macro_rules | `(tactic| walk_at "call builtin:isinstance") => `(tactic| ((with_reducible show wpAny _ _ (call _ [Value.ref _, Value.ref _]) _ _ _); refine' kia_tup kitx_list ?X ?c ?p ?ee ?nb ?_; (case c => exact kitAt_F (by assumption) (by assumption)); (case X => k_in); (case p => kit_tp); (case ee => kit_is); (case nb => kit_nb); k_whole; intro _))

local macro_rules | `(tactic| walk_at "subscriptTail") => `(tactic| ((with_reducible show wpAny _ _ (subscriptTail _ _ (Value.bytes _ _) (Value.ref _)) _ _ _); (with_reducible rename Fr _ _ _ _ => F'); (with_reducible rename News _ _ _ _ => N'); (refine slice_b (s := ⟨_, _, _, _, _⟩) F' N' (by omega) (by omega) (by omega) ?_); intro _ _ _ _ _))


local macro_rules | `(tactic| walk_at "enterS") => `(tactic| (refine' enterS (by assumption) ?k6 ?k7 ?k9 ?kB ?_ ?c2 ?c3 ?c4 ?c5; (case k6 => k_is); (case k7 => k_is); (case k9 => first | exact binds_K (RoomN.inK (RoomS.n (by assumption))) rfl (by k_is) rfl rfl rfl | exact BindsTo.of_eq rfl); (case c5 => decide); (case kB => exact locs rfl); (case c2 => exact rfl); (case c3 => exact rfl); (case c4 => exact rfl); k_whole; intro dp' un' gd' env' outer' base' g' h' L' p' loose' mean' mg' mb' hd' hu' F' N' B' X' T' G' XB' TB' D' hfs'; (have X2' := X'; clear X'); (have T2' := T'; clear T'); (try dsimp only); (try k_fold)))
local macro_rules | `(tactic| walk_at "enterSC") => `(tactic| (refine' enterSC ?kS ?k6 ?k7 ?k9 ?kB ?kD ?_ ?c2 ?c3 ?c4; (case kS => assumption); (case k6 => k_is); (case k7 => k_is); (case k9 => exact BindsTo.of_eq rfl); (case kB => exact rfl); (case kD => decide +kernel); (case c2 => exact rfl); (case c3 => exact rfl); (case c4 => exact rfl); k_whole; intro dp' un' gd' env' outer' base' g' h' L' p' loose' mean' mg' mb' tk' cells' hd' hu' F' N' Y' B' X' T' G' XB' TB' D' hfs'; (have X2' := X'; clear X'); (have T2' := T'; clear T'); (try dsimp only); k_cells Y'; (try simp only [List.cons_append, List.nil_append] at N'); (try k_fold)))
local macro_rules | `(tactic| k_room) => `(tactic| ((try simp only [depth_under_make, depth_under_kw, depth_in1, depth_deeper, depth_caller]); (try dsimp only); omega))
local macro_rules | `(tactic| walk_at "subscriptTail Name Name ref int") => `(tactic| ((with_reducible show wpAny _ _ (subscriptTail (PySem.Expr.Name (PySem.Str.ofString "kids") _) _ _ _) _ _ _); refine stop_ ?_))
local macro_rules | `(tactic| walk_at "eval Name") => `(tactic| ((with_unfolding_all refine guard_local (by rfl) ?_); k_dflt (refine' ld ?k1 ?k2 ?_; (case k1 => k_asm); (case k2 => assumption); k_whole)))
local macro_rules | `(tactic| walk_at "call builtin:len") => `(tactic| ((with_reducible show wpAny _ _ (call (Value.builtin "len") [Value.ref _]) _ _ _); (refine call_len_list (Fr.lst (by assumption) (by assumption)) (by rw [size_arr]; omega) ?_); rw [size_arr]))
local macro_rules | `(tactic| walk_at "exec For") => `(tactic| (refine stop_ ?_))
local macro_rules | `(tactic| walk_at "exec For Name Call cons nil") => `(tactic| (refine stop_ ?_))
local macro_rules | `(tactic| walk_at "call builtin:isinstance") => `(tactic| ((with_reducible show wpAny _ _ (call _ [Value.ref _, Value.type _]) _ _ _); refine' kia_one kitx_list ?X ?c ?ee ?nb ?_; (case c => exact kitAt_F' (by assumption) (by assumption)); (case X => k_in); (case ee => kit_is); (case nb => kit_nb); k_whole; intro _))
def LlSpec (t : T) : Prop := t.ok → t.enc.length < 65536 → ∀ (w : World) (A : Around) (s : Shared) (d : Array UInt8) (i : Nat) (rest : List UInt8) (v pl : Value) (l : List (Addr × Obj)) (td : Tok) (Q E : Value → Shared → Prop), RoomS w A s.heap (t.dep + 8) l → d.size ≤ 16777216 → d.toList.drop i = t.enc ++ rest → LzL w d td t i v l →
  PlIn (fun b o => s.heap.get? b = some o ∧ b ∉ l.map (·.1)) t i pl → (∀ h' tk', ExtT (framesOf A) (l.map (·.1)) s.heap h' → Q (.bool true) { s with heap := h', toks := tk' }) → wpAny (model prog w) A (call (.ref 1835) [v, pl]) Q E s
/-- no dict -/
def ND (o : Obj) : Prop := ∀ es n, o.data ≠ .dict es n
theorem nd_list {a : Array Value} {n : Nat} : ND (W.listOf a n) := fun _ _ h => nomatch h
theorem nd_tup {a : Array Value} : ND (tupO a) := fun _ _ h => nomatch h
mutual
theorem TIn.nd {P : View} : ∀ (t : T) (v : Value), TIn P t v → TIn (fun a o => P a o ∧ ND o) t v
  | .leaf _, _, x => by simpa [TIn] using x
  | .node ks, v, x => by
    simp only [TIn] at x ⊢
    obtain ⟨a, vs, n, e, p, q⟩ := x
    exact ⟨a, vs, n, e, ⟨p, nd_list⟩, TsIn.nd ks vs q⟩
theorem TsIn.nd {P : View} : ∀ (ts : List T) (vs : List Value), TsIn P ts vs → TsIn (fun a o => P a o ∧ ND o) ts vs
  | [], _, x => by simpa [TsIn] using x
  | k :: ks, vs, x => by
    simp only [TsIn] at x ⊢
    obtain ⟨v, vs', e, p, q⟩ := x
    exact ⟨v, vs', e, TIn.nd k v p, TsIn.nd ks vs' q⟩
end
mutual
theorem PlIn.nd {P : View} : ∀ (t : T) (i : Nat) (v : Value), PlIn P t i v → PlIn (fun a o => P a o ∧ ND o) t i v
  | .leaf b, i, v, x => by
    simp only [PlIn] at x ⊢
    obtain ⟨a, tv, t1, t2, t3, l, n, e, p, q, r⟩ := x
    exact ⟨a, tv, t1, t2, t3, l, n, e, ⟨p, nd_tup⟩, TIn.nd _ _ q, ⟨r, nd_list⟩⟩
  | .node ks, i, v, x => by
    simp only [PlIn] at x ⊢
    obtain ⟨a, tv, t1, t2, t3, l, n, kvs, e, p, q, r, z⟩ := x
    exact ⟨a, tv, t1, t2, t3, l, n, kvs, e, ⟨p, nd_tup⟩, TIn.nd _ _ q, ⟨r, nd_list⟩, PlsIn.nd ks _ kvs z⟩
theorem PlsIn.nd {P : View} : ∀ (ts : List T) (i : Nat) (vs : List Value), PlsIn P ts i vs → PlsIn (fun a o => P a o ∧ ND o) ts i vs
  | [], _, _, x => by simpa [PlsIn] using x
  | k :: ks, i, vs, x => by
    simp only [PlsIn] at x ⊢
    obtain ⟨v, vs', e, p, q⟩ := x
    exact ⟨v, vs', e, PlIn.nd k i v p, PlsIn.nd ks _ vs' q⟩
end
theorem keep_turn {fs : List Addr} {g g' : Heap} {b : Addr} {o : Obj} (KT : KtsTurn fs g g') (D : KtsDicts fs g) (e : g.get? b = some o) (nd : ND o) : g'.get? b = some o := KT.other b o e fun hb => by
  obtain ⟨o', es, n, h1, h2⟩ := D b hb
  rw [e] at h1; cases h1
  exact nd _ _ h2
theorem range_down (n : Nat) (h : n ≤ 4) : Builtin.Range.rangeSize ((n : Int) - 1) (-1) (-1) = (n : Int) ∧ Builtin.Range.small ((n : Int) - 1) (-1) (-1) = true := by
  rcases (by omega : n = 0 ∨ n = 1 ∨ n = 2 ∨ n = 3 ∨ n = 4) with rfl | rfl | rfl | rfl | rfl <;> exact ⟨by decide +kernel, by decide +kernel⟩
theorem ll_leaf (b : Array UInt8) : LlSpec (.leaf b) := by
  intro ok hlen w A s d i rest v pl l td Q E R hz hat hl hpl hret
  obtain ⟨rfl, tk, rfl⟩ := hl
  obtain ⟨a, tv, q1, q2, q3, lk, n, kvs, rfl, hT, htv, hK, hks⟩ := hpl.tup
  simp only [TIn] at htv
  obtain ⟨tk2, rfl⟩ := htv
  refine wpAny_call ?_
  have R' : RoomS w A s.heap (8 + 1) _ := R.le (by simp only [T.dep]; omega)
  walk_at "enterS"
  rename_i dp un gd env outer base g h₁ L' p loose mean mg mb hdp hun F N B G XB TB D hfs X Tp
  have hTg := Ground.tup (G _ _ (by simp) hT.1)
  k_steps
  show LeaveR _ _ _
  rw [beq_self_eq_true]
  refine leaveR_ ?_
  refine hret _ _ (ExtB.turn fun b o n e => ?_)
  exact Fr.keep (by assumption) _ _ (G _ _ n e)
structure LlJ (w : World) (d : Array UInt8) (td : Tok) (a dx e : Addr) (k1 k2 k3 k4 k5 k6 k7 t2 t3 : Tok) (ks : List T) (i : Nat) (lk : Addr) (fs : List Addr) (A₀ : Around) (base : Heap) (outer : List Env) (g : Heap) (r : Nat) (g' : Heap) (m : Str → Option Value) (news : List (Addr × Obj)) : Prop where
  kt : KtsTurn fs g g'
  bl : Below A₀ base outer g'
  m1 : m (Str.ofString "item") = some (.ref a)
  m2 : m (Str.ofString "kids") = some (.ref lk)
  st : (r = 0 ∧ ∃ t4 n, news = lzO w a dx e k1 k2 k3 k4 k5 k6 k7 td t2 t3 t4 d ((i + (T.node ks).hd.length : Nat) : Int) ((i + (T.node ks).enc.length : Nat) : Int) ((i + (T.node ks).hd.length : Nat) : Int) [] n) ∨
    (1 ≤ r ∧ ∃ vs ls t4 n, news = lzO w a dx e k1 k2 k3 k4 k5 k6 k7 td t2 t3 t4 d ((i + (T.node ks).hd.length : Nat) : Int) ((i + (T.node ks).enc.length : Nat) : Int) ((i + (T.node ks).enc.length : Nat) : Int) vs n ++ (ls.take (ks.length - r)).flatten ∧
      LzsL w d td ks (i + (T.node ks).hd.length) vs ls ∧ Apart ls ∧ ∀ p ∈ ls.flatten, p.1 ≠ a ∧ p.1 ≠ dx ∧ p.1 ≠ e)
theorem get_turn {w : World} {d : Array UInt8} {td : Tok} {a dx e : Addr} {k1 k2 k3 k4 k5 k6 k7 t2 t3 ta : Tok} {ks : List T} {i r : Nat} {A : Around} {s : Shared} {g : Heap} {L : Addr} {m : Str → Option Value} {news own : List (Addr × Obj)} {at_ : Int} {rest : List UInt8} {Q E : Value → Shared → Prop}
    (ok : (T.node ks).ok) (hlen : (T.node ks).enc.length < 65536) (h1 : @Ne Nat a dx) (h2 : @Ne Nat a e) (h3 : @Ne Nat dx e) (hat : d.toList.drop i = (T.node ks).enc ++ rest) (hz : d.size ≤ 16777216)
    (F : Fr g L s.heap m) (N : News g L s.heap (news ++ own)) (hroom : ∀ nn, News g L s.heap nn → RoomN w A s.heap 7 nn) (hown : ∀ p ∈ own, ∀ q ∈ news, q.1 ≠ p.1) (hr : r < ks.length) (ha : at_ = (ks.length : Int) - 1 - r)
    (hst : (r = 0 ∧ ∃ t4 n, news = lzO w a dx e k1 k2 k3 k4 k5 k6 k7 td t2 t3 t4 d ((i + (T.node ks).hd.length : Nat) : Int) ((i + (T.node ks).enc.length : Nat) : Int) ((i + (T.node ks).hd.length : Nat) : Int) [] n) ∨
      (1 ≤ r ∧ ∃ vs ls t4 n, news = lzO w a dx e k1 k2 k3 k4 k5 k6 k7 td t2 t3 t4 d ((i + (T.node ks).hd.length : Nat) : Int) ((i + (T.node ks).enc.length : Nat) : Int) ((i + (T.node ks).enc.length : Nat) : Int) vs n ++ (ls.take (ks.length - r)).flatten ∧
        LzsL w d td ks (i + (T.node ks).hd.length) vs ls ∧ Apart ls ∧ ∀ p ∈ ls.flatten, p.1 ≠ a ∧ p.1 ≠ dx ∧ p.1 ≠ e))
    (hret : ∀ h' tk' v vs ls t4 n, Fr g L h' m → News g L h' (lzO w a dx e k1 k2 k3 k4 k5 k6 k7 td t2 t3 t4 d ((i + (T.node ks).hd.length : Nat) : Int) ((i + (T.node ks).enc.length : Nat) : Int) ((i + (T.node ks).enc.length : Nat) : Int) vs n ++ ((ls.take (ks.length - r)).flatten ++ own)) →
      LzsL w d td ks (i + (T.node ks).hd.length) vs ls → Apart ls → (∀ p ∈ ls.flatten, p.1 ≠ a ∧ p.1 ≠ dx ∧ p.1 ≠ e) → (∀ p ∈ own, ∀ q ∈ (ls.take (ks.length - r)).flatten, q.1 ≠ p.1) → vs[ks.length - 1 - r]? = some v → Q v { s with heap := h', toks := tk' }) :
    wpAny (model prog w) A (call (.ref 1777) [.ref a, .int at_ ta]) Q E s := by
  have ok' := ok
  rw [T.ok] at ok'
  obtain ⟨ok4, oks⟩ := ok'
  have hel : (T.node ks).enc.length = (T.node ks).hd.length + (T.encs ks).length := by rw [T.enc_eq, List.length_append]; rfl
  have hatn : at_.toNat = ks.length - 1 - r := by omega
  rcases hst with ⟨rfl, t4, n, rfl⟩ | ⟨hr1, vs, ls, t4, n, rfl, hlz, hap, hna⟩
  · have hend : i + (T.node ks).hd.length + (T.encs ks).length = i + (T.node ks).enc.length := by omega
    have Ns := News.sub N (news' := lzO w a dx e k1 k2 k3 k4 k5 k6 k7 td t2 t3 t4 d ((i + (T.node ks).hd.length : Nat) : Int) ((i + (T.node ks).enc.length : Nat) : Int) ((i + (T.node ks).hd.length : Nat) : Int) [] n) fun p hp => List.mem_append_left _ hp
    have hat' : d.toList.drop (i + (T.node ks).hd.length) = T.encs ks ++ rest := by
      rw [← List.drop_drop, hat, T.enc_eq, List.append_assoc, List.drop_left]; rfl
    refine get_first ks ok4 oks (by omega) w A s a dx e d rest n (i + (T.node ks).hd.length) _ at_ k1 k2 k3 k4 k5 k6 k7 td t2 t3 t4 ta Q E h1 h2 h3 hat' hz (by omega) (by omega) (by rw [hend]; exact hroom _ Ns) ?_
    intro h' tk' v vs ls t4' n' hE gA gD gE hlz hap hfr hv
    rw [hend] at gD
    rw [hatn] at hv
    have hna : ∀ p ∈ ls.flatten, p.1 ≠ a ∧ p.1 ≠ dx ∧ p.1 ≠ e := fun p hp => ⟨ne_of (hfr p hp).1 (Ns _ (.head _)).1, ne_of (hfr p hp).1 (Ns _ (.tail _ (.head _))).1, ne_of (hfr p hp).1 (Ns _ (.tail _ (.tail _ (.head _)))).1⟩
    refine hret h' tk' v vs ls t4' n' (Fr.but F Ns hE fun a' ha' => mem_fst ha') (News.but F N hE ?_) hlz hap hna ?_ hv
    · intro p hp
      rcases List.mem_append.mp hp with hp | hp
      · rcases List.mem_cons.mp hp with rfl | hp
        · exact .inr (.inl ⟨⟨_, .head _⟩, gA⟩)
        rcases List.mem_cons.mp hp with rfl | hp
        · exact .inr (.inl ⟨⟨_, .tail _ (.head _)⟩, gD⟩)
        rw [List.mem_singleton.mp hp]
        exact .inr (.inl ⟨⟨_, .tail _ (.tail _ (.head _))⟩, gE⟩)
      rcases List.mem_append.mp hp with hp | hp
      · rw [Nat.sub_zero, List.take_of_length_le (by rw [hlz.length.2]; exact Nat.le_refl _)] at hp
        exact .inr (.inr (hfr p hp))
      · refine .inl ⟨List.mem_append_right _ hp, fun hm => ?_⟩
        rcases List.mem_cons.mp hm with q | hm
        · exact hown p hp _ (.head _) q.symm
        rcases List.mem_cons.mp hm with q | hm
        · exact hown p hp _ (.tail _ (.head _)) q.symm
        · exact hown p hp _ (.tail _ (.tail _ (.head _))) (List.mem_singleton.mp hm).symm
    · intro p hp q hq
      rw [Nat.sub_zero, List.take_of_length_le (by rw [hlz.length.2]; exact Nat.le_refl _)] at hq
      exact ne_of (hfr q hq).1 (N p (List.mem_append_right _ hp)).1
  · have hv4 : vs.length = ks.length := hlz.length.1
    obtain ⟨v, hv⟩ : ∃ v, vs[ks.length - 1 - r]? = some v := ⟨_, List.getElem?_eq_getElem (by omega)⟩
    refine get_again w A s a dx e d n vs _ _ _ at_ k1 k2 k3 k4 k5 k6 k7 td t2 t3 t4 ta v Q E (by omega) (by omega) (by omega) (by rw [hatn]; exact hv) ((hroom _ (News.sub N fun p hp => List.mem_append_left _ (List.mem_append_left _ hp))).le (by omega)) ?_
    intro h' tk' hE
    refine hret h' tk' v vs ls t4 n (F.keeps hE) (by rw [← List.append_assoc]; exact News.grown N hE) hlz hap hna ?_ hv
    intro p hp q hq
    exact hown p hp q (List.mem_append_right _ hq)
theorem regainA {A A₀ : Around} {base g h h' : Heap} {outer : List Env} {L : Addr} {m : Str → Option Value} {news : List (Addr × Obj)} {l : List Addr} {e : Env} (hA : A.frames = some (e :: outer)) (hf : e.frame = some L)
    (B : Below A₀ base outer g) (F : Fr g L h m) (N : News g L h news) (D : KtsDicts (fr outer) g) (hE : ExtT (framesOf A) l h h') (hl : ∀ a ∈ l, ∃ o, (a, o) ∈ news) :
    ∃ g', KtsTurn (fr outer) g g' ∧ Fr g' L h' m ∧ Below A₀ base outer g' ∧ KtsDicts (fr outer) g' ∧ (∀ p ∈ news, p.1 ∉ l → h'.get? p.1 = some p.2 ∧ p.1 ≠ L ∧ g'.get? p.1 = none) := by
  have e' : framesOf A = fr (e :: outer) := by unfold framesOf; rw [hA]
  rw [e'] at hE
  exact regain hf B F N D hE hl
theorem mem_take_succ {ls : List (List (Addr × Obj))} {k : Nat} {p : Addr × Obj} (h : p ∈ (ls.take k).flatten) : p ∈ (ls.take (k + 1)).flatten := by
  obtain ⟨l, hl, hp⟩ := List.mem_flatten.mp h
  refine List.mem_flatten.mpr ⟨l, ?_, hp⟩
  have e : ls.take k = (ls.take (k + 1)).take k := by rw [List.take_take]; congr 1; omega
  rw [e] at hl
  exact List.mem_of_mem_take hl
theorem apart_take {ls : List (List (Addr × Obj))} {k : Nat} {l : List (Addr × Obj)} {p : Addr × Obj} (ap : Apart ls) (e : ls[k]? = some l) (h : p ∈ (ls.take k).flatten) : ∀ q ∈ l, p.1 ≠ q.1 := by
  obtain ⟨l', hl, hp⟩ := List.mem_flatten.mp h
  obtain ⟨j, hj, e'⟩ := List.getElem_of_mem hl
  rw [List.length_take] at hj
  rw [List.getElem_take] at e'
  obtain ⟨hk, e⟩ := List.getElem?_eq_some_iff.mp e
  have := List.pairwise_iff_getElem.mp ap j k (by omega) hk (by omega)
  rw [e', e] at this
  exact this p hp
theorem RoomN.in1 {w : World} {A : Around} {h : Heap} {k : Nat} {news} (R : RoomN w A h (k + 1) news) : RoomN w A.in1 h k news :=
  ⟨R.site, by have := R.depth; show A.depth + k < _; omega, by have := R.units; show A.units + 1 + 12 * k < _; omega⟩
theorem RoomS.in1 {w : World} {A : Around} {h : Heap} {k : Nat} {news} (R : RoomS w A h (k + 1) news) : RoomS w A.in1 h k news :=
  ⟨R.site, by have := R.depth; show A.depth + k < _; omega, by have := R.units; show A.units + 1 + 12 * k < _; omega⟩
theorem ll_node (ks : List T) (ih : ∀ t ∈ ks, LlSpec t) : LlSpec (.node ks) := by
  intro ok hlen w A s d i rest v pl l td Q E R hz hat hl hpl hret
  obtain ⟨a, dx, e, k1, k2, k3, k4, k5, k6, k7, t2, t3, t4, n, rfl, h1, h2, h3, rfl⟩ := hl
  obtain ⟨aP, tv, q1, q2, q3, lk, nk, kvs, rfl, hT, htv, hK, hks⟩ := hpl.tup
  simp only [TIn] at htv
  obtain ⟨at', tvs, nt, rfl, hTl, htks⟩ := htv
  refine wpAny_call ?_
  have R' : RoomS w A s.heap (T.deps ks + 8 + 1) _ := R.le (by simp only [T.dep]; omega)
  walk_at "enterS"
  rename_i dp un gd env outer base g h₁ L' p loose mean mg mb hdp hun F N B G XB TB D hfs X Tp
  have hTg := Ground.tup (G _ _ hT.2 hT.1)
  have hKg : Heap.IsList g lk kvs.toArray := ⟨_, G _ _ hK.2 hK.1, rfl, nk, rfl⟩
  have hLg : Heap.IsList g at' tvs.toArray := ⟨_, G _ _ hTl.2 hTl.1, rfl, nt, rfl⟩
  k_steps
  all_goals (try (exfalso; omega))
  show wpAny _ _ _ _ _ _
  rename Fr _ _ _ _ => F
  obtain ⟨m₀, F, e1, e2⟩ : ∃ m₀, Fr g L' _ m₀ ∧ m₀ (Str.ofString "item") = some (.ref a) ∧ m₀ (Str.ofString "kids") = some (.ref lk) := ⟨_, F, rfl, rfl⟩
  have hkl : kvs.length = ks.length := hks.length
  have ok' := ok
  rw [T.ok] at ok'
  obtain ⟨ok4, oks⟩ := ok'
  refine For_R (by rfl) (by rfl) (by rfl) (LlJ w d td a dx e k1 k2 k3 k4 k5 k6 k7 t2 t3 ks i lk (fr (env :: outer)) ⟨none, dp, some (env :: outer), gd, un⟩ base (env :: outer) g) ?_
  refine hideQ fun K hq => ?_
  k_steps
  all_goals (try k_data)
  refine hq _ _ ?_
  rename IsRange _ _ _ _ _ _ _ _ => hR
  rename Fr _ _ _ _ => F
  rename News _ _ _ _ => N
  have hr := range_down ks.length ok4
  rw [← hkl] at hr
  refine ⟨_, _, _, _, _, _, _, kvs.length, g, m₀, _, rfl, hR, hr.2, hr.1, F, News.sub (news' := lzO w a dx e k1 k2 k3 k4 k5 k6 k7 td t2 t3 t4 d ((i + (T.node ks).hd.length : Nat) : Int) ((i + (T.node ks).enc.length : Nat) : Int) ((i + (T.node ks).hd.length : Nat) : Int) [] n) N (fun p hp => .tail _ hp), ⟨KtsTurn.refl, B, e1, e2, .inl ⟨rfl, t4, n, rfl⟩⟩, ?_, ?_⟩
  · rintro r vt g₁ m₁ news₁ own h₁' tk₁ hr hJ hown F₁ N₁
    obtain ⟨KT, B₁, m1, m2, hst⟩ := hJ
    have X₁ := XB.keeps B₁.stays
    have Tp₁ := TB.keeps B₁.stays
    have D₁ := D.turn KT
    have hKg₁ : Heap.IsList g₁ lk kvs.toArray := ⟨_, keep_turn KT D (G _ _ hK.2 hK.1) nd_list, rfl, nk, rfl⟩
    clear X Tp B F N hKg hLg hR
    have hatv : (((kvs.length : Int) - 1 + (r : Nat) * (-1)).toNat) = ks.length - 1 - r := by omega
    obtain ⟨od, hA, hD⟩ : ∃ od, (a, instObj 1787 dx) ∈ news₁ ++ own ∧ (dx, od) ∈ news₁ ++ own := by
      rcases hst with ⟨_, t4, n, rfl⟩ | ⟨_, vs, ls, t4, n, rfl, _⟩
      · exact ⟨_, .head _, .tail _ (.head _)⟩
      · exact ⟨_, .head _, .tail _ (.head _)⟩
    k_steps
    show wpAny _ _ _ _ _ _
    rename Fr _ _ _ _ => F₂
    rename News _ _ _ _ => N₂
    refine get_turn (r := r) ok hlen h1 h2 h3 hat hz F₂ N₂ (fun nn Nn => (roomN_in (k := 8) (by omega) (by omega) F₂ Nn B₁ X₁ Tp₁ (by rfl) (by rfl)).in1) hown (by omega) (by omega) hst ?_
    intro h4 tk4 v vs ls t4' n4 F₄ N₄ hlz hap hna hown' hv
    clear F₂ N₂ hA hD
    obtain ⟨t, et⟩ : ∃ t, ks[ks.length - 1 - r]? = some t := ⟨_, List.getElem?_eq_getElem (by omega)⟩
    obtain ⟨v', lv, hv', hlv, hlzk⟩ := hlz.get et
    rw [hv] at hv'
    cases hv'
    obtain ⟨pv, hpv⟩ : ∃ pv, kvs[ks.length - 1 - r]? = some pv := ⟨_, List.getElem?_eq_getElem (by omega)⟩
    k_steps
    show wpAny _ _ _ _ _ _
    refine item_list (vs := kvs) (Fr.lst (by assumption) hKg₁) (by omega) (by omega) (by rw [hatv]; exact hpv) ?_
    k_steps
    show wpAny _ _ _ _ _ _
    rename Fr _ _ _ _ => F₅
    rename News _ _ _ _ => N₅
    have hlm : ∀ p ∈ lv, p ∈ (ls.take (ks.length - r)).flatten := fun p hp => List.mem_flatten.mpr ⟨lv, List.mem_of_getElem? (i := ks.length - 1 - r) (by rw [List.getElem?_take_of_lt (by omega)]; exact hlv), hp⟩
    have hlN : ∀ p ∈ lv, p ∈ lzO w a dx e k1 k2 k3 k4 k5 k6 k7 td t2 t3 t4' d ((i + (T.node ks).hd.length : Nat) : Int) ((i + (T.node ks).enc.length : Nat) : Int) ((i + (T.node ks).enc.length : Nat) : Int) vs n4 ++ ((ls.take (ks.length - r)).flatten ++ own) := fun p hp => List.mem_append_right _ (List.mem_append_left _ (hlm p hp))
    obtain ⟨t', et', hpl'⟩ := hks.get hpv
    have et' : ks[ks.length - 1 - r]? = some t' := et'
    rw [et] at et'
    cases et'
    obtain ⟨rest', hat', hl'⟩ := kid_at (t := .node ks) hat et
    have hdl := T.dep_le et
    refine ih t (List.mem_of_getElem? et) (T.oks_get oks et) (by omega) w _ _ d _ rest' v pv lv td _ _ ((roomS_in hdp hun F₅ (News.sub N₅ hlN) B₁ XB TB D₁ (by rfl) (by rfl)).le (by omega)) hz hat' hlzk (PlIn.mono (fun b o q => ?_) _ _ _ (PlIn.nd _ _ _ hpl')) ?_
    · have hg := keep_turn KT D (G _ _ q.1.2 q.1.1) q.2
      refine ⟨F₅.keep _ _ hg, fun hm => ?_⟩
      obtain ⟨o', ho'⟩ := mem_fst hm
      have := (N₅ _ (hlN _ ho')).2.2
      rw [hg] at this; cases this
    intro h6 tk6 hE6
    obtain ⟨g₂, KT₂, F₆, B₂, D₂, hN₂⟩ := regainA rfl rfl B₁ F₅ N₅ D₁ hE6 fun a' ha' => (let ⟨o, ho⟩ := mem_fst ha'; ⟨o, hlN _ ho⟩)
    have N₆ : News g₂ L' h6 ((lzO w a dx e k1 k2 k3 k4 k5 k6 k7 td t2 t3 t4' d ((i + (T.node ks).hd.length : Nat) : Int) ((i + (T.node ks).enc.length : Nat) : Int) ((i + (T.node ks).enc.length : Nat) : Int) vs n4 ++ (ls.take (ks.length - (r + 1))).flatten) ++ own) := by
      intro p hp
      rw [List.append_assoc] at hp
      have hk1 : ks.length - r = (ks.length - 1 - r) + 1 := by omega
      have hk2 : ks.length - (r + 1) = ks.length - 1 - r := by omega
      rcases List.mem_append.mp hp with hp | hp
      · refine hN₂ p (List.mem_append_left _ hp) fun hm => ?_
        obtain ⟨o, ho⟩ := mem_fst hm
        have hn := hna _ (List.mem_flatten.mpr ⟨lv, List.mem_of_getElem? hlv, ho⟩)
        rcases List.mem_cons.mp hp with rfl | hp
        · exact hn.1 rfl
        rcases List.mem_cons.mp hp with rfl | hp
        · exact hn.2.1 rfl
        rw [List.mem_singleton.mp hp] at hn
        exact hn.2.2 rfl
      rcases List.mem_append.mp hp with hp | hp
      · rw [hk2] at hp
        refine hN₂ p (List.mem_append_right _ (List.mem_append_left _ (by rw [hk1]; exact mem_take_succ hp))) fun hm => ?_
        obtain ⟨o, ho⟩ := mem_fst hm
        exact apart_take hap hlv hp _ ho rfl
      · refine hN₂ p (List.mem_append_right _ (List.mem_append_right _ hp)) fun hm => ?_
        obtain ⟨o, ho⟩ := mem_fst hm
        exact hown' p hp _ (hlm _ ho) rfl
    have X₂ := XB.keeps B₂.stays
    have Tp₂ := TB.keeps B₂.stays
    clear F₅ N₅ X₁ Tp₁ hKg₁
    k_steps
    rename Fr _ _ _ _ => F₈
    rename News _ _ _ _ => N₈
    have hownO : ∀ p ∈ own, ∀ q ∈ lzO w a dx e k1 k2 k3 k4 k5 k6 k7 td t2 t3 t4' d ((i + (T.node ks).hd.length : Nat) : Int) ((i + (T.node ks).enc.length : Nat) : Int) ((i + (T.node ks).enc.length : Nat) : Int) vs n4, q.1 ≠ p.1 := by
      intro p hp q hq
      have hA : ∃ o1 o2 o3, (a, o1) ∈ news₁ ∧ (dx, o2) ∈ news₁ ∧ (e, o3) ∈ news₁ := by
        rcases hst with ⟨_, t4, n, rfl⟩ | ⟨_, vs, ls, t4, n, rfl, _⟩
        · exact ⟨_, _, _, .head _, .tail _ (.head _), .tail _ (.tail _ (.head _))⟩
        · exact ⟨_, _, _, .head _, .tail _ (.head _), .tail _ (.tail _ (.head _))⟩
      obtain ⟨o1, o2, o3, q1, q2, q3⟩ := hA
      rcases List.mem_cons.mp hq with rfl | hq
      · exact hown p hp (a, o1) q1
      rcases List.mem_cons.mp hq with rfl | hq
      · exact hown p hp (dx, o2) q2
      rw [List.mem_singleton.mp hq]
      exact hown p hp (e, o3) q3
    refine ⟨h6, _, g₂, _, _, rfl, F₈, N₈, ?_, ⟨KT.trans KT₂, B₂, m1, m2, .inr ⟨by omega, vs, ls, t4', n4, rfl, hlz, hap, hna⟩⟩⟩
    intro p hp q hq
    rcases List.mem_append.mp hq with hq | hq
    · exact hownO p hp q hq
    · exact hown' p hp q (by
        have hk1 : ks.length - r = (ks.length - 1 - r) + 1 := by omega
        have hk2 : ks.length - (r + 1) = ks.length - 1 - r := by omega
        rw [hk2] at hq
        rw [hk1]; exact mem_take_succ hq)
  · rintro h₁' tk₁ g₁ m₁ news₁ F₁ N₁ hJ
    obtain ⟨KT, B₁, m1, m2, hst⟩ := hJ
    have X₁ := XB.keeps B₁.stays
    have Tp₁ := TB.keeps B₁.stays
    have D₁ := D.turn KT
    have hKg₁ : Heap.IsList g₁ lk kvs.toArray := ⟨_, keep_turn KT D (G _ _ hK.2 hK.1) nd_list, rfl, nk, rfl⟩
    clear X Tp B F N hKg hLg hR
    obtain ⟨vs, t4', n', N₂, hvl⟩ : ∃ vs t4' n', News g₁ L' h₁' (lzO w a dx e k1 k2 k3 k4 k5 k6 k7 td t2 t3 t4' d ((i + (T.node ks).hd.length : Nat) : Int) ((i + (T.node ks).enc.length : Nat) : Int) ((i + (T.node ks).enc.length : Nat) : Int) vs n') ∧ vs.length = ks.length := by
      rcases hst with ⟨h0, t4, n, rfl⟩ | ⟨hr1, vs, ls, t4, n, rfl, hlz, hap, hna⟩
      · have hk0 : ks = [] := List.eq_nil_of_length_eq_zero (by omega)
        subst hk0
        have hend : (T.node []).enc.length = (T.node []).hd.length := by rw [T.enc_eq, List.length_append]; rfl
        rw [← hend] at N₁
        exact ⟨[], t4, n, by rw [← hend]; exact N₁, rfl⟩
      · exact ⟨vs, t4, n, News.sub N₁ fun p hp => List.mem_append_left _ hp, hlz.length.1⟩
    clear N₁
    show wpAny _ _ _ _ _ _
    k_steps
    show wpAny _ _ _ _ _ _
    rename Fr _ _ _ _ => F₂
    refine len_spec w _ _ a dx e d vs n' _ _ k1 k2 k3 k4 k5 k6 k7 td t2 t3 t4' _ _ h1 h2 h3 (by omega) (RoomS.in1 (roomS_in (k := 5) (by omega) (by omega) F₂ N₂ B₁ XB TB D₁ (by rfl) (by rfl))) ?_
    intro h6 tk6 tok6 hE6
    obtain ⟨g₂, KT₂, F₆, B₂, D₂, _⟩ := regainA rfl rfl B₁ F₂ N₂ D₁ hE6 fun a' ha' => mem_fst ha'
    have N₆ : News g₂ L' h6 [] := News.nil
    have X₂ := XB.keeps B₂.stays
    have Tp₂ := TB.keeps B₂.stays
    have hKg₂ : Heap.IsList g₂ lk kvs.toArray := ⟨_, keep_turn (KT.trans KT₂) D (G _ _ hK.2 hK.1) nd_list, rfl, nk, rfl⟩
    clear F₂ N₂ X₁ Tp₁ hKg₁
    dsimp only [W.LenBack]
    refine ⟨⟨by omega, by omega⟩, ?_⟩
    k_steps
    show LeaveR _ _ _
    rename Fr _ _ _ _ => F₈
    have hb : (((vs.length : Nat) : Int) == ((kvs.length : Nat) : Int)) = true := by rw [beq_iff_eq]; omega
    rw [hb]
    refine leaveR_ ?_
    exact hret _ _ (turn_end hfs G (KT.trans KT₂) F₈)
theorem ll_specN : ∀ (n : Nat) (t : T), t.dep ≤ n → LlSpec t := by
  intro n
  induction n with
  | zero => intro t h; cases t <;> simp only [T.dep] at h <;> omega
  | succ n ih =>
    intro t h
    cases t with
    | leaf b => exact ll_leaf b
    | node ks =>
      refine ll_node ks fun t ht => ?_
      obtain ⟨i, hi, e⟩ := List.getElem_of_mem ht
      have := T.dep_le (ts := ks) (i := i) (t := t) (by rw [List.getElem?_eq_getElem hi, e])
      exact ih t (by simp only [T.dep] at h; omega)
theorem ll_spec (t : T) : LlSpec t := ll_specN _ t (Nat.le_refl _)
end Mine
end
section
open PySem PySem.W PySem.Calls PyProof.Rows PySem.Spec
namespace Mine
theorem fresh_M2 : True := by
  w_top off
  run_tac do
    walkLines.set (0, {})
    walkStart.set 0
    walkLate.set false
  trivial
local macro_rules | `(tactic| walk_at "enter") => `(tactic| (refine' enter (by assumption) ?k6 ?k7 ?k9 ?kB ?_ ?c2 ?c3 ?c4 ?c5; (case k6 => k_is); (case k7 => k_is); (case k9 => exact BindsTo.of_eq rfl); (case c5 => decide); (case kB => exact locs rfl); (case c2 => exact rfl); (case c3 => exact rfl); (case c4 => exact rfl); k_whole; intro dp' un' gd' env' outer' base' g' h' L' p' loose' mean' mg' mb' hd' hu' F' N' B' X' T' G'; (try dsimp only); (try k_fold)))
local macro_rules | `(tactic| walk_at "room") => `(tactic| (refine Room.le (room_in (by assumption) (by assumption) (by assumption) (by assumption) (by assumption) (by assumption) (by rfl) (by rfl)) ?_))
local macro_rules | `(tactic| walk_at "subscriptTail") => `(tactic| ((with_reducible show wpAny _ _ (subscriptTail _ _ (Value.bytes _ _) (Value.int _ _)) _ _ _); (refine item_b (by omega) (by omega) (by omega) ?_ (by with_unfolding_all rfl) (by intro _; with_unfolding_all rfl))))
local macro_rules | `(tactic| walk_at "subscriptTail") => `(tactic| ((with_reducible show wpAny _ _ (subscriptTail _ _ (Value.ref 1450) (Value.int _ _)) _ _ _); (refine item_all (by assumption) (by assumption) (by omega) (by omega) ?_ (by with_unfolding_all rfl)); intro _))
local macro_rules | `(tactic| walk_at "binaryOp Add bytes bytes") => `(tactic| ((with_reducible show wpAny _ _ (binaryOp Operator.Add (Value.bytes _ _) (Value.bytes _ _)) _ _ _); (refine KBy.add_bytes (by first | omega | (simp; omega)) ?_); intro _ _))
local macro_rules | `(tactic| walk_at "eval ListComp") => `(tactic| (refine stop_ ?_))
local macro_rules | `(tactic| walk_at "eval GeneratorExp") => `(tactic| (refine stop_ ?_))
local macro_rules | `(tactic| walk_at "call builtin:bytes.join") => `(tactic| (refine stop_ ?_))
local macro_rules | `(tactic| walk_at "getMethod bytes") => `(tactic| (refine method_join ?_))
local macro_rules | `(tactic| walk_at "call builtin:isinstance") => `(tactic| ((with_reducible show wpAny _ _ (call _ [Value.ref _, Value.ref _]) _ _ _); refine' kia_tup kitx_list ?X ?c ?p ?ee ?nb ?_; (case c => exact kitAt_F (by assumption) (by assumption)); (case X => k_in); (case p => kit_tp); (case ee => kit_is); (case nb => kit_nb); k_whole; intro _))

local macro_rules | `(tactic| walk_at "subscriptTail") => `(tactic| ((with_reducible show wpAny _ _ (subscriptTail _ _ (Value.bytes _ _) (Value.ref _)) _ _ _); (with_reducible rename Fr _ _ _ _ => F'); (with_reducible rename News _ _ _ _ => N'); (refine slice_b (s := ⟨_, _, _, _, _⟩) F' N' (by omega) (by omega) (by omega) ?_); intro _ _ _ _ _))


local macro_rules | `(tactic| walk_at "enter") => `(tactic| (refine' enterN (by assumption) ?k6 ?k7 ?k9 ?kB ?_ ?c2 ?c3 ?c4 ?c5; (case k6 => k_is); (case k7 => k_is); (case k9 => first | exact binds_K (RoomN.inK (by assumption)) rfl (by k_is) rfl rfl rfl | exact BindsTo.of_eq rfl); (case c5 => decide); (case kB => exact locs rfl); (case c2 => exact rfl); (case c3 => exact rfl); (case c4 => exact rfl); k_whole; intro dp' un' gd' env' outer' base' g' h' L' p' loose' mean' mg' mb' hd' hu' F' N' B' X' T' G'; (try dsimp only); (try k_fold)))
local macro_rules | `(tactic| k_room) => `(tactic| ((try simp only [depth_under_make, depth_under_kw, depth_in1, depth_deeper, depth_caller]); (try dsimp only); omega))
local macro_rules | `(tactic| walk_at "call builtin:len") => `(tactic| (k_here; (with_reducible show wpAny _ _ (call (Value.builtin "len") [Value.ref _]) _ _ _); (refine call_len_list (News.isList (by k_asm) (by k_mem)) (by rw [size_arr]; omega) ?_); rw [size_arr]))
abbrev tapeO (tp scr : Addr) (i : Int) (tk : Tok) (n : Nat) (vs : List Value) (n2 : Nat) : List (Addr × Obj) := [(tp, W.listOf #[.int i tk, .ref scr] n), (scr, W.listOf vs.toArray n2)]
theorem draw_spec (w : World) (A : Around) (s : Shared) (tp scr : Addr) (i : Int) (tk : Tok) (n : Nat) (vs : List Value) (ns : List Int) (n2 : Nat) (Q E : Value → Shared → Prop) (hne : @Ne Nat tp scr) (h0 : 0 ≤ i) (hi : IntsAre vs ns) (hl : vs.length ≤ 14)
  (R : RoomN w A s.heap 2 (tapeO tp scr i tk n vs n2))
  (hret : ∀ h' tk' r tokr tk2 n', ExtB [tp, scr] s.heap h' → (∀ p ∈ tapeO tp scr (i + 1) tk2 n' vs n2, h'.get? p.1 = some p.2) → Q (.int r tokr) { s with heap := h', toks := tk' }) :
   wpAny (model prog w) A (call (.ref 1799) [.ref tp]) Q E s := by
  refine wpAny_call ?_
  have R' : RoomN w A s.heap (1 + 1) _ := R
  walk_at "enter"
  rename_i dp un gd env outer base g h₁ L' p loose mean mg mb hdp hun F N B X Tp G
  k_steps
  all_goals (
    show Leave0 g L' _ _ _
    rename News _ _ _ _ => N
    refine leaveN (by assumption) G ?_
    intro hE
    exact hret _ _ _ _ _ _ hE (fun p hp => (N p hp).1))
end Mine
end
section
open PySem PySem.W PySem.Calls PyProof.Rows PySem.Spec
namespace Mine
theorem fresh_M3 : True := by
  w_top off
  run_tac do
    walkLines.set (0, {})
    walkStart.set 0
    walkLate.set false
  trivial
local macro_rules | `(tactic| walk_at "enter") => `(tactic| (refine' enter (by assumption) ?k6 ?k7 ?k9 ?kB ?_ ?c2 ?c3 ?c4 ?c5; (case k6 => k_is); (case k7 => k_is); (case k9 => exact BindsTo.of_eq rfl); (case c5 => decide); (case kB => exact locs rfl); (case c2 => exact rfl); (case c3 => exact rfl); (case c4 => exact rfl); k_whole; intro dp' un' gd' env' outer' base' g' h' L' p' loose' mean' mg' mb' hd' hu' F' N' B' X' T' G'; (try dsimp only); (try k_fold)))
local macro_rules | `(tactic| walk_at "room") => `(tactic| (refine Room.le (room_in (by assumption) (by assumption) (by assumption) (by assumption) (by assumption) (by assumption) (by rfl) (by rfl)) ?_))
local macro_rules | `(tactic| walk_at "subscriptTail") => `(tactic| ((with_reducible show wpAny _ _ (subscriptTail _ _ (Value.bytes _ _) (Value.int _ _)) _ _ _); (refine item_b (by omega) (by omega) (by omega) ?_ (by with_unfolding_all rfl) (by intro _; with_unfolding_all rfl))))
local macro_rules | `(tactic| walk_at "subscriptTail") => `(tactic| ((with_reducible show wpAny _ _ (subscriptTail _ _ (Value.ref 1450) (Value.int _ _)) _ _ _); (refine item_all (by assumption) (by assumption) (by omega) (by omega) ?_ (by with_unfolding_all rfl)); intro _))
local macro_rules | `(tactic| walk_at "binaryOp Add bytes bytes") => `(tactic| ((with_reducible show wpAny _ _ (binaryOp Operator.Add (Value.bytes _ _) (Value.bytes _ _)) _ _ _); (refine KBy.add_bytes (by first | omega | (simp; omega)) ?_); intro _ _))
local macro_rules | `(tactic| walk_at "eval ListComp") => `(tactic| (refine stop_ ?_))
local macro_rules | `(tactic| walk_at "call ref") => `(tactic| ((with_reducible show wpAny _ _ (call (Value.ref 1799) _) _ _ _); refine stop_ ?_))
local macro_rules | `(tactic| walk_at "call ref") => `(tactic| ((with_reducible show wpAny _ _ (call (Value.ref 1804) _) _ _ _); refine stop_ ?_))
local macro_rules | `(tactic| walk_at "eval GeneratorExp") => `(tactic| (refine stop_ ?_))
local macro_rules | `(tactic| walk_at "call builtin:bytes.join") => `(tactic| (refine stop_ ?_))
local macro_rules | `(tactic| walk_at "getMethod bytes") => `(tactic| (refine method_join ?_))
local macro_rules | `(tactic| walk_at "call builtin:isinstance") => `(tactic| ((with_reducible show wpAny _ _ (call _ [Value.ref _, Value.ref _]) _ _ _); refine' kia_tup kitx_list ?X ?c ?p ?ee ?nb ?_; (case c => exact kitAt_F (by assumption) (by assumption)); (case X => k_in); (case p => kit_tp); (case ee => kit_is); (case nb => kit_nb); k_whole; intro _))

local macro_rules | `(tactic| walk_at "subscriptTail") => `(tactic| ((with_reducible show wpAny _ _ (subscriptTail _ _ (Value.bytes _ _) (Value.ref _)) _ _ _); (with_reducible rename Fr _ _ _ _ => F'); (with_reducible rename News _ _ _ _ => N'); (refine slice_b (s := ⟨_, _, _, _, _⟩) F' N' (by omega) (by omega) (by omega) ?_); intro _ _ _ _ _))


local macro_rules | `(tactic| walk_at "enterC") => `(tactic| (refine' enterC ?kS ?k6 ?k7 ?k9 ?kB ?kD ?_ ?c2 ?c3 ?c4; (case kS => first | assumption | exact Room.n (by assumption)); (case k6 => k_is); (case k7 => k_is); (case k9 => exact BindsTo.of_eq rfl); (case kB => exact rfl); (case kD => decide +kernel); (case c2 => exact rfl); (case c3 => exact rfl); (case c4 => exact rfl); k_whole; intro dp' un' gd' env' outer' base' g' h' L' p' loose' mean' mg' mb' tk' cells' hd' hu' F' N' Y' B' X' T' G' lt'; (try dsimp only); k_cells Y'; (try simp only [List.cons_append, List.nil_append] at N'); (try k_fold)))
local macro_rules | `(tactic| k_room) => `(tactic| ((try simp only [depth_under_make, depth_under_kw, depth_in1, depth_deeper, depth_caller]); (try dsimp only); omega))
/-- how long the octets of a tree of depth k may be -/
def bnd : Nat → Nat
  | 0 => 198
  | k + 1 => 4 * bnd k + 3
theorem encs_bnd {B : Nat} : ∀ {ks : List T}, (∀ t ∈ ks, t.enc.length ≤ B) → (T.encs ks).length ≤ ks.length * B
  | [], _ => by simp [T.encs]
  | k :: ks, h => by
    rw [T.encs, List.length_append, List.length_cons, Nat.succ_mul]
    have h1 := h k (.head _)
    have h2 := encs_bnd (ks := ks) fun t ht => h t (.tail _ ht)
    omega
theorem pre_le (off n : Nat) (h : n < 65536) : (pre off n).length ≤ 3 := by rw [be_pre]; split <;> (try split) <;> omega
def TreeOk (k : Nat) (t : T) : Prop := t.ok ∧ t.dep ≤ k + 1 ∧ t.enc.length ≤ bnd k
theorem leaf_ok {b : Array UInt8} (h : b.size ≤ 196) (k : Nat) : TreeOk k (.leaf b) := by
  have hb : b.toList.length = b.size := Array.length_toList ..
  have h0 : ∀ k, 198 ≤ bnd k := by
    intro k
    induction k with
    | zero => exact Nat.le_refl _
    | succ k ih => rw [bnd]; omega
  refine ⟨by rw [T.ok]; exact h, by simp only [T.dep]; omega, Nat.le_trans ?_ (h0 k)⟩
  rw [T.enc]
  split
  · rw [hb]; omega
  · rw [List.length_append, be_pre, hb]; split <;> (try split) <;> omega
theorem node_ok {ks : List T} {k : Nat} (hl : ks.length ≤ 4) (h : ∀ t ∈ ks, TreeOk k t) (hk : k ≤ 3) : TreeOk (k + 1) (.node ks) := by
  have h3 : ∀ k, k ≤ 3 → bnd k ≤ 12735 := by
    intro k hk
    rcases (by omega : k = 0 ∨ k = 1 ∨ k = 2 ∨ k = 3) with rfl | rfl | rfl | rfl <;> decide
  have hb := h3 k hk
  have e1 := encs_bnd fun t ht => (h t ht).2.2
  have e2 : ks.length * bnd k ≤ 4 * bnd k := Nat.mul_le_mul_right _ hl
  have hok : T.oks ks := by
    clear e1 e2 hl
    induction ks with
    | nil => simp [T.oks]
    | cons t ts ih => simp only [T.oks]; exact ⟨(h t (.head _)).1, ih fun t ht => h t (.tail _ ht)⟩
  have hdp : T.deps ks ≤ k + 1 := by
    clear e1 e2 hl hok
    induction ks with
    | nil => simp [T.deps]
    | cons t ts ih =>
      rw [T.deps]
      exact Nat.max_le.mpr ⟨(h t (.head _)).2.1, ih fun t ht => h t (.tail _ ht)⟩
  refine ⟨by rw [T.ok]; exact ⟨hl, hok⟩, by simp only [T.dep]; omega, ?_⟩
  rw [T.enc, List.length_append, bnd]
  have := pre_le 192 (T.encs ks).length (by omega)
  omega
theorem tabs_le (j : Nat) : 0 ≤ ([0, 1, 2, 55, 1, 3, 56, 1, 0, 54, 5, 1, 57, 1, 196, 1] : List Int).getD j 0 ∧ ([0, 1, 2, 55, 1, 3, 56, 1, 0, 54, 5, 1, 57, 1, 196, 1] : List Int).getD j 0 ≤ 196 := by
  by_cases h : j < 16
  · have : ∀ j < 16, 0 ≤ ([0, 1, 2, 55, 1, 3, 56, 1, 0, 54, 5, 1, 57, 1, 196, 1] : List Int).getD j 0 ∧ ([0, 1, 2, 55, 1, 3, 56, 1, 0, 54, 5, 1, 57, 1, 196, 1] : List Int).getD j 0 ≤ 196 := by decide
    exact this j h
  · rw [List.getD_eq_getElem?_getD, List.getElem?_eq_none (by simp; omega)]
    decide
def TrSpec (k : Nat) : Prop := ∀ (w : World) (A : Around) (s : Shared) (tp scr : Addr) (i : Int) (tk td : Tok) (n : Nat) (vs : List Value) (ns : List Int) (n2 : Nat) (Q E : Value → Shared → Prop), @Ne Nat tp scr → 0 ≤ i → IntsAre vs ns → vs.length ≤ 14 →
  RoomN w A s.heap (k + 5) (tapeO tp scr i tk n vs n2) →
  (∀ h' tk' t v R i' tk2 n', ExtB [tp, scr] s.heap h' → (∀ p ∈ tapeO tp scr i' tk2 n' vs n2, h'.get? p.1 = some p.2) → 0 ≤ i' → TreeOk k t → TIn (inR R) t v → (∀ p ∈ R, fresh s.heap h' p.1 p.2) → Q v { s with heap := h', toks := tk' }) →
  wpAny (model prog w) A (call (.ref 1804) [.ref tp, .int (k : Nat) td]) Q E s
theorem flat_size {n : Int} {x : UInt8} (h0 : 0 ≤ n) (h : n ≤ 196) : ((List.replicate n.toNat [x]).flatten).toArray.size ≤ 196 := by
  rw [size_arr, List.length_flatten]
  simp
  omega
theorem tr_zero : TrSpec 0 := by
  intro w A s tp scr i tk td n vs ns n2 Q E hne h0 hi hl R hret
  refine wpAny_call ?_
  have R' : RoomN w A s.heap (4 + 1) _ := R
  walk_at "enterC"
  rename_i dp un gd env outer base g h₁ L' p loose mean mg mb tk0 hdp hun F B X Tp G lt oc1 oc2 hoc1 hoc2 N
  have hoc1 : oc1.data = .cell (some (.int ((0 : Nat) : Int) td)) := hoc1
  have hoc2 : oc2.data = .cell (some (.ref tp)) := hoc2
  obtain ⟨m₀, F⟩ : ∃ m₀, Fr g L' h₁ m₀ := ⟨_, F⟩
  dsimp only [tapeO] at N
  have hlt : @LT.lt Nat _ tp L' := lt _ (.head _)
  have hlt2 : @LT.lt Nat _ scr L' := lt _ (.tail _ (.head _))
  k_steps
  show wpAny _ _ _ _ _ _
  rename Fr _ _ _ _ => F
  rename News _ _ _ _ => N
  have Ns := News.sub (news' := tapeO tp scr i tk n vs n2) N (by
    intro p hp
    rcases List.mem_cons.mp hp with rfl | hp
    · k_mem
    rw [List.mem_singleton.mp hp]
    k_mem)
  refine draw_spec w _ _ tp scr i tk n vs ns n2 _ _ hne h0 hi hl ((roomN_in hdp hun F Ns B X Tp (by rfl) (by rfl)).le (by omega)) ?_
  intro h2 tk2 r tokr tk3 n3 hE hT
  have F₂ := Fr.but F Ns hE fun a' ha' => mem_fst ha'
  have N₂ : News g L' h2 ((L' + 1 + 1, oc1) :: (L' + 1, oc2) :: tapeO tp scr (i + 1) tk3 n3 vs n2) := News.but F N hE (by
    intro p hp
    rcases List.mem_cons.mp hp with rfl | hp
    · refine .inl ⟨by k_mem, fun hm => ?_⟩
      rcases List.mem_cons.mp hm with q | hm
      · exact absurd q (Nat.ne_of_gt (Nat.lt_succ_of_lt (Nat.lt_succ_of_lt hlt)))
      · exact absurd (List.mem_singleton.mp hm) (Nat.ne_of_gt (Nat.lt_succ_of_lt (Nat.lt_succ_of_lt hlt2)))
    rcases List.mem_cons.mp hp with rfl | hp
    · refine .inl ⟨by k_mem, fun hm => ?_⟩
      rcases List.mem_cons.mp hm with q | hm
      · exact absurd q (Nat.ne_of_gt (Nat.lt_succ_of_lt hlt))
      · exact absurd (List.mem_singleton.mp hm) (Nat.ne_of_gt (Nat.lt_succ_of_lt hlt2))
    refine .inr (.inl ⟨?_, hT p hp⟩)
    rcases List.mem_cons.mp hp with rfl | hp
    · exact ⟨_, by k_mem⟩
    rw [List.mem_singleton.mp hp]
    exact ⟨_, by k_mem⟩)
  dsimp only [tapeO] at N₂
  clear F N Ns
  k_steps
  have hsz := tabs_le ((r.fdiv 4).fmod 16).toNat
  refine bytes_mul_any (b := [(((r.fdiv 4).fdiv 16).fmod 256).toNat.toUInt8]) (by simp) (by omega) (by omega) (by simp) ?_
  intro tq kq
  k_steps
  show Leave0 g L' _ _ _
  rename News _ _ _ _ => N
  refine leaveN (by assumption) G ?_
  intro hE'
  refine hret _ _ (.leaf _) _ [] (i + 1) tk3 n3 hE' (fun p hp => (N p (by repeat (first | exact hp | refine List.mem_cons_of_mem _ ?_))).1) (by omega) (leaf_ok ?_ 0) ⟨_, rfl⟩ (fun p hp => nomatch hp)
  exact flat_size hsz.1 hsz.2
def TrJ (k : Nat) (tp scr L' : Addr) (oc1 oc2 : Obj) (vs : List Value) (n2 : Nat) (g : Heap) (j : Nat) (ys : List Value) (h : Heap) : Prop :=
  ∃ R i' tk' n', 0 ≤ i' ∧ News g L' h ((L' + 1 + 1, oc1) :: (L' + 1, oc2) :: (tapeO tp scr i' tk' n' vs n2 ++ R)) ∧ (∀ p ∈ R, p.1 ≠ tp ∧ p.1 ≠ scr) ∧ ∃ ts : List T, ts.length = j ∧ (∀ t ∈ ts, TreeOk k t) ∧ TsIn (inR R) ts ys
theorem range_up (n : Nat) (h : n ≤ 4) : Builtin.Range.rangeSize 0 (n : Int) 1 = (n : Int) ∧ Builtin.Range.small 0 (n : Int) 1 = true := by
  rcases (by omega : n = 0 ∨ n = 1 ∨ n = 2 ∨ n = 3 ∨ n = 4) with rfl | rfl | rfl | rfl | rfl <;> exact ⟨by decide +kernel, by decide +kernel⟩
theorem extB_hide {l Hd : List Addr} {h h' : Heap} (x : ExtB l h h') : ExtB l (hideAll h Hd) (hideAll h' Hd) := fun b o n e => by
  have e' := of_hideAll _ e
  have nb : b ∉ Hd := fun hb => by rw [hideAll_none _ hb] at e; cases e
  exact hideAll_get _ (x b o n e') nb
theorem tr_fin {k : Nat} {s s' : Shared} {Q E : Value → Shared → Prop} {g : Heap} {L' tp scr D : Addr} {m : Str → Option Value} {vs ys : List Value} {n2 kD n' : Nat} {ts : List T} {i' : Int} {tk : Tok} {R rest : List (Addr × Obj)} (F : Fr g L' s'.heap m) (G : ExtB [tp, scr] s.heap g)
    (N : News g L' s'.heap ((D, W.listOf ys.toArray kD) :: rest)) (hrest : ∀ p ∈ tapeO tp scr i' tk n' vs n2 ++ R, p ∈ (D, W.listOf ys.toArray kD) :: rest) (h1 : @Ne Nat D tp) (h2 : @Ne Nat D scr) (hR : ∀ p ∈ R, p.1 ≠ tp ∧ p.1 ≠ scr) (hi : 0 ≤ i') (hok : TreeOk (k + 1) (.node ts)) (hin : TsIn (inR R) ts ys)
    (hret : ∀ h' tk' t v R i' tk2 n', ExtB [tp, scr] s.heap h' → (∀ p ∈ tapeO tp scr i' tk2 n' vs n2, h'.get? p.1 = some p.2) → 0 ≤ i' → TreeOk (k + 1) t → TIn (inR R) t v → (∀ p ∈ R, fresh s.heap h' p.1 p.2) → Q v { s with heap := h', toks := tk' })
    (hs : s' = { s with heap := s'.heap, toks := s'.toks } := by rfl) : Leave0 g L' (fun r s' => match r with | .ok (.ret v) => Q v s' | .ok _ => False | .error e => E e s') (.ref D) s' := by
  refine leaveN F G ?_
  intro hE
  rw [hs]
  refine hret _ _ (.node ts) (.ref D) ((D, W.listOf ys.toArray kD) :: R) i' tk n' hE (fun p hp => (N p (hrest p (List.mem_append_left _ hp))).1) hi hok ?_ ?_
  · simp only [TIn]
    exact ⟨D, ys, kD, rfl, .head _, TsIn.mono (fun a o h => List.mem_cons_of_mem _ h) _ _ hin⟩
  · have key : ∀ p, p.1 ≠ tp → p.1 ≠ scr → p ∈ (D, W.listOf ys.toArray kD) :: rest → fresh s.heap s'.heap p.1 p.2 := fun p n1 n2 hp => by
      refine ⟨?_, (N p hp).1⟩
      cases q : s.heap.get? p.1 with
      | none => rfl
      | some o =>
        have := G _ _ (by simp [n1, n2]) q
        rw [(N p hp).2.2] at this; cases this
    intro p hp
    rcases List.mem_cons.mp hp with rfl | hp
    · exact key _ h1 h2 (.head _)
    · exact key p (hR p hp).1 (hR p hp).2 (hrest p (List.mem_append_right _ hp))
local macro_rules | `(tactic| walk_at "eval Name") => `(tactic| ((with_unfolding_all refine guard_local (by rfl) ?_); k_dflt (refine' ld ?k1 ?k2 ?_; (case k1 => k_asm); (case k2 => assumption); k_whole)))
theorem tr_succ (k : Nat) (hk3 : k ≤ 2) (ih : TrSpec k) : TrSpec (k + 1) := by
  intro w A s tp scr i tk td n vs ns n2 Q E hne h0 hi hl R hret
  refine wpAny_call ?_
  have R' : RoomN w A s.heap (k + 5 + 1) _ := R.le (by omega)
  walk_at "enterC"
  rename_i dp un gd env outer base g h₁ L' p loose mean mg mb tk0 hdp hun F B X Tp G lt oc1 oc2 hoc1 hoc2 N
  have hoc1 : oc1.data = .cell (some (.int ((k + 1 : Nat) : Int) td)) := hoc1
  have hoc2 : oc2.data = .cell (some (.ref tp)) := hoc2
  obtain ⟨m₀, F⟩ : ∃ m₀, Fr g L' h₁ m₀ := ⟨_, F⟩
  dsimp only [tapeO] at N
  have hlt : @LT.lt Nat _ tp L' := lt _ (.head _)
  have hlt2 : @LT.lt Nat _ scr L' := lt _ (.tail _ (.head _))
  k_steps
  show wpAny _ _ _ _ _ _
  rename Fr _ _ _ _ => F
  rename News _ _ _ _ => N
  have Ns := News.sub (news' := tapeO tp scr i tk n vs n2) N (by
    intro p hp
    rcases List.mem_cons.mp hp with rfl | hp
    · k_mem
    rw [List.mem_singleton.mp hp]
    k_mem)
  refine draw_spec w _ _ tp scr i tk n vs ns n2 _ _ hne h0 hi hl ((roomN_in hdp hun F Ns B X Tp (by rfl) (by rfl)).le (by omega)) ?_
  intro h2 tk2 r tokr tk3 n3 hE hT
  have F₂ := Fr.but F Ns hE fun a' ha' => mem_fst ha'
  have N₂ : News g L' h2 ((L' + 1 + 1, oc1) :: (L' + 1, oc2) :: tapeO tp scr (i + 1) tk3 n3 vs n2) := News.but F N hE (by
    intro p hp
    rcases List.mem_cons.mp hp with rfl | hp
    · refine .inl ⟨by k_mem, fun hm => ?_⟩
      rcases List.mem_cons.mp hm with q | hm
      · exact absurd q (Nat.ne_of_gt (Nat.lt_succ_of_lt (Nat.lt_succ_of_lt hlt)))
      · exact absurd (List.mem_singleton.mp hm) (Nat.ne_of_gt (Nat.lt_succ_of_lt (Nat.lt_succ_of_lt hlt2)))
    rcases List.mem_cons.mp hp with rfl | hp
    · refine .inl ⟨by k_mem, fun hm => ?_⟩
      rcases List.mem_cons.mp hm with q | hm
      · exact absurd q (Nat.ne_of_gt (Nat.lt_succ_of_lt hlt))
      · exact absurd (List.mem_singleton.mp hm) (Nat.ne_of_gt (Nat.lt_succ_of_lt hlt2))
    refine .inr (.inl ⟨?_, hT p hp⟩)
    rcases List.mem_cons.mp hp with rfl | hp
    · exact ⟨_, by k_mem⟩
    rw [List.mem_singleton.mp hp]
    exact ⟨_, by k_mem⟩)
  dsimp only [tapeO] at N₂
  clear F N Ns
  have hk0 : (0 : Int) < ((k + 1 : Nat) : Int) := by omega
  have hkm : ((k + 1 : Nat) : Int) - 1 = ((k : Nat) : Int) := by omega
  k_steps
  · show wpAny _ _ _ _ _ _
    rename Fr _ _ _ _ => F
    rename News _ _ _ _ => N
    obtain ⟨m₁, F, e1⟩ : ∃ m₁, Fr g L' _ m₁ ∧ m₁ (Str.ofString "rest") = some (.int (r.fdiv 4) _) := ⟨_, F, rfl⟩
    refine ListComp_range (fun j ys h => Fr g L' h m₁ ∧ TrJ k tp scr L' oc1 oc2 vs n2 g j ys h) ?_ (by rfl) (by rfl) (by decide) (by rfl) (by decide) (by rfl) ?_
    · rintro j ys h h' hE ⟨F, R, i', tk', n', hi0, N, hR, ts, x⟩
      exact ⟨F.keeps hE, R, i', tk', n', hi0, News.grown N hE, hR, ts, x⟩
    refine hideQ fun K hq => ?_
    k_steps
    all_goals (try k_data)
    refine hq _ _ ?_
    rename IsRange _ _ _ _ _ _ _ _ => hR
    rename Fr _ _ _ _ => F
    rename News _ _ _ _ => N
    have hm0 : 0 ≤ (r.fdiv 4).fmod 5 := Int.fmod_nonneg_of_pos _ (by decide)
    have hm5 : (r.fdiv 4).fmod 5 < 5 := Int.fmod_lt_of_pos _ (by decide)
    obtain ⟨nr, hnr⟩ : ∃ nr : Nat, (r.fdiv 4).fmod 5 = (nr : Int) := ⟨_, (Int.toNat_of_nonneg hm0).symm⟩
    rw [hnr] at hR hm5
    have hrs := range_up nr (by omega)
    refine ⟨_, _, _, _, _, _, _, nr, rfl, hR, hrs.2, hrs.1, Nat.le_trans (by omega : nr ≤ 4) (by decide), ⟨F, [], i + 1, tk3, n3, by omega, by rw [List.append_nil]; exact N, (fun p hp => nomatch hp), [], rfl, (fun t ht => nomatch ht), rfl⟩, ?_, ?_⟩
    · have htpA := (N (tp, _) (by k_mem)).1
      have hscA := (N (scr, _) (by k_mem)).1
      rintro C j v ys Hd s₂ m₃ E' hHd hal hi' hP hn hmx ⟨h₃, tk₃, rfl⟩ ⟨F', R, i', tk', n', hi0, N', hR', ts, htl, hts, hys⟩ hlen' hC
      have F₃ := F'.keeps hide_ext
      have N₃ := News.grown N' hide_ext
      dsimp only [tapeO] at F₃ N₃
      simp only [List.cons_append, List.nil_append] at N₃
      clear F N
      k_steps
      show wpAny _ _ _ _ _ _
      rename Fr _ _ _ _ => F₄
      rename News _ _ _ _ => N₄
      rw [hkm]
      have Ns := News.sub (news' := tapeO tp scr i' tk' n' vs n2) N₄ (by
        intro p hp
        rcases List.mem_cons.mp hp with rfl | hp
        · k_mem
        rw [List.mem_singleton.mp hp]
        k_mem)
      refine ih w _ _ tp scr _ tk' _ n' vs ns n2 _ _ hne hi0 hi hl (roomN_in hdp hun F₄ Ns B X Tp (by rfl) (by rfl)) ?_
      intro h4 tk4 t' v' R1 i2 tk5 n5 hE4 hT4 hi2 htok hin hfr
      have hR1 : ∀ p ∈ R1, p.1 ≠ tp ∧ p.1 ≠ scr := fun p hp => ⟨ne_of (hfr p hp).1 (Ns _ (.head _)).1, ne_of (hfr p hp).1 (Ns _ (.tail _ (.head _))).1⟩
      have hEh : ExtB [tp, scr] (hideAll h₃ Hd) (hideAll h4 Hd) := extB_hide hE4
      have vis : ∀ p ∈ (L' + 1 + 1, oc1) :: (L' + 1, oc2) :: (tapeO tp scr i' tk' n' vs n2 ++ R), p.1 ∉ Hd := fun p hp hm => by
        have := (N' p hp).1
        rw [hideAll_none _ hm] at this; cases this
      refine ⟨h4, tk4, rfl, fun b hb o e => hE4 b o (fun hm => ?_) e, Fr.but F' (News.sub N' fun p hp => List.mem_cons_of_mem _ (List.mem_cons_of_mem _ (List.mem_append_left _ hp))) hEh (fun a' ha' => mem_fst (news := tapeO tp scr i' tk' n' vs n2) ha'), R1 ++ R, i2, tk5, n5, hi2, News.but F' N' hEh ?_, ?_, ts ++ [t'], by rw [List.length_append, htl]; rfl, ?_, TsIn.snoc (TsIn.mono (fun a o h => List.mem_append_right _ h) _ _ hys) (TIn.mono (fun a o h => List.mem_append_left _ h) _ _ hin)⟩
      · rw [List.append_nil] at hb
        have := hHd b hb
        rcases List.mem_cons.mp hm with q | hm
        · rw [q, htpA] at this; cases this
        · rw [List.mem_singleton.mp hm, hscA] at this; cases this
      · intro p hp
        rcases List.mem_cons.mp hp with rfl | hp
        · refine .inl ⟨.head _, fun hm => ?_⟩
          rcases List.mem_cons.mp hm with q | hm
          · exact absurd q (Nat.ne_of_gt (Nat.lt_succ_of_lt (Nat.lt_succ_of_lt hlt)))
          · exact absurd (List.mem_singleton.mp hm) (Nat.ne_of_gt (Nat.lt_succ_of_lt (Nat.lt_succ_of_lt hlt2)))
        rcases List.mem_cons.mp hp with rfl | hp
        · refine .inl ⟨.tail _ (.head _), fun hm => ?_⟩
          rcases List.mem_cons.mp hm with q | hm
          · exact absurd q (Nat.ne_of_gt (Nat.lt_succ_of_lt hlt))
          · exact absurd (List.mem_singleton.mp hm) (Nat.ne_of_gt (Nat.lt_succ_of_lt hlt2))
        rcases List.mem_append.mp hp with hp | hp
        · refine .inr (.inl ?_)
          rcases List.mem_cons.mp hp with rfl | hp
          · exact ⟨⟨_, .tail _ (.tail _ (.head _))⟩, hideAll_get _ (hT4 _ (.head _)) (vis (tp, W.listOf #[Value.int i' tk', .ref scr] n') (.tail _ (.tail _ (.head _))))⟩
          rw [List.mem_singleton.mp hp]
          exact ⟨⟨_, .tail _ (.tail _ (.tail _ (.head _)))⟩, hideAll_get _ (hT4 _ (.tail _ (.head _))) (vis (scr, _) (.tail _ (.tail _ (.tail _ (.head _)))))⟩
        rcases List.mem_append.mp hp with hp | hp
        · refine .inr (.inr ⟨?_, hideAll_get _ (hfr p hp).2 fun hm => ?_⟩)
          · cases q : (hideAll h₃ Hd).get? p.1 with
            | none => rfl
            | some o =>
              have := of_hideAll _ q
              rw [(hfr p hp).1] at this; cases this
          · obtain ⟨o, ho⟩ := hal _ hm
            have := (hfr p hp).1
            rw [ho] at this; cases this
        · refine .inl ⟨List.mem_cons_of_mem _ (List.mem_cons_of_mem _ (List.mem_append_right _ hp)), fun hm => ?_⟩
          rcases List.mem_cons.mp hm with q | hm
          · exact (hR' p hp).1 q
          · exact (hR' p hp).2 (List.mem_singleton.mp hm)
      · intro p hp
        rcases List.mem_append.mp hp with hp | hp
        · exact hR1 p hp
        · exact hR' p hp
      · intro t ht
        rcases List.mem_append.mp ht with ht | ht
        · exact hts t ht
        · rw [List.mem_singleton.mp ht]; exact htok
    · intro D ys h' tk' Hd kD hlen' hHd hD hk' ⟨F', R, i', tk2, n', hi0, N', hR', ts, htl, hts, hys⟩
      have hDt := ne_of (hHd D hD) (N (tp, _) (by k_mem)).1
      have hDs := ne_of (hHd D hD) (N (scr, _) (by k_mem)).1
      have N₃ := news_done F (News.grown N' hide_ext) (hHd D hD) hk'
      have F₃ := F'.keeps hide_ext
      clear F N
      k_steps
      show Leave0 g L' _ _ _
      refine tr_fin (k := k) (ts := ts) (ys := ys) (R := R) (i' := i') (tk := tk2) (n' := n') (by assumption) G N₃ (by
        intro p hp
        exact .tail _ (.tail _ (.tail _ hp))) hDt hDs hR' hi0 (node_ok (by omega) hts (by omega)) hys hret
  · show wpAny _ _ _ _ _ _
    rename Fr _ _ _ _ => F
    rename News _ _ _ _ => N
    rw [hkm]
    have Ns := News.sub (news' := tapeO tp scr (i + 1) tk3 n3 vs n2) N (by
      intro p hp
      rcases List.mem_cons.mp hp with rfl | hp
      · k_mem
      rw [List.mem_singleton.mp hp]
      k_mem)
    refine ih w _ _ tp scr _ tk3 _ n3 vs ns n2 _ _ hne (by omega) hi hl (roomN_in hdp hun F Ns B X Tp (by rfl) (by rfl)) ?_
    intro h4 tk4 t' v' R1 i2 tk5 n5 hE4 hT4 hi2 htok hin hfr
    have F₄ := Fr.but F Ns hE4 fun a' ha' => mem_fst ha'
    have hR1 : ∀ p ∈ R1, p.1 ≠ tp ∧ p.1 ≠ scr := fun p hp => ⟨ne_of (hfr p hp).1 (Ns _ (.head _)).1, ne_of (hfr p hp).1 (Ns _ (.tail _ (.head _))).1⟩
    have N₄ : News g L' h4 (tapeO tp scr i2 tk5 n5 vs n2 ++ R1) := News.but F N hE4 (by
      intro p hp
      rcases List.mem_append.mp hp with hp | hp
      · refine .inr (.inl ⟨?_, hT4 p hp⟩)
        rcases List.mem_cons.mp hp with rfl | hp
        · exact ⟨_, by k_mem⟩
        rw [List.mem_singleton.mp hp]
        exact ⟨_, by k_mem⟩
      · exact .inr (.inr (hfr p hp)))
    dsimp only [tapeO] at N₄
    simp only [List.cons_append, List.nil_append] at N₄
    clear F N Ns
    k_steps
    show Leave0 g L' _ _ _
    rename News _ _ _ _ => N
    rename (_ ∧ _ ∧ AllLt _ _) => l1
    refine tr_fin (k := k) (ts := [t']) (ys := [v']) (R := R1) (i' := i2) (tk := tk5) (n' := n5) (by assumption) G N (by
      intro p hp
      rcases List.mem_append.mp hp with hp | hp
      · rcases List.mem_cons.mp hp with rfl | hp
        · k_mem
        rw [List.mem_singleton.mp hp]
        k_mem
      · repeat (first | exact hp | refine List.mem_cons_of_mem _ ?_)) (Nat.ne_of_gt l1.1) (Nat.ne_of_gt l1.2.1) hR1 hi2 (node_ok (by simp) (fun t ht => by rw [List.mem_singleton.mp ht]; exact htok) (by omega)) ⟨v', [], rfl, hin, rfl⟩ hret
  · have hsz := tabs_le ((r.fdiv 4).fmod 16).toNat
    refine bytes_mul_any (b := [(((r.fdiv 4).fdiv 16).fmod 256).toNat.toUInt8]) (by simp) (by omega) (by omega) (by simp) ?_
    intro tq kq
    k_steps
    show Leave0 g L' _ _ _
    rename News _ _ _ _ => N
    refine leaveN (by assumption) G ?_
    intro hE'
    exact hret _ _ (.leaf _) _ [] (i + 1) tk3 n3 hE' (fun p hp => (N p (by repeat (first | exact hp | refine List.mem_cons_of_mem _ ?_))).1) (by omega) (leaf_ok (flat_size hsz.1 hsz.2) _) ⟨_, rfl⟩ (fun p hp => nomatch hp)
end Mine
end
section
open PySem PySem.W PySem.Calls PyProof.Rows PySem.Spec
namespace Mine
theorem fresh_M1 : True := by
  w_top off
  run_tac do
    walkLines.set (0, {})
    walkStart.set 0
    walkLate.set false
  trivial
local macro_rules | `(tactic| walk_at "enter") => `(tactic| (refine' enter (by assumption) ?k6 ?k7 ?k9 ?kB ?_ ?c2 ?c3 ?c4 ?c5; (case k6 => k_is); (case k7 => k_is); (case k9 => exact BindsTo.of_eq rfl); (case c5 => decide); (case kB => exact locs rfl); (case c2 => exact rfl); (case c3 => exact rfl); (case c4 => exact rfl); k_whole; intro dp' un' gd' env' outer' base' g' h' L' p' loose' mean' mg' mb' hd' hu' F' N' B' X' T' G'; (try dsimp only); (try k_fold)))
local macro_rules | `(tactic| walk_at "room") => `(tactic| (refine Room.le (room_in (by assumption) (by assumption) (by assumption) (by assumption) (by assumption) (by assumption) (by rfl) (by rfl)) ?_))
local macro_rules | `(tactic| walk_at "subscriptTail") => `(tactic| ((with_reducible show wpAny _ _ (subscriptTail _ _ (Value.bytes _ _) (Value.int _ _)) _ _ _); (refine item_b (by omega) (by omega) (by omega) ?_ (by with_unfolding_all rfl) (by intro _; with_unfolding_all rfl))))
local macro_rules | `(tactic| walk_at "subscriptTail") => `(tactic| ((with_reducible show wpAny _ _ (subscriptTail _ _ (Value.ref 1450) (Value.int _ _)) _ _ _); (refine item_all (by assumption) (by assumption) (by omega) (by omega) ?_ (by with_unfolding_all rfl)); intro _))
local macro_rules | `(tactic| walk_at "binaryOp Add bytes bytes") => `(tactic| ((with_reducible show wpAny _ _ (binaryOp Operator.Add (Value.bytes _ _) (Value.bytes _ _)) _ _ _); (refine KBy.add_bytes (by first | omega | (simp; omega)) ?_); intro _ _))
local macro_rules | `(tactic| walk_at "eval ListComp") => `(tactic| (refine stop_ ?_))
local macro_rules | `(tactic| walk_at "call ref") => `(tactic| ((with_reducible show wpAny _ _ (call (Value.ref 1722) _) _ _ _); refine stop_ ?_))
local macro_rules | `(tactic| walk_at "call ref") => `(tactic| ((with_reducible show wpAny _ _ (call (Value.ref 1736) _) _ _ _); refine stop_ ?_))
local macro_rules | `(tactic| walk_at "call ref") => `(tactic| ((with_reducible show wpAny _ _ (call (Value.ref 1748) _) _ _ _); refine stop_ ?_))
local macro_rules | `(tactic| walk_at "call ref") => `(tactic| ((with_reducible show wpAny _ _ (call (Value.ref 1828) _) _ _ _); refine stop_ ?_))
local macro_rules | `(tactic| walk_at "call ref") => `(tactic| ((with_reducible show wpAny _ _ (call (Value.ref 1835) _) _ _ _); refine stop_ ?_))
local macro_rules | `(tactic| walk_at "call ref") => `(tactic| ((with_reducible show wpAny _ _ (call (Value.ref 1840) _) _ _ _); refine stop_ ?_))
local macro_rules | `(tactic| walk_at "eval GeneratorExp") => `(tactic| (refine stop_ ?_))
local macro_rules | `(tactic| walk_at "call builtin:bytes.join") => `(tactic| (refine stop_ ?_))
local macro_rules | `(tactic| walk_at "getMethod bytes") => `(tactic| (refine method_join ?_))
local macro_rules | `(tactic| walk_at "call builtin:isinstance") => `(tactic| ((with_reducible show wpAny _ _ (call _ [Value.ref _, Value.ref _]) _ _ _); refine' kia_tup kitx_list ?X ?c ?p ?ee ?nb ?_; (case c => exact kitAt_F (by assumption) (by assumption)); (case X => k_in); (case p => kit_tp); (case ee => kit_is); (case nb => kit_nb); k_whole; intro _))

local macro_rules | `(tactic| walk_at "subscriptTail") => `(tactic| ((with_reducible show wpAny _ _ (subscriptTail _ _ (Value.bytes _ _) (Value.ref _)) _ _ _); (with_reducible rename Fr _ _ _ _ => F'); (with_reducible rename News _ _ _ _ => N'); (refine slice_b (s := ⟨_, _, _, _, _⟩) F' N' (by omega) (by omega) (by omega) ?_); intro _ _ _ _ _))


local macro_rules | `(tactic| walk_at "enterS") => `(tactic| (refine' enterS (by assumption) ?k6 ?k7 ?k9 ?kB ?_ ?c2 ?c3 ?c4 ?c5; (case k6 => k_is); (case k7 => k_is); (case k9 => first | exact binds_K (RoomN.inK (RoomS.n (by assumption))) rfl (by k_is) rfl rfl rfl | exact BindsTo.of_eq rfl); (case c5 => decide); (case kB => exact locs rfl); (case c2 => exact rfl); (case c3 => exact rfl); (case c4 => exact rfl); k_whole; intro dp' un' gd' env' outer' base' g' h' L' p' loose' mean' mg' mb' hd' hu' F' N' B' X' T' G' XB' TB' D' hfs'; (have X2' := X'; clear X'); (have T2' := T'; clear T'); (try dsimp only); (try k_fold)))
local macro_rules | `(tactic| walk_at "enterSC") => `(tactic| (refine' enterSC ?kS ?k6 ?k7 ?k9 ?kB ?kD ?_ ?c2 ?c3 ?c4; (case kS => assumption); (case k6 => k_is); (case k7 => k_is); (case k9 => exact BindsTo.of_eq rfl); (case kB => exact rfl); (case kD => decide +kernel); (case c2 => exact rfl); (case c3 => exact rfl); (case c4 => exact rfl); k_whole; intro dp' un' gd' env' outer' base' g' h' L' p' loose' mean' mg' mb' tk' cells' hd' hu' F' N' Y' B' X' T' G' XB' TB' D' hfs'; (have X2' := X'; clear X'); (have T2' := T'; clear T'); (try dsimp only); k_cells Y'; (try simp only [List.cons_append, List.nil_append] at N'); (try k_fold)))
local macro_rules | `(tactic| k_room) => `(tactic| ((try simp only [depth_under_make, depth_under_kw, depth_in1, depth_deeper, depth_caller]); (try dsimp only); omega))
local macro_rules | `(tactic| walk_at "eval Name") => `(tactic| ((with_unfolding_all refine guard_local (by rfl) ?_); k_dflt (refine' ld ?k1 ?k2 ?_; (case k1 => k_asm); (case k2 => assumption); k_whole)))
local macro_rules | `(tactic| walk_at "eval IfExp") => `(tactic| ((with_reducible show wpAny _ _ (eval (Expr.IfExp _ _ _ _) _) (fun _ _ => wpAny _ _ _ _ _ _) _ _); refine stop_ ?_))
local macro_rules | `(tactic| walk_at "compareOp NotEq ref ref") => `(tactic| (refine stop_ ?_))
local macro_rules | `(tactic| walk_at "compareOp NotEq ref") => `(tactic| (refine stop_ ?_))
local macro_rules | `(tactic| walk_at "call builtin:all") => `(tactic| (refine stop_ ?_))
local macro_rules | `(tactic| walk_at "call builtin:isinstance") => `(tactic| ((with_reducible show wpAny _ _ (call _ [Value.ref _, Value.type _]) _ _ _); refine' kia_one kitx_list ?X ?c ?ee ?nb ?_; (case c => exact kitAt_F' (by assumption) (by assumption)); (case X => k_in); (case ee => kit_is); (case nb => kit_nb); k_whole; intro _))
def LhSpec (t : T) : Prop := t.ok → t.enc.length < 65536 → ∀ (w : World) (A : Around) (s : Shared) (d : Array UInt8) (i : Nat) (rest : List UInt8) (pl : Value) (td : Tok) (Q E : Value → Shared → Prop), RoomS w A s.heap (t.dep + 9) [] → d.size ≤ 16777216 → d.toList.drop i = t.enc ++ rest →
  PlIn (vw s.heap) t i pl → (∀ h' tk', ExtT (framesOf A) [] s.heap h' → Q (.bool true) { s with heap := h', toks := tk' }) → wpAny (model prog w) A (call (.ref 1840) [.bytes d td, pl]) Q E s
theorem alive_fr {g h : Heap} {L : Addr} {m : Str → Option Value} {l : List Env} (F : Fr g L h m) (D : KtsDicts (fr l) g) : (∃ o, h.get? L = some o) ∧ (∀ b ∈ fr l, ∃ o, h.get? b = some o) ∧ g.get? L = none :=
  ⟨let ⟨o, _, _, e, _⟩ := F.ns; ⟨o, e⟩, fun b hb => let ⟨o, _, _, e, _⟩ := D b hb; ⟨o, F.keep _ _ e⟩, kts_self F⟩
theorem mem_fr {e : Env} {l : List Env} {L b : Addr} (hf : e.frame = some L) (hb : b ∈ fr (e :: l)) : b = L ∨ b ∈ fr l := by
  obtain ⟨e', he, hb'⟩ := List.mem_filterMap.mp hb
  rcases List.mem_cons.mp he with q | q
  · rw [q] at hb'
    exact .inl (Option.some.inj (hb'.symm.trans hf))
  · exact .inr (List.mem_filterMap.mpr ⟨e', q, hb'⟩)
theorem mem_frA {A : Around} {e : Env} {l : List Env} {L b : Addr} (hA : A.frames = some (e :: l)) (hf : e.frame = some L) (hb : b ∈ framesOf A) : b = L ∨ b ∈ fr l := by
  have e' : framesOf A = fr (e :: l) := by unfold framesOf; rw [hA]
  rw [e'] at hb
  exact mem_fr hf hb
theorem extT_hide {fs l Hd : List Addr} {h h' : Heap} (x : ExtT fs l h h') : ExtT fs l (hideAll h Hd) (hideAll h' Hd) := fun b o n e => by
  have e' := of_hideAll _ e
  have nb : b ∉ Hd := fun hb => by rw [hideAll_none _ hb] at e; cases e
  exact ⟨fun q => hideAll_get _ ((x b o n e').1 q) nb, fun q => let ⟨sl, hs⟩ := (x b o n e').2 q; ⟨sl, hideAll_get _ hs nb⟩⟩
theorem bools_true : ∀ n : Nat, LSm.BoolsAre (List.replicate n (.bool true)) (List.replicate n true)
  | 0 => .nil
  | n + 1 => .cons true (bools_true n)
theorem all_true' {n : Nat} : (List.replicate n true).all id = true := by
  induction n with
  | zero => rfl
  | succ n ih => rw [List.replicate_succ, List.all_cons, ih]; rfl
theorem lh_turn (t : T) (ih : ∀ t' ∈ t.kids, LhSpec t') : LhSpec t := by
  intro ok hlen w A s d i rest pl td Q E R hz hat hpl hret
  obtain ⟨aP, tv, q1, q2, q3, lk, nk, kvs, rfl, hT, htv, hK, hks⟩ := hpl.tup
  refine wpAny_call ?_
  have R' : RoomS w A s.heap (t.dep + 8 + 1) _ := R
  walk_at "enterSC"
  rename_i dp un gd env outer base g h₁ L' p loose mean mg mb tk0 hdp hun F B G XB TB D hfs X Tp oc hoc N
  have hoc : oc.data = .cell (some (.bytes d td)) := hoc
  have G : Ext s.heap g := fun b o e => G b o (by simp) e
  have hTg := Ground.tup (G _ _ hT)
  have hKg : Heap.IsList g lk kvs.toArray := ⟨_, G _ _ hK, rfl, nk, rfl⟩
  obtain ⟨m₀, F, e1⟩ : ∃ m₀, Fr g L' h₁ m₀ ∧ m₀ (Str.ofString "place") = some (.ref aP) := ⟨_, F, rfl⟩
  k_steps
  all_goals (try k_data)
  show wpAny _ _ _ _ _ _
  rename Fr _ _ _ _ => F
  obtain ⟨m₁, F, n1, n2, n3, n4, n5, n6⟩ : ∃ m₁, Fr g L' _ m₁ ∧ m₁ (Str.ofString "place") = some (.ref aP) ∧ m₁ (Str.ofString "tree") = some tv ∧ m₁ (Str.ofString "head") = some (.int (i : Nat) q1) ∧ m₁ (Str.ofString "start") = some (.int ((i + t.hd.length : Nat) : Int) q2) ∧
    m₁ (Str.ofString "end") = some (.int ((i + t.enc.length : Nat) : Int) q3) ∧ m₁ (Str.ofString "kids") = some (.ref lk) := ⟨_, F, e1, rfl, rfl, rfl, rfl, rfl⟩
  rename News _ _ _ _ => N
  refine wpAny_mono (Q := fun v s' => ∃ h' tk tok, v = .str t.kind tok ∧ s' = { s with heap := h', toks := tk } ∧ Fr g L' h' m₁ ∧ News g L' h' [(L' + 1, oc)]) ?_ ?_ fun _ _ x => x
  · cases t with
    | leaf b =>
      simp only [TIn] at htv
      obtain ⟨tk2, rfl⟩ := htv
      k_steps
      all_goals assumption
    | node ks =>
      simp only [TIn] at htv
      obtain ⟨at', tvs, nt, rfl, hTl, htks⟩ := htv
      have hLg : Heap.IsList g at' tvs.toArray := ⟨_, G _ _ hTl, rfl, nt, rfl⟩
      k_steps
      all_goals assumption
  rintro _ _ ⟨h2, tk2, tok2, rfl, rfl, F₂, N₂⟩
  clear F N
  k_steps
  all_goals (try k_data)
  show wpAny _ _ _ _ _ _
  rename Fr _ _ _ _ => F
  rename News _ _ _ _ => N
  refine clp_spec t hlen w _ _ d _ _ hat hz _ _ _ _ ((roomN_in hdp hun F N B X Tp (by rfl) (by rfl)).le (by omega)).room ?_
  intro h3 tk3 D1 u1 u2 u3 u4 pb1 hE1 hD1 hD1' hpb1
  unfold tupO at hD1'
  rw [← Int.natCast_add] at hD1'
  have N₂ := news_done F (News.grown N hE1) hD1 hD1'
  have F₂ := F.keeps hE1
  clear N F
  k_steps
  all_goals (try k_data)
  show wpAny _ _ _ _ _ _
  rename Fr _ _ _ _ => F
  rename News _ _ _ _ => N
  have hcut := cut_at hat 0 t.hd.length
  simp only [Nat.add_zero, Nat.sub_zero, List.drop_zero] at hcut
  rw [T.enc_eq, List.append_assoc, List.take_left] at hcut
  have hel : t.enc.length = t.hd.length + t.pay.length := by rw [T.enc_eq, List.length_append]
  refine ne_tup ⟨_, (N _ (.tail _ (.head _))).1, rfl, _, rfl⟩ ⟨_, (N _ (.head _)).1, rfl, _, rfl⟩ (by show un + 3 < _; omega) rfl ?_ ?_
  · intro j j1 j2
    rcases j with _ | _ | _ | _ | j
    · refine eqAt_bytes ?_
      show pb1.toList = cutL d.toList ((i : Nat) : Int).toNat ((i + t.hd.length : Nat) : Int).toNat
      rw [hpb1, Int.toNat_natCast, Int.toNat_natCast, hcut]
    · exact eqAt_str rfl
    · refine eqAt_int ?_
      omega
    · exact eqAt_int rfl
    · exact absurd j1 (by simp)
  k_steps
  all_goals (try k_data)
  show wpAny _ _ _ _ _ _
  refine ci_spec t ok hlen w _ _ d _ rest hat hz _ _ _ _ ((roomN_in hdp hun F N B X Tp (by rfl) (by rfl)).le (by omega)).room ?_
  intro h5 tk5 D3 v pv t3 hE5 hD3 hD3' hv hpv
  unfold tupO at hD3'
  obtain ⟨R1, hR1, hv1⟩ := TIn.led t v hv
  obtain ⟨R2, hR2, hpv1⟩ := PIn.led t pv hpv
  have N5 := news_done F (News.plus F (News.plus F (News.grown N hE5) R2 hR2) R1 hR1) hD3 hD3'
  have N₅ := News.sub (news' := (D3, { cls := .type "tuple", data := .seq #[v, pv, .int ((i + t.enc.length : Nat) : Int) t3] }) :: (L' + 1, oc) :: (R1 ++ R2)) N5 (by
    intro p hp
    rcases List.mem_cons.mp hp with rfl | hp
    · exact .head _
    refine .tail _ ?_
    rcases List.mem_cons.mp hp with rfl | hp
    · exact List.mem_append_right _ (List.mem_append_right _ (by k_mem))
    rcases List.mem_append.mp hp with hp | hp
    · exact List.mem_append_left _ hp
    · exact List.mem_append_right _ (List.mem_append_left _ hp))
  have F₅ := F.keeps hE5
  clear N N5 F
  k_steps
  all_goals (try k_data)
  show wpAny _ _ _ _ _ _
  rename Fr _ _ _ _ => F
  rename News _ _ _ _ => N
  refine cut_spec t ok hlen w _ _ d _ rest _ _ _ _ ((roomN_in hdp hun F N B X Tp (by rfl) (by rfl)).le (by omega)).room hz hat (PlIn.mono (fun a o e => F.keep _ _ (G _ _ e)) _ _ _ hpl) ?_
  intro h6 tk6 pv' hE6 hpv'
  obtain ⟨R3, hR3, hpv2⟩ := PIn.led t pv' hpv'
  have N5 := News.plus F (News.grown N hE6) R3 hR3
  have N₅ := News.sub (news' := (D3, { cls := .type "tuple", data := .seq #[v, pv, .int ((i + t.enc.length : Nat) : Int) t3] }) :: (L' + 1, oc) :: (R1 ++ (R2 ++ R3))) N5 (by
    intro p hp
    rcases List.mem_cons.mp hp with rfl | hp
    · exact List.mem_append_right _ (by k_mem)
    rcases List.mem_cons.mp hp with rfl | hp
    · exact List.mem_append_right _ (by k_mem)
    rcases List.mem_append.mp hp with hp | hp
    · exact List.mem_append_right _ (by repeat (first | exact List.mem_append_left _ hp | refine List.mem_cons_of_mem _ ?_))
    rcases List.mem_append.mp hp with hp | hp
    · exact List.mem_append_right _ (by repeat (first | exact List.mem_append_right _ hp | refine List.mem_cons_of_mem _ ?_))
    · exact List.mem_append_left _ hp)
  have F₅ := F.keeps hE6
  clear N N5 F
  k_steps
  all_goals (try k_data)
  show wpAny _ _ _ _ _ _
  rename Fr _ _ _ _ => F
  rename News _ _ _ _ => N
  refine ne_tup ⟨_, (N _ (.tail _ (.head _))).1, rfl, _, rfl⟩ ⟨_, (N _ (.head _)).1, rfl, _, rfl⟩ (by show un + 3 < _; omega) rfl ?_ ?_
  · intro j j1 j2
    rcases j with _ | _ | _ | j
    · exact tin_eq t _ _ v tv (TIn.mono (fun a o h => (N (a, o) (.tail _ (.tail _ (.tail _ (List.mem_append_left _ h))))).1) _ _ hv1) (TIn.mono (fun a o e => F.keep _ _ (G _ _ e)) _ _ htv) (by show un + 3 + 1 + _ < _; omega)
    · exact pin_eq t _ _ pv pv' (PIn.mono (fun a o h => (N (a, o) (.tail _ (.tail _ (.tail _ (List.mem_append_right _ (List.mem_append_left _ h)))))).1) _ _ hpv1) (PIn.mono (fun a o h => (N (a, o) (.tail _ (.tail _ (.tail _ (List.mem_append_right _ (List.mem_append_right _ h)))))).1) _ _ hpv2) (by show un + 3 + 1 + _ < _; omega)
    · exact eqAt_int rfl
    · exact absurd j1 (by simp)
  have N₆ : News g L' _ [(L' + 1, oc)] := News.sub N (by intro p hp; rw [List.mem_singleton.mp hp]; k_mem)
  clear N
  k_steps
  all_goals (try k_data)
  show wpAny _ _ _ _ _ _
  rename Fr _ _ _ _ => F
  rename News _ _ _ _ => N
  refine clz_spec t ok hlen w _ _ d _ rest hat hz _ _ _ _ ((roomN_in hdp hun F N B X Tp (by rfl) (by rfl)).le (by omega)).room ?_
  intro h8 tk8 D5 v2 t5 l hE8 hD5 hD5' hl hlf hlD
  unfold tupO at hD5'
  have hcl : ∀ p ∈ l, p.1 ≠ L' + 1 := fun p hp => ne_of (hlf p hp).1 (N (L' + 1, oc) (by k_mem)).1
  have N5 := news_done F (News.plus F (News.grown N hE8) l hlf) hD5 hD5'
  have N₅ := News.sub (news' := (D5, { cls := .type "tuple", data := .seq #[v2, .int ((i + t.enc.length : Nat) : Int) t5] }) :: (L' + 1, oc) :: l) N5 (by
    intro p hp
    rcases List.mem_cons.mp hp with rfl | hp
    · exact .head _
    refine .tail _ ?_
    rcases List.mem_cons.mp hp with rfl | hp
    · exact List.mem_append_right _ (by k_mem)
    · exact List.mem_append_left _ hp)
  have F₅ := F.keeps hE8
  clear N N5 F
  k_steps
  all_goals (try k_data)
  all_goals (try (exfalso; omega))
  show wpAny _ _ _ _ _ _
  rename Fr _ _ _ _ => F
  rename News _ _ _ _ => N
  have hview : ∀ b o, vw s.heap b o → Heap.get? _ b = some o ∧ b ∉ l.map (·.1) := fun b o q => ⟨F.keep _ _ (G _ _ q), fun hm => by
    obtain ⟨o', ho'⟩ := mem_fst hm
    have := (N (b, o') (by repeat (first | exact ho' | refine List.mem_cons_of_mem _ ?_))).2.2
    rw [G _ _ q] at this; cases this⟩
  refine ll_spec t ok hlen w _ _ d _ rest v2 (.ref aP) l td _ _ ((roomS_in hdp hun F (News.sub N (fun p hp => by repeat (first | exact hp | refine List.mem_cons_of_mem _ ?_))) B XB TB D (by rfl) (by rfl)).le (by omega)) hz hat hl (PlIn.mono hview _ _ _ hpl) ?_
  intro h9 tk9 hE9
  obtain ⟨g₂, KT₂, F₂, B₂, D₂, hN₂⟩ := regainA rfl rfl B F N D hE9 fun a' ha' => (let ⟨o, ho⟩ := mem_fst ha'; ⟨o, by repeat (first | exact ho | refine List.mem_cons_of_mem _ ?_)⟩)
  have N₂ : News g₂ L' h9 [(L' + 1, oc)] := fun p hp => by
    rw [List.mem_singleton.mp hp]
    refine hN₂ (L' + 1, oc) (by k_mem) fun hm => ?_
    obtain ⟨o, ho⟩ := mem_fst hm
    exact hcl _ ho rfl
  have X₂ := XB.keeps B₂.stays
  have Tp₂ := TB.keeps B₂.stays
  clear F N X Tp hN₂
  k_steps
  all_goals (try k_data)
  show wpAny _ _ _ _ _ _
  rename Fr _ _ _ _ => F
  rename News _ _ _ _ => N
  have hKg₂ : Heap.IsList g₂ lk kvs.toArray := ⟨_, keep_turn KT₂ D (G _ _ hK) nd_list, rfl, nk, rfl⟩
  obtain ⟨m₂, F, o6⟩ : ∃ m₂, Fr g₂ L' _ m₂ ∧ m₂ (Str.ofString "kids") = some (.ref lk) := ⟨_, F, n6⟩
  clear hKg hTg
  refine ListComp_list (fun j ys h => (∃ g', KtsTurn (fr (env :: outer)) g₂ g' ∧ Below ⟨none, dp, some (env :: outer), gd, un⟩ base (env :: outer) g' ∧ Fr g' L' h m₂ ∧ News g' L' h [(L' + 1, oc)]) ∧ ys = List.replicate j (.bool true)) ?_ (by rfl) (by rfl) (by decide) (by rfl) (by decide) (by rfl) ?_
  · rintro j ys h h' hE ⟨⟨g', K, B', F', N'⟩, e⟩
    exact ⟨⟨g', K, B', F'.keeps hE, News.grown N' hE⟩, e⟩
  refine hideQ fun K hq => ?_
  k_steps
  all_goals (try k_data)
  refine hq _ _ ?_
  rename Fr _ _ _ _ => F
  rename News _ _ _ _ => N
  refine ⟨lk, kvs, rfl, hKg₂.at fun o e => F.keep _ o e, ?_, ⟨⟨g₂, KtsTurn.refl, B₂, F, N⟩, rfl⟩, ?_, ?_⟩
  · rw [hks.length]; exact Nat.le_trans (kids_len ok) (by decide)
  · obtain ⟨hLal, hDal, hgL⟩ := alive_fr F D₂
    clear X₂ Tp₂ N
    rintro C j v ys Hd s₂ m₃ E' hHd hal hi hP hn hmx ⟨h₂, tk₂, rfl⟩ ⟨⟨g', KT', B', F', N'⟩, hys⟩ hlen' hC
    have F₃ := F'.keeps hide_ext
    have N₃ := News.grown N' hide_ext
    have X₃ := XB.keeps B'.stays
    have Tp₃ := TB.keeps B'.stays
    dsimp only at F₃ N₃
    clear F
    k_steps
    show wpAny _ _ _ _ _ _
    rename Fr _ _ _ _ => F₄
    obtain ⟨t', et, htv'⟩ := hks.get hP
    obtain ⟨rest', hat', hl'⟩ := kid_at hat et
    have hkd' := kids_dep et
    have D' := D₂.turn KT'
    refine ih t' (List.mem_of_getElem? et) (kids_ok ok et) (by omega) w _ _ d _ rest' v td _ _ ((roomS_in hdp hun F₄ News.nil B' XB TB D' (by rfl) (by rfl)).le (by omega)) hz hat' (PlIn.mono (fun b o q => F₄.keep _ _ (keep_turn (KT₂.trans KT') D (G _ _ q.1) q.2)) _ _ _ (PlIn.nd _ _ _ htv')) fun h' tk' hE => ?_
    obtain ⟨g'', KT3, F5, B5, D5, hN5⟩ := regainA rfl rfl B' F' N' D' (extT_hide (Hd := Hd) hE) fun a' ha' => nomatch ha'
    refine ⟨h', tk', rfl, fun b hb o e => (hE b o (by simp) e).1 fun hfr => ?_, ⟨⟨g'', KT'.trans KT3, B5, F5, fun p hp => hN5 p hp (by simp)⟩, by rw [hys, List.replicate_succ']⟩⟩
    rcases List.mem_append.mp hb with hb | hb
    · rcases mem_frA rfl rfl hfr with q | q
      · obtain ⟨o', ho'⟩ := hLal
        rw [← q, hHd b hb] at ho'; cases ho'
      · obtain ⟨o', ho'⟩ := hDal b q
        rw [hHd b hb] at ho'; cases ho'
    · rw [List.mem_singleton.mp hb] at hfr
      obtain ⟨ol, hol, hcl', nl, hdl⟩ := hKg₂
      rcases mem_frA rfl rfl hfr with q | q
      · rw [q] at hol
        rw [show g₂.get? _ = none from hgL] at hol; cases hol
      · obtain ⟨o', es, n, k1, k2⟩ := D₂ _ q
        rw [hol] at k1; cases k1
        rw [hdl] at k2; cases k2
  · intro D0 ys h' tk' Hd k0 hlen' hHd hD0 hk' ⟨⟨g', KT', B', F', N'⟩, hys⟩
    obtain ⟨hLal, hDal, hgL⟩ := alive_fr F D₂
    have F₃ := F'.keeps hide_ext
    have X₃ := XB.keeps B'.stays
    have Tp₃ := TB.keeps B'.stays
    have N₃ : News g' L' h' [(D0, W.listOf ys.toArray k0)] := fun p hp => by
      rw [List.mem_singleton.mp hp]
      refine ⟨hk', fun q => ?_, KT'.none_ _ ?_⟩
      · obtain ⟨o', ho'⟩ := hLal
        rw [← show D0 = _ from q, hHd D0 hD0] at ho'; cases ho'
      · cases q : g₂.get? D0 with
        | none => rfl
        | some o' =>
          have := F.keep _ _ q
          rw [hHd D0 hD0] at this; cases this
    clear X₂ Tp₂ N F
    k_steps
    show wpAny _ _ _ _ _ _
    rename Fr _ _ _ _ => F
    rename News _ _ _ _ => N
    refine LSm.all_bools F N rfl ⟨_, (N _ (.head _)).1, rfl, _, rfl⟩ (hys ▸ bools_true _) ?_
    intro h5 tk5 F5 N5
    k_steps
    show LeaveR _ _ _
    rw [all_true']
    rename Fr _ _ _ _ => F
    refine leaveR_ ?_
    exact hret _ _ (turn_end hfs G.but (KT₂.trans KT') F)
theorem lh_specN : ∀ (n : Nat) (t : T), t.dep ≤ n → LhSpec t := by
  intro n
  induction n with
  | zero => intro t h; cases t <;> simp only [T.dep] at h <;> omega
  | succ n ih =>
    intro t h
    refine lh_turn t fun t' ht => ?_
    obtain ⟨i, hi, e⟩ := List.getElem_of_mem ht
    have := kids_dep (t := t) (t' := t') (j := i) (by rw [List.getElem?_eq_getElem hi, e])
    exact ih t' (by omega)
theorem lh_spec (t : T) : LhSpec t := lh_specN _ t (Nat.le_refl _)
end Mine
end
section
open PySem PySem.W PySem.Calls PyProof.Rows PySem.Spec
namespace Mine
theorem fresh_G5b : True := by
  w_top off
  run_tac do
    walkLines.set (0, {})
    walkStart.set 0
    walkLate.set false
  trivial
local macro_rules | `(tactic| walk_at "enter") => `(tactic| (refine' enter (by assumption) ?k6 ?k7 ?k9 ?kB ?_ ?c2 ?c3 ?c4 ?c5; (case k6 => k_is); (case k7 => k_is); (case k9 => exact BindsTo.of_eq rfl); (case c5 => decide); (case kB => exact locs rfl); (case c2 => exact rfl); (case c3 => exact rfl); (case c4 => exact rfl); k_whole; intro dp' un' gd' env' outer' base' g' h' L' p' loose' mean' mg' mb' hd' hu' F' N' B' X' T' G'; (try dsimp only); (try k_fold)))
local macro_rules | `(tactic| walk_at "room") => `(tactic| (refine Room.le (room_in (by assumption) (by assumption) (by assumption) (by assumption) (by assumption) (by assumption) (by rfl) (by rfl)) ?_))
local macro_rules | `(tactic| walk_at "subscriptTail") => `(tactic| ((with_reducible show wpAny _ _ (subscriptTail _ _ (Value.bytes _ _) (Value.int _ _)) _ _ _); (refine item_b (by omega) (by omega) (by omega) ?_ (by with_unfolding_all rfl) (by intro _; with_unfolding_all rfl))))
local macro_rules | `(tactic| walk_at "subscriptTail") => `(tactic| ((with_reducible show wpAny _ _ (subscriptTail _ _ (Value.ref 1450) (Value.int _ _)) _ _ _); (refine item_all (by assumption) (by assumption) (by omega) (by omega) ?_ (by with_unfolding_all rfl)); intro _))
local macro_rules | `(tactic| walk_at "binaryOp Add bytes bytes") => `(tactic| ((with_reducible show wpAny _ _ (binaryOp Operator.Add (Value.bytes _ _) (Value.bytes _ _)) _ _ _); (refine KBy.add_bytes (by first | omega | (simp; omega)) ?_); intro _ _))
local macro_rules | `(tactic| walk_at "eval ListComp") => `(tactic| (refine stop_ ?_))
local macro_rules | `(tactic| walk_at "call ref") => `(tactic| (refine stop_ ?_))
local macro_rules | `(tactic| walk_at "eval GeneratorExp") => `(tactic| (refine stop_ ?_))
local macro_rules | `(tactic| walk_at "call builtin:bytes.join") => `(tactic| (refine stop_ ?_))
local macro_rules | `(tactic| walk_at "getMethod bytes") => `(tactic| (refine method_join ?_))
local macro_rules | `(tactic| walk_at "call builtin:isinstance") => `(tactic| ((with_reducible show wpAny _ _ (call _ [Value.ref _, Value.ref _]) _ _ _); refine' kia_tup kitx_list ?X ?c ?p ?ee ?nb ?_; (case c => exact kitAt_F (by assumption) (by assumption)); (case X => k_in); (case p => kit_tp); (case ee => kit_is); (case nb => kit_nb); k_whole; intro _))
local macro_rules | `(tactic| walk_at "enter") => `(tactic| (refine' enterN (by assumption) ?k6 ?k7 ?k9 ?kB ?_ ?c2 ?c3 ?c4 ?c5; (case k6 => k_is); (case k7 => k_is); (case k9 => first | exact binds_K (RoomN.inK (by assumption)) rfl (by k_is) rfl rfl rfl | exact BindsTo.of_eq rfl); (case c5 => decide); (case kB => exact locs rfl); (case c2 => exact rfl); (case c3 => exact rfl); (case c4 => exact rfl); k_whole; intro dp' un' gd' env' outer' base' g' h' L' p' loose' mean' mg' mb' hd' hu' F' N' B' X' T' G'; (try dsimp only); (try k_fold)))
theorem enc_top2 (ks : List T) (ok : (T.node ks).ok) (hlen : (T.node ks).enc.length < 65536) (w : World) (A : Around) (s : Shared) (v : Value) (Q E : Value → Shared → Prop) (P : Addr) (oP : Obj)
    (R : RoomN w A s.heap (3 * (T.node ks).dep) [(P, oP)]) (hcP : s.heap.IsCode 1699 P #[]) (htP : s.heap.TableAt 1699 P #[]) (ht : TIn (vw s.heap) (.node ks) v)
    (hret : ∀ h' tk' gs tok b, ExtB [P] s.heap h' → (∃ more, h'.get? P = some (tabObj more)) → GX s.gens gs → b.toList = (T.node ks).enc → Q (.bytes b tok) { s with heap := h', toks := tk', gens := gs }) : wpAny (model prog w) A (call (.ref 1700) [v]) Q E s := by
  have ih : ∀ t ∈ ks, EncSpec t := fun t _ => enc_spec t
  simp only [TIn, T.ok] at ht ok
  obtain ⟨a, vs, n, rfl, hl, hk⟩ := ht
  refine wpAny_call ?_
  have R' : RoomN w A s.heap (3 * T.deps ks + 2 + 1) [(P, oP)] := R.le (by simp only [T.dep]; omega)
  walk_at "enter"
  rename_i dp un gd env outer base g h₁ L' p loose mean mg mb hdp hun F N B X Tp G
  have nP : ∀ {b : Addr} {o : Obj} {h : Heap}, h.get? P = none → h.get? b = some o → b ∉ [P] := fun hn e hb => by rw [List.mem_singleton.mp hb, hn] at e; cases e
  have hl' := G _ _ (fun hb => by rw [List.mem_singleton.mp hb] at hl; exact isCode_list hcP hl) hl
  have hL : Heap.IsList _ a vs.toArray := ⟨_, hl', rfl, n, rfl⟩
  have hkG : TsIn (vw g) ks vs := TsIn.keep hcP G _ _ hk
  have hP0 := (R.site_get).1
  k_steps
  rename Fr _ _ _ _ => F
  rename News _ _ _ _ => N
  have hm : ∃ m₀, Fr g L' _ m₀ ∧ m₀ (Str.ofString "item") = some (.ref a) := ⟨_, F, rfl⟩
  clear F
  obtain ⟨m₀, F, hm⟩ := hm
  have hPN := N (P, oP) (by simp)
  have hPg : g.get? P = none := hPN.2.2
  show wpAny _ _ _ _ _ _
  refine GeneratorExp_X rfl rfl (by rfl) (by decide) (by rfl) (by rfl) rfl (by show dp + 1 < _; omega) ?_ (by intro _; with_unfolding_all rfl)
  refine ld F hm ?_
  refine ⟨a, vs, rfl, hL.at fun o e => F.keep _ o e, Tp.nolimit.keeps F.keep, ?_⟩
  rintro s₂ ⟨h₂, tk₂, rfl⟩ hE₂
  dsimp only at hE₂ ⊢
  obtain ⟨bm, ob, hb1, hb2, hb3, hb4, hb5, hb6⟩ := Tp.bmain
  have kg : Ext g h₂ := fun b o e => hE₂ _ _ (F.keep b o e)
  have h2P : h₂.get? P = some oP := hE₂ _ _ hPN.1
  have hok2 : h₂.IsCode 1699 P #[] := isCode_at hcP (fun o n e => kg _ _ (G _ _ (by simpa using n) e)) (fun o e => by rw [hP0] at e; cases e; exact h2P)
  have htab2 : h₂.TableAt 1699 P #[] := tableAt_at htP (isCode_ne hcP) (fun o n e => kg _ _ (G _ _ (by simpa using n) e)) (fun o e => by rw [hP0] at e; cases e; exact h2P)
  refine wpAny_genexprCodeX rfl hok2 htab2 (by rfl) ?_
  intro c' h₃ tk₃ hE₃ q1 q2 hok3 q3 q4 q5
  have kg3 : Ext g h₃ := fun b o e => hE₃ b o (fun q => nP hPg e (by rw [q]; exact List.mem_singleton_self _)) (kg b o e)
  refine wpAny_builtinsFor (Tp.g.keeps kg3) hb1 hb2 (kg3 _ _ hb3) hb4 hb5 hb6 ?_
  have hPI := Heap.lt_size hPN.1
  refine ⟨fun i v => ∃ tk, v = .bytes (dOf ks i) tk, P, hPI, ?_, Tp.nolimit.keeps kg3, fun b o n e => hE₃ b o n e, ⟨_, _, rfl⟩, ?_, ?_⟩
  · rintro rfl
    exact isCode_list hcP hl
  · intro href hr E' i v s₃ m₃ hi hP hns hx hfr
    have hkeep : ∀ b o, (hideAll h₃ [_]).get? b = some o → s₃.heap.get? b = some o := fun b o e => hfr b (List.mem_range.mpr (Heap.lt_size (of_hideAll _ e))) (fun hb => by rw [hideAll_none _ hb] at e; cases e) o (hr _ _ (of_hideAll _ e))
    have F₀ : Fr (hideAll h₃ [_]) _ _ _ := ⟨hns, hkeep, Nat.le_of_eq (hideAll_size _ _)⟩
    have kgI : Ext g (hideAll h₃ [_]) := fun b o e => hideAll_get _ (kg3 b o e) (not_size (F.keep b o e))
    have FI : Fr g L' (hideAll h₃ [_]) m₀ := ⟨F.ns.at' fun o e => hideAll_get _ (hE₃ L' o (fun q => hPN.2.1 q.symm) (hE₂ L' o e)) (not_size e), kgI, F.above⟩
    have X₀ := X.keeps kgI
    have T₀ := Tp.keeps kgI
    clear F
    refine genElt F₀ X₀ (topRead_of T₀) rfl hx rfl rfl (by rfl) (by rfl) ?_
    obtain ⟨t, et, htv⟩ := hkG.get hP
    have hle := T.dep_le et
    refine ih t (List.mem_of_getElem? et) (T.oks_get ok.2 et) (Nat.lt_of_le_of_lt (enc_le et) hlen) w _ _ v _ _ ?_ ?_ ?_ fun h' tk' gs tok b hE hX hb => ?_
    · refine ⟨Site.of (pushX B FI (by rfl) (by rfl)) F₀ X₀ T₀ (over_frames rfl) rfl rfl (over_handled rfl), ?_, ?_⟩
      · rw [over_depth]
        show dp + 1 + 1 + _ < _
        omega
      · rw [over_units]
        show un + 3 + 4 + 1 + 3 + _ < _
        omega
    · refine Hit.ext (h := hideAll h₃ [_]) ⟨P, _, .ref c', isCode_at hok3 (fun o _ e => ?_) (fun o e => ?_), by rfl⟩ F₀.keep
      · obtain ⟨oc, hoc⟩ := isCode_get hcP
        have hgc := G _ _ (by simpa using isCode_ne hcP) hoc
        have e2 := kg3 _ _ hgc
        rw [e] at e2; cases e2
        exact kgI _ _ hgc
      · exact hideAll_get _ e (not_size hPN.1)
    · exact TIn.mono (fun a o e => F₀.keep _ _ (kgI _ _ e)) _ _ htv
    · refine ⟨⟨tok, ?_⟩, _, _, _, rfl, hE, hX⟩
      congr 1
      apply Array.toList_inj.mp
      rw [hb, dOf, et]
      rfl
  · intro a' h₅ tk gs hbare hlt hsz hk5 W St
    k_steps
    show wpAny _ _ _ _ _ _
    have W3 := WalksS.of_in1 W
    have elen := hk.length
    refine bytes_join (d := dOf ks) W3 ?hT ?hst ?hfp ?hI ?hself ?hP ?hsz ?hn ?hQ
    case hT => exact fun i s st => st.1.typeIs
    case hst => first | exact St | exact W3.frame _ _ _ _ St (by dsimp only; omega) fun _ _ _ e => e
    case hfp =>
      intro b hb
      rcases List.mem_cons.mp hb with rfl | hb
      · show @LT.lt Nat _ _ h₅.objs.size
        rw [hsz]; exact Nat.lt_succ_self _
      · have hlt' : @LT.lt Nat _ h₃.objs.size h₅.objs.size := by rw [hsz]; exact Nat.lt_succ_of_lt hlt
        rcases List.mem_cons.mp hb with rfl | hb
        · exact hlt'
        · exact Nat.lt_trans (List.mem_range.mp hb) hlt'
    case hI => exact List.mem_cons_self ..
    case hself => exact fun Q' E' q => wpAny_pyIter_gen St.1 q
    case hP => exact fun i v h => h
    case hsz =>
      rw [elen, cat_dOf]
      have := hlen
      rw [T.enc, List.length_append] at this
      omega
    case hn => rw [elen]; exact Nat.le_trans ok.1 (by decide)
    case hQ =>
      intro s' r tok tk' hm hr
      have kfin : ExtB [P] _ s'.heap := fun b o n e => by
        have e2 := hE₃ _ _ (by simpa using n) (hE₂ _ _ e)
        have e5 := hk5 _ _ e2
        have l2 := Heap.lt_size e2
        have l5 := Heap.lt_size e5
        have l1 := Heap.lt_size e
        refine hm.heap b o ?_ (Heap.get?_push_of_some _ e5)
        intro hb
        rcases List.mem_cons.mp hb with rfl | hb
        · exact Nat.lt_irrefl _ l5
        rcases List.mem_cons.mp hb with rfl | hb
        · exact Nat.lt_irrefl _ l2
        rw [List.mem_singleton.mp hb] at l1
        exact Nat.lt_irrefl _ l1
      have hP6 : ∃ more, s'.heap.get? P = some (tabObj more) := by
        obtain ⟨more, h3P⟩ : ∃ more, h₃.get? P = some (tabObj more) := ⟨_, q4.2⟩
        refine ⟨more, hm.heap P _ ?_ (Heap.get?_push_of_some _ (hk5 _ _ h3P))⟩
        have l2 := Heap.lt_size h3P
        have l5 := Heap.lt_size (hk5 _ _ h3P)
        intro hb
        rcases List.mem_cons.mp hb with q | hb
        · exact Nat.lt_irrefl _ (q ▸ l5)
        rcases List.mem_cons.mp hb with q | hb
        · exact Nat.lt_irrefl _ (q ▸ l2)
        · rw [List.mem_singleton.mp hb] at hPI
          exact Nat.lt_irrefl _ hPI
      have hG := GX.gg hbare hm.gens
      obtain ⟨h6, gs6, dr6, tk6, os6⟩ := s'
      obtain ⟨more, hP6⟩ := hP6
      obtain rfl : dr6 = s.drawn := hm.drawn
      obtain rfl : os6 = s.os := hm.os
      dsimp only at kfin hG
      replace F := Fr.but F N kfin (fun a ha => ⟨oP, by rw [List.mem_singleton.mp ha]; simp⟩)
      clear N
      have N : News g L' h6 [(P, tabObj more)] := fun p hp => by rw [List.mem_singleton.mp hp]; exact ⟨hP6, hPN.2⟩
      have hrs : r.size = (T.encs ks).length := by rw [← Array.length_toList, hr, elen, cat_dOf]
      have hrl : r.size < 65536 := by
        have := hlen
        rw [T.enc, List.length_append] at this
        omega
      clear hm St W W3
      k_steps
      show wpAny _ _ _ _ _ _
      refine lp_spec w _ _ r.size 192 192 _ _ _ _ (by walk_at "room"; omega) (by omega) rfl (.inr rfl) fun h' tk' tok p hE hp => ?_
      have hps : p.size ≤ 3 := by rw [← Array.length_toList, hp]; unfold pre be; split <;> (try split) <;> simp
      rename Fr _ _ _ _ => F
      rename News _ _ _ _ => N
      replace F := F.keeps hE
      replace N := News.grown N hE
      k_steps
      show Leave0 g L' _ _ _
      rename News _ _ _ _ => N
      have hPe := (N (P, tabObj more) (by k_mem)).1
      refine leaveN (by assumption) G ?_
      intro hE
      refine hret _ _ _ _ _ hE ⟨more, hPe⟩ hG ?_
      rw [T.enc, Array.toList_append, hp, hr, elen, cat_dOf, hrs]
theorem encode_top2 (ks : List T) (ok : (T.node ks).ok) (hlen : (T.node ks).enc.length < 65536) (w : World) (A : Around) (s : Shared) (v : Value) (Q E : Value → Shared → Prop) (P : Addr) (oP : Obj)
    (R : RoomN w A s.heap (3 * (T.node ks).dep + 1) [(P, oP)]) (hcP : s.heap.IsCode 1699 P #[]) (htP : s.heap.TableAt 1699 P #[]) (ht : TIn (vw s.heap) (.node ks) v)
    (hret : ∀ h' tk' gs tok b, ExtB [P] s.heap h' → (∃ more, h'.get? P = some (tabObj more)) → GX s.gens gs → b.toList = (T.node ks).enc → Q (.bytes b tok) { s with heap := h', toks := tk', gens := gs }) : wpAny (model prog w) A (call (.ref 1708) [v, .none, .bool false]) Q E s := by
  refine wpAny_call ?_
  walk_at "enter"
  rename_i dp un gd env outer base g h₁ L' p loose mean mg mb hdp hun F N B X Tp G
  have hP0 := (R.site_get).1
  k_steps
  show wpAny _ _ _ _ _ _
  rename Fr _ _ _ _ => F
  rename News _ _ _ _ => N
  have hPN := N (P, oP) (by simp)
  have hcg : ∀ o, (1699 : Addr) ≠ P → s.heap.get? 1699 = some o → Heap.get? _ 1699 = some o := fun o n e => F.keep _ _ (G _ _ (by simpa using n) e)
  have hpg : ∀ o, s.heap.get? P = some o → Heap.get? _ P = some o := fun o e => by rw [hP0] at e; cases e; exact hPN.1
  have hExt : ExtB [] s.heap _ := fun b o _ e => by
    by_cases hb : b = P
    · subst hb; exact hpg _ e
    · exact F.keep _ _ (G _ _ (by simpa using hb) e)
  refine enc_top2 ks ok hlen w _ _ v _ _ P oP (roomN_in hdp hun F N B X Tp rfl rfl) (isCode_at hcP hcg hpg) (tableAt_at htP (isCode_ne hcP) hcg hpg) (TIn.mono (fun a o e => hExt a o (by simp) e) _ _ ht) fun h' tk' gs tok b hE hM hX hb => ?_
  replace F := Fr.but F N hE (fun a ha => ⟨oP, by rw [List.mem_singleton.mp ha]; simp⟩)
  clear N
  obtain ⟨more, hM⟩ := hM
  have N : News g L' h' [(P, tabObj more)] := fun p hp => by rw [List.mem_singleton.mp hp]; exact ⟨hM, hPN.2⟩
  k_steps
  show Leave0 g L' _ _ _
  rename News _ _ _ _ => N
  have hPe := (N (P, tabObj more) (by k_mem)).1
  refine leaveN (by assumption) G ?_
  intro hE
  exact hret _ _ _ _ _ hE ⟨more, hPe⟩ hX hb
end Mine
end
section
open PySem PySem.W PySem.Calls PyProof.Rows PySem.Spec
namespace Mine
theorem fresh_M4 : True := by
  w_top off
  run_tac do
    walkLines.set (0, {})
    walkStart.set 0
    walkLate.set false
  trivial
local macro_rules | `(tactic| walk_at "enter") => `(tactic| (refine' enter (by assumption) ?k6 ?k7 ?k9 ?kB ?_ ?c2 ?c3 ?c4 ?c5; (case k6 => k_is); (case k7 => k_is); (case k9 => exact BindsTo.of_eq rfl); (case c5 => decide); (case kB => exact locs rfl); (case c2 => exact rfl); (case c3 => exact rfl); (case c4 => exact rfl); k_whole; intro dp' un' gd' env' outer' base' g' h' L' p' loose' mean' mg' mb' hd' hu' F' N' B' X' T' G'; (try dsimp only); (try k_fold)))
local macro_rules | `(tactic| walk_at "room") => `(tactic| (refine Room.le (room_in (by assumption) (by assumption) (by assumption) (by assumption) (by assumption) (by assumption) (by rfl) (by rfl)) ?_))
local macro_rules | `(tactic| walk_at "subscriptTail") => `(tactic| ((with_reducible show wpAny _ _ (subscriptTail _ _ (Value.bytes _ _) (Value.int _ _)) _ _ _); (refine item_b (by omega) (by omega) (by omega) ?_ (by with_unfolding_all rfl) (by intro _; with_unfolding_all rfl))))
local macro_rules | `(tactic| walk_at "subscriptTail") => `(tactic| ((with_reducible show wpAny _ _ (subscriptTail _ _ (Value.ref 1450) (Value.int _ _)) _ _ _); (refine item_all (by assumption) (by assumption) (by omega) (by omega) ?_ (by with_unfolding_all rfl)); intro _))
local macro_rules | `(tactic| walk_at "binaryOp Add bytes bytes") => `(tactic| ((with_reducible show wpAny _ _ (binaryOp Operator.Add (Value.bytes _ _) (Value.bytes _ _)) _ _ _); (refine KBy.add_bytes (by first | omega | (simp; omega)) ?_); intro _ _))
local macro_rules | `(tactic| walk_at "eval ListComp") => `(tactic| (refine stop_ ?_))
local macro_rules | `(tactic| walk_at "call ref") => `(tactic| ((with_reducible show wpAny _ _ (call (Value.ref 1799) _) _ _ _); refine stop_ ?_))
local macro_rules | `(tactic| walk_at "call ref") => `(tactic| ((with_reducible show wpAny _ _ (call (Value.ref 1804) _) _ _ _); refine stop_ ?_))
local macro_rules | `(tactic| walk_at "call ref") => `(tactic| ((with_reducible show wpAny _ _ (call (Value.ref 1708) _) _ _ _); refine stop_ ?_))
local macro_rules | `(tactic| walk_at "call ref") => `(tactic| ((with_reducible show wpAny _ _ (call (Value.ref 1816) _) _ _ _); refine stop_ ?_))
local macro_rules | `(tactic| walk_at "call ref") => `(tactic| ((with_reducible show wpAny _ _ (call (Value.ref 1823) _) _ _ _); refine stop_ ?_))
local macro_rules | `(tactic| walk_at "call ref") => `(tactic| ((with_reducible show wpAny _ _ (call (Value.ref 1840) _) _ _ _); refine stop_ ?_))
local macro_rules | `(tactic| walk_at "eval GeneratorExp") => `(tactic| (refine stop_ ?_))
local macro_rules | `(tactic| walk_at "call builtin:bytes.join") => `(tactic| (refine stop_ ?_))
local macro_rules | `(tactic| walk_at "getMethod bytes") => `(tactic| (refine method_join ?_))
local macro_rules | `(tactic| walk_at "call builtin:isinstance") => `(tactic| ((with_reducible show wpAny _ _ (call _ [Value.ref _, Value.ref _]) _ _ _); refine' kia_tup kitx_list ?X ?c ?p ?ee ?nb ?_; (case c => exact kitAt_F (by assumption) (by assumption)); (case X => k_in); (case p => kit_tp); (case ee => kit_is); (case nb => kit_nb); k_whole; intro _))

local macro_rules | `(tactic| walk_at "subscriptTail") => `(tactic| ((with_reducible show wpAny _ _ (subscriptTail _ _ (Value.bytes _ _) (Value.ref _)) _ _ _); (with_reducible rename Fr _ _ _ _ => F'); (with_reducible rename News _ _ _ _ => N'); (refine slice_b (s := ⟨_, _, _, _, _⟩) F' N' (by omega) (by omega) (by omega) ?_); intro _ _ _ _ _))


local macro_rules | `(tactic| k_room) => `(tactic| ((try simp only [depth_under_make, depth_under_kw, depth_in1, depth_deeper, depth_caller]); (try dsimp only); omega))
local macro_rules | `(tactic| walk_at "eval Name") => `(tactic| ((with_unfolding_all refine guard_local (by rfl) ?_); k_dflt (refine' ld ?k1 ?k2 ?_; (case k1 => k_asm); (case k2 => assumption); k_whole)))
local macro_rules | `(tactic| walk_at "exec Assign cons ListComp") => `(tactic| (refine stop_ ?_))
theorem in_hide {K : Frag} {h : Heap} {P : Addr} (X : K.In h) (e : (K.lookup P).isNone = true) : K.In (hideAll h [P]) := fun b o q => hideAll_get _ (X b o q) fun hm => by
  rw [List.mem_singleton.mp hm] at q
  rw [q] at e; cases e
theorem fr_hide {g h : Heap} {L : Addr} {m : Str → Option Value} {l : List Addr} (F : Fr g L h m) : Fr (hideAll g l) L h m := ⟨F.ns, fun b o e => F.keep b o (of_hideAll _ e), by rw [hideAll_size]; exact F.above⟩
theorem news_hide {g h : Heap} {L : Addr} {l : List Addr} {news : List (Addr × Obj)} (N : News g L h news) : News (hideAll g l) L h news := fun p hp => ⟨(N p hp).1, (N p hp).2.1, by
  cases q : (hideAll g l).get? p.1 with
  | none => rfl
  | some o => have := of_hideAll _ q; rw [(N p hp).2.2] at this; cases this⟩
theorem code_tab {h : Heap} {c P : Addr} (x : CodeHd h c P) (hP : h.get? P = some (tabObj #[])) : h.IsCode c P #[] ∧ h.TableAt c P #[] := by
  obtain ⟨o, vs, f, tf, fl, tg, b, n, tt, h1, h2, h3, h4, h5, h6, h7, h8, h9, h10⟩ := x
  exact ⟨⟨o, vs, f, tf, fl, tg, b, n, tt, tabObj #[], h1, h3, h5, h6, h7, h8, h9, hP, rfl, (by first | trivial | exact True.intro | simp [TriplesOk]), h10⟩, ⟨o, vs, h1, h2, h3, h4⟩, hP⟩
theorem News.more {g h : Heap} {L : Addr} {m : Str → Option Value} {news : List (Addr × Obj)} {a : Addr} {o : Obj} (N : News g L h news) (e : h.get? a = some o) (n : g.get? a = none) (F : Fr g L h m) (hd : ∀ es n, o.data ≠ .dict es n := by intro _ _ h; cases h) : News g L h ((a, o) :: news) := fun p hp => by
  rcases List.mem_cons.mp hp with rfl | hp
  · refine ⟨e, ?_, n⟩
    rintro rfl
    obtain ⟨oL, es, ep, h1, h2, _⟩ := F.ns
    rw [show h.get? a = some o from e] at h1; cases h1
    exact hd _ _ h2
  · exact N p hp
theorem list_hide {h : Heap} {P a : Addr} {vs : Array Value} (x : h.IsList a vs) (hP : h.get? P = some (tabObj #[])) : (hideAll h [P]).IsList a vs := by
  obtain ⟨o, e, c, n, d⟩ := x
  refine ⟨o, hideAll_get _ e fun hm => ?_, c, n, d⟩
  rw [List.mem_singleton.mp hm, hP] at e
  cases e; cases d
theorem roomL {w : World} {base h : Heap} {L : Addr} {p : Program} {loose : List Str} {mean : ExcName → Option Value} {mg mb m : Str → Option Value} {e : Env} {news : List (Addr × Obj)} (F : Fr base L h m) (N : News base L h news) (B : Below callerA base [] base) (X : (hd.heap_1 w.params).In base) (T : Top p loose mean mg mb base)
    (hf : e.frame = some L) (hk : e.scope.kind = .function) : RoomN w (callerA.deeper e) h 40 news :=
  ⟨⟨callerA, base, [], base, e, L, m, p, loose, mean, mg, mb, B, F, N, X, T, rfl, hf, hk, rfl⟩, by simp only [depth_deeper, depth_caller]; decide, by simp only [units_deeper, units_caller]; decide⟩
theorem roomLS {w : World} {base h : Heap} {L : Addr} {p : Program} {loose : List Str} {mean : ExcName → Option Value} {mg mb m : Str → Option Value} {e : Env} {news : List (Addr × Obj)} (F : Fr base L h m) (N : News base L h news) (B : Below callerA base [] base) (X : (hd.heap_1 w.params).In base) (T : Top p loose mean mg mb base)
    (hf : e.frame = some L) (hk : e.scope.kind = .function) : RoomS w (callerA.deeper e) h 40 news :=
  ⟨⟨callerA, base, [], base, e, L, m, p, loose, mean, mg, mb, B, F, N, X, T, ktsDicts_nil, rfl, hf, hk, rfl⟩, by simp only [depth_deeper, depth_caller]; decide, by simp only [units_deeper, units_caller]; decide⟩
def LwJ (k : Nat) (tp scr L : Addr) (oc : Obj) (vs : List Value) (n2 : Nat) (g : Heap) (j : Nat) (ys : List Value) (h : Heap) : Prop :=
  ∃ R i' tk' n', 0 ≤ i' ∧ News g L h ((L + 1, oc) :: (1695, tabObj #[]) :: (tapeO tp scr i' tk' n' vs n2 ++ R)) ∧ (∀ p ∈ R, p.1 ≠ tp ∧ p.1 ≠ scr ∧ p.1 ≠ (1695 : Addr)) ∧ ∃ ts : List T, ts.length = j ∧ (∀ t ∈ ts, TreeOk k t) ∧ TsIn (inR R) ts ys
theorem tr_three : TrSpec 3 := tr_succ 2 (Nat.le_refl _) (tr_succ 1 (by decide) (tr_succ 0 (by decide) tr_zero))
theorem law_test : PySem.Challenge.rw_ff0025_01.Holds := hd2 (by
  k_fill
  intro w s₀ s₁ mg mb G Y fa o pm cd doc dV kV ho hd hcd hD hmg hg args vals as hpre hlay hrd hwl hlo
  have KX := pick_in Y
  have hT8 := pick_tabs Y
  have XG := (Ground.X G).1
  have V := (Ground.X G).2
  refine Ground.open G ?_
  intro T B D TE TW
  try (refine guard_noD D (by decide +kernel) ?_; clear D)
  obtain ⟨_, _, M⟩ := bmod_of_top T
  have TA := at_of_top T
  try (obtain ⟨_, _, he, B0⟩ := based_of_top T rfl hmg ho hd; have he' : cd = _ := he; subst he'; clear he)
  clear hmg
  wrow_args hpre hlay hrd hwl hlo
  all_goals (
    first | refine callC_kw (enter_call ?_) | refine enter_call ?_ | refine callC_kw (enter_callW ?_) | refine enter_callW ?_ | w_how
    w_top on
    have K0 := below_caller (Top.heap T)
    w_call any ho hd hcd hD T F
    clear hd TA
    k_drop
    skip)
  all_goals try k_fold
  have X : (Mine.hd.heap_1 w.params).In s₁.heap := KX
  have hP := hT8 1695 (.head _)
  rename Top _ _ _ _ _ _ => T
  rename Fr _ _ _ _ => F
  rename Heap.IsList _ _ _ => hL
  rename IntsAre _ _ => hI
  rename News _ _ _ _ => N
  rename (Obj.data _ = _) => hoc
  obtain ⟨hcP, htP⟩ := code_tab (codeHd_of_K (c := 1699) (P := 1695) X (by kernel_rfl)) hP
  obtain ⟨loose', T'⟩ := Top.weak T hcP (h' := hideAll s₁.heap [1695]) (fun b o n e => hideAll_get _ e (by simpa using n))
  have X' := in_hide (P := 1695) X (by kernel_rfl)
  have F' := fr_hide (l := [1695]) F
  have N' := News.more (news_hide (l := [1695]) N) (a := 1695) (o := tabObj #[]) (F.keep _ _ hP) (hideAll_none _ (.head _)) F'
  have hL' := list_hide (P := 1695) hL hP
  rename Below _ _ _ _ => K0
  clear K0
  have B' := below_caller (hideAll s₁.heap [1695])
  have hbs : ∀ b o, b ∉ [(1695 : Addr)] → s₁.heap.get? b = some o → (hideAll s₁.heap [1695]).get? b = some o := fun b o n e => hideAll_get _ e n
  obtain ⟨base, hbase⟩ : ∃ b, b = hideAll s₁.heap [1695] := ⟨_, rfl⟩
  rw [← hbase] at T' X' F' N' hL' B' hbs
  clear hbase T X KX F N hL Y G hT8
  obtain ⟨m₀, F, e1⟩ : ∃ m₀, Fr base _ _ m₀ ∧ m₀ (Str.ofString "script") = some (.ref _) := ⟨_, F', rfl⟩
  clear F'
  k_steps
  all_goals (try k_data)
  show wpAny (model prog w) _ _ _ _ _
  rename Fr _ _ _ _ => F
  rename News _ _ _ _ => N
  rename_i scr ws _ hIw _ _ l1a tp _ _ _ l1b _ oc2 hoc2
  have hws : ws.length ≤ 14 := by have := hIw.length; rw [List.length_take] at this; omega
  have hne : @Ne Nat tp scr := Nat.ne_of_gt l1b.1
  simp only [List.cons_append, List.nil_append] at N
  have Ns := News.sub (news' := tapeO tp scr 0 _ 0 ws 0) N (by
    intro p hp
    rcases List.mem_cons.mp hp with rfl | hp
    · exact .head _
    rw [List.mem_singleton.mp hp]
    exact .tail _ (.head _))
  refine draw_spec w _ _ tp scr 0 _ 0 ws _ 0 _ _ hne (by omega) hIw hws ((roomL F Ns B' X' T' (by rfl) (by rfl)).le (by omega)) ?_
  intro h2 tk2 r tokr tk3 n3 hE hT
  have nC1 : s₁.heap.objs.size + 1 ≠ tp := Nat.ne_of_lt l1b.2.2
  have nC2 : s₁.heap.objs.size + 1 ≠ scr := Nat.ne_of_lt l1a.2
  have nP1 : (1695 : Addr) ≠ tp := Nat.ne_of_lt l1b.2.1
  have nP2 : (1695 : Addr) ≠ scr := Nat.ne_of_lt l1a.1
  have F₂ := Fr.but F Ns hE fun a' ha' => mem_fst ha'
  have N₂ : News base _ h2 ((s₁.heap.objs.size + 1, oc2) :: (1695, tabObj #[]) :: tapeO tp scr (0 + 1) tk3 n3 ws 0) := News.but F N hE (by
    intro p hp
    rcases List.mem_cons.mp hp with rfl | hp
    · refine .inl ⟨by k_mem, fun hm => ?_⟩
      rcases List.mem_cons.mp hm with q | hm
      · exact nC1 q
      · exact nC2 (List.mem_singleton.mp hm)
    rcases List.mem_cons.mp hp with rfl | hp
    · refine .inl ⟨by k_mem, fun hm => ?_⟩
      rcases List.mem_cons.mp hm with q | hm
      · exact nP1 q
      · exact nP2 (List.mem_singleton.mp hm)
    refine .inr (.inl ⟨?_, hT p hp⟩)
    rcases List.mem_cons.mp hp with rfl | hp
    · exact ⟨_, by k_mem⟩
    rw [List.mem_singleton.mp hp]
    exact ⟨_, by k_mem⟩)
  dsimp only [tapeO] at N₂
  clear F N Ns l1a l1b
  k_steps
  all_goals (try k_data)
  show wpAny (model prog w) _ _ _ _ _
  rename Fr _ _ _ _ => F
  rename News _ _ _ _ => N
  have hm0 : 0 ≤ r.fmod 4 := Int.fmod_nonneg_of_pos _ (by decide)
  have hm4 : r.fmod 4 < 4 := Int.fmod_lt_of_pos _ (by decide)
  obtain ⟨nr, hnr⟩ : ∃ nr : Nat, 1 + r.fmod 4 = (nr : Int) := ⟨(1 + r.fmod 4).toNat, (Int.toNat_of_nonneg (by omega)).symm⟩
  obtain ⟨m₁, F, e1⟩ : ∃ m₁, Fr base s₁.heap.objs.size _ m₁ ∧ m₁ (Str.ofString "first") = some (.int r tokr) := ⟨_, F, rfl⟩
  refine Assign_ListComp_range (fun j ys h => Fr base s₁.heap.objs.size h m₁ ∧ LwJ 3 tp scr s₁.heap.objs.size oc2 ws 0 base j ys h) ?_ (by rfl) (by rfl) (by rfl) (by decide) (by rfl) (by decide) (by rfl) ?_
  · rintro j ys h h' hE ⟨F, R, i', tk', n', hi0, N, hR, ts, x⟩
    exact ⟨F.keeps hE, R, i', tk', n', hi0, News.grown N hE, hR, ts, x⟩
  refine hideQ fun K hq => ?_
  k_steps
  all_goals (try k_data)
  refine hq _ _ ?_
  rename IsRange _ _ _ _ _ _ _ _ => hR
  rename Fr _ _ _ _ => F
  rename News _ _ _ _ => N
  rw [hnr] at hR
  have hrs := range_up nr (by omega)
  refine ⟨_, _, _, _, _, _, _, nr, rfl, hR, hrs.2, hrs.1, Nat.le_trans (by omega : nr ≤ 4) (by decide), ⟨F, [], 0 + 1, tk3, n3, by omega, by rw [List.append_nil]; exact N, (fun p hp => nomatch hp), [], rfl, (fun t ht => nomatch ht), rfl⟩, ?_, ?_⟩
  · have htpA := (N (tp, _) (by k_mem)).1
    have hscA := (N (scr, _) (by k_mem)).1
    rintro C j v ys Hd s₂ m₃ E' hHd hal hi' hP hn hmx ⟨h₃, tk₃, rfl⟩ ⟨F', R, i', tk', n', hi0, N', hR', ts, htl, hts, hys⟩ hlen' hC
    have F₃ := F'.keeps hide_ext
    have N₃ := News.grown N' hide_ext
    dsimp only [tapeO] at F₃ N₃
    simp only [List.cons_append, List.nil_append] at N₃
    clear F N
    k_steps
    all_goals (try k_data)
    show wpAny (model prog w) _ _ _ _ _
    rename Fr _ _ _ _ => F₄
    rename News _ _ _ _ => N₄
    have Ns := News.sub (news' := tapeO tp scr i' tk' n' ws 0) N₄ (by
      intro p hp
      rcases List.mem_cons.mp hp with rfl | hp
      · k_mem
      rw [List.mem_singleton.mp hp]
      k_mem)
    refine tr_three w _ _ tp scr _ tk' _ n' ws _ 0 _ _ hne hi0 (by assumption) hws ((roomL F₄ Ns B' X' T' (by rfl) (by rfl)).le (by omega)) ?_
    intro h4 tk4 t' v' R1 i2 tk5 n5 hE4 hT4 hi2 htok hin hfr
    have hR1 : ∀ p ∈ R1, p.1 ≠ tp ∧ p.1 ≠ scr ∧ p.1 ≠ (1695 : Addr) := fun p hp => ⟨ne_of (hfr p hp).1 (Ns _ (.head _)).1, ne_of (hfr p hp).1 (Ns _ (.tail _ (.head _))).1, ne_of (hfr p hp).1 (N₄ (1695, tabObj #[]) (by k_mem)).1⟩
    have hEh : ExtB [tp, scr] (hideAll h₃ Hd) (hideAll h4 Hd) := extB_hide hE4
    have vis : ∀ p ∈ (s₁.heap.objs.size + 1, oc2) :: (1695, tabObj #[]) :: (tapeO tp scr i' tk' n' ws 0 ++ R), p.1 ∉ Hd := fun p hp hm => by
      have := (N' p hp).1
      rw [hideAll_none _ hm] at this; cases this
    refine ⟨h4, tk4, rfl, fun b hb o e => hE4 b o (fun hm => ?_) e, Fr.but F' (News.sub N' fun p hp => List.mem_cons_of_mem _ (List.mem_cons_of_mem _ (List.mem_append_left _ hp))) hEh (fun a' ha' => mem_fst (news := tapeO tp scr i' tk' n' ws 0) ha'), R1 ++ R, i2, tk5, n5, hi2, News.but F' N' hEh ?_, ?_, ts ++ [t'], by rw [List.length_append, htl]; rfl, ?_, TsIn.snoc (TsIn.mono (fun a o h => List.mem_append_right _ h) _ _ hys) (TIn.mono (fun a o h => List.mem_append_left _ h) _ _ hin)⟩
    · rw [List.append_nil] at hb
      have := hHd b hb
      rcases List.mem_cons.mp hm with q | hm
      · rw [q, htpA] at this; cases this
      · rw [List.mem_singleton.mp hm, hscA] at this; cases this
    · intro p hp
      rcases List.mem_cons.mp hp with rfl | hp
      · refine .inl ⟨.head _, fun hm => ?_⟩
        rcases List.mem_cons.mp hm with q | hm
        · exact nC1 q
        · exact nC2 (List.mem_singleton.mp hm)
      rcases List.mem_cons.mp hp with rfl | hp
      · refine .inl ⟨.tail _ (.head _), fun hm => ?_⟩
        rcases List.mem_cons.mp hm with q | hm
        · exact nP1 q
        · exact nP2 (List.mem_singleton.mp hm)
      rcases List.mem_append.mp hp with hp | hp
      · refine .inr (.inl ?_)
        rcases List.mem_cons.mp hp with rfl | hp
        · exact ⟨⟨_, .tail _ (.tail _ (.head _))⟩, hideAll_get _ (hT4 _ (.head _)) (vis (tp, W.listOf #[Value.int i' tk', .ref scr] n') (.tail _ (.tail _ (.head _))))⟩
        rw [List.mem_singleton.mp hp]
        exact ⟨⟨_, .tail _ (.tail _ (.tail _ (.head _)))⟩, hideAll_get _ (hT4 _ (.tail _ (.head _))) (vis (scr, _) (.tail _ (.tail _ (.tail _ (.head _)))))⟩
      rcases List.mem_append.mp hp with hp | hp
      · refine .inr (.inr ⟨?_, hideAll_get _ (hfr p hp).2 fun hm => ?_⟩)
        · cases q : (hideAll h₃ Hd).get? p.1 with
          | none => rfl
          | some o =>
            have := of_hideAll _ q
            rw [(hfr p hp).1] at this; cases this
        · obtain ⟨o, ho⟩ := hal _ hm
          have := (hfr p hp).1
          rw [ho] at this; cases this
      · refine .inl ⟨List.mem_cons_of_mem _ (List.mem_cons_of_mem _ (List.mem_append_right _ hp)), fun hm => ?_⟩
        rcases List.mem_cons.mp hm with q | hm
        · exact (hR' p hp).1 q
        · exact (hR' p hp).2.1 (List.mem_singleton.mp hm)
    · intro p hp
      rcases List.mem_append.mp hp with hp | hp
      · exact hR1 p hp
      · exact hR' p hp
    · intro t ht
      rcases List.mem_append.mp ht with ht | ht
      · exact hts t ht
      · rw [List.mem_singleton.mp ht]; exact htok
  intro D ys h' tk' Hd kD C hlen' hHd hD hC hDC ⟨mC, hNC⟩ hk' ⟨F', R, i', tk2', n', hi0, N', hR', ts, htl, hts, hys⟩
  obtain ⟨oC, esC, epC, eC1, eC2, eC3⟩ := hNC
  have N₃ := news_done F (news_done F (News.grown N' hide_ext) (hHd C hC) eC1) (hHd D hD) hk'
  have F₃ := F'.keeps hide_ext
  have cC1 : @Ne Nat (s₁.heap.objs.size + 1) C := fun q => by
    have := (N (s₁.heap.objs.size + 1, oc2) (by k_mem)).1
    rw [show s₁.heap.objs.size + 1 = C from q, hHd C hC] at this; cases this
  have cP1 : @Ne Nat 1695 C := fun q => by
    have := (N (1695, tabObj #[]) (by k_mem)).1
    rw [show (1695 : Addr) = C from q, hHd C hC] at this; cases this
  have cR : ∀ p ∈ R, p.1 ≠ C := fun p hp q => by
    have := (N' p (List.mem_cons_of_mem _ (List.mem_cons_of_mem _ (List.mem_append_right _ hp)))).1
    rw [q, hideAll_none _ hC] at this; cases this
  have N₄ := News.sub (news' := (D, W.listOf ys.toArray kD) :: (C, oC) :: (s₁.heap.objs.size + 1, oc2) :: (1695, tabObj #[]) :: R) N₃ (by
    intro p hp
    rcases List.mem_cons.mp hp with rfl | hp
    · exact .head _
    rcases List.mem_cons.mp hp with rfl | hp
    · exact .tail _ (.head _)
    rcases List.mem_cons.mp hp with rfl | hp
    · exact .tail _ (.tail _ (.head _))
    rcases List.mem_cons.mp hp with rfl | hp
    · exact .tail _ (.tail _ (.tail _ (.head _)))
    · exact .tail _ (.tail _ (.tail _ (.tail _ (List.mem_append_right _ hp)))))
  have dP : @Ne Nat D 1695 := ne_of (hHd D hD) (N (1695, tabObj #[]) (by k_mem)).1
  clear F N N₃ N'
  refine hideQ fun K hq => ?_
  k_steps
  all_goals (try k_data)
  refine hq _ _ ?_
  rename Fr _ _ _ _ => F
  rename News _ _ _ _ => N
  refine ⟨mC, ⟨oC, esC, epC, (N (C, oC) (by k_mem)).1, eC2, eC3⟩, fun h5 hsb => ?_⟩
  have hCb : base.get? C = none := (N (C, oC) (by k_mem)).2.2
  have hCL : C ≠ s₁.heap.objs.size := (N (C, oC) (by k_mem)).2.1
  have F5 : Fr base s₁.heap.objs.size h5 _ := ⟨F.ns.sameBut hsb (Ne.symm hCL), fun b o e => (hsb.2 b (fun q => by rw [q, hCb] at e; cases e)).trans (F.keep b o e), F.above⟩
  have N5 : News base s₁.heap.objs.size h5 ((D, W.listOf ys.toArray kD) :: (s₁.heap.objs.size + 1, oc2) :: (1695, tabObj #[]) :: R) := by
    intro p hp
    have key : p.1 ≠ C → p ∈ (D, W.listOf ys.toArray kD) :: (C, oC) :: (s₁.heap.objs.size + 1, oc2) :: (1695, tabObj #[]) :: R → h5.get? p.1 = some p.2 ∧ p.1 ≠ s₁.heap.objs.size ∧ base.get? p.1 = none := fun n hp => ⟨(hsb.2 _ n).trans (N p hp).1, (N p hp).2⟩
    rcases List.mem_cons.mp hp with rfl | hp
    · exact key hDC (.head _)
    rcases List.mem_cons.mp hp with rfl | hp
    · exact key cC1 (by k_mem)
    rcases List.mem_cons.mp hp with rfl | hp
    · exact key cP1 (by k_mem)
    · exact key (cR p hp) (.tail _ (.tail _ (.tail _ (.tail _ hp))))
  clear F N hsb
  obtain ⟨m₂, F, f1, f2⟩ : ∃ m₂, Fr base s₁.heap.objs.size h5 m₂ ∧ m₂ (Str.ofString "first") = some (.int r tokr) ∧ m₂ (Str.ofString "tree") = some (.ref D) := ⟨_, F5, e1, rfl⟩
  clear F5
  have htok := node_ok (k := 3) (ks := ts) (by omega) hts (by omega)
  have hin : TIn (inR ((D, W.listOf ys.toArray kD) :: R)) (.node ts) (.ref D) := by
    simp only [TIn]
    exact ⟨D, ys, kD, rfl, .head _, TsIn.mono (fun a o h => List.mem_cons_of_mem _ h) _ _ hys⟩
  show wpAny (model prog w) _ _ _ _ _
  k_steps
  all_goals (try k_data)
  have ha0 : 0 ≤ (r.fdiv 4).fmod 3 := Int.fmod_nonneg_of_pos _ (by decide)
  have ha3 : (r.fdiv 4).fmod 3 < 3 := Int.fmod_lt_of_pos _ (by decide)
  have hb0 : 0 ≤ (r.fdiv 5).fmod 3 := Int.fmod_nonneg_of_pos _ (by decide)
  have hb3 : (r.fdiv 5).fmod 3 < 3 := Int.fmod_lt_of_pos _ (by decide)
  refine bytes_mul_any (b := [((r.fdiv 12).fmod 256).toNat.toUInt8]) (by simp) (by omega) (by omega) (by simp) ?_
  obtain ⟨front, hfront, hfs⟩ : ∃ b : Array UInt8, b = ((List.replicate ((r.fdiv 4).fmod 3).toNat [((r.fdiv 12).fmod 256).toNat.toUInt8]).flatten).toArray ∧ b.size ≤ 196 := ⟨_, rfl, flat_size ha0 (by omega)⟩
  rw [← hfront]
  clear hfront
  intro tq kq
  k_steps
  all_goals (try k_data)
  have hbk : (((List.replicate ((r.fdiv 5).fmod 3).toNat [((r.fdiv 16).fmod 256).toNat.toUInt8]).flatten).toArray).size ≤ 196 := flat_size hb0 (by omega)
  show wpAny (model prog w) _ _ _ _ _
  rename Fr _ _ _ _ => F
  rename News _ _ _ _ => N
  have N := News.sub (news' := (D, W.listOf ys.toArray kD) :: (s₁.heap.objs.size + 1, oc2) :: (1695, tabObj #[]) :: R) N (by
    intro p hp
    rcases List.mem_cons.mp hp with rfl | hp
    · k_mem
    rcases List.mem_cons.mp hp with rfl | hp
    · k_mem
    rcases List.mem_cons.mp hp with rfl | hp
    · k_mem
    · repeat (first | exact hp | refine List.mem_cons_of_mem _ ?_))
  have hok : (T.node ts).ok := htok.1
  have hdep : (T.node ts).dep ≤ 5 := htok.2.1
  have henc : (T.node ts).enc.length < 65536 := Nat.lt_of_le_of_lt htok.2.2 (by decide)
  have hPs := N (1695, tabObj #[]) (by k_mem)
  have kc : ∀ o, (1699 : Addr) ≠ 1695 → s₁.heap.get? 1699 = some o → Heap.get? _ 1699 = some o := fun o n e => F.keep _ _ (hbs _ _ (by simp) e)
  have kp : ∀ o, s₁.heap.get? 1695 = some o → Heap.get? _ 1695 = some o := fun o e => by rw [hP] at e; cases e; exact hPs.1
  refine encode_top2 ts hok henc w _ _ (.ref D) _ _ 1695 (tabObj #[]) ((roomL F (News.sub N (fun p hp => by rw [List.mem_singleton.mp hp]; k_mem)) B' X' T' (by rfl) (by rfl)).le (by omega)) (isCode_at hcP kc kp) (tableAt_at htP (isCode_ne hcP) kc kp)
    (TIn.mono (fun a o h => (N (a, o) (by rcases List.mem_cons.mp h with q | q; (rw [q]; exact .head _); exact .tail _ (.tail _ (.tail _ q)))).1) _ _ hin) ?_
  intro h7 tk7 gs tok b hE7 ⟨more, hM7⟩ hX7 hb
  have F₇ := Fr.but F N hE7 (fun a' ha' => ⟨tabObj #[], by rw [List.mem_singleton.mp ha']; k_mem⟩)
  have cP : @Ne Nat (s₁.heap.objs.size + 1) 1695 := fun q => by
    have := (N (s₁.heap.objs.size + 1, oc2) (by k_mem)).1
    rw [show s₁.heap.objs.size + 1 = (1695 : Addr) from q, hPs.1] at this
    cases this
    cases hoc2
  have N₇ : News base _ h7 ((D, W.listOf ys.toArray kD) :: (s₁.heap.objs.size + 1, oc2) :: (1695, tabObj more) :: R) := News.but F N hE7 (by
    intro p hp
    rcases List.mem_cons.mp hp with rfl | hp
    · exact .inl ⟨.head _, fun hm => dP (List.mem_singleton.mp hm)⟩
    rcases List.mem_cons.mp hp with rfl | hp
    · exact .inl ⟨by k_mem, fun hm => cP (List.mem_singleton.mp hm)⟩
    rcases List.mem_cons.mp hp with rfl | hp
    · exact .inr (.inl ⟨⟨_, by k_mem⟩, hM7⟩)
    · exact .inl ⟨.tail _ (.tail _ (.tail _ hp)), fun hm => (hR' p hp).2.2 (List.mem_singleton.mp hm)⟩)
  clear F N hPs kc kp
  have hbl : b.size = (T.node ts).enc.length := by rw [← hb, Array.length_toList]
  have hbs2 := (size_enc (.node ts) henc).1
  k_steps
  all_goals (try k_data)
  show wpAny (model prog w) _ _ _ _ _
  rename Fr _ _ _ _ => F
  rename News _ _ _ _ => N
  have hin' : TIn (inR ((D, W.listOf ys.toArray kD) :: (s₁.heap.objs.size + 1, oc2) :: (1695, tabObj more) :: R)) (.node ts) (.ref D) := TIn.mono (fun a o h => by
    show (a, o) ∈ _
    rcases List.mem_cons.mp h with q | q
    · rw [q]; exact .head _
    · exact .tail _ (.tail _ (.tail _ q))) _ _ hin
  refine size_spec (.node ts) hok w _ _ (.ref D) _ _ ((roomL F N B' X' T' (by rfl) (by rfl)).room.le (by omega)) (TIn.mono (fun a o h => (N (a, o) h).1) _ _ hin') ?_
  intro h8 tk8 tok8 hE8
  have F₈ := F.keeps hE8
  have N₈ := News.grown N hE8
  clear F N
  have hcmp : ((b.size : Nat) : Int) = (((T.node ts).size : Nat) : Int) := by omega
  k_steps
  all_goals (try k_data)
  all_goals (try (exfalso; omega))
  show wpAny (model prog w) _ _ _ _ _
  rename Fr _ _ _ _ => F
  rename News _ _ _ _ => N
  refine plc_spec _ (.node ts) (Nat.le_refl _) hok henc w _ _ (.ref D) front.size _ _ _ ((roomL F N B' X' T' (by rfl) (by rfl)).room.le (by omega)) (inR ((D, W.listOf ys.toArray kD) :: (s₁.heap.objs.size + 1, oc2) :: (1695, tabObj more) :: R)) (fun a o h => (N (a, o) h).1) hin' ?_
  intro h9 tk9 aT tv u1 u2 u3 lk hE9 hfT hpl
  have F₉ := F.keeps hE9
  have hpl' : PlIn (vw h9) (.node ts) front.size (.ref aT) := PlIn.mono (fun a o h => h.elim (fun q => hE9 _ _ (N (a, o) q).1) (fun q => q.2)) _ _ _ hpl
  have N₉ : News base s₁.heap.objs.size h9 [(1695, tabObj more)] := fun p hp => by rw [List.mem_singleton.mp hp]; exact ⟨hE9 _ _ (N (1695, tabObj more) (by k_mem)).1, (N (1695, tabObj more) (by k_mem)).2⟩
  clear F N
  k_steps
  all_goals (try k_data)
  show wpAny (model prog w) _ _ _ _ _
  rename Fr _ _ _ _ => F
  refine lh_spec (.node ts) hok henc w _ _ _ front.size (((List.replicate ((r.fdiv 5).fmod 3).toNat [((r.fdiv 16).fmod 256).toNat.toUInt8]).flatten)) (.ref aT) _ _ _ ((roomLS F News.nil B' X' T' (by rfl) (by rfl)).le (by omega)) ?_ ?_ hpl' ?_
  · simp only [Array.size_append]; omega
  · rw [Array.toList_append, Array.toList_append, List.append_assoc, ← Array.length_toList, List.drop_left, hb]
  rename News _ _ _ _ => N
  have hP9 := (N (1695, tabObj more) (by k_mem)).1
  have nL : ∀ b o, base.get? b = some o → b ≠ s₁.heap.objs.size := fun b o e q => by
    have := kts_self F
    rw [← q, e] at this; cases this
  have nLP : (1695 : Addr) ≠ s₁.heap.objs.size := (N (1695, tabObj more) (by k_mem)).2.1
  intro h10 tk10 hE10
  have hk : ∀ b o, b ≠ s₁.heap.objs.size → Heap.get? _ b = some o → h10.get? b = some o := fun b o n e => (hE10 b o (by simp) e).1 fun q => n ((mem_frA rfl rfl q).elim id fun q => nomatch q)
  have hP10 := hk 1695 _ nLP hP9
  have hold : ∀ b o, s₁.heap.get? b = some o → b ≠ 1695 → h10.get? b = some o := fun b o e n => by
    have hbb := hbs b o (by simpa using n) e
    exact hk b o (nL b o hbb) (F.keep _ _ hbb)
  k_steps
  all_goals (try k_data)
  refine ⟨.inl ⟨.bool true, .bool true, [], rfl, raisesW_false (by wrow_none_raised), .bool true, (by kernel_rfl), fun _ => ⟨List.nodup_nil, fun _ h => nomatch h⟩⟩, ⟨fun b o e => ?_, fun b o e => ?_⟩, rfl, GX.bare hX7 (by rw [hg]; intro y hy; simp at hy)⟩
  · by_cases hb5 : b = 1695
    · subst hb5
      rw [hP] at e
      cases e
      exact .inr (.inl ⟨htP.isCodeTable, rfl, #[], more, rfl, by rw [Array.empty_append]; exact hP10⟩)
    · exact .inl (hold b o e hb5)
  · by_cases hb5 : b = 1695
    · exact ⟨_, hb5 ▸ hP10⟩
    · exact ⟨_, hold b o e hb5⟩)
end Mine
end
theorem PySem.Challenge.cw_ff0025_01_holds : PySem.Challenge.rw_ff0025_01.Holds :=
  Mine.law_test
