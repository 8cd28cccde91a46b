import PyProof.Rows.All
import Wide.All
import OpenK.AllK
import Wide.FinOn
import Open.Tops
import Lean
import PySem.Challenge.RW_re0166_01
set_option maxRecDepth 100000
set_option Elab.async false
set_option cleanup.letToHave false
set_option compiler.extract_closed false
namespace Mine
local macro_rules | `(tactic| ktr_rel) => `(tactic| k_extra "m:ktr_rel")
local macro_rules | `(tactic| walk_at "call ref") => `(tactic| k_extra "m:call ref")
local macro_rules | `(tactic| walk_at "call builtin:max") => `(tactic| k_extra "m:call builtin:max")
local macro_rules | `(tactic| walk_at "call builtin:min") => `(tactic| k_extra "m:call builtin:min")
local macro_rules | `(tactic| walk_at "call builtin:ord") => `(tactic| k_extra "m:call builtin:ord")
local macro_rules | `(tactic| walk_at "compareOp In int ref") => `(tactic| k_extra "m:compareOp In int ref")
local macro_rules | `(tactic| walk_at "getMethod ref") => `(tactic| k_extra "m:getMethod ref")
local macro_rules | `(tactic| walk_at "call builtin:dict.get") => `(tactic| k_extra "m:call builtin:dict.get")
local macro_rules | `(tactic| walk_at "call builtin:str.lower") => `(tactic| k_extra "m:call builtin:str.lower")
local macro_rules | `(tactic| kst_facts) => `(tactic| k_extra "m:kst_facts")
local macro_rules | `(tactic| walk_at "call builtin:chr") => `(tactic| k_extra "m:call builtin:chr")
local macro_rules | `(tactic| walk_at "call builtin:str.join") => `(tactic| k_extra "m:call builtin:str.join")
local macro_rules | `(tactic| walk_at "subscriptTail") => `(tactic| k_extra "m:subscriptTail")
local macro_rules | `(tactic| walk_at "binaryOp Mult ref int") => `(tactic| k_extra "m:binaryOp Mult ref int")
local macro_rules | `(tactic| walk_at "inplaceOp Add str str") => `(tactic| k_extra "m:inplaceOp Add str str")
local macro_rules | `(tactic| walk_at "InvEndN") => `(tactic| k_extra "m:InvEndN")
local macro_rules | `(tactic| kst_allIn) => `(tactic| k_extra "m:kst_allIn")
local macro_rules | `(tactic| walk_at "pyIter ref") => `(tactic| k_extra "m:pyIter ref")
local macro_rules | `(tactic| walk_at "setItem ref int") => `(tactic| k_extra "m:setItem ref int")
local macro_rules | `(tactic| walk_at "call builtin:len") => `(tactic| k_extra "m:call builtin:len")
local macro_rules | `(tactic| walk_at "subscriptTail Name Slice str ref") => `(tactic| k_extra "m:subscriptTail Name Slice str ref")
local macro_rules | `(tactic| walk_at "subscriptTail Name Name str int") => `(tactic| k_extra "m:subscriptTail Name Name str int")
local macro_rules | `(tactic| walk_at "subscriptTail Name Constant str int") => `(tactic| k_extra "m:subscriptTail Name Constant str int")
local macro_rules | `(tactic| walk_at "compareOp NotIn str ref") => `(tactic| k_extra "m:compareOp NotIn str ref")
local macro_rules | `(tactic| walk_at "call builtin:list.extend") => `(tactic| k_extra "m:call builtin:list.extend")
local macro_rules | `(tactic| walk_at "exec While Compare cons nil") => `(tactic| k_extra "m:exec While Compare cons nil")
local macro_rules | `(tactic| walk_at "exec For Name Call cons nil") => `(tactic| k_extra "m:exec For Name Call cons nil")
local macro_rules | `(tactic| walk_at "UnrEnd") => `(tactic| k_extra "m:UnrEnd")
local macro_rules | `(tactic| walk_at "subscriptTail Name Name ref int") => `(tactic| k_extra "m:subscriptTail Name Name ref int")
local macro_rules | `(tactic| walk_at "subscriptTail Name Slice ref ref") => `(tactic| k_extra "m:subscriptTail Name Slice ref ref")
local macro_rules | `(tactic| walk_at "eval ListComp") => `(tactic| k_extra "m:eval ListComp")
local macro_rules | `(tactic| walk_at "CompSrcT") => `(tactic| k_extra "m:CompSrcT")
local macro_rules | `(tactic| walk_at "binaryOp Mult int int") => `(tactic| k_extra "m:binaryOp Mult int int")
local macro_rules | `(tactic| walk_at "compareOp Eq ref ref") => `(tactic| k_extra "m:compareOp Eq ref ref")
local macro_rules | `(tactic| walk_at "CompEnd") => `(tactic| k_extra "m:CompEnd")
local macro_rules | `(tactic| walk_at "KCiEl") => `(tactic| k_extra "m:KCiEl")
local macro_rules | `(tactic| walk_at "KCiNo") => `(tactic| k_extra "m:KCiNo")
local macro_rules | `(tactic| walk_at "KPfGrows") => `(tactic| k_extra "m:KPfGrows")
local macro_rules | `(tactic| walk_at "binaryOp Add ref ref") => `(tactic| k_extra "m:binaryOp Add ref ref")
local macro_rules | `(tactic| k_all) => `(tactic| k_extra "m:k_all")
-- Squ
section
namespace Sq
/-- a state with another heap and other tokens -/
def st (s : PySem.Shared) (h : PySem.Heap) (n : Nat) : PySem.Shared := { s with heap := h, toks := n }
def s1 (n : Nat) : Nat := n + 1
def upd (a b : PySem.Str) (v : PySem.Value) (r : Option PySem.Value) : Option PySem.Value := if a = b then some v else r
def put (b : PySem.Str) (v : PySem.Value) (m : PySem.Str → Option PySem.Value) : PySem.Str → Option PySem.Value := fun a => upd a b v (m a)
end Sq
/-- a text by its numbers -/
theorem strE (ns : List Nat) (h : ns.all (fun n => Nat.isValidChar n) = true) : PySem.Str.ofString (String.ofList (ns.map Char.ofNat)) = PySem.Str.mk (Array.mk ns) := by
  rw [PySem.W.Fast.ofString_ofList]
  congr 1
  show ((ns.map Char.ofNat).map Char.toNat).toArray = ns.toArray
  congr 1
  rw [List.map_map]
  conv => rhs; rw [← List.map_id ns]
  apply List.map_congr_left
  intro n hn
  have hv : n.isValidChar := by simpa using List.all_eq_true.mp h n hn
  simp [Char.ofNat, hv, Char.toNat, Char.ofNatAux]
open Lean Meta Elab Tactic
/-- lays the squeezer where `mark` and `squeeze` find it: a proof is said again in which what stands at several depths stands once; and of the constants that the proof made on its way only those stay on which it leans -/
theorem squLaid : True := by
  run_tac (do
    let strip (e0 : Expr) (lams foralls : Bool) : Expr := Id.run do
      let mut e := e0
      for _ in [0:1000000] do
        match e with
        | .lam _ _ b _ => if lams then e := b else break
        | .forallE _ _ b _ => if foralls then e := b else break
        | .letE _ _ _ b _ => if lams then e := b else break
        | .mdata _ b => e := b
        | _ => break
      return e
    let endsInProp (e : Expr) : Bool := match strip e false true with | .sort l => l.isZero | _ => false
    let squeezed (e0 : Expr) : MetaM Expr := do
      let le ← getEnv
      let known : IO.Ref (Std.HashSet Expr) ← IO.mkRef {}
      let keep (r : Expr) : MetaM Expr := do
        match (← known.get).get? r with
        | some r' => return r'
        | none => known.modify (·.insert r); return r
      -- writing short
      let ruleOf (e : Expr) : Option Expr :=
        let h := e.getAppFn
        let as := e.getAppArgs
        match h with
        | .const c _ =>
          if as.size == 1 then
            let i := if c == ``PySem.Shared.heap then 0 else if c == ``PySem.Shared.gens then 1 else if c == ``PySem.Shared.drawn then 2 else if c == ``PySem.Shared.toks then 3 else if c == ``PySem.Shared.os then 4 else 5
            if i == 5 then none else
            let x := as[0]!
            if x.isAppOfArity ``Mine.Sq.st 3 then (if i == 0 then some x.appFn!.appArg! else if i == 3 then some x.appArg! else some (.app (.const c []) x.appFn!.appFn!.appArg!))
            else if x.isAppOfArity ``PySem.Shared.mk 5 then some x.getAppArgs[i]! else none
          else if as.size == 3 && (c == ``Prod.fst || c == ``Prod.snd) then
            let x := as[2]!
            if x.isAppOfArity ``Prod.mk 4 then some (if c == ``Prod.fst then x.appFn!.appArg! else x.appArg!) else none
          else if as.size == 5 && c == ``PySem.Shared.mk then
            if as[1]!.isAppOfArity ``PySem.Shared.gens 1 && as[2]!.isAppOfArity ``PySem.Shared.drawn 1 && as[4]!.isAppOfArity ``PySem.Shared.os 1 then
              let b := as[1]!.appArg!
              if as[2]!.appArg! == b && as[4]!.appArg! == b then some (mkApp3 (.const ``Mine.Sq.st []) b as[0]! as[3]!) else none
            else none
          else if as.size == 6 && c == ``HAdd.hAdd && as[0]!.isConstOf ``Nat && as[2]!.isConstOf ``Nat then
            if as[5]!.nat? == some 1 then some (.app (.const ``Mine.Sq.s1 []) as[4]!) else none
          else if as.size == 5 && c == ``ite then
            if as[1]!.isAppOfArity ``Eq 3 && as[2]!.isAppOfArity ``PySem.instDecidableEqStr 2 && as[3]!.isAppOfArity ``Option.some 2 then
              let (a, b) := (as[1]!.appFn!.appArg!, as[1]!.appArg!)
              if as[2]!.appFn!.appArg! == a && as[2]!.appArg! == b && as[3]!.appFn!.appArg!.isConstOf ``PySem.Value then some (mkApp4 (.const ``Mine.Sq.upd []) a b as[3]!.appArg! as[4]!) else none
            else none
          else none
        | _ => none
      let putK : IO.Ref (Name → Expr → BinderInfo → Expr → MetaM Expr) ← IO.mkRef fun _ _ _ b => pure b
      putK.set fun nm t bi b => do
        if b.isAppOfArity ``Mine.Sq.upd 4 && b.appFn!.appFn!.appFn!.appArg! == .bvar 0 then
          let x := b.appFn!.appFn!.appArg!
          let v := b.appFn!.appArg!
          if x.hasLooseBVar 0 || v.hasLooseBVar 0 then keep (.lam nm t b bi) else
            let m ← (← putK.get) nm t bi b.appArg!
            let p ← keep (.app (.const ``Mine.Sq.put []) (x.lowerLooseBVars 1 1))
            let p ← keep (.app p (v.lowerLooseBVars 1 1))
            keep (.app p m)
        else match b with
          | .app m (.bvar 0) => if m.hasLooseBVar 0 then keep (.lam nm t b bi) else return m.lowerLooseBVars 1 1
          | _ => keep (.lam nm t b bi)
      let memoS : IO.Ref (Std.HashMap Expr Expr) ← IO.mkRef {}
      let shortK : IO.Ref (Expr → MetaM Expr) ← IO.mkRef pure
      let short (e : Expr) : MetaM Expr := do (← shortK.get) e
      shortK.set fun e => do
        match e with
        | .app .. | .lam .. | .forallE .. | .letE .. | .mdata .. | .proj .. =>
          match (← memoS.get).get? e with
          | some r => return r
          | none =>
            let r ← match e with
              | .app f a => do
                let x := Expr.app (← short f) (← short a)
                pure ((ruleOf x).getD x)
              | .lam nm t b bi => do
                let t ← short t
                let b ← short b
                if t.isConstOf ``PySem.Str then (← putK.get) nm t bi b else pure (.lam nm t b bi)
              | .forallE nm t b bi => pure (.forallE nm (← short t) (← short b) bi)
              | .letE nm t v b nd => pure (.letE nm (← short t) (← short v) (← short b) nd)
              | .mdata _ b => short b
              | .proj s i b => pure (.proj s i (← short b))
              | e => pure e
            let r ← keep r
            memoS.modify (·.insert e r)
            return r
        | _ => return e
      let e1 ← short (ShareCommon.shareCommon' e0)
      -- what is a proof
      let heads : IO.Ref (Std.HashMap Name (Nat × Nat)) ← IO.mkRef {}
      let headOf (c : Name) : MetaM (Nat × Nat) := do
        match (← heads.get).get? c with
        | some r => return r
        | none =>
          let r := match le.find? c with
            | some ci =>
              let k := ci.type.getForallBinderNames.length
              match (strip ci.type false true).getAppFn with
              | .sort l => (if l.isZero then 0 else 3, 0)
              | .const d _ => ((match le.find? d with | some di => if endsInProp di.type then 1 else 3 | none => 3), 0)
              | .bvar i => if i < k then (2, k - 1 - i) else (3, 0)
              | _ => (3, 0)
            | none => (3, 0)
          heads.modify (·.insert c r)
          return r
      let isProp (e : Expr) : MetaM Bool := do
        let b := strip e true true
        match b.getAppFn with
        | .const c _ => do
          let (tag, i) ← headOf c
          if tag == 0 then return true
          if tag == 2 then match b.getAppArgs[i]? with
            | some m => return (match strip m true true with | .sort l => l.isZero | _ => false)
            | none => return false
          return false
        | _ => return false
      let isPf (e : Expr) : MetaM Bool := do
        let mut b := strip e true false
        for _ in [0:100] do
          match b.getAppFn with
          | .lam nm t b' bi => b := strip (.lam nm t b' bi) true false
          | .mdata _ f => b := strip f true false
          | _ => break
        match b.getAppFn with
        | .const c _ => do
          let (tag, i) ← headOf c
          if tag == 1 then return true
          if tag == 2 then match b.getAppArgs[i]? with | some m => isProp m | none => return false
          else return false
        | _ => return false
      -- opening
      let lctx : IO.Ref LocalContext ← IO.mkRef (← getLCtx)
      let num : IO.Ref Nat ← IO.mkRef 1
      let idx : IO.Ref (Std.HashMap FVarId Nat) ← IO.mkRef {}
      let opened (n : Name) (ty : Expr) (v : Option Expr) : MetaM Expr := do
        let x ← mkFreshFVarId
        lctx.modify fun l => match v with | some v => l.mkLetDecl x n ty v | none => l.mkLocalDecl x n ty
        let k ← num.get
        idx.modify (·.insert x k)
        num.set (k + 1)
        return .fvar x
      let memoI : IO.Ref (Std.HashMap (Expr × Nat × Nat) Expr) ← IO.mkRef {}
      let instK : IO.Ref (Nat → Array Expr → Expr → Nat → MetaM Expr) ← IO.mkRef fun _ _ e _ => pure e
      let inst (ci : Nat) (env : Array Expr) (e : Expr) (k : Nat) : MetaM Expr := do (← instK.get) ci env e k
      instK.set fun ci env e k => do
        if e.looseBVarRange ≤ k then return e
        match e with
        | .bvar i => return env[env.size - 1 - (i - k)]!
        | _ =>
          match (← memoI.get).get? (e, ci, k) with
          | some r => return r
          | none =>
            let r ← match e with
              | .app f a => pure (.app (← inst ci env f k) (← inst ci env a k))
              | .lam nm t b bi => pure (.lam nm (← inst ci env t k) (← inst ci env b (k + 1)) bi)
              | .forallE nm t b bi => pure (.forallE nm (← inst ci env t k) (← inst ci env b (k + 1)) bi)
              | .letE nm t v b nd => pure (.letE nm (← inst ci env t k) (← inst ci env v k) (← inst ci env b (k + 1)) nd)
              | .mdata _ b => inst ci env b k
              | .proj s i b => pure (.proj s i (← inst ci env b k))
              | e => pure e
            let r ← keep r
            memoI.modify (·.insert (e, ci, k) r)
            return r
      -- counting
      let seen : IO.Ref (Std.HashSet (Expr × Nat)) ← IO.mkRef {}
      let cnt : IO.Ref (Std.HashMap Expr (Nat × Nat)) ← IO.mkRef {}
      let order : IO.Ref (Array Expr) ← IO.mkRef #[]
      let visitK : IO.Ref (Expr → Nat → MetaM Unit) ← IO.mkRef fun _ _ => pure ()
      let visit (e : Expr) (d : Nat) : MetaM Unit := do (← visitK.get) e d
      visitK.set fun e d => do
        if e.hasFVar && !e.isFVar then
          let kids : MetaM Unit := match e with
            | .app .. => do
              visit e.getAppFn d
              for a in e.getAppArgs do visit a d
            | .lam _ t b _ => do visit t d; visit b (d + 1)
            | .forallE _ t b _ => do visit t d; visit b (d + 1)
            | .letE _ t v b _ => do visit t d; visit v d; visit b (d + 1)
            | .proj _ _ b => visit b d
            | .mdata _ b => visit b d
            | _ => pure ()
          if e.hasLooseBVars then
            unless (← seen.get).contains (e, d) do
              seen.modify (·.insert (e, d))
              kids
          else match (← cnt.get).get? e with
            | some (k, d') => if d' != d then cnt.modify (·.insert e (k + 1, d))
            | none =>
              cnt.modify (·.insert e (1, d))
              kids
              order.modify (·.push e)
      -- saying it again
      let at_ : IO.Ref (Std.HashMap FVarId Nat) ← IO.mkRef {}
      let letAt : IO.Ref (Std.HashMap Expr Nat) ← IO.mkRef {}
      let memoC : IO.Ref (Std.HashMap (Expr × Nat) Expr) ← IO.mkRef {}
      let convK : IO.Ref (Expr → Nat → Bool → MetaM Expr) ← IO.mkRef fun e _ _ => pure e
      let conv (e : Expr) (d : Nat) (top : Bool) : MetaM Expr := do (← convK.get) e d top
      convK.set fun e d top => do
        unless e.hasFVar do return e
        match e with
        | .fvar x => match (← at_.get).get? x with
          | some l => return .bvar (d - 1 - l)
          | none => return e
        | _ =>
          let l? ← if top then pure none else do pure ((← letAt.get).get? e)
          match l? with
          | some l => return .bvar (d - 1 - l)
          | none =>
          match (← memoC.get).get? (e, d) with
          | some r => return r
          | none =>
            let r ← match e with
              | .app f a => pure (.app (← conv f d true) (← conv a d false))
              | .lam nm t b bi => pure (.lam nm (← conv t d false) (← conv b (d + 1) false) bi)
              | .forallE nm t b bi => pure (.forallE nm (← conv t d false) (← conv b (d + 1) false) bi)
              | .letE nm t v b nd => pure (.letE nm (← conv t d false) (← conv v d false) (← conv b (d + 1) false) nd)
              | .mdata _ b => conv b d false
              | .proj s i b => pure (.proj s i (← conv b d false))
              | e => pure e
            unless top do memoC.modify (·.insert (e, d) r)
            return r
      let lets : IO.Ref (Std.HashMap Nat (List Expr)) ← IO.mkRef {}
      let withLets (x : Nat) (d : Nat) (k : Nat → MetaM Expr) : MetaM Expr := do
        let mut d := d
        let mut out := #[]
        for t in (← lets.get).getD x [] do
          let ty ← withLCtx (← lctx.get) #[] (do return (← instantiateMVars (← inferType t)).headBeta)
          out := out.push (← conv ty d false, ← conv t d true)
          letAt.modify (·.insert t d)
          d := d + 1
        let b ← k d
        return out.foldr (fun (t, v) b => .letE `y t v b false) b
      let buildK : IO.Ref (Expr → Array Expr → Nat → MetaM ((Nat → MetaM Unit) × (Nat → MetaM Expr))) ← IO.mkRef fun _ _ _ => throwError "squeeze"
      let build (e : Expr) (env : Array Expr) (ci : Nat) : MetaM ((Nat → MetaM Unit) × (Nat → MetaM Expr)) := do (← buildK.get) e env ci
      let data (e : Expr) : (Nat → MetaM Unit) × (Nat → MetaM Expr) := (fun d => visit e d, fun d => conv e d false)
      buildK.set fun e env ci => match e with
        | .mdata _ b => build b env ci
        | .lam nm t b bi => do
          let ty ← inst ci env t 0
          let ci' ← num.get
          let x ← opened nm ty none
          let (v, c) ← build b (env.push x) ci'
          return (fun d => do visit ty d; v (d + 1), fun d => do
            let tE ← conv ty d false
            at_.modify (·.insert x.fvarId! d)
            return .lam nm tE (← withLets ci' (d + 1) c) bi)
        | .letE nm t w b nd => do
          let ty ← inst ci env t 0
          let ww ← inst ci env w 0
          let (vw, cw) ← if ← isPf w then build w env ci else pure (data ww)
          let ci' ← num.get
          let x ← opened nm ty (some ww)
          let (v, c) ← build b (env.push x) ci'
          return (fun d => do visit ty d; vw d; v (d + 1), fun d => do
            let tE ← conv ty d false
            let wE ← cw d
            at_.modify (·.insert x.fvarId! d)
            return .letE nm tE wE (← withLets ci' (d + 1) c) nd)
        | .app .. => do
          let f := e.getAppFn
          let f' ← match f with
            | .lam .. => build f env ci
            | .mdata .. => build f env ci
            | _ => do pure (data (← inst ci env f 0))
          let args ← e.getAppArgs.mapM fun a => do if ← isPf a then build a env ci else pure (data (← inst ci env a 0))
          return (fun d => do f'.1 d; for a in args do a.1 d, fun d => do
            let mut r ← f'.2 d
            for a in args do r := .app r (← a.2 d)
            return r)
        | _ => do return data (← inst ci env e 0)
      let (v, c) ← build e1 #[] 0
      v 0
      -- which are said once: by the latest variable they lean on
      let memoD : IO.Ref (Std.HashMap Expr Nat) ← IO.mkRef {}
      let deepK : IO.Ref (Expr → MetaM Nat) ← IO.mkRef fun _ => pure 0
      let deep (e : Expr) : MetaM Nat := do (← deepK.get) e
      deepK.set fun e => do
        unless e.hasFVar do return 0
        match e with
        | .fvar x => return (← idx.get).getD x 0
        | _ =>
          match (← memoD.get).get? e with
          | some k => return k
          | none =>
            let k ← match e with
              | .app f a => pure (max (← deep f) (← deep a))
              | .lam _ t b _ => pure (max (← deep t) (← deep b))
              | .forallE _ t b _ => pure (max (← deep t) (← deep b))
              | .letE _ t w b _ => pure (max (max (← deep t) (← deep w)) (← deep b))
              | .mdata _ b => deep b
              | .proj _ _ b => deep b
              | _ => pure 0
            memoD.modify (·.insert e k)
            return k
      let cs ← cnt.get
      for t in (← order.get).toList.reverse do
        let (k, _) := cs.getD t (0, 0)
        let w := match t with | .app .. => t.getAppNumArgs | .lam .. => 2 | .forallE .. => 2 | .letE .. => 3 | _ => 1
        if k ≥ 2 && (w ≥ 2 || k ≥ 4) then
          let i ← deep t
          lets.modify fun m => m.insert i (t :: m.getD i [])
      withLets 0 0 c
    let partsQ (e : Lean.Expr) : MetaM (Array (Lean.Expr × Lean.Expr × Lean.Expr)) := do
      let ds ← PySem.W.Fast.twinsIn e
      let mine : Std.HashSet Lean.Expr := ds.foldl (fun s d => if d.1.isConst then s.insert d.1 else s) {}
      ds.filterM fun (x, _, _) => do return ((PySem.W.Fast.bareType (← inferType x)).find? fun y => mine.contains y || y.isConstOf `PySem.W.Frag).isNone
    let linK : IO.Ref (Name → MetaM Unit) ← IO.mkRef fun _ => pure ()
    let lin (c : Name) : MetaM Unit := do (← linK.get) c
    linK.set fun c => do
        if ((← PySem.W.Fast.primed.get).get? c).isSome then return
        unless ((← getEnv).getModuleIdxFor? c).isNone || (`PySem.Challenge).isPrefixOf c do return
        let (n, e) ← PySem.W.Fast.stemIn c true
        if (← getEnv).contains e then return
        let some (.defnInfo d) := (← getEnv).find? c | return
        unless d.levelParams.isEmpty do return
        for x in PySem.W.Fast.constsOf d.value do if x.isConst then lin x.constName!
        let ds ← partsQ d.value
        if ds.isEmpty then return
        let env ← getEnv
        try
          let tys ← ds.mapM fun (x, _, _) => inferType x
          let at_ : Std.HashMap Lean.Expr Nat := (ds.zipIdx.foldl (fun m (d, i) => m.insert d.1 i) {})
          let G ← PySem.W.Fast.withLocals tys.toList #[] fun xs => do mkLambdaFVars xs (PySem.W.Fast.putIn at_ (fun i => xs[i]!) d.value)
          let mut arr := #[d.type]
          for t in tys.toList.reverse do arr := arr.push (.forallE `x t arr.back! .default)
          arr := arr.reverse
          let lv ← getLevel d.type
          let mut pf := mkApp2 (mkConst ``Eq.refl [lv]) arr[0]! G
          let mut f := G
          let mut g := G
          for i in [0:ds.size] do
            let (x, y, h) := ds[i]!
            let h := match PySem.W.Fast.isAtom x with
              | some s => mkApp2 (mkConst ``strE) (y.appArg!.appArg!) (mkApp2 (mkConst ``Eq.refl [1]) (mkConst ``Bool) (mkConst ``Bool.true))
              | none => h
            let u ← getLevel tys[i]!
            let v ← getLevel arr[i + 1]!
            pf := mkAppN (mkConst ``congr [u, v]) #[tys[i]!, arr[i + 1]!, f, g, x, y, pf, h]
            f := mkApp f x
            g := mkApp g y
          let newVal := PySem.W.Fast.putIn at_ (fun i => ds[i]!.2.1) d.value
          withOptions (Elab.async.set · false) do
            addDecl (.defnDecl { name := n, levelParams := [], type := d.type, value := newVal, hints := d.hints, safety := .safe })
            addDecl (.thmDecl { name := e, levelParams := [], type := ← mkEq (mkConst c) (mkConst n), value := pf })
        catch ex =>
          logInfo m!"lin {c}: {ex.toMessageData}"
          setEnv env
    let saved : IO.Ref (Option (Environment × MVarId)) ← IO.mkRef none
    PySem.W.Fast.primed.modify (·.insert `mine.squ none)
    PySem.W.leftPieces.set (some fun g e _ cmd => do
      if cmd == ["mark"] then saved.set (some (← getEnv, g))
      else if cmd == ["lin"] then lin e.constName!
      else if cmd == ["look"] then
        let e' ← squeezed e
        g.assign e'
      else
        let some (env0, g) ← saved.get | throwError "squeeze: no mark"
        saved.set none
        let e ← instantiateMVars (.mvar g)
        if e.hasMVar then throwError "squeeze: not ready"
        let e' ← g.withContext (squeezed e)
        let env1 ← getEnv
        let had : IO.Ref NameSet ← IO.mkRef {}
        let out : IO.Ref (Array ConstantInfo) ← IO.mkRef #[]
        let goK : IO.Ref (Name → MetaM Unit) ← IO.mkRef fun _ => pure ()
        goK.set fun c => do
          unless env0.contains c || (← had.get).contains c do
            had.modify (·.insert c)
            if let some ci := env1.find? c then
              for x in ci.type.getUsedConstants do (← goK.get) x
              if let some v := ci.value? (allowOpaque := true) then
                for x in v.getUsedConstants do (← goK.get) x
              out.modify (·.push ci)
        for x in e'.getUsedConstants do (← goK.get) x
        let cs ← out.get
        let mine (c : Name) : Bool := match c with | .str _ x => x.startsWith "_proof_" || x.startsWith "_simp_" | _ => false
        let clean := env1.constants.map₂.foldl (fun b c _ => b && (mine c || env0.constants.map₂.contains c)) true
        if clean && cs.all fun c => match c with | .thmInfo _ => true | .defnInfo d => d.safety == .safe | _ => false then
          let ds ← cs.mapM fun c => do match c with
            | .thmInfo t => return Declaration.thmDecl { t with value := ← squeezed t.value }
            | .defnInfo d => return Declaration.defnDecl d
            | _ => throwError "squeeze: a constant"
          setEnv env0
          for d in ds do withOptions (Elab.async.set · false) (addDecl d)
        g.assign e'
      : Option (MVarId → Expr → PySem.Program → List String → MetaM Unit)))
  trivial
def told (g : MVarId) (cmd : String) : TacticM Unit := do
  unless (← PySem.W.Fast.primed.get).contains `mine.squ do return
  let some f ← PySem.W.leftPieces.get | throwError "squeeze: not laid"
  f g default (PySem.W.plainProg []) [cmd]
/-- the constants so far have no twin of their own -/
def quiet : TacticM Unit := do
  let env ← getEnv
  PySem.W.Fast.primed.modify fun m => env.constants.map₂.foldl (fun m c _ => if m.contains c then m else m.insert c none) m
def mark : TacticM Unit := do told (← getMainGoal) "mark"
def squeeze : TacticM Unit := told default "squeeze"
end
-- Disp
section
open PySem PySem.W PySem.Calls PyProof.Rows

section
variable {p : Program} {w : World} {n₀ : Nat} {ann : Option Value} {code : Code} {B : List Frame}

theorem segGo_add {tb : String → Option Builtin} {b : Nat} : ∀ {n m : Nat} {s s' : Shared} {t t' : Thread}, segGo tb p w n₀ ann b n s t = some (s', t') →
    segGo tb p w n₀ ann b (n + m) s t = segGo tb p w n₀ ann b m s' t'
  | 0, m, s, s', t, t', h => by
    obtain ⟨rfl, rfl⟩ : s = s' ∧ t = t' := by simpa [segGo] using h
    rw [Nat.zero_add]
  | n + 1, m, s, s', t, t', h => by
    rw [show n + 1 + m = n + m + 1 by omega]
    have e : ∀ k, segGo tb p w n₀ ann b (k + 1) s t = (match endAt b t with
      | some _ => none
      | none => match stepOk n₀ ann t with
        | false => none
        | true => match step (denote tb) p w s t with
          | .go s' t' => segGo tb p w n₀ ann b k s' t'
          | .halt _ _ => none) := fun _ => rfl
    rw [e] at h
    rw [e]
    cases he : endAt b t with
    | some f => rw [he] at h; cases h
    | none =>
      rw [he] at h
      cases hk : stepOk n₀ ann t with
      | false => rw [hk] at h; cases h
      | true =>
        rw [hk] at h
        cases hs : step (denote tb) p w s t with
        | halt o s₂ => rw [hs] at h; cases h
        | go s₂ t₂ => rw [hs] at h; exact segGo_add h

/-- the tree runs to its leaf in n steps of the machine, whatever stands behind it -/
noncomputable def Goes (p : Program) (w : World) (n₀ : Nat) (ann : Option Value) (code : Code) (B : List Frame) {α : Type} (m : Sem α) (s : Shared) (q : Pos) (a : α) (s' : Shared) (q' : Pos) (n : Nat) : Prop :=
  ∀ (K : α → Sem Fin) (H : Value → Sem Fin) (gd : Bool → Bool) (lv : List Value → List Value),
    segGo treeTable p w n₀ ann 1 n s ⟨m.wrap K H gd lv, code, q, B⟩ = some (s', ⟨K a, code, q', B⟩)

theorem goes_pure {α : Type} {a : α} {s : Shared} {q : Pos} : Goes p w n₀ ann code B (pure a : Sem α) s q a s q 0 := fun _ _ _ _ => rfl

theorem goes_bind {α β : Type} {m : Sem α} {f : α → Sem β} {s s₁ s₂ : Shared} {q q₁ q₂ : Pos} {a : α} {b : β} {n k : Nat}
    (x : Goes p w n₀ ann code B m s q a s₁ q₁ n) (y : Goes p w n₀ ann code B (f a) s₁ q₁ b s₂ q₂ k) : Goes p w n₀ ann code B (m >>= f) s q b s₂ q₂ (n + k) := fun K H gd lv => by
  rw [Sem.bind_eq_wrap', Sem.wrap_wrap]
  rw [segGo_add (x _ _ _ _)]
  exact y K H gd lv

theorem goes_catch {α : Type} {m : Sem α} {h : Value → Sem α} {s s₁ : Shared} {q q₁ : Pos} {a : α} {n : Nat}
    (x : Goes p w n₀ ann code B m s q a s₁ q₁ n) : Goes p w n₀ ann code B (m.tryCatch h) s q a s₁ q₁ n := fun K H gd lv => by
  rw [Sem.tryCatch_eq_wrap, Sem.wrap_wrap]
  exact x _ _ _ _

theorem goes_keep {α : Type} {m : Sem α} {vs : List Value} {s s₁ : Shared} {q q₁ : Pos} {a : α} {n : Nat}
    (x : Goes p w n₀ ann code B m s q a s₁ q₁ n) : Goes p w n₀ ann code B (m.keep vs) s q a s₁ q₁ n := fun K H gd lv => by
  rw [Sem.keep_eq_wrap, Sem.wrap_wrap]
  exact x _ _ _ _

theorem goes_onRaise {α : Type} {m : Sem α} {h : Value → Sem Unit} {s s₁ : Shared} {q q₁ : Pos} {a : α} {n : Nat}
    (x : Goes p w n₀ ann code B m s q a s₁ q₁ n) : Goes p w n₀ ann code B (m.onRaise h) s q a s₁ q₁ n := fun K H gd lv => by
  rw [Sem.onRaise_eq_wrap, Sem.wrap_wrap]
  exact x _ _ _ _

theorem goes_holding {α : Type} {m : Sem α} {vs : List Value} {s s₁ : Shared} {q q₁ : Pos} {a : α} {n : Nat}
    (x : Goes p w n₀ ann code B m s q a s₁ q₁ n) : Goes p w n₀ ann code B (holding vs m) s q a s₁ q₁ n := by
  run_tac mark
  unfold holding
  split
  · exact x
  · exact goes_keep x
  run_tac squeeze

theorem goes_one {α : Type} {m : Sem α} {s s' : Shared} {q q' : Pos} {a : α}
    (x : ∀ (K : α → Sem Fin) (H : Value → Sem Fin) (gd : Bool → Bool) (lv : List Value → List Value), endAt 1 ⟨m.wrap K H gd lv, code, q, B⟩ = none ∧ stepOk n₀ ann ⟨m.wrap K H gd lv, code, q, B⟩ = true ∧
      step (denote treeTable) p w s ⟨m.wrap K H gd lv, code, q, B⟩ = .go s' ⟨K a, code, q', B⟩) : Goes p w n₀ ann code B m s q a s' q' 1 := fun K H gd lv => by
  obtain ⟨h1, h2, h3⟩ := x K H gd lv
  unfold segGo
  rw [h1, h2, h3]
  rfl

theorem endAt_none {t : Thread} (h : ∀ f, t.cur ≠ .pure f) : endAt 1 t = none := by
  run_tac mark
  unfold endAt
  split
  · rename_i e; exact absurd e (h _)
  · rfl
  run_tac squeeze

theorem goes_at {s : Shared} {q q' : Pos} : Goes p w n₀ ann code B (standAt q') s q () s q' 1 := goes_one fun _ _ _ _ => ⟨endAt_none (by intro f e; cases e), rfl, by obtain ⟨_, _, _, _, _⟩ := s; rfl⟩

theorem goes_rule {s : Shared} {q : Pos} {t : String} : Goes p w n₀ ann code B (PySem.rule t) s q () s q 1 := goes_one fun _ _ _ _ => ⟨endAt_none (by intro f e; cases e), rfl, by obtain ⟨_, _, _, _, _⟩ := s; rfl⟩

theorem goes_fresh {s : Shared} {q : Pos} : Goes p w n₀ ann code B fresh s q s.toks { s with toks := s.toks + 1 } q 1 := goes_one fun _ _ _ _ => ⟨endAt_none (by intro f e; cases e), rfl, by obtain ⟨_, _, _, _, _⟩ := s; rfl⟩

theorem goes_ask {s : Shared} {q : Pos} : Goes p w n₀ ann code B ask s q ⟨p, w.params⟩ s q 1 := goes_one fun _ _ _ _ => ⟨endAt_none (by intro f e; cases e), rfl, by obtain ⟨_, _, _, _, _⟩ := s; rfl⟩

theorem goes_alloc {s : Shared} {q : Pos} {o : Obj} : Goes p w n₀ ann code B (alloc o) s q s.heap.objs.size { s with heap := s.heap.push o } q 1 := goes_one fun _ _ _ _ => ⟨endAt_none (by intro f e; cases e), rfl, by obtain ⟨_, _, _, _, _⟩ := s; rfl⟩

theorem goes_load {s : Shared} {q : Pos} {a : Addr} {part : Option Value} {o : Obj} (ho : s.heap.get? a = some o) : Goes p w n₀ ann code B (loadPart a part) s q o s q 1 := goes_one fun _ _ _ _ =>
  ⟨endAt_none (by intro f e; cases e), rfl, by obtain ⟨_, _, _, _, _⟩ := s; simp only [loadPart, Sem.wrap, step]; simp only at ho; rw [ho]⟩

theorem goes_update {s : Shared} {q : Pos} {a : Addr} {part : Option Value} {f : Obj → Obj} {o : Obj} (ho : s.heap.get? a = some o) (ha : n₀ ≤ a) : Goes p w n₀ ann code B (updatePart a part f) s q () { s with heap := s.heap.update a f } q 1 := goes_one fun _ _ _ _ =>
  ⟨endAt_none (by intro f e; cases e), by
    have : Nat.ble n₀ a = true := Nat.ble_eq_true_of_le ha
    show (Thread.calm _ && (Nat.ble n₀ a || a == mainNs || a == cStatics || ann == some (.ref a))) = true
    rw [this]; rfl, by obtain ⟨_, _, _, _, _⟩ := s; simp only [updatePart, Sem.wrap, step]; simp only at ho; rw [ho]; rfl⟩

theorem callAny_hash (k : Int) (t : Tok) : callAny (.builtin "int.__hash__") ⟨[.int k t], []⟩ = again (.builtin "int.__hash__" ⟨[.int k t], []⟩) := by
  run_tac mark
  kernel_rfl
  run_tac squeeze

theorem hash_tree (k : Int) (t : Tok) : Builtin.«int.__hash__» ⟨[.int k t], []⟩ = (do ret (← mkInt (rawHash k))) := by rfl

theorem entry_hash : entryFor treeTable "int.__hash__" = some Builtin.«int.__hash__» := by rw [← table_eq_tree]; exact entry_int_hash

theorem special_hash (k : Int) (t : Tok) : specialOf (.int k t) "__hash__" = (pure (some (.builtin "int.__hash__")) : Sem (Option Value)) := by kernel_rfl

theorem bind_hash (k : Int) (t : Tok) : bindSpecial (.builtin "int.__hash__") (.int k t) = (pure (.builtin "int.__hash__", [.int k t]) : Sem (Value × List Value)) := by kernel_rfl

theorem room_hash (k : Int) (t : Tok) : cRoomFor "hash" [.int k t] = (pure () : Sem Unit) := by kernel_rfl

theorem segGo_step {n : Nat} {s s' : Shared} {t t' : Thread} (h1 : endAt 1 t = none) (h2 : stepOk n₀ ann t = true) (h3 : step (denote treeTable) p w s t = .go s' t') :
    segGo treeTable p w n₀ ann 1 (n + 1) s t = segGo treeTable p w n₀ ann 1 n s' t' := by
  run_tac mark
  show (match endAt 1 t with
      | some _ => none
      | none => match stepOk n₀ ann t with
        | false => none
        | true => match step (denote treeTable) p w s t with
          | .go s' t' => segGo treeTable p w n₀ ann 1 n s' t'
          | .halt _ _ => none) = _
  rw [h1, h2, h3]
  run_tac squeeze

theorem denote_call_hash (k : Int) (t : Tok) : denote treeTable (.call (.builtin "int.__hash__") ⟨[.int k t], []⟩) = .pure (.again (.builtin "int.__hash__" ⟨[.int k t], []⟩)) := callAny_hash k t

theorem denote_hash (k : Int) (t : Tok) : denote treeTable (.builtin "int.__hash__" ⟨[.int k t], []⟩) = .fresh fun u => .pure (.done (.ret (.int (rawHash k) u))) := by
  run_tac mark
  have e : ∀ (id : String) (args : Args), denote treeTable (.builtin id args) = (match entryFor treeTable id with
    | some b => b args
    | none => unsupported ((withoutEnding? id "#data").getD id)) := fun _ _ => rfl
  rw [e, entry_hash]
  exact hash_tree k t
  run_tac squeeze

theorem hash_three {k : Int} {t : Tok} {heap : Heap} {gens : Array GenState} {drawn : Drawn} {toks : Nat} {os : OsState} {q p₀ : Pos} {kk : Result → Sem PySem.Fin} {hd : Option Value} {g : Bool} {l kept : List Value} {c cd : Code} (hB : 0 < B.length) :
    segGo treeTable p w n₀ ann 1 3 ⟨heap, gens, drawn, toks, os⟩ ⟨denote treeTable (.call (.builtin "int.__hash__") ⟨[.int k t], []⟩), c, q, .ret kk hd g l cd p₀ kept :: B⟩ =
      some (⟨heap, gens, drawn, toks + 1, os⟩, ⟨kk (.ok (.ret (.int (rawHash k) toks))), cd, p₀, B⟩) := by
  run_tac mark
  have hl : ∀ kept : List Value, ((.ret kk hd g l cd p₀ kept :: B : List Frame).length == 1) = false := fun _ => by rw [beq_eq_false_iff_ne, List.length_cons]; omega
  rw [denote_call_hash]
  refine (segGo_step (s' := ⟨heap, gens, drawn, toks, os⟩) (t' := ⟨denote treeTable (.builtin "int.__hash__" ⟨[.int k t], []⟩), .builtin "int.__hash__" ⟨[.int k t], []⟩, q, .ret kk hd g l cd p₀ (keptBy c (.builtin "int.__hash__" ⟨[.int k t], []⟩) l kept) :: B⟩) ?_ ?_ ?_).trans ?_
  · unfold endAt; dsimp only; split <;> first | rfl | (rename_i h; cases h)
  · show (Thread.calm _ && true) = true
    rw [Bool.and_true]
    unfold Thread.calm Thread.atCollectorCode Thread.yieldsInsideHandler
    dsimp only
    rw [show ("int.__hash__".startsWith "lifetime.") = false by decide +kernel]
    rfl
  · exact step_again
  rw [denote_hash]
  refine (segGo_step (endAt_none (by intro f e; cases e)) rfl rfl).trans ?_
  refine (segGo_step ?_ rfl rfl).trans rfl
  unfold endAt
  dsimp only
  rw [hl]
  run_tac squeeze

theorem goes_call_hash {k : Int} {t : Tok} {s : Shared} {q : Pos} (hB : 0 < B.length) : Goes p w n₀ ann code B (PySem.call (.builtin "int.__hash__") [.int k t]) s q (.int (rawHash k) s.toks) { s with toks := s.toks + 1 } q 4 := fun K H gd lv => by
  obtain ⟨heap, gens, drawn, toks, os⟩ := s
  refine (segGo_step (endAt_none (by intro f e; cases e)) rfl rfl).trans ?_
  exact hash_three hB

theorem goes_pyHash {k : Int} {t : Tok} {s : Shared} {q : Pos} (hB : 0 < B.length) (h0 : 0 ≤ k) (h1 : k < 2 ^ 60) : Goes p w n₀ ann code B (pyHash (.int k t)) s q k { s with toks := s.toks + 1 } q 5 := by
  run_tac mark
  have hr := rawHash_range k
  have hk : rawHash k = k := by
    have e1 : (k.natAbs % (2 ^ 61 - 1 : Nat) : Int) = k := by omega
    have e2 : (k == -1) = false := by rw [beq_eq_false_iff_ne]; omega
    clear hr
    simp only [rawHash, e1, if_neg (show ¬ k < 0 by omega), e2]
    rfl
  unfold pyHash
  show Goes p w n₀ ann code B (pyHashByItsType (.int k t)) _ _ _ _ _ _
  unfold pyHashByItsType
  rw [room_hash, special_hash]
  show Goes p w n₀ ann code B (callSpecialIfBoundUnlessNone? (.int k t) "__hash__" _ >>= _) s q k _ q (5 + 0)
  refine goes_bind (a := some (.int k s.toks)) (s₁ := { s with toks := s.toks + 1 }) (q₁ := q) ?_ ?_
  · unfold callSpecialIfBoundUnlessNone?
    refine goes_holding ?_
    show Goes p w n₀ ann code B (bindSpecialIfBound? (.int k t) "__hash__" >>= _) s q _ _ q (1 + 4)
    refine goes_bind (a := some (.builtin "int.__hash__", [.int k t])) (s₁ := s) (q₁ := q) ?_ ?_
    · unfold bindSpecialIfBound?
      rw [special_hash]
      show Goes p w n₀ ann code B (ask >>= _) s q _ s q (1 + 0)
      refine goes_bind goes_ask ?_
      rw [bind_hash]
      show Goes p w n₀ ann code B (if w.params.followText "special-get-raises" = true then _ else _) s q _ s q 0
      split
      · exact goes_pure
      · exact goes_catch goes_pure
    · show Goes p w n₀ ann code B (PySem.call (.builtin "int.__hash__") [.int k t] >>= _) s q _ _ q (4 + 0)
      refine goes_bind (goes_call_hash hB) ?_
      rw [hk]
      exact goes_pure
  · show Goes p w n₀ ann code B (if (decide (-(2 : Int) ^ 63 ≤ k) && decide (k < 2 ^ 63)) = true then _ else _) _ q _ _ q 0
    rw [if_pos (by rw [decide_eq_true (by omega), decide_eq_true (by omega)]; rfl)]
    have : (k == -1) = false := by rw [beq_eq_false_iff_ne]; omega
    rw [this]
    exact goes_pure
  run_tac squeeze

noncomputable abbrev dictO (es : List DictEntry) (n : Nat) : Obj := ⟨.type "dict", none, .dict es.toArray n, #[]⟩
noncomputable def hp (pre l : List Obj) (life : Life) : Heap := ⟨(pre ++ l).toArray, life⟩
theorem hp_get {pre l : List Obj} {life : Life} {i : Nat} {o : Obj} (h : l[i]? = some o) (hf : o.isFreed = false) : (hp pre l life).get? (pre.length + i) = some o := by
  run_tac mark
  refine Heap.get?_some_iff.mpr ⟨?_, hf⟩
  show (pre ++ l).toArray[pre.length + i]? = some o
  rw [List.getElem?_toArray, List.getElem?_append_right (Nat.le_add_right ..), Nat.add_sub_cancel_left, h]
  run_tac squeeze

theorem hp_update {pre l : List Obj} {life : Life} {i : Nat} {f : Obj → Obj} : (hp pre l life).update (pre.length + i) f = hp pre (l.modify i f) life := by
  run_tac mark
  show Heap.mk ((pre ++ l).toArray.modify _ _) life = Heap.mk _ life
  congr 1
  apply Array.ext'
  rw [Array.toList_modify]
  show (pre ++ l).modify _ _ = pre ++ l.modify i f
  apply List.ext_getElem?
  intro j
  rw [List.getElem?_modify]
  by_cases hj : j < pre.length
  · rw [List.getElem?_append_left hj, List.getElem?_append_left hj, show (fun a => if pre.length + i = j then f a else a) = id from funext fun a => if_neg (by omega)]
    cases pre[j]? <;> rfl
  · rw [List.getElem?_append_right (by omega), List.getElem?_append_right (by omega), List.getElem?_modify]
    congr 1
    funext a
    by_cases e : pre.length + i = j
    · rw [if_pos e, if_pos (by omega)]
    · rw [if_neg e, if_neg (by omega)]
  run_tac squeeze

theorem hp_push {pre l : List Obj} {life : Life} {o : Obj} : (hp pre l life).push o = hp pre (l ++ [o]) life := by
  run_tac mark
  show Heap.mk ((pre ++ l).toArray.push o) life = Heap.mk _ life
  rw [List.push_toArray, List.append_assoc]
  run_tac squeeze

theorem hp_size {pre l : List Obj} {life : Life} : (hp pre l life).objs.size = pre.length + l.length := by
  run_tac mark
  show ((pre ++ l).toArray).size = _
  rw [List.size_toArray, List.length_append]
  run_tac squeeze

theorem no_place {es : List DictEntry} {k : Int} (h : ∀ e ∈ es, e.hash ≠ k) : placesWithHash es.toArray.size (fun i => es.toArray[i]?.map (·.hash)) k = [] := by
  run_tac mark
  unfold placesWithHash
  rw [List.filter_eq_nil_iff]
  intro i hi
  show ¬ ((es.toArray[i]?.map (·.hash)) == some k) = true
  rw [List.getElem?_toArray]
  cases he : es[i]? with
  | none => simp
  | some e => simpa using h e (List.mem_of_getElem? he)
  run_tac squeeze

theorem goes_entries {d : Addr} {part : Option Value} {es : List DictEntry} {n : Nat} {s : Shared} {q : Pos} (ho : s.heap.get? d = some (dictO es n)) : Goes p w n₀ ann code B (dictEntries d part) s q es.toArray s q 1 :=
  goes_bind (k := 0) (goes_load ho) goes_pure

theorem goes_epoch {d : Addr} {part : Option Value} {es : List DictEntry} {n : Nat} {s : Shared} {q : Pos} (ho : s.heap.get? d = some (dictO es n)) : Goes p w n₀ ann code B (dictEpoch d part) s q n s q 1 :=
  goes_bind (k := 0) (goes_load ho) goes_pure

theorem goes_find {d : Addr} {k : Int} {t : Tok} {es : List DictEntry} {n : Nat} {s : Shared} {q : Pos} (ho : s.heap.get? d = some (dictO es n)) (hf : ∀ e ∈ es, e.hash ≠ k) :
    Goes p w n₀ ann code B (dictFind d (.int k t) k) s q none s q 1 := by
  run_tac mark
  unfold dictFind
  refine goes_holding ?_
  refine goes_bind (n := 1) (k := 0) (goes_entries ho) ?_
  show Goes p w n₀ ann code B (if ((Value.int k t :: (placesWithHash es.toArray.size (fun i => es.toArray[i]?.map (·.hash)) k).filterMap fun i => es.toArray[i]?.map (·.key)).all carriedByValue) = true then _ else _) s q none s q 0
  rw [no_place hf]
  exact goes_pure
  run_tac squeeze

theorem goes_updKeys {d : Addr} {part : Option Value} {f : Array DictEntry → Array DictEntry} {es : List DictEntry} {n : Nat} {s : Shared} {q : Pos} (ho : s.heap.get? d = some (dictO es n)) (hd : n₀ ≤ d) (hz : (f es.toArray).size ≤ sizeLine + 1) :
    Goes p w n₀ ann code B (updateDictKeys d f part) s q () { s with heap := s.heap.update d (Obj.mapDictKeys f) } q 3 := by
  run_tac mark
  unfold updateDictKeys
  refine goes_bind (n := 1) (k := 2) (goes_load ho) ?_
  refine goes_bind (n := 1) (k := 1) (goes_update ho hd) ?_
  unfold lookBehind
  refine goes_bind (n := 1) (k := 0) (goes_load (o := Obj.mapDictKeys f (dictO es n)) (Heap.get?_update_self _ ho rfl)) ?_
  have e : (Obj.mapDictKeys f (dictO es n)).data.pastItsLine = none := pastItsLine_dict (n := n + 1) hz
  rw [e]
  exact goes_pure
  run_tac squeeze

theorem goes_dictSet {d : Addr} {k : Int} {t : Tok} {v : Value} {es : List DictEntry} {n : Nat} {s : Shared} {q : Pos} (hB : 0 < B.length) (h0 : 0 ≤ k) (h1 : k < 2 ^ 60) (ho : s.heap.get? d = some (dictO es n)) (hd : n₀ ≤ d) (hz : es.length < sizeLine) (hf : ∀ e ∈ es, e.hash ≠ k) :
    Goes p w n₀ ann code B (dictSet d (.int k t) v) s q () { s with heap := s.heap.update d (Obj.mapDictKeys (·.push ⟨k, .int k t, v⟩)), toks := s.toks + 1 } q 10 := by
  run_tac mark
  unfold dictSet
  refine goes_holding ?_
  refine goes_bind (n := 5) (k := 5) (goes_pyHash hB h0 h1) ?_
  unfold dictSetHashed
  refine goes_holding ?_
  refine goes_bind (n := 1) (k := 4) (goes_find (es := es) (n := n) ho hf) ?_
  refine goes_bind (n := 1) (k := 3) goes_rule ?_
  exact goes_updKeys (es := es) (n := n) ho hd (by rw [Array.size_push, List.size_toArray]; omega)
  run_tac squeeze

/-- an item of the display: an int's and a text's constant -/
noncomputable def itemK (pos : Pos) (e : Int × Str) : Sem Value × Sem Value := (mkInt e.1, (do let x ← mkText e.2; standAt pos; pure x))
noncomputable def entsLong : List (Int × Str) → Nat → List DictEntry
  | [], _ => []
  | (k, v) :: r, tk => ⟨k, .int k tk, .str v (tk + 1)⟩ :: entsLong r (tk + 3)
theorem goes_key {k : Int} {s : Shared} {q : Pos} : Goes p w n₀ ann code B (mkInt k) s q (.int k s.toks) { s with toks := s.toks + 1 } q 1 := goes_bind (n := 1) (k := 0) goes_fresh goes_pure

theorem goes_val {v : Str} {s : Shared} {q pos : Pos} : Goes p w n₀ ann code B (do let x ← mkText v; standAt pos; pure x) s q (.str v s.toks) { s with toks := s.toks + 1 } pos 2 :=
  goes_bind (n := 1) (k := 1) (goes_bind (n := 1) (k := 0) goes_fresh goes_pure) (goes_bind (n := 1) (k := 0) goes_at goes_pure)

theorem entsLong_hash : ∀ (l : List (Int × Str)) (tk : Nat), (entsLong l tk).map (·.hash) = l.map (·.1)
  | [], _ => rfl
  | (k, v) :: r, tk => by rw [entsLong, List.map_cons, List.map_cons, entsLong_hash r]

theorem entsLong_length : ∀ (l : List (Int × Str)) (tk : Nat), (entsLong l tk).length = l.length
  | [], _ => rfl
  | (k, v) :: r, tk => by rw [entsLong, List.length_cons, List.length_cons, entsLong_length r]

noncomputable abbrev longLoop (pos : Pos) (d : Addr) (l : List (Int × Str)) : Sem PUnit := forIn (l.map (itemK pos)) PUnit.unit fun x _ => match x with
  | (k, v) => do
    let kv ← k
    let vv ← holding [kv] v
    holding [kv, vv] (dictSet d kv vv)
    pure (ForInStep.yield PUnit.unit)
theorem modify_last {α : Type} (l : List α) (o : α) (f : α → α) : (l ++ [o]).modify l.length f = l ++ [f o] := by
  run_tac mark
  apply List.ext_getElem?
  intro j
  rw [List.getElem?_modify]
  by_cases hj : j < l.length
  · rw [List.getElem?_append_left hj, List.getElem?_append_left hj, show (fun a => if l.length = j then f a else a) = id from funext fun a => if_neg (by omega)]
    cases l[j]? <;> rfl
  · rw [List.getElem?_append_right (by omega), List.getElem?_append_right (by omega)]
    by_cases e : l.length = j
    · rw [show j - l.length = 0 by omega]
      show some (if l.length = j then f o else o) = some (f o)
      rw [if_pos e]
    · rw [List.getElem?_eq_none (by simp; omega), List.getElem?_eq_none (by simp; omega)]; rfl
  run_tac squeeze

theorem goes_longLoop (hB : 0 < B.length) {pos : Pos} {pre ls : List Obj} {life : Life} {gens : Array GenState} {drawn : Drawn} {os : OsState} (hd : n₀ ≤ pre.length) : ∀ (l : List (Int × Str)) (es : List DictEntry) (n toks : Nat),
    (∀ e ∈ l, 0 ≤ e.1 ∧ e.1 < 2 ^ 60) → es.length + l.length < sizeLine → (es.map (·.hash) ++ l.map (·.1)).Nodup →
    Goes p w n₀ ann code B (longLoop pos (pre.length + ls.length) l) ⟨hp pre (ls ++ [dictO es n]) life, gens, drawn, toks, os⟩ pos PUnit.unit
      ⟨hp pre (ls ++ [dictO (es ++ entsLong l toks) (n + l.length)]) life, gens, drawn, toks + 3 * l.length, os⟩ pos (13 * l.length)
  | [], es, n, toks, _, _, _ => by
    rw [entsLong, List.append_nil]
    exact goes_pure
  | (k, v) :: r, es, n, toks, hk, hz, hn => by
    have hk0 := hk (k, v) (.head _)
    have hfr : ∀ e ∈ es, e.hash ≠ k := fun e he q => by
      rw [List.map_cons, List.nodup_append] at hn
      exact hn.2.2 e.hash (List.mem_map_of_mem he) k (.head _) q
    have hz' : es.length + (r.length + 1) < sizeLine := hz
    have ih := goes_longLoop hB hd (pos := pos) (ls := ls) (life := life) (gens := gens) (drawn := drawn) (os := os) r (es ++ [⟨k, .int k toks, .str v (toks + 1)⟩]) (n + 1) (toks + 3) (fun e he => hk e (.tail _ he))
      (by rw [List.length_append]; simp only [List.length_cons, List.length_nil]; omega) (by
        rw [List.map_append, List.append_assoc]; exact hn)
    unfold longLoop
    rw [List.map_cons, List.forIn_cons]
    have e13 : 13 * ((k, v) :: r).length = (1 + (2 + (10 + 0))) + 13 * r.length := by rw [List.length_cons]; omega
    rw [e13]
    refine goes_bind (a := ForInStep.yield PUnit.unit) (s₁ := ⟨hp pre (ls ++ [dictO (es ++ [⟨k, .int k toks, .str v (toks + 1)⟩]) (n + 1)]) life, gens, drawn, toks + 3, os⟩) (q₁ := pos) ?_ ?_
    · refine goes_bind goes_key ?_
      refine goes_bind (goes_holding goes_val) ?_
      refine goes_bind (goes_holding (goes_dictSet (es := es) (n := n) hB hk0.1 hk0.2 (hp_get (i := ls.length) (by rw [List.getElem?_append_right (Nat.le_refl _), Nat.sub_self]; rfl) rfl) (Nat.le_trans hd (Nat.le_add_right ..)) (by omega) hfr)) ?_
      have e : (hp pre (ls ++ [dictO es n]) life).update (pre.length + ls.length) (Obj.mapDictKeys (·.push ⟨k, .int k toks, .str v (toks + 1)⟩)) = hp pre (ls ++ [dictO (es ++ [⟨k, .int k toks, .str v (toks + 1)⟩]) (n + 1)]) life := by
        rw [hp_update, modify_last]
        show hp pre (ls ++ [(⟨.type "dict", none, .dict (es.toArray.push _) (n + 1), #[]⟩ : Obj)]) life = _
        rw [List.push_toArray]
      dsimp only
      rw [e]
      exact goes_pure
    · have e2 : entsLong ((k, v) :: r) toks = [⟨k, .int k toks, .str v (toks + 1)⟩] ++ entsLong r (toks + 3) := rfl
      rw [e2, ← List.append_assoc, List.length_cons, show n + (r.length + 1) = n + 1 + r.length by omega, show toks + 3 * (r.length + 1) = toks + 3 + 3 * r.length by omega]
      exact ih

theorem goes_subLong (hB : 0 < B.length) {pos : Pos} {pre ls : List Obj} {life : Life} {gens : Array GenState} {drawn : Drawn} {os : OsState} (hd : n₀ ≤ pre.length) {l : List (Int × Str)} {toks : Nat}
    (hk : ∀ e ∈ l, 0 ≤ e.1 ∧ e.1 < 2 ^ 60) (hz : l.length < sizeLine) (hn : (l.map (·.1)).Nodup) (hl : 15 < l.length) :
    Goes p w n₀ ann code B (subDict (l.map (itemK pos))) ⟨hp pre ls life, gens, drawn, toks, os⟩ pos (pre.length + ls.length)
      ⟨hp pre (ls ++ [dictO (entsLong l toks) l.length]) life, gens, drawn, toks + 3 * l.length, os⟩ pos (2 + 13 * l.length) := by
  run_tac mark
  unfold subDict
  rw [show 2 + 13 * l.length = 1 + (1 + 13 * l.length + 0) by omega]
  refine goes_bind (a := pre.length + ls.length) (s₁ := ⟨hp pre (ls ++ [dictO [] 0]) life, gens, drawn, toks, os⟩) (q₁ := pos) ?_ ?_
  · have h := goes_alloc (p := p) (w := w) (n₀ := n₀) (ann := ann) (code := code) (B := B) (s := ⟨hp pre ls life, gens, drawn, toks, os⟩) (q := pos) (o := { cls := .type "dict", data := .dict #[] })
    dsimp only at h
    rw [hp_size, hp_push] at h
    exact h
  · refine goes_bind (a := PUnit.unit) (goes_holding ?_) goes_pure
    rw [if_neg (by rw [List.length_map]; omega)]
    refine goes_bind goes_rule ?_
    have h := goes_longLoop (p := p) (w := w) (ann := ann) (code := code) hB (pos := pos) (ls := ls) (life := life) (gens := gens) (drawn := drawn) (os := os) hd l [] 0 toks hk (by simpa using hz) (by simpa using hn)
    rw [List.nil_append, Nat.zero_add] at h
    exact goes_bind (k := 0) h goes_pure
  run_tac squeeze

noncomputable def valsShort : List (Int × Str) → Nat → List (Value × Value)
  | [], _ => []
  | (k, v) :: r, tk => (.int k tk, .str v (tk + 1)) :: valsShort r (tk + 2)
noncomputable def entsShort : List (Int × Str) → Nat → List DictEntry
  | [], _ => []
  | (k, v) :: r, tk => ⟨k, .int k tk, .str v (tk + 1)⟩ :: entsShort r (tk + 2)
theorem entsShort_hash : ∀ (l : List (Int × Str)) (tk : Nat), (entsShort l tk).map (·.hash) = l.map (·.1)
  | [], _ => rfl
  | (k, v) :: r, tk => by rw [entsShort, List.map_cons, List.map_cons, entsShort_hash r]

theorem entsShort_length : ∀ (l : List (Int × Str)) (tk : Nat), (entsShort l tk).length = l.length
  | [], _ => rfl
  | (k, v) :: r, tk => by rw [entsShort, List.length_cons, List.length_cons, entsShort_length r]

theorem goes_pairs {pos : Pos} {heap : Heap} {gens : Array GenState} {drawn : Drawn} {os : OsState} : ∀ (l : List (Int × Str)) (toks : Nat),
    Goes p w n₀ ann code B (evalPairs (l.map (itemK pos))) ⟨heap, gens, drawn, toks, os⟩ pos (valsShort l toks) ⟨heap, gens, drawn, toks + 2 * l.length, os⟩ pos (3 * l.length)
  | [], _ => goes_pure
  | (k, v) :: r, toks => by
    rw [List.map_cons]
    unfold evalPairs
    dsimp only [itemK]
    rw [List.length_cons, show 3 * (r.length + 1) = 1 + (2 + (3 * r.length + 0)) by omega, show toks + 2 * (r.length + 1) = toks + 2 + 2 * r.length by omega]
    refine goes_bind goes_key ?_
    refine goes_bind (goes_holding goes_val) ?_
    exact goes_bind (goes_holding (goes_pairs r (toks + 2))) goes_pure

noncomputable abbrev shortLoop (d : Addr) (l : List (Value × Value)) : Sem PUnit := forIn l PUnit.unit fun x _ => match x with
  | (k, v) => do
    dictSet d k v
    pure (ForInStep.yield PUnit.unit)
theorem goes_shortLoop (hB : 0 < B.length) {pos : Pos} {pre ls : List Obj} {life : Life} {gens : Array GenState} {drawn : Drawn} {os : OsState} (hd : n₀ ≤ pre.length) : ∀ (l : List (Int × Str)) (es : List DictEntry) (n tk toks : Nat),
    (∀ e ∈ l, 0 ≤ e.1 ∧ e.1 < 2 ^ 60) → es.length + l.length < sizeLine → (es.map (·.hash) ++ l.map (·.1)).Nodup →
    Goes p w n₀ ann code B (shortLoop (pre.length + ls.length) (valsShort l tk)) ⟨hp pre (ls ++ [dictO es n]) life, gens, drawn, toks, os⟩ pos PUnit.unit
      ⟨hp pre (ls ++ [dictO (es ++ entsShort l tk) (n + l.length)]) life, gens, drawn, toks + l.length, os⟩ pos (10 * l.length)
  | [], es, n, tk, toks, _, _, _ => by
    rw [entsShort, List.append_nil]
    exact goes_pure
  | (k, v) :: r, es, n, tk, toks, hk, hz, hn => by
    have hk0 := hk (k, v) (.head _)
    have hfr : ∀ e ∈ es, e.hash ≠ k := fun e he q => by
      rw [List.map_cons, List.nodup_append] at hn
      exact hn.2.2 e.hash (List.mem_map_of_mem he) k (.head _) q
    have hz' : es.length + (r.length + 1) < sizeLine := hz
    have ih := goes_shortLoop hB hd (pos := pos) (ls := ls) (life := life) (gens := gens) (drawn := drawn) (os := os) r (es ++ [⟨k, .int k tk, .str v (tk + 1)⟩]) (n + 1) (tk + 2) (toks + 1) (fun e he => hk e (.tail _ he))
      (by rw [List.length_append]; simp only [List.length_cons, List.length_nil]; omega) (by
        rw [List.map_append, List.append_assoc]; exact hn)
    unfold shortLoop
    rw [valsShort, List.forIn_cons]
    have e13 : 10 * ((k, v) :: r).length = (10 + 0) + 10 * r.length := by rw [List.length_cons]; omega
    rw [e13]
    refine goes_bind (a := ForInStep.yield PUnit.unit) (s₁ := ⟨hp pre (ls ++ [dictO (es ++ [⟨k, .int k tk, .str v (tk + 1)⟩]) (n + 1)]) life, gens, drawn, toks + 1, os⟩) (q₁ := pos) ?_ ?_
    · refine goes_bind (goes_dictSet (es := es) (n := n) hB hk0.1 hk0.2 (hp_get (i := ls.length) (by rw [List.getElem?_append_right (Nat.le_refl _), Nat.sub_self]; rfl) rfl) (Nat.le_trans hd (Nat.le_add_right ..)) (by omega) hfr) ?_
      have e : (hp pre (ls ++ [dictO es n]) life).update (pre.length + ls.length) (Obj.mapDictKeys (·.push ⟨k, .int k tk, .str v (tk + 1)⟩)) = hp pre (ls ++ [dictO (es ++ [⟨k, .int k tk, .str v (tk + 1)⟩]) (n + 1)]) life := by
        rw [hp_update, modify_last]
        show hp pre (ls ++ [(⟨.type "dict", none, .dict (es.toArray.push _) (n + 1), #[]⟩ : Obj)]) life = _
        rw [List.push_toArray]
      dsimp only
      rw [e]
      exact goes_pure
    · have e2 : entsShort ((k, v) :: r) tk = [⟨k, .int k tk, .str v (tk + 1)⟩] ++ entsShort r (tk + 2) := rfl
      rw [e2, ← List.append_assoc, List.length_cons, show n + (r.length + 1) = n + 1 + r.length by omega, show toks + (r.length + 1) = toks + 1 + r.length by omega]
      exact ih

theorem goes_subShort (hB : 0 < B.length) {pos : Pos} {pre ls : List Obj} {life : Life} {gens : Array GenState} {drawn : Drawn} {os : OsState} (hd : n₀ ≤ pre.length) {l : List (Int × Str)} {toks : Nat}
    (hk : ∀ e ∈ l, 0 ≤ e.1 ∧ e.1 < 2 ^ 60) (hz : l.length < sizeLine) (hn : (l.map (·.1)).Nodup) (hl : l.length ≤ 15) :
    Goes p w n₀ ann code B (subDict (l.map (itemK pos))) ⟨hp pre ls life, gens, drawn, toks, os⟩ pos (pre.length + ls.length)
      ⟨hp pre (ls ++ [dictO (entsShort l toks) l.length]) life, gens, drawn, toks + 3 * l.length, os⟩ pos (1 + 13 * l.length) := by
  run_tac mark
  unfold subDict
  rw [show 1 + 13 * l.length = 1 + (3 * l.length + 10 * l.length + 0) by omega]
  refine goes_bind (a := pre.length + ls.length) (s₁ := ⟨hp pre (ls ++ [dictO [] 0]) life, gens, drawn, toks, os⟩) (q₁ := pos) ?_ ?_
  · have h := goes_alloc (p := p) (w := w) (n₀ := n₀) (ann := ann) (code := code) (B := B) (s := ⟨hp pre ls life, gens, drawn, toks, os⟩) (q := pos) (o := { cls := .type "dict", data := .dict #[] })
    dsimp only at h
    rw [hp_size, hp_push] at h
    exact h
  · refine goes_bind (a := PUnit.unit) (goes_holding ?_) goes_pure
    rw [if_pos (by rw [List.length_map]; omega)]
    refine goes_bind (goes_pairs l toks) ?_
    have h := goes_shortLoop (p := p) (w := w) (ann := ann) (code := code) hB (pos := pos) (ls := ls) (life := life) (gens := gens) (drawn := drawn) (os := os) hd l [] 0 toks (toks + 2 * l.length) hk (by simpa using hz) (by simpa using hn)
    rw [List.nil_append, Nat.zero_add, show toks + 2 * l.length + l.length = toks + 3 * l.length by omega] at h
    exact goes_holding (goes_bind (k := 0) h goes_pure)
  run_tac squeeze

theorem sub_dict : isSubtype (.type "dict") (.type "dict") = (pure true : Sem Bool) := by rw [isSubtype_type]; kernel_rfl

theorem iter_dict : typeLookup (.type "dict") "__iter__" = (pure (some (.builtin "dict.__iter__")) : Sem (Option Value)) := by rw [typeLookup_type, builtinLookup_eq_fast]; kernel_rfl

noncomputable abbrev mergeLoop (d a : Addr) (epoch : Nat) (l : List Nat) : Sem PUnit := forIn l PUnit.unit fun i _ => do
  let some e := (← dictEntries a)[i]? | unsupported "dict.changed-during-merge"
  holding [e.key, e.val] do
    dictPut d e.hash e.key e.val
  if (← dictEpoch a) != epoch then unsupported "dict.changed-during-merge"
  pure (ForInStep.yield PUnit.unit)
theorem modify_mid {α : Type} (o : α) (l : List α) (f : α → α) : (o :: l).modify 0 f = f o :: l := rfl

/-- an entry by an int, its hash the int -/
noncomputable def IntEnt (e : DictEntry) : Prop := ∃ k t, e.key = .int k t ∧ e.hash = k
theorem goes_mergeLoop {pos : Pos} {pre mid : List Obj} {life : Life} {gens : Array GenState} {drawn : Drawn} {os : OsState} (hd : n₀ ≤ pre.length) {ss : List DictEntry} {sn : Nat} {toks : Nat} (hs : ∀ e ∈ ss, IntEnt e) : ∀ (k i : Nat) (es : List DictEntry) (n : Nat),
    i + k = ss.length → es.length + k < sizeLine → (es.map (·.hash) ++ (ss.drop i).map (·.hash)).Nodup →
    Goes p w n₀ ann code B (mergeLoop pre.length (pre.length + (mid.length + 1)) sn (List.range' i k)) ⟨hp pre (dictO es n :: (mid ++ [dictO ss sn])) life, gens, drawn, toks, os⟩ pos PUnit.unit
      ⟨hp pre (dictO (es ++ ss.drop i) (n + k) :: (mid ++ [dictO ss sn])) life, gens, drawn, toks, os⟩ pos (6 * k)
  | 0, i, es, n, hi, _, _ => by
    rw [List.drop_eq_nil_of_le (by omega), List.append_nil]
    exact goes_pure
  | k + 1, i, es, n, hi, hz, hn => by
    have hlt : i < ss.length := by omega
    have hdr : ss.drop i = ss[i] :: ss.drop (i + 1) := List.drop_eq_getElem_cons hlt
    obtain ⟨kk, tt, e1, e2⟩ := hs ss[i] (List.getElem_mem hlt)
    rw [hdr, List.map_cons] at hn
    have hfr : ∀ e ∈ es, e.hash ≠ kk := fun e he q => by
      rw [List.nodup_append] at hn
      exact hn.2.2 e.hash (List.mem_map_of_mem he) ss[i].hash (.head _) (q.trans e2.symm)
    have ih := goes_mergeLoop hd (pos := pos) (mid := mid) (life := life) (gens := gens) (drawn := drawn) (os := os) (toks := toks) (sn := sn) hs k (i + 1) (es ++ [ss[i]]) (n + 1) (by omega) (by rw [List.length_append]; simp only [List.length_cons, List.length_nil]; omega) (by
        rw [List.map_append, List.append_assoc]; exact hn)
    have gm : ∀ es n, (hp pre (dictO es n :: (mid ++ [dictO ss sn])) life).get? pre.length = some (dictO es n) := fun es n => hp_get (i := 0) rfl rfl
    have gs : ∀ es n, (hp pre (dictO es n :: (mid ++ [dictO ss sn])) life).get? (pre.length + (mid.length + 1)) = some (dictO ss sn) := fun es n => hp_get (i := mid.length + 1) (by
      rw [List.getElem?_cons_succ, List.getElem?_append_right (Nat.le_refl _), Nat.sub_self]; rfl) rfl
    unfold mergeLoop
    rw [List.range'_succ, List.forIn_cons, show 6 * (k + 1) = (1 + (4 + (1 + 0))) + 6 * k by omega, hdr]
    refine goes_bind (a := ForInStep.yield PUnit.unit) (s₁ := ⟨hp pre (dictO (es ++ [ss[i]]) (n + 1) :: (mid ++ [dictO ss sn])) life, gens, drawn, toks, os⟩) (q₁ := pos) ?_ ?_
    · refine goes_bind (goes_entries (gs es n)) ?_
      rw [show ss.toArray[i]? = some ss[i] by rw [List.getElem?_toArray, List.getElem?_eq_getElem hlt]]
      refine goes_bind (a := ()) (s₁ := ⟨hp pre (dictO (es ++ [ss[i]]) (n + 1) :: (mid ++ [dictO ss sn])) life, gens, drawn, toks, os⟩) (q₁ := pos) (goes_holding ?_) (goes_bind (goes_epoch (gs _ _)) ?_)
      · unfold dictPut
        rw [show (4 : Nat) = 1 + 3 from rfl]
        rw [e1, e2]
        refine goes_bind (goes_find (es := es) (n := n) (gm es n) hfr) ?_
        have h := goes_updKeys (p := p) (w := w) (n₀ := n₀) (ann := ann) (code := code) (B := B) (part := none) (f := (·.push ⟨kk, .int kk tt, ss[i].val⟩)) (es := es) (n := n) (s := ⟨hp pre (dictO es n :: (mid ++ [dictO ss sn])) life, gens, drawn, toks, os⟩) (q := pos) (gm es n) hd (by rw [Array.size_push, List.size_toArray]; omega)
        have e : (hp pre (dictO es n :: (mid ++ [dictO ss sn])) life).update pre.length (Obj.mapDictKeys (·.push ⟨kk, .int kk tt, ss[i].val⟩)) = hp pre (dictO (es ++ [ss[i]]) (n + 1) :: (mid ++ [dictO ss sn])) life := by
          have h0 := hp_update (pre := pre) (l := dictO es n :: (mid ++ [dictO ss sn])) (life := life) (i := 0) (f := Obj.mapDictKeys (·.push ⟨kk, .int kk tt, ss[i].val⟩))
          rw [Nat.add_zero] at h0
          rw [h0, modify_mid]
          have e3 : ss[i] = ⟨kk, .int kk tt, ss[i].val⟩ := by
            generalize ss[i] = z at e1 e2
            obtain ⟨a, b, c⟩ := z
            simp only at e1 e2
            rw [e1, e2]
          show hp pre ((⟨.type "dict", none, .dict (es.toArray.push _) (n + 1), #[]⟩ : Obj) :: _) life = _
          rw [List.push_toArray, ← e3]
        dsimp only at h
        rw [e] at h
        exact h
      · show Goes p w n₀ ann code B (if (sn != sn) = true then _ else _) _ pos _ _ pos 0
        rw [if_neg (by simp)]
        exact goes_pure
    · rw [show es ++ ss[i] :: List.drop (i + 1) ss = es ++ [ss[i]] ++ List.drop (i + 1) ss by rw [List.append_assoc]; rfl, show n + (k + 1) = n + 1 + k by omega]
      exact ih

theorem goes_merge {pos : Pos} {pre mid : List Obj} {life : Life} {gens : Array GenState} {drawn : Drawn} {os : OsState} (hd : n₀ ≤ pre.length) {ss : List DictEntry} {sn : Nat} {toks : Nat} (hs : ∀ e ∈ ss, IntEnt e) {es : List DictEntry} {n : Nat}
    (hz : es.length + ss.length < sizeLine) (hn : (es.map (·.hash) ++ ss.map (·.hash)).Nodup) (he : es ≠ []) (hsm : (pre.length + (mid.length + 1) == sysModules) = false) :
    Goes p w n₀ ann code B (mergeMapping pre.length (.ref (pre.length + (mid.length + 1))) false) ⟨hp pre (dictO es n :: (mid ++ [dictO ss sn])) life, gens, drawn, toks, os⟩ pos ()
      ⟨hp pre (dictO (es ++ ss) (n + ss.length) :: (mid ++ [dictO ss sn])) life, gens, drawn, toks, os⟩ pos (5 + 6 * ss.length) := by
  run_tac mark
  have gm : (hp pre (dictO es n :: (mid ++ [dictO ss sn])) life).get? pre.length = some (dictO es n) := hp_get (i := 0) rfl rfl
  have gs : (hp pre (dictO es n :: (mid ++ [dictO ss sn])) life).get? (pre.length + (mid.length + 1)) = some (dictO ss sn) := hp_get (i := mid.length + 1) (by
      rw [List.getElem?_cons_succ, List.getElem?_append_right (Nat.le_refl _), Nat.sub_self]; rfl) rfl
  have ht : Goes p w n₀ ann code B (typeOf (.ref (pre.length + (mid.length + 1)))) ⟨hp pre (dictO es n :: (mid ++ [dictO ss sn])) life, gens, drawn, toks, os⟩ pos (.type "dict") ⟨hp pre (dictO es n :: (mid ++ [dictO ss sn])) life, gens, drawn, toks, os⟩ pos 1 :=
    goes_bind (k := 0) (goes_load gs) goes_pure
  unfold mergeMapping
  rw [show 5 + 6 * ss.length = (1 + 0) + ((1 + 0) + (0 + (1 + (1 + (1 + (6 * ss.length + 0)))))) by omega]
  refine goes_bind (a := true) (s₁ := ⟨hp pre (dictO es n :: (mid ++ [dictO ss sn])) life, gens, drawn, toks, os⟩) (q₁ := pos) ?_ ?_
  · unfold isInstance
    refine goes_bind ht ?_
    rw [sub_dict]
    exact goes_pure
  rw [if_pos rfl]
  refine goes_bind (a := some (.builtin "dict.__iter__")) (s₁ := ⟨hp pre (dictO es n :: (mid ++ [dictO ss sn])) life, gens, drawn, toks, os⟩) (q₁ := pos) ?_ ?_
  · unfold specialOf
    refine goes_bind ht ?_
    rw [iter_dict]
    exact goes_pure
  refine goes_bind goes_pure ?_
  have : ((some (Value.builtin "dict.__iter__") == some (.builtin "dict.__iter__")) = true) := by decide
  rw [this]
  dsimp only
  rw [hsm]
  rw [if_neg Bool.false_ne_true]
  refine goes_bind (goes_entries gm) ?_
  rw [if_neg (by
      cases es with
      | nil => exact absurd rfl he
      | cons a l => simp [Array.isEmpty])]
  refine goes_bind (goes_entries gs) ?_
  refine goes_bind (goes_epoch gs) ?_
  have h := goes_mergeLoop (p := p) (w := w) (ann := ann) (code := code) (B := B) (pos := pos) (mid := mid) (life := life) (gens := gens) (drawn := drawn) (os := os) (toks := toks) (sn := sn) hd hs ss.length 0 es n (by omega) hz (by rw [List.drop_zero]; exact hn)
  rw [List.drop_zero] at h
  rw [List.size_toArray, List.range_eq_range']
  exact goes_bind h goes_pure
  run_tac squeeze

noncomputable abbrev DispIt := Option (Sem Value) × Sem Value
noncomputable abbrev DispSt := Option Addr × List (Sem Value × Sem Value)
noncomputable def itemsOf (pos : Pos) (l : List (Int × Str)) : List DispIt := l.map fun e => (some (itemK pos e).1, (itemK pos e).2)
structure IsDisp (bd : DispIt → DispSt → Sem (ForInStep DispSt)) (fl : DispSt → Sem (Option Addr)) : Prop where
  step : ∀ k v (st : DispSt), bd (some k, v) st = if ((st.2 ++ [(k, v)]).length == 17) = true then (fl (st.1, st.2 ++ [(k, v)]) >>= fun m => pure (.yield (m, []))) else pure (.yield (st.1, st.2 ++ [(k, v)]))
  nil : ∀ m, fl (m, []) = pure m
  first : ∀ a l, fl (none, a :: l) = (subDict (a :: l) >>= fun d => pure (some d))
  more : ∀ a l d, ∃ H : Addr → Value → Sem Unit, fl (some d, a :: l) = (holding [.ref d] (subDict (a :: l)) >>= fun sub => ((holding [.ref d, .ref sub] (mergeMapping d (.ref sub) false)).onRaise (H sub)) >>= fun _ => pure (some d))
variable {bd : DispIt → DispSt → Sem (ForInStep DispSt)} {fl : DispSt → Sem (Option Addr)}
theorem disp_acc (D : IsDisp bd fl) {pos : Pos} {rest : List DispIt} {main : Option Addr} : ∀ (l : List (Int × Str)) (run : List (Sem Value × Sem Value)), run.length + l.length < 17 →
    (forIn (itemsOf pos l ++ rest) (main, run) bd : Sem DispSt) = forIn rest (main, run ++ l.map (itemK pos)) bd
  | [], run, _ => by rw [List.map_nil, List.append_nil]; rfl
  | e :: l, run, h => by
    have e1 : itemsOf pos (e :: l) ++ rest = (some (itemK pos e).1, (itemK pos e).2) :: (itemsOf pos l ++ rest) := rfl
    rw [e1, List.forIn_cons, D.step]
    rw [List.length_cons] at h
    rw [if_neg (by
      rw [List.length_append]
      simp only [List.length_cons, List.length_nil, beq_iff_eq]
      omega)]
    show forIn (itemsOf pos l ++ rest) (main, run ++ [itemK pos e]) bd = _
    rw [disp_acc D l _ (by rw [List.length_append]; simp only [List.length_cons, List.length_nil]; omega), List.map_cons, List.append_assoc]
    rfl

theorem goes_chunk (D : IsDisp bd fl) {pos q q₁ q₂ : Pos} {rest : List DispIt} {main : Option Addr} {c : List (Int × Str)} (hc : c.length = 17) {s s₁ s₂ : Shared} {m : Option Addr} {r : DispSt} {n k : Nat}
    (h : Goes p w n₀ ann code B (fl (main, c.map (itemK pos))) s q m s₁ q₁ n) (h2 : Goes p w n₀ ann code B (forIn rest (m, []) bd) s₁ q₁ r s₂ q₂ k) :
    Goes p w n₀ ann code B (forIn (itemsOf pos c ++ rest) (main, []) bd) s q r s₂ q₂ (n + k) := by
  run_tac mark
  have hne : c ≠ [] := by intro e; rw [e] at hc; cases hc
  have hd := List.dropLast_concat_getLast hne
  have hl : c.dropLast.length = 16 := by rw [List.length_dropLast, hc]
  have e1 : itemsOf pos c ++ rest = itemsOf pos c.dropLast ++ ((some (itemK pos (c.getLast hne)).1, (itemK pos (c.getLast hne)).2) :: rest) := by
    conv => lhs; rw [← hd]
    unfold itemsOf
    rw [List.map_append, List.append_assoc]
    rfl
  rw [e1, disp_acc D _ [] (by rw [hl]; decide), List.nil_append, List.forIn_cons, D.step]
  have e2 : (c.dropLast.map (itemK pos) ++ [((itemK pos (c.getLast hne)).1, (itemK pos (c.getLast hne)).2)]) = c.map (itemK pos) := by
    conv => rhs; rw [← hd]
    rw [List.map_append]
    rfl
  dsimp only
  rw [e2, if_pos (by rw [List.length_map, hc]; rfl)]
  refine goes_bind (n := n) (a := ForInStep.yield (m, [])) (s₁ := s₁) (q₁ := q₁) ?_ ?_
  · exact goes_bind (k := 0) h goes_pure
  · exact h2
  run_tac squeeze

/-- what the runs leave: the main's entries and epoch, the sub dicts, the tokens -/
structure DS where
  es : List DictEntry
  n : Nat
  mid : List Obj
  toks : Nat
noncomputable def DS.next (x : DS) (c : List (Int × Str)) : DS := ⟨x.es ++ entsLong c x.toks, x.n + c.length, x.mid ++ [dictO (entsLong c x.toks) c.length], x.toks + 3 * c.length⟩
noncomputable def DS.last (x : DS) (c : List (Int × Str)) : DS := ⟨x.es ++ entsShort c x.toks, x.n + c.length, x.mid ++ [dictO (entsShort c x.toks) c.length], x.toks + 3 * c.length⟩
noncomputable def DS.heap (pre : List Obj) (life : Life) (x : DS) : Heap := hp pre (dictO x.es x.n :: x.mid) life
theorem intEnt_long (l : List (Int × Str)) : ∀ (tk : Nat), ∀ e ∈ entsLong l tk, IntEnt e := by
  run_tac mark
  induction l with
  | nil => intro tk e h; exact absurd h (List.not_mem_nil)
  | cons a r ih =>
    obtain ⟨k, v⟩ := a
    intro tk e h
    rcases List.mem_cons.mp h with h | h
    · rw [h]; exact ⟨k, tk, rfl, rfl⟩
    · exact ih _ e h
  run_tac squeeze

theorem intEnt_short (l : List (Int × Str)) : ∀ (tk : Nat), ∀ e ∈ entsShort l tk, IntEnt e := by
  run_tac mark
  induction l with
  | nil => intro tk e h; exact absurd h (List.not_mem_nil)
  | cons a r ih =>
    obtain ⟨k, v⟩ := a
    intro tk e h
    rcases List.mem_cons.mp h with h | h
    · rw [h]; exact ⟨k, tk, rfl, rfl⟩
    · exact ih _ e h
  run_tac squeeze

theorem goes_flushMore (D : IsDisp bd fl) (hB : 0 < B.length) {pos : Pos} {pre : List Obj} {life : Life} {gens : Array GenState} {drawn : Drawn} {os : OsState} (hd : n₀ ≤ pre.length) (hpre : 2 < pre.length) (x : DS) {c : List (Int × Str)}
    (hk : ∀ e ∈ c, 0 ≤ e.1 ∧ e.1 < 2 ^ 60) (hz : x.es.length + c.length < sizeLine) (hn : (x.es.map (·.hash) ++ c.map (·.1)).Nodup) (he : x.es ≠ []) (hl : 15 < c.length) :
    Goes p w n₀ ann code B (fl (some pre.length, c.map (itemK pos))) ⟨x.heap pre life, gens, drawn, x.toks, os⟩ pos (some pre.length) ⟨(x.next c).heap pre life, gens, drawn, (x.next c).toks, os⟩ pos (2 + 13 * c.length + (5 + 6 * c.length)) := by
  run_tac mark
  have hnc : (c.map (·.1)).Nodup := (List.nodup_append.mp hn).2.1
  obtain ⟨a, l, hal⟩ : ∃ a l, c.map (itemK pos) = a :: l := by
    cases c with
    | nil => cases hl
    | cons a l => exact ⟨_, _, rfl⟩
  obtain ⟨H, hH⟩ := D.more a l pre.length
  rw [hal, hH, ← hal]
  refine goes_bind (goes_holding (goes_subLong (ls := dictO x.es x.n :: x.mid) hB hd hk (by omega) hnc hl)) ?_
  have e1 : pre.length + (dictO x.es x.n :: x.mid).length = pre.length + (x.mid.length + 1) := rfl
  rw [e1]
  have h := goes_merge (p := p) (w := w) (n₀ := n₀) (ann := ann) (code := code) (B := B) (pos := pos) (pre := pre) (mid := x.mid) (life := life) (gens := gens) (drawn := drawn) (os := os) hd (ss := entsLong c x.toks) (sn := c.length) (toks := x.toks + 3 * c.length) (intEnt_long c _) (es := x.es) (n := x.n)
    (by rw [entsLong_length]; exact hz) (by rw [entsLong_hash]; exact hn) he (beq_eq_false_iff_ne.mpr (by show _ ≠ 1; omega))
  rw [entsLong_length] at h
  exact goes_bind (k := 0) (goes_onRaise (goes_holding h)) goes_pure
  run_tac squeeze

theorem goes_flushLast (D : IsDisp bd fl) (hB : 0 < B.length) {pos : Pos} {pre : List Obj} {life : Life} {gens : Array GenState} {drawn : Drawn} {os : OsState} (hd : n₀ ≤ pre.length) (hpre : 2 < pre.length) (x : DS) {c : List (Int × Str)}
    (hk : ∀ e ∈ c, 0 ≤ e.1 ∧ e.1 < 2 ^ 60) (hz : x.es.length + c.length < sizeLine) (hn : (x.es.map (·.hash) ++ c.map (·.1)).Nodup) (he : x.es ≠ []) (hl : c.length ≤ 15) (hl0 : c ≠ []) :
    Goes p w n₀ ann code B (fl (some pre.length, c.map (itemK pos))) ⟨x.heap pre life, gens, drawn, x.toks, os⟩ pos (some pre.length) ⟨(x.last c).heap pre life, gens, drawn, (x.last c).toks, os⟩ pos (1 + 13 * c.length + (5 + 6 * c.length)) := by
  run_tac mark
  have hnc : (c.map (·.1)).Nodup := (List.nodup_append.mp hn).2.1
  obtain ⟨a, l, hal⟩ : ∃ a l, c.map (itemK pos) = a :: l := by
    cases c with
    | nil => exact absurd rfl hl0
    | cons a l => exact ⟨_, _, rfl⟩
  obtain ⟨H, hH⟩ := D.more a l pre.length
  rw [hal, hH, ← hal]
  refine goes_bind (goes_holding (goes_subShort (ls := dictO x.es x.n :: x.mid) hB hd hk (by omega) hnc hl)) ?_
  have e1 : pre.length + (dictO x.es x.n :: x.mid).length = pre.length + (x.mid.length + 1) := rfl
  rw [e1]
  have h := goes_merge (p := p) (w := w) (n₀ := n₀) (ann := ann) (code := code) (B := B) (pos := pos) (pre := pre) (mid := x.mid) (life := life) (gens := gens) (drawn := drawn) (os := os) hd (ss := entsShort c x.toks) (sn := c.length) (toks := x.toks + 3 * c.length) (intEnt_short c _) (es := x.es) (n := x.n)
    (by rw [entsShort_length]; exact hz) (by rw [entsShort_hash]; exact hn) he (beq_eq_false_iff_ne.mpr (by show _ ≠ 1; omega))
  rw [entsShort_length] at h
  exact goes_bind (k := 0) (goes_onRaise (goes_holding h)) goes_pure
  run_tac squeeze

noncomputable def chunkSteps : List (List (Int × Str)) → Nat
  | [] => 0
  | c :: r => 2 + 13 * c.length + (5 + 6 * c.length) + chunkSteps r
theorem DS.next_hash (x : DS) (c : List (Int × Str)) : (x.next c).es.map (·.hash) = x.es.map (·.hash) ++ c.map (·.1) := by
  run_tac mark
  show (x.es ++ entsLong c x.toks).map _ = _
  rw [List.map_append, entsLong_hash]
  run_tac squeeze

theorem DS.next_length (x : DS) (c : List (Int × Str)) : (x.next c).es.length = x.es.length + c.length := by
  run_tac mark
  show (x.es ++ entsLong c x.toks).length = _
  rw [List.length_append, entsLong_length]
  run_tac squeeze

theorem goes_chunks (D : IsDisp bd fl) (hB : 0 < B.length) {pos : Pos} {pre : List Obj} {life : Life} {gens : Array GenState} {drawn : Drawn} {os : OsState} (hd : n₀ ≤ pre.length) (hpre : 2 < pre.length) (cl : List (Int × Str)) (hcl : cl.length < 17) : ∀ (cs : List (List (Int × Str))) (x : DS),
    (∀ c ∈ cs, c.length = 17 ∧ ∀ e ∈ c, 0 ≤ e.1 ∧ e.1 < 2 ^ 60) → x.es.length + (cs.map (·.length)).sum < sizeLine → (x.es.map (·.hash) ++ (cs.map (·.map (·.1))).flatten).Nodup → x.es ≠ [] →
    Goes p w n₀ ann code B (forIn ((cs.map (itemsOf pos)).flatten ++ itemsOf pos cl) (some pre.length, []) bd) ⟨x.heap pre life, gens, drawn, x.toks, os⟩ pos (some pre.length, cl.map (itemK pos))
      ⟨(cs.foldl DS.next x).heap pre life, gens, drawn, (cs.foldl DS.next x).toks, os⟩ pos (chunkSteps cs)
  | [], x, _, _, _, _ => by
    show Goes p w n₀ ann code B (forIn (itemsOf pos cl) (some pre.length, []) bd) _ _ _ _ _ 0
    have := disp_acc D (pos := pos) (rest := []) (main := some pre.length) cl [] (by simpa using hcl)
    rw [List.append_nil, List.nil_append] at this
    rw [this, List.forIn_nil]
    exact goes_pure
  | c :: cs, x, hk, hz, hn, he => by
    have hc := hk c (.head _)
    rw [List.map_cons, List.flatten_cons, List.append_assoc]
    rw [List.map_cons, List.sum_cons] at hz
    rw [List.map_cons, List.flatten_cons, ← List.append_assoc] at hn
    refine goes_chunk D hc.1 (goes_flushMore D hB hd hpre x hc.2 (by omega) (List.nodup_append.mp hn).1 he (by omega)) ?_
    exact goes_chunks D hB hd hpre cl hcl cs (x.next c) (fun c' h => hk c' (.tail _ h)) (by rw [DS.next_length]; omega) (by rw [DS.next_hash]; exact hn) (by
      show x.es ++ _ ≠ []
      intro q
      exact he (List.append_eq_nil_iff.mp q).1)

theorem display_is : ∃ bd fl, IsDisp bd fl ∧ ∀ items, dictDisplay items = (forIn items ((none, []) : DispSt) bd >>= fun st => fl st >>= fun m => match m with | some d => pure (.ref d) | none => newDict) := by
  run_tac mark
  refine ⟨?bd, ?fl, ?D, ?e⟩
  case e => intro items; unfold dictDisplay; exact rfl
  case D => exact ⟨fun _ _ _ => rfl, fun _ => rfl, fun _ _ => rfl, fun _ _ _ => ⟨_, rfl⟩⟩
  run_tac squeeze

/-- the whole display: a first run, more runs of seventeen, a last short one -/
theorem goes_display (hB : 0 < B.length) {pos : Pos} {pre : List Obj} {life : Life} {gens : Array GenState} {drawn : Drawn} {os : OsState} {toks : Nat} (hd : n₀ ≤ pre.length) (hpre : 2 < pre.length) {c0 cl : List (Int × Str)} {cs : List (List (Int × Str))}
    (h0 : c0.length = 17) (hcs : ∀ c ∈ cs, c.length = 17) (hcl : cl.length ≤ 15) (hcl0 : cl ≠ []) (hk : ∀ e ∈ c0 ++ (cs.flatten ++ cl), 0 ≤ e.1 ∧ e.1 < 2 ^ 60)
    (hz : (c0 ++ (cs.flatten ++ cl)).length < sizeLine) (hn : ((c0 ++ (cs.flatten ++ cl)).map (·.1)).Nodup) :
    Goes p w n₀ ann code B (dictDisplay (itemsOf pos (c0 ++ (cs.flatten ++ cl)))) ⟨hp pre [] life, gens, drawn, toks, os⟩ pos (.ref pre.length)
      ⟨((cs.foldl DS.next ⟨entsLong c0 toks, c0.length, [], toks + 3 * c0.length⟩).last cl).heap pre life, gens, drawn, ((cs.foldl DS.next ⟨entsLong c0 toks, c0.length, [], toks + 3 * c0.length⟩).last cl).toks, os⟩ pos
      (2 + 13 * c0.length + chunkSteps cs + (1 + 13 * cl.length + (5 + 6 * cl.length) + 0)) := by
  run_tac mark
  obtain ⟨bd, fl, D, e⟩ := display_is
  rw [e]
  have hk0 : ∀ e ∈ c0, 0 ≤ e.1 ∧ e.1 < 2 ^ 60 := fun e h => hk e (List.mem_append_left _ h)
  have hkl : ∀ e ∈ cl, 0 ≤ e.1 ∧ e.1 < 2 ^ 60 := fun e h => hk e (List.mem_append_right _ (List.mem_append_right _ h))
  have hkc : ∀ c ∈ cs, c.length = 17 ∧ ∀ e ∈ c, 0 ≤ e.1 ∧ e.1 < 2 ^ 60 := fun c h => ⟨hcs c h, fun e h' => hk e (List.mem_append_right _ (List.mem_append_left _ (List.mem_flatten.mpr ⟨c, h, h'⟩)))⟩
  rw [List.map_append, List.map_append] at hn
  rw [List.length_append, List.length_append, List.length_flatten] at hz
  have hz : c0.length + ((cs.map (fun c => c.length)).sum + cl.length) < sizeLine := hz
  have hn0 := (List.nodup_append.mp hn).1
  obtain ⟨a, l, hal⟩ : ∃ a l, c0.map (itemK pos) = a :: l := by
    cases c0 with
    | nil => cases h0
    | cons a l => exact ⟨_, _, rfl⟩
  have z0 : DS := ⟨entsLong c0 toks, c0.length, [], toks + 3 * c0.length⟩
  have i1 : itemsOf pos (c0 ++ (cs.flatten ++ cl)) = itemsOf pos c0 ++ ((cs.map (itemsOf pos)).flatten ++ itemsOf pos cl) := by
    unfold itemsOf
    rw [List.map_append, List.map_append, List.map_flatten]
  rw [i1]
  have e0 : ∀ l tk, l ≠ [] → entsLong l tk ≠ [] := fun l tk h q => h (by have := entsLong_length l tk; rw [q] at this; exact List.length_eq_zero_iff.mp this.symm)
  have hne0 : c0 ≠ [] := by intro q; rw [q] at h0; cases h0
  have hf : ∀ (cs : List (List (Int × Str))) (x : DS), (cs.foldl DS.next x).es.map (·.hash) = x.es.map (·.hash) ++ cs.flatten.map (·.1) := by
    intro cs
    induction cs with
    | nil => intro x; simp
    | cons c r ih => intro x; rw [List.foldl_cons, ih, DS.next_hash, List.flatten_cons, List.map_append, List.append_assoc]
  have hfl : ∀ (cs : List (List (Int × Str))) (x : DS), (cs.foldl DS.next x).es.length = x.es.length + (cs.map (·.length)).sum := by
    intro cs
    induction cs with
    | nil => intro x; simp
    | cons c r ih => intro x; rw [List.foldl_cons, ih, DS.next_length, List.map_cons, List.sum_cons]; omega
  have hne : ∀ (cs : List (List (Int × Str))) (x : DS), x.es ≠ [] → (cs.foldl DS.next x).es ≠ [] := by
    intro cs x h q
    have := hfl cs x
    rw [q] at this
    exact h (List.length_eq_zero_iff.mp (by simp only [List.length_nil] at this; omega))
  refine goes_bind (goes_chunk D h0 ?_ (goes_chunks (life := life) (gens := gens) (drawn := drawn) (os := os) D hB hd hpre cl (by omega) cs ⟨entsLong c0 toks, c0.length, [], toks + 3 * c0.length⟩ hkc ?_ ?_ (e0 _ _ hne0))) ?_
  · have hfst := D.first a l
    rw [hal, hfst, ← hal]
    have h := goes_subLong (p := p) (w := w) (ann := ann) (code := code) (pos := pos) (ls := []) (life := life) (gens := gens) (drawn := drawn) (os := os) (toks := toks) hB hd hk0 (by omega) hn0 (by omega)
    exact goes_bind (k := 0) h goes_pure
  · show (entsLong c0 toks).length + _ < _
    rw [entsLong_length]; omega
  · show ((entsLong c0 toks).map _ ++ _).Nodup
    rw [entsLong_hash]
    rw [← List.append_assoc] at hn
    have := (List.nodup_append.mp hn).1
    rw [List.map_flatten] at this
    exact this
  · refine goes_bind (goes_flushLast D hB hd hpre _ hkl ?_ ?_ (hne _ _ (e0 _ _ hne0)) hcl hcl0) goes_pure
    · rw [hfl]
      show (entsLong c0 toks).length + _ + _ < _
      rw [entsLong_length]; omega
    · rw [hf]
      show ((entsLong c0 toks).map _ ++ _ ++ _).Nodup
      rw [entsLong_hash, List.append_assoc]; exact hn
  run_tac squeeze

/-- the rest of the statement, when the display is made -/
noncomputable def dispTail (x : Str) (p1 : Pos) (env : Env) (v : Value) : Sem Flow := assignStores env v none [assign (.Name x p1) env]
theorem exec_disp (x : Str) (p1 : Pos) (ks : List (Option Expr)) (vs : List Expr) (p2 p3 : Pos) (env : Env) : exec (.Assign [.Name x p1] (.Dict ks vs p2) p3) env =
    (standAt p3 >>= fun _ => (standAt p2 >>= fun _ => dictDisplay ((evalEachOpt ks env).zip ((evalEach vs env).map fun v => do let x ← v; standAt p2; pure x))) >>= fun v => dispTail x p1 env v) := by
  run_tac mark
  rfl
  run_tac squeeze

noncomputable def incr : Int → List (Int × Str) → Bool
  | _, [] => true
  | a, e :: r => decide (a < e.1) && decide (e.1 < 2 ^ 60) && incr e.1 r
theorem incr_spec : ∀ (l : List (Int × Str)) (a : Int), incr a l = true → (∀ e ∈ l, a < e.1 ∧ e.1 < 2 ^ 60) ∧ (l.map (·.1)).Nodup
  | [], _, _ => ⟨fun _ h => (nomatch h), List.nodup_nil⟩
  | e :: r, a, h => by
    unfold incr at h
    obtain ⟨h, h3⟩ := Bool.and_eq_true_iff.mp h
    obtain ⟨h1, h2⟩ := Bool.and_eq_true_iff.mp h
    have h1 := of_decide_eq_true h1
    have h2 := of_decide_eq_true h2
    obtain ⟨i1, i2⟩ := incr_spec r e.1 h3
    refine ⟨fun e' he => ?_, ?_⟩
    · cases he with
      | head => exact ⟨h1, h2⟩
      | tail _ he => exact ⟨Int.lt_trans h1 (i1 e' he).1, (i1 e' he).2⟩
    · rw [List.map_cons, List.nodup_cons]
      refine ⟨fun hm => ?_, i2⟩
      obtain ⟨e', he, q⟩ := List.mem_map.mp hm
      have := (i1 e' he).1
      rw [q] at this
      exact absurd this (Int.lt_irrefl _)

noncomputable def dispEnd (c0 : List (Int × Str)) (cs : List (List (Int × Str))) (cl : List (Int × Str)) (toks : Nat) : DS := (cs.foldl DS.next ⟨entsLong c0 toks, c0.length, [], toks + 3 * c0.length⟩).last cl
noncomputable def dispObjs (c0 : List (Int × Str)) (cs : List (List (Int × Str))) (cl : List (Int × Str)) (toks : Nat) : List Obj := let x := dispEnd c0 cs cl toks; dictO x.es x.n :: x.mid
noncomputable def dispOk (c0 : List (Int × Str)) (cs : List (List (Int × Str))) (cl : List (Int × Str)) : Bool :=
  Nat.beq c0.length 17 && cs.all (fun c => Nat.beq c.length 17) && Nat.ble cl.length 15 && Nat.ble 1 cl.length && incr (-1) (c0 ++ (cs.flatten ++ cl)) && Nat.ble (c0 ++ (cs.flatten ++ cl)).length 4000
noncomputable def dispSteps (c0 : List (Int × Str)) (cs : List (List (Int × Str))) (cl : List (Int × Str)) : Nat := 1 + (1 + (2 + 13 * c0.length + chunkSteps cs + (1 + 13 * cl.length + (5 + 6 * cl.length) + 0)))

theorem disp_piece {env : Env} {q : Pos} {x : Str} {p1 p2 p3 : Pos} {ks : List (Option Expr)} {vs : List Expr} {c0 cl : List (Int × Str)} {cs : List (List (Int × Str))} {t9 tm : BT} {n9 nm : Nat} {life : Life} {gens : Array GenState} {drawn : Drawn} {toks toks' : Nat} {os : OsState} {N : Nat} {r : Flow × Shared × Code × Pos}
    (hB : 0 < B.length) (hi : (evalEachOpt ks env).zip ((evalEach vs env).map fun v => do let x ← v; standAt p2; pure x) = itemsOf p2 (c0 ++ (cs.flatten ++ cl))) (hn : Nat.ble n₀ n9 = true) (h2 : Nat.ble 3 n9 = true) (ok : dispOk c0 cs cl = true)
    (hh : tm.list nm = t9.list n9 ++ dispObjs c0 cs cl toks) (ht : (dispEnd c0 cs cl toks).toks = toks')
    (rest : segRun treeTable p w n₀ ann 1 N ⟨absHeap tm nm life, gens, drawn, toks', os⟩ ⟨(dispTail x p1 env (.ref n9)).wrap (fun f => match f with | .next => (execs [] env).wrap doneF deadEnd id id | f => doneF f) deadEnd id id, code, p2, B⟩ = some r) :
    segRun treeTable p w n₀ ann 1 (dispSteps c0 cs cl + N) ⟨absHeap t9 n9 life, gens, drawn, toks, os⟩ (piecesOf [.Assign [.Name x p1] (.Dict ks vs p2) p3] env code q B) = some r := by
  run_tac mark
  unfold dispOk at ok
  simp only [Bool.and_eq_true, List.all_eq_true] at ok
  obtain ⟨⟨⟨⟨⟨o1, o2⟩, o3⟩, o4⟩, o5⟩, o6⟩ := ok
  have hlen : (t9.list n9).length = n9 := by unfold BT.list; rw [List.length_map, List.length_range]
  obtain ⟨i1, i2⟩ := incr_spec _ _ o5
  have hsl : (4000 : Nat) < sizeLine := by decide
  have g := goes_display (p := p) (w := w) (n₀ := n₀) (ann := ann) (code := code) (B := B) hB (pos := p2) (pre := t9.list n9) (life := life) (gens := gens) (drawn := drawn) (os := os) (toks := toks) (by rw [hlen]; exact Nat.le_of_ble_eq_true hn) (by rw [hlen]; exact Nat.le_of_ble_eq_true h2) (c0 := c0) (cl := cl) (cs := cs)
    (Nat.eq_of_beq_eq_true o1) (fun c h => Nat.eq_of_beq_eq_true (o2 c h)) (Nat.le_of_ble_eq_true o3) (fun e => by rw [e] at o4; cases o4) (fun e he => ⟨by have := (i1 e he).1; omega, (i1 e he).2⟩) (Nat.lt_of_le_of_lt (Nat.le_of_ble_eq_true o6) hsl) i2
  rw [hlen] at g
  rw [← hi] at g
  have e0 : hp (t9.list n9) [] life = absHeap t9 n9 life := by show Heap.mk _ _ = Heap.mk _ _; rw [List.append_nil]
  have e1 : (dispEnd c0 cs cl toks).heap (t9.list n9) life = absHeap tm nm life := by
    show Heap.mk _ _ = Heap.mk _ _
    rw [hh]
    rfl
  rw [e0] at g
  have g' : Goes p w n₀ ann code B (dictDisplay ((evalEachOpt ks env).zip ((evalEach vs env).map fun v => do let x ← v; standAt p2; pure x))) ⟨absHeap t9 n9 life, gens, drawn, toks, os⟩ p2 (.ref n9) ⟨absHeap tm nm life, gens, drawn, toks', os⟩ p2 (2 + 13 * c0.length + chunkSteps cs + (1 + 13 * cl.length + (5 + 6 * cl.length) + 0)) := by
    rw [← ht, ← e1]; exact g
  refine seg_go (s' := ⟨absHeap tm nm life, gens, drawn, toks', os⟩) (t' := ⟨(dispTail x p1 env (.ref n9)).wrap (fun f => match f with | .next => (execs [] env).wrap doneF deadEnd id id | f => doneF f) deadEnd id id, code, p2, B⟩) ?_ rest
  unfold piecesOf
  rw [execs_cons_wrap, exec_disp, Sem.bind_eq_wrap', Sem.wrap_wrap]
  unfold dispSteps
  rw [segGo_add ((goes_at (p := p) (w := w) (n₀ := n₀) (ann := ann) (code := code) (B := B) (s := ⟨absHeap t9 n9 life, gens, drawn, toks, os⟩) (q := q) (q' := p3)) _ _ _ _)]
  rw [Sem.bind_eq_wrap', Sem.wrap_wrap, Sem.bind_eq_wrap', Sem.wrap_wrap]
  rw [segGo_add ((goes_at (p := p) (w := w) (n₀ := n₀) (ann := ann) (code := code) (B := B) (s := ⟨absHeap t9 n9 life, gens, drawn, toks, os⟩) (q := p3) (q' := p2)) _ _ _ _)]
  exact g' _ _ _ _
  run_tac squeeze

end
end
theorem quietDisp : True := by
  run_tac quiet
  trivial
-- SetL
section
open PySem PySem.W PySem.Calls PyProof.Rows

section
variable {p : Program} {w : World} {n₀ : Nat} {ann : Option Value} {code : Code} {B : List Frame}

noncomputable abbrev iterO (l : Addr) (i : Nat) : Obj := ⟨.type "list_iterator", none, .fields #[.ref l, .int (i : Int) 0], #[]⟩
noncomputable abbrev listO (xs : List Value) (n : Nat) : Obj := ⟨.type "list", none, .seq xs.toArray n, #[]⟩
noncomputable abbrev setO (es : Array (Int × Value)) (n : Nat) (t : SetTable) : Obj := ⟨.type "set", none, .set es n t, #[]⟩

theorem next_look : typeLookup (.type "list_iterator") "__next__" = (pure (some (.builtin "list_iterator.__next__")) : Sem (Option Value)) := by rw [typeLookup_type, builtinLookup_eq_fast]; kernel_rfl

theorem next_bind (it : Addr) : bindSpecial (.builtin "list_iterator.__next__") (.ref it) = (pure (.builtin "list_iterator.__next__", [.ref it]) : Sem (Value × List Value)) := by kernel_rfl

noncomputable def nextK (it : Addr) : Obj → Sem PySem.Fin := match callAny (.builtin "list_iterator.__next__") ⟨[.ref it], []⟩ with
  | .load _ _ k => k
  | _ => fun _ => .unsupported ""
theorem next_call (it : Addr) : callAny (.builtin "list_iterator.__next__") ⟨[.ref it], []⟩ = .load it (some headPart) (nextK it) := by kernel_rfl

theorem nextK_is (it : Addr) (d : Option Addr) (dt : Data) (sl : Array (Option Value)) : nextK it ⟨.type "list_iterator", d, dt, sl⟩ = .pure (.again (.builtin "list_iterator.__next__" ⟨[.ref it], []⟩)) := by kernel_rfl

theorem next_entry : entryFor treeTable "list_iterator.__next__" = some Builtin.«list_iterator.__next__» := by rw [← table_eq_tree]; exact entryFor_of_fast (by kernel_rfl)

theorem next_tree (it : Addr) : Builtin.«list_iterator.__next__» ⟨[.ref it], []⟩ = (do
    let seq ← field (.ref it) 0
    if seq == .none then PySem.rule s!"{"list_iterator.__next__"}.ended"; PySem.Builtin.SmallTypes.stopIteration
    let .int i _ ← field (.ref it) 1 | unsupported s!"internal:{"list_iterator.__next__"}"
    let some xs ← seqItems? seq | unsupported s!"internal:{"list_iterator.__next__"}"
    match xs[i.toNat]? with
    | some x => setField (.ref it) 1 (rawInt (i + 1)); ret x
    | none => PySem.rule s!"{"list_iterator.__next__"}.end"; setField (.ref it) 0 .none; PySem.Builtin.SmallTypes.stopIteration) := by rfl

theorem goes_fields {a : Addr} {vs : Array Value} {c : Value} {d : Option Addr} {sl : Array (Option Value)} {i : Nat} {v : Value} {s : Shared} {q : Pos} (ho : s.heap.get? a = some ⟨c, d, .fields vs, sl⟩) (hv : vs[i]? = some v) :
    Goes p w n₀ ann code B (field (.ref a) i) s q v s q 1 := by
  run_tac mark
  unfold field
  refine goes_bind (n := 1) (k := 0) (a := vs) (s₁ := s) (q₁ := q) ?_ ?_
  · unfold fieldsOf
    exact goes_bind (n := 1) (k := 0) (goes_load ho) goes_pure
  · rw [hv]; exact goes_pure
  run_tac squeeze

theorem goes_items {a : Addr} {xs : Array Value} {n : Nat} {c : Value} {d : Option Addr} {sl : Array (Option Value)} {s : Shared} {q : Pos} (ho : s.heap.get? a = some ⟨c, d, .seq xs n, sl⟩) :
    Goes p w n₀ ann code B (seqItems? (.ref a)) s q (some xs) s q 1 := goes_bind (n := 1) (k := 0) (goes_load ho) goes_pure

theorem goes_setField {a : Addr} {vs : Array Value} {c : Value} {d : Option Addr} {sl : Array (Option Value)} {i : Nat} {v : Value} {s : Shared} {q : Pos} (ho : s.heap.get? a = some ⟨c, d, .fields vs, sl⟩) (hi : i < vs.size) (ha : n₀ ≤ a) :
    Goes p w n₀ ann code B (setField (.ref a) i v) s q () { s with heap := s.heap.update a (Obj.mapFields (·.setIfInBounds i v)) } q 2 := by
  run_tac mark
  unfold setField updateField
  refine goes_bind (n := 1) (k := 1) (goes_load ho) ?_
  dsimp only
  rw [if_pos hi]
  exact goes_update ho ha
  run_tac squeeze

/-- the six steps of the iterator's own code, under a frame -/
theorem goes_nextBody {l it : Addr} {i n : Nat} {xs : List Value} {x : Value} {s : Shared} {q : Pos} (hit : s.heap.get? it = some (iterO l i)) (hl : s.heap.get? l = some (listO xs n)) (hx : xs[i]? = some x) (ha : n₀ ≤ it) :
    Goes p w n₀ ann code B (Builtin.«list_iterator.__next__» ⟨[.ref it], []⟩) s q (.done (.ret x)) { s with heap := s.heap.update it (Obj.mapFields (·.setIfInBounds 1 (rawInt ((i : Int) + 1)))) } q 5 := by
  run_tac mark
  rw [next_tree]
  refine goes_bind (n := 1) (k := 4) (goes_fields hit rfl) ?_
  dsimp only
  rw [if_neg (by simp)]
  refine goes_bind (n := 1) (k := 3) (a := .int (i : Int) 0) (goes_fields hit rfl) ?_
  refine goes_bind (n := 1) (k := 2) (goes_items hl) ?_
  dsimp only
  rw [Int.toNat_natCast, List.getElem?_toArray, hx]
  refine goes_bind (n := 2) (k := 0) (goes_setField (i := 1) (v := rawInt ((i : Int) + 1)) hit (by show 1 < 2; omega) ha) ?_
  exact goes_pure
  run_tac squeeze

theorem next_inner {l it : Addr} {i n : Nat} {xs : List Value} {x : Value} {heap : Heap} {gens : Array GenState} {drawn : Drawn} {toks : Nat} {os : OsState} {q p₀ : Pos} {kk : Result → Sem PySem.Fin} {hd : Option Value} {g : Bool} {lv kept : List Value} {c cd : Code} (hB : 0 < B.length)
    (hit : heap.get? it = some (iterO l i)) (hl : heap.get? l = some (listO xs n)) (hx : xs[i]? = some x) (ha : n₀ ≤ it) :
    segGo treeTable p w n₀ ann 1 8 ⟨heap, gens, drawn, toks, os⟩ ⟨denote treeTable (.call (.builtin "list_iterator.__next__") ⟨[.ref it], []⟩), c, q, .ret kk hd g lv cd p₀ kept :: B⟩ =
      some (⟨heap.update it (Obj.mapFields (·.setIfInBounds 1 (rawInt ((i : Int) + 1)))), gens, drawn, toks, os⟩, ⟨kk (.ok (.ret x)), cd, p₀, B⟩) := by
  run_tac mark
  have hlen : ∀ kept : List Value, ((.ret kk hd g lv cd p₀ kept :: B : List Frame).length == 1) = false := fun _ => by rw [beq_eq_false_iff_ne, List.length_cons]; omega
  have e1 : denote treeTable (.call (.builtin "list_iterator.__next__") ⟨[.ref it], []⟩) = .load it (some headPart) (nextK it) := next_call it
  rw [e1]
  refine (segGo_step (s' := ⟨heap, gens, drawn, toks, os⟩) (t' := ⟨nextK it (iterO l i), c, q, .ret kk hd g lv cd p₀ kept :: B⟩) (endAt_none (by intro f e; cases e)) rfl (by simp only [step]; rw [hit])).trans ?_
  rw [nextK_is]
  refine (segGo_step (s' := ⟨heap, gens, drawn, toks, os⟩) (t' := ⟨denote treeTable (.builtin "list_iterator.__next__" ⟨[.ref it], []⟩), .builtin "list_iterator.__next__" ⟨[.ref it], []⟩, q, .ret kk hd g lv cd p₀ (keptBy c (.builtin "list_iterator.__next__" ⟨[.ref it], []⟩) lv kept) :: B⟩) ?_ ?_ ?_).trans ?_
  · unfold endAt; dsimp only; split <;> first | rfl | (rename_i h; cases h)
  · show (Thread.calm _ && true) = true
    rw [Bool.and_true]
    unfold Thread.calm Thread.atCollectorCode Thread.yieldsInsideHandler
    dsimp only
    rw [show ("list_iterator.__next__".startsWith "lifetime.") = false by decide +kernel]
    rfl
  · exact step_again
  have e : ∀ (id : String) (args : Args), denote treeTable (.builtin id args) = (match entryFor treeTable id with
    | some b => b args
    | none => unsupported ((withoutEnding? id "#data").getD id)) := fun _ _ => rfl
  rw [e, next_entry]
  dsimp only
  have h := goes_nextBody (p := p) (w := w) (n₀ := n₀) (ann := ann) (code := .builtin "list_iterator.__next__" ⟨[.ref it], []⟩) (B := .ret kk hd g lv cd p₀ (keptBy c (.builtin "list_iterator.__next__" ⟨[.ref it], []⟩) lv kept) :: B) (s := ⟨heap, gens, drawn, toks, os⟩) (q := q) hit hl hx ha Sem.pure Sem.raise id id
  have wr : ∀ (m : Sem PySem.Fin), m.wrap Sem.pure Sem.raise id id = m := fun m => by
    rw [← Sem.bind_eq_wrap]
    exact bind_pure m
  rw [wr] at h
  rw [show (6 : Nat) = 5 + 1 from rfl, segGo_add h]
  refine (segGo_step ?_ rfl rfl).trans rfl
  unfold endAt
  dsimp only
  rw [hlen]
  run_tac squeeze

theorem goes_nextCall {l it : Addr} {i n : Nat} {xs : List Value} {x : Value} {s : Shared} {q : Pos} (hB : 0 < B.length) (hit : s.heap.get? it = some (iterO l i)) (hl : s.heap.get? l = some (listO xs n)) (hx : xs[i]? = some x) (ha : n₀ ≤ it) :
    Goes p w n₀ ann code B (PySem.call (.builtin "list_iterator.__next__") [.ref it]) s q x { s with heap := s.heap.update it (Obj.mapFields (·.setIfInBounds 1 (rawInt ((i : Int) + 1)))) } q 9 := fun K H gd lv => by
  obtain ⟨heap, gens, drawn, toks, os⟩ := s
  refine (segGo_step (endAt_none (by intro f e; cases e)) rfl rfl).trans ?_
  exact next_inner hB hit hl hx ha

theorem goes_pyNext {l it : Addr} {i n : Nat} {xs : List Value} {x : Value} {s : Shared} {q : Pos} (hB : 0 < B.length) (hit : s.heap.get? it = some (iterO l i)) (hl : s.heap.get? l = some (listO xs n)) (hx : xs[i]? = some x) (ha : n₀ ≤ it) :
    Goes p w n₀ ann code B (pyNext (.ref it)) s q (some x) { s with heap := s.heap.update it (Obj.mapFields (·.setIfInBounds 1 (rawInt ((i : Int) + 1)))) } q 10 := by
  run_tac mark
  unfold pyNext
  refine goes_bind (n := 10) (k := 0) (a := .ok (some x)) ?_ goes_pure
  unfold Sem.attempt
  refine goes_catch (goes_bind (n := 10) (k := 0) (a := some x) ?_ goes_pure)
  unfold callSpecial?
  refine goes_bind (n := 1) (k := 9) (a := some (.builtin "list_iterator.__next__")) (s₁ := s) (q₁ := q) ?_ ?_
  · unfold specialOf
    refine goes_bind (n := 1) (k := 0) (a := .type "list_iterator") (s₁ := s) (q₁ := q) (goes_bind (n := 1) (k := 0) (goes_load hit) goes_pure) ?_
    rw [next_look]
    exact goes_pure
  · refine goes_holding ?_
    rw [next_bind]
    show Goes p w n₀ ann code B (PySem.call (.builtin "list_iterator.__next__") [.ref it] >>= fun v => pure (some v)) _ _ _ _ _ 9
    exact goes_bind (n := 9) (k := 0) (goes_nextCall hB hit hl hx ha) goes_pure
  run_tac squeeze

/-- a set's store of ints in the making -/
structure SS where
  es : Array (Int × Value)
  n : Nat
  t : SetTable
noncomputable def SS.obj (x : SS) : Obj := setO x.es x.n x.t
/-- one addition, by the model's own pure parts -/
noncomputable def SS.add (x : SS) (h : Int) (v : Value) : SS :=
  let r := layNew x.t x.es h v
  if (!r.2.2.1 && r.2.1.tooFull) = true then
    let q := relayAll r.2.1 r.1 (SetTable.grown r.1.size)
    ⟨q.1, x.n + 2, q.2.1⟩
  else ⟨r.1, x.n + 1, r.2.1⟩
structure SS.Ok (x : SS) (l : List Int) : Prop where
  allInt : ∀ e ∈ x.es.toList, ∃ k t, e = (k, Value.int k t)
  mem : ∀ k, (∃ e ∈ x.es.toList, e.1 = k) ↔ k ∈ l
  fits : x.t.fits x.es.size = true
  size : x.es.size = l.length

theorem insertAt_list {α : Type} (xs : Array α) (q : Nat) (x : α) : (SetTable.insertAt xs q x).toList = xs.toList.take q ++ x :: xs.toList.drop q := by
  run_tac mark
  unfold SetTable.insertAt
  rw [Array.toList_append, Array.toList_push, Array.toList_extract, Array.toList_extract]
  simp [List.extract_eq_take_drop]
  exact List.take_of_length_le (by rw [List.length_drop, Array.length_toList]; omega)
  run_tac squeeze

theorem standIn_fits (t : SetTable) (n : Nat) : (t.standIn n).fits n = true := by
  run_tac mark
  unfold SetTable.standIn SetTable.fits SetTable.fill
  simp
  omega
  run_tac squeeze

theorem orStandIn_fits (t : SetTable) (n : Nat) : (t.orStandIn n).fits n = true := by
  run_tac mark
  unfold SetTable.orStandIn
  split
  · assumption
  · exact standIn_fits t n
  run_tac squeeze

theorem filterMap_range' {α : Type} (l : List α) : ∀ (k s : Nat), s + k = l.length → (List.range' s k).filterMap (fun i => l[i]?) = l.drop s
  | 0, s, h => by rw [List.drop_eq_nil_of_le (by omega)]; rfl
  | k + 1, s, h => by
    have hlt : s < l.length := by omega
    rw [List.range'_succ, List.filterMap_cons, List.getElem?_eq_getElem hlt]
    dsimp only
    rw [filterMap_range' l k (s + 1) (by omega), ← List.drop_eq_getElem_cons hlt]

theorem layNew_spec (t : SetTable) (es : Array (Int × Value)) (h : Int) (x : Value) : (∀ e, e ∈ (layNew t es h x).1.toList ↔ e ∈ es.toList ∨ e = (h, x)) ∧ (layNew t es h x).1.size = es.size + 1 ∧ (layNew t es h x).2.1.fits (es.size + 1) = true := by
  run_tac mark
  unfold layNew
  split
  · rename_i slot wasDummy _
    have hl := fun q => insertAt_list es q (h, x)
    have hs : ∀ q, (SetTable.insertAt es q (h, x)).size = es.size + 1 := fun q => by
      rw [← Array.length_toList, hl, List.length_append, List.length_cons, List.length_take, List.length_drop, Array.length_toList]; omega
    refine ⟨fun e => ?_, hs _, ?_⟩
    · dsimp only
      rw [hl, List.mem_append, List.mem_cons]
      constructor
      · rintro (h | h | h)
        · exact .inl (List.mem_of_mem_take h)
        · exact .inr h
        · exact .inl (List.mem_of_mem_drop h)
      · rintro (h | h)
        · rw [← List.take_append_drop (t.put slot).2 es.toList, List.mem_append] at h
          exact h.imp id .inr
        · exact .inr (.inl h)
    · dsimp only
      rw [hs]
      exact orStandIn_fits _ _
  · refine ⟨fun e => ?_, Array.size_push _, standIn_fits _ _⟩
    dsimp only
    rw [Array.toList_push, List.mem_append, List.mem_singleton]
  run_tac squeeze

theorem relayAll_spec (t : SetTable) (es : Array (Int × Value)) (wanted : Nat) : (∀ e, e ∈ (relayAll t es wanted).1.toList ↔ e ∈ es.toList) ∧ (relayAll t es wanted).1.size = es.size ∧ (relayAll t es wanted).2.1.fits es.size = true := by
  run_tac mark
  unfold relayAll
  split
  · rename_i t' order _
    dsimp only
    split
    · rename_i hc
      obtain ⟨h1, h2⟩ := Bool.and_eq_true_iff.mp hc
      have hp : order.toList.Perm (List.range es.size) := List.isPerm_iff.mp h1
      have hp2 : (order.filterMap (es[·]?)).toList.Perm es.toList := by
        rw [Array.toList_filterMap]
        refine (hp.filterMap _).trans ?_
        have e : (fun i => es[i]?) = fun i => es.toList[i]? := funext fun i => (Array.getElem?_toList).symm
        rw [e, List.range_eq_range', filterMap_range' es.toList es.size 0 (by rw [Array.length_toList]; omega), List.drop_zero]
      refine ⟨fun e => hp2.mem_iff, ?_, ?_⟩
      · rw [← Array.length_toList, hp2.length_eq, Array.length_toList]
      · have := hp2.length_eq
        rw [Array.length_toList, Array.length_toList] at this
        rw [this] at h2
        exact h2
    · exact ⟨fun _ => Iff.rfl, rfl, standIn_fits _ _⟩
  · exact ⟨fun _ => Iff.rfl, rfl, standIn_fits _ _⟩
  run_tac squeeze

theorem SS.Ok.add_ok {x : SS} {l : List Int} (o : x.Ok l) (k : Int) (t : Tok) : (x.add k (.int k t)).Ok (l ++ [k]) := by
  run_tac mark
  obtain ⟨h1, h2, h3⟩ := layNew_spec x.t x.es k (.int k t)
  have key : ∀ (es' : Array (Int × Value)) (t' : SetTable) (n : Nat), (∀ e, e ∈ es'.toList ↔ e ∈ x.es.toList ∨ e = (k, .int k t)) → es'.size = x.es.size + 1 → t'.fits (x.es.size + 1) = true → (⟨es', n, t'⟩ : SS).Ok (l ++ [k]) := by
    intro es' t' n g1 g2 g3
    refine ⟨fun e he => ?_, fun q => ?_, by show t'.fits es'.size = true; rw [g2]; exact g3, by show es'.size = _; rw [g2, o.size, List.length_append]; rfl⟩
    · rcases (g1 e).mp he with h | rfl
      · exact o.allInt e h
      · exact ⟨k, t, rfl⟩
    · rw [List.mem_append, List.mem_singleton, ← o.mem]
      constructor
      · rintro ⟨e, he, rfl⟩
        rcases (g1 e).mp he with h | rfl
        · exact .inl ⟨e, h, rfl⟩
        · exact .inr rfl
      · rintro (⟨e, he, rfl⟩ | rfl)
        · exact ⟨e, (g1 e).mpr (.inl he), rfl⟩
        · exact ⟨_, (g1 _).mpr (.inr rfl), rfl⟩
  unfold SS.add
  generalize layNew x.t x.es k (.int k t) = r at h1 h2 h3 ⊢
  dsimp only
  split
  · have sp := relayAll_spec r.2.1 r.1 (SetTable.grown r.1.size)
    generalize relayAll r.2.1 r.1 (SetTable.grown r.1.size) = q at sp ⊢
    obtain ⟨r1, r2, r3⟩ := sp
    exact key _ _ _ (fun e => (r1 e).trans (h1 e)) (r2.trans h2) (by rw [h2] at r3; exact r3)
  · exact key _ _ _ h1 h2 h3
  run_tac squeeze

/-- as Goes, with a bound of the steps -/
noncomputable def GoesLe (p : Program) (w : World) (n₀ : Nat) (ann : Option Value) (code : Code) (B : List Frame) {α : Type} (m : Sem α) (s : Shared) (q : Pos) (a : α) (s' : Shared) (q' : Pos) (N : Nat) : Prop := ∃ n, n ≤ N ∧ Goes p w n₀ ann code B m s q a s' q' n
theorem Goes.le {α : Type} {m : Sem α} {s : Shared} {q : Pos} {a : α} {s' : Shared} {q' : Pos} {n : Nat} (h : Goes p w n₀ ann code B m s q a s' q' n) : GoesLe p w n₀ ann code B m s q a s' q' n := ⟨n, Nat.le_refl _, h⟩

theorem goesLe_bind {α β : Type} {m : Sem α} {f : α → Sem β} {s s₁ s₂ : Shared} {q q₁ q₂ : Pos} {a : α} {b : β} {n k : Nat}
    (x : GoesLe p w n₀ ann code B m s q a s₁ q₁ n) (y : GoesLe p w n₀ ann code B (f a) s₁ q₁ b s₂ q₂ k) : GoesLe p w n₀ ann code B (m >>= f) s q b s₂ q₂ (n + k) := by
  run_tac mark
  obtain ⟨i, hi, x⟩ := x
  obtain ⟨j, hj, y⟩ := y
  exact ⟨i + j, by omega, goes_bind x y⟩
  run_tac squeeze

theorem goesLe_holding {α : Type} {m : Sem α} {vs : List Value} {s s₁ : Shared} {q q₁ : Pos} {a : α} {n : Nat}
    (x : GoesLe p w n₀ ann code B m s q a s₁ q₁ n) : GoesLe p w n₀ ann code B (holding vs m) s q a s₁ q₁ n := let ⟨i, hi, x⟩ := x; ⟨i, hi, goes_holding x⟩

theorem scan_absent (a : Addr) (v : Value) (h : Int) : ∀ (l : List (Int × Value)) (i : Nat), (∀ e ∈ l, e.1 ≠ h) → setScanFrom a v h true l i = (pure .absent : Sem ScanMet)
  | [], _, _ => rfl
  | (h', y) :: r, i, hn => by
    unfold setScanFrom
    have : (h' == h) = false := beq_eq_false_iff_ne.mpr (hn _ (.head _))
    rw [this]
    exact scan_absent a v h r (i + 1) fun e he => hn e (.tail _ he)

theorem goes_storeSet {a : Addr} {es es' : Array (Int × Value)} {n : Nat} {t t' : SetTable} {s : Shared} {q : Pos} (ho : s.heap.get? a = some (setO es n t)) (hz : es'.size ≤ sizeLine) (ha : n₀ ≤ a) :
    Goes p w n₀ ann code B (storeSet a es' t') s q () { s with heap := s.heap.update a (Obj.putSet es' t') } q 2 := by
  run_tac mark
  unfold storeSet
  refine goes_bind (n := 1) (k := 1) (goes_load ho) ?_
  dsimp only
  rw [if_neg (by omega)]
  exact goes_update ho ha
  run_tac squeeze

theorem goes_setState {a : Addr} {x : SS} {s : Shared} {q : Pos} (ho : s.heap.get? a = some x.obj) (hf : x.t.fits x.es.size = true) : Goes p w n₀ ann code B (setState a) s q (x.es, x.n, x.t) s q 1 := by
  run_tac mark
  unfold setState
  refine goes_bind (n := 1) (k := 0) (goes_load ho) ?_
  show Goes p w n₀ ann code B (if ((x.t.place.size != x.es.size) || decide (x.t.fill > x.t.mask)) = true then _ else _) s q _ s q 0
  unfold SetTable.fits at hf
  obtain ⟨f1, f2⟩ := Bool.and_eq_true_iff.mp hf
  rw [if_neg (by
    rw [Bool.or_eq_true, not_or]
    refine ⟨by simpa using f1, by simpa using f2⟩)]
  exact goes_pure
  run_tac squeeze

theorem scannable_all {x : SS} {l : List Int} (o : x.Ok l) (hz : l.length < 4096) (k : Int) (t : Tok) : byScan (.int k t) x.es = true := by
  run_tac mark
  unfold byScan
  rw [Bool.and_eq_true, Bool.and_eq_true]
  refine ⟨⟨rfl, decide_eq_true (by rw [o.size]; exact hz)⟩, ?_⟩
  rw [Array.all_eq_true_iff_forall_mem]
  intro e he
  obtain ⟨k', t', rfl⟩ := o.allInt e (Array.mem_toList_iff.mpr he)
  rfl
  run_tac squeeze

noncomputable def SS.put (x : SS) (s : Shared) (a : Addr) : Shared := { s with heap := s.heap.update a (fun _ => x.obj) }
theorem upd_same {h : Heap} {a : Addr} {f g : Obj → Obj} : (h.update a f).update a g = h.update a fun o => g (f o) := by
  run_tac mark
  obtain ⟨objs, life⟩ := h
  show Heap.mk _ _ = Heap.mk _ _
  congr 1
  apply Array.ext_getElem?
  intro i
  rw [Array.getElem?_modify, Array.getElem?_modify, Array.getElem?_modify]
  by_cases e : a = i
  · subst e; simp only [if_true]; cases objs[a]? <;> rfl
  · simp only [if_neg e]
  run_tac squeeze

theorem upd_comm {h : Heap} {a b : Addr} {f g : Obj → Obj} (hab : a ≠ b) : (h.update a f).update b g = (h.update b g).update a f := by
  run_tac mark
  obtain ⟨objs, life⟩ := h
  show Heap.mk _ _ = Heap.mk _ _
  congr 1
  apply Array.ext_getElem?
  intro i
  rw [Array.getElem?_modify, Array.getElem?_modify, Array.getElem?_modify, Array.getElem?_modify]
  by_cases e : a = i
  · subst e; simp only [if_true, if_neg (Ne.symm hab)]
  · simp only [if_neg e]
  run_tac squeeze

theorem upd_congr {h : Heap} {a : Addr} {f g : Obj → Obj} {o : Obj} (ho : h.get? a = some o) (e : f o = g o) : h.update a f = h.update a g := by
  run_tac mark
  have ho := (Heap.get?_some_iff.mp ho).1
  obtain ⟨objs, life⟩ := h
  show Heap.mk _ _ = Heap.mk _ _
  congr 1
  apply Array.ext_getElem?
  intro i
  rw [Array.getElem?_modify, Array.getElem?_modify]
  by_cases q : a = i
  · subst q
    simp only [if_true]
    rw [show objs[a]? = some o from ho]
    exact congrArg some e
  · simp only [if_neg q]
  run_tac squeeze

theorem goes_add {a : Addr} {x : SS} {l : List Int} (o : x.Ok l) {k : Int} {t : Tok} {s : Shared} {q : Pos} (hB : 0 < B.length) (h0 : 0 ≤ k) (h1 : k < 2 ^ 60) (hk : k ∉ l) (hz : l.length < 4000) (ho : s.heap.get? a = some x.obj) (ha : n₀ ≤ a) :
    ∃ r, GoesLe p w n₀ ann code B (setAdd a (.int k t)) s q r { s with heap := s.heap.update a (fun _ => (x.add k (.int k t)).obj), toks := s.toks + 1 } q 13 := by
  run_tac mark
  obtain ⟨l1, l2, l3⟩ := layNew_spec x.t x.es k (.int k t)
  have sl : (4096 : Nat) < sizeLine := by decide
  have fresh : ∀ e ∈ x.es.toList, e.1 ≠ k := fun e he q => hk ((o.mem k).mp ⟨e, he, q⟩)
  refine ⟨true, ?_⟩
  unfold setAdd
  refine goesLe_holding (goesLe_bind (n := 5) (k := 8) (goes_pyHash hB h0 h1).le ?_)
  unfold setAddHashed
  refine goesLe_holding ?_
  show GoesLe p w n₀ ann code B (setAddHashedIn a (.int k t) k (99999 + 1)) _ q true _ q 8
  unfold setAddHashedIn
  refine goesLe_bind (n := 1) (k := 7) (goes_setState (s := { s with toks := s.toks + 1 }) (x := x) ho o.fits).le ?_
  dsimp only
  rw [if_pos (scannable_all o (by omega) k t)]
  refine goesLe_bind (n := 7) (k := 0) (a := some true) ?_ goes_pure.le
  unfold setAddByScan
  refine goesLe_bind (n := 1) (k := 6) goes_rule.le ?_
  have e1 : setScan a (.int k t) k true x.es = (pure .absent : Sem ScanMet) := scan_absent a _ k _ 0 fresh
  rw [e1]
  unfold SS.add
  generalize layNew x.t x.es k (.int k t) = r at l1 l2 l3 ⊢
  obtain ⟨es', t', wd, gv⟩ := r
  dsimp only at l1 l2 l3 ⊢
  have gw : ∀ (b : Bool) (m : Bool → Sem Unit) (s : Shared), m true = PySem.rule "set.scan.the-table-gave-way" → m false = pure () → GoesLe p w n₀ ann code B (m b) s q () s q 1 := fun b m s h1 h2 => by
    cases b
    · rw [h2]; exact ⟨0, Nat.zero_le _, goes_pure⟩
    · rw [h1]; exact goes_rule.le
  have hob : ∀ o, (if (!wd && t'.tooFull) = true then (⟨(relayAll t' es' (SetTable.grown es'.size)).1, x.n + 2, (relayAll t' es' (SetTable.grown es'.size)).2.1⟩ : SS) else ⟨es', x.n + 1, t'⟩).obj = o → GoesLe p w n₀ ann code B (storeSet a es' t' >>= fun _ => if (!wd && t'.tooFull) = true then (do
      (match (relayAll t' es' (SetTable.grown es'.size)).2.2 with
        | true => PySem.rule "set.scan.the-table-gave-way"
        | false => pure ())
      storeSet a (relayAll t' es' (SetTable.grown es'.size)).1 (relayAll t' es' (SetTable.grown es'.size)).2.1
      pure (some true)) else pure (some true)) { heap := s.heap, gens := s.gens, drawn := s.drawn, toks := s.toks + 1, os := s.os } q (some true) { heap := s.heap.update a fun _ => o, gens := s.gens, drawn := s.drawn, toks := s.toks + 1, os := s.os } q 5 := by
    intro ob hob
    have st := goes_storeSet (p := p) (w := w) (n₀ := n₀) (ann := ann) (code := code) (B := B) (es' := es') (t' := t') (s := { s with toks := s.toks + 1 }) (q := q) (a := a) (es := x.es) (n := x.n) (t := x.t) ho (by rw [l2, o.size]; omega) ha
    refine goesLe_bind (n := 2) (k := 3) st.le ?_
    by_cases hb : (!wd && t'.tooFull) = true
    · rw [if_pos hb] at hob ⊢
      have sp := relayAll_spec t' es' (SetTable.grown es'.size)
      generalize relayAll t' es' (SetTable.grown es'.size) = z at sp hob ⊢
      obtain ⟨z1, z2, z3⟩ := z
      obtain ⟨-, r2, -⟩ := sp
      dsimp only at r2 hob ⊢
      refine goesLe_bind (n := 1) (k := 2) (gw z3 (fun b => match b with | true => PySem.rule "set.scan.the-table-gave-way" | false => pure ()) _ rfl rfl) ?_
      have g1 : (s.heap.update a (Obj.putSet es' t')).get? a = some (setO es' (x.n + 1) t') := Heap.get?_update_self _ ho rfl
      have st2 := goes_storeSet (p := p) (w := w) (n₀ := n₀) (ann := ann) (code := code) (B := B) (es' := z1) (t' := z2) (s := { s with heap := s.heap.update a (Obj.putSet es' t'), toks := s.toks + 1 }) (q := q) (a := a) (es := es') (n := x.n + 1) (t := t') g1 (by rw [r2, l2, o.size]; omega) ha
      refine goesLe_bind (n := 2) (k := 0) st2.le ?_
      have e : (s.heap.update a (Obj.putSet es' t')).update a (Obj.putSet z1 z2) = s.heap.update a fun _ => ob := by
        rw [upd_same]
        refine upd_congr ho ?_
        rw [← hob]
        rfl
      dsimp only
      rw [e]
      exact goes_pure.le
    · rw [if_neg hb] at hob ⊢
      have e : s.heap.update a (Obj.putSet es' t') = s.heap.update a fun _ => ob := upd_congr ho (by rw [← hob]; rfl)
      dsimp only
      rw [e]
      exact ⟨0, Nat.zero_le _, goes_pure⟩
  refine goesLe_bind (n := 1) (k := 5) (a := ()) (s₁ := { heap := s.heap, gens := s.gens, drawn := s.drawn, toks := s.toks + 1, os := s.os }) (q₁ := q) ?_ ?_
  · cases gv
    · exact ⟨0, Nat.zero_le _, goes_pure⟩
    · exact goes_rule.le
  · by_cases hp : t'.plain = true
    · rw [if_pos hp]
      exact hob _ rfl
    · rw [if_neg hp]
      exact hob _ rfl
  run_tac squeeze

noncomputable abbrev loopC (sa ia : Addr) : Code := .builtin "set.update.loop" ⟨[.ref sa, .ref ia], []⟩
theorem loop_entry : entryFor treeTable "set.update.loop" = some Builtin.«set.update.loop» := by rw [← table_eq_tree]; exact entryFor_of_fast (by kernel_rfl)

theorem loop_tree (sa ia : Addr) : denote treeTable (loopC sa ia) = (pyNext (.ref ia) >>= fun r => match r with
    | some x => (holding [x] (setAdd sa x) >>= fun _ => again (loopC sa ia))
    | none => ret .none) := by
  have e : ∀ (id : String) (args : Args), denote treeTable (.builtin id args) = (match entryFor treeTable id with
    | some b => b args
    | none => unsupported ((withoutEnding? id "#data").getD id)) := fun _ _ => rfl
  rw [e, loop_entry]
  show Builtin.«set.update.loop» ⟨[.ref sa, .ref ia], []⟩ = _
  unfold Builtin.«set.update.loop»
  refine congrArg (Sem.bind _) (funext fun r => ?_)
  cases r <;> rfl

noncomputable def SS.addAll (x : SS) (r : List (Int × Tok)) : SS := r.foldl (fun x e => x.add e.1 (.int e.1 e.2)) x
noncomputable def loopH (h : Heap) (sa ia la : Addr) (i : Nat) (x : SS) : Heap := (h.update ia fun _ => iterO la i).update sa fun _ => x.obj
theorem set_turn {h : Heap} {sa ia la : Addr} {i n : Nat} {x : SS} {l : List Int} {xs : List Value} {k : Int} {t : Tok} {gens : Array GenState} {drawn : Drawn} {toks : Nat} {os : OsState} {q p₀ : Pos} {kk : Result → Sem PySem.Fin} {hd : Option Value} {g : Bool} {lv kept : List Value} {cd : Code}
    (hsa : ∃ o, h.get? sa = some o) (hia : ∃ o, h.get? ia = some o) (hla : h.get? la = some (listO xs n)) (n1 : ia ≠ sa) (n2 : la ≠ ia) (n3 : la ≠ sa) (a1 : n₀ ≤ sa) (a2 : n₀ ≤ ia)
    (hx : xs[i]? = some (.int k t)) (o : x.Ok l) (h0 : 0 ≤ k) (h1 : k < 2 ^ 60) (hk : k ∉ l) (hz : l.length < 4000) :
    ∃ m, m ≤ 24 ∧ segGo treeTable p w n₀ ann 1 m ⟨loopH h sa ia la i x, gens, drawn, toks, os⟩ ⟨denote treeTable (loopC sa ia), loopC sa ia, q, .ret kk hd g lv cd p₀ kept :: B⟩ =
      some (⟨loopH h sa ia la (i + 1) (x.add k (.int k t)), gens, drawn, toks + 1, os⟩, ⟨denote treeTable (loopC sa ia), loopC sa ia, q, .ret kk hd g lv cd p₀ kept :: B⟩) := by
  run_tac mark
  obtain ⟨oS, hsa⟩ := hsa
  obtain ⟨oI, hia⟩ := hia
  have hB : 0 < (Frame.ret kk hd g lv cd p₀ kept :: B).length := by rw [List.length_cons]; omega
  have gi : ∀ i x, (loopH h sa ia la i x).get? ia = some (iterO la i) := fun i x => by
    unfold loopH
    rw [Heap.get?_update_other _ _ n1.symm]
    exact Heap.get?_update_self (fun _ => iterO la i) hia rfl
  have gl : ∀ i x, (loopH h sa ia la i x).get? la = some (listO xs n) := fun i x => by
    unfold loopH
    rw [Heap.get?_update_other _ _ n3.symm, Heap.get?_update_other _ _ n2.symm]
    exact hla
  have gs : ∀ i (x : SS), (loopH h sa ia la i x).get? sa = some x.obj := fun i x => by
    unfold loopH
    exact Heap.get?_update_self (o := oS) (fun _ => x.obj) (by rw [Heap.get?_update_other _ _ n1]; exact hsa) rfl
  have e1 : (loopH h sa ia la i x).update ia (Obj.mapFields (·.setIfInBounds 1 (rawInt ((i : Int) + 1)))) = loopH h sa ia la (i + 1) x := by
    unfold loopH
    rw [upd_comm n1.symm, upd_same]
    rfl
  have e2 : (loopH h sa ia la (i + 1) x).update sa (fun _ => (x.add k (.int k t)).obj) = loopH h sa ia la (i + 1) (x.add k (.int k t)) := by
    unfold loopH
    rw [upd_same]
  have s1 := goes_pyNext (p := p) (w := w) (n₀ := n₀) (ann := ann) (code := loopC sa ia) (B := .ret kk hd g lv cd p₀ kept :: B) (s := ⟨loopH h sa ia la i x, gens, drawn, toks, os⟩) (q := q) hB (gi i x) (gl i x) hx a2
  dsimp only at s1
  rw [e1] at s1
  obtain ⟨r, s2⟩ := goes_add (p := p) (w := w) (n₀ := n₀) (ann := ann) (code := loopC sa ia) (B := .ret kk hd g lv cd p₀ kept :: B) (t := t) (s := ⟨loopH h sa ia la (i + 1) x, gens, drawn, toks, os⟩) (q := q) o hB h0 h1 hk hz (gs (i + 1) x) a1
  dsimp only at s2
  rw [e2] at s2
  obtain ⟨m, hm, s2⟩ := s2
  have s3 : Goes p w n₀ ann (loopC sa ia) (.ret kk hd g lv cd p₀ kept :: B) (denote treeTable (loopC sa ia)) ⟨loopH h sa ia la i x, gens, drawn, toks, os⟩ q (.again (loopC sa ia)) ⟨loopH h sa ia la (i + 1) (x.add k (.int k t)), gens, drawn, toks + 1, os⟩ q (10 + (m + 0)) := by
    rw [loop_tree]
    exact goes_bind s1 (goes_bind (goes_holding s2) goes_pure)
  have h3 := s3 Sem.pure Sem.raise id id
  have wr : ∀ (m : Sem PySem.Fin), m.wrap Sem.pure Sem.raise id id = m := fun m => by
    rw [← Sem.bind_eq_wrap]
    exact bind_pure m
  rw [wr] at h3
  refine ⟨10 + (m + 0) + 1, by omega, ?_⟩
  rw [segGo_add h3]
  refine (segGo_step (s' := ⟨loopH h sa ia la (i + 1) (x.add k (.int k t)), gens, drawn, toks + 1, os⟩) (t' := ⟨denote treeTable (loopC sa ia), loopC sa ia, q, .ret kk hd g lv cd p₀ kept :: B⟩) ?_ ?_ ?_).trans rfl
  · unfold endAt; dsimp only; split <;> first | rfl | (rename_i h; cases h)
  · show (Thread.calm _ && true) = true
    rw [Bool.and_true]
    unfold Thread.calm Thread.atCollectorCode Thread.yieldsInsideHandler
    dsimp only
    rw [show ("set.update.loop".startsWith "lifetime.") = false by decide +kernel]
    rfl
  · exact step_again
  run_tac squeeze

theorem set_loop {h : Heap} {sa ia la : Addr} {n : Nat} {xs : List Value} {gens : Array GenState} {drawn : Drawn} {os : OsState} {q p₀ : Pos} {kk : Result → Sem PySem.Fin} {hd : Option Value} {g : Bool} {lv kept : List Value} {cd : Code}
    (hsa : ∃ o, h.get? sa = some o) (hia : ∃ o, h.get? ia = some o) (hla : h.get? la = some (listO xs n)) (n1 : ia ≠ sa) (n2 : la ≠ ia) (n3 : la ≠ sa) (a1 : n₀ ≤ sa) (a2 : n₀ ≤ ia) : ∀ (r : List (Int × Tok)) (i : Nat) (x : SS) (l : List Int) (toks : Nat),
    xs.drop i = r.map (fun e => Value.int e.1 e.2) → x.Ok l → (∀ e ∈ r, 0 ≤ e.1 ∧ e.1 < 2 ^ 60) → (l ++ r.map (·.1)).Nodup → l.length + r.length < 4000 →
    ∃ m, m ≤ 24 * r.length ∧ segGo treeTable p w n₀ ann 1 m ⟨loopH h sa ia la i x, gens, drawn, toks, os⟩ ⟨denote treeTable (loopC sa ia), loopC sa ia, q, .ret kk hd g lv cd p₀ kept :: B⟩ =
      some (⟨loopH h sa ia la (i + r.length) (x.addAll r), gens, drawn, toks + r.length, os⟩, ⟨denote treeTable (loopC sa ia), loopC sa ia, q, .ret kk hd g lv cd p₀ kept :: B⟩) ∧ (x.addAll r).Ok (l ++ r.map (·.1))
  | [], i, x, l, toks, _, o, _, _, _ => ⟨0, Nat.zero_le _, rfl, by rw [List.map_nil, List.append_nil]; exact o⟩
  | (k, t) :: r, i, x, l, toks, hd', o, hb, hn, hz => by
    have hx : xs[i]? = some (.int k t) := by
      have : (xs.drop i)[0]? = some (.int k t) := by rw [hd']; rfl
      rwa [List.getElem?_drop, Nat.add_zero] at this
    have hdr : xs.drop (i + 1) = r.map (fun e => Value.int e.1 e.2) := by
      rw [← List.drop_drop, hd']; rfl
    have hk : k ∉ l := fun h => by
      rw [List.nodup_append] at hn
      exact hn.2.2 k h k (.head _) rfl
    have hzz : l.length + (r.length + 1) < 4000 := hz
    obtain ⟨m1, hm1, e1⟩ := set_turn (p := p) (w := w) (n₀ := n₀) (ann := ann) (B := B) (gens := gens) (drawn := drawn) (toks := toks) (os := os) (q := q) (p₀ := p₀) (kk := kk) (hd := hd) (g := g) (lv := lv) (kept := kept) (cd := cd) hsa hia hla n1 n2 n3 a1 a2 hx o (hb _ (.head _)).1 (hb _ (.head _)).2 hk (by omega)
    obtain ⟨m2, hm2, e2, o2⟩ := set_loop hsa hia hla n1 n2 n3 a1 a2 (gens := gens) (drawn := drawn) (os := os) (q := q) (p₀ := p₀) (kk := kk) (hd := hd) (g := g) (lv := lv) (kept := kept) (cd := cd) r (i + 1) (x.add k (.int k t)) (l ++ [k]) (toks + 1) hdr (o.add_ok k t) (fun e h => hb e (.tail _ h)) (by rw [List.append_assoc]; exact hn) (by rw [List.length_append]; simp only [List.length_cons, List.length_nil]; omega)
    refine ⟨m1 + m2, by rw [List.length_cons]; omega, ?_, by rw [List.append_assoc] at o2; exact o2⟩
    rw [segGo_add e1, e2, List.length_cons, show i + 1 + r.length = i + (r.length + 1) by omega, show toks + 1 + r.length = toks + (r.length + 1) by omega]
    rfl

theorem segRun_mono {tb : String → Option Builtin} {b : Nat} (k : Nat) : ∀ (n : Nat) (s : Shared) (t : Thread) (r : Flow × Shared × Code × Pos), segRun tb p w n₀ ann b n s t = some r → segRun tb p w n₀ ann b (n + k) s t = some r
  | 0, _, _, _, h => by simp [segRun] at h
  | n + 1, s, t, r, h => by
    have e : ∀ k, segRun tb p w n₀ ann b (k + 1) s t = (match endAt b t with
      | some f => some (f, s, t.code, t.pos)
      | none => match stepOk n₀ ann t with
        | false => none
        | true => match step (denote tb) p w s t with
          | .go s' t' => segRun tb p w n₀ ann b k s' t'
          | .halt _ _ => none) := fun _ => rfl
    rw [show n + 1 + k = n + k + 1 by omega, e]
    rw [e] at h
    cases he : endAt b t with
    | some f => rw [he] at h; exact h
    | none =>
      rw [he] at h
      cases hk : stepOk n₀ ann t with
      | false => rw [hk] at h; cases h
      | true =>
        rw [hk] at h
        cases hs : step (denote tb) p w s t with
        | halt o s₂ => rw [hs] at h; cases h
        | go s₂ t₂ => rw [hs] at h; exact segRun_mono k n s₂ t₂ r h

theorem upd_id {h : Heap} {a : Addr} {o : Obj} (ho : h.get? a = some o) : h.update a (fun _ => o) = h := by
  run_tac mark
  have ho := (Heap.get?_some_iff.mp ho).1
  obtain ⟨objs, life⟩ := h
  show Heap.mk _ _ = Heap.mk _ _
  congr 1
  apply Array.ext_getElem?
  intro i
  rw [Array.getElem?_modify]
  split
  · rename_i e
    subst e
    rw [show objs[a]? = some o from ho]
    rfl
  · rfl
  run_tac squeeze

/-- the loop, on trees: what stands at its end is given as a tree -/
theorem set_piece {t0 t1 : BT} {nn : Nat} {life : Life} {sa ia la n : Nat} {its : List (Int × Tok)} {gens : Array GenState} {drawn : Drawn} {os : OsState} {toks toks' N K : Nat} {q p₀ : Pos} {kk : Result → Sem PySem.Fin} {hd : Option Value} {g : Bool} {lv kept : List Value} {cd : Code} {led : Bool} {r : Flow × Shared × Code × Pos}
    (hs : t0.get sa = some (setO #[] 0 (SetTable.fresh 0 0 led))) (hi : t0.get ia = some (iterO la 0)) (hl : t0.get la = some (listO (its.map fun e => Value.int e.1 e.2) n)) (hlt : (Nat.blt sa nn && Nat.blt ia nn && Nat.blt la nn) = true)
    (hne : (Nat.beq ia sa || Nat.beq la ia || Nat.beq la sa) = false) (ha : (Nat.ble n₀ sa && Nat.ble n₀ ia) = true) (hok : (its.all (fun e => decide (0 ≤ e.1) && decide (e.1 < 2 ^ 60)) && Nat.ble its.length 3999) = true) (hnd : (its.map (·.1)).Nodup)
    (ht : t1.list nn = ((t0.set ia fun _ => iterO la its.length).set sa fun _ => ((⟨#[], 0, SetTable.fresh 0 0 led⟩ : SS).addAll its).obj).list nn) (htk : toks + its.length = toks') (hK : Nat.ble (24 * its.length + N) K = true)
    (rest : segRun treeTable p w n₀ ann 1 N ⟨absHeap t1 nn life, gens, drawn, toks', os⟩ ⟨denote treeTable (loopC sa ia), loopC sa ia, q, .ret kk hd g lv cd p₀ kept :: B⟩ = some r) :
    segRun treeTable p w n₀ ann 1 K ⟨absHeap t0 nn life, gens, drawn, toks, os⟩ ⟨denote treeTable (loopC sa ia), loopC sa ia, q, .ret kk hd g lv cd p₀ kept :: B⟩ = some r := by
  run_tac mark
  simp only [Bool.or_eq_false_iff, Bool.and_eq_true, List.all_eq_true, decide_eq_true_eq] at hne ha hok
  obtain ⟨⟨n1, n2⟩, n3⟩ := hne
  rw [Bool.and_eq_true, Bool.and_eq_true] at hlt
  have hs' : (absHeap t0 nn life).get? sa = some (setO #[] 0 (SetTable.fresh 0 0 led)) := abs_get (Nat.le_of_ble_eq_true hlt.1.1) hs
  have hi' : (absHeap t0 nn life).get? ia = some (iterO la 0) := abs_get (Nat.le_of_ble_eq_true hlt.1.2) hi
  have hl' : (absHeap t0 nn life).get? la = some (listO (its.map fun e => Value.int e.1 e.2) n) := abs_get (Nat.le_of_ble_eq_true hlt.2) hl
  have n1 : ia ≠ sa := Nat.ne_of_beq_eq_false n1
  have n2 : la ≠ ia := Nat.ne_of_beq_eq_false n2
  have n3 : la ≠ sa := Nat.ne_of_beq_eq_false n3
  have o0 : (⟨#[], 0, SetTable.fresh 0 0 led⟩ : SS).Ok [] := ⟨fun e h => by simp at h, fun k => by simp, rfl, rfl⟩
  obtain ⟨m, hm, e, -⟩ := set_loop (p := p) (w := w) (n₀ := n₀) (ann := ann) (B := B) (h := absHeap t0 nn life) (gens := gens) (drawn := drawn) (os := os) (q := q) (p₀ := p₀) (kk := kk) (hd := hd) (g := g) (lv := lv) (kept := kept) (cd := cd) ⟨_, hs'⟩ ⟨_, hi'⟩ hl' n1 n2 n3 (Nat.le_of_ble_eq_true ha.1) (Nat.le_of_ble_eq_true ha.2) its 0 ⟨#[], 0, SetTable.fresh 0 0 led⟩ [] toks rfl o0 (fun e h => hok.1 e h) (by simpa using hnd) (by have := Nat.le_of_ble_eq_true hok.2; simp only [List.length_nil]; omega)
  have b1 : loopH (absHeap t0 nn life) sa ia la 0 ⟨#[], 0, SetTable.fresh 0 0 led⟩ = absHeap t0 nn life := by
    unfold loopH
    rw [upd_id hi']
    exact upd_id hs'
  have b2 : loopH (absHeap t0 nn life) sa ia la (0 + its.length) ((⟨#[], 0, SetTable.fresh 0 0 led⟩ : SS).addAll its) = absHeap t1 nn life := by
    unfold loopH
    rw [← absHeap_set hi, ← absHeap_set (o := setO #[] 0 (SetTable.fresh 0 0 led)) (by rw [BT.get_set, if_neg (Ne.symm n1)]; exact hs), Nat.zero_add]
    show Heap.mk _ _ = Heap.mk _ _
    rw [ht]
  rw [b1, b2, htk] at e
  have k := seg_go e rest
  have hK := Nat.le_of_ble_eq_true hK
  have := segRun_mono (K - (m + N)) _ _ _ _ k
  rwa [show m + N + (K - (m + N)) = K by omega] at this
  run_tac squeeze

end
end
theorem quietSetL : True := by
  run_tac quiet
  trivial
-- FragB
section
open Lean Meta Elab PySem PySem.W PyProof.Rows

/-- a set of the top's, by what was put into it -/
noncomputable def setMade (P : Params) (its : List (Int × Nat)) : Obj := ((⟨#[], 0, SetTable.fresh 0 0 (!P.followText "set-order")⟩ : SS).addAll its).obj



def progE : MetaM Lean.Expr := whnfR (mkConst ``PySem.Challenge.pw_re0166_01)

def fillFrag (_ : Name) : Tactic.TacticM Unit := pure ()
theorem linLaid : True := by
  run_tac (do
    let some f ← leftPieces.get | throwError "mine: not laid"
    f default (mkConst ``PySem.Challenge.pw_re0166_01) (plainProg []) ["lin"]
    : MetaM Unit)
  trivial

theorem fragLaid : True := by
  run_tac (do
    let setIts (h : Heap) (a : Addr) : Option (List (Int × Nat)) := match h.get? a, h.get? (a - 1) with
      | some ⟨_, _, .set .., _⟩, some ⟨_, _, .seq xs _, _⟩ => xs.toList.mapM fun | .int k t => some (k, t) | _ => none
      | _, _ => none
    let setName (a : Addr) : Name := (`Mine).str s!"setAt{a}"
    let objM (P : Lean.Expr) (o o' : Obj) : Option Lean.Expr :=
      let e := objE P o
      if e == objE P o' then some e else
      match o.data, o'.data with
      | .set es n t, .set _ _ t' =>
        if t.led != t'.led && objE P { o with data := .set es n { t with led := false } } == objE P { o' with data := (match o'.data with | .set es n t => .set es n { t with led := false } | d => d) } then
          let led := mkApp (mkConst ``Bool.not) (mkApp2 (mkConst ``Params.followText) P (mkStrLit "set-order"))
          let tE := mkAppN (mkConst ``SetTable.mk) #[toExpr t.mask, toExpr t.place, toExpr t.dummies, toExpr t.finger, led, toExpr t.moves, toExpr t.plain]
          some (mkApp4 (mkConst ``Obj.mk) (toExpr o.cls) (toExpr o.dict) (mkApp3 (mkConst ``Data.set) (toExpr es) (toExpr n) tE) (toExpr o.slots))
        else none
      | _, _ => none
    let fragM (P : Lean.Expr) (callee : Option String) (h h' : Heap) : List (Addr × Obj × Lean.Expr) :=
      (((reachOf h callee).insert cStatics).toArray.qsort (· < ·)).toList.filterMap fun a => match h.get? a, h'.get? a with
        | some o, some o' => if (setIts h a).isSome then some (a, o, mkApp (mkConst (setName a)) P) else if o.cls != .none || a == cStatics || a == mainNs then (objM P o o').map fun e => (a, o, e) else none
        | _, _ => none
    let nm : Name := `Mine.KF
    let p := PySem.Challenge.pw_re0166_01
    let some (h, h') ← twoRuns p | throwError "mine: the top does not come through"
    for a in [0:h.objs.size] do
      if let some its := setIts h a then
        let v ← withLocalDeclD `P (mkConst ``Params) fun P => do mkLambdaFVars #[P] (mkApp2 (mkConst ``setMade) P (toExpr its))
        addDecl (.defnDecl { name := setName a, levelParams := [], type := ← mkArrow (mkConst ``Params) (mkConst ``Obj), value := v, hints := .regular (getMaxHeight (← getEnv) v + 1), safety := .safe })
    let pr := mkApp2 (mkConst ``Prod [0, 0]) (mkConst ``Nat) (mkConst ``Obj)
    let (v, fr) ← withLocalDeclD `P (mkConst ``Params) fun P => do
      let fr := fragM P (some "law") h h'
      pure (← mkLambdaFVars #[P] (listE pr (fr.map fun (a, _, e) => mkApp4 (mkConst ``Prod.mk [0, 0]) (mkConst ``Nat) (mkConst ``Obj) (mkRawNatLit a) e)), fr)
    addDecl (.defnDecl { name := nm, levelParams := [], type := ← mkArrow (mkConst ``Params) (mkConst ``Frag), value := v, hints := .regular (getMaxHeight (← getEnv) v + 1), safety := .safe })
    let fr := fragM (mkConst ``Nat.zero) (some "law") h h'
    fragNow.modify ((nm, fr.map fun (a, o, _) => (a, o)) :: ·)
    : Term.TermElabM Unit)
  trivial

theorem viewLaid : True := by
  run_tac (do
    let qn : Name := `Mine.qv
    let ln : Name := `Mine.lo
    let pE ← progE
    let c ← match ← openProbe PySem.Challenge.pw_re0166_01 with
      | .error m => throwError "the head falls: {m}"
      | .ok c => pure c
    let nm (x : PySem.Str) := mkApp (mkConst ``PySem.Str.ofString) (mkStrLit x.toString)
    let main ← whnfD (← mkAppM ``Program.main #[pE])
    let some cells ← cellsD? (← mkAppM ``Module.body #[main]) | throwError "mine: the text's body"
    let big (i : Nat) : Bool := match PySem.Challenge.pw_re0166_01.main.body[i]? with
      | some (.Assign [.Name y _] _ _) => y == PySem.Str.ofString "b3_exceptions"
      | _ => false
    let body ← mkListLit (mkConst ``Stmt) (c.keep.filterMap fun i => if big i then none else cells[i]?)
    let bS ← Term.exprToSyntax body
    let pS ← Term.exprToSyntax pE
    let qV ← instantiateMVars (← Term.elabTerm (← `(({ $pS with main := { ($pS).main with body := $bS } } : Program))) none)
    addDecl (.defnDecl { name := qn, levelParams := [], type := mkConst ``Program, value := qV, hints := .abbrev, safety := .safe })
    let lv ← mkListLit (mkConst ``PySem.Str) (c.loose.map nm)
    addDecl (.defnDecl { name := ln, levelParams := [], type := mkApp (mkConst ``List [0]) (mkConst ``PySem.Str), value := lv, hints := .abbrev, safety := .safe })
    let lvE ← mkListLit (← mkAppM ``Prod #[mkConst ``PySem.Str, mkConst ``WData]) (← c.lv.mapM fun (x, d) => (mkAppM ``Prod.mk #[nm x, wExpr d] : MetaM Lean.Expr))
    addDecl (.defnDecl { name := `Mine.lv, levelParams := [], type := ← inferType lvE, value := lvE, hints := .abbrev, safety := .safe })
    let some K := (← getEnv).find? `Mine.KF | throwError "mine: no part"
    let as := (← kPairs K.name (mkConst ``Nat.zero)).map (·.1)
    let asE := listE (mkConst ``Nat) (as.map mkRawNatLit)
    addDecl (.defnDecl { name := `Mine.asF, levelParams := [], type := mkApp (mkConst ``List [0]) (mkConst ``Nat), value := asE, hints := .abbrev, safety := .safe })
    return ()
    : Term.TermElabM Unit)
  trivial

end
theorem quietFragB : True := by
  run_tac quiet
  trivial
-- C1
section
open PySem PySem.W PySem.Spec PySem.Calls PyProof.Rows

/-- what a def of the text's hands back where it leaves the caller's frame and ledger as they are -/
noncomputable def Pure1 (w : World) (f : Addr) (k : Nat) (vs : List Value) (R : Tok → Value) : Prop :=
  ∀ (mean : ExcName → Option Value) (mg mb : Str → Option Value) (dp un : Nat) (gd : Option (List Code)) (cn : Str) (cs : Scope) (a : Addr) (ccd : Value) (cl : List (Str × Addr)) (outer : List Env) (A₀ : Around) (base h₀ : Heap) (L : Addr) (m : Str → Option Value) (news : List (Addr × Obj)) (s : Shared) (Q E : Value → Shared → Prop),
    Below A₀ base outer h₀ → Fr h₀ L s.heap m → (KF w.params).In h₀ → News h₀ L s.heap news → Top qv lo mean mg mb h₀ → cs.kind = .function → dp + k < recursionLimit → un + 8 * k < cLine →
    (∀ t h' tk', Fr h₀ L h' m → News h₀ L h' news → Q (R t) { s with heap := h', toks := tk' }) →
    wpAny (model PySem.Challenge.pw_re0166_01 w) (ktrTop dp un gd cn cs L a ccd cl outer) (call (.ref f) vs) Q E s
theorem use1 {w : World} {f : Addr} {k : Nat} {vs : List Value} {R : Tok → Value} (C : Pure1 w f k vs R) {mean : ExcName → Option Value} {mg mb : Str → Option Value} {dp un : Nat} {gd : Option (List Code)} {cn : Str} {cs : Scope} {a : Addr} {ccd : Value} {cl : List (Str × Addr)} {outer : List Env} {A₀ : Around} {base h₀ : Heap} {L : Addr} {m : Str → Option Value} {news : List (Addr × Obj)} {s : Shared} {Q E : Value → Shared → Prop}
    (B : Below A₀ base outer h₀) (F : Fr h₀ L s.heap m) (X : (KF w.params).In h₀) (N : News h₀ L s.heap news) (T : Top qv lo mean mg mb h₀) (hk : cs.kind = .function) (hd : dp + k < recursionLimit) (hu : un + 8 * k < cLine)
    (ret : ∀ t h' tk', Fr h₀ L h' m → News h₀ L h' news → Q (R t) { s with heap := h', toks := tk' }) :
    wpAny (model PySem.Challenge.pw_re0166_01 w) (ktrTop dp un gd cn cs L a ccd cl outer) (call (.ref f) vs) Q E s := C _ _ _ _ _ _ _ _ _ _ _ _ _ _ _ _ _ _ _ _ _ B F X N T hk hd hu ret

theorem ret_eq {h₀ h' : Heap} {L : Addr} {m : Str → Option Value} {news : List (Addr × Obj)} {s : Shared} {Q : Value → Shared → Prop} {tk' : Nat} {R : Tok → Value} {v : Value} {t : Tok}
    (hret : ∀ t h' tk', Fr h₀ L h' m → News h₀ L h' news → Q (R t) { s with heap := h', toks := tk' }) (e : v = R t) (F : Fr h₀ L h' m) (N : News h₀ L h' news) : Q v { s with heap := h', toks := tk' } := e ▸ hret t h' tk' F N

theorem ret_float {h₀ h' : Heap} {L : Addr} {m : Str → Option Value} {news : List (Addr × Obj)} {s : Shared} {Q : Value → Shared → Prop} {tk' : Nat} {x y : UInt64} {t : Tok}
    (hret : ∀ t h' tk', Fr h₀ L h' m → News h₀ L h' news → Q (.float x t) { s with heap := h', toks := tk' }) (F : Fr h₀ L h' m) (N : News h₀ L h' news) (e : y = x) : Q (.float y t) { s with heap := h', toks := tk' } := e ▸ hret t h' tk' F N

noncomputable def vF (m1 m2 hue : UInt64) : UInt64 :=
  let h := (Float64.divmod hue 4607182418800017408).2
  if (Float64.cmp h 4595172819793696085 == some .lt) then Float64.add m1 (Float64.mul (Float64.mul (Float64.sub m2 m1) h) 4618441417868443648)
  else if (Float64.cmp h 4602678819172646912 == some .lt) then m2
  else if (Float64.cmp h 4604180019048437077 == some .lt) then Float64.add m1 (Float64.mul (Float64.mul (Float64.sub m2 m1) (Float64.sub 4604180019048437077 h)) 4618441417868443648)
  else m1

theorem v_con (w : World) (m1 m2 hue : UInt64) (t1 t2 t3 : Tok) : Pure1 w 35 1 [.float m1 t1, .float m2 t2, .float hue t3] (fun t => .float (vF m1 m2 hue) t) := by
  run_tac mark
  k_with_none
  intro mean mg mb dp un gd cn cs a ccd cl outer A₀ base h₀ L m news s Q E B F X N T hk hd hu hret
  run_tac fillFrag `Mine.KF
  refine wpAny_call ?_
  (first | k_dflt cell_enter | fail "not entered")
  k_steps
  all_goals refine ret_float hret (by k_asm) (by k_asm) ?_
  all_goals (unfold vF; simp only [*]; first | done | rfl)
  run_tac squeeze


noncomputable def hlsF (h l s : UInt64) : UInt64 × UInt64 × UInt64 :=
  if (Float64.cmp s 0 == some .eq) then (l, l, l) else
  let m2 := if (Float64.cmp l 4602678819172646912 == some .lt || Float64.cmp l 4602678819172646912 == some .eq) then Float64.mul l (Float64.add 4607182418800017408 s) else Float64.sub (Float64.add l s) (Float64.mul l s)
  let m1 := Float64.sub (Float64.mul 4611686018427387904 l) m2
  (vF m1 m2 (Float64.add h 4599676419421066581), vF m1 m2 h, vF m1 m2 (Float64.sub h 4599676419421066581))

noncomputable def New1 (w : World) (f : Addr) (k : Nat) (vs : List Value) (O : Obj → Prop) : Prop :=
  ∀ (mean : ExcName → Option Value) (mg mb : Str → Option Value) (dp un : Nat) (gd : Option (List Code)) (cn : Str) (cs : Scope) (a : Addr) (ccd : Value) (cl : List (Str × Addr)) (outer : List Env) (A₀ : Around) (base h₀ : Heap) (L : Addr) (m : Str → Option Value) (news : List (Addr × Obj)) (s : Shared) (Q E : Value → Shared → Prop),
    Below A₀ base outer h₀ → Fr h₀ L s.heap m → (KF w.params).In h₀ → News h₀ L s.heap news → Top qv lo mean mg mb h₀ → cs.kind = .function → dp + k < recursionLimit → un + 8 * k < cLine →
    (∀ D o h' tk', O o → Fr h₀ L h' m → News h₀ L h' ((D, o) :: news) → (∀ p ∈ news, p.1 < D) → Q (.ref D) { s with heap := h', toks := tk' }) →
    wpAny (model PySem.Challenge.pw_re0166_01 w) (ktrTop dp un gd cn cs L a ccd cl outer) (call (.ref f) vs) Q E s
theorem use2 {w : World} {f : Addr} {k : Nat} {vs : List Value} {O : Obj → Prop} (C : New1 w f k vs O) {mean : ExcName → Option Value} {mg mb : Str → Option Value} {dp un : Nat} {gd : Option (List Code)} {cn : Str} {cs : Scope} {a : Addr} {ccd : Value} {cl : List (Str × Addr)} {outer : List Env} {A₀ : Around} {base h₀ : Heap} {L : Addr} {m : Str → Option Value} {news : List (Addr × Obj)} {s : Shared} {Q E : Value → Shared → Prop}
    (B : Below A₀ base outer h₀) (F : Fr h₀ L s.heap m) (X : (KF w.params).In h₀) (N : News h₀ L s.heap news) (T : Top qv lo mean mg mb h₀) (hk : cs.kind = .function) (hd : dp + k < recursionLimit) (hu : un + 8 * k < cLine)
    (ret : ∀ D o h' tk', O o → Fr h₀ L h' m → News h₀ L h' ((D, o) :: news) → (∀ p ∈ news, p.1 < D) → Q (.ref D) { s with heap := h', toks := tk' }) :
    wpAny (model PySem.Challenge.pw_re0166_01 w) (ktrTop dp un gd cn cs L a ccd cl outer) (call (.ref f) vs) Q E s := C _ _ _ _ _ _ _ _ _ _ _ _ _ _ _ _ _ _ _ _ _ B F X N T hk hd hu ret

theorem ret_new {h₀ h' : Heap} {L D : Addr} {o : Obj} {O : Obj → Prop} {m : Str → Option Value} {news : List (Addr × Obj)} {s : Shared} {Q : Value → Shared → Prop} {tk' : Nat}
    (hret : ∀ D o h' tk', O o → Fr h₀ L h' m → News h₀ L h' ((D, o) :: news) → (∀ p ∈ news, p.1 < D) → Q (.ref D) { s with heap := h', toks := tk' })
    (F : Fr h₀ L h' m) (N : News h₀ L h' ((D, o) :: news)) (l : ∀ p ∈ news, p.1 < D) (e : O o) : Q (.ref D) { s with heap := h', toks := tk' } := hret D o h' tk' e F N l

/-- three floats in a tuple -/
noncomputable def Tup3 (x : UInt64 × UInt64 × UInt64) (o : Obj) : Prop := ∃ t1 t2 t3, o = { cls := .type "tuple", data := .seq #[.float x.1 t1, .float x.2.1 t2, .float x.2.2 t3] }

theorem tup3_eq {x : UInt64 × UInt64 × UInt64} {a b c : UInt64} {t1 t2 t3 : Tok} (h1 : a = x.1) (h2 : b = x.2.1) (h3 : c = x.2.2) : Tup3 x { cls := .type "tuple", data := .seq #[.float a t1, .float b t2, .float c t3] } := ⟨t1, t2, t3, by rw [h1, h2, h3]⟩

set_option maxHeartbeats 4000000 in
theorem hls_con (w : World) (h l z : UInt64) (t1 t2 t3 : Tok) : New1 w 28 2 [.float h t1, .float l t2, .float z t3] (Tup3 (hlsF h l z)) := by
  run_tac mark
  k_with_none
  k_with "m:ktr_rel" => ((case k1 => k_asm); (case k2 => k_asm); (case k3 => k_asm); (case k4 => k_asm); (case k5 => k_asm); (case kK => first | exact rfl | assumption); (case kd => ktr_room); (case ku => ktr_units); intro t9 h9 tk9 F9 N9; (try dsimp only); (try k_fold))
  k_with "m:call ref" => (k_here; refine' use1 (v_con _ _ _ _ _ _ _) ?k1 ?k2 ?k3 ?k4 ?k5 ?kK ?kd ?ku ?_; ktr_rel)
  intro mean mg mb dp un gd cn cs a ccd cl outer A₀ base h₀ L m news s Q E B F X N T hk hd hu hret
  run_tac fillFrag `Mine.KF
  refine wpAny_call ?_
  (first | k_dflt cell_enter | fail "not entered")
  k_steps
  all_goals refine ret_new hret (by k_asm) (by k_asm) (by assumption) ?_
  all_goals (refine tup3_eq ?_ ?_ ?_)
  all_goals (unfold hlsF; simp only [*]; first | done | rfl | (simp; done))
  run_tac squeeze

end
theorem quietC1 : True := by
  run_tac quiet
  trivial
-- C2
section
open PySem PySem.W PySem.Spec PySem.Calls PyProof.Rows
noncomputable def max3 (x y z : UInt64) : UInt64 := if (Float64.cmp (if (Float64.cmp x y == some .lt) then y else x) z == some .lt) then z else if (Float64.cmp x y == some .lt) then y else x
noncomputable def min3 (x y z : UInt64) : UInt64 := if (Float64.cmp z (if (Float64.cmp y x == some .lt) then y else x) == some .lt) then z else if (Float64.cmp y x == some .lt) then y else x
section
variable {prog : Program} {w : World} {A : Around} {E : Value → Shared → Prop} {s : Shared} {Q : Value → Shared → Prop} {x y z : UInt64} {t u v : Tok} {h₀ : Heap} {L : Addr} {m : Str → Option Value} {news : List (Addr × Obj)}
open PySem.Flt in
theorem three_floats_max (hh : A.handled = none) (F : Fr h₀ L s.heap m) (N : News h₀ L s.heap news)
    (h : ∀ h' tk r, Fr h₀ L h' m → News h₀ L h' news → Q (.float (max3 x y z) r) { s with heap := h', toks := tk }) :
    wpAny (model prog w) A (call (.builtin "max") [.float x t, .float y u, .float z v]) Q E s := by
  run_tac mark
  let vs : Array Value := #[.float x t, .float y u, .float z v]
  have hv : ∀ b ∈ vs, NumV b := by
    intro b hb
    simp only [vs, List.mem_toArray, List.mem_cons, List.not_mem_nil, or_false] at hb
    rcases hb with rfl | rfl | rfl <;> exact .float ..
  have hT : (s.heap.push { cls := .type "tuple", data := .seq vs }).IsTuple s.heap.objs.size vs := ⟨_, Heap.get?_push_size _ rfl, rfl, 0, rfl⟩
  have hsz : (s.heap.push { cls := .type "tuple", data := .seq vs }).objs.size = s.heap.objs.size + 1 := Heap.size_push ..
  have hne : s.heap.objs.size ≠ (s.heap.push { cls := .type "tuple", data := .seq vs }).objs.size := by rw [hsz]; exact Nat.ne_of_lt (Nat.lt_succ_self _)
  refine call_max_three (wpAny_pyIter_tuple hT ⟨_, [_, s.heap.objs.size], [_], _, _, _, _, rfl, Walks.tuple (A := A.in1) hh _ s.heap.objs.size hne vs,
    ⟨⟨_, Heap.get?_push_size _ rfl, rfl, rfl⟩, hT.push _⟩, fun d hd => ?_, by simp [vs], cmpOf_gt vs hv, fun b h' tk hP hk => ?_⟩)
  · show d < ((s.heap.push _).push _).objs.size
    rw [Heap.size_push, hsz]
    rw [hsz] at hd
    simp only [List.mem_cons, List.not_mem_nil, or_false] at hd
    rcases hd with rfl | rfl
    · exact Nat.lt_succ_self _
    · exact Nat.lt_succ_of_lt (Nat.lt_succ_self _)
  · have old : ∀ d o, s.heap.get? d = some o → h'.get? d = some o := fun d o e => by
      have hl := Heap.lt_size e
      refine hk d o (fun hm => ?_) (Heap.get?_push_of_some _ (Heap.get?_push_of_some _ e))
      rw [hsz] at hm
      simp only [List.mem_cons, List.not_mem_nil, or_false] at hm
      rw [hm] at hl
      exact absurd hl (Nat.lt_asymm (Nat.lt_succ_self _))
    have hb : ∃ r, b = .float (max3 x y z) r := by
      unfold max3
      cases h1 : Float64.cmp x y == some .lt <;> simp only [Bool.false_eq_true, if_false, if_true]
      · cases h2 : Float64.cmp x z == some .lt <;> simp [argBest, vs, ltV, h1, h2] at hP <;> exact ⟨_, by simp [← hP]; rfl⟩
      · cases h2 : Float64.cmp y z == some .lt <;> simp [argBest, vs, ltV, h1, h2] at hP <;> exact ⟨_, by simp [← hP]; rfl⟩
    obtain ⟨r, rfl⟩ := hb
    exact h h' tk r (F.grownK old) (N.grown old)
  run_tac squeeze

open PySem.Flt in
theorem three_floats_min (hh : A.handled = none) (F : Fr h₀ L s.heap m) (N : News h₀ L s.heap news)
    (h : ∀ h' tk r, Fr h₀ L h' m → News h₀ L h' news → Q (.float (min3 x y z) r) { s with heap := h', toks := tk }) :
    wpAny (model prog w) A (call (.builtin "min") [.float x t, .float y u, .float z v]) Q E s := by
  run_tac mark
  let vs : Array Value := #[.float x t, .float y u, .float z v]
  have hv : ∀ b ∈ vs, NumV b := by
    intro b hb
    simp only [vs, List.mem_toArray, List.mem_cons, List.not_mem_nil, or_false] at hb
    rcases hb with rfl | rfl | rfl <;> exact .float ..
  have hT : (s.heap.push { cls := .type "tuple", data := .seq vs }).IsTuple s.heap.objs.size vs := ⟨_, Heap.get?_push_size _ rfl, rfl, 0, rfl⟩
  have hsz : (s.heap.push { cls := .type "tuple", data := .seq vs }).objs.size = s.heap.objs.size + 1 := Heap.size_push ..
  have hne : s.heap.objs.size ≠ (s.heap.push { cls := .type "tuple", data := .seq vs }).objs.size := by rw [hsz]; exact Nat.ne_of_lt (Nat.lt_succ_self _)
  refine call_min_three (wpAny_pyIter_tuple hT ⟨_, [_, s.heap.objs.size], [_], _, _, _, _, rfl, Walks.tuple (A := A.in1) hh _ s.heap.objs.size hne vs,
    ⟨⟨_, Heap.get?_push_size _ rfl, rfl, rfl⟩, hT.push _⟩, fun d hd => ?_, by simp [vs], cmpOf_lt vs hv, fun b h' tk hP hk => ?_⟩)
  · show d < ((s.heap.push _).push _).objs.size
    rw [Heap.size_push, hsz]
    rw [hsz] at hd
    simp only [List.mem_cons, List.not_mem_nil, or_false] at hd
    rcases hd with rfl | rfl
    · exact Nat.lt_succ_self _
    · exact Nat.lt_succ_of_lt (Nat.lt_succ_self _)
  · have old : ∀ d o, s.heap.get? d = some o → h'.get? d = some o := fun d o e => by
      have hl := Heap.lt_size e
      refine hk d o (fun hm => ?_) (Heap.get?_push_of_some _ (Heap.get?_push_of_some _ e))
      rw [hsz] at hm
      simp only [List.mem_cons, List.not_mem_nil, or_false] at hm
      rw [hm] at hl
      exact absurd hl (Nat.lt_asymm (Nat.lt_succ_self _))
    have hb : ∃ r, b = .float (min3 x y z) r := by
      unfold min3
      cases h1 : Float64.cmp y x == some .lt <;> simp only [Bool.false_eq_true, if_false, if_true]
      · cases h2 : Float64.cmp z x == some .lt <;> simp [argBest, vs, ltV, h1, h2] at hP <;> exact ⟨_, by simp [← hP]; rfl⟩
      · cases h2 : Float64.cmp z y == some .lt <;> simp [argBest, vs, ltV, h1, h2] at hP <;> exact ⟨_, by simp [← hP]; rfl⟩
    obtain ⟨r, rfl⟩ := hb
    exact h h' tk r (F.grownK old) (N.grown old)
  run_tac squeeze

end
end
theorem quietC2 : True := by
  run_tac quiet
  trivial
-- C3
section
open PySem PySem.W PySem.Spec PySem.Calls PyProof.Rows

noncomputable def leF (x y : UInt64) : Bool := (Float64.cmp x y == some .lt || Float64.cmp x y == some .eq)
noncomputable def eqF (x y : UInt64) : Bool := Float64.cmp x y == some .eq
/-- the hue before its last step, of three colours' greatest and the range -/
noncomputable def hueF (r g b mx rg : UInt64) : UInt64 :=
  let rc := Float64.div (Float64.sub mx r) rg
  let gc := Float64.div (Float64.sub mx g) rg
  let bc := Float64.div (Float64.sub mx b) rg
  if eqF r mx then Float64.sub bc gc else if eqF g mx then Float64.sub (Float64.add 4611686018427387904 rc) bc else Float64.sub (Float64.add 4616189618054758400 gc) rc
noncomputable def satF (l mx mn : UInt64) : UInt64 :=
  if leF l 4602678819172646912 then Float64.div (Float64.sub mx mn) (Float64.add mx mn) else Float64.div (Float64.sub mx mn) (Float64.sub (Float64.sub 4611686018427387904 mx) mn)
noncomputable def rgbF (r g b : UInt64) : UInt64 × UInt64 × UInt64 :=
  let mx := max3 r g b
  let mn := min3 r g b
  let l := Float64.div (Float64.add mx mn) 4611686018427387904
  ((Float64.divmod (Float64.div (hueF r g b mx (Float64.sub mx mn)) 4618441417868443648) 4607182418800017408).2, l, satF l mx mn)
set_option maxHeartbeats 4000000 in
theorem rgb_con (w : World) (r g b : UInt64) (t1 t2 t3 : Tok) (c0 : (Float64.cmp (min3 r g b) (max3 r g b) == some .eq) = false)
   (z0 : Float64.isZero (Float64.sub (max3 r g b) (min3 r g b)) = false) (z1 : Float64.isZero (Float64.add (max3 r g b) (min3 r g b)) = false) (z2 : Float64.isZero (Float64.sub (Float64.sub 4611686018427387904 (max3 r g b)) (min3 r g b)) = false) :
   New1 w 21 2 [.float r t1, .float g t2, .float b t3] (Tup3 (rgbF r g b)) := by
  run_tac mark
  k_with_none
  k_with "m:call builtin:max" => (k_here; (with_reducible show wpAny _ _ (call _ [Value.float _ _, Value.float _ _, Value.float _ _]) _ _ _); refine' three_floats_max ?k0 ?k1 ?k2 ?_; (case k0 => with_unfolding_all rfl); (case k1 => k_asm); (case k2 => k_asm); intro h9 tk9 t9 F9 N9; (try dsimp only))
  k_with "m:call builtin:min" => (k_here; (with_reducible show wpAny _ _ (call _ [Value.float _ _, Value.float _ _, Value.float _ _]) _ _ _); refine' three_floats_min ?k0 ?k1 ?k2 ?_; (case k0 => with_unfolding_all rfl); (case k1 => k_asm); (case k2 => k_asm); intro h9 tk9 t9 F9 N9; (try dsimp only))
  intro mean mg mb dp un gd cn cs a ccd cl outer A₀ base h₀ L m news s Q E B F X N T hk hd hu hret
  run_tac fillFrag `Mine.KF
  refine wpAny_call ?_
  (first | k_dflt cell_enter | fail "not entered")
  k_steps
  all_goals refine ret_new hret (by k_asm) (by k_asm) (by assumption) ?_
  all_goals (refine tup3_eq ?_ ?_ ?_)
  all_goals (unfold rgbF; dsimp only; first | done | rfl | (simp only [hueF, satF, eqF, leF, *]; done) | (simp only [hueF, satF, eqF, leF, *]; rfl) | (simp only [hueF, satF, eqF, leF, *, if_true, if_false, Bool.false_eq_true]; done))
  run_tac squeeze

end
theorem quietC3 : True := by
  run_tac quiet
  trivial
-- C4
section
open PySem PySem.W PySem.Spec PySem.Calls PyProof.Rows
/-- the colours that the hue, light, share of `_law_shown` make -/
noncomputable abbrev inF (e parts light share : Int) : UInt64 × UInt64 × UInt64 := hlsF (Float64.ofFrac (decide (e < 0) != decide (parts < 0)) e.natAbs parts.natAbs) (Float64.div (Float64.ofInt light) 4620693217682128896) (Float64.div (Float64.ofInt share) 4620693217682128896)
noncomputable abbrev outF (e parts light share : Int) : UInt64 × UInt64 × UInt64 := rgbF (inF e parts light share).1 (inF e parts light share).2.1 (inF e parts light share).2.2
noncomputable abbrev hueOut (e parts light share : Int) : UInt64 := Float64.add (Float64.mul (outF e parts light share).1 (Float64.ofInt parts)) 4602678819172646912
noncomputable abbrev lightOut (e parts light share : Int) : UInt64 := Float64.add (Float64.mul (outF e parts light share).2.1 4620693217682128896) 4602678819172646912
noncomputable abbrev shareOut (e parts light share : Int) : UInt64 := Float64.add (Float64.mul (outF e parts light share).2.2 4620693217682128896) 4602678819172646912
/-- no division of `rgb_to_hls` is by nought -/
noncomputable def Fine (q : UInt64 × UInt64 × UInt64) : Prop := (Float64.cmp (min3 q.1 q.2.1 q.2.2) (max3 q.1 q.2.1 q.2.2) == some .eq) = false ∧ Float64.isZero (Float64.sub (max3 q.1 q.2.1 q.2.2) (min3 q.1 q.2.1 q.2.2)) = false ∧ Float64.isZero (Float64.add (max3 q.1 q.2.1 q.2.2) (min3 q.1 q.2.1 q.2.2)) = false ∧ Float64.isZero (Float64.sub (Float64.sub 4611686018427387904 (max3 q.1 q.2.1 q.2.2)) (min3 q.1 q.2.1 q.2.2)) = false
/-- the floats of `_law_shown` come out as they should -/
noncomputable def Told (e parts light share : Int) : Prop := Fine (inF e parts light share) ∧
  (Float64.isFinite (lightOut e parts light share) = true ∧ Flt.toInt Float64.truncOf (lightOut e parts light share) = light) ∧
  (Float64.isFinite (shareOut e parts light share) = true ∧ Flt.toInt Float64.truncOf (shareOut e parts light share) = share) ∧
  (Float64.isFinite (hueOut e parts light share) = true ∧ (Flt.toInt Float64.truncOf (hueOut e parts light share)).fmod parts = e % parts)
theorem ret_int {h₀ h' : Heap} {L : Addr} {m : Str → Option Value} {news : List (Addr × Obj)} {s : Shared} {Q : Value → Shared → Prop} {tk' : Nat} {x y : Int} {t : Tok}
    (hret : ∀ t h' tk', Fr h₀ L h' m → News h₀ L h' news → Q (.int x t) { s with heap := h', toks := tk' }) (F : Fr h₀ L h' m) (N : News h₀ L h' news) (e : y = x) : Q (.int y t) { s with heap := h', toks := tk' } := e ▸ hret t h' tk' F N

set_option maxHeartbeats 4000000 in
theorem shown_con (w : World) (e parts light share : Int) (t1 t2 t3 t4 : Tok) (hp : 2 ≤ parts ∧ parts ≤ 7) (he : -100000000 ≤ e ∧ e ≤ 100000000) (hl : 1 ≤ light ∧ light ≤ 7) (hs : 1 ≤ share ∧ share ≤ 8)
   (told : Told e parts light share) :
   Pure1 w 186 3 [.int e t1, .int parts t2, .int light t3, .int share t4] (fun t => .int (e % parts) t) := by
  run_tac mark
  k_with_none
  k_with "m:ktr_rel" => ((case k1 => k_asm); (case k2 => k_asm); (case k3 => k_asm); (case k4 => k_asm); (case k5 => k_asm); (case kK => first | exact rfl | assumption); (case kd => ktr_room); (case ku => ktr_units))
  k_with "m:call ref" => (k_here; refine' use2 (hls_con _ _ _ _ _ _ _) ?k1 ?k2 ?k3 ?k4 ?k5 ?kK ?kd ?ku ?_; ktr_rel; intro D9 o9 h9 tk9 O9 F9 N9 l9; obtain ⟨u9, v9, w9, e9⟩ := O9; subst e9; (try dsimp only); (try k_fold))
  k_with "m:call ref" => (k_here; refine' use2 (rgb_con _ _ _ _ _ _ _ ?c0 ?z0 ?z1 ?z2) ?k1 ?k2 ?k3 ?k4 ?k5 ?kK ?kd ?ku ?_; (case c0 => assumption); (case z0 => assumption); (case z1 => assumption); (case z2 => assumption); ktr_rel; intro D9 o9 h9 tk9 O9 F9 N9 l9; obtain ⟨u9, v9, w9, e9⟩ := O9; subst e9; (try dsimp only); (try k_fold))
  obtain ⟨⟨c0, z0, z1, z2⟩, ⟨f1, e1⟩, ⟨f2, e2⟩, ⟨f3, e3⟩⟩ := told
  dsimp only [inF, outF, hueOut, lightOut, shareOut] at c0 z0 z1 z2 f1 e1 f2 e2 f3 e3
  intro mean mg mb dp un gd cn cs a ccd cl outer A₀ base h₀ L m news s Q E B F X N T hk hd hu hret
  run_tac fillFrag `Mine.KF
  refine wpAny_call ?_
  (first | k_dflt cell_enter | fail "not entered")
  k_steps
  all_goals first
    | (exfalso; omega)
    | (exfalso; simp only [bne_iff_ne, ne_eq, decide_eq_true_eq] at *; omega)
    | exact ret_int hret (by k_asm) (cb_drop (by assumption) (fun p hp => List.mem_cons_of_mem _ (List.mem_cons_of_mem _ hp))) e3
    | fail "open"
  run_tac squeeze

end
theorem quietC4 : True := by
  run_tac quiet
  trivial
-- C5
section
open PySem PySem.W PySem.Spec PySem.Calls PyProof.Rows

theorem hashInt_small {k : Int} (h0 : 0 ≤ k) (h1 : k < 2 ^ 60) : hashInt k = k := by
  run_tac mark
  have n : ¬ k < 0 := by omega
  have e : ((k.natAbs : Int) % ((2 ^ 61 - 1 : Nat) : Int)) = k := by rw [Int.natAbs_of_nonneg h0]; omega
  have m : (k == -1) = false := by simp; omega
  have h : rawHash k = k := by
    simp only [rawHash, if_neg n]
    first | (rw [e, m]; rfl) | (simp only [Int.natCast_emod] at *; rw [e]; simp [m])
  unfold hashInt
  rw [h, m]
  rfl
  run_tac squeeze

theorem SS.ok_all {l : List Int} : ∀ {x : SS} (_ : x.Ok l) (its : List (Int × Tok)), (x.addAll its).Ok (l ++ its.map (·.1)) := by
  run_tac mark
  intro x o its
  induction its generalizing x l with
  | nil => simpa [SS.addAll] using o
  | cons e r ih =>
    have := ih (o.add_ok e.1 e.2)
    simpa [SS.addAll, List.append_assoc] using this
  run_tac squeeze

theorem SS.ok_fresh (led : Bool) : (⟨#[], 0, SetTable.fresh 0 0 led⟩ : SS).Ok [] := ⟨fun e h => by simp at h, fun k => by simp, by rfl, rfl⟩

theorem setMade_of {prog : Program} {w : World} (P : Params) (its : List (Int × Tok)) (hs : ∀ k ∈ its.map (·.1), 0 ≤ k ∧ k < 2 ^ 60) :
    (setMade P its).SetObjOf (intKind prog w) (fun k => decide (k ∈ its.map (·.1))) its.length := by
  run_tac mark
  have o := SS.ok_all (SS.ok_fresh (!P.followText "set-order")) its
  rw [List.nil_append] at o
  refine ⟨⟨rfl, rfl, rfl⟩, _, _, _, rfl, fun e he => ?_, fun k => ?_, by rw [o.size, List.length_map], o.fits⟩
  · obtain ⟨k, t, rfl⟩ := o.allInt e he
    obtain ⟨a, b⟩ := hs k ((o.mem k).mp ⟨_, he, rfl⟩)
    exact ⟨⟨k, by simp [intKind, Value.isInt], (hashInt_small a b).symm⟩, rfl⟩
  · rw [decide_eq_true_eq, ← o.mem]
    constructor
    · rintro ⟨e, he, rfl⟩
      obtain ⟨k, t, rfl⟩ := o.allInt e he
      exact ⟨_, he, by simp [intKind, Value.isInt]⟩
    · rintro ⟨e, he, h⟩
      obtain ⟨k', t, rfl⟩ := o.allInt e he
      refine ⟨_, he, ?_⟩
      exact (by simpa [intKind, Value.isInt] using h)
  run_tac squeeze


noncomputable def b1L : List Int := [173, 847, 6150, 6155, 6156, 6157, 8203, 8204, 8205, 8288, 65279, 65024, 65025, 65026, 65027, 65028, 65029, 65030, 65031, 65032, 65033, 65034, 65035, 65036, 65037, 65038, 65039]
theorem in_b1 {prog : Program} {w : World} {A : Around} {E : Value → Shared → Prop} {s : Shared} {h₀ : Heap} {L : Addr} {m : Str → Option Value} {k : Int} {t : Tok} {Q : Value → Shared → Prop} (F : Fr h₀ L s.heap m) (X : (KF w.params).In h₀) (h : Q (.bool (decide (k ∈ b1L))) { s with toks := s.toks + 1 }) :
    wpAny (model prog w) A (compareOp .In (.int k t) (.ref 43)) Q E s :=
  in_argsetI (o := setAt43 w.params) (S := fun k => decide (k ∈ b1L)) F (setMade_of w.params _ (by decide)) (X _ _ (by kernel_rfl)) (by decide) h

theorem b1_con (w : World) (c : Nat) (t1 : Tok) : Pure1 w 53 1 [.str ⟨#[c]⟩ t1] (fun _ => .bool (decide ((c : Int) ∈ b1L))) := by
  run_tac mark
  k_with_none
  k_with "m:call builtin:ord" => (k_here; refine' P.ord_of_char ?_)
  k_with "m:compareOp In int ref" => (k_here; refine' in_b1 ?k1 ?k2 ?_; (case k1 => k_asm); (case k2 => k_asm))
  intro mean mg mb dp un gd cn cs a ccd cl outer A₀ base h₀ L m news s Q E B F X N T hk hd hu hret
  run_tac fillFrag `Mine.KF
  refine wpAny_call ?_
  (first | k_dflt cell_enter | fail "not entered")
  k_steps
  exact hret 0 _ _ (by k_asm) (by k_asm)
  run_tac squeeze

noncomputable def c8L : List Int := [832, 833, 8206, 8207, 8234, 8235, 8236, 8237, 8238, 8298, 8299, 8300, 8301, 8302, 8303]
theorem in_c8 {prog : Program} {w : World} {A : Around} {E : Value → Shared → Prop} {s : Shared} {h₀ : Heap} {L : Addr} {m : Str → Option Value} {k : Int} {t : Tok} {Q : Value → Shared → Prop} (F : Fr h₀ L s.heap m) (X : (KF w.params).In h₀) (h : Q (.bool (decide (k ∈ c8L))) { s with toks := s.toks + 1 }) :
    wpAny (model prog w) A (compareOp .In (.int k t) (.ref 113)) Q E s :=
  in_argsetI (o := setAt113 w.params) (S := fun k => decide (k ∈ c8L)) F (setMade_of w.params _ (by decide)) (X _ _ (by kernel_rfl)) (by decide) h

theorem c8_con (w : World) (c : Nat) (t1 : Tok) : Pure1 w 123 1 [.str ⟨#[c]⟩ t1] (fun _ => .bool (decide ((c : Int) ∈ c8L))) := by
  run_tac mark
  k_with_none
  k_with "m:call builtin:ord" => (k_here; refine' P.ord_of_char ?_)
  k_with "m:compareOp In int ref" => (k_here; refine' in_b1 ?k1 ?k2 ?_; (case k1 => k_asm); (case k2 => k_asm))
  k_with "m:compareOp In int ref" => (k_here; refine' in_c8 ?k1 ?k2 ?_; (case k1 => k_asm); (case k2 => k_asm))
  intro mean mg mb dp un gd cn cs a ccd cl outer A₀ base h₀ L m news s Q E B F X N T hk hd hu hret
  run_tac fillFrag `Mine.KF
  refine wpAny_call ?_
  (first | k_dflt cell_enter | fail "not entered")
  k_steps
  exact hret 0 _ _ (by k_asm) (by k_asm)
  run_tac squeeze

noncomputable def c9L : List Int := [917505, 917536, 917537, 917538, 917539, 917540, 917541, 917542, 917543, 917544, 917545, 917546, 917547, 917548, 917549, 917550, 917551, 917552, 917553, 917554, 917555, 917556, 917557, 917558, 917559, 917560, 917561, 917562, 917563, 917564, 917565, 917566, 917567, 917568, 917569, 917570, 917571, 917572, 917573, 917574, 917575, 917576, 917577, 917578, 917579, 917580, 917581, 917582, 917583, 917584, 917585, 917586, 917587, 917588, 917589, 917590, 917591, 917592, 917593, 917594, 917595, 917596, 917597, 917598, 917599, 917600, 917601, 917602, 917603, 917604, 917605, 917606, 917607, 917608, 917609, 917610, 917611, 917612, 917613, 917614, 917615, 917616, 917617, 917618, 917619, 917620, 917621, 917622, 917623, 917624, 917625, 917626, 917627, 917628, 917629, 917630, 917631]
theorem in_c9 {prog : Program} {w : World} {A : Around} {E : Value → Shared → Prop} {s : Shared} {h₀ : Heap} {L : Addr} {m : Str → Option Value} {k : Int} {t : Tok} {Q : Value → Shared → Prop} (F : Fr h₀ L s.heap m) (X : (KF w.params).In h₀) (h : Q (.bool (decide (k ∈ c9L))) { s with toks := s.toks + 1 }) :
    wpAny (model prog w) A (compareOp .In (.int k t) (.ref 131)) Q E s :=
  in_argsetI (o := setAt131 w.params) (S := fun k => decide (k ∈ c9L)) F (setMade_of w.params _ (by decide)) (X _ _ (by kernel_rfl)) (by decide) h

theorem c9_con (w : World) (c : Nat) (t1 : Tok) : Pure1 w 141 1 [.str ⟨#[c]⟩ t1] (fun _ => .bool (decide ((c : Int) ∈ c9L))) := by
  run_tac mark
  k_with_none
  k_with "m:call builtin:ord" => (k_here; refine' P.ord_of_char ?_)
  k_with "m:compareOp In int ref" => (k_here; refine' in_b1 ?k1 ?k2 ?_; (case k1 => k_asm); (case k2 => k_asm))
  k_with "m:compareOp In int ref" => (k_here; refine' in_c8 ?k1 ?k2 ?_; (case k1 => k_asm); (case k2 => k_asm))
  k_with "m:compareOp In int ref" => (k_here; refine' in_c9 ?k1 ?k2 ?_; (case k1 => k_asm); (case k2 => k_asm))
  intro mean mg mb dp un gd cn cs a ccd cl outer A₀ base h₀ L m news s Q E B F X N T hk hd hu hret
  run_tac fillFrag `Mine.KF
  refine wpAny_call ?_
  (first | k_dflt cell_enter | fail "not entered")
  k_steps
  exact hret 0 _ _ (by k_asm) (by k_asm)
  run_tac squeeze

end
theorem quietC5 : True := by
  run_tac quiet
  trivial
-- C6
section
open PySem PySem.W PySem.Spec PySem.Calls PyProof.Rows

noncomputable def esOf (o : Obj) : Array DictEntry := match o.data with | .dict es _ => es | _ => #[]
noncomputable def natIs (c : Nat) : Value → Bool
  | .int (.ofNat a) _ => Nat.beq a c
  | _ => false
theorem natIs_is (c : Nat) (v : Value) : Value.isInt (c : Int) v = natIs c v := by
  run_tac mark
  unfold natIs
  split
  · rename_i a t
    rw [Bool.eq_iff_iff]
    constructor
    · intro h
      have h : (Int.ofNat a) = (c : Int) := eq_of_beq h
      have h : a = c := Int.ofNat.inj h
      subst h
      exact Nat.beq_refl a
    · intro h
      have h := Nat.eq_of_beq_eq_true h
      subst h
      exact beq_self_eq_true (Int.ofNat a)
  · rename_i h
    cases v <;> simp only [Value.isInt] <;> first | rfl | skip
    rename_i k t
    rcases k with a | a
    · exact absurd rfl (h a t)
    · exact beq_eq_false_iff_ne.mpr (by intro e; cases e)
  run_tac squeeze

noncomputable def goodInt (e : DictEntry) : Bool := match e.key, e.hash with
  | .int (.ofNat a) _, .ofNat b => Nat.beq a b && Nat.ble a 1000000
  | _, _ => false
noncomputable def goodInts (es : Array DictEntry) : Bool := es.toList.all goodInt
theorem find_nat (es : Array DictEntry) (c : Nat) : findBy Value.isInt es (c : Int) = (es.toList.find? fun e => natIs c e.key).map (·.val) := by
  run_tac mark
  obtain ⟨l⟩ := es
  simp only [findBy, List.find?_toArray, natIs_is]
  run_tac squeeze

theorem mapOf_ints {prog : Program} {w : World} {h : Heap} {a : Addr} {es : Array DictEntry} {n : Nat} (ho : h.get? a = some ⟨.type "dict", none, .dict es n, #[]⟩) (g : goodInts es = true) :
    h.MapOf (intKind prog w) a (findBy Value.isInt es) := by
  run_tac mark
  refine ⟨_, es, n, ho, ⟨rfl, rfl, rfl⟩, rfl, fun e he => ?_, fun k => rfl⟩
  have := List.all_eq_true.mp g e (Array.mem_toList_iff.mpr he)
  unfold goodInt at this
  split at this
  · rename_i a t b hk hb
    rw [Bool.and_eq_true] at this
    have e := Nat.eq_of_beq_eq_true this.1
    have l := Nat.le_of_ble_eq_true this.2
    refine ⟨(a : Int), by rw [hk]; exact (natIs_is a (Value.int (Int.ofNat a) t)).trans (show natIs a (Value.int (Int.ofNat a) t) = true from Nat.beq_refl a), ?_⟩
    rw [hb, ← e]
    exact (hashInt_small (k := (a : Int)) (by omega) (by omega)).symm
  · cases this
  run_tac squeeze

section
variable {prog : Program} {w : World} {A : Around} {E : Value → Shared → Prop} {s : Shared} {h₀ : Heap} {L d : Addr} {m : Str → Option Value} {es : Array DictEntry} {n : Nat}
theorem top_get_method {pl : Sem Bool} {Q : Value × List Value → Shared → Prop} (F : Fr h₀ L s.heap m) (ho : h₀.get? d = some ⟨.type "dict", none, .dict es n, #[]⟩) (g : goodInts es = true) (h : Q (.builtin "dict.get", [.ref d]) s) : wpAny (model prog w) A (getMethod (.ref d) "get" pl) Q E s :=
  have hD := mapOf_ints (prog := prog) (w := w) (F.keep _ _ ho) g
  getMethod_builtin hD.typeIs PySem.F.plainAttrs_dict PySem.F.slot_dict_get PySem.F.type_dict_get hD.noDict h

theorem top_get {k : Int} {t : Tok} {Q : Value → Shared → Prop} (F : Fr h₀ L s.heap m) (ho : h₀.get? d = some ⟨.type "dict", none, .dict es n, #[]⟩) (g : goodInts es = true) (lo : (d == sysModules) = false) (h : Q ((findBy Value.isInt es k).getD .none) { s with toks := s.toks + 1 }) :
    wpAny (model prog w) A (call (.builtin "dict.get") [.ref d, .int k t]) Q E s :=
  have hD := mapOf_ints (prog := prog) (w := w) (F.keep _ _ ho) g
  call_meetsIn PySem.F.slot_dict_get hD.typeIs PySem.F.entry_dict_get (PySem.F.args_dict_get_2 _ _) (meets_dict_get _ d (intKind_is _ _ _ _) lo) ⟨_, hD, h⟩

end
noncomputable def P0 : Params := { strHash := fun _ => 0, shareClass := fun a => a, mergeTok := fun t => t, idOf := fun _ => 0, idOfShared := fun _ _ => 0, followText := fun _ => false, idOfImm := fun _ => 0 }
noncomputable def b3es : Array DictEntry := match List.lookup 54 (KF P0) with | some o => esOf o | none => #[]
noncomputable def b3n : Nat := match List.lookup 54 (KF P0) with | some ⟨_, _, .dict _ n, _⟩ => n | _ => 0
theorem b3_at (P : Params) : List.lookup 54 (KF P) = some ⟨.type "dict", none, .dict b3es b3n, #[]⟩ := by kernel_rfl

theorem b3_good : goodInts b3es = true := by kernel_rfl

noncomputable def strAt : Option Value → Option Str | some (.str x _) => some x | _ => none
noncomputable def b3F (c : Nat) : Option Value := (b3es.toList.find? fun e => natIs c e.key).map (·.val)
noncomputable def b3Chars : List Nat := [119808, 119860, 119912, 120016, 120172, 120224, 120276, 120328, 120380, 120432]
theorem b3_math : (b3Chars.all fun c => (List.range 3).all fun i => strAt (b3F (c + i)) == some ⟨#[97 + i]⟩) = true := by kernel_rfl

theorem b3_plain : ([60, 62, 65, 66, 67, 97, 98, 99].all fun c => (b3F c).isNone) = true := by kernel_rfl

section
variable {prog : Program} {w : World} {A : Around} {E : Value → Shared → Prop} {s : Shared} {h₀ : Heap} {L d : Addr} {m : Str → Option Value}
theorem b3_method {pl : Sem Bool} {Q : Value × List Value → Shared → Prop} (F : Fr h₀ L s.heap m) (X : (KF w.params).In h₀) (h : Q (.builtin "dict.get", [.ref 54]) s) : wpAny (model prog w) A (getMethod (.ref 54) "get" pl) Q E s :=
  top_get_method F (X _ _ (b3_at _)) b3_good h

theorem b3_get {c : Nat} {t : Tok} {v : Value} {Q : Value → Shared → Prop} (F : Fr h₀ L s.heap m) (X : (KF w.params).In h₀) (hv : (b3F c).getD .none = v) (h : Q v { s with toks := s.toks + 1 }) :
    wpAny (model prog w) A (call (.builtin "dict.get") [.ref 54, .int (c : Int) t]) Q E s :=
  top_get F (X _ _ (b3_at _)) b3_good (by decide) (by rw [find_nat]; exact hv ▸ h)

end
theorem ret_str {h₀ h' : Heap} {L : Addr} {m : Str → Option Value} {news : List (Addr × Obj)} {s : Shared} {Q : Value → Shared → Prop} {tk' : Nat} {x y : Str} {t : Tok}
    (hret : ∀ t h' tk', Fr h₀ L h' m → News h₀ L h' news → Q (.str x t) { s with heap := h', toks := tk' }) (F : Fr h₀ L h' m) (N : News h₀ L h' news) (e : y = x) : Q (.str y t) { s with heap := h', toks := tk' } := e ▸ hret t h' tk' F N

theorem b3_some (w : World) (c : Nat) (t1 : Tok) (r : Str) (hr : strAt (b3F c) = some r) : Pure1 w 99 2 [.str ⟨#[c]⟩ t1] (fun t => .str r t) := by
  run_tac mark
  k_with_none
  k_with "m:call builtin:ord" => (k_here; refine' P.ord_of_char ?_)
  k_with "m:getMethod ref" => (k_here; (with_reducible show wpAny _ _ (getMethod (Value.ref 54) _ _) _ _ _); k_dflt (refine' b3_method ?k1 ?k2 ?_; (case k1 => k_asm); (case k2 => k_asm)))
  k_with "m:call builtin:dict.get" => (k_here; k_dflt (refine' b3_get ?k1 ?k2 (by assumption) ?_; (case k1 => k_asm); (case k2 => k_asm)))
  obtain ⟨u, hv⟩ : ∃ u, (b3F c).getD .none = .str r u := by
    cases h : b3F c with
    | none => rw [h] at hr; cases hr
    | some v => rw [h] at hr; cases v <;> simp [strAt] at hr <;> (subst hr; exact ⟨_, rfl⟩)
  intro mean mg mb dp un gd cn cs a ccd cl outer A₀ base h₀ L m news s Q E B F X N T hk hd hu hret
  run_tac fillFrag `Mine.KF
  refine wpAny_call ?_
  (first | k_dflt cell_enter | fail "not entered")
  k_steps
  exact hret _ _ _ (by k_asm) (by k_asm)
  run_tac squeeze

theorem lower_one {prog : Program} {w : World} {A : Around} {E : Value → Shared → Prop} {s : Shared} {c : Nat} {t : Tok} {Q : Value → Shared → Prop} (h : Q (.str (Txt.lower ⟨#[c]⟩) s.toks) { s with toks := s.toks + 1 }) : wpAny (model prog w) A (call (.builtin "str.lower") [.str ⟨#[c]⟩ t]) Q E s :=
  SCL.lower (x := ⟨#[c]⟩) (by show 1 ≤ 5592405; decide) fun _ => h

theorem b3_none (w : World) (c : Nat) (t1 : Tok) (hr : (b3F c).isNone = true) : Pure1 w 99 2 [.str ⟨#[c]⟩ t1] (fun t => .str (Txt.lower ⟨#[c]⟩) t) := by
  run_tac mark
  k_with_none
  k_with "m:call builtin:ord" => (k_here; refine' P.ord_of_char ?_)
  k_with "m:getMethod ref" => (k_here; (with_reducible show wpAny _ _ (getMethod (Value.ref 54) _ _) _ _ _); k_dflt (refine' b3_method ?k1 ?k2 ?_; (case k1 => k_asm); (case k2 => k_asm)))
  k_with "m:call builtin:dict.get" => (k_here; k_dflt (refine' b3_get ?k1 ?k2 (by assumption) ?_; (case k1 => k_asm); (case k2 => k_asm)))
  k_with "m:call builtin:str.lower" => (k_here; refine' lower_one ?_)
  have hv : (b3F c).getD .none = .none := by cases h : b3F c <;> simp [h] at hr ⊢
  intro mean mg mb dp un gd cn cs a ccd cl outer A₀ base h₀ L m news s Q E B F X N T hk hd hu hret
  run_tac fillFrag `Mine.KF
  refine wpAny_call ?_
  (first | k_dflt cell_enter | fail "not entered")
  k_steps
  exact hret _ _ _ (by k_asm) (by k_asm)
  run_tac squeeze

/-- what map_table_b3 makes of one sign -/
noncomputable def b3Of (c : Nat) : Str := (strAt (b3F c)).getD (Txt.lower ⟨#[c]⟩)
theorem b3_con (w : World) (c : Nat) (t1 : Tok) (h : (strAt (b3F c)).isSome = true ∨ (b3F c).isNone = true) : Pure1 w 99 2 [.str ⟨#[c]⟩ t1] (fun t => .str (b3Of c) t) := by
  run_tac mark
  unfold b3Of
  cases hs : strAt (b3F c) with
  | some r => exact b3_some w c t1 r hs
  | none => rw [hs] at h; exact b3_none w c t1 (h.resolve_left (by decide))
  run_tac squeeze

theorem b3_plain2 : ([60, 62, 65, 66, 67, 97, 98, 99].all fun c => Txt.lower ⟨#[c]⟩ == ⟨#[if 65 ≤ c ∧ c ≤ 67 then c + 32 else c]⟩) = true := by decide +kernel

end
theorem quietC6 : True := by
  run_tac quiet
  trivial
-- C7
section
open PySem PySem.W PySem.Spec PySem.Calls PyProof.Rows
noncomputable def allText (es : Array DictEntry) : Bool := es.toList.all fun e => (strAt (some e.val)).isSome
theorem b3_texts : allText b3es = true := by kernel_rfl

theorem b3_any (w : World) (c : Nat) (t1 : Tok) : Pure1 w 99 2 [.str ⟨#[c]⟩ t1] (fun t => .str (b3Of c) t) := by
  run_tac mark
  refine b3_con w c t1 ?_
  unfold b3F
  cases h : b3es.toList.find? (fun e => natIs c e.key) with
  | none => exact .inr rfl
  | some e => exact .inl (List.all_eq_true.mp b3_texts e (List.mem_of_find?_eq_some h))
  run_tac squeeze

noncomputable def ltS : Str := Str.ofString "<"
noncomputable def gtS : Str := Str.ofString ">"
noncomputable def swapS (b : Bool) (m : Str) : Str := if b = true ∧ m = ltS then gtS else if b = true ∧ m = gtS then ltS else m
noncomputable def meantS (c : Int) : Str := if c ∈ c9L then ⟨#[(c - 917504).toNat]⟩ else b3Of c.toNat
noncomputable def prepStep (σ : Bool × List Str) (c : Int) : Bool × List Str :=
  if c ∈ b1L then σ else if c ∈ c8L then (!σ.1, σ.2) else (σ.1, σ.2 ++ [swapS σ.1 (meantS c)])
noncomputable def prep (cs : List Int) : Bool × List Str := cs.foldl prepStep (false, [])
theorem prep_snoc (cs : List Int) (c : Int) : prep (cs ++ [c]) = prepStep (prep cs) c := by simp [prep, List.foldl_append]

theorem b3_short : (b3es.toList.all fun e => match strAt (some e.val) with | some x => Nat.ble x.length 8 | none => true) = true := by kernel_rfl

theorem b3Of_len (c : Nat) : (b3Of c).length ≤ 8 := by
  run_tac mark
  unfold b3Of b3F
  cases h : b3es.toList.find? (fun e => natIs c e.key) with
  | none => exact Nat.le_trans (len_lower _) (by show 3 * 1 ≤ 8; decide)
  | some e =>
    have := List.all_eq_true.mp b3_short e (List.mem_of_find?_eq_some h)
    dsimp only [Option.map]
    cases hs : strAt (some e.val) with
    | none => exact Nat.le_trans (len_lower _) (by show 3 * 1 ≤ 8; decide)
    | some x => rw [hs] at this; exact Nat.le_of_ble_eq_true this
  run_tac squeeze

theorem meantS_len (c : Int) : (meantS c).length ≤ 8 := by
  run_tac mark
  unfold meantS
  split
  · show 1 ≤ 8; decide
  · exact b3Of_len _
  run_tac squeeze

theorem swapS_len (b : Bool) (m : Str) (h : m.length ≤ 8) : (swapS b m).length ≤ 8 := by
  run_tac mark
  unfold swapS
  split
  · decide
  · split
    · decide
    · exact h
  run_tac squeeze

theorem prep_fit (cs : List Int) : ((prep cs).2.map (·.length)).sum + (prep cs).2.length ≤ 9 * cs.length ∧ (prep cs).2.length ≤ cs.length := by
  run_tac mark
  have go : ∀ (l : List Int) (σ : Bool × List Str) (n : Nat), ((σ.2.map (·.length)).sum + σ.2.length ≤ 9 * n ∧ σ.2.length ≤ n) → (((l.foldl prepStep σ).2.map (·.length)).sum + (l.foldl prepStep σ).2.length ≤ 9 * (n + l.length) ∧ (l.foldl prepStep σ).2.length ≤ n + l.length) := by
    intro l
    induction l with
    | nil => intro σ n h; exact h
    | cons c r ih =>
      intro σ n h
      have := ih (prepStep σ c) (n + 1) (by
        unfold prepStep
        split
        · omega
        · split
          · dsimp only; omega
          · have h8 := swapS_len σ.1 (meantS c) (meantS_len c)
            simp only [List.map_append, List.map_cons, List.map_nil, List.sum_append, List.sum_cons, List.sum_nil, List.length_append, List.length_cons, List.length_nil]
            omega)
      simp only [List.length_cons, List.foldl_cons]
      omega
  have := go cs (false, []) 0 (by simp)
  simpa [prep] using this
  run_tac squeeze

theorem c9_range : ∀ k ∈ c9L, 917505 ≤ k ∧ k < 917632 := by decide

theorem chr_c9 {prog : Program} {w : World} {A : Around} {E : Value → Shared → Prop} {s : Shared} {c : Nat} {t : Tok} {Q : Value → Shared → Prop} (hc : (c : Int) ∈ c9L) (h : Q (.str ⟨#[((c : Int) - 917504).toNat]⟩ s.toks) { s with toks := s.toks + 1 }) :
    wpAny (model prog w) A (call (.builtin "chr") [.int ((c : Int) - 917504) t]) Q E s :=
  P.chr_of_int (by have := c9_range _ hc; simp; omega) h

theorem join_prep {prog : Program} {w : World} {A : Around} {E : Value → Shared → Prop} {s : Shared} {D : Addr} {items : Array Value} {ys : List Str} {cs : List Int} {b : Bool} {x : Str} {t : Tok} {Q : Value → Shared → Prop} (hl : s.heap.IsList D items) (hi : StrsAre items.toList ys) (hp : (b, ys) = prep cs) (hsep : x.length ≤ 16) (hn : cs.length ≤ 1000)
    (h : ∀ t' k, Q (.str (Txt.join x ys) t') { s with toks := k }) : wpAny (model prog w) A (call (.builtin "str.join") [.str x t, .ref D]) Q E s :=
  join_listW hl hi hsep (by have := (prep_fit cs).1; rw [← hp] at this; dsimp only at this; omega) h

noncomputable def prepText (x : Str) : Str := Txt.join (Str.ofString "") (prep (KStt.codes x)).2
theorem prep_state {pre : List Int} {c : Nat} {b b' : Bool} {ss ss' : List Str} (h : (b, ss) = prep pre) (h2 : (b', ss') = prepStep (b, ss) c) : ss'.length ≤ (pre ++ [(c : Int)]).length ∧ (b', ss') = prep (pre ++ [(c : Int)]) := by
  run_tac mark
  refine ⟨?_, by rw [prep_snoc, ← h, h2]⟩
  have := (prep_fit (pre ++ [(c : Int)])).2
  rw [prep_snoc, ← h, ← h2] at this
  exact this
  run_tac squeeze

theorem prep_b1 {pre : List Int} {c : Nat} {b : Bool} {ss : List Str} (h : (b, ss) = prep pre) (n : (c : Int) ∈ b1L) : ss.length ≤ (pre ++ [(c : Int)]).length ∧ (b, ss) = prep (pre ++ [(c : Int)]) :=
  prep_state h (by unfold prepStep; rw [if_pos n])

theorem prep_c8 {pre : List Int} {c : Nat} {b : Bool} {ss : List Str} (h : (b, ss) = prep pre) (n : ¬ (c : Int) ∈ b1L) (n2 : (c : Int) ∈ c8L) : ss.length ≤ (pre ++ [(c : Int)]).length ∧ (!b, ss) = prep (pre ++ [(c : Int)]) :=
  prep_state h (by unfold prepStep; rw [if_neg n, if_pos n2])

theorem prep_put {pre : List Int} {c : Nat} {b : Bool} {ss : List Str} {m r : Str} (h : (b, ss) = prep pre) (n : ¬ (c : Int) ∈ b1L) (n2 : ¬ (c : Int) ∈ c8L) (hm : meantS c = m) (hr : swapS b m = r) : (ss ++ [r]).length ≤ (pre ++ [(c : Int)]).length ∧ (b, ss ++ [r]) = prep (pre ++ [(c : Int)]) :=
  prep_state h (by unfold prepStep; rw [if_neg n, if_neg n2, hm]; dsimp only; rw [hr])

theorem meant_c9 {c : Nat} (h : (c : Int) ∈ c9L) : meantS c = ⟨#[((c : Int) - 917504).toNat]⟩ := if_pos h

theorem meant_b3 {c : Nat} (h : ¬ (c : Int) ∈ c9L) : meantS c = b3Of c := if_neg h

theorem swap_1 {b : Bool} {m : Str} (hb : b = true) (h : (m == Str.ofString "<") = true) : swapS b m = Str.ofString ">" := by
  run_tac mark
  unfold swapS; rw [if_pos ⟨hb, eq_of_beq h⟩]; rfl
  run_tac squeeze

theorem swap_2 {b : Bool} {m : Str} (hb : b = true) (h : (m == Str.ofString "<") = false) (h2 : (m == Str.ofString ">") = true) : swapS b m = Str.ofString "<" := by
  run_tac mark
  unfold swapS; rw [if_neg (fun e => by rw [e.2] at h; revert h; decide), if_pos ⟨hb, eq_of_beq h2⟩]; rfl
  run_tac squeeze

theorem swap_3 {b : Bool} {m : Str} (h : (m == Str.ofString "<") = false) (h2 : (m == Str.ofString ">") = false) : swapS b m = m := by
  run_tac mark
  unfold swapS; rw [if_neg (fun e => by rw [e.2] at h; revert h; decide), if_neg (fun e => by rw [e.2] at h2; revert h2; decide)]
  run_tac squeeze

theorem swap_4 {b : Bool} {m : Str} (hb : b = false) : swapS b m = m := by
  run_tac mark
  unfold swapS; rw [if_neg (fun e => by rw [hb] at e; cases e.1), if_neg (fun e => by rw [hb] at e; cases e.1)]
  run_tac squeeze

set_option maxHeartbeats 4000000 in
theorem prep_con (w : World) (x : Str) (t1 : Tok) (hx : x.length ≤ 1000) : Pure1 w 165 3 [.str x t1] (fun t => .str (prepText x) t) := by
  run_tac mark
  k_with_none
  k_with "m:ktr_rel" => ((case k1 => k_asm); (case k2 => k_asm); (case k3 => k_asm); (case k4 => k_asm); (case k5 => k_asm); (case kK => first | exact rfl | assumption); (case kd => ktr_room); (case ku => ktr_units); intro t9 h9 tk9 F9 N9; (try dsimp only); (try k_fold))
  k_with "m:call ref" => (k_here; refine' use1 (b1_con _ _ _) ?k1 ?k2 ?k3 ?k4 ?k5 ?kK ?kd ?ku ?_; ktr_rel)
  k_with "m:call ref" => (k_here; refine' use1 (c8_con _ _ _) ?k1 ?k2 ?k3 ?k4 ?k5 ?kK ?kd ?ku ?_; ktr_rel)
  k_with "m:call ref" => (k_here; refine' use1 (c9_con _ _ _) ?k1 ?k2 ?k3 ?k4 ?k5 ?kK ?kd ?ku ?_; ktr_rel)
  k_with "m:call ref" => (k_here; refine' use1 (b3_any _ _ _) ?k1 ?k2 ?k3 ?k4 ?k5 ?kK ?kd ?ku ?_; ktr_rel)
  k_with "m:call builtin:ord" => (k_here; refine' P.ord_of_char ?_)
  k_with "m:kst_facts" => (first | exact PyProof.Rows.StrsAre.nil | exact PyProof.Rows.StrsAre.append' (by assumption) (.cons _ _ .nil) | assumption | fail "MYFACTS")
  k_with "m:call builtin:chr" => (k_here; refine' chr_c9 (by assumption) ?_)
  k_with "m:call builtin:str.join" => (k_here; (refine' join_prep ?k1 ?k2 (by assumption) (by decide) ?k3 ?_; (case k1 => is_list); (case k2 => assumption); (case k3 => (rw [KStt.codes_length]; assumption))); intro _ _; (try dsimp only))
  intro mean mg mb dp un gd cn cs a ccd cl outer A₀ base h₀ L m news s Q E B F X N T hk hd hu hret
  run_tac fillFrag `Mine.KF
  k_with "pyIter str" => k_state (fun pre turned signs => signs.length ≤ pre.length ∧ (turned, signs) = prep pre) "turned" "signs$"
  k_with "state" => first
    | exact ⟨Nat.le_refl _, rfl⟩
    | exact prep_b1 (by assumption) (by assumption)
    | exact prep_c8 (by assumption) (by assumption) (by assumption)
    | (refine prep_put (by assumption) (by assumption) (by assumption) (by first | exact meant_c9 (by assumption) | exact meant_b3 (by assumption)) ?_; first | exact swap_1 (by assumption) (by assumption) | exact swap_2 (by assumption) (by assumption) (by assumption) | exact swap_3 (by assumption) (by assumption) | exact swap_4 (by assumption))
  refine wpAny_call ?_
  (first | k_dflt cell_enter | fail "not entered")
  k_steps
  refine ret_str hret (by k_asm) (cb_drop (by assumption) (fun p hp => List.mem_cons_of_mem _ hp)) ?_
  exact congrArg (Txt.join (Str.ofString "")) (congrArg Prod.snd (by assumption))
  run_tac squeeze

end
theorem quietC7 : True := by
  run_tac quiet
  trivial
-- C8
section
open PySem PySem.W PySem.Spec PySem.Calls PyProof.Rows
theorem item_code {prog : Program} {w : World} {A : Around} {E : Value → Shared → Prop} {s : Shared} {h₀ : Heap} {L l : Addr} {news : List (Addr × Obj)} {vs : List Value} {ns : List Int} {n : Nat} {value slice : PySem.Expr} {k : Int} {u : Tok} {Q : Value → Shared → Prop} (N : News h₀ L s.heap news) (hl : (l, listOf vs.toArray n) ∈ news) (hi : IntsAre vs ns) (hn : ns.length = 5) (hb : ∀ c ∈ ns, 0 ≤ c ∧ c < 1000000) (h0 : 0 ≤ k) (h1 : k < 5)
    (h : ∀ c t, ns[k.toNat]? = some c → 0 ≤ c → c < 1000000 → Q (.int c t) s)
    (hs : subscripted slice false (.ref l) (.int k u) = operate [.ref l, .int k u] (getItem (.ref l) (.int k u)) := by with_unfolding_all rfl) :
    wpAny (model prog w) A (subscriptTail value slice (.ref l) (.int k u)) Q E s := by
  run_tac mark
  have hL : s.heap.IsList l vs.toArray := News.isList N hl
  have hk : k.toNat < ns.length := by omega
  obtain ⟨c, hc⟩ : ∃ c, ns[k.toNat]? = some c := ⟨_, List.getElem?_eq_getElem hk⟩
  obtain ⟨t, hx⟩ := hi.get k.toNat c hc
  obtain ⟨a, b⟩ := hb c (List.mem_of_getElem? hc)
  exact tail_any hL.typeIs slot_list_getitem.lookup (wpAny_getItem_list hL h0 (by omega) (by simpa using hx) (h c t hc a b)) hs
  run_tac squeeze

theorem getD_bd {l : List Int} {lo hi d : Int} (h : ∀ x ∈ l, lo ≤ x ∧ x ≤ hi) (hd : lo ≤ d ∧ d ≤ hi) (k : Nat) : lo ≤ l.getD k d ∧ l.getD k d ≤ hi := by
  run_tac mark
  rw [List.getD_eq_getElem?_getD]
  cases e : l[k]? with
  | none => exact hd
  | some x => exact h x (List.mem_of_getElem? e)
  run_tac squeeze

theorem face1 (k : Nat) : 0 ≤ ([97, 65, 119808, 119860, 119912, 120016, 120172, 120224, 120276, 120328, 120380, 120432, 917601] : List Int).getD k 0 + 1 ∧ ([97, 65, 119808, 119860, 119912, 120016, 120172, 120224, 120276, 120328, 120380, 120432, 917601] : List Int).getD k 0 + 1 ≤ (1114111 : Int) := by
  run_tac mark
  have := getD_bd (l := [97, 65, 119808, 119860, 119912, 120016, 120172, 120224, 120276, 120328, 120380, 120432, 917601]) (lo := 0) (hi := 1000000) (d := 0) (by decide) (by decide) k
  omega
  run_tac squeeze

theorem face2 (k : Nat) (c : Int) : 0 ≤ ([97, 65, 119808, 119860, 119912, 120016, 120172, 120224, 120276, 120328, 120380, 120432, 917601] : List Int).getD k 0 + 2 * c.fmod 2 ∧ ([97, 65, 119808, 119860, 119912, 120016, 120172, 120224, 120276, 120328, 120380, 120432, 917601] : List Int).getD k 0 + 2 * c.fmod 2 ≤ (1114111 : Int) := by
  run_tac mark
  have := getD_bd (l := [97, 65, 119808, 119860, 119912, 120016, 120172, 120224, 120276, 120328, 120380, 120432, 917601]) (lo := 0) (hi := 1000000) (d := 0) (by decide) (by decide) k
  have h2 : c.fmod 2 = c % 2 := Int.fmod_eq_emod_of_nonneg _ (by decide)
  rw [h2]
  omega
  run_tac squeeze

theorem face3 (k : Nat) : 0 ≤ ([8206, 8238, 832, 8299] : List Int).getD k 0 ∧ ([8206, 8238, 832, 8299] : List Int).getD k 0 ≤ (1114111 : Int) :=
  getD_bd (l := [8206, 8238, 832, 8299]) (lo := 0) (hi := 1114111) (d := 0) (by decide) (by decide) k

theorem chr_bd {prog : Program} {w : World} {A : Around} {E : Value → Shared → Prop} {s : Shared} {i : Int} {t : Tok} {Q : Value → Shared → Prop} (hi : 0 ≤ i ∧ i ≤ 1114111) (h : Q (.str ⟨#[i.toNat]⟩ s.toks) { s with toks := s.toks + 1 }) :
    wpAny (model prog w) A (call (.builtin "chr") [.int i t]) Q E s := chr_of_range hi.1 hi.2 h

noncomputable def pick3 (k : Int) (a b c : Str) : Str := if k = 0 then a else if k = 1 then b else c
theorem item_three {prog : Program} {w : World} {A : Around} {E : Value → Shared → Prop} {s : Shared} {h₀ : Heap} {L l : Addr} {news : List (Addr × Obj)} {a b c : Str} {ta tb tc : Tok} {n : Nat} {value slice : PySem.Expr} {k : Int} {u : Tok} {Q : Value → Shared → Prop} (N : News h₀ L s.heap news) (hl : (l, listOf #[.str a ta, .str b tb, .str c tc] n) ∈ news) (h0 : 0 ≤ k) (h1 : k < 3)
    (h : ∀ t, Q (.str (pick3 k a b c) t) s)
    (hs : subscripted slice false (.ref l) (.int k u) = operate [.ref l, .int k u] (getItem (.ref l) (.int k u)) := by with_unfolding_all rfl) :
    wpAny (model prog w) A (subscriptTail value slice (.ref l) (.int k u)) Q E s := by
  run_tac mark
  have hL : s.heap.IsList l #[.str a ta, .str b tb, .str c tc] := News.isList N hl
  obtain ⟨t, hx⟩ : ∃ t, (#[Value.str a ta, .str b tb, .str c tc] : Array Value)[k.toNat]? = some (.str (pick3 k a b c) t) := by
    have : k = 0 ∨ k = 1 ∨ k = 2 := by omega
    rcases this with rfl | rfl | rfl
    · exact ⟨ta, rfl⟩
    · exact ⟨tb, rfl⟩
    · exact ⟨tc, rfl⟩
  exact tail_any hL.typeIs slot_list_getitem.lookup (wpAny_getItem_list hL h0 (by omega) hx (h t)) hs
  run_tac squeeze

theorem fmod_bd (x : Int) {m : Int} (hm : 0 < m) : 0 ≤ x.fmod m ∧ x.fmod m < m := by rw [Int.fmod_eq_emod_of_nonneg _ (Int.le_of_lt hm)]; exact ⟨Int.emod_nonneg _ (by omega), Int.emod_lt_of_pos _ hm⟩

theorem mul_arrow {prog : Program} {w : World} {A : Around} {E : Value → Shared → Prop} {s : Shared} {h₀ : Heap} {L l : Addr} {m : Str → Option Value} {news : List (Addr × Obj)} {a : Str} {ta : Tok} {n : Nat} {c : Int} {u : Tok} {Q : Value → Shared → Prop} (F : Fr h₀ L s.heap m) (N : News h₀ L s.heap news) (hl : (l, listOf #[.str a ta] n) ∈ news)
    (h : ∀ h' D, Fr h₀ L h' m → News h₀ L h' news → h'.IsList D (List.replicate (c.fmod 7 - 3).natAbs (Value.str a ta)).toArray → Q (.ref D) { s with heap := h' }) :
    wpAny (model prog w) A (binaryOp .Mult (.ref l) (.int (if c.fmod 7 - 3 < 0 then -(c.fmod 7 - 3) else c.fmod 7 - 3) u)) Q E s := by
  run_tac mark
  have hb := fmod_bd c (m := 7) (by decide)
  have e : (if c.fmod 7 - 3 < 0 then -(c.fmod 7 - 3) else c.fmod 7 - 3).toNat = (c.fmod 7 - 3).natAbs := by split <;> omega
  refine mul_list_is (vs := [.str a ta]) (ds := [.str a]) F N (News.isList N hl) (by constructor <;> constructor) (by split <;> omega) (by split <;> omega) (by rw [e]; show 1 * _ ≤ _; omega) ?_
  intro h' F' N' _ I _
  rw [e] at I
  refine h h' _ F' N' ?_
  have e2 : (List.replicate (c.fmod 7 - 3).natAbs [Value.str a ta]).flatten = List.replicate (c.fmod 7 - 3).natAbs (Value.str a ta) := by
    generalize (c.fmod 7 - 3).natAbs = k
    induction k with
    | zero => rfl
    | succ k ih => rw [List.replicate_succ, List.flatten_cons, ih]; rfl
  rw [← e2]; exact I
  run_tac squeeze

theorem strs_rep (a : Str) (t : Tok) : ∀ k, StrsAre (List.replicate k (Value.str a t)) (List.replicate k a)
  | 0 => .nil
  | k + 1 => .cons _ _ (strs_rep a t k)

theorem app_len (a b : Str) : (a ++ b).length = a.length + b.length := by show (a.cps ++ b.cps).size = _; exact Array.size_append

theorem one_len (c : Nat) : (⟨#[c]⟩ : Str).length = 1 := rfl

theorem fit1000 {n : Nat} (h : n ≤ 1000) : n ≤ sizeLine := Nat.le_trans h (by decide)

theorem join_len (x : Str) (ys : List Str) : (Txt.join x ys).length ≤ (ys.map (·.length)).sum + ys.length * x.length := by
  run_tac mark
  have h := StrLaws.join_length_le x ys
  rw [← StrLaws.glued_eq_join] at h
  exact h
  run_tac squeeze

theorem join_arrow {prog : Program} {w : World} {A : Around} {E : Value → Shared → Prop} {s : Shared} {D : Addr} {a x : Str} {ta : Tok} {c : Int} {t : Tok} {Q : Value → Shared → Prop} (I : s.heap.IsList D (List.replicate (c.fmod 7 - 3).natAbs (Value.str a ta)).toArray) (ha : a.length = 1) (hx : x.length ≤ 1)
    (h : ∀ t' k, (Txt.join x (List.replicate (c.fmod 7 - 3).natAbs a)).length ≤ 6 → Q (.str (Txt.join x (List.replicate (c.fmod 7 - 3).natAbs a)) t') { s with toks := k }) : wpAny (model prog w) A (call (.builtin "str.join") [.str x t, .ref D]) Q E s := by
  run_tac mark
  have hb := fmod_bd c (m := 7) (by decide)
  have e : ((List.replicate (c.fmod 7 - 3).natAbs a).map (·.length)).sum = (c.fmod 7 - 3).natAbs := by rw [List.map_replicate, ha]; simp
  refine join_listW I (strs_rep a ta _) (by omega) (by rw [e, List.length_replicate]; omega) (fun t' k => h t' k ?_)
  have := join_len x (List.replicate (c.fmod 7 - 3).natAbs a)
  rw [e, List.length_replicate] at this
  have h2 : (c.fmod 7 - 3).natAbs * x.length ≤ (c.fmod 7 - 3).natAbs * 1 := Nat.mul_le_mul_left _ hx
  omega
  run_tac squeeze

theorem pick3_len {k : Int} {a b c : Str} (ha : a.length ≤ 1) (hb : b.length ≤ 1) (hc : c.length ≤ 1) : (pick3 k a b c).length ≤ 1 := by unfold pick3; split; assumption; split <;> assumption

theorem fitA {x : Str} {c : Nat} {pre : List Int} (h : x.length ≤ 8 * pre.length) (h2 : pre.length < (5 - 0 : Int).toNat) : x.length + (⟨#[c]⟩ : Str).length ≤ sizeLine := fit1000 (by rw [one_len]; omega)

theorem fitB {x : Str} {c d : Nat} {pre : List Int} (h : x.length ≤ 8 * pre.length) (h2 : pre.length < (5 - 0 : Int).toNat) : (x ++ ⟨#[c]⟩).length + (⟨#[d]⟩ : Str).length ≤ sizeLine := fit1000 (by rw [app_len, one_len, one_len]; omega)

theorem fitC {x j : Str} {c : Nat} {pre : List Int} (h : x.length ≤ 8 * pre.length) (h2 : pre.length < (5 - 0 : Int).toNat) (h3 : j.length ≤ 6) : (x ++ ⟨#[c]⟩).length + j.length ≤ sizeLine := fit1000 (by rw [app_len, one_len]; omega)

theorem fitD {x j : Str} {c d : Nat} {pre : List Int} (h : x.length ≤ 8 * pre.length) (h2 : pre.length < (5 - 0 : Int).toNat) (h3 : j.length ≤ 6) : (x ++ ⟨#[c]⟩ ++ ⟨#[d]⟩).length + j.length ≤ sizeLine := fit1000 (by rw [app_len, app_len, one_len, one_len]; omega)

noncomputable abbrev faceL : List Int := [97, 65, 119808, 119860, 119912, 120016, 120172, 120224, 120276, 120328, 120380, 120432, 917601]
noncomputable abbrev signL : List Int := [8206, 8238, 832, 8299]
noncomputable def weave3 (c k : Int) (b : Bool) (x : Str) : Bool × Str :=
  if ((decide (0 < c.fmod 7 - 3) == (k.fmod 2 == 0)) != b) = true then (b, x ++ Txt.join (pick3 ((c.fdiv 1456).fmod 3) (Str.ofString "") (Str.ofString "\u00ad") (Str.ofString "\u200b")) (List.replicate (c.fmod 7 - 3).natAbs (Str.ofString "<")))
  else (b, x ++ Txt.join (pick3 ((c.fdiv 1456).fmod 3) (Str.ofString "") (Str.ofString "\u00ad") (Str.ofString "\u200b")) (List.replicate (c.fmod 7 - 3).natAbs (Str.ofString ">")))
noncomputable def weave2 (c k : Int) (b : Bool) (x : Str) : Bool × Str :=
  if (c.fdiv 182).fmod 2 = 1 then weave3 c k (!b) (x ++ ⟨#[(signL.getD ((c.fdiv 364).fmod 4).toNat 0).toNat]⟩) else weave3 c k b x
noncomputable def weaveC (c k : Int) (b : Bool) (x : Str) : Bool × Str :=
  if k.fmod 2 = 0 then weave2 c k b (x ++ ⟨#[(faceL.getD ((c.fdiv 14).fmod 13).toNat 0 + 1).toNat]⟩) else weave2 c k b (x ++ ⟨#[(faceL.getD ((c.fdiv 14).fmod 13).toNat 0 + 2 * (c.fdiv 7).fmod 2).toNat]⟩)
noncomputable def weave (ns : List Int) (ks : List Int) : Bool × Str := ks.foldl (fun σ k => weaveC (ns.getD k.toNat 0) k σ.1 σ.2) (false, Str.ofString "")
theorem join_arrow_len (c k : Int) (a x y : Str) (ha : a.length = 1) (hx : x.length ≤ 1) (hy : y.length ≤ 1) : (Txt.join (pick3 k (Str.ofString "") x y) (List.replicate (c.fmod 7 - 3).natAbs a)).length ≤ 6 := by
  run_tac mark
  have hb := fmod_bd c (m := 7) (by decide)
  have e : ((List.replicate (c.fmod 7 - 3).natAbs a).map (·.length)).sum = (c.fmod 7 - 3).natAbs := by rw [List.map_replicate, ha]; simp
  have := join_len (pick3 k (Str.ofString "") x y) (List.replicate (c.fmod 7 - 3).natAbs a)
  rw [e, List.length_replicate] at this
  have h2 : (c.fmod 7 - 3).natAbs * (pick3 k (Str.ofString "") x y).length ≤ (c.fmod 7 - 3).natAbs * 1 := Nat.mul_le_mul_left _ (pick3_len (by decide) hx hy)
  omega
  run_tac squeeze

theorem weave3_len (c k : Int) (b : Bool) (x : Str) : (weave3 c k b x).2.length ≤ x.length + 6 := by
  run_tac mark
  unfold weave3
  split
  · show (x ++ _).length ≤ _
    rw [app_len]; exact Nat.add_le_add_left (join_arrow_len _ _ _ _ _ (by decide) (by decide) (by decide)) _
  · show (x ++ _).length ≤ _
    rw [app_len]; exact Nat.add_le_add_left (join_arrow_len _ _ _ _ _ (by decide) (by decide) (by decide)) _
  run_tac squeeze

theorem weaveC_len (c k : Int) (b : Bool) (x : Str) : (weaveC c k b x).2.length ≤ x.length + 8 := by
  run_tac mark
  have h : ∀ y, (weave2 c k b y).2.length ≤ y.length + 7 := by
    intro y
    unfold weave2
    split
    · have := weave3_len c k (!b) (y ++ ⟨#[(signL.getD ((c.fdiv 364).fmod 4).toNat 0).toNat]⟩)
      rw [app_len, one_len] at this; omega
    · have := weave3_len c k b y; omega
  unfold weaveC
  split
  · have := h (x ++ ⟨#[(faceL.getD ((c.fdiv 14).fmod 13).toNat 0 + 1).toNat]⟩); rw [app_len, one_len] at this; omega
  · have := h (x ++ ⟨#[(faceL.getD ((c.fdiv 14).fmod 13).toNat 0 + 2 * (c.fdiv 7).fmod 2).toNat]⟩); rw [app_len, one_len] at this; omega
  run_tac squeeze

theorem weave_state {ns pre : List Int} {k c : Int} {b b' : Bool} {x x' : Str} (h : (b, x) = weave ns pre) (hc : ns[k.toNat]? = some c) (hl : x.length ≤ 8 * pre.length) (h2 : (b', x') = weaveC c k b x) : x'.length ≤ 8 * (pre ++ [k]).length ∧ (b', x') = weave ns (pre ++ [k]) := by
  run_tac mark
  refine ⟨by have := weaveC_len c k b x; rw [← h2] at this; dsimp only at this; rw [List.length_append, List.length_singleton]; omega, ?_⟩
  have e : ns.getD k.toNat 0 = c := by rw [List.getD_eq_getElem?_getD, hc]; rfl
  rw [weave, List.foldl_append]
  show _ = weaveC (ns.getD k.toNat 0) k (weave ns pre).1 (weave ns pre).2
  rw [← h, e]; exact h2
  run_tac squeeze

theorem w_even {c k : Int} {b : Bool} {x : Str} {r : Bool × Str} (h : k.fmod 2 = 0) (h2 : r = weave2 c k b (x ++ ⟨#[(faceL.getD ((c.fdiv 14).fmod 13).toNat 0 + 1).toNat]⟩)) : r = weaveC c k b x := by rw [weaveC, if_pos h]; exact h2

theorem w_odd {c k : Int} {b : Bool} {x : Str} {r : Bool × Str} (h : k.fmod 2 ≠ 0) (h2 : r = weave2 c k b (x ++ ⟨#[(faceL.getD ((c.fdiv 14).fmod 13).toNat 0 + 2 * (c.fdiv 7).fmod 2).toNat]⟩)) : r = weaveC c k b x := by rw [weaveC, if_neg h]; exact h2

theorem w_flip {c k : Int} {b : Bool} {x : Str} {r : Bool × Str} (h : (c.fdiv 182).fmod 2 = 1) (h2 : r = weave3 c k (!b) (x ++ ⟨#[(signL.getD ((c.fdiv 364).fmod 4).toNat 0).toNat]⟩)) : r = weave2 c k b x := by rw [weave2, if_pos h]; exact h2

theorem w_keep {c k : Int} {b : Bool} {x : Str} {r : Bool × Str} (h : (c.fdiv 182).fmod 2 ≠ 1) (h2 : r = weave3 c k b x) : r = weave2 c k b x := by rw [weave2, if_neg h]; exact h2

theorem w_left {c k : Int} {b : Bool} {x : Str} (h : ((decide (0 < c.fmod 7 - 3) == (k.fmod 2 == 0)) != b) = true) : (b, x ++ Txt.join (pick3 ((c.fdiv 1456).fmod 3) (Str.ofString "") (Str.ofString "\u00ad") (Str.ofString "\u200b")) (List.replicate (c.fmod 7 - 3).natAbs (Str.ofString "<"))) = weave3 c k b x := by rw [weave3, if_pos h]

theorem w_right {c k : Int} {b : Bool} {x : Str} (h : ((decide (0 < c.fmod 7 - 3) == (k.fmod 2 == 0)) != b) = false) : (b, x ++ Txt.join (pick3 ((c.fdiv 1456).fmod 3) (Str.ofString "") (Str.ofString "\u00ad") (Str.ofString "\u200b")) (List.replicate (c.fmod 7 - 3).natAbs (Str.ofString ">"))) = weave3 c k b x := by rw [weave3, if_neg (by rw [h]; exact Bool.false_ne_true)]

set_option maxHeartbeats 1000000 in
theorem woven_con (w : World) (l : Addr) (vs : List Value) (ns : List Int) (n : Nat) (hi : IntsAre vs ns) (hn : ns.length = 5) (hb : ∀ c ∈ ns, 0 ≤ c ∧ c < 1000000)
   (mean : ExcName → Option Value) (mg mb : Str → Option Value) (dp un : Nat) (gd : Option (List Code)) (cn : Str) (cs : Scope) (a : Addr) (ccd : Value) (cl : List (Str × Addr)) (outer : List Env) (A₀ : Around) (base h₀ : Heap) (L : Addr) (m : Str → Option Value) (news : List (Addr × Obj)) (s : Shared) (Q E : Value → Shared → Prop)
   (hl : (l, listOf vs.toArray n) ∈ news)
   (B : Below A₀ base outer h₀) (F : Fr h₀ L s.heap m) (X : (KF w.params).In h₀) (N : News h₀ L s.heap news) (T : Top qv lo mean mg mb h₀) (hk : cs.kind = .function) (hd : dp + 2 < recursionLimit) (hu : un + 8 * 2 < cLine)
   (hret : ∀ t h' tk', Fr h₀ L h' m → News h₀ L h' news → Q (.str (weave ns (rangeKs 0 5)).2 t) { s with heap := h', toks := tk' }) :
    wpAny (model PySem.Challenge.pw_re0166_01 w) (ktrTop dp un gd cn cs L a ccd cl outer) (call (.ref 158) [.ref l]) Q E s := by
  run_tac mark
  k_with_none
  k_with "m:subscriptTail" => (k_here; (with_reducible show wpAny _ _ (subscriptTail _ _ (Value.ref _) (Value.int _ _)) _ _ _); (with_unfolding_all refine' item_code ?k1 ?k2 ?k3 ?k4 ?k5 ?k6 ?k7 ?_ ?k8; (case k1 => k_asm); (case k2 => kst_mem); (case k3 => assumption); (case k4 => assumption); (case k5 => assumption); (case k6 => omega); (case k7 => omega); (case k8 => with_unfolding_all rfl); k_whole); intro cC tC hC cLo cHi; (try dsimp only); (try k_fold))
  k_with "m:call builtin:chr" => (k_here; (refine' chr_bd (by first | exact face1 _ | exact face2 _ _ | exact face3 _) ?_))
  k_with "m:subscriptTail" => (k_here; (with_reducible show wpAny _ _ (subscriptTail _ _ (Value.ref _) (Value.int _ _)) _ _ _); (with_unfolding_all refine' item_three ?k1 ?k2 ?k6 ?k7 ?_ ?k8; (case k1 => k_asm); (case k2 => k_mem); (case k6 => exact (fmod_bd _ (by decide)).1); (case k7 => exact (fmod_bd _ (by decide)).2); (case k8 => with_unfolding_all rfl); k_whole); intro tC; (try dsimp only); (try k_fold))
  k_with "m:binaryOp Mult ref int" => (k_here; (refine' mul_arrow ?k1 ?k2 ?k3 ?_; (case k1 => k_asm); (case k2 => k_asm); (case k3 => k_mem)); intro h' D9 F' N' I9; (try dsimp only); (try k_fold))
  k_with "m:call builtin:str.join" => (k_here; (refine' join_arrow ?k1 ?k2 ?k3 ?_; (case k1 => assumption); (case k2 => decide); (case k3 => exact pick3_len (by decide) (by decide) (by decide))); intro t9 tk9 hJ; (try dsimp only); (try k_fold))
  k_with "m:inplaceOp Add str str" => (k_here; (refine' iadd_str (hsz := ?hz) ?_; (case hz => with_reducible first | exact fitA (by with_reducible assumption) (by with_reducible assumption) | exact fitB (by with_reducible assumption) (by with_reducible assumption) | exact fitC (by with_reducible assumption) (by with_reducible assumption) (by with_reducible assumption) | exact fitD (by with_reducible assumption) (by with_reducible assumption) (by with_reducible assumption))); intro t9 tk9; (try dsimp only); (try k_fold))
  k_with "m:InvEndN" => k_dflt kst_close
  k_with "m:kst_allIn" => first | exact List.forall_mem_nil _ | (with_reducible refine List.forall_mem_cons.mpr ⟨?_, ?_⟩; (focus k_memK); kst_allIn) | (intro p9 h9; kst_mem)
  k_with "m:pyIter ref" => k_extra "my iter"
  run_tac fillFrag `Mine.KF
  k_with "exec For Name Call cons nil" => kpr_for
  k_with "my iter" => k_state_short (fun pre text turned => text.length ≤ 8 * pre.length ∧ (turned, text) = weave ns pre) "text" "turned"
  k_with "state" => first
    | exact ⟨by decide, rfl⟩
    | (refine weave_state (by with_reducible assumption) (by with_reducible assumption) (by with_reducible assumption) ?_
       first | refine w_even (by with_reducible assumption) ?_ | refine w_odd (by with_reducible assumption) ?_
       first | refine w_flip (by with_reducible assumption) ?_ | refine w_keep (by with_reducible assumption) ?_
       first | exact w_left (by with_reducible assumption) | exact w_right (by with_reducible assumption))
  refine wpAny_call ?_
  (first | k_dflt cell_enter | fail "not entered")
  k_steps
  refine ret_str hret (by k_asm) (cb_drop (by assumption) (fun p hp => List.mem_cons_of_mem _ hp)) ?_
  exact congrArg Prod.snd (show _ = weave ns (rangeKs 0 5) by assumption)
  run_tac squeeze

end
theorem quietC8 : True := by
  run_tac quiet
  trivial
-- C9
section
open PySem PySem.W PySem.Spec PySem.Calls PyProof.Rows

noncomputable abbrev pairO (k : Int) (t : Tok) (b : Bool) : Obj := { cls := .type "tuple", data := .seq #[.int k t, .bool b] }
/-- the crossings of a list: each a tuple of the ledger -/
inductive Cross (news : List (Addr × Obj)) : List Value → List (Int × Bool) → Prop
  | nil : Cross news [] []
  | cons {a : Addr} {k : Int} {t : Tok} {b : Bool} {vs : List Value} {cs : List (Int × Bool)} : (a, pairO k t b) ∈ news → (0 ≤ k ∧ k ≤ 2) → Cross news vs cs → Cross news (.ref a :: vs) ((k, b) :: cs)
theorem Cross.mono {news news' : List (Addr × Obj)} (hs : ∀ p ∈ news, p ∈ news') : ∀ {vs cs}, Cross news vs cs → Cross news' vs cs
  | _, _, .nil => .nil
  | _, _, .cons h k r => .cons (hs _ h) k (Cross.mono hs r)

theorem Cross.append {news : List (Addr × Obj)} {ws : List Value} {es : List (Int × Bool)} (h2 : Cross news ws es) : ∀ {vs cs}, Cross news vs cs → Cross news (vs ++ ws) (cs ++ es)
  | _, _, .nil => h2
  | _, _, .cons h k r => .cons h k (Cross.append h2 r)

theorem Cross.length {news : List (Addr × Obj)} : ∀ {vs cs}, Cross news vs cs → vs.length = cs.length
  | _, _, .nil => rfl
  | _, _, .cons _ _ r => congrArg (· + 1) (Cross.length r)

section
variable {prog : Program} {w : World} {A : Around} {E : Value → Shared → Prop} {s : Shared} {env : Env} {h₀ : Heap} {target : Expr} {body : List Stmt} {Q : Flow → Shared → Prop}
/-- a loop over a list's items by what holds of the rest -/
theorem items_ind {It : Addr} {keep : List (Addr × Obj)} (J : List Value → (Str → Option Value) → List (Addr × Obj) → Prop)
    (turn : ∀ v r m nx h tk o, J (v :: r) m nx → o.cls = .type "list_iterator" → Fr h₀ env.locals h m → News h₀ env.locals h ((It, o) :: nx) →
      wpAny (model prog w) A (assign target env v) (fun _ s₂ => wpAny (model prog w) A (execs body env) (UnrPostW h₀ env.locals { s with heap := h, toks := tk } [(It, o)] (fun m' n' => SubL keep n' ∧ J r m' n') Q) E s₂) E { s with heap := h, toks := tk })
    (done : ∀ m nx h tk, J [] m nx → Fr h₀ env.locals h m → News h₀ env.locals h nx → Q .next { s with heap := h, toks := tk }) :
    ∀ (vs : List Value) m nx, J vs m nx → ItemsRest prog w A E h₀ env target body Q s [(It, "list_iterator")] keep (vs.map .val) m nx := by
  run_tac mark
  intro vs
  induction vs with
  | nil => exact fun m nx hj h tk F N => done m nx h tk hj F N
  | cons v r ih =>
    intro m nx hj
    refine ItemsRest.val fun h tk F => AllObj.cons fun o hc => AllObj.nil fun N => ?_
    refine wpAny_mono (turn v r m nx h tk o hj hc F N) (fun _ s₂ h₂ => wpAny_mono h₂ (fun f s₃ p => ?_) fun _ _ e => e) fun _ _ e => e
    have up : UnrEndW h₀ env.locals { s with heap := h, toks := tk } [(It, o)] (fun m' n' => SubL keep n' ∧ J r m' n') s₃ →
        UnrEndW h₀ env.locals { s with heap := h, toks := tk } [(It, o)] (fun m' n' => SubL keep n' ∧ ItemsRest prog w A E h₀ env target body Q s [(It, "list_iterator")] keep (r.map .val) m' n') s₃ := by
      rintro ⟨h', tk', m', news', e, F', N', ho, hk, hr⟩
      exact ⟨h', tk', m', news', e, F', N', ho, hk, ih m' news' hr⟩
    cases f with
    | ret v => exact p
    | brk => exact p
    | next => exact up p
    | cont => exact up p
  run_tac squeeze

/-- the same with the frame's map told by a state -/
noncomputable def LJ {σ : Type} (Led : σ → List (Addr × Obj)) (ps : σ → List (Str × Value)) (stored : List Str) (m₀ : Str → Option Value) (P : List Value → σ → Prop) (vs : List Value) (m : Str → Option Value) (nx : List (Addr × Obj)) : Prop :=
  ∃ c : σ, nx = Led c ∧ (∀ p ∈ ps c, m p.1 = some p.2) ∧ (∀ z, (∀ p ∈ ps c, z ≠ p.1) → stored.contains z = false → m z = m₀ z) ∧ P vs c
theorem for_listS {σ : Type} {ax : Addr} {lo : Obj} {vs : List Value} {n : Nat} {m₀ : Str → Option Value} {news : List (Addr × Obj)} (Led : σ → List (Addr × Obj)) (ps : σ → List (Str × Value)) (stored : List Str) (P : Addr → List Value → σ → Prop) (c₀ : Addr → σ)
    (hh : A.handled = none) (F : Fr h₀ env.locals s.heap m₀) (N : News h₀ env.locals s.heap news) (hm : (ax, lo) ∈ news) (hc : lo.cls = .type "list") (hd : lo.data = .seq vs.toArray n)
    (hn : ∀ It, news = Led (c₀ It)) (hps : ∀ It, ∀ p ∈ ps (c₀ It), m₀ p.1 = some p.2) (hP : ∀ It, (∀ p ∈ news, p.1 < It) → P It vs (c₀ It))
    (turn : ∀ It v r (c : σ) (u : Str → Option Value) h tk o, P It (v :: r) c → o.cls = .type "list_iterator" → Fr h₀ env.locals h (kstB (fun z => if stored.contains z then u z else m₀ z) (ps c)) → News h₀ env.locals h ((It, o) :: Led c) →
      wpAny (model prog w) A (assign target env v) (fun _ s₂ => wpAny (model prog w) A (execs body env) (UnrPostW h₀ env.locals { s with heap := h, toks := tk } [(It, o)] (fun m' n' => SubL [(ax, lo)] n' ∧ LJ Led ps stored m₀ (P It) r m' n') Q) E s₂) E { s with heap := h, toks := tk })
    (done : ∀ It (c : σ) (u : Str → Option Value) h tk, P It [] c → Fr h₀ env.locals h (kstB (fun z => if stored.contains z then u z else m₀ z) (ps c)) → News h₀ env.locals h (Led c) → Q .next { s with heap := h, toks := tk }) :
    wpAny (model prog w) A (pyIter (.ref ax)) (fun it s₂ => TurnsAt prog w A h₀ env target body Q E it s₂) E s := by
  run_tac mark
  refine iter_listTurns hh F N hm hc hd fun It hlt => ?_
  refine items_ind (LJ Led ps stored m₀ (P It)) ?_ ?_ vs m₀ news ⟨c₀ It, hn It, hps It, fun _ _ _ => rfl, hP It hlt⟩
  · rintro v r m nx h tk o ⟨c, rfl, h1, h2, hp⟩ hoc F' N'
    exact turn It v r c m h tk o hp hoc (ksw_fr h1 h2 F') N'
  · rintro m nx h tk ⟨c, rfl, h1, h2, hp⟩ F' N'
    exact done It c m h tk hp (ksw_fr h1 h2 F') N'
  run_tac squeeze

theorem lj_end {σ : Type} {Led : σ → List (Addr × Obj)} {ps : σ → List (Str × Value)} {stored : List Str} {m₀ : Str → Option Value} {P : List Value → σ → Prop} {vs : List Value} {It ax : Addr} {o lo : Obj} {L : Addr} {s₁ : Shared} {h' : Heap} {tk : Nat} {m' : Str → Option Value} {all : List (Addr × Obj)} (c : σ)
    (F : Fr h₀ L h' m') (N : News h₀ L h' all) (hn : ∀ p ∈ Led c, p ∈ all) (ho : (It, o) ∈ all) (hl : (ax, lo) ∈ Led c) (hoff : ∀ p ∈ Led c, p.1 ≠ It) (hk : ∀ p ∈ ps c, m' p.1 = some p.2) (hr : ∀ z, (∀ p ∈ ps c, z ≠ p.1) → stored.contains z = false → m' z = m₀ z) (hp : P vs c) :
    UnrEndW h₀ L s₁ [(It, o)] (fun m' n' => SubL [(ax, lo)] n' ∧ LJ Led ps stored m₀ P vs m' n') { s₁ with heap := h', toks := tk } := by
  run_tac mark
  refine ⟨h', tk, m', Led c, rfl, F, fun p hp => ?_, fun p hp q hq => ?_, ⟨hl, trivial⟩, c, rfl, hk, hr, hp⟩
  · rcases List.mem_append.mp hp with hp | hp
    · rw [List.mem_singleton.mp hp]; exact N _ ho
    · exact N p (hn p hp)
  · rw [List.mem_singleton.mp hq]; exact hoff p hp
  run_tac squeeze

end
/-- one crossing's mirroring -/
noncomputable def endStep (x : Int × Int × Int × Int) (c : Int × Bool) : Int × Int × Int × Int :=
  if c.1 = 0 then (if c.2 then (2 * x.1 - x.2.1, x.1, x.2.2.1, x.2.2.2) else (x.2.1, 2 * x.2.1 - x.1, x.2.2.1, x.2.2.2))
  else if c.1 = 1 then (if c.2 then (x.1, 2 * x.2.1 - x.2.2.1, x.2.1, x.2.2.2) else (x.1, x.2.2.1, 2 * x.2.2.1 - x.2.1, x.2.2.2))
  else (if c.2 then (x.1, x.2.1, 2 * x.2.2.1 - x.2.2.2, x.2.2.1) else (x.1, x.2.1, x.2.2.2, 2 * x.2.2.2 - x.2.2.1))
noncomputable def endsF (x : Int × Int × Int × Int) (cs : List (Int × Bool)) : Int × Int × Int × Int := cs.foldl endStep x
noncomputable def Four (x : Int × Int × Int × Int) (o : Obj) : Prop := ∃ t1 t2 t3 t4 n, o = listOf #[.int x.1 t1, .int x.2.1 t2, .int x.2.2.1 t3, .int x.2.2.2 t4] n
end
theorem quietC9 : True := by
  run_tac quiet
  trivial
-- C10
section
open PySem PySem.W PySem.Spec PySem.Calls PyProof.Rows

noncomputable def NewIn (w : World) (f : Addr) (k : Nat) (vs : List Value) (pre : List (Addr × Obj) → Prop) (O : Obj → Prop) : Prop :=
  ∀ (mean : ExcName → Option Value) (mg mb : Str → Option Value) (dp un : Nat) (gd : Option (List Code)) (cn : Str) (cs : Scope) (a : Addr) (ccd : Value) (cl : List (Str × Addr)) (outer : List Env) (A₀ : Around) (base h₀ : Heap) (L : Addr) (m : Str → Option Value) (news : List (Addr × Obj)) (s : Shared) (Q E : Value → Shared → Prop),
    pre news → Below A₀ base outer h₀ → Fr h₀ L s.heap m → (KF w.params).In h₀ → News h₀ L s.heap news → Top qv lo mean mg mb h₀ → cs.kind = .function → dp + k < recursionLimit → un + 8 * k < cLine →
    (∀ D o h' tk', O o → Fr h₀ L h' m → News h₀ L h' ((D, o) :: news) → (∀ p ∈ news, p.1 < D) → Q (.ref D) { s with heap := h', toks := tk' }) →
    wpAny (model PySem.Challenge.pw_re0166_01 w) (ktrTop dp un gd cn cs L a ccd cl outer) (call (.ref f) vs) Q E s
theorem off_two {S It : Addr} {x : Obj} {news : List (Addr × Obj)} (hS : S < It) (hN : ∀ p ∈ news, p.1 < It) : ∀ p ∈ (S, x) :: news, p.1 ≠ It := by
  run_tac mark
  intro p hp
  rcases List.mem_cons.mp hp with rfl | hp
  · exact Nat.ne_of_lt hS
  · exact Nat.ne_of_lt (hN p hp)
  run_tac squeeze

theorem stored4 {a b c d z : Str} (h : ([a, b, c, d] : List Str).contains z = false) : z ≠ a ∧ z ≠ b ∧ z ≠ c ∧ z ≠ d := by
  run_tac mark
  simp only [List.contains_cons, List.contains_nil, Bool.or_eq_false_iff, beq_eq_false_iff_ne, ne_eq, Bool.or_false] at h
  exact ⟨h.1, h.2.1, h.2.2.1, h.2.2.2⟩
  run_tac squeeze

set_option maxHeartbeats 1000000 in
theorem ends_con (w : World) (a l : Addr) (x : Int × Int × Int × Int) (t1 t2 t3 t4 : Tok) (n n' : Nat) (vs : List Value) (crs : List (Int × Bool)) :
   NewIn w 179 1 [.ref a, .ref l] (fun news => (a, listOf #[.int x.1 t1, .int x.2.1 t2, .int x.2.2.1 t3, .int x.2.2.2 t4] n) ∈ news ∧ (l, listOf vs.toArray n') ∈ news ∧ Cross news vs crs) (Four (endsF x crs)) := by
  run_tac mark
  k_with_none
  k_with "m:setItem ref int" => (k_here; k_dflt (refine' ki_set ?F ?N ?a ?b ?e (.tail ?U1 (.head ?U2)) ?_; (case F => k_asm); (case N => k_asm); (case U1 => assumption); (case U2 => assumption); (case a => decide); (case b => decide); (case e => rfl)); intro h' F' N')
  intro mean mg mb dp un gd cn cs ad ccd cl outer A₀ base h₀ L m news s Q E hpre B F X N T hk hd hu hret
  obtain ⟨ha, hl, hx⟩ := hpre
  run_tac fillFrag `Mine.KF
  refine wpAny_call ?_
  (first | k_dflt cell_enter | fail "not entered")
  k_steps
  rename_i S c1 h1 lS h2 F1 N1
  (with_unfolding_all refine' For_turns F1 ?_)
  k_steps
  refine for_listS (σ := (Int × Int × Int × Int) × (Tok × Tok × Tok × Tok) × Nat)
    (fun c => (S, listOf #[.int c.1.1 c.2.1.1, .int c.1.2.1 c.2.1.2.1, .int c.1.2.2.1 c.2.1.2.2.1, .int c.1.2.2.2 c.2.1.2.2.2] c.2.2) :: news)
    (fun _ => [(Str.ofString "strands", .ref S)]) [Str.ofString "spot", Str.ofString "left", Str.ofString "one", Str.ofString "two"]
    (fun It r c => (S < It ∧ ∀ p ∈ news, p.1 < It) ∧ ∃ cs', Cross news r cs' ∧ endsF c.1 cs' = endsF x crs)
    (fun _ => (x, (t1, t2, t3, t4), c1)) (by rfl) (by assumption) (by assumption) (List.mem_cons_of_mem _ hl) rfl rfl (fun _ => rfl) ?_ ?_ ?_ ?_
  · intro It p hp
    rw [List.mem_singleton.mp hp]
    rfl
  · intro It hlt
    exact ⟨⟨hlt _ (.head _), fun p hp => hlt p (.tail _ hp)⟩, crs, hx, rfl⟩
  · rintro It v r ⟨⟨y1, y2, y3, y4⟩, ⟨u1, u2, u3, u4⟩, c2⟩ u h tk o ⟨⟨hS, hN⟩, cs', hc, he⟩ ho F2 N2
    clear N1
    dsimp only [kstB] at F2 N2 he
    cases hc with
    | cons hm hk hr =>
      rename_i ta k tt b crs'
      have hT : IsTup h ta #[.int k tt, .bool b] := News.isTup N2 (List.mem_cons_of_mem _ (List.mem_cons_of_mem _ hm))
      have hk3 : k = 0 ∨ k = 1 ∨ k = 2 := by omega
      have hIS : It ≠ S := Nat.ne_of_gt hS
      have hNS : ∀ p ∈ news, p.1 ≠ S := fun p hp => Nat.ne_of_lt (lS p hp)
      rcases hk3 with rfl | rfl | rfl <;> cases b
      all_goals k_steps
      all_goals refine lj_end (c := ((_, _, _, _), (_, _, _, _), _)) (by k_asm) (by k_asm) (fun p hp => List.mem_cons_of_mem _ hp) (.head _) (List.mem_cons_of_mem _ hl) (off_two hS hN) ?_ ?_ ⟨⟨hS, hN⟩, crs', hr, he⟩
      all_goals first
        | (intro p hp; rw [List.mem_singleton.mp hp]; rfl)
        | (intro z hz1 hz2
           have hz1' := hz1 _ (.head _)
           have hz3 := stored4 hz2
           dsimp only at hz1'
           simp only [if_neg hz1', if_neg hz3.1, if_neg hz3.2.1, if_neg hz3.2.2.1, if_neg hz3.2.2.2, hz2, Bool.false_eq_true, if_false])
  · rintro It ⟨⟨y1, y2, y3, y4⟩, ⟨u1, u2, u3, u4⟩, c2⟩ u h tk ⟨⟨hS, hN⟩, cs', hc, he⟩ F2 N2
    clear N1
    dsimp only [kstB] at F2 N2 he
    cases hc
    k_steps
    exact hret S _ h tk ⟨u1, u2, u3, u4, c2, by first | (rw [← he]; done) | (rw [← he]; rfl)⟩ (by k_asm) (by k_asm) lS
  run_tac squeeze

noncomputable def PureIn (w : World) (f : Addr) (k : Nat) (vs : List Value) (pre : List (Addr × Obj) → Prop) (R : Tok → Value) : Prop :=
  ∀ (mean : ExcName → Option Value) (mg mb : Str → Option Value) (dp un : Nat) (gd : Option (List Code)) (cn : Str) (cs : Scope) (a : Addr) (ccd : Value) (cl : List (Str × Addr)) (outer : List Env) (A₀ : Around) (base h₀ : Heap) (L : Addr) (m : Str → Option Value) (news : List (Addr × Obj)) (s : Shared) (Q E : Value → Shared → Prop),
    pre news → Below A₀ base outer h₀ → Fr h₀ L s.heap m → (KF w.params).In h₀ → News h₀ L s.heap news → Top qv lo mean mg mb h₀ → cs.kind = .function → dp + k < recursionLimit → un + 8 * k < cLine →
    (∀ t h' tk', Fr h₀ L h' m → News h₀ L h' news → Q (R t) { s with heap := h', toks := tk' }) →
    wpAny (model PySem.Challenge.pw_re0166_01 w) (ktrTop dp un gd cn cs L a ccd cl outer) (call (.ref f) vs) Q E s
/-- one crossing's change of places -/
noncomputable def ringStep (x : Int × Int × Int × Int) (k : Int) : Int × Int × Int × Int :=
  if k = 0 then (x.2.1, x.1, x.2.2.1, x.2.2.2) else if k = 1 then (x.1, x.2.2.1, x.2.1, x.2.2.2) else (x.1, x.2.1, x.2.2.2, x.2.2.1)
noncomputable def ringsF (x : Int × Int × Int × Int) (cs : List (Int × Bool)) : Int × Int × Int × Int := cs.foldl (fun x c => ringStep x c.1) x
end
theorem quietC10 : True := by
  run_tac quiet
  trivial
-- C11
section
open PySem PySem.W PySem.Spec PySem.Calls PyProof.Rows
theorem off_new {D It : Addr} {x : Obj} {news : List (Addr × Obj)} (hS : It < D) (hN : ∀ p ∈ news, p.1 < It) : ∀ p ∈ (D, x) :: news, p.1 ≠ It := by
  run_tac mark
  intro p hp
  rcases List.mem_cons.mp hp with rfl | hp
  · exact Nat.ne_of_gt hS
  · exact Nat.ne_of_lt (hN p hp)
  run_tac squeeze

theorem sub6 {q a b c d e f : Addr × Obj} {news : List (Addr × Obj)} : ∀ p ∈ q :: news, p ∈ q :: a :: b :: c :: d :: e :: f :: news := by
  run_tac mark
  intro p hp
  rcases List.mem_cons.mp hp with rfl | hp
  · exact .head _
  · exact .tail _ (.tail _ (.tail _ (.tail _ (.tail _ (.tail _ (.tail _ hp))))))
  run_tac squeeze

theorem stored2 {a b z : Str} (h : ([a, b] : List Str).contains z = false) : z ≠ a ∧ z ≠ b := by
  run_tac mark
  simp only [List.contains_cons, List.contains_nil, Bool.or_eq_false_iff, beq_eq_false_iff_ne, ne_eq, Bool.or_false] at h
  exact ⟨h.1, h.2⟩
  run_tac squeeze

theorem ret_intR {h₀ h' : Heap} {L : Addr} {m : Str → Option Value} {news : List (Addr × Obj)} {s : Shared} {Q : Value → Shared → Prop} {tk' : Nat} {x y : Int} {t : Tok}
    (hret : ∀ t h' tk', Fr h₀ L h' m → News h₀ L h' news → Q (.int x t) { s with heap := h', toks := tk' }) (F : Fr h₀ L h' m) (N : News h₀ L h' news) (e : y = x) : Q (.int y t) { s with heap := h', toks := tk' } := e ▸ hret t h' tk' F N

set_option maxHeartbeats 1000000 in
theorem rings_con (w : World) (l : Addr) (n' : Nat) (vs : List Value) (crs : List (Int × Bool)) :
   PureIn w 198 1 [.ref l] (fun news => (l, listOf vs.toArray n') ∈ news ∧ Cross news vs crs) (fun t => .int (if (ringsF (0, 1, 2, 3) crs).1.fdiv 2 = (ringsF (0, 1, 2, 3) crs).2.1.fdiv 2 then 2 else 1) t) := by
  run_tac mark
  k_with_none
  intro mean mg mb dp un gd cn cs ad ccd cl outer A₀ base h₀ L m news s Q E hpre B F X N T hk hd hu hret
  obtain ⟨hl, hx⟩ := hpre
  run_tac fillFrag `Mine.KF
  refine wpAny_call ?_
  (first | k_dflt cell_enter | fail "not entered")
  k_steps
  rename_i S h1 lS h2 F1 N1
  obtain ⟨⟨a1, a2, a3, a4⟩, ea⟩ : ∃ q : Tok × Tok × Tok × Tok, News _ _ h2 ((S, listOf #[.int 0 q.1, .int 1 q.2.1, .int 2 q.2.2.1, .int 3 q.2.2.2] 0) :: news) := ⟨(_, _, _, _), N1⟩
  clear N1
  dsimp only at ea
  (with_unfolding_all refine' For_turns F1 ?_)
  k_steps
  refine for_listS (σ := Addr × (Int × Int × Int × Int) × (Tok × Tok × Tok × Tok) × Nat)
    (fun c => (c.1, listOf #[.int c.2.1.1 c.2.2.1.1, .int c.2.1.2.1 c.2.2.1.2.1, .int c.2.1.2.2.1 c.2.2.1.2.2.1, .int c.2.1.2.2.2 c.2.2.1.2.2.2] c.2.2.2) :: news)
    (fun c => [(Str.ofString "strands", .ref c.1)]) [Str.ofString "spot", Str.ofString "left"]
    (fun It r c => (c.1 ≠ It ∧ (∀ p ∈ news, p.1 < It) ∧ ∀ p ∈ news, p.1 < c.1) ∧ ∃ cs', Cross news r cs' ∧ ringsF c.2.1 cs' = ringsF (0, 1, 2, 3) crs)
    (fun _ => (S, (0, 1, 2, 3), (a1, a2, a3, a4), 0)) (by rfl) (by assumption) (by assumption) (List.mem_cons_of_mem _ hl) rfl rfl (fun _ => rfl) ?_ ?_ ?_ ?_
  · intro It p hp
    rw [List.mem_singleton.mp hp]
    rfl
  · intro It hlt
    exact ⟨⟨Nat.ne_of_lt (hlt _ (.head _)), fun p hp => hlt p (.tail _ hp), lS⟩, crs, hx, rfl⟩
  · rintro It v r ⟨S2, ⟨y1, y2, y3, y4⟩, ⟨u1, u2, u3, u4⟩, c2⟩ u h tk o ⟨⟨hS, hN, lS2⟩, cs', hc, he⟩ ho F2 N2
    clear ea
    dsimp only [kstB] at F2 N2 he hS lS2
    cases hc with
    | cons hm hk hr =>
      rename_i ta k tt b crs'
      have hT : IsTup h ta #[.int k tt, .bool b] := News.isTup N2 (List.mem_cons_of_mem _ (List.mem_cons_of_mem _ hm))
      have hk3 : k = 0 ∨ k = 1 ∨ k = 2 := by omega
      rcases hk3 with rfl | rfl | rfl
      all_goals k_steps
      all_goals obtain ⟨_, _, _, _, hI, _, hA⟩ := ‹_ < _ ∧ _ < _ ∧ _ < _ ∧ _ < _ ∧ It < _ ∧ S2 < _ ∧ AllLt _ news›
      all_goals refine lj_end (c := (_, (_, _, _, _), (_, _, _, _), _)) (by k_asm) (by k_asm) sub6 (.tail _ (.tail _ (.tail _ (.tail _ (.tail _ (.head _)))))) (List.mem_cons_of_mem _ hl) (off_new hI hN) ?_ ?_ ⟨⟨Nat.ne_of_gt hI, hN, kst_ltOf hA⟩, crs', hr, he⟩
      all_goals first
        | (intro p hp; rw [List.mem_singleton.mp hp]; rfl)
        | (intro z hz1 hz2
           have hz1' := hz1 _ (.head _)
           have hz3 := stored2 hz2
           dsimp only at hz1'
           simp only [if_neg hz1', if_neg hz3.1, if_neg hz3.2, hz2, Bool.false_eq_true, if_false])
  · rintro It ⟨S2, ⟨y1, y2, y3, y4⟩, ⟨u1, u2, u3, u4⟩, c2⟩ u h tk ⟨⟨hS, hN, lS2⟩, cs', hc, he⟩ F2 N2
    clear ea
    dsimp only [kstB] at F2 N2 he
    cases hc
    k_steps
    all_goals first
      | exact ret_intR hret (by k_asm) (cb_drop (by assumption) (fun p hp => List.mem_cons_of_mem _ hp)) (by rw [← he]; exact (if_pos (by assumption)).symm)
      | exact ret_intR hret (by k_asm) (cb_drop (by assumption) (fun p hp => List.mem_cons_of_mem _ hp)) (by rw [← he]; exact (if_neg (by assumption)).symm)
  run_tac squeeze

end
theorem quietC11 : True := by
  run_tac quiet
  trivial
-- C12
section
open PySem PySem.W PySem.Spec PySem.Calls PyProof.Rows PySem.Builtin.Str

theorem slice_idx (k n : Nat) (h : k < n) : strSliceIndices (some (k : Int)) (some ((k : Int) + 2)) 1 n = if n = k + 1 then [k] else [k, k + 1] := by
  run_tac mark
  unfold strSliceIndices sliceRange
  simp only [show (1 : Int) > 0 by decide, if_true, if_neg (show ¬ (k : Int) < 0 by omega), if_neg (show ¬ ((k : Int) + 2) < 0 by omega)]
  have h1 : max 0 (min (k : Int) n) = k := by omega
  rw [h1]
  by_cases hn : n = k + 1
  · have h2 : max 0 (min ((k : Int) + 2) n) = k + 1 := by omega
    rw [h2, if_pos hn, if_pos (by omega)]
    have h3 : (((k : Int) + 1 - k + 1 - 1) / 1).toNat = 1 := by rw [Int.ediv_one]; omega
    rw [h3]
    simp [List.range_succ]
  · have h2 : max 0 (min ((k : Int) + 2) n) = k + 2 := by omega
    rw [h2, if_neg hn, if_pos (by omega)]
    have h3 : (((k : Int) + 2 - k + 1 - 1) / 1).toNat = 2 := by rw [Int.ediv_one]; omega
    rw [h3]
    simp [List.range_succ]
  run_tac squeeze

theorem slice_two (pre rest : List Nat) (c : Nat) : Txt.slice ⟨(pre ++ c :: rest).toArray⟩ (some (pre.length : Int)) (some ((pre.length : Int) + 2)) = ⟨(c :: rest.take 1).toArray⟩ := by
  run_tac mark
  have hl : (⟨(pre ++ c :: rest).toArray⟩ : Str).length = pre.length + (rest.length + 1) := by show ((pre ++ c :: rest).toArray).size = _; simp
  unfold Txt.slice
  rw [hl]
  cases rest with
  | nil =>
    have h1 : strSliceIndices (some (pre.length : Int)) (some ((pre.length : Int) + 2)) 1 (pre.length + (([] : List Nat).length + 1)) = [pre.length] := by
      rw [slice_idx _ _ (by simp)]; simp
    rw [h1]
    by_cases hp : pre = []
    · subst hp; rfl
    · have h2 : pre.length ≠ 0 := by simpa using hp
      have h3 : (((1 : Int) == 1) && ([pre.length].length == pre.length + (([] : List Nat).length + 1))) = false := by simp; omega
      rw [h3, if_neg Bool.false_ne_true]
      simp [List.filterMap]
  | cons d r =>
    have h1 : strSliceIndices (some (pre.length : Int)) (some ((pre.length : Int) + 2)) 1 (pre.length + ((d :: r).length + 1)) = [pre.length, pre.length + 1] := by
      rw [slice_idx _ _ (by simp), if_neg (by simp)]
    rw [h1]
    by_cases hp : pre = [] ∧ r = []
    · obtain ⟨rfl, rfl⟩ := hp; rfl
    · have h2 : ¬ pre.length + (r.length + 1 + 1) = 2 := by
        intro e
        exact hp ⟨List.eq_nil_of_length_eq_zero (by omega), List.eq_nil_of_length_eq_zero (by omega)⟩
      have h3 : (((1 : Int) == 1) && ([pre.length, pre.length + 1].length == pre.length + ((d :: r).length + 1))) = false := by simp; omega
      rw [h3, if_neg Bool.false_ne_true]
      simp [List.filterMap]
  run_tac squeeze

theorem item_at (pre rest : List Nat) (c : Nat) : (seqIndex? (pre.length : Int) (⟨(pre ++ c :: rest).toArray⟩ : Str).length).bind ((⟨(pre ++ c :: rest).toArray⟩ : Str).cps[·]?) = some c := by
  run_tac mark
  have hl : (⟨(pre ++ c :: rest).toArray⟩ : Str).length = pre.length + (rest.length + 1) := by show ((pre ++ c :: rest).toArray).size = _; simp
  have hi : seqIndex? (pre.length : Int) (pre.length + (rest.length + 1)) = some pre.length := by
    unfold seqIndex?
    have h1 : ¬ (pre.length : Int) < 0 := by omega
    have h2 : ((decide (0 ≤ (pre.length : Int)) && decide ((pre.length : Int) < ((pre.length + (rest.length + 1) : Nat) : Int))) = true) := by simp; omega
    simp only [if_neg h1]
    rw [if_pos h2]
    simp
  rw [hl, hi]
  simp
  run_tac squeeze

end
theorem quietC12 : True := by
  run_tac quiet
  trivial
-- C13
section
open PySem PySem.W PySem.Spec PySem.Calls PyProof.Rows

/-- EXACT_TOKEN_TYPES as it lies: key, value, their tokens -/
noncomputable def exRaw : List (String × Int × Nat × Nat) := [("!", 54, 2623, 2619), ("!=", 28, 2625, 2567), ("%", 24, 2627, 2559), ("%=", 40, 2629, 2591), ("&", 19, 2631, 2549), ("&=", 41, 2633, 2593), ("(", 7, 2635, 2525), (")", 8, 2637, 2527), ("*", 16, 2639, 2543), ("**", 35, 2641, 2581), ("**=", 46, 2643, 2603), ("*=", 38, 2645, 2587), ("+", 14, 2647, 2539), ("+=", 36, 2649, 2583), (",", 12, 2651, 2535), ("-", 15, 2653, 2541), ("-=", 37, 2655, 2585), ("->", 51, 2657, 2613), (".", 23, 2659, 2557), ("...", 52, 2661, 2615), ("/", 17, 2663, 2545), ("//", 47, 2665, 2605), ("//=", 48, 2667, 2607), ("/=", 39, 2669, 2589), (":", 11, 2671, 2533), (":=", 53, 2673, 2617), (";", 13, 2675, 2537), ("<", 20, 2677, 2551), ("<<", 33, 2679, 2577), ("<<=", 44, 2681, 2599), ("<=", 29, 2683, 2569), ("=", 22, 2685, 2555), ("==", 27, 2687, 2565), (">", 21, 2689, 2553), (">=", 30, 2691, 2571), (">>", 34, 2692, 2579), (">>=", 45, 2693, 2601), ("@", 49, 2694, 2609), ("@=", 50, 2695, 2611), ("[", 9, 2696, 2529), ("]", 10, 2697, 2531), ("^", 32, 2698, 2575), ("^=", 43, 2699, 2597), ("{", 25, 2700, 2561), ("|", 18, 2701, 2547), ("|=", 42, 2702, 2595), ("}", 26, 2703, 2563), ("~", 31, 2704, 2573)]
noncomputable def exEs (P : Params) : List DictEntry := exRaw.map fun q => ⟨PyData.keyHash P (Str.ofString q.1), .str (Str.ofString q.1) q.2.2.1, .int q.2.1 q.2.2.2⟩
theorem ex_at (P : Params) : List.lookup 142 (KF P) = some ⟨.type "dict", none, .dict (exEs P).toArray 48, #[]⟩ := by kernel_rfl

noncomputable def exGet (x : Str) : Option Int := (exRaw.find? fun q => Str.ofString q.1 == x).map (·.2.1)
theorem ex_map {prog : Program} {w : World} {h : Heap} {a : Addr} (ho : h.get? a = some ⟨.type "dict", none, .dict (exEs w.params).toArray 48, #[]⟩) :
    h.MapOf (PySem.strKind prog w) a (findBy Value.isStrOf (exEs w.params).toArray) := by
  run_tac mark
  refine ⟨_, _, 48, ho, ⟨rfl, rfl, rfl⟩, rfl, fun e he => ?_, fun k => rfl⟩
  obtain ⟨q, _, rfl⟩ := List.mem_map.mp (List.mem_toArray.mp he)
  exact ⟨Str.ofString q.1, strKind_is prog w _ _, rfl⟩
  run_tac squeeze

theorem ex_find (P : Params) (x : Str) : ∃ t, findBy Value.isStrOf (exEs P).toArray x = (exGet x).map fun v => .int v t := by
  run_tac mark
  have h : ∀ l : List (String × Int × Nat × Nat), ∃ t, (((l.map fun q => (⟨PyData.keyHash P (Str.ofString q.1), .str (Str.ofString q.1) q.2.2.1, .int q.2.1 q.2.2.2⟩ : DictEntry)).find? fun e => Value.isStrOf x e.key).map (·.val)) = ((l.find? fun q => Str.ofString q.1 == x).map (·.2.1)).map fun v => Value.int v t := by
    intro l
    induction l with
    | nil => exact ⟨0, rfl⟩
    | cons q r ih =>
      simp only [List.map_cons, List.find?_cons]
      have e : Value.isStrOf x (.str (Str.ofString q.1) q.2.2.1) = (Str.ofString q.1 == x) := by simp [Value.isStrOf]
      rw [e]
      cases Str.ofString q.1 == x with
      | true => exact ⟨q.2.2.2, rfl⟩
      | false => exact ih
  obtain ⟨t, ht⟩ := h exRaw
  refine ⟨t, ?_⟩
  simp only [findBy, List.find?_toArray]
  exact ht
  run_tac squeeze

section
variable {prog : Program} {w : World} {A : Around} {E : Value → Shared → Prop} {s : Shared} {h₀ : Heap} {L : Addr} {m : Str → Option Value}
theorem notin_ex {x : Str} {t : Tok} {b : Bool} {Q : Value → Shared → Prop} (F : Fr h₀ L s.heap m) (X : (KF w.params).In h₀) (hb : (exGet x).isSome = b) (h : Q (.bool (!b)) { s with toks := s.toks + 1 }) : wpAny (model prog w) A (compareOp .NotIn (.str x t) (.ref 142)) Q E s := by
  run_tac mark
  refine wpAny_notIn_of (strKind_is prog w x t) (by decide) (ex_map (prog := prog) (F.keep _ _ (X _ _ (ex_at _)))) ?_
  obtain ⟨u, e⟩ := ex_find w.params x
  rw [e, Option.isSome_map, hb]; exact h
  run_tac squeeze

theorem ex_method {pl : Sem Bool} {Q : Value × List Value → Shared → Prop} (F : Fr h₀ L s.heap m) (X : (KF w.params).In h₀) (h : Q (.builtin "dict.get", [.ref 142]) s) : wpAny (model prog w) A (getMethod (.ref 142) "get" pl) Q E s :=
  have hD := ex_map (prog := prog) (F.keep _ _ (X _ _ (ex_at _)))
  getMethod_builtin hD.typeIs PySem.F.plainAttrs_dict PySem.F.slot_dict_get PySem.F.type_dict_get hD.noDict h

theorem ex_get {x : Str} {t u : Tok} {d v : Int} {Q : Value → Shared → Prop} (F : Fr h₀ L s.heap m) (X : (KF w.params).In h₀) (hv : (exGet x).getD d = v) (h : ∀ t', Q (.int v t') { s with toks := s.toks + 1 }) :
    wpAny (model prog w) A (call (.builtin "dict.get") [.ref 142, .str x t, .int d u]) Q E s := by
  run_tac mark
  have hD := ex_map (prog := prog) (F.keep _ _ (X _ _ (ex_at _)))
  refine call_meetsIn PySem.F.slot_dict_get hD.typeIs PySem.F.entry_dict_get (PySem.F.args_dict_get_3 _ _ _) (meets_dict_get_default _ 142 (strKind_is _ _ _ _) (by decide) _) ⟨_, hD, ?_⟩
  obtain ⟨t', e⟩ := ex_find w.params x
  rw [e]
  cases hx : exGet x with
  | none => rw [hx] at hv; subst hv; exact h _
  | some k => rw [hx] at hv; subst hv; exact h _
  run_tac squeeze

end
theorem nont_con (w : World) (x : Int) (t1 : Tok) : Pure1 w 151 1 [.int x t1] (fun _ => .bool (decide (256 ≤ x))) := by
  run_tac mark
  k_with_none
  intro mean mg mb dp un gd cn cs a ccd cl outer A₀ base h₀ L m news s Q E B F X N T hk hd hu hret
  run_tac fillFrag `Mine.KF
  refine wpAny_call ?_
  (first | k_dflt cell_enter | fail "not entered")
  k_steps
  all_goals exact hret 0 _ _ (by k_asm) (by k_asm)
  run_tac squeeze

/-- the crossings of a plain text -/
noncomputable def lexF : List Nat → Int → List (Int × Bool)
  | [], _ => []
  | [c], sp => if c = 60 then [(sp, true)] else if c = 62 then [(sp, false)] else []
  | c :: d :: r, sp =>
    if c = 60 then (if d = 60 then (sp, true) :: (sp, true) :: lexF r sp else (sp, true) :: lexF (d :: r) sp)
    else if c = 62 then (if d = 62 then (sp, false) :: (sp, false) :: lexF r sp else (sp, false) :: lexF (d :: r) sp)
    else lexF (d :: r) ((c : Int) - 97)
end
theorem quietC13 : True := by
  run_tac quiet
  trivial
-- C14
section
open PySem PySem.W PySem.Spec PySem.Calls PyProof.Rows
structure CSt where
  spot : Int
  ts : Tok
  pl : Nat
  tp : Tok
  vs : List Value
  n : Nat
  tl : List (Addr × Obj)
  cs : List (Int × Bool)
/-- what holds between the turns of `_law_crossings` -/
noncomputable def CInv (S : Addr) (codes : List Nat) (c : CSt) : Prop :=
  (0 ≤ c.spot ∧ c.spot ≤ 2) ∧ c.pl ≤ codes.length ∧ Cross c.tl c.vs c.cs ∧ c.cs ++ lexF (codes.drop c.pl) c.spot = lexF codes 0 ∧ (∀ p ∈ c.tl, S < p.1) ∧ c.vs.length ≤ c.pl
noncomputable def CrossO (cs : List (Int × Bool)) (tl : List (Addr × Obj)) (o : Obj) : Prop := ∃ vs n, o = listOf vs.toArray n ∧ Cross tl vs cs
noncomputable def CrossR (w : World) (x : Str) (t1 : Tok) (cs : List (Int × Bool)) : Prop :=
  ∀ (mean : ExcName → Option Value) (mg mb : Str → Option Value) (dp un : Nat) (gd : Option (List Code)) (cn : Str) (csc : Scope) (a : Addr) (ccd : Value) (cl : List (Str × Addr)) (outer : List Env) (A₀ : Around) (base h₀ : Heap) (L : Addr) (m : Str → Option Value) (news : List (Addr × Obj)) (s : Shared) (Q E : Value → Shared → Prop),
    Below A₀ base outer h₀ → Fr h₀ L s.heap m → (KF w.params).In h₀ → News h₀ L s.heap news → Top qv lo mean mg mb h₀ → csc.kind = .function → dp + 2 < recursionLimit → un + 8 * 2 < cLine →
    (∀ D vs n tl h' tk', Cross tl vs cs → Fr h₀ L h' m → News h₀ L h' ((D, listOf vs.toArray n) :: (tl ++ news)) → (∀ p ∈ news, p.1 < D) → (∀ p ∈ tl, D < p.1) → Q (.ref D) { s with heap := h', toks := tk' }) →
    wpAny (model PySem.Challenge.pw_re0166_01 w) (ktrTop dp un gd cn csc L a ccd cl outer) (call (.ref 172) [.str x t1]) Q E s
theorem cinv0 (S : Addr) (codes : List Nat) (ts tp : Tok) : CInv S codes ⟨0, ts, 0, tp, [], 0, [], []⟩ := by
  run_tac mark
  refine ⟨⟨Int.le_refl _, (by decide : (0 : Int) ≤ 2)⟩, Nat.zero_le _, .nil, ?_, (fun p (hp : p ∈ []) => by cases hp), Nat.le_refl _⟩
  show [] ++ lexF (codes.drop 0) 0 = lexF codes 0
  rw [List.drop_zero, List.nil_append]
  run_tac squeeze

noncomputable def Hold (P : Prop) : Prop := P
theorem Hold.out {P : Prop} (h : Hold P) : P := h

theorem slice_here {prog : Program} {w : World} {A : Around} {E : Value → Shared → Prop} {s : Shared} {h₀ : Heap} {L : Addr} {m : Str → Option Value} {news : List (Addr × Obj)} {pre rest : List Nat} {c : Nat} {t ui uj : Tok} {value slice : PySem.Expr} {Q : Value → Shared → Prop} (F : Fr h₀ L s.heap m) (N : News h₀ L s.heap news) (hz : (pre ++ c :: rest).length ≤ 1000)
    {q : List Nat} (hq : rest.take 1 = q)
    (h : ∀ h' t' k, Fr h₀ L h' m → News h₀ L h' news → Q (.str ⟨(c :: q).toArray⟩ t') { s with heap := h', toks := k })
    (hs : subscripted slice false (.str ⟨(pre ++ c :: rest).toArray⟩ t) (.ref s.heap.objs.size) = operate [.ref s.heap.objs.size, .str ⟨(pre ++ c :: rest).toArray⟩ t] (getItem (.str ⟨(pre ++ c :: rest).toArray⟩ t) (.ref s.heap.objs.size)) := by with_unfolding_all rfl)
    (ht : ∀ r, letTemporaryGo value (.str ⟨(pre ++ c :: rest).toArray⟩ t) r = pure () := by intro _; with_unfolding_all rfl) :
    wpAny (model prog w) A (subscriptTail value slice (.str ⟨(pre ++ c :: rest).toArray⟩ t) (.ref s.heap.objs.size)) Q E { s with heap := s.heap.push { cls := .type "slice", data := .fields #[.int (pre.length : Int) ui, .int ((pre.length : Int) + 2) uj, .none] } } :=
  slice_strN_ss F N (fun h' t' k a b => by rw [slice_two, hq]; exact h h' t' k a b) hs ht (by show (pre ++ c :: rest).toArray.size ≤ sizeLine; rw [List.size_toArray]; exact Nat.le_trans hz (by decide))

theorem sign_here {prog : Program} {w : World} {A : Around} {E : Value → Shared → Prop} {s : Shared} {pre rest : List Nat} {c : Nat} {t u : Tok} {value slice : PySem.Expr} {Q : Value → Shared → Prop} (hz : (pre ++ c :: rest).length ≤ 1000)
    (h : Q (.str ⟨#[c]⟩ s.toks) { s with toks := s.toks + 1 })
    (hs : subscripted slice false (.str ⟨(pre ++ c :: rest).toArray⟩ t) (.int (pre.length : Int) u) = operate [.str ⟨(pre ++ c :: rest).toArray⟩ t, .int (pre.length : Int) u] (getItem (.str ⟨(pre ++ c :: rest).toArray⟩ t) (.int (pre.length : Int) u)) := by with_unfolding_all rfl)
    (ht : ∀ r, letTemporaryGo value (.str ⟨(pre ++ c :: rest).toArray⟩ t) r = pure () := by intro _; with_unfolding_all rfl) :
    wpAny (model prog w) A (subscriptTail value slice (.str ⟨(pre ++ c :: rest).toArray⟩ t) (.int (pre.length : Int) u)) Q E s :=
  tail_of_ItemOn (SB.item (by rw [List.length_append] at hz; simp [fitsSsize]; omega) (by unfold Txt.charAt; rw [item_at]; rfl) (by unfold Txt.item Txt.charAt; rw [item_at]; exact h)) hs ht

theorem sign_first {prog : Program} {w : World} {A : Around} {E : Value → Shared → Prop} {s : Shared} {q : List Nat} {c : Nat} {t u : Tok} {value slice : PySem.Expr} {Q : Value → Shared → Prop} (hz : q.length ≤ 900)
    (h : Q (.str ⟨#[c]⟩ s.toks) { s with toks := s.toks + 1 })
    (hs : subscripted slice false (.str ⟨(c :: q).toArray⟩ t) (.int 0 u) = operate [.str ⟨(c :: q).toArray⟩ t, .int 0 u] (getItem (.str ⟨(c :: q).toArray⟩ t) (.int 0 u)) := by with_unfolding_all rfl)
    (ht : ∀ r, letTemporaryGo value (.str ⟨(c :: q).toArray⟩ t) r = pure () := by intro _; with_unfolding_all rfl) :
    wpAny (model prog w) A (subscriptTail value slice (.str ⟨(c :: q).toArray⟩ t) (.int 0 u)) Q E s :=
  sign_here (pre := []) (rest := q) (by simp; omega) h hs ht

theorem len_here {prog : Program} {w : World} {A : Around} {E : Value → Shared → Prop} {s : Shared} {l : List Nat} {t : Tok} {Q : Value → Shared → Prop} (hz : l.length ≤ 1000) (h : Q (.int (l.length : Int) (s.toks + 1)) { s with toks := s.toks + 1 + 1 }) :
    wpAny (model prog w) A (call (.builtin "len") [.str ⟨l.toArray⟩ t]) Q E s := by
  run_tac mark
  have e : (⟨l.toArray⟩ : Str).length = l.length := List.size_toArray
  exact P.len_str (by rw [e]; omega) (by rw [e]; exact h)
  run_tac squeeze

theorem ex_get1 {prog : Program} {w : World} {A : Around} {E : Value → Shared → Prop} {s : Shared} {h₀ : Heap} {L : Addr} {m : Str → Option Value} {x : Str} {t u : Tok} {d v : Int} {Q : Value → Shared → Prop} (F : Fr h₀ L s.heap m) (X : (KF w.params).In h₀) (hv : exGet x = some v) (h : ∀ t', Q (.int v t') { s with toks := s.toks + 1 }) :
    wpAny (model prog w) A (call (.builtin "dict.get") [.ref 142, .str x t, .int d u]) Q E s := ex_get F X (by rw [hv]; rfl) h

theorem ex_get0 {prog : Program} {w : World} {A : Around} {E : Value → Shared → Prop} {s : Shared} {h₀ : Heap} {L : Addr} {m : Str → Option Value} {x : Str} {t u : Tok} {d : Int} {Q : Value → Shared → Prop} (F : Fr h₀ L s.heap m) (X : (KF w.params).In h₀) (hv : exGet x = none) (h : ∀ t', Q (.int d t') { s with toks := s.toks + 1 }) :
    wpAny (model prog w) A (call (.builtin "dict.get") [.ref 142, .str x t, .int d u]) Q E s := ex_get F X (by rw [hv]; rfl) h

theorem ex_pairs : ([60, 62, 97, 98, 99].all fun c => [60, 62, 97, 98, 99].all fun d => (exGet ⟨[c, d].toArray⟩).isSome == (c == d && (c == 60 || c == 62))) = true := by kernel_rfl

theorem ex_pair {c d : Nat} (hc : c = 60 ∨ c = 62 ∨ c = 97 ∨ c = 98 ∨ c = 99) (hd : d = 60 ∨ d = 62 ∨ d = 97 ∨ d = 98 ∨ d = 99) (hn : ¬ (c = d ∧ (c = 60 ∨ c = 62))) : (exGet ⟨[c, d].toArray⟩).isSome = false := by
  run_tac mark
  have h1 := List.all_eq_true.mp ex_pairs c (by simp; omega)
  have h2 := List.all_eq_true.mp h1 d (by simp; omega)
  rw [eq_of_beq h2]
  rw [Bool.eq_false_iff]
  intro h
  simp only [Bool.and_eq_true, Bool.or_eq_true, beq_iff_eq] at h
  exact hn h
  run_tac squeeze

theorem ex_ones : ([97, 98, 99].all fun c => exGet ⟨[c].toArray⟩ == none) = true := by kernel_rfl

theorem ex_one {c : Nat} (hc : c = 97 ∨ c = 98 ∨ c = 99) : exGet ⟨[c].toArray⟩ = none := eq_of_beq (List.all_eq_true.mp ex_ones c (by simp; omega))

theorem ex_lt : exGet (Str.ofString "<") = some 20 := by kernel_rfl

theorem ex_gt : exGet (Str.ofString ">") = some 21 := by kernel_rfl

theorem ex_ltlt : exGet (Str.ofString "<<") = some 33 := by kernel_rfl

theorem ex_gtgt : exGet (Str.ofString ">>") = some 34 := by kernel_rfl

theorem mul_one {prog : Program} {w : World} {A : Around} {E : Value → Shared → Prop} {s : Shared} {h₀ : Heap} {L l D : Addr} {m : Str → Option Value} {news : List (Addr × Obj)} {n : Nat} {u : Tok} {Q : Value → Shared → Prop} (F : Fr h₀ L s.heap m) (N : News h₀ L s.heap news) (hl : (l, listOf #[.ref D] n) ∈ news)
    (h : ∀ h' D9, Fr h₀ L h' m → News h₀ L h' ((D9, listOf #[.ref D] 0) :: news) → (∀ p ∈ news, p.1 < D9) → Q (.ref D9) { s with heap := h' }) : wpAny (model prog w) A (binaryOp .Mult (.ref l) (.int 1 u)) Q E s :=
  mul_list F N (N _ hl).1 (by decide) (by decide) (by show 1 * _ ≤ _; decide) fun h' F' N' => h h' _ F' N' (fun p hp => Heap.lt_size (N p hp).1)

theorem mul_two {prog : Program} {w : World} {A : Around} {E : Value → Shared → Prop} {s : Shared} {h₀ : Heap} {L l D : Addr} {m : Str → Option Value} {news : List (Addr × Obj)} {n : Nat} {u : Tok} {Q : Value → Shared → Prop} (F : Fr h₀ L s.heap m) (N : News h₀ L s.heap news) (hl : (l, listOf #[.ref D] n) ∈ news)
    (h : ∀ h' D9, Fr h₀ L h' m → News h₀ L h' ((D9, listOf #[.ref D, .ref D] 0) :: news) → (∀ p ∈ news, p.1 < D9) → Q (.ref D9) { s with heap := h' }) : wpAny (model prog w) A (binaryOp .Mult (.ref l) (.int 2 u)) Q E s :=
  mul_list F N (N _ hl).1 (by decide) (by decide) (by show 1 * _ ≤ _; decide) fun h' F' N' => h h' _ F' N' (fun p hp => Heap.lt_size (N p hp).1)

theorem ext_cross {prog : Program} {w : World} {A : Around} {E : Value → Shared → Prop} {s : Shared} {h₀ : Heap} {L S b : Addr} {m : Str → Option Value} {news news' : List (Addr × Obj)} {vs ws : List Value} {n n2 : Nat} {Q : Value → Shared → Prop} (F : Fr h₀ L s.heap m) (N : News h₀ L s.heap news) (hb : (b, listOf ws.toArray n2) ∈ news) (hw : ws.length = 1 ∨ ws.length = 2) (hv : vs.length ≤ 1000)
    (U : Upd S (listOf vs.toArray n) (listOf (vs ++ ws).toArray (n + 1)) news news') (h : ∀ h', Fr h₀ L h' m → News h₀ L h' news' → Q .none { s with heap := h' }) : wpAny (model prog w) A (call (.builtin "list.extend") [.ref S, .ref b]) Q E s := by
  run_tac mark
  refine kl_extend F N hb (l := vs ++ ws) rfl (by show ws.length ≠ 0; omega) U ?_ (Nat.le_trans hv (by decide)) ?_ h
  · have e : Builtin.List.listTooLong (vs.toArray.size + ws.toArray.size) = false := by
      rw [List.size_toArray, List.size_toArray]
      simp [Builtin.List.listTooLong, sizeLine]
      omega
    rw [e]; simp
  · rw [List.size_toArray, List.size_toArray]
    have : (1002 : Nat) ≤ sizeLine + 1 := by decide
    omega
  run_tac squeeze

theorem cinv_step {S : Addr} {pre rest rest' : List Nat} {c k : Nat} {sp sp' : Int} {ts' tp' : Tok} {n' : Nat} {vs ws : List Value} {tl tl' : List (Addr × Obj)} {cs' new : List (Int × Bool)}
    (hlx : cs' ++ lexF ((pre ++ c :: rest).drop pre.length) sp = lexF (pre ++ c :: rest) 0) (hcr : Cross tl vs cs') (hvl : vs.length ≤ pre.length)
    (hsp : 0 ≤ sp' ∧ sp' ≤ 2) (hk : k ≤ rest.length + 1) (hd : (c :: rest).drop k = rest') (hnew : Cross tl' ws new) (hsub : ∀ p ∈ tl, p ∈ tl') (hstep : lexF (c :: rest) sp = new ++ lexF rest' sp') (htl : ∀ p ∈ tl', S < p.1) (hw : ws.length ≤ k) :
    CInv S (pre ++ c :: rest) ⟨sp', ts', pre.length + k, tp', vs ++ ws, n', tl', cs' ++ new⟩ := by
  run_tac mark
  have e1 : (pre ++ c :: rest).drop pre.length = c :: rest := by simp
  have e2 : (pre ++ c :: rest).drop (pre.length + k) = rest' := by rw [← hd, ← List.drop_drop, e1]
  refine ⟨hsp, ?_, Cross.append hnew (Cross.mono hsub hcr), ?_, htl, ?_⟩
  · show pre.length + k ≤ (pre ++ c :: rest).length
    rw [List.length_append, List.length_cons]; omega
  · show (cs' ++ new) ++ lexF ((pre ++ c :: rest).drop (pre.length + k)) sp' = _
    rw [e2, ← hlx, e1, hstep, List.append_assoc]
  · show (vs ++ ws).length ≤ pre.length + k
    rw [List.length_append]; omega
  run_tac squeeze

theorem natLt {a b : Nat} (h : a < b) : @LT.lt Addr _ a b := h

theorem stored3 {a b c z : Str} (h : ([a, b, c] : List Str).contains z = false) : z ≠ a ∧ z ≠ b ∧ z ≠ c := by
  run_tac mark
  simp only [List.contains_cons, List.contains_nil, Bool.or_eq_false_iff, beq_eq_false_iff_ne, ne_eq, Bool.or_false] at h
  exact ⟨h.1, h.2.1, h.2.2⟩
  run_tac squeeze

theorem sub_pair {a b d c e q : Addr × Obj} {tl news : List (Addr × Obj)} : ∀ p ∈ q :: ((d :: tl) ++ news), p ∈ a :: b :: d :: c :: e :: q :: (tl ++ news) := by
  run_tac mark
  intro p hp
  rcases List.mem_cons.mp hp with rfl | hp
  · exact .tail _ (.tail _ (.tail _ (.tail _ (.tail _ (.head _)))))
  · rcases List.mem_cons.mp hp with rfl | hp
    · exact .tail _ (.tail _ (.head _))
    · exact .tail _ (.tail _ (.tail _ (.tail _ (.tail _ (.tail _ hp)))))
  run_tac squeeze

theorem gt_cons {S : Addr} {d : Addr × Obj} {tl : List (Addr × Obj)} (h : S < d.1) (ht : ∀ p ∈ tl, S < p.1) : ∀ p ∈ d :: tl, S < p.1 := fun p hp => (List.mem_cons.mp hp).elim (fun e => e ▸ h) (ht p)

theorem lex_one (sp : Int) {c : Nat} {b : Bool} (hc : c = 60 ∧ b = true ∨ c = 62 ∧ b = false) (rest : List Nat) (hr : rest.head? ≠ some c) : lexF (c :: rest) sp = [(sp, b)] ++ lexF rest sp := by
  run_tac mark
  cases rest with
  | nil => rcases hc with ⟨rfl, rfl⟩ | ⟨rfl, rfl⟩ <;> simp [lexF]
  | cons d r =>
    have hd : ¬ d = c := fun e => hr (by rw [e]; rfl)
    rcases hc with ⟨rfl, rfl⟩ | ⟨rfl, rfl⟩ <;> simp [lexF, hd]
  run_tac squeeze

theorem lex_two (sp : Int) {c : Nat} {b : Bool} (hc : c = 60 ∧ b = true ∨ c = 62 ∧ b = false) (r : List Nat) : lexF (c :: c :: r) sp = [(sp, b), (sp, b)] ++ lexF r sp := by
  run_tac mark
  rcases hc with ⟨rfl, rfl⟩ | ⟨rfl, rfl⟩ <;> simp [lexF]
  run_tac squeeze

theorem cinv_letter {S : Addr} {pre rest : List Nat} {c : Nat} {sp sp' : Int} {ts' tp' : Tok} {n' : Nat} {vs : List Value} {tl : List (Addr × Obj)} {cs' : List (Int × Bool)}
    (hlx : cs' ++ lexF ((pre ++ c :: rest).drop pre.length) sp = lexF (pre ++ c :: rest) 0) (hcr : Cross tl vs cs') (hvl : vs.length ≤ pre.length) (hc : 97 ≤ c ∧ c ≤ 99) (hsp : sp' = (c : Int) - 97) (hstep : lexF (c :: rest) sp = [] ++ lexF rest ((c : Int) - 97)) (htl : ∀ p ∈ tl, S < p.1) :
    CInv S (pre ++ c :: rest) ⟨sp', ts', pre.length + 1, tp', vs, n', tl, cs'⟩ := by
  run_tac mark
  have h := cinv_step (S := S) (k := 1) (rest' := rest) (sp' := sp') (ts' := ts') (tp' := tp') (n' := n') (ws := []) (tl' := tl) (new := []) hlx hcr hvl (by omega) (by omega) rfl .nil (fun p hp => hp) (by rw [hsp]; exact hstep) htl (by simp)
  rw [List.append_nil, List.append_nil] at h
  exact h
  run_tac squeeze

theorem lex_letter (sp : Int) {c : Nat} (hc : 97 ≤ c ∧ c ≤ 99) (rest : List Nat) : lexF (c :: rest) sp = [] ++ lexF rest ((c : Int) - 97) := by
  run_tac mark
  have h1 : c ≠ 60 := by omega
  have h2 : c ≠ 62 := by omega
  cases rest <;> simp [lexF, h1, h2]
  run_tac squeeze

set_option maxHeartbeats 4000000 in
theorem cross_con (w : World) (codes : List Nat) (t1 : Tok) (hA : ∀ c ∈ codes, c = 60 ∨ c = 62 ∨ c = 97 ∨ c = 98 ∨ c = 99) (hsz : codes.length ≤ 1000) : CrossR w ⟨codes.toArray⟩ t1 (lexF codes 0) := by
  run_tac mark
  k_with_none
  k_with "m:call builtin:len" => (k_here; refine' len_here (by with_reducible assumption) ?_)
  k_with "m:subscriptTail Name Slice str ref" => (k_here; (with_reducible show wpAny _ _ (subscriptTail _ _ (Value.str _ _) (Value.ref _)) _ _ _); (with_unfolding_all refine' slice_here (s := ⟨_, _, _, _, _⟩) ?k1 ?k2 ?k3 ?k4 ?_ ?k5 ?k6; (case k1 => k_asm); (case k2 => k_asm); (case k3 => with_reducible assumption); (case k4 => with_reducible assumption); (case k5 => with_unfolding_all rfl); (case k6 => (intro _; with_unfolding_all rfl))); intro h9 t9 tk9 F9 N9; (try dsimp only); (try k_fold))
  k_with "m:subscriptTail Name Name str int" => (k_here; (with_reducible show wpAny _ _ (subscriptTail _ _ (Value.str _ _) (Value.int _ _)) _ _ _); ((with_reducible refine' sign_here ?k3 ?_ ?k5 ?k6); (case k3 => with_reducible assumption); (case k5 => with_unfolding_all rfl); (case k6 => (intro _; with_unfolding_all rfl))))
  k_with "m:subscriptTail Name Constant str int" => (k_here; (with_reducible show wpAny _ _ (subscriptTail _ _ (Value.str _ _) (Value.int 0 _)) _ _ _); ((with_reducible refine' sign_first ?k3 ?_ ?k5 ?k6); (case k3 => with_reducible assumption); (case k5 => with_unfolding_all rfl); (case k6 => (intro _; with_unfolding_all rfl))))
  k_with "m:call builtin:ord" => (k_here; refine' P.ord_of_char ?_)
  k_with "m:compareOp NotIn str ref" => (k_here; refine' notin_ex ?k1 ?k2 (by with_reducible assumption) ?_; (case k1 => k_asm); (case k2 => k_asm))
  k_with "m:getMethod ref" => (k_here; (with_reducible show wpAny _ _ (getMethod (Value.ref 142) _ _) _ _ _); k_dflt (refine' ex_method ?k1 ?k2 ?_; (case k1 => k_asm); (case k2 => k_asm)))
  k_with "m:call builtin:dict.get" => (k_here; (first | refine' ex_get1 ?k1 ?k2 (by with_reducible assumption) ?_ | refine' ex_get0 ?k1 ?k2 (by with_reducible assumption) ?_); (case k1 => k_asm); (case k2 => k_asm); intro t9; (try dsimp only); (try k_fold))
  k_with "m:ktr_rel" => ((case k1 => k_asm); (case k2 => k_asm); (case k3 => k_asm); (case k4 => k_asm); (case k5 => k_asm); (case kK => first | exact rfl | assumption); (case kd => ktr_room); (case ku => ktr_units); intro t9 h9 tk9 F9 N9; (try dsimp only); (try k_fold))
  k_with "m:call ref" => (k_here; refine' use1 (nont_con _ _ _) ?k1 ?k2 ?k3 ?k4 ?k5 ?kK ?kd ?ku ?_; ktr_rel)
  k_with "m:call builtin:list.extend" => (k_here; (refine' ext_cross ?F ?N ?b ?w ?v ?U ?_; (case F => k_asm); (case N => k_asm); (case b => k_mem); (case w => first | exact .inl rfl | exact .inr rfl); (case v => with_reducible assumption); (case U => exact .tail (by k_ne) (.tail (by k_ne) (.tail (by k_ne) (.tail (by k_ne) (.tail (by k_ne) (.head (by with_reducible assumption)))))))); intro h9 F9 N9; (try dsimp only); (try k_fold))
  k_with "m:binaryOp Mult ref int" => (k_here; (first | with_reducible refine' mul_one ?k1 ?k2 ?k3 ?_ | with_reducible refine' mul_two ?k1 ?k2 ?k3 ?_); (case k1 => k_asm); (case k2 => k_asm); (case k3 => k_mem); intro h9 D9 F9 N9 l9; k_lt l9; (try dsimp only); (try k_fold))
  k_with "m:exec While Compare cons nil" => k_extra "my while"
  intro mean mg mb dp un gd cn cs ad ccd cl outer A₀ base h₀ L m news s Q E B F X N T hk hd hu hret
  have hlen : (⟨codes.toArray⟩ : Str).length = codes.length := List.size_toArray
  run_tac fillFrag `Mine.KF
  k_with "my while" => (rename_i S h3 lS h2 h1 h0 F1 N1; (with_unfolding_all refine' ksw_while (σ := CSt) (fun c => (S, listOf c.vs.toArray c.n) :: (c.tl ++ news)) (fun c => [(Str.ofString "crossings", .ref S), (Str.ofString "spot", .int c.spot c.ts), (Str.ofString "place", .int (c.pl : Int) c.tp)]) (fun _ => True) [Str.ofString "piece", Str.ofString "symbol", Str.ofString "times"] (CInv S codes) (fun c => codes.length - c.pl) ⟨0, _, 0, _, [], 0, [], []⟩ F1 N1 trivial (Hold.out ?whk) (Hold.out ?whp) (Hold.out ?wht)))
  refine wpAny_call ?_
  (first | k_dflt cell_enter | fail "not entered")
  k_steps
  rotate_left 2
  · unfold Hold
    kst_all
  · exact cinv0 _ _ _ _
  unfold Hold
  rintro ⟨sp, ts, pl, tp, vs, n, tl, cs'⟩ u h tk _ ⟨⟨hs0, hs2⟩, hpl, hcr, hlx, htl, hvl⟩ F2 N2
  clear F1 N1
  dsimp only [kstB] at F2 N2 hs0 hs2 hpl hcr hlx htl hvl
  by_cases hlt : pl < codes.length
  · obtain ⟨pre, c, rest, hcodes, hp⟩ : ∃ pre c rest, codes = pre ++ c :: rest ∧ pre.length = pl := ⟨codes.take pl, codes[pl], codes.drop (pl + 1), by simp, by simp; omega⟩
    subst hcodes
    subst hp
    have hc := hA c (by simp)
    have g1 : (exGet (Str.ofString "<")).isSome = true := by rw [ex_lt]; rfl
    have g2 : (exGet (Str.ofString ">")).isSome = true := by rw [ex_gt]; rfl
    have g3 : (exGet (Str.ofString "<<")).isSome = true := by rw [ex_ltlt]; rfl
    have g4 : (exGet (Str.ofString ">>")).isSome = true := by rw [ex_gtgt]; rfl
    have g5 := ex_lt
    have g6 := ex_gt
    have g7 := ex_ltlt
    have g8 := ex_gtgt
    have q0 : ([] : List Nat).length ≤ 900 := by decide
    have hv1 : vs.length ≤ 1000 := by rw [List.length_append] at hsz; omega
    have hTN : ∀ p ∈ tl ++ news, p.1 ≠ S := fun p hp => (List.mem_append.mp hp).elim (fun h => Nat.ne_of_gt (htl p h)) fun h => Nat.ne_of_lt (lS p h)
    rcases hc with rfl | rfl | hc
    · have hb : 60 = 60 ∧ true = true ∨ 60 = 62 ∧ true = false := by decide
      cases rest with
      | nil =>
        have hq : ([] : List Nat).take 1 = [] := rfl
        k_steps
        refine ksw_end ⟨sp, ts, pre.length + 1, _, vs ++ [.ref _], n + 1, (_, pairO sp ts true) :: tl, cs' ++ [(sp, true)]⟩ (by k_asm) (by k_asm) sub_pair trivial (by kst_all) ?_
          (cinv_step (k := 1) (rest' := []) hlx hcr hvl ⟨hs0, hs2⟩ (by simp) rfl (.cons (.head _) ⟨hs0, hs2⟩ .nil) (fun p hp => .tail _ hp) (lex_one sp hb [] (by simp)) (gt_cons (by dsimp only; exact natLt (by omega)) htl) (by simp)) (by dsimp only; rw [List.length_append, List.length_cons]; omega)
        intro z hz1 hz2
        have a1 := hz1 _ (.head _)
        have a2 := hz1 _ (.tail _ (.head _))
        have a3 := hz1 _ (.tail _ (.tail _ (.head _)))
        dsimp only at a1 a2 a3
        have b1 := stored3 hz2
        simp only [if_neg a1, if_neg a2, if_neg a3, if_neg b1.1, if_neg b1.2.1, if_neg b1.2.2, hz2, Bool.false_eq_true, if_false]
      | cons d r =>
        have hd := hA d (by simp)
        by_cases hdc : d = 60
        · subst hdc
          have hq : (60 :: r).take 1 = [60] := rfl
          k_steps
          refine ksw_end ⟨sp, ts, pre.length + 2, _, vs ++ [.ref _, .ref _], n + 1, (_, pairO sp ts true) :: tl, cs' ++ [(sp, true), (sp, true)]⟩ (by k_asm) (by k_asm) sub_pair trivial (by kst_all) ?_
            (cinv_step (k := 2) (rest' := r) hlx hcr hvl ⟨hs0, hs2⟩ (by simp) rfl (.cons (.head _) ⟨hs0, hs2⟩ (.cons (.head _) ⟨hs0, hs2⟩ .nil)) (fun p hp => .tail _ hp) (lex_two sp hb r) (gt_cons (by dsimp only; exact natLt (by omega)) htl) (by simp)) (by dsimp only; rw [List.length_append, List.length_cons]; omega)
          intro z hz1 hz2
          have a1 := hz1 _ (.head _)
          have a2 := hz1 _ (.tail _ (.head _))
          have a3 := hz1 _ (.tail _ (.tail _ (.head _)))
          dsimp only at a1 a2 a3
          have b1 := stored3 hz2
          simp only [if_neg a1, if_neg a2, if_neg a3, if_neg b1.1, if_neg b1.2.1, if_neg b1.2.2, hz2, Bool.false_eq_true, if_false]
        · have hq : (d :: r).take 1 = [d] := rfl
          have e1 := ex_pair (c := 60) (d := d) (by decide) hd (by omega)
          k_steps
          refine ksw_end ⟨sp, ts, pre.length + 1, _, vs ++ [.ref _], n + 1, (_, pairO sp ts true) :: tl, cs' ++ [(sp, true)]⟩ (by k_asm) (by k_asm) sub_pair trivial (by kst_all) ?_
            (cinv_step (k := 1) (rest' := d :: r) hlx hcr hvl ⟨hs0, hs2⟩ (by simp) rfl (.cons (.head _) ⟨hs0, hs2⟩ .nil) (fun p hp => .tail _ hp) (lex_one sp hb (d :: r) (by simp [hdc])) (gt_cons (by dsimp only; exact natLt (by omega)) htl) (by simp)) (by dsimp only; rw [List.length_append, List.length_cons]; omega)
          intro z hz1 hz2
          have a1 := hz1 _ (.head _)
          have a2 := hz1 _ (.tail _ (.head _))
          have a3 := hz1 _ (.tail _ (.tail _ (.head _)))
          dsimp only at a1 a2 a3
          have b1 := stored3 hz2
          simp only [if_neg a1, if_neg a2, if_neg a3, if_neg b1.1, if_neg b1.2.1, if_neg b1.2.2, hz2, Bool.false_eq_true, if_false]
    · have hb : 62 = 60 ∧ false = true ∨ 62 = 62 ∧ false = false := by decide
      cases rest with
      | nil =>
        have hq : ([] : List Nat).take 1 = [] := rfl
        k_steps
        refine ksw_end ⟨sp, ts, pre.length + 1, _, vs ++ [.ref _], n + 1, (_, pairO sp ts false) :: tl, cs' ++ [(sp, false)]⟩ (by k_asm) (by k_asm) sub_pair trivial (by kst_all) ?_
          (cinv_step (k := 1) (rest' := []) hlx hcr hvl ⟨hs0, hs2⟩ (by simp) rfl (.cons (.head _) ⟨hs0, hs2⟩ .nil) (fun p hp => .tail _ hp) (lex_one sp hb [] (by simp)) (gt_cons (by dsimp only; exact natLt (by omega)) htl) (by simp)) (by dsimp only; rw [List.length_append, List.length_cons]; omega)
        intro z hz1 hz2
        have a1 := hz1 _ (.head _)
        have a2 := hz1 _ (.tail _ (.head _))
        have a3 := hz1 _ (.tail _ (.tail _ (.head _)))
        dsimp only at a1 a2 a3
        have b1 := stored3 hz2
        simp only [if_neg a1, if_neg a2, if_neg a3, if_neg b1.1, if_neg b1.2.1, if_neg b1.2.2, hz2, Bool.false_eq_true, if_false]
      | cons d r =>
        have hd := hA d (by simp)
        by_cases hdc : d = 62
        · subst hdc
          have hq : (62 :: r).take 1 = [62] := rfl
          k_steps
          refine ksw_end ⟨sp, ts, pre.length + 2, _, vs ++ [.ref _, .ref _], n + 1, (_, pairO sp ts false) :: tl, cs' ++ [(sp, false), (sp, false)]⟩ (by k_asm) (by k_asm) sub_pair trivial (by kst_all) ?_
            (cinv_step (k := 2) (rest' := r) hlx hcr hvl ⟨hs0, hs2⟩ (by simp) rfl (.cons (.head _) ⟨hs0, hs2⟩ (.cons (.head _) ⟨hs0, hs2⟩ .nil)) (fun p hp => .tail _ hp) (lex_two sp hb r) (gt_cons (by dsimp only; exact natLt (by omega)) htl) (by simp)) (by dsimp only; rw [List.length_append, List.length_cons]; omega)
          intro z hz1 hz2
          have a1 := hz1 _ (.head _)
          have a2 := hz1 _ (.tail _ (.head _))
          have a3 := hz1 _ (.tail _ (.tail _ (.head _)))
          dsimp only at a1 a2 a3
          have b1 := stored3 hz2
          simp only [if_neg a1, if_neg a2, if_neg a3, if_neg b1.1, if_neg b1.2.1, if_neg b1.2.2, hz2, Bool.false_eq_true, if_false]
        · have hq : (d :: r).take 1 = [d] := rfl
          have e1 := ex_pair (c := 62) (d := d) (by decide) hd (by omega)
          k_steps
          refine ksw_end ⟨sp, ts, pre.length + 1, _, vs ++ [.ref _], n + 1, (_, pairO sp ts false) :: tl, cs' ++ [(sp, false)]⟩ (by k_asm) (by k_asm) sub_pair trivial (by kst_all) ?_
            (cinv_step (k := 1) (rest' := d :: r) hlx hcr hvl ⟨hs0, hs2⟩ (by simp) rfl (.cons (.head _) ⟨hs0, hs2⟩ .nil) (fun p hp => .tail _ hp) (lex_one sp hb (d :: r) (by simp [hdc])) (gt_cons (by dsimp only; exact natLt (by omega)) htl) (by simp)) (by dsimp only; rw [List.length_append, List.length_cons]; omega)
          intro z hz1 hz2
          have a1 := hz1 _ (.head _)
          have a2 := hz1 _ (.tail _ (.head _))
          have a3 := hz1 _ (.tail _ (.tail _ (.head _)))
          dsimp only at a1 a2 a3
          have b1 := stored3 hz2
          simp only [if_neg a1, if_neg a2, if_neg a3, if_neg b1.1, if_neg b1.2.1, if_neg b1.2.2, hz2, Bool.false_eq_true, if_false]
    · have hc0 : 97 ≤ c ∧ c ≤ 99 := by omega
      have g9 := ex_one hc
      cases rest with
      | nil =>
        have hq : ([] : List Nat).take 1 = [] := rfl
        have e1 : (exGet ⟨[c].toArray⟩).isSome = false := by rw [g9]; rfl
        k_steps
        refine ksw_end ⟨_, _, pre.length + 1, _, vs, n, tl, cs'⟩ (by k_asm) (by k_asm) (fun p hp => hp) trivial (by kst_all) ?_
          (cinv_letter hlx hcr hvl hc0 (by omega) (lex_letter sp hc0 _) htl) (by dsimp only; rw [List.length_append, List.length_cons]; omega)
        intro z hz1 hz2
        have a1 := hz1 _ (.head _)
        have a2 := hz1 _ (.tail _ (.head _))
        have a3 := hz1 _ (.tail _ (.tail _ (.head _)))
        dsimp only at a1 a2 a3
        have b1 := stored3 hz2
        simp only [if_neg a1, if_neg a2, if_neg a3, if_neg b1.1, if_neg b1.2.1, if_neg b1.2.2, hz2, Bool.false_eq_true, if_false]
      | cons d r =>
        have hd := hA d (by simp)
        have hq : (d :: r).take 1 = [d] := rfl
        have e1 := ex_pair (c := c) (d := d) (.inr (.inr hc)) hd (by omega)
        k_steps
        refine ksw_end ⟨_, _, pre.length + 1, _, vs, n, tl, cs'⟩ (by k_asm) (by k_asm) (fun p hp => hp) trivial (by kst_all) ?_
          (cinv_letter hlx hcr hvl hc0 (by omega) (lex_letter sp hc0 _) htl) (by dsimp only; rw [List.length_append, List.length_cons]; omega)
        intro z hz1 hz2
        have a1 := hz1 _ (.head _)
        have a2 := hz1 _ (.tail _ (.head _))
        have a3 := hz1 _ (.tail _ (.tail _ (.head _)))
        dsimp only at a1 a2 a3
        have b1 := stored3 hz2
        simp only [if_neg a1, if_neg a2, if_neg a3, if_neg b1.1, if_neg b1.2.1, if_neg b1.2.2, hz2, Bool.false_eq_true, if_false]
  · have hpl2 : pl = codes.length := by omega
    have hcs : cs' = lexF codes 0 := by
      rw [← hlx, hpl2, List.drop_length]
      simp [lexF]
    k_steps
    exact hret S vs n tl _ _ (hcs ▸ hcr) (by k_asm) (by k_asm) lS htl
  run_tac squeeze

end
theorem quietC14 : True := by
  run_tac quiet
  trivial
-- C15
section
open PySem PySem.W PySem.Spec PySem.Calls PyProof.Rows
theorem ne_all {I : Addr} {nx : List (Addr × Obj)} (h : ∀ p ∈ nx, p.1 < I) : ∀ p ∈ nx, p.1 ≠ I := fun p hp => Nat.ne_of_lt (h p hp)

theorem item_lit {prog : Program} {w : World} {A : Around} {E : Value → Shared → Prop} {s : Shared} {h₀ : Heap} {L l : Addr} {news : List (Addr × Obj)} {its : Array Value} {n : Nat} {value slice : PySem.Expr} {k : Int} {u : Tok} {v : Value} {Q : Value → Shared → Prop} (N : News h₀ L s.heap news) (hl : (l, listOf its n) ∈ news) (hx : its[k.toNat]? = some v) (h0 : 0 ≤ k) (h1 : k < 2 ^ 63)
    (h : Q v s)
    (hs : subscripted slice false (.ref l) (.int k u) = operate [.ref l, .int k u] (getItem (.ref l) (.int k u)) := by with_unfolding_all rfl) :
    wpAny (model prog w) A (subscriptTail value slice (.ref l) (.int k u)) Q E s :=
  have hL : s.heap.IsList l its := News.isList N hl
  tail_any hL.typeIs slot_list_getitem.lookup (wpAny_getItem_list hL h0 h1 hx h) hs

noncomputable def contF (r0 r1 r2 r3 r4 : Int) : Int := 0 + 1 * r0 * r1 * r2 * r3 * r4 + 1 * r2 * r3 * r4 + 1 * r0 * r3 * r4 + 1 * r0 * r1 * r4 + 1 * r4 + 1 * r0 * r1 * r2 + 1 * r2 + 1 * r0
noncomputable def bitX (s : Int) (i : Nat) : Int := Builtin.bitAnd (s.fdiv (2 ^ ((0 : Int) + (i : Int)).toNat)) 1
/-- a part: the runs that are not struck -/
noncomputable def partB (c0 c1 c2 c3 c4 : Bool) (r0 r1 r2 r3 r4 : Int) : Int :=
  let p := 1
  let p := if c0 = true then p * r0 else p
  let p := if c1 = true then p * r1 else p
  let p := if c2 = true then p * r2 else p
  let p := if c3 = true then p * r3 else p
  if c4 = true then p * r4 else p
noncomputable def partG (s r0 r1 r2 r3 r4 : Int) : Int := partB (decide (bitX s 0 = 0)) (decide (bitX s (0 + 1) = 0)) (decide (bitX s (0 + 1 + 1) = 0)) (decide (bitX s (0 + 1 + 1 + 1) = 0)) (decide (bitX s (0 + 1 + 1 + 1 + 1) = 0)) r0 r1 r2 r3 r4
noncomputable def contG (r0 r1 r2 r3 r4 : Int) (ks : List Int) : Int := ks.foldl (fun t k => if Builtin.bitAnd k (k.fdiv (2 ^ Int.toNat 1)) = 0 then t + partG (Builtin.bitOr k (k * 2 ^ Int.toNat 1)) r0 r1 r2 r3 r4 else t) 0
theorem contG_nil (r0 r1 r2 r3 r4 : Int) : (0 : Int) = contG r0 r1 r2 r3 r4 [] := rfl

theorem contG_no {r0 r1 r2 r3 r4 t k : Int} {pre : List Int} (h : t = contG r0 r1 r2 r3 r4 pre) (c : Builtin.bitAnd k (k.fdiv (2 ^ Int.toNat 1)) ≠ 0) : t = contG r0 r1 r2 r3 r4 (pre ++ [k]) := by
  run_tac mark
  rw [contG, List.foldl_append, ← contG, ← h, List.foldl_cons, List.foldl_nil, if_neg c]
  run_tac squeeze

theorem contG_yes {r0 r1 r2 r3 r4 t k u : Int} {pre : List Int} (h : t = contG r0 r1 r2 r3 r4 pre) (c : Builtin.bitAnd k (k.fdiv (2 ^ Int.toNat 1)) = 0) (hu : u = partG (Builtin.bitOr k (k * 2 ^ Int.toNat 1)) r0 r1 r2 r3 r4) : t + u = contG r0 r1 r2 r3 r4 (pre ++ [k]) := by
  run_tac mark
  rw [contG, List.foldl_append, ← contG, ← h, List.foldl_cons, List.foldl_nil, if_pos c, hu]
  run_tac squeeze

theorem dec_yes {s : Int} {i : Nat} (h : Builtin.bitAnd (s.fdiv (2 ^ ((0 : Int) + (i : Int)).toNat)) 1 = 0) : decide (bitX s i = 0) = true := decide_eq_true h

theorem dec_no {s : Int} {i : Nat} (h : Builtin.bitAnd (s.fdiv (2 ^ ((0 : Int) + (i : Int)).toNat)) 1 ≠ 0) : decide (bitX s i = 0) = false := decide_eq_false h

theorem partG_of {s r0 r1 r2 r3 r4 u : Int} {c0 c1 c2 c3 c4 : Bool} (h0 : decide (bitX s 0 = 0) = c0) (h1 : decide (bitX s (0 + 1) = 0) = c1) (h2 : decide (bitX s (0 + 1 + 1) = 0) = c2) (h3 : decide (bitX s (0 + 1 + 1 + 1) = 0) = c3) (h4 : decide (bitX s (0 + 1 + 1 + 1 + 1) = 0) = c4)
    (hu : u = partB c0 c1 c2 c3 c4 r0 r1 r2 r3 r4) : u = partG s r0 r1 r2 r3 r4 := by
  run_tac mark
  rw [hu, partG, h0, h1, h2, h3, h4]
  run_tac squeeze

theorem contG_all (r0 r1 r2 r3 r4 : Int) : contG r0 r1 r2 r3 r4 (rangeKs 0 ((16 : Int) - 0).toNat) = contF r0 r1 r2 r3 r4 := by
  run_tac mark
  rfl
  run_tac squeeze

set_option maxHeartbeats 8000000 in
theorem cont_con (w : World) (l : Addr) (r0 r1 r2 r3 r4 : Int) (t0 t1 t2 t3 t4 : Tok) (n : Nat) (b0 : -3 ≤ r0 ∧ r0 ≤ 3) (b1 : -3 ≤ r1 ∧ r1 ≤ 3) (b2 : -3 ≤ r2 ∧ r2 ≤ 3) (b3 : -3 ≤ r3 ∧ r3 ≤ 3) (b4 : -3 ≤ r4 ∧ r4 ≤ 3) :
   PureIn w 205 1 [.ref l] (fun news => (l, listOf #[.int r0 t0, .int r1 t1, .int r2 t2, .int r3 t3, .int r4 t4] n) ∈ news) (fun t => .int (contF r0 r1 r2 r3 r4) t) := by
  run_tac mark
  k_with_none
  k_with "m:exec For Name Call cons nil" => k_extra "my for"
  k_with "m:pyIter ref" => k_extra "my iter"
  k_with "m:UnrEnd" => (refine' UnrEnd.intro ?F ?N _ (fun p hp => hp) ?off ?_; (case F => k_asm); (case N => k_asm); (case off => with_reducible assumption))
  k_with "m:subscriptTail Name Name ref int" => (k_here; (refine' item_lit (v := .int _ _) ?N ?l ?x ?a ?b ?_ ?c; (case N => k_asm); (case l => kst_mem); (case x => rfl); (case a => decide); (case b => decide); (case c => with_unfolding_all rfl)); (try dsimp only); (try k_fold))
  k_with "m:kst_facts" => (first | (with_reducible exact PyProof.Rows.IntsAre.nil) | (with_reducible assumption) | exact PyProof.Rows.IntsAre.append (by with_reducible assumption) (.cons _ _ .nil) | fail "MYFACTS")
  k_with "m:InvEndN" => k_dflt kst_close
  k_with "m:kst_allIn" => first | exact List.forall_mem_nil _ | (with_reducible refine List.forall_mem_cons.mpr ⟨?_, ?_⟩; (focus k_memK); kst_allIn) | (intro p9 h9; kst_mem)
  intro mean mg mb dp un gd cn cs ad ccd cl outer A₀ base h₀ L m news s Q E hpre B F X N T hk hd hu hret
  run_tac fillFrag `Mine.KF
  k_with "my for" => (k_of "pairs" => kpr_for)
  k_with "my for" => (k_of "i" => (k_here; (rename Fr _ _ _ _ => lF'); (with_unfolding_all refine' For_invVF lF' ?k1 ?k2 ?_; (case k1 => exact rfl); (case k2 => exact rfl); k_whole)))
  k_with "my iter" => (k_of "pairs" => k_state_short (fun pre total => total = contG r0 r1 r2 r3 r4 pre) "total")
  k_with "my iter" => ((rename Fr _ _ _ _ => lF'); (rename News _ _ _ _ => lN'); (rename IsRange _ _ _ _ _ _ _ _ => rgX); (with_unfolding_all refine iter_rangeUnr (n := 5) (by rfl) rgX (by decide) (by decide) lF' lN' ?_); clear lF' lN' rgX; intro i' l1; replace l1 := ne_all l1)
  k_with "state" => first
    | exact contG_nil _ _ _ _ _
    | (refine contG_no (by with_reducible assumption) ?_; with_reducible assumption)
    | (exact contG_yes (by with_reducible assumption) (by with_reducible assumption) (partG_of (by first | exact dec_yes (by with_reducible assumption) | exact dec_no (by with_reducible assumption)) (by first | exact dec_yes (by with_reducible assumption) | exact dec_no (by with_reducible assumption)) (by first | exact dec_yes (by with_reducible assumption) | exact dec_no (by with_reducible assumption)) (by first | exact dec_yes (by with_reducible assumption) | exact dec_no (by with_reducible assumption)) (by first | exact dec_yes (by with_reducible assumption) | exact dec_no (by with_reducible assumption)) (by k_dflt (exact rfl))))
  refine wpAny_call ?_
  (first | k_dflt cell_enter | fail "not entered")
  k_steps
  rw [kInv, contG_all]
  exact hret _ _ _ (by k_asm) (by k_asm)
  run_tac squeeze

end
theorem quietC15 : True := by
  run_tac quiet
  trivial
-- C16
section
open PySem PySem.W PySem.Spec PySem.Calls PyProof.Rows
noncomputable def JoinR (w : World) (vs : List Value) (k : Nat) (pre : List (Addr × Obj) → Prop) (js : List Int) : Prop :=
  ∀ (mean : ExcName → Option Value) (mg mb : Str → Option Value) (dp un : Nat) (gd : Option (List Code)) (cn : Str) (csc : Scope) (a : Addr) (ccd : Value) (cl : List (Str × Addr)) (outer : List Env) (A₀ : Around) (base h₀ : Heap) (L : Addr) (m : Str → Option Value) (news : List (Addr × Obj)) (s : Shared) (Q E : Value → Shared → Prop),
    pre news → Below A₀ base outer h₀ → Fr h₀ L s.heap m → (KF w.params).In h₀ → News h₀ L s.heap news → Top qv lo mean mg mb h₀ → csc.kind = .function → dp + k < recursionLimit → un + 8 * k < cLine →
    (∀ D us n h' tk', IntsAre us js → Fr h₀ L h' m → News h₀ L h' ((D, listOf us.toArray n) :: news) → (∀ p ∈ news, p.1 < D) → Q (.ref D) { s with heap := h', toks := tk' }) →
    wpAny (model PySem.Challenge.pw_re0166_01 w) (ktrTop dp un gd cn csc L a ccd cl outer) (call (.ref 191) vs) Q E s
/-- the strands' ends join by twos -/
noncomputable def joins (parts top : Int) (crs : List (Int × Bool)) (h : Int) : Bool :=
  ((endsF (top, top, h, h) crs).1 % parts == (endsF (top, top, h, h) crs).2.1 % parts) && ((endsF (top, top, h, h) crs).2.2.1 % parts == (endsF (top, top, h, h) crs).2.2.2 % parts)
noncomputable def Hid (P : Prop) : Prop := P
theorem useIn {w : World} {f : Addr} {k : Nat} {vs : List Value} {pre : List (Addr × Obj) → Prop} {O : Obj → Prop} (C : NewIn w f k vs pre O) {mean : ExcName → Option Value} {mg mb : Str → Option Value} {dp un : Nat} {gd : Option (List Code)} {cn : Str} {cs : Scope} {a : Addr} {ccd : Value} {cl : List (Str × Addr)} {outer : List Env} {A₀ : Around} {base h₀ : Heap} {L : Addr} {m : Str → Option Value} {news : List (Addr × Obj)} {s : Shared} {Q E : Value → Shared → Prop}
    (hpre : pre news) (B : Below A₀ base outer h₀) (F : Fr h₀ L s.heap m) (X : (KF w.params).In h₀) (N : News h₀ L s.heap news) (T : Top qv lo mean mg mb h₀) (hk : cs.kind = .function) (hd : dp + k < recursionLimit) (hu : un + 8 * k < cLine)
    (ret : ∀ D o h' tk', O o → Fr h₀ L h' m → News h₀ L h' ((D, o) :: news) → (∀ p ∈ news, p.1 < D) → Q (.ref D) { s with heap := h', toks := tk' }) :
    wpAny (model PySem.Challenge.pw_re0166_01 w) (ktrTop dp un gd cn cs L a ccd cl outer) (call (.ref f) vs) Q E s := C _ _ _ _ _ _ _ _ _ _ _ _ _ _ _ _ _ _ _ _ _ hpre B F X N T hk hd hu ret

theorem ends_at (w : World) (a l : Addr) (y1 y2 y3 y4 : Int) (t1 t2 t3 t4 : Tok) (n n' : Nat) (vs : List Value) (crs : List (Int × Bool)) :
   NewIn w 179 1 [.ref a, .ref l] (fun news => (a, listOf #[.int y1 t1, .int y2 t2, .int y3 t3, .int y4 t4] n) ∈ news ∧ (l, listOf vs.toArray n') ∈ news ∧ Cross news vs crs) (Four (endsF (y1, y2, y3, y4) crs)) := ends_con w a l (y1, y2, y3, y4) t1 t2 t3 t4 n n' vs crs

noncomputable abbrev four (parts top : Int) (crs : List (Int × Bool)) (k : Int) : List Int := List.map (fun k' => k' % parts) [(endsF (top, top, k, k) crs).1, (endsF (top, top, k, k) crs).2.1, (endsF (top, top, k, k) crs).2.2.1, (endsF (top, top, k, k) crs).2.2.2]
theorem joinJ_len {parts top k : Int} {crs : List (Int × Bool)} {pre js : List Int} (hi : js = pre.filter (joins parts top crs)) : js.length ≤ pre.length := by rw [hi]; exact List.length_filter_le _ _

theorem join_no1 {parts top k : Int} {crs : List (Int × Bool)} {pre js : List Int} (hi : js.length ≤ pre.length ∧ js = pre.filter (joins parts top crs)) (h : (four parts top crs k).getD (Int.toNat 0) 0 ≠ (four parts top crs k).getD (Int.toNat 1) 0) : js.length ≤ (pre ++ [k]).length ∧ js = (pre ++ [k]).filter (joins parts top crs) := by
  run_tac mark
  have h' : (endsF (top, top, k, k) crs).1 % parts ≠ (endsF (top, top, k, k) crs).2.1 % parts := h
  have e : js = (pre ++ [k]).filter (joins parts top crs) := by
    rw [List.filter_append, ← hi.2]
    simp [joins, h']
  exact ⟨by have := hi.1; rw [List.length_append]; omega, e⟩
  run_tac squeeze

theorem join_no2 {parts top k : Int} {crs : List (Int × Bool)} {pre js : List Int} (hi : js.length ≤ pre.length ∧ js = pre.filter (joins parts top crs)) (h : (four parts top crs k).getD (Int.toNat 2) 0 ≠ (four parts top crs k).getD (Int.toNat 3) 0) : js.length ≤ (pre ++ [k]).length ∧ js = (pre ++ [k]).filter (joins parts top crs) := by
  run_tac mark
  have h' : (endsF (top, top, k, k) crs).2.2.1 % parts ≠ (endsF (top, top, k, k) crs).2.2.2 % parts := h
  have e : js = (pre ++ [k]).filter (joins parts top crs) := by
    rw [List.filter_append, ← hi.2]
    simp [joins, h']
  exact ⟨by have := hi.1; rw [List.length_append]; omega, e⟩
  run_tac squeeze

theorem join_yes {parts top k : Int} {crs : List (Int × Bool)} {pre js : List Int} (hi : js.length ≤ pre.length ∧ js = pre.filter (joins parts top crs)) (h : (four parts top crs k).getD (Int.toNat 0) 0 = (four parts top crs k).getD (Int.toNat 1) 0) (h2 : (four parts top crs k).getD (Int.toNat 2) 0 = (four parts top crs k).getD (Int.toNat 3) 0) : (js ++ [k]).length ≤ (pre ++ [k]).length ∧ js ++ [k] = (pre ++ [k]).filter (joins parts top crs) := by
  run_tac mark
  have h' : (endsF (top, top, k, k) crs).1 % parts = (endsF (top, top, k, k) crs).2.1 % parts := h
  have h2' : (endsF (top, top, k, k) crs).2.2.1 % parts = (endsF (top, top, k, k) crs).2.2.2 % parts := h2
  refine ⟨by have := hi.1; rw [List.length_append, List.length_append]; exact Nat.add_le_add_right this _, ?_⟩
  rw [List.filter_append, ← hi.2]
  simp [joins, h', h2']
  run_tac squeeze

theorem never {parts top k : Int} {crs : List (Int × Bool)} (hp : 2 ≤ parts ∧ parts ≤ 7) (h : ((four parts top crs k).any fun x => x == -1) = true) : False := by
  run_tac mark
  obtain ⟨x, hx, he⟩ := List.any_eq_true.mp h
  obtain ⟨y, _, rfl⟩ := List.mem_map.mp hx
  have := Int.emod_nonneg y (show parts ≠ 0 by omega)
  have e := eq_of_beq he
  omega
  run_tac squeeze

theorem sub4 {q a b c : Addr × Obj} {news : List (Addr × Obj)} : ∀ p ∈ q :: news, p ∈ q :: a :: b :: c :: news := by
  run_tac mark
  intro p hp
  rcases List.mem_cons.mp hp with rfl | hp
  · exact .head _
  · exact .tail _ (.tail _ (.tail _ (.tail _ hp)))
  run_tac squeeze

theorem ints_at {us : List Value} {js : List Int} {parts top : Int} {crs : List (Int × Bool)} (h : IntsAre us js) (e : js = List.filter (joins parts top crs) (rangeKs 0 (parts - 0).toNat)) : IntsAre us (List.filter (joins parts top crs) (rangeKs 0 parts.toNat)) := by
  run_tac mark
  rw [Int.sub_zero] at e; exact e ▸ h
  run_tac squeeze

theorem four_ok {parts light share y1 y2 y3 y4 : Int} (hT : ∀ e, -100000000 ≤ e → e ≤ 100000000 → Told e parts light share)
    (hB : (-100000000 ≤ y1 ∧ y1 ≤ 100000000) ∧ (-100000000 ≤ y2 ∧ y2 ≤ 100000000) ∧ (-100000000 ≤ y3 ∧ y3 ≤ 100000000) ∧ (-100000000 ≤ y4 ∧ y4 ≤ 100000000)) :
    ∀ e ∈ [y1, y2, y3, y4], (-100000000 ≤ e ∧ e ≤ 100000000) ∧ Told e parts light share := by
  run_tac mark
  obtain ⟨h1, h2, h3, h4⟩ := hB
  intro e he
  simp only [List.mem_cons, List.not_mem_nil, or_false] at he
  rcases he with rfl | rfl | rfl | rfl
  · exact ⟨h1, hT _ h1.1 h1.2⟩
  · exact ⟨h2, hT _ h2.1 h2.2⟩
  · exact ⟨h3, hT _ h3.1 h3.2⟩
  · exact ⟨h4, hT _ h4.1 h4.2⟩
  run_tac squeeze

set_option maxHeartbeats 3000000 in
theorem join_con (w : World) (parts top light share : Int) (t1 t2 t3 t4 : Tok) (l : Addr) (n' : Nat) (vsC : List Value) (crs : List (Int × Bool)) (hp : 2 ≤ parts ∧ parts ≤ 7) (ht : 0 ≤ top ∧ top < parts) (hl : 1 ≤ light ∧ light ≤ 7) (hs : 1 ≤ share ∧ share ≤ 8)
   (hB : ∀ h, 0 ≤ h → h < parts → (-100000000 ≤ (endsF (top, top, h, h) crs).1 ∧ (endsF (top, top, h, h) crs).1 ≤ 100000000) ∧ (-100000000 ≤ (endsF (top, top, h, h) crs).2.1 ∧ (endsF (top, top, h, h) crs).2.1 ≤ 100000000) ∧ (-100000000 ≤ (endsF (top, top, h, h) crs).2.2.1 ∧ (endsF (top, top, h, h) crs).2.2.1 ≤ 100000000) ∧ (-100000000 ≤ (endsF (top, top, h, h) crs).2.2.2 ∧ (endsF (top, top, h, h) crs).2.2.2 ≤ 100000000))
   (hT : ∀ e, -100000000 ≤ e → e ≤ 100000000 → Told e parts light share) :
   JoinR w [.int parts t1, .int top t2, .int light t3, .int share t4, .ref l] 5 (fun news => (l, listOf vsC.toArray n') ∈ news ∧ Cross news vsC crs) ((rangeKs 0 parts.toNat).filter (joins parts top crs)) := by
  run_tac mark
  k_with_none
  k_with "m:ktr_rel" => ((case k1 => k_asm); (case k2 => k_asm); (case k3 => k_asm); (case k4 => k_asm); (case k5 => k_asm); (case kK => first | exact rfl | assumption); (case kd => ktr_room); (case ku => ktr_units))
  k_with "m:kst_facts" => (first | (with_reducible exact PyProof.Rows.IntsAre.nil) | (with_reducible assumption) | exact PyProof.Rows.IntsAre.append (by with_reducible assumption) (.cons _ _ .nil) | fail "MYFACTS")
  k_with "m:InvEndN" => k_dflt kst_close
  k_with "m:kst_allIn" => first | exact List.forall_mem_nil _ | (with_reducible refine List.forall_mem_cons.mpr ⟨?_, ?_⟩; (focus k_memK); kst_allIn) | (intro p9 h9; kst_mem)
  k_with "m:call ref" => (k_here; k_extra "my call")
  intro mean mg mb dp un gd cn cs ad ccd cl outer A₀ base h₀ L m news s Q E hpre B F X N T hk hd hu hret
  obtain ⟨hl', hx⟩ := hpre
  have hid : Hid (2 ≤ parts ∧ parts ≤ 7) := hp
  replace hp : 0 ≤ parts ∧ parts ≤ 1000 := by omega
  run_tac fillFrag `Mine.KF
  k_with "my call" => (refine' useIn (ends_at w _ l top top kN kN t2 t2 kT kT 0 n' vsC crs) ?kp ?k1 ?k2 ?k3 ?k4 ?k5 ?kK ?kd ?ku ?_; (case k4 => k_asm); (case kp => exact ⟨.head _, .tail _ (.tail _ (.tail _ (.tail _ (.tail _ (List.mem_append.mpr (.inl hl')))))), Cross.mono (fun p hp => .tail _ (.tail _ (.tail _ (.tail _ (.tail _ (List.mem_append.mpr (.inl hp))))))) hx⟩); (case k1 => k_asm); (case k2 => k_asm); (case k3 => k_asm); (case k5 => k_asm); (case kK => first | exact rfl | assumption); (case kd => ktr_room); (case ku => ktr_units); intro D9 o9 h9 tk9 O9 F9 N9 l9; obtain ⟨u9, v9, w9, x9, n9, e9⟩ := O9; subst e9; (have h4 := four_ok hT (hB kN (by omega) (by omega))); (try k_lt l9); (try dsimp only); (try k_fold))
  k_with "my call" => (refine' use1 (shown_con w _ parts light share _ _ _ _ hid ?b1 hl hs ?b2) ?k1 ?k2 ?k3 ?k4 ?k5 ?kK ?kd ?ku ?_; (case b1 => exact (h4 _ (by with_reducible assumption)).1); (case b2 => exact (h4 _ (by with_reducible assumption)).2); (case k1 => k_asm); (case k2 => k_asm); (case k3 => k_asm); (case k4 => k_asm); (case k5 => k_asm); (case kK => first | exact rfl | assumption); (case kd => ktr_room); (case ku => ktr_units); intro t9 h9 tk9 F9 N9; (try dsimp only); (try k_fold))
  k_with "state" => first
    | exact ⟨Nat.le_refl _, rfl⟩
    | exact join_no1 (by with_reducible constructor <;> assumption) (by with_reducible assumption)
    | exact join_no2 (by with_reducible constructor <;> assumption) (by with_reducible assumption)
    | exact join_yes (by with_reducible constructor <;> assumption) (by with_reducible assumption) (by with_reducible assumption)
  k_with "pyIter ref" => k_state (fun pre joining => joining.length ≤ pre.length ∧ joining = pre.filter (joins parts top crs)) "joining"
  refine wpAny_call ?_
  k_dflt (refine' code_defC ?k1 ?k2 ?k3 ?k4 ?k5 ?kA ?kF ?kK ?k6 ?k7 ?k8 ?k9 ?kB ?kD ?_ ?c2 ?c3 ?c4; (case kA => exact rfl); (case kF => exact rfl); (case kK => assumption); (case k1 => k_asm); (case k2 => k_asm); (case k3 => k_asm); (case k4 => k_asm); (case k5 => k_asm); (case k6 => k_is); (case k7 => k_is); (case k8 => ktr_room); (case k9 => exact BindsTo.of_eq rfl); (case kB => exact rfl); (case kD => decide +kernel); (case c2 => exact rfl); (case c3 => exact rfl); (case c4 => exact rfl); k_whole; intro g' L' h' tk' cells' FG' F' N' Y' B' X' T' l1; (try k_lt l1); k_cells Y'; (try simp only [List.cons_append, List.nil_append] at N'); (try dsimp only); (try k_lift B'); (try k_fold))
  k_steps
  · exact (never hid (by with_reducible assumption)).elim
  · obtain ⟨_, _, _, hA⟩ := ‹_ < _ ∧ _ < _ ∧ _ < _ ∧ AllLt _ news›
    exact hret _ _ _ _ _ (ints_at (by with_reducible assumption) (by with_reducible assumption)) (by k_asm) (cb_drop (by assumption) sub4) (kst_ltOf hA)
  run_tac squeeze

end
theorem quietC16 : True := by
  run_tac quiet
  trivial
-- T1
section
open PySem PySem.W PySem.Spec PySem.Calls PyProof.Rows
noncomputable abbrev tailL : List Int := [1100, 172, 2042, 18, 284, 2917]
theorem tail_slice {prog : Program} {w : World} {A : Around} {E : Value → Shared → Prop} {s : Shared} {h₀ : Heap} {L l : Addr} {m : Str → Option Value} {news : List (Addr × Obj)} {a1 a2 a3 a4 a5 a6 : Tok} {n : Nat} {k : Int} {u : Tok} {value slice : PySem.Expr} {Q : Value → Shared → Prop} (F : Fr h₀ L s.heap m) (N : News h₀ L s.heap news)
    (hl : (l, listOf #[.int 1100 a1, .int 172 a2, .int 2042 a3, .int 18 a4, .int 284 a5, .int 2917 a6] n) ∈ news) (hk : 0 ≤ k)
    (h : ∀ D ws h', Fr h₀ L h' m → News h₀ L h' ((D, listOf (List.toArray ws) 0) :: news) → (∀ p ∈ news, p.1 < D) → IntsAre ws (tailL.drop k.toNat) → Q (.ref D) { s with heap := h' })
    (hs : subscripted slice false (.ref l) (.ref s.heap.objs.size) = operate [.ref s.heap.objs.size, .ref l] (getItem (.ref l) (.ref s.heap.objs.size))) (ht : ∀ r, letTemporaryGo value (.ref l) r = pure ()) :
    wpAny (model prog w) A (subscriptTail value slice (.ref l) (.ref s.heap.objs.size)) Q E { s with heap := s.heap.push { cls := .type "slice", data := .fields #[.int k u, .none, .none] } } :=
  have hi : IntsAre [.int 1100 a1, .int 172 a2, .int 2042 a3, .int 18 a4, .int 284 a5, .int 2917 a6] tailL := .cons _ _ (.cons _ _ (.cons _ _ (.cons _ _ (.cons _ _ (.cons _ _ .nil)))))
  kmk_slice_ints F N (News.isList N hl) (.int _ _) .none hi (slice_ints_fromW hi hk) rfl (fun D ws h' F' N' l I _ _ => h D ws h' F' N' l I) hs ht (by show 6 ≤ sizeLine; decide)

theorem len_succ {ns : List Int} {n : Nat} (h : ns.length = n + 1) : ∃ a r, ns = a :: r ∧ r.length = n := by
  run_tac mark
  cases ns with
  | nil => cases h
  | cons a r => exact ⟨a, r, rfl, Nat.succ.inj h⟩
  run_tac squeeze

theorem ints_cons {ws : List Value} {ns : List Int} {a : Int} (h : IntsAre ws (a :: ns)) : ∃ t r, ws = .int a t :: r ∧ IntsAre r ns := by
  run_tac mark
  cases h with
  | cons _ _ h => exact ⟨_, _, rfl, h⟩
  run_tac squeeze

theorem ints_nil {ws : List Value} (h : IntsAre ws []) : ws = [] := by
  run_tac mark
  cases h; rfl
  run_tac squeeze

theorem six_of {ws : List Value} {ns : List Int} (h : IntsAre ws ns) (hl : ns.length = 6) : ∃ a0 a1 a2 a3 a4 a5 t0 t1 t2 t3 t4 t5, ws = [.int a0 t0, .int a1 t1, .int a2 t2, .int a3 t3, .int a4 t4, .int a5 t5] ∧ ns = [a0, a1, a2, a3, a4, a5] := by
  run_tac mark
  obtain ⟨a0, r0, rfl, h0⟩ := len_succ hl
  obtain ⟨a1, r1, rfl, h1⟩ := len_succ h0
  obtain ⟨a2, r2, rfl, h2⟩ := len_succ h1
  obtain ⟨a3, r3, rfl, h3⟩ := len_succ h2
  obtain ⟨a4, r4, rfl, h4⟩ := len_succ h3
  obtain ⟨a5, r5, rfl, h5⟩ := len_succ h4
  obtain rfl := List.eq_nil_of_length_eq_zero h5
  obtain ⟨t0, w0, rfl, i0⟩ := ints_cons h
  obtain ⟨t1, w1, rfl, i1⟩ := ints_cons i0
  obtain ⟨t2, w2, rfl, i2⟩ := ints_cons i1
  obtain ⟨t3, w3, rfl, i3⟩ := ints_cons i2
  obtain ⟨t4, w4, rfl, i4⟩ := ints_cons i3
  obtain ⟨t5, w5, rfl, i5⟩ := ints_cons i4
  obtain rfl := ints_nil i5
  exact ⟨a0, a1, a2, a3, a4, a5, t0, t1, t2, t3, t4, t5, rfl, rfl⟩
  run_tac squeeze

theorem told_six (ns : List Int) : (((ns.take 6).map (fun k => k.fmod 1000000)) ++ tailL.drop ((ns.take 6).map (fun k => k.fmod 1000000)).length).length = 6 ∧ ∀ a ∈ (((ns.take 6).map (fun k => k.fmod 1000000)) ++ tailL.drop ((ns.take 6).map (fun k => k.fmod 1000000)).length), 0 ≤ a ∧ a < 1000000 := by
  run_tac mark
  constructor
  · rw [List.length_append, List.length_drop, List.length_map, List.length_take]
    show min 6 ns.length + (6 - min 6 ns.length) = 6
    omega
  · intro a ha
    rcases List.mem_append.mp ha with h | h
    · obtain ⟨x, _, rfl⟩ := List.mem_map.mp h
      rw [Int.fmod_eq_emod_of_nonneg _ (by decide)]
      exact ⟨Int.emod_nonneg _ (by decide), Int.emod_lt_of_pos _ (by decide)⟩
    · have := List.mem_of_mem_drop h
      revert this
      have : ∀ a ∈ tailL, 0 ≤ a ∧ a < 1000000 := by decide
      exact this a
  run_tac squeeze

theorem told_add {prog : Program} {w : World} {A : Around} {E : Value → Shared → Prop} {s : Shared} {h₀ : Heap} {L l b : Addr} {m : Str → Option Value} {news : List (Addr × Obj)} {ys zs : List Value} {n1 n2 : Nat} {o1 : Obj} {ns : List Int} {Q : Value → Shared → Prop} (F : Fr h₀ L s.heap m) (N : News h₀ L s.heap news)
    (h1 : (l, o1) ∈ news) (ho : o1 = listOf ys.toArray n1) (h2 : (b, listOf zs.toArray n2) ∈ news) (I1 : IntsAre ys ((ns.take 6).map (fun k => k.fmod 1000000))) (I2 : IntsAre zs (tailL.drop (((((ns.take 6).map (fun k => k.fmod 1000000)).length : Nat) : Int)).toNat))
    (h : ∀ D h' a0 a1 a2 a3 a4 a5 t0 t1 t2 t3 t4 t5, (0 ≤ a0 ∧ a0 < 1000000) → (0 ≤ a1 ∧ a1 < 1000000) → (0 ≤ a2 ∧ a2 < 1000000) → (0 ≤ a3 ∧ a3 < 1000000) → (0 ≤ a4 ∧ a4 < 1000000) → (0 ≤ a5 ∧ a5 < 1000000) → Fr h₀ L h' m → News h₀ L h' ((D, listOf #[.int a0 t0, .int a1 t1, .int a2 t2, .int a3 t3, .int a4 t4, .int a5 t5] 0) :: news) → (∀ p ∈ news, p.1 < D) → Q (.ref D) { s with heap := h' }) :
    wpAny (model prog w) A (binaryOp .Add (.ref l) (.ref b)) Q E s := by
  run_tac mark
  subst ho
  have e : (((((ns.take 6).map (fun k => k.fmod 1000000)).length : Nat) : Int)).toNat = ((ns.take 6).map (fun k => k.fmod 1000000)).length := rfl
  rw [e] at I2
  obtain ⟨len, bd⟩ := told_six ns
  refine add_arrays_ints F N (News.isList N h1) (News.isList N h2) I1 I2 (fun h' F' N' I => ?_) ?_
  · obtain ⟨a0, a1, a2, a3, a4, a5, t0, t1, t2, t3, t4, t5, e1, e2⟩ := six_of I len
    rw [e2] at bd
    have N2 := N'
    simp only [] at e1 N2
    rw [e1] at N2
    exact h _ h' a0 a1 a2 a3 a4 a5 t0 t1 t2 t3 t4 t5 (bd _ (by simp)) (bd _ (by simp)) (bd _ (by simp)) (bd _ (by simp)) (bd _ (by simp)) (bd _ (by simp)) F' N2 (fun p hp => Heap.lt_size (N p hp).1)
  · rw [List.length_append] at len
    exact Nat.le_trans (Nat.le_of_eq len) (by decide)
  run_tac squeeze

end
theorem quietT1 : True := by
  run_tac quiet
  trivial
-- P1
section
open PySem PySem.W PySem.Spec PySem.Calls PyProof.Rows

noncomputable def letterC (k : Nat) (c : Int) : Nat := if k % 2 = 0 then 98 else 97 + 2 * ((c.fdiv 7).fmod 2).toNat
noncomputable def arrowC (k : Nat) (c : Int) : Nat := if (decide (0 < c.fmod 7 - 3) == (k % 2 == 0)) = true then 60 else 62
/-- a run's signs as the tables prepare them -/
noncomputable def runC (k : Nat) (c : Int) : List Nat := letterC k c :: List.replicate (c.fmod 7 - 3).natAbs (arrowC k c)
noncomputable def oneS (c : Nat) : Str := ⟨#[c]⟩
theorem codes_append (x y : Str) : KStt.codes (x ++ y) = KStt.codes x ++ KStt.codes y := by
  run_tac mark
  show ((x.cps ++ y.cps).toList.map _) = _
  rw [Array.toList_append, List.map_append]; rfl
  run_tac squeeze

theorem codes_one (c : Nat) : KStt.codes ⟨#[c]⟩ = [(c : Int)] := rfl

theorem meant_plain : ∀ c ∈ [60, 62, 65, 66, 67, 97, 98, 99], meantS ((c : Nat) : Int) = oneS (if 65 ≤ c ∧ c ≤ 67 then c + 32 else c) := by
  run_tac mark
  intro c hc
  have h1 := List.all_eq_true.mp b3_plain c hc
  have h2 := eq_of_beq (List.all_eq_true.mp b3_plain2 c hc)
  have h3 : ((c : Nat) : Int) ∉ c9L := by
    intro h
    have := c9_range _ h
    simp only [List.mem_cons, List.not_mem_nil, or_false] at hc
    omega
  unfold meantS
  rw [if_neg h3]
  show (strAt (b3F (Int.toNat (c : Int)))).getD (Txt.lower ⟨#[Int.toNat (c : Int)]⟩) = _
  rw [Int.toNat_natCast]
  have e : b3F c = none := by cases h : b3F c <;> simp [h] at h1 ⊢
  rw [e, h2]
  rfl
  run_tac squeeze

theorem meant_math : ∀ c ∈ b3Chars, ∀ i ∈ List.range 3, meantS ((c + i : Nat) : Int) = oneS (97 + i) := by
  run_tac mark
  intro c hc i hi
  have h1 := eq_of_beq (List.all_eq_true.mp (List.all_eq_true.mp b3_math c hc) i hi)
  have h3 : ((c + i : Nat) : Int) ∉ c9L := by
    intro h
    have := c9_range _ h
    simp only [b3Chars, List.mem_cons, List.not_mem_nil, or_false] at hc
    have := List.mem_range.mp hi
    omega
  unfold meantS
  rw [if_neg h3]
  show (strAt (b3F (Int.toNat ((c + i : Nat) : Int)))).getD _ = _
  rw [Int.toNat_natCast, h1]
  rfl
  run_tac squeeze

theorem meant_tag : ∀ i ∈ List.range 3, meantS ((917601 + i : Nat) : Int) = oneS (97 + i) := by
  run_tac mark
  intro i hi
  have := List.mem_range.mp hi
  have h3 : ((917601 + i : Nat) : Int) ∈ c9L := by
    have : i = 0 ∨ i = 1 ∨ i = 2 := by omega
    rcases this with rfl | rfl | rfl <;> decide
  unfold meantS
  rw [if_pos h3]
  have e : (((917601 + i : Nat) : Int) - 917504).toNat = 97 + i := by omega
  rw [e]
  rfl
  run_tac squeeze

theorem face_meant : ∀ j ∈ List.range 13, ∀ i ∈ List.range 3, meantS (faceL.getD j 0 + (i : Int)) = oneS (97 + i) := by
  run_tac mark
  intro j hj i hi
  have hj' := List.mem_range.mp hj
  have hi' := List.mem_range.mp hi
  have hj2 : j = 0 ∨ j = 1 ∨ j = 2 ∨ j = 3 ∨ j = 4 ∨ j = 5 ∨ j = 6 ∨ j = 7 ∨ j = 8 ∨ j = 9 ∨ j = 10 ∨ j = 11 ∨ j = 12 := by omega
  rcases hj2 with rfl | rfl | rfl | rfl | rfl | rfl | rfl | rfl | rfl | rfl | rfl | rfl | rfl
  · have : i = 0 ∨ i = 1 ∨ i = 2 := by omega
    rcases this with rfl | rfl | rfl
    · exact meant_plain 97 (by decide)
    · exact meant_plain 98 (by decide)
    · exact meant_plain 99 (by decide)
  · have : i = 0 ∨ i = 1 ∨ i = 2 := by omega
    rcases this with rfl | rfl | rfl
    · exact meant_plain 65 (by decide)
    · exact meant_plain 66 (by decide)
    · exact meant_plain 67 (by decide)
  · exact meant_math 119808 (by decide) i hi
  · exact meant_math 119860 (by decide) i hi
  · exact meant_math 119912 (by decide) i hi
  · exact meant_math 120016 (by decide) i hi
  · exact meant_math 120172 (by decide) i hi
  · exact meant_math 120224 (by decide) i hi
  · exact meant_math 120276 (by decide) i hi
  · exact meant_math 120328 (by decide) i hi
  · exact meant_math 120380 (by decide) i hi
  · exact meant_math 120432 (by decide) i hi
  · exact meant_tag i hi
  run_tac squeeze

theorem face_off : ∀ j ∈ List.range 13, ∀ i ∈ List.range 3, faceL.getD j 0 + (i : Int) ∉ b1L ∧ faceL.getD j 0 + (i : Int) ∉ c8L := by decide +kernel

theorem letters_stay : ∀ b : Bool, ∀ i ∈ List.range 3, swapS b (oneS (97 + i)) = oneS (97 + i) := by decide +kernel

theorem step_face (σ : Bool × List Str) {j i : Nat} (hj : j < 13) (hi : i < 3) : prepStep σ (faceL.getD j 0 + (i : Int)) = (σ.1, σ.2 ++ [oneS (97 + i)]) := by
  run_tac mark
  have h := face_off j (List.mem_range.mpr hj) i (List.mem_range.mpr hi)
  unfold prepStep
  rw [if_neg h.1, if_neg h.2, face_meant j (List.mem_range.mpr hj) i (List.mem_range.mpr hi), letters_stay σ.1 i (List.mem_range.mpr hi)]
  run_tac squeeze

theorem signs_c8 : ∀ j ∈ List.range 4, signL.getD j 0 ∉ b1L ∧ signL.getD j 0 ∈ c8L := by decide +kernel

theorem step_sign (σ : Bool × List Str) {j : Nat} (hj : j < 4) : prepStep σ (signL.getD j 0) = (!σ.1, σ.2) := by
  run_tac mark
  have h := signs_c8 j (List.mem_range.mpr hj)
  unfold prepStep
  rw [if_neg h.1, if_pos h.2]
  run_tac squeeze

theorem arrow_off : ∀ a ∈ [60, 62], ((a : Nat) : Int) ∉ b1L ∧ ((a : Nat) : Int) ∉ c8L := by decide +kernel

theorem step_arrow (σ : Bool × List Str) {a : Nat} (ha : a ∈ [60, 62]) : prepStep σ (a : Int) = (σ.1, σ.2 ++ [swapS σ.1 (oneS a)]) := by
  run_tac mark
  have h := arrow_off a ha
  unfold prepStep
  rw [if_neg h.1, if_neg h.2, meant_plain a (by simp only [List.mem_cons, List.not_mem_nil, or_false] at ha ⊢; omega)]
  congr 4
  simp only [List.mem_cons, List.not_mem_nil, or_false] at ha
  rw [if_neg (by omega)]
  run_tac squeeze

theorem fold_arrows {a : Nat} (ha : a ∈ [60, 62]) (b : Bool) : ∀ (l : List Int) (ss : List Str), (∀ c ∈ l, c ∈ b1L ∨ c = (a : Int)) → l.foldl prepStep (b, ss) = (b, ss ++ List.replicate (l.count (a : Int)) (swapS b (oneS a))) := by
  run_tac mark
  intro l
  induction l with
  | nil => intro ss _; simp
  | cons c r ih =>
    intro ss h
    rw [List.foldl_cons]
    rcases h c (.head _) with hb | he
    · have hne : c ≠ (a : Int) := fun e => (arrow_off a ha).1 (e ▸ hb)
      have e : prepStep (b, ss) c = (b, ss) := by unfold prepStep; rw [if_pos hb]
      rw [e, ih ss (fun c hc => h c (.tail _ hc)), List.count_cons_of_ne hne]
    · subst he
      rw [step_arrow _ ha, ih _ (fun c hc => h c (.tail _ hc)), List.count_cons_self, List.replicate_succ]
      simp
  run_tac squeeze

noncomputable abbrev seps (q : Int) : Str := pick3 q (Str.ofString "") (Str.ofString "\u00ad") (Str.ofString "\u200b")
theorem arrows_are : ∀ a ∈ [60, 62], ∀ n ∈ List.range 4, ∀ q ∈ [0, 1, 2], ((KStt.codes (Txt.join (seps q) (List.replicate n (oneS a)))).all fun c => decide (c ∈ b1L) || decide (c = (a : Int))) = true ∧ (KStt.codes (Txt.join (seps q) (List.replicate n (oneS a)))).count (a : Int) = n := by decide +kernel

theorem fold_join {a n : Nat} {q : Int} (ha : a ∈ [60, 62]) (hn : n ≤ 3) (hq : 0 ≤ q ∧ q < 3) (b : Bool) (ss : List Str) :
    (KStt.codes (Txt.join (seps q) (List.replicate n (oneS a)))).foldl prepStep (b, ss) = (b, ss ++ List.replicate n (swapS b (oneS a))) := by
  run_tac mark
  have hq' : q ∈ ([0, 1, 2] : List Int) := by simp only [List.mem_cons, List.not_mem_nil, or_false]; omega
  obtain ⟨h1, h2⟩ := arrows_are a ha n (List.mem_range.mpr (by omega)) q hq'
  rw [fold_arrows ha b _ ss (fun c hc => by
    have := List.all_eq_true.mp h1 c hc
    simpa using this), h2]
  run_tac squeeze

theorem swap_arrow : ∀ b : Bool, ∀ p : Bool, swapS b (oneS (if (p != b) = true then 60 else 62)) = oneS (if p = true then 60 else 62) := by decide +kernel

theorem prep_append (x y : Str) : prep (KStt.codes (x ++ y)) = (KStt.codes y).foldl prepStep (prep (KStt.codes x)) := by
  run_tac mark
  rw [codes_append]; unfold prep; rw [List.foldl_append]
  run_tac squeeze

theorem weave3_run (c : Int) (k : Nat) (b : Bool) (x : Str) (ss : List Str) (h : prep (KStt.codes x) = (b, ss)) :
    prep (KStt.codes (weave3 c k b x).2) = ((weave3 c k b x).1, ss ++ List.replicate (c.fmod 7 - 3).natAbs (oneS (arrowC k c))) := by
  run_tac mark
  have hb := fmod_bd c (m := 7) (by decide)
  have hq := fmod_bd (c.fdiv 1456) (m := 3) (by decide)
  have ek : ((k : Int).fmod 2 == 0) = (k % 2 == 0) := by
    rw [Int.fmod_eq_emod_of_nonneg _ (by decide), Bool.eq_iff_iff]; simp only [beq_iff_eq]; omega
  have sw := swap_arrow b (decide (0 < c.fmod 7 - 3) == (k % 2 == 0))
  unfold weave3
  rw [ek]
  split
  · rename_i hc
    rw [if_pos hc] at sw
    show prep (KStt.codes (x ++ _)) = (b, _)
    rw [prep_append, h]
    refine (fold_join (a := 60) (by decide) (by omega) hq b ss).trans ?_
    rw [sw]; rfl
  · rename_i hc
    rw [if_neg hc] at sw
    show prep (KStt.codes (x ++ _)) = (b, _)
    rw [prep_append, h]
    refine (fold_join (a := 62) (by decide) (by omega) hq b ss).trans ?_
    rw [sw]; rfl
  run_tac squeeze

theorem weave2_run (c : Int) (k : Nat) (b : Bool) (x : Str) (ss : List Str) (h : prep (KStt.codes x) = (b, ss)) :
    prep (KStt.codes (weave2 c k b x).2) = ((weave2 c k b x).1, ss ++ List.replicate (c.fmod 7 - 3).natAbs (oneS (arrowC k c))) := by
  run_tac mark
  have hq := fmod_bd (c.fdiv 364) (m := 4) (by decide)
  unfold weave2
  split
  · refine weave3_run c k (!b) _ ss ?_
    rw [prep_append, h, codes_one]
    have hj : ((c.fdiv 364).fmod 4).toNat < 4 := by omega
    have e := face3 ((c.fdiv 364).fmod 4).toNat
    rw [Int.toNat_of_nonneg e.1]
    exact step_sign (b, ss) hj
  · exact weave3_run c k b x ss h
  run_tac squeeze

theorem weaveC_run (c : Int) (k : Nat) (b : Bool) (x : Str) (ss : List Str) (h : prep (KStt.codes x) = (b, ss)) :
    prep (KStt.codes (weaveC c k b x).2) = ((weaveC c k b x).1, ss ++ (runC k c).map oneS) := by
  run_tac mark
  have hq := fmod_bd (c.fdiv 14) (m := 13) (by decide)
  have hr := fmod_bd (c.fdiv 7) (m := 2) (by decide)
  have hj : ((c.fdiv 14).fmod 13).toNat < 13 := by omega
  have pos : ∀ j ∈ List.range 13, ∀ i ∈ List.range 3, 0 ≤ faceL.getD j 0 + (i : Int) := by decide
  have fin : ∀ (y : Str) (l : Nat), prep (KStt.codes y) = (b, ss ++ [oneS l]) → l = letterC k c → prep (KStt.codes (weave2 c k b y).2) = ((weave2 c k b y).1, ss ++ (runC k c).map oneS) := by
    intro y l hy hl
    rw [weave2_run c k b y _ hy, hl]
    unfold runC
    rw [List.map_cons, List.map_replicate, List.append_assoc]
    rfl
  unfold weaveC
  split
  · rename_i hk
    have hk2 : k % 2 = 0 := by rw [Int.fmod_eq_emod_of_nonneg _ (by decide)] at hk; omega
    refine fin _ 98 ?_ (by unfold letterC; rw [if_pos hk2])
    rw [prep_append, h, codes_one]
    have e : 0 ≤ faceL.getD ((c.fdiv 14).fmod 13).toNat 0 + 1 := pos _ (List.mem_range.mpr hj) 1 (by decide)
    have st : prepStep (b, ss) (faceL.getD ((c.fdiv 14).fmod 13).toNat 0 + 1) = _ := step_face (b, ss) hj (i := 1) (by decide)
    rw [Int.toNat_of_nonneg e]
    exact st
  · rename_i hk
    have hk2 : ¬ k % 2 = 0 := by rw [Int.fmod_eq_emod_of_nonneg _ (by decide)] at hk; omega
    refine fin _ (97 + 2 * ((c.fdiv 7).fmod 2).toNat) ?_ (by unfold letterC; rw [if_neg hk2])
    rw [prep_append, h, codes_one]
    have hi : 2 * ((c.fdiv 7).fmod 2).toNat < 3 := by omega
    have e := pos _ (List.mem_range.mpr hj) (2 * ((c.fdiv 7).fmod 2).toNat) (List.mem_range.mpr hi)
    have st := step_face (b, ss) hj hi
    have e2 : ((2 * ((c.fdiv 7).fmod 2).toNat : Nat) : Int) = 2 * (c.fdiv 7).fmod 2 := by omega
    rw [e2] at st e
    rw [Int.toNat_of_nonneg e]
    exact st
  run_tac squeeze

/-- the signs of five runs -/
noncomputable def plainC (a1 a2 a3 a4 a5 : Int) : List Nat := runC 0 a1 ++ runC 1 a2 ++ runC 2 a3 ++ runC 3 a4 ++ runC 4 a5
theorem join_oneS : ∀ l : List Nat, Txt.join (Str.ofString "") (l.map oneS) = ⟨l.toArray⟩ := by
  run_tac mark
  intro l
  show Builtin.Str.glued (Str.ofString "") (l.map oneS) = _
  rw [StrLaws.glued_eq_join]
  induction l with
  | nil => rfl
  | cons c r ih =>
    cases r with
    | nil => rfl
    | cons d r =>
      show oneS c ++ Str.ofString "" ++ Str.join (Str.ofString "") ((d :: r).map oneS) = _
      rw [ih]
      show (⟨(#[c] ++ (Str.ofString "").cps) ++ (d :: r).toArray⟩ : Str) = _
      have e : (Str.ofString "").cps = #[] := rfl
      rw [e]
      simp
  run_tac squeeze

theorem plain_eq (a1 a2 a3 a4 a5 : Int) : prepText (weave [a1, a2, a3, a4, a5] (rangeKs 0 5)).2 = ⟨(plainC a1 a2 a3 a4 a5).toArray⟩ := by
  run_tac mark
  unfold prepText
  rw [← join_oneS]
  congr 1
  have e : weave [a1, a2, a3, a4, a5] (rangeKs 0 5) = [0, 1, 2, 3, 4].foldl (fun σ (k : Nat) => weaveC ([a1, a2, a3, a4, a5].getD k 0) (k : Int) σ.1 σ.2) (false, Str.ofString "") := rfl
  have go : ∀ (ns : List Int) (ks : List Nat) (σ : Bool × Str) (ss : List Str), prep (KStt.codes σ.2) = (σ.1, ss) →
      prep (KStt.codes (ks.foldl (fun σ (k : Nat) => weaveC (ns.getD k 0) (k : Int) σ.1 σ.2) σ).2) = ((ks.foldl (fun σ (k : Nat) => weaveC (ns.getD k 0) (k : Int) σ.1 σ.2) σ).1, ss ++ (ks.flatMap fun k => runC k (ns.getD k 0)).map oneS) := by
    intro ns ks
    induction ks with
    | nil => intro σ ss h; simpa using h
    | cons k r ih =>
      intro σ ss h
      rw [List.foldl_cons, ih _ _ (weaveC_run _ k σ.1 σ.2 ss h), List.flatMap_cons, List.map_append, List.append_assoc]
  rw [e, go [a1, a2, a3, a4, a5] [0, 1, 2, 3, 4] (false, Str.ofString "") [] rfl]
  simp [plainC]
  run_tac squeeze

theorem runC_mem (k : Nat) (c : Int) : ∀ x ∈ runC k c, x = 60 ∨ x = 62 ∨ x = 97 ∨ x = 98 ∨ x = 99 := by
  run_tac mark
  intro x hx
  have hr := fmod_bd (c.fdiv 7) (m := 2) (by decide)
  rcases List.mem_cons.mp hx with rfl | hx
  · unfold letterC; split <;> omega
  · rw [(List.mem_replicate.mp hx).2]; unfold arrowC; split <;> omega
  run_tac squeeze

theorem runC_len (k : Nat) (c : Int) : (runC k c).length ≤ 4 := by
  run_tac mark
  have hb := fmod_bd c (m := 7) (by decide)
  unfold runC
  rw [List.length_cons, List.length_replicate]; omega
  run_tac squeeze

theorem plainC_mem {a1 a2 a3 a4 a5 : Int} : ∀ x ∈ plainC a1 a2 a3 a4 a5, x = 60 ∨ x = 62 ∨ x = 97 ∨ x = 98 ∨ x = 99 := by
  run_tac mark
  intro x hx
  unfold plainC at hx
  simp only [List.mem_append] at hx
  rcases hx with (((h | h) | h) | h) | h <;> exact runC_mem _ _ x h
  run_tac squeeze

theorem plainC_len {a1 a2 a3 a4 a5 : Int} : (plainC a1 a2 a3 a4 a5).length ≤ 20 := by
  run_tac mark
  have h1 := runC_len 0 a1; have h2 := runC_len 1 a2; have h3 := runC_len 2 a3; have h4 := runC_len 3 a4; have h5 := runC_len 4 a5
  unfold plainC
  simp only [List.length_append]
  omega
  run_tac squeeze

theorem weave_len (ns : List Int) : ∀ (ks : List Int) (σ : Bool × Str), (ks.foldl (fun σ k => weaveC (ns.getD k.toNat 0) k σ.1 σ.2) σ).2.length ≤ σ.2.length + 8 * ks.length := by
  run_tac mark
  intro ks
  induction ks with
  | nil => intro σ; exact Nat.le_refl _
  | cons k r ih =>
    intro σ
    rw [List.foldl_cons]
    have h1 := ih (weaveC (ns.getD k.toNat 0) k σ.1 σ.2)
    have h2 := weaveC_len (ns.getD k.toNat 0) k σ.1 σ.2
    rw [List.length_cons]
    omega
  run_tac squeeze

theorem weave_short (ns : List Int) : (weave ns (rangeKs 0 5)).2.length ≤ 1000 := by
  run_tac mark
  have h := weave_len ns (rangeKs 0 5) (false, Str.ofString "")
  have e : (rangeKs 0 5).length = 5 := rfl
  have e2 : (false, Str.ofString "").2.length = 0 := rfl
  rw [e, e2] at h
  exact Nat.le_trans h (by decide)
  run_tac squeeze

end
theorem quietP1 : True := by
  run_tac quiet
  trivial
-- P2
section
open PySem PySem.W PySem.Spec PySem.Calls PyProof.Rows

noncomputable def isLetter (c : Nat) : Prop := c = 97 ∨ c = 98 ∨ c = 99
theorem lexP_letter {c : Nat} (hc : isLetter c) (r : List Nat) (sp : Int) : lexF (c :: r) sp = lexF r ((c : Int) - 97) := by
  run_tac mark
  have h1 : c ≠ 60 := by unfold isLetter at hc; omega
  have h2 : c ≠ 62 := by unfold isLetter at hc; omega
  cases r with
  | nil => simp [lexF, h1, h2]
  | cons d r => simp [lexF, h1, h2]
  run_tac squeeze

/-- a text that begins with a letter, or none -/
noncomputable def Starts : List Nat → Prop
  | [] => True
  | c :: _ => isLetter c
theorem lexP_arrows {a : Nat} (ha : a = 60 ∨ a = 62) {R : List Nat} (hR : Starts R) (sp : Int) : ∀ n ≤ 3, lexF (List.replicate n a ++ R) sp = List.replicate n (sp, a == 60) ++ lexF R sp := by
  run_tac mark
  intro n hn
  have hn' : n = 0 ∨ n = 1 ∨ n = 2 ∨ n = 3 := by omega
  cases R with
  | nil => rcases ha with rfl | rfl <;> rcases hn' with rfl | rfl | rfl | rfl <;> simp [lexF, List.replicate]
  | cons c r =>
    have h1 : c ≠ 60 := by simp only [Starts, isLetter] at hR; omega
    have h2 : c ≠ 62 := by simp only [Starts, isLetter] at hR; omega
    rcases ha with rfl | rfl <;> rcases hn' with rfl | rfl | rfl | rfl <;> simp [lexF, List.replicate, h1, h2]
  run_tac squeeze

noncomputable def spotC (k : Nat) (c : Int) : Int := (letterC k c : Int) - 97
noncomputable def flagC (k : Nat) (c : Int) : Bool := decide (0 < c.fmod 7 - 3) == (k % 2 == 0)
noncomputable def crossC (k : Nat) (c : Int) : List (Int × Bool) := List.replicate (c.fmod 7 - 3).natAbs (spotC k c, flagC k c)
theorem letter_is (k : Nat) (c : Int) : isLetter (letterC k c) := by
  run_tac mark
  have hr := fmod_bd (c.fdiv 7) (m := 2) (by decide)
  unfold letterC isLetter; split <;> omega
  run_tac squeeze

theorem lexP_run (k : Nat) (c : Int) {R : List Nat} (hR : Starts R) (sp : Int) : lexF (runC k c ++ R) sp = crossC k c ++ lexF R (spotC k c) := by
  run_tac mark
  have hb := fmod_bd c (m := 7) (by decide)
  unfold runC
  rw [List.cons_append, lexP_letter (letter_is k c)]
  rw [lexP_arrows (by unfold arrowC; split <;> simp) hR _ _ (by omega)]
  unfold crossC
  have e : (arrowC k c == 60) = flagC k c := by
    unfold arrowC flagC
    split <;> rename_i h
    · rw [h]; rfl
    · rw [Bool.eq_false_iff.mpr h]; rfl
  rw [e]; rfl
  run_tac squeeze

theorem starts_run (k : Nat) (c : Int) (R : List Nat) : Starts (runC k c ++ R) := letter_is k c

/-- the crossings of the law's five runs -/
noncomputable def crossAll (a1 a2 a3 a4 a5 : Int) : List (Int × Bool) := crossC 0 a1 ++ (crossC 1 a2 ++ (crossC 2 a3 ++ (crossC 3 a4 ++ crossC 4 a5)))
theorem lexP_all (a1 a2 a3 a4 a5 : Int) : lexF (plainC a1 a2 a3 a4 a5) 0 = crossAll a1 a2 a3 a4 a5 := by
  run_tac mark
  unfold plainC crossAll
  simp only [List.append_assoc]
  have e := lexP_run 4 a5 (R := []) trivial (spotC 3 a4)
  rw [List.append_nil] at e
  have st : Starts (runC 4 a5) := letter_is 4 a5
  rw [lexP_run 0 a1 (starts_run _ _ _), lexP_run 1 a2 (starts_run _ _ _), lexP_run 2 a3 (starts_run _ _ _), lexP_run 3 a4 st, e]
  simp [lexF]
  run_tac squeeze

theorem crossC_len (k : Nat) (c : Int) : (crossC k c).length ≤ 3 := by
  run_tac mark
  have hb := fmod_bd c (m := 7) (by decide)
  unfold crossC; rw [List.length_replicate]; omega
  run_tac squeeze

theorem crossAll_len (a1 a2 a3 a4 a5 : Int) : (crossAll a1 a2 a3 a4 a5).length ≤ 15 := by
  run_tac mark
  have h1 := crossC_len 0 a1; have h2 := crossC_len 1 a2; have h3 := crossC_len 2 a3; have h4 := crossC_len 3 a4; have h5 := crossC_len 4 a5
  unfold crossAll
  simp only [List.length_append]
  omega
  run_tac squeeze

/-- all four within a bound -/
noncomputable def Within (B : Int) (x : Int × Int × Int × Int) : Prop := (-B ≤ x.1 ∧ x.1 ≤ B) ∧ (-B ≤ x.2.1 ∧ x.2.1 ≤ B) ∧ (-B ≤ x.2.2.1 ∧ x.2.2.1 ≤ B) ∧ (-B ≤ x.2.2.2 ∧ x.2.2.2 ≤ B)
theorem within_step {B : Int} {x : Int × Int × Int × Int} (h : Within B x) (c : Int × Bool) : Within (3 * B) (endStep x c) := by
  run_tac mark
  unfold Within at h ⊢
  unfold endStep
  split
  · split <;> dsimp only <;> omega
  · split
    · split <;> dsimp only <;> omega
    · split <;> dsimp only <;> omega
  run_tac squeeze

theorem within_all : ∀ (cs : List (Int × Bool)) (B : Int) (x : Int × Int × Int × Int), Within B x → Within (3 ^ cs.length * B) (endsF x cs) := by
  run_tac mark
  intro cs
  induction cs with
  | nil => intro B x h; simpa [endsF] using h
  | cons c r ih =>
    intro B x h
    have := ih (3 * B) (endStep x c) (within_step h c)
    show Within _ (endsF (endStep x c) r)
    rw [List.length_cons, Int.pow_succ, Int.mul_assoc]
    exact this
  run_tac squeeze

theorem pow_le15 : ∀ n ∈ List.range 16, (3 : Int) ^ n * 6 ≤ 100000000 := by decide

theorem ends_within {top h : Int} {cs : List (Int × Bool)} (hn : cs.length ≤ 15) (ht : 0 ≤ top ∧ top ≤ 6) (hh : 0 ≤ h ∧ h ≤ 6) : Within 100000000 (endsF (top, top, h, h) cs) := by
  run_tac mark
  have h0 : Within 6 (top, top, h, h) := by unfold Within; dsimp only; omega
  have h1 := within_all cs 6 _ h0
  have h2 := pow_le15 cs.length (List.mem_range.mpr (by omega))
  unfold Within at h1 ⊢
  omega
  run_tac squeeze

/-! the differences -/
theorem endsF_append (x : Int × Int × Int × Int) (a b : List (Int × Bool)) : endsF x (a ++ b) = endsF (endsF x a) b := by unfold endsF; rw [List.foldl_append]

/-- p and q: what parts the strands -/
noncomputable def PQ (p q : Int) (x : Int × Int × Int × Int) : Prop := x.1 - x.2.1 = p ∧ x.2.2.2 - x.2.2.1 = p ∧ x.2.1 - x.2.2.1 = q
theorem pq_b {f : Bool} : ∀ (n : Nat) (p q : Int) (x : Int × Int × Int × Int), PQ p q x → PQ (p - (if f then (n : Int) else -(n : Int)) * q) q (endsF x (List.replicate n (1, f))) := by
  run_tac mark
  intro n
  induction n with
  | zero => intro p q x h; cases f <;> simpa [endsF] using h
  | succ n ih =>
    intro p q x h
    rw [List.replicate_succ]
    show PQ _ _ (endsF (endStep x (1, f)) (List.replicate n (1, f)))
    cases f
    · have h' : PQ (p + q) q (endStep x (1, false)) := by
        unfold PQ at h ⊢
        simp [endStep]
        omega
      have := ih (p + q) q _ h'
      have e : p - (if (false : Bool) = true then ((n + 1 : Nat) : Int) else -((n + 1 : Nat) : Int)) * q = (p + q) - (if (false : Bool) = true then (n : Int) else -(n : Int)) * q := by
        simp only [Bool.false_eq_true, if_false]; grind
      rw [e]; exact this
    · have h' : PQ (p - q) q (endStep x (1, true)) := by
        unfold PQ at h ⊢
        simp [endStep]
        omega
      have := ih (p - q) q _ h'
      have e : p - (if (true : Bool) = true then ((n + 1 : Nat) : Int) else -((n + 1 : Nat) : Int)) * q = (p - q) - (if (true : Bool) = true then (n : Int) else -(n : Int)) * q := by
        simp only [if_true]; grind
      rw [e]; exact this
  run_tac squeeze

theorem pq_ac {f : Bool} {z : Int} (hz : z = 0 ∨ z = 2) : ∀ (n : Nat) (p q : Int) (x : Int × Int × Int × Int), PQ p q x → PQ p (q + (if f then (n : Int) else -(n : Int)) * p) (endsF x (List.replicate n (z, f))) := by
  run_tac mark
  intro n
  induction n with
  | zero => intro p q x h; cases f <;> simpa [endsF] using h
  | succ n ih =>
    intro p q x h
    rw [List.replicate_succ]
    show PQ _ _ (endsF (endStep x (z, f)) (List.replicate n (z, f)))
    cases f
    · have h' : PQ p (q - p) (endStep x (z, false)) := by
        unfold PQ at h ⊢
        rcases hz with rfl | rfl <;> simp [endStep] <;> omega
      have := ih p (q - p) _ h'
      have e : q + (if (false : Bool) = true then ((n + 1 : Nat) : Int) else -((n + 1 : Nat) : Int)) * p = (q - p) + (if (false : Bool) = true then (n : Int) else -(n : Int)) * p := by
        simp only [Bool.false_eq_true, if_false]; grind
      rw [e]; exact this
    · have h' : PQ p (q + p) (endStep x (z, true)) := by
        unfold PQ at h ⊢
        rcases hz with rfl | rfl <;> simp [endStep] <;> omega
      have := ih p (q + p) _ h'
      have e : q + (if (true : Bool) = true then ((n + 1 : Nat) : Int) else -((n + 1 : Nat) : Int)) * p = (q + p) + (if (true : Bool) = true then (n : Int) else -(n : Int)) * p := by
        simp only [if_true]; grind
      rw [e]; exact this
  run_tac squeeze

theorem spot_even {k : Nat} (hk : k % 2 = 0) (c : Int) : spotC k c = 1 := by unfold spotC letterC; rw [if_pos hk]; rfl

theorem spot_odd {k : Nat} (hk : k % 2 = 1) (c : Int) : spotC k c = 0 ∨ spotC k c = 2 := by
  run_tac mark
  have hr := fmod_bd (c.fdiv 7) (m := 2) (by decide)
  unfold spotC letterC; rw [if_neg (by omega)]; omega
  run_tac squeeze

theorem run_even {k : Nat} (hk : k % 2 = 0) (c : Int) {p q : Int} {x : Int × Int × Int × Int} (h : PQ p q x) : PQ (p - (c.fmod 7 - 3) * q) q (endsF x (crossC k c)) := by
  run_tac mark
  unfold crossC
  rw [spot_even hk]
  have := pq_b (f := flagC k c) (c.fmod 7 - 3).natAbs p q x h
  have e : (if flagC k c = true then (((c.fmod 7 - 3).natAbs : Nat) : Int) else -(((c.fmod 7 - 3).natAbs : Nat) : Int)) = c.fmod 7 - 3 := by
    unfold flagC
    have : (k % 2 == 0) = true := by simp [hk]
    rw [this]
    by_cases hp : 0 < c.fmod 7 - 3
    · rw [decide_eq_true hp, if_pos (by decide)]; omega
    · rw [decide_eq_false hp, if_neg (by decide)]; omega
  rw [e] at this
  exact this
  run_tac squeeze

theorem run_odd {k : Nat} (hk : k % 2 = 1) (c : Int) {p q : Int} {x : Int × Int × Int × Int} (h : PQ p q x) : PQ p (q - (c.fmod 7 - 3) * p) (endsF x (crossC k c)) := by
  run_tac mark
  unfold crossC
  have := pq_ac (f := flagC k c) (spot_odd hk c) (c.fmod 7 - 3).natAbs p q x h
  have e : (if flagC k c = true then (((c.fmod 7 - 3).natAbs : Nat) : Int) else -(((c.fmod 7 - 3).natAbs : Nat) : Int)) = -(c.fmod 7 - 3) := by
    unfold flagC
    have : (k % 2 == 0) = false := by simp [hk]
    rw [this]
    by_cases hp : 0 < c.fmod 7 - 3
    · rw [decide_eq_true hp, if_neg (by decide)]; omega
    · rw [decide_eq_false hp, if_pos (by decide)]; omega
  rw [e] at this
  have e2 : q - (c.fmod 7 - 3) * p = q + -(c.fmod 7 - 3) * p := by grind
  rw [e2]; exact this
  run_tac squeeze

noncomputable abbrev runsK (a1 a2 a3 a4 a5 : Int) : Int := contF (a1.fmod 7 - 3) (a2.fmod 7 - 3) (a3.fmod 7 - 3) (a4.fmod 7 - 3) (a5.fmod 7 - 3)
theorem ends_pq (a1 a2 a3 a4 a5 top h : Int) : ∃ q, PQ (-(runsK a1 a2 a3 a4 a5 * (top - h))) q (endsF (top, top, h, h) (crossAll a1 a2 a3 a4 a5)) := by
  run_tac mark
  have h0 : PQ 0 (top - h) (top, top, h, h) := by unfold PQ; dsimp only; omega
  have h1 := run_even (k := 0) rfl a1 h0
  have h2 := run_odd (k := 1) rfl a2 h1
  have h3 := run_even (k := 2) rfl a3 h2
  have h4 := run_odd (k := 3) rfl a4 h3
  have h5 := run_even (k := 4) rfl a5 h4
  unfold crossAll
  simp only [endsF_append]
  have e : -(runsK a1 a2 a3 a4 a5 * (top - h)) = 0 - (a1.fmod 7 - 3) * (top - h) - (a3.fmod 7 - 3) * (top - h - (a2.fmod 7 - 3) * (0 - (a1.fmod 7 - 3) * (top - h))) - (a5.fmod 7 - 3) * (top - h - (a2.fmod 7 - 3) * (0 - (a1.fmod 7 - 3) * (top - h)) - (a4.fmod 7 - 3) * (0 - (a1.fmod 7 - 3) * (top - h) - (a3.fmod 7 - 3) * (top - h - (a2.fmod 7 - 3) * (0 - (a1.fmod 7 - 3) * (top - h))))) := by
    unfold runsK contF
    generalize a1.fmod 7 - 3 = r0
    generalize a2.fmod 7 - 3 = r1
    generalize a3.fmod 7 - 3 = r2
    generalize a4.fmod 7 - 3 = r3
    generalize a5.fmod 7 - 3 = r4
    generalize top - h = d
    grind
  exact ⟨_, e ▸ h5⟩
  run_tac squeeze

theorem same_mod {a b p m : Int} (h : a - b = p) (hm : 0 < m) : (a % m = b % m) ↔ p % m = 0 := by
  run_tac mark
  rw [← h, Int.emod_eq_emod_iff_emod_sub_eq_zero]
  run_tac squeeze

theorem neg_mod {z m : Int} (hm : 0 < m) : ((-z) % m = 0) ↔ z % m = 0 := by
  run_tac mark
  constructor
  · intro h; have := Int.dvd_of_emod_eq_zero h; exact Int.emod_eq_zero_of_dvd (Int.dvd_neg.mp this)
  · intro h; have := Int.dvd_of_emod_eq_zero h; exact Int.emod_eq_zero_of_dvd (Int.dvd_neg.mpr this)
  run_tac squeeze

theorem joins_eq {parts : Int} (hp : 0 < parts) (a1 a2 a3 a4 a5 top h : Int) : joins parts top (crossAll a1 a2 a3 a4 a5) h = decide (runsK a1 a2 a3 a4 a5 * (top - h) % parts = 0) := by
  run_tac mark
  obtain ⟨q, h1, h2, _⟩ := ends_pq a1 a2 a3 a4 a5 top h
  unfold joins
  rw [Bool.eq_iff_iff, Bool.and_eq_true, beq_iff_eq, beq_iff_eq, decide_eq_true_eq, same_mod h1 hp, eq_comm (a := _ % parts) (b := (endsF (top, top, h, h) (crossAll a1 a2 a3 a4 a5)).2.2.2 % parts), same_mod h2 hp, neg_mod hp]
  exact ⟨fun h => h.1, fun h => ⟨h, h⟩⟩
  run_tac squeeze

end
theorem quietP2 : True := by
  run_tac quiet
  trivial
-- P3
section
open PySem PySem.W PySem.Spec PySem.Calls PyProof.Rows

noncomputable def evI (x : Int) : Bool := x % 2 == 0
theorem evI_add (a b : Int) : evI (a + b) = (evI a == evI b) := by
  run_tac mark
  unfold evI
  rw [Int.add_emod]
  rcases Int.emod_two_eq a with h | h <;> rcases Int.emod_two_eq b with h' | h' <;> rw [h, h'] <;> rfl
  run_tac squeeze

theorem evI_mul (a b : Int) : evI (a * b) = (evI a || evI b) := by
  run_tac mark
  unfold evI
  rw [Int.mul_emod]
  rcases Int.emod_two_eq a with h | h <;> rcases Int.emod_two_eq b with h' | h' <;> rw [h, h'] <;> rfl
  run_tac squeeze

noncomputable def evK (b0 b1 b2 b3 b4 : Bool) : Bool :=
  ((((((((true == (((((false || b0) || b1) || b2) || b3) || b4)) == (((false || b2) || b3) || b4)) == (((false || b0) || b3) || b4)) == (((false || b0) || b1) || b4)) == (false || b4)) == (((false || b0) || b1) || b2)) == (false || b2)) == (false || b0))
theorem evI_cont (r0 r1 r2 r3 r4 : Int) : evI (contF r0 r1 r2 r3 r4) = evK (evI r0) (evI r1) (evI r2) (evI r3) (evI r4) := by
  run_tac mark
  have e0 : evI 0 = true := rfl
  have e1 : evI 1 = false := rfl
  unfold contF evK
  simp only [evI_add, evI_mul, e0, e1]
  run_tac squeeze

noncomputable def stepIf (b : Bool) (x : Int × Int × Int × Int) (s : Int) : Int × Int × Int × Int := if b then x else ringStep x s
theorem ring_twice (x : Int × Int × Int × Int) (s : Int) : ringStep (ringStep x s) s = x := by
  run_tac mark
  unfold ringStep
  split
  · rfl
  · split <;> rfl
  run_tac squeeze

theorem rings_run (k : Nat) (c : Int) (x : Int × Int × Int × Int) : ringsF x (crossC k c) = stepIf (evI (c.fmod 7 - 3)) x (spotC k c) := by
  run_tac mark
  have hb := fmod_bd c (m := 7) (by decide)
  unfold crossC evI stepIf
  have h : (c.fmod 7 - 3).natAbs = 0 ∧ (c.fmod 7 - 3) % 2 = 0 ∨ (c.fmod 7 - 3).natAbs = 1 ∧ (c.fmod 7 - 3) % 2 = 1 ∨ (c.fmod 7 - 3).natAbs = 2 ∧ (c.fmod 7 - 3) % 2 = 0 ∨ (c.fmod 7 - 3).natAbs = 3 ∧ (c.fmod 7 - 3) % 2 = 1 := by omega
  rcases h with ⟨h1, h2⟩ | ⟨h1, h2⟩ | ⟨h1, h2⟩ | ⟨h1, h2⟩ <;> rw [h1, h2]
  · rfl
  · rfl
  · show ringStep (ringStep x _) _ = x
    exact ring_twice _ _
  · show ringStep (ringStep (ringStep x _) _) _ = ringStep x _
    rw [ring_twice]
  run_tac squeeze

theorem ringsF_append (x : Int × Int × Int × Int) (a b : List (Int × Bool)) : ringsF x (a ++ b) = ringsF (ringsF x a) b := by unfold ringsF; rw [List.foldl_append]

theorem rings_finite : ∀ b0 b1 b2 b3 b4 s1 s3 : Bool,
    let x := stepIf b4 (stepIf b3 (stepIf b2 (stepIf b1 (stepIf b0 (0, 1, 2, 3) 1) (if s1 then 0 else 2)) 1) (if s3 then 0 else 2)) 1
    (x.1.fdiv 2 == x.2.1.fdiv 2) = evK b0 b1 b2 b3 b4 := by decide +kernel

theorem spot_odd' {k : Nat} (hk : k % 2 = 1) (c : Int) : ∃ s : Bool, spotC k c = if s then 0 else 2 := by
  run_tac mark
  rcases spot_odd hk c with h | h
  · exact ⟨true, h⟩
  · exact ⟨false, h⟩
  run_tac squeeze

theorem rings_eq (a1 a2 a3 a4 a5 : Int) : (if (ringsF (0, 1, 2, 3) (crossAll a1 a2 a3 a4 a5)).1.fdiv 2 = (ringsF (0, 1, 2, 3) (crossAll a1 a2 a3 a4 a5)).2.1.fdiv 2 then (2 : Int) else 1) = if runsK a1 a2 a3 a4 a5 % 2 = 0 then 2 else 1 := by
  run_tac mark
  obtain ⟨s1, h1⟩ := spot_odd' (k := 1) rfl a2
  obtain ⟨s3, h3⟩ := spot_odd' (k := 3) rfl a4
  have fin := rings_finite (evI (a1.fmod 7 - 3)) (evI (a2.fmod 7 - 3)) (evI (a3.fmod 7 - 3)) (evI (a4.fmod 7 - 3)) (evI (a5.fmod 7 - 3)) s1 s3
  have e : ringsF (0, 1, 2, 3) (crossAll a1 a2 a3 a4 a5) = stepIf (evI (a5.fmod 7 - 3)) (stepIf (evI (a4.fmod 7 - 3)) (stepIf (evI (a3.fmod 7 - 3)) (stepIf (evI (a2.fmod 7 - 3)) (stepIf (evI (a1.fmod 7 - 3)) (0, 1, 2, 3) 1) (if s1 then 0 else 2)) 1) (if s3 then 0 else 2)) 1 := by
    unfold crossAll
    simp only [ringsF_append, rings_run]
    rw [spot_even (k := 0) rfl, spot_even (k := 2) rfl, spot_even (k := 4) rfl, h1, h3]
  rw [e]
  have ev := evI_cont (a1.fmod 7 - 3) (a2.fmod 7 - 3) (a3.fmod 7 - 3) (a4.fmod 7 - 3) (a5.fmod 7 - 3)
  dsimp only at fin
  rw [← ev] at fin
  have : ((stepIf (evI (a5.fmod 7 - 3)) (stepIf (evI (a4.fmod 7 - 3)) (stepIf (evI (a3.fmod 7 - 3)) (stepIf (evI (a2.fmod 7 - 3)) (stepIf (evI (a1.fmod 7 - 3)) (0, 1, 2, 3) 1) (if s1 then 0 else 2)) 1) (if s3 then 0 else 2)) 1).1.fdiv 2 = (stepIf (evI (a5.fmod 7 - 3)) (stepIf (evI (a4.fmod 7 - 3)) (stepIf (evI (a3.fmod 7 - 3)) (stepIf (evI (a2.fmod 7 - 3)) (stepIf (evI (a1.fmod 7 - 3)) (0, 1, 2, 3) 1) (if s1 then 0 else 2)) 1) (if s3 then 0 else 2)) 1).2.1.fdiv 2) ↔ runsK a1 a2 a3 a4 a5 % 2 = 0 := by
    rw [← beq_iff_eq, fin]
    unfold evI
    rw [beq_iff_eq]
  simp only [this]
  run_tac squeeze

/-- the hues that join, by the continuant -/
noncomputable def huesK (parts top K : Int) : List Int := (rangeKs 0 parts.toNat).filter fun h => decide (K * (top - h) % parts = 0)
noncomputable def sizesK (parts K : Int) : List Int := (rangeKs 1 parts.toNat).filter fun z => decide (parts % z = 0) && decide (K % z = 0)
theorem mod_reduce {parts K x : Int} : K * x % parts = K % parts * x % parts := by
  run_tac mark
  conv => lhs; rw [Int.mul_emod]
  conv => rhs; rw [Int.mul_emod, Int.emod_emod]
  run_tac squeeze

theorem huesK_mod (parts top K : Int) : huesK parts top K = huesK parts top (K % parts) := by
  run_tac mark
  unfold huesK
  refine congrArg (fun f => List.filter f _) (funext fun h => ?_)
  rw [mod_reduce (K := K)]
  run_tac squeeze

theorem sizesK_mod (parts K : Int) : sizesK parts K = sizesK parts (K % parts) := by
  run_tac mark
  unfold sizesK
  refine congrArg (fun f => List.filter f _) (funext fun z => ?_)
  by_cases h : parts % z = 0
  · have : z ∣ parts := Int.dvd_of_emod_eq_zero h
    rw [decide_eq_true h, Bool.true_and, Bool.true_and, Int.emod_emod_of_dvd K this]
  · rw [decide_eq_false h, Bool.false_and, Bool.false_and]
  run_tac squeeze

theorem measure_fin : ∀ p ∈ List.range 8, ∀ t ∈ List.range 8, ∀ k ∈ List.range 8, 2 ≤ p → t < p → k < p → sizesK p k ≠ [] ∧ ((huesK p t k).length : Int) = (sizesK p k).getLastD 0 := by decide +kernel

theorem measure_eq {parts top : Int} (hp : 2 ≤ parts ∧ parts ≤ 7) (ht : 0 ≤ top ∧ top < parts) (K : Int) : sizesK parts K ≠ [] ∧ ((huesK parts top K).length : Int) = (sizesK parts K).getLastD 0 := by
  run_tac mark
  rw [huesK_mod, sizesK_mod]
  have h1 := Int.emod_nonneg K (show parts ≠ 0 by omega)
  have h2 := Int.emod_lt_of_pos K (show 0 < parts by omega)
  have := measure_fin parts.toNat (List.mem_range.mpr (by omega)) top.toNat (List.mem_range.mpr (by omega)) (K % parts).toNat (List.mem_range.mpr (by omega)) (by omega) (by omega) (by omega)
  rw [Int.toNat_of_nonneg (by omega), Int.toNat_of_nonneg ht.1, Int.toNat_of_nonneg h1] at this
  exact this
  run_tac squeeze

theorem joins_hues {parts top : Int} (hp : 0 < parts) (a1 a2 a3 a4 a5 : Int) : (rangeKs 0 parts.toNat).filter (joins parts top (crossAll a1 a2 a3 a4 a5)) = huesK parts top (runsK a1 a2 a3 a4 a5) := by
  run_tac mark
  unfold huesK
  refine congrArg (fun f => List.filter f _) (funext fun h => ?_)
  rw [joins_eq hp]
  run_tac squeeze

end
theorem quietP3 : True := by
  run_tac quiet
  trivial
-- P4
section
open PySem PySem.W PySem.Spec PySem.Calls PyProof.Rows

theorem foldl_if {p : Int → Prop} {inst : ∀ k, Decidable (p k)} (ks : List Int) : ks.foldl (fun l k => @ite _ (p k) (inst k) (l ++ [k]) l) [] = ks.filter fun k => @decide (p k) (inst k) := by
  run_tac mark
  have go : ∀ (ks l : List Int), ks.foldl (fun l k => @ite _ (p k) (inst k) (l ++ [k]) l) l = l ++ ks.filter fun k => @decide (p k) (inst k) := by
    intro ks
    induction ks with
    | nil => intro l; simp
    | cons k r ih =>
      intro l
      rw [List.foldl_cons, ih]
      by_cases h : p k
      · rw [if_pos h, List.filter_cons_of_pos (by simpa using h), List.append_assoc]; rfl
      · rw [if_neg h, List.filter_cons_of_neg (by simpa using h)]
  simpa using go ks []
  run_tac squeeze

theorem sizes_form {parts : Int} (hp : 2 ≤ parts ∧ parts ≤ 7) (K : Int) : (rangeKs 1 (parts + 1 - 1).toNat).foldl (fun l k => if parts.fmod k = 0 ∧ K.fmod k = 0 then l ++ [k] else l) [] = sizesK parts K := by
  run_tac mark
  rw [foldl_if]
  unfold sizesK
  have e : parts + 1 - 1 = parts := by omega
  rw [e]
  refine List.filter_congr fun k hk => ?_
  have h1 := (mem_rangeKs hk).1
  rw [Int.fmod_eq_emod_of_nonneg _ (by omega), Int.fmod_eq_emod_of_nonneg _ (by omega), Bool.eq_iff_iff]
  simp
  run_tac squeeze

theorem hues_form {parts : Int} (hp : 2 ≤ parts ∧ parts ≤ 7) (top K : Int) : (rangeKs 0 (parts - 0).toNat).foldl (fun l k => if (K * (top - k)).fmod parts = 0 then l ++ [k] else l) [] = huesK parts top K := by
  run_tac mark
  rw [foldl_if]
  unfold huesK
  rw [Int.sub_zero]
  refine List.filter_congr fun k hk => ?_
  rw [Int.fmod_eq_emod_of_nonneg _ (by omega)]
  run_tac squeeze

theorem sizes_len (parts K : Int) : (sizesK parts K).length ≤ parts.toNat := by
  run_tac mark
  unfold sizesK
  refine Nat.le_trans (List.length_filter_le _ _) ?_
  rw [rangeKs_length]; exact Nat.le_refl _
  run_tac squeeze

theorem last_sizes {prog : Program} {w : World} {A : Around} {E : Value → Shared → Prop} {s : Shared} {h₀ : Heap} {L D : Addr} {news : List (Addr × Obj)} {ys : List Value} {u : Tok} {value slice : PySem.Expr} {parts top K : Int} {Q : Value → Shared → Prop} (hp : 2 ≤ parts ∧ parts ≤ 7) (ht : 0 ≤ top ∧ top < parts) (N : News h₀ L s.heap news) (hl : (D, LCg.lst ys) ∈ news)
    (I : IntsAre ys ((rangeKs 1 (parts + 1 - 1).toNat).foldl (fun l k => if parts.fmod k = 0 ∧ K.fmod k = 0 then l ++ [k] else l) []))
    (h : ∀ t, Q (.int ((huesK parts top K).length : Int) t) s)
    (hs : subscripted slice false (.ref D) (.int (-1) u) = operate [.ref D, .int (-1) u] (getItem (.ref D) (.int (-1) u))) :
    wpAny (model prog w) A (subscriptTail value slice (.ref D) (.int (-1) u)) Q E s := by
  run_tac mark
  rw [sizes_form hp] at I
  obtain ⟨ne, e⟩ := measure_eq hp ht K
  have hlen : 0 < (sizesK parts K).length := List.length_pos_iff.mpr ne
  have hL : s.heap.IsList D ys.toArray := News.isList N hl
  refine item_list_ints_negR hL I (by decide) (by omega) (by decide) (fun t => ?_) hs
  have e2 : (sizesK parts K).getD (-1 + ((sizesK parts K).length : Int)).toNat 0 = (sizesK parts K).getLastD 0 := by
    have e3 : (-1 + ((sizesK parts K).length : Int)).toNat = (sizesK parts K).length - 1 := by omega
    rw [e3, List.getLastD_eq_getLast?, List.getLast?_eq_getElem?, List.getD_eq_getElem?_getD]
  rw [e2, ← e]
  exact h t
  run_tac squeeze

theorem rings_two (a1 a2 a3 a4 a5 : Int) : (if (ringsF (0, 1, 2, 3) (crossAll a1 a2 a3 a4 a5)).1.fdiv 2 = (ringsF (0, 1, 2, 3) (crossAll a1 a2 a3 a4 a5)).2.1.fdiv 2 then (2 : Int) else 1) = 2 - (runsK a1 a2 a3 a4 a5).fmod 2 := by
  run_tac mark
  rw [rings_eq, Int.fmod_eq_emod_of_nonneg _ (by decide)]
  split <;> omega
  run_tac squeeze

theorem rings_at (w : World) (l : Addr) (n' : Nat) (vs : List Value) (a1 a2 a3 a4 a5 : Int) :
    PureIn w 198 1 [.ref l] (fun news => (l, listOf vs.toArray n') ∈ news ∧ Cross news vs (crossAll a1 a2 a3 a4 a5)) (fun t => .int (2 - (runsK a1 a2 a3 a4 a5).fmod 2) t) := by
  run_tac mark
  have h := rings_con w l n' vs (crossAll a1 a2 a3 a4 a5)
  rw [rings_two] at h
  exact h
  run_tac squeeze

theorem cross_law (w : World) (t1 : Tok) (a1 a2 a3 a4 a5 : Int) : CrossR w (prepText (weave [a1, a2, a3, a4, a5] (rangeKs 0 5)).2) t1 (crossAll a1 a2 a3 a4 a5) := by
  run_tac mark
  rw [plain_eq, ← lexP_all]
  exact cross_con w _ t1 plainC_mem (Nat.le_trans plainC_len (by decide))
  run_tac squeeze

theorem join_law (w : World) (parts top light share : Int) (t1 t2 t3 t4 : Tok) (l : Addr) (n' : Nat) (vsC : List Value) (a1 a2 a3 a4 a5 : Int) (hp : 2 ≤ parts ∧ parts ≤ 7) (ht : 0 ≤ top ∧ top < parts) (hl : 1 ≤ light ∧ light ≤ 7) (hs : 1 ≤ share ∧ share ≤ 8)
    (hT : ∀ e, -100000000 ≤ e → e ≤ 100000000 → Told e parts light share) :
    JoinR w [.int parts t1, .int top t2, .int light t3, .int share t4, .ref l] 5 (fun news => (l, listOf vsC.toArray n') ∈ news ∧ Cross news vsC (crossAll a1 a2 a3 a4 a5)) (huesK parts top (runsK a1 a2 a3 a4 a5)) := by
  run_tac mark
  rw [← joins_hues (by omega)]
  exact join_con w parts top light share t1 t2 t3 t4 l n' vsC (crossAll a1 a2 a3 a4 a5) hp ht hl hs (fun h h0 h1 => ends_within (crossAll_len _ _ _ _ _) (by omega) (by omega)) hT
  run_tac squeeze

theorem huesK_len {parts : Int} (hp : 2 ≤ parts ∧ parts ≤ 7) (top K : Int) : (huesK parts top K).length ≤ 7 := by
  run_tac mark
  unfold huesK
  refine Nat.le_trans (List.length_filter_le _ _) ?_
  rw [rangeKs_length]; omega
  run_tac squeeze

theorem len_law {prog : Program} {w : World} {A : Around} {E : Value → Shared → Prop} {s : Shared} {h₀ : Heap} {L D : Addr} {news : List (Addr × Obj)} {us : List Value} {n : Nat} {parts top K : Int} {Q : Value → Shared → Prop} (hp : 2 ≤ parts ∧ parts ≤ 7) (N : News h₀ L s.heap news) (hl : (D, listOf us.toArray n) ∈ news)
    (I : IntsAre us (huesK parts top K)) (h : ∀ t k, Q (.int ((huesK parts top K).length : Int) t) { s with toks := k }) : wpAny (model prog w) A (call (.builtin "len") [.ref D]) Q E s := by
  run_tac mark
  have e : us.toArray.size = (huesK parts top K).length := by rw [List.size_toArray, I.length]
  have l := huesK_len hp top K
  exact len_list (News.isList N hl) (by rw [e]; omega) (by rw [e]; exact h _ _)
  run_tac squeeze

theorem eq_law {prog : Program} {w : World} {A : Around} {E : Value → Shared → Prop} {s : Shared} {h₀ : Heap} {L D D2 : Addr} {news : List (Addr × Obj)} {us ys : List Value} {n : Nat} {parts top K : Int} {Q : Value → Shared → Prop} (hp : 2 ≤ parts ∧ parts ≤ 7) (N : News h₀ L s.heap news) (hl : (D, listOf us.toArray n) ∈ news) (hl2 : (D2, LCg.lst ys) ∈ news)
    (I : IntsAre us (huesK parts top K)) (I2 : IntsAre ys ((rangeKs 0 (parts - 0).toNat).foldl (fun l k => if (K * (top - k)).fmod parts = 0 then l ++ [k] else l) [])) (hu : A.units + 64 < cLine) (h : Q (.bool true) s) : wpAny (model prog w) A (compareOp .Eq (.ref D) (.ref D2)) Q E s := by
  run_tac mark
  rw [hues_form hp] at I2
  refine eq_intsK (News.isList N hl) I (News.isList N hl2) I2 hu ?_
  rw [decide_eq_true rfl]
  exact h
  run_tac squeeze

end
theorem quietP4 : True := by
  run_tac quiet
  trivial
-- F1
section
open PySem Float64

noncomputable def Fn (x : UInt64) : Prop := ∃ a m e, Float64.decode x = .fin a m e
noncomputable def SN : Nat := 2 ^ 1074
theorem SN_pos : 0 < SN := Nat.two_pow_pos _

theorem SN_split : SN = 2 ^ 1048 * 67108864 := by
  run_tac mark
  unfold SN
  rw [show (1074 : Nat) = 1048 + 26 from rfl, Nat.pow_add]
  run_tac squeeze

noncomputable def rv (x : UInt64) : Rat := (Float64.val x : Rat) / ((SN : Nat) : Rat)
noncomputable def Near (a b ε : Rat) : Prop := a ≤ b + ε ∧ b ≤ a + ε
theorem SR_pos : (0 : Rat) < ((SN : Nat) : Rat) := by
  run_tac mark
  have := Rat.natCast_lt_natCast.mpr SN_pos
  simpa using this
  run_tac squeeze

theorem rv_mul (x : UInt64) : rv x * ((SN : Nat) : Rat) = (Float64.val x : Rat) := by
  run_tac mark
  unfold rv
  have := SR_pos
  grind
  run_tac squeeze

theorem rep : ∀ (k q : Nat), q ≤ 2 ^ 53 → ∃ t, V t = q * 2 ^ k := by
  run_tac mark
  intro k
  induction k with
  | zero => intro q h; exact ⟨0 * 2 ^ 52 + q, V_at h (.inr rfl)⟩
  | succ k ih =>
    intro q h
    by_cases h2 : 2 ^ 52 ≤ q
    · exact ⟨(k + 1) * 2 ^ 52 + q, V_at h (.inl h2)⟩
    · obtain ⟨t, ht⟩ := ih (2 * q) (by omega)
      exact ⟨t, by rw [ht, Nat.pow_succ]; ac_rfl⟩
  run_tac squeeze

theorem right_nat {r : UInt64} {neg : Bool} {W D : Nat} (h : Right r neg W D) (hD : 0 < D) (hb : W ≤ D * (2 ^ 27 * SN)) :
    ∃ v : Nat, Fn r ∧ val r = sgn neg v ∧ W ≤ D * v + D * 2 ^ 1048 ∧ D * v ≤ W + D * 2 ^ 1048 := by
  run_tac mark
  obtain ⟨t, rfl, _, ho, hn⟩ := h
  have hlt : t < infMag := by
    rcases Nat.lt_or_ge t infMag with h | h
    · exact h
    · have e : t = infMag := by omega
      have := ho.mp e
      exfalso
      have h3 : 2 * W ≤ D * (2 ^ 28 * SN) := by
        calc 2 * W ≤ 2 * (D * (2 ^ 27 * SN)) := Nat.mul_le_mul_left _ hb
          _ = D * (2 ^ 28 * SN) := by rw [show (2 : Nat) ^ 28 = 2 * 2 ^ 27 from rfl]; ac_rfl
      have h4 := Nat.le_of_mul_le_mul_left (Nat.le_trans this h3) hD
      have h5 : 2 ^ 28 * SN < (2 ^ 54 - 1) * 2 ^ 2045 := by unfold SN; decide +kernel
      omega
  obtain ⟨m, e, hd, hv⟩ := decode_pack neg hlt
  refine ⟨V t, ⟨_, _, _, hd⟩, val_pack neg hlt, ?_⟩
  have hu : 0 < D * 2 ^ 1048 := Nat.mul_pos hD (Nat.two_pow_pos _)
  have hq : W / (D * 2 ^ 1048) ≤ 2 ^ 53 := by
    refine Nat.div_le_of_le_mul (Nat.le_trans hb ?_)
    rw [SN_split]
    exact Nat.le_of_eq (by rw [show (2 : Nat) ^ 53 = 2 ^ 27 * 67108864 from rfl]; ac_rfl)
  obtain ⟨t', ht'⟩ := rep 1048 _ hq
  have hc := (hn hlt t').1
  have e1 : D * V t' = D * 2 ^ 1048 * (W / (D * 2 ^ 1048)) := by rw [ht']; ac_rfl
  have h1 := Nat.mul_div_le W (D * 2 ^ 1048)
  have h2 := Nat.lt_mul_div_succ W hu
  rw [Nat.mul_add, Nat.mul_one] at h2
  rw [e1] at hc
  unfold dist at hc
  generalize D * 2 ^ 1048 * (W / (D * 2 ^ 1048)) = z at *
  generalize D * 2 ^ 1048 = u at *
  generalize D * V t = y at *
  omega
  run_tac squeeze

noncomputable abbrev eps : Rat := 1 / 67108864
theorem cast_sgn (b : Bool) (v : Nat) : ((sgn b v : Int) : Rat) = if b then -(v : Rat) else (v : Rat) := by
  run_tac mark
  unfold sgn
  cases b <;> simp [Rat.intCast_natCast]
  run_tac squeeze

theorem right_app {r : UInt64} {neg : Bool} {W D : Nat} {z : Rat} (h : Right r neg W D) (hD : 0 < D) (hz : z * ((D : Rat) * ((SN : Nat) : Rat)) = if neg then -(W : Rat) else (W : Rat))
    (hb : z ≤ 134217728 ∧ -134217728 ≤ z) : Fn r ∧ Near (rv r) z eps := by
  run_tac mark
  have hDr : (0 : Rat) < (D : Rat) := by have := Rat.natCast_lt_natCast.mpr hD; simpa using this
  have hDS : (0 : Rat) < (D : Rat) * ((SN : Nat) : Rat) := Rat.mul_pos hDr SR_pos
  have hW : W ≤ D * (2 ^ 27 * SN) := by
    refine Rat.natCast_le_natCast.mp ?_
    have e : ((D * (2 ^ 27 * SN) : Nat) : Rat) = 134217728 * ((D : Rat) * ((SN : Nat) : Rat)) := by
      rw [Rat.natCast_mul, Rat.natCast_mul]
      have : ((2 ^ 27 : Nat) : Rat) = 134217728 := by rfl
      rw [this]; grind
    rw [e]
    have h1 := Rat.mul_le_mul_of_nonneg_right hb.1 (Rat.le_of_lt hDS)
    have h2 := Rat.mul_le_mul_of_nonneg_right hb.2 (Rat.le_of_lt hDS)
    cases neg <;> simp at hz <;> grind
  obtain ⟨v, hf, hv, h1, h2⟩ := right_nat h hD hW
  refine ⟨hf, ?_⟩
  have r1 := Rat.natCast_le_natCast.mpr h1
  have r2 := Rat.natCast_le_natCast.mpr h2
  rw [Rat.natCast_add, Rat.natCast_mul, Rat.natCast_mul] at r1 r2
  have hS : ((SN : Nat) : Rat) = ((2 ^ 1048 : Nat) : Rat) * 67108864 := by
    conv => lhs; rw [SN_split]
    rw [Rat.natCast_mul]; rfl
  have hvr := rv_mul r
  rw [hv, cast_sgn] at hvr
  generalize ((2 ^ 1048 : Nat) : Rat) = P at *
  have hmul : ∀ a b : Rat, a * ((D : Rat) * ((SN : Nat) : Rat)) ≤ b * ((D : Rat) * ((SN : Nat) : Rat)) → a ≤ b := fun a b h => Rat.le_of_mul_le_mul_right h hDS
  have e2 : rv r * ((D : Rat) * ((SN : Nat) : Rat)) = (D : Rat) * (if neg then -(v : Rat) else (v : Rat)) := by rw [← hvr]; grind
  constructor
  · refine hmul _ _ ?_
    have e3 : (z + eps) * ((D : Rat) * ((SN : Nat) : Rat)) = (if neg then -(W : Rat) else (W : Rat)) + (D : Rat) * P := by
      rw [← hz, hS]; grind
    rw [e2, e3]
    cases neg <;> simp <;> grind
  · refine hmul _ _ ?_
    have e3 : (rv r + eps) * ((D : Rat) * ((SN : Nat) : Rat)) = (D : Rat) * (if neg then -(v : Rat) else (v : Rat)) + (D : Rat) * P := by
      rw [← e2, hS]; grind
    rw [hz, e3]
    cases neg <;> simp <;> grind
  run_tac squeeze

end
theorem quietF1 : True := by
  run_tac quiet
  trivial
-- F2
section
open PySem Float64
theorem zero_fn (b : Bool) : Fn (zero b) ∧ rv (zero b) = 0 := by
  run_tac mark
  obtain ⟨m, e, hd, _⟩ := decode_pack b (t := 0) (by decide)
  refine ⟨⟨_, _, _, hd⟩, ?_⟩
  unfold rv
  have : val (zero b) = 0 := by
    show val (pack b 0) = 0
    rw [val_pack b (by decide), V_zero]
    unfold sgn; cases b <;> rfl
  rw [this]
  have := SR_pos
  grind
  run_tac squeeze

theorem near_self (x : Rat) : Near x x eps := by unfold Near; grind

theorem cast_neg_nat (i : Int) (h : i < 0) : (i : Rat) = -((i.natAbs : Nat) : Rat) := by
  run_tac mark
  have e : i = -((i.natAbs : Nat) : Int) := by omega
  conv => lhs; rw [e]
  rw [Rat.intCast_neg, Rat.intCast_natCast]
  run_tac squeeze

theorem cast_pos_nat (i : Int) (h : ¬ i < 0) : (i : Rat) = ((i.natAbs : Nat) : Rat) := by
  run_tac mark
  have e : i = ((i.natAbs : Nat) : Int) := by omega
  conv => lhs; rw [e]
  rw [Rat.intCast_natCast]
  run_tac squeeze

theorem cast_signed (i : Int) : (if decide (i < 0) = true then -((i.natAbs : Nat) : Rat) else ((i.natAbs : Nat) : Rat)) = (i : Rat) := by
  run_tac mark
  by_cases h : i < 0
  · rw [if_pos (by simpa using h), cast_neg_nat i h]
  · rw [if_neg (by simpa using h), cast_pos_nat i h]
  run_tac squeeze

theorem add_app {x y : UInt64} (hx : Fn x) (hy : Fn y) (hb : rv x + rv y ≤ 134217728 ∧ -134217728 ≤ rv x + rv y) : Fn (add x y) ∧ Near (rv (add x y)) (rv x + rv y) eps := by
  run_tac mark
  obtain ⟨a, m, e, hx⟩ := hx
  obtain ⟨b, k, f, hy⟩ := hy
  obtain ⟨h0, h1⟩ := add_right hx hy
  have ex := rv_mul x
  have ey := rv_mul y
  have es : (rv x + rv y) * ((SN : Nat) : Rat) = ((val x + val y : Int) : Rat) := by rw [Rat.intCast_add, ← ex, ← ey]; grind
  by_cases h : val x + val y = 0
  · rw [h0 h]
    obtain ⟨z1, z2⟩ := zero_fn (a && b)
    refine ⟨z1, ?_⟩
    rw [z2]
    rw [h] at es
    have := SR_pos
    have e0 : rv x + rv y = 0 := by
      have : ((0 : Int) : Rat) = 0 := rfl
      grind
    rw [e0]; exact near_self 0
  · refine right_app (h1 h) (by decide) ?_ hb
    rw [cast_signed, ← es]
    grind
  run_tac squeeze

theorem sub_app {x y : UInt64} (hx : Fn x) (hy : Fn y) (hb : rv x - rv y ≤ 134217728 ∧ -134217728 ≤ rv x - rv y) : Fn (PySem.Float64.sub x y) ∧ Near (rv (PySem.Float64.sub x y)) (rv x - rv y) eps := by
  run_tac mark
  obtain ⟨b, k, f, hy'⟩ := hy
  have hn := neg_decode hy'
  have e : rv (neg y) = -rv y := by
    unfold rv
    rw [neg_val hy', Rat.intCast_neg]
    have := SR_pos
    grind
  have := add_app hx ⟨_, _, _, hn⟩ (by rw [e]; grind)
  rw [e] at this
  have e2 : rv x + -rv y = rv x - rv y := by grind
  rw [e2] at this
  with_unfolding_all exact this
  run_tac squeeze

theorem val_signed {x : UInt64} {a : Bool} {m : Nat} {e : Int} (h : decode x = .fin a m e) : (val x : Rat) = if a then -(((val x).natAbs : Nat) : Rat) else (((val x).natAbs : Nat) : Rat) := by
  run_tac mark
  have h1 := val_eq h
  have h2 := val_natAbs h
  rw [← h2] at h1
  conv => lhs; rw [h1]
  rw [cast_sgn]
  run_tac squeeze

theorem mul_app {x y : UInt64} (hx : Fn x) (hy : Fn y) (hb : rv x * rv y ≤ 134217728 ∧ -134217728 ≤ rv x * rv y) : Fn (mul x y) ∧ Near (rv (mul x y)) (rv x * rv y) eps := by
  run_tac mark
  obtain ⟨a, m, e, hx⟩ := hx
  obtain ⟨b, k, f, hy⟩ := hy
  have h : Right (mul x y) (a != b) ((val x).natAbs * (val y).natAbs) SN := mul_right hx hy
  refine right_app h SN_pos ?_ hb
  have ex := rv_mul x
  have ey := rv_mul y
  have e1 : rv x * rv y * (((SN : Nat) : Rat) * ((SN : Nat) : Rat)) = (val x : Rat) * (val y : Rat) := by rw [← ex, ← ey]; grind
  rw [e1, val_signed hx, val_signed hy, Rat.natCast_mul]
  cases a <;> cases b <;> simp <;> grind
  run_tac squeeze

theorem div_app {x y : UInt64} (hx : Fn x) (hy : Fn y) (h0 : rv y ≠ 0) (hb : rv x / rv y ≤ 134217728 ∧ -134217728 ≤ rv x / rv y) : Fn (div x y) ∧ Near (rv (div x y)) (rv x / rv y) eps := by
  run_tac mark
  obtain ⟨a, m, e, hx⟩ := hx
  obtain ⟨b, k, f, hy⟩ := hy
  have ex := rv_mul x
  have ey := rv_mul y
  have hS := SR_pos
  have hk : k ≠ 0 := by
    intro hk
    have := val_natAbs hy
    rw [hk, Nat.zero_mul] at this
    have hv : val y = 0 := by omega
    rw [hv] at ey
    have : ((0 : Int) : Rat) = 0 := rfl
    apply h0
    grind
  have hv0 : val y ≠ 0 := by
    intro hv
    rw [hv] at ey
    have : ((0 : Int) : Rat) = 0 := rfl
    apply h0
    grind
  have h : Right (div x y) (a != b) ((val x).natAbs * SN) (val y).natAbs := div_right hx hy hk
  refine right_app h (by omega) ?_ hb
  have hy0 : (val y : Rat) ≠ 0 := by
    rw [← ey]; intro h; apply h0; grind
  have e1 : rv x / rv y = (val x : Rat) / (val y : Rat) := by rw [← ex, ← ey]; grind
  have sx := val_signed hx
  have sy := val_signed hy
  rw [Rat.natCast_mul]
  rw [e1]
  generalize (((val x).natAbs : Nat) : Rat) = A at *
  generalize (((val y).natAbs : Nat) : Rat) = B at *
  generalize (val x : Rat) = X at *
  generalize (val y : Rat) = Y at *
  cases a <;> cases b <;> simp at * <;> subst sx <;> subst sy <;> grind
  run_tac squeeze

theorem frac_app {neg : Bool} {n d : Nat} {z : Rat} (hd : 0 < d) (hz : z * (d : Rat) = if neg then -(n : Rat) else (n : Rat)) (hb : z ≤ 134217728 ∧ -134217728 ≤ z) : Fn (ofFrac neg n d) ∧ Near (rv (ofFrac neg n d)) z eps := by
  run_tac mark
  have h : Right (ofFrac neg n d) neg (n * SN) d := ofFrac_right hd (by unfold SN; ac_rfl) hd
  refine right_app h hd ?_ hb
  rw [Rat.natCast_mul]
  cases neg <;> simp at hz ⊢ <;> grind
  run_tac squeeze

theorem int_app (i : Int) (hb : (i : Rat) ≤ 134217728 ∧ -134217728 ≤ (i : Rat)) : Fn (PySem.Float64.ofInt i) ∧ Near (rv (PySem.Float64.ofInt i)) (i : Rat) eps := by
  run_tac mark
  have : Fn (ofFrac (decide (i < 0)) i.natAbs 1) ∧ Near (rv (ofFrac (decide (i < 0)) i.natAbs 1)) (i : Rat) eps := by
    refine frac_app (by decide) ?_ hb
    rw [cast_signed]
    grind
  with_unfolding_all exact this
  run_tac squeeze

theorem rv_lt {x y : UInt64} : rv x < rv y ↔ val x < val y := by
  run_tac mark
  have ex := rv_mul x
  have ey := rv_mul y
  have hS := SR_pos
  constructor
  · intro h
    refine Rat.intCast_lt_intCast.mp ?_
    rw [← ex, ← ey]
    exact Rat.mul_lt_mul_of_pos_right h hS
  · intro h
    have h := Rat.intCast_lt_intCast.mpr h
    rw [← ex, ← ey] at h
    by_cases h2 : rv x < rv y
    · exact h2
    · have h2 := Rat.not_lt.mp h2
      have := Rat.mul_le_mul_of_nonneg_right h2 (Rat.le_of_lt hS)
      grind
  run_tac squeeze

theorem rv_eq {x y : UInt64} : rv x = rv y ↔ val x = val y := by
  run_tac mark
  have h1 := rv_lt (x := x) (y := y)
  have h2 := rv_lt (x := y) (y := x)
  constructor
  · intro h
    rw [h] at h1 h2
    have := Rat.lt_irrefl (a := rv y)
    have a := mt h1.mpr this
    have b := mt h2.mpr this
    omega
  · intro h; unfold rv; rw [h]
  run_tac squeeze

theorem lt_app {x y : UInt64} (hx : Fn x) (hy : Fn y) : (cmp x y == some .lt) = decide (rv x < rv y) := by
  run_tac mark
  obtain ⟨a, m, e, hx⟩ := hx
  obtain ⟨b, k, f, hy⟩ := hy
  rw [cmp_right hx hy, Bool.eq_iff_iff, decide_eq_true_eq, rv_lt, beq_iff_eq, Option.some.injEq, Int.compare_eq_lt]
  run_tac squeeze

theorem eq_app {x y : UInt64} (hx : Fn x) (hy : Fn y) : (cmp x y == some .eq) = decide (rv x = rv y) := by
  run_tac mark
  obtain ⟨a, m, e, hx⟩ := hx
  obtain ⟨b, k, f, hy⟩ := hy
  rw [cmp_right hx hy, Bool.eq_iff_iff, decide_eq_true_eq, rv_eq, beq_iff_eq, Option.some.injEq]
  constructor
  · intro h; exact Int.compare_eq_eq.mp h
  · intro h; exact Int.compare_eq_eq.mpr h
  run_tac squeeze

theorem finite_app {x : UInt64} (hx : Fn x) : isFinite x = true := by
  run_tac mark
  obtain ⟨a, m, e, hx⟩ := hx
  unfold isFinite; rw [hx]
  run_tac squeeze

theorem zero_app {x : UInt64} (hx : Fn x) (h : rv x ≠ 0) : isZero x = false := by
  run_tac mark
  obtain ⟨a, m, e, hx⟩ := hx
  unfold isZero; rw [hx]
  cases m with
  | zero =>
    exfalso
    have := val_natAbs hx
    rw [Nat.zero_mul] at this
    have hv : val x = 0 := by omega
    apply h
    unfold rv; rw [hv]
    have : ((0 : Int) : Rat) = 0 := rfl
    have := SR_pos
    grind
  | succ m => rfl
  run_tac squeeze

theorem zero_back {x : UInt64} (hx : Fn x) (h : isZero x = true) : rv x = 0 := by
  run_tac mark
  rcases Classical.em (rv x = 0) with h1 | h1
  · exact h1
  · rw [zero_app hx h1] at h; cases h
  run_tac squeeze

theorem trunc_app {x : UInt64} {n : Nat} (hx : Fn x) (h0 : 0 < rv x) (h1 : (n : Rat) ≤ rv x) (h2 : rv x < (n : Rat) + 1) : Flt.toInt Float64.truncOf x = (n : Int) := by
  run_tac mark
  obtain ⟨a, m, e, hx⟩ := hx
  have hS := SR_pos
  have ex := rv_mul x
  have he := decode_ge hx
  have hv := val_eq hx
  have hpos : 0 < val x := by
    refine Rat.intCast_lt_intCast.mp ?_
    rw [← ex]
    exact Rat.mul_pos h0 hS
  have ha : a = false := by
    cases a
    · rfl
    · rw [hv] at hpos; simp only [sgn, if_true] at hpos; omega
  subst ha
  have hv' : val x = ((m * 2 ^ (e + 1074).toNat : Nat) : Int) := hv
  have b1 : n * SN ≤ m * 2 ^ (e + 1074).toNat := by
    refine Rat.natCast_le_natCast.mp ?_
    rw [← Rat.intCast_natCast (m * 2 ^ (e + 1074).toNat), ← hv', ← ex, Rat.natCast_mul]
    exact Rat.mul_le_mul_of_nonneg_right h1 (Rat.le_of_lt hS)
  have b2 : m * 2 ^ (e + 1074).toNat < (n + 1) * SN := by
    refine Rat.natCast_lt_natCast.mp ?_
    rw [← Rat.intCast_natCast (m * 2 ^ (e + 1074).toNat), ← hv', ← ex, Rat.natCast_mul, Rat.natCast_add]
    exact Rat.mul_lt_mul_of_pos_right h2 hS
  unfold Flt.toInt
  rw [hx]
  show floorOf false m e = _
  unfold floorOf
  have hs : sgn false m = (m : Int) := rfl
  rw [hs]
  by_cases h : e ≥ 0
  · rw [if_pos h]
    have e1 : (e + 1074).toNat = e.toNat + 1074 := by omega
    rw [e1, Nat.pow_add, ← Nat.mul_assoc] at b1 b2
    have c1 := Nat.le_of_mul_le_mul_right (show n * SN ≤ m * 2 ^ e.toNat * SN from b1) SN_pos
    have c2 := Nat.lt_of_mul_lt_mul_right (show m * 2 ^ e.toNat * SN < (n + 1) * SN from b2)
    have c3 : m * 2 ^ e.toNat = n := by omega
    rw [← c3]; simp
  · rw [if_neg h]
    have e1 : (1074 : Nat) = (-e).toNat + (e + 1074).toNat := by omega
    have eS : SN = 2 ^ (-e).toNat * 2 ^ (e + 1074).toNat := by unfold SN; rw [← Nat.pow_add, ← e1]
    rw [eS, ← Nat.mul_assoc] at b1 b2
    have hp : 0 < 2 ^ (e + 1074).toNat := Nat.two_pow_pos _
    have c1 := Nat.le_of_mul_le_mul_right b1 hp
    have c2 := Nat.lt_of_mul_lt_mul_right b2
    have hq : m / 2 ^ (-e).toNat = n := by
      refine Nat.div_eq_of_lt_le c1 c2
    have e2 : ((2 : Int) ^ (-e).toNat) = ((2 ^ (-e).toNat : Nat) : Int) := by simp
    rw [e2, Int.fdiv_eq_ediv_of_nonneg _ (Int.natCast_nonneg _), ← Int.natCast_ediv, hq]
  run_tac squeeze

end
theorem quietF2 : True := by
  run_tac quiet
  trivial
-- F3
section
open PySem Float64
theorem fn_of {x : UInt64} (h : isFinite x = true) : Fn x := by
  run_tac mark
  unfold isFinite at h
  unfold Fn
  cases hd : decode x with
  | nan => rw [hd] at h; cases h
  | inf b => rw [hd] at h; cases h
  | fin a m e => exact ⟨_, _, _, rfl⟩
  run_tac squeeze

theorem const_eq {x : UInt64} {p : Int} {q : Nat} (hq : 0 < q) (h : val x * (q : Int) = p * (SN : Int)) : rv x = (p : Rat) / (q : Rat) := by
  run_tac mark
  have hS := SR_pos
  have hqr : (0 : Rat) < (q : Rat) := by have := Rat.natCast_lt_natCast.mpr hq; simpa using this
  have h2 : ((val x * (q : Int) : Int) : Rat) = ((p * (SN : Int) : Int) : Rat) := by rw [h]
  rw [Rat.intCast_mul, Rat.intCast_mul, Rat.intCast_natCast, Rat.intCast_natCast] at h2
  unfold rv
  grind
  run_tac squeeze

theorem const_near {x : UInt64} {p : Int} {q : Nat} (hq : 0 < q) (h1 : val x * (q : Int) * 67108864 ≤ (p * 67108864 + (q : Int)) * (SN : Int)) (h2 : (p * 67108864 - (q : Int)) * (SN : Int) ≤ val x * (q : Int) * 67108864) : Near (rv x) ((p : Rat) / (q : Rat)) eps := by
  run_tac mark
  have hS := SR_pos
  have hqr : (0 : Rat) < (q : Rat) := by have := Rat.natCast_lt_natCast.mpr hq; simpa using this
  have ex := rv_mul x
  have r1 := Rat.intCast_le_intCast.mpr h1
  have r2 := Rat.intCast_le_intCast.mpr h2
  rw [Rat.intCast_mul, Rat.intCast_mul, Rat.intCast_mul, Rat.intCast_natCast, Rat.intCast_natCast, ← ex] at r1 r2
  rw [Rat.intCast_add, Rat.intCast_mul, Rat.intCast_natCast] at r1
  rw [Rat.intCast_sub, Rat.intCast_mul, Rat.intCast_natCast] at r2
  have c : ((67108864 : Int) : Rat) = 67108864 := rfl
  rw [c] at r1 r2
  generalize hz : (p : Rat) / (q : Rat) = z
  have hp : (p : Rat) = z * (q : Rat) := by rw [← hz]; grind
  rw [hp] at r1 r2
  have hqS : (0 : Rat) < (q : Rat) * ((SN : Nat) : Rat) := Rat.mul_pos hqr hS
  constructor
  · refine Rat.le_of_mul_le_mul_right (c := (q : Rat) * ((SN : Nat) : Rat)) ?_ hqS
    grind
  · refine Rat.le_of_mul_le_mul_right (c := (q : Rat) * ((SN : Nat) : Rat)) ?_ hqS
    grind
  run_tac squeeze

theorem c_one : Fn 4607182418800017408 ∧ rv 4607182418800017408 = 1 := ⟨fn_of (by decide +kernel), by rw [const_eq (p := 1) (q := 1) (by decide) (by decide +kernel)]; decide +kernel⟩

theorem c_two : Fn 4611686018427387904 ∧ rv 4611686018427387904 = 2 := ⟨fn_of (by decide +kernel), by rw [const_eq (p := 2) (q := 1) (by decide) (by decide +kernel)]; decide +kernel⟩

theorem c_four : Fn 4616189618054758400 ∧ rv 4616189618054758400 = 4 := ⟨fn_of (by decide +kernel), by rw [const_eq (p := 4) (q := 1) (by decide) (by decide +kernel)]; decide +kernel⟩

theorem c_six : Fn 4618441417868443648 ∧ rv 4618441417868443648 = 6 := ⟨fn_of (by decide +kernel), by rw [const_eq (p := 6) (q := 1) (by decide) (by decide +kernel)]; decide +kernel⟩

theorem c_eight : Fn 4620693217682128896 ∧ rv 4620693217682128896 = 8 := ⟨fn_of (by decide +kernel), by rw [const_eq (p := 8) (q := 1) (by decide) (by decide +kernel)]; decide +kernel⟩

theorem c_half : Fn 4602678819172646912 ∧ rv 4602678819172646912 = 1 / 2 := ⟨fn_of (by decide +kernel), by rw [const_eq (p := 1) (q := 2) (by decide) (by decide +kernel)]; decide +kernel⟩

theorem c_sixth : Fn 4595172819793696085 ∧ Near (rv 4595172819793696085) (1 / 6) eps := ⟨fn_of (by decide +kernel), const_near (p := 1) (q := 6) (by decide) (by decide +kernel) (by decide +kernel)⟩

theorem c_third : Fn 4599676419421066581 ∧ Near (rv 4599676419421066581) (1 / 3) eps := ⟨fn_of (by decide +kernel), const_near (p := 1) (q := 3) (by decide) (by decide +kernel) (by decide +kernel)⟩

theorem c_thirds : Fn 4604180019048437077 ∧ Near (rv 4604180019048437077) (2 / 3) eps := ⟨fn_of (by decide +kernel), const_near (p := 2) (q := 3) (by decide) (by decide +kernel) (by decide +kernel)⟩

theorem decode_one : decode 4607182418800017408 = .fin false (2 ^ 52) (-52) := by with_unfolding_all rfl

theorem div_back {a b : Rat} (hb : 0 < b) : a / b * b = a := by grind

theorem fmod_app {x : UInt64} (hx : Fn x) : ∃ (z : Rat) (n : Int), rv x = z + (n : Rat) ∧ -1 < z ∧ z < 1 ∧ Fn (Float64.fmod x 4607182418800017408) ∧ Near (rv (Float64.fmod x 4607182418800017408)) z eps := by
  run_tac mark
  obtain ⟨a, m, e, hx⟩ := hx
  have he := decode_ge hx
  have hS := SR_pos
  have ex := rv_mul x
  have hv := val_eq hx
  have hf : Float64.fmod x 4607182418800017408 = ofBin a ((m * 2 ^ (e - min e (-52)).toNat) % (2 ^ 52 * 2 ^ (-52 - min e (-52)).toNat)) (min e (-52)) := by
    unfold Float64.fmod
    rw [hx, decode_one]
    rfl
  have hr := ofBin_right (neg := a) (M := (m * 2 ^ (e - min e (-52)).toNat) % (2 ^ 52 * 2 ^ (-52 - min e (-52)).toNat)) (g := min e (-52)) (by omega)
  rw [← hf] at hr
  have e1 : (e - min e (-52)).toNat + (min e (-52) + 1074).toNat = (e + 1074).toNat := by omega
  have e2 : 52 + (-52 - min e (-52)).toNat + (min e (-52) + 1074).toNat = 1074 := by omega
  have eW : (m * 2 ^ (e - min e (-52)).toNat) % (2 ^ 52 * 2 ^ (-52 - min e (-52)).toNat) * 2 ^ (min e (-52) + 1074).toNat = (m * 2 ^ (e + 1074).toNat) % SN := by
    rw [← Nat.mul_mod_mul_right, Nat.mul_assoc, ← Nat.pow_add, e1, ← Nat.pow_add, ← Nat.pow_add, e2]
    rfl
  rw [eW] at hr
  generalize m * 2 ^ (e + 1074).toNat = M at *
  have hlt := Nat.mod_lt M SN_pos
  have hdm := Nat.div_add_mod M SN
  generalize M % SN = w at *
  generalize M / SN = q at *
  have hwS : ((w : Nat) : Rat) < ((SN : Nat) : Rat) := Rat.natCast_lt_natCast.mpr hlt
  have hw0 : (0 : Rat) ≤ ((w : Nat) : Rat) := by have := Rat.natCast_le_natCast.mpr (Nat.zero_le w); simpa using this
  have hMr : ((M : Nat) : Rat) = ((SN : Nat) : Rat) * ((q : Nat) : Rat) + ((w : Nat) : Rat) := by rw [← hdm, Rat.natCast_add, Rat.natCast_mul]
  have hzz : ((w : Nat) : Rat) / ((SN : Nat) : Rat) * ((SN : Nat) : Rat) = ((w : Nat) : Rat) := div_back hS
  have hdiv0 : 0 ≤ ((w : Nat) : Rat) / ((SN : Nat) : Rat) := by
    refine Rat.le_of_mul_le_mul_right (c := ((SN : Nat) : Rat)) ?_ hS
    rw [hzz, Rat.zero_mul]; exact hw0
  have hdiv1 : ((w : Nat) : Rat) / ((SN : Nat) : Rat) < 1 := by
    refine Rat.lt_of_mul_lt_mul_right (c := ((SN : Nat) : Rat)) ?_ (Rat.le_of_lt hS)
    rw [hzz, Rat.one_mul]; exact hwS
  clear eW hf e1 e2 he hx
  generalize ((w : Nat) : Rat) / ((SN : Nat) : Rat) = y at *
  have hcan : ∀ a b : Rat, a * ((SN : Nat) : Rat) = b * ((SN : Nat) : Rat) → a = b := fun a b h => by grind
  cases a
  · refine ⟨y, (q : Int), ?_, by grind, by grind, right_app hr (by decide) (by simp; grind) (by grind)⟩
    refine hcan _ _ ?_
    have : (val x : Rat) = ((M : Nat) : Rat) := by rw [hv, cast_sgn]; simp
    rw [ex, this, hMr, Rat.intCast_natCast]
    grind
  · refine ⟨-y, -(q : Int), ?_, by grind, by grind, right_app hr (by decide) (by simp; grind) (by grind)⟩
    refine hcan _ _ ?_
    have : (val x : Rat) = -((M : Nat) : Rat) := by rw [hv, cast_sgn]; simp
    rw [ex, this, hMr, Rat.intCast_neg, Rat.intCast_natCast]
    grind
  run_tac squeeze

/-- the remainder by one -/
noncomputable abbrev mod1 (x : UInt64) : UInt64 := (Float64.divmod x 4607182418800017408).2
theorem mod1_eq (x : UInt64) : mod1 x = if isZero (Float64.fmod x 4607182418800017408) = true then copysign (zero false) 4607182418800017408 else if (lt 4607182418800017408 (zero false) != lt (Float64.fmod x 4607182418800017408) (zero false)) = true then add (Float64.fmod x 4607182418800017408) 4607182418800017408 else Float64.fmod x 4607182418800017408 := by
  run_tac mark
  unfold mod1 Float64.divmod
  cases h1 : isZero (Float64.fmod x 4607182418800017408)
  · cases h2 : (lt 4607182418800017408 (zero false) != lt (Float64.fmod x 4607182418800017408) (zero false))
    · simp [h1, h2]
    · simp [h1, h2]
  · simp [h1]
  run_tac squeeze

theorem mod1_app {x : UInt64} (hx : Fn x) : ∃ n : Int, Fn (mod1 x) ∧ Near (rv (mod1 x)) (rv x - (n : Rat)) (3 * eps) ∧ -(3 * eps) ≤ rv (mod1 x) ∧ rv (mod1 x) ≤ 1 + 3 * eps := by
  run_tac mark
  obtain ⟨z, n, e, z1, z2, hf, hn⟩ := fmod_app hx
  rw [mod1_eq]
  unfold Near at *
  split
  · rename_i h
    have h0 := zero_back hf h
    have hc : copysign (zero false) 4607182418800017408 = zero false := by decide +kernel
    rw [hc]
    obtain ⟨a, b⟩ := zero_fn false
    refine ⟨n, a, ?_, ?_, ?_⟩ <;> rw [b] <;> grind
  · have hlt0 : lt 4607182418800017408 (zero false) = false := by decide +kernel
    have hl : lt (Float64.fmod x 4607182418800017408) (zero false) = decide (rv (Float64.fmod x 4607182418800017408) < 0) := by
      have := lt_app hf (zero_fn false).1
      rw [(zero_fn false).2] at this
      exact this
    rw [hlt0, hl]
    split
    · rename_i h
      have h : rv (Float64.fmod x 4607182418800017408) < 0 := by simpa using h
      obtain ⟨a, b⟩ := add_app hf c_one.1 (by rw [c_one.2]; grind)
      rw [c_one.2] at b
      unfold Near at b
      refine ⟨n - 1, a, ?_, ?_, ?_⟩
      · have : ((n - 1 : Int) : Rat) = (n : Rat) - 1 := by rw [Rat.intCast_sub]; rfl
        rw [this]; grind
      · grind
      · grind
    · rename_i h
      have h : ¬ rv (Float64.fmod x 4607182418800017408) < 0 := by simpa using h
      refine ⟨n, hf, ?_, ?_, ?_⟩ <;> grind
  run_tac squeeze

end
theorem quietF3 : True := by
  run_tac quiet
  trivial
-- F4
section
open PySem
theorem near_mul {x y z d K : Rat} (h : Near x y d) (hz : -K ≤ z ∧ z ≤ K) : Near (x * z) (y * z) (d * K) := by
  run_tac mark
  obtain ⟨h1, h2⟩ := h
  have a1 : 0 ≤ (d - (x - y)) * (K - z) := Rat.mul_nonneg (by grind) (by grind)
  have a2 : 0 ≤ (d + (x - y)) * (K + z) := Rat.mul_nonneg (by grind) (by grind)
  have a3 : 0 ≤ (d - (x - y)) * (K + z) := Rat.mul_nonneg (by grind) (by grind)
  have a4 : 0 ≤ (d + (x - y)) * (K - z) := Rat.mul_nonneg (by grind) (by grind)
  constructor <;> grind
  run_tac squeeze

theorem mul_bd {x z a K : Rat} (h : -a ≤ x ∧ x ≤ a) (hz : -K ≤ z ∧ z ≤ K) : -(a * K) ≤ x * z ∧ x * z ≤ a * K := by
  run_tac mark
  have := near_mul (x := x) (y := 0) (d := a) ⟨by grind, by grind⟩ hz
  unfold Near at this
  grind
  run_tac squeeze

theorem near_trans {x y z d e f : Rat} (h : Near x y d) (h2 : Near y z e) (hf : d + e ≤ f) : Near x z f := by unfold Near at *; grind

noncomputable def phi (x : Rat) : Rat := if x < 1 / 6 then 6 * x else if x < 1 / 2 then 1 else if x < 2 / 3 then 4 - 6 * x else 0
theorem phi_lip {a b d : Rat} (h : Near a b d) : Near (phi a) (phi b) (6 * d) := by
  run_tac mark
  obtain ⟨h1, h2⟩ := h
  unfold phi Near
  split <;> (try split) <;> (try split) <;> (try split) <;> (try split) <;> (try split) <;> constructor <;> grind
  run_tac squeeze

theorem v_core {m1 m2 h : UInt64} (h1 : Fn m1) (h2 : Fn m2) (hA : 0 ≤ rv m1) (hB : rv m1 ≤ rv m2) (hB1 : rv m2 ≤ 1) (hh : Fn h) (r1 : -1 ≤ rv h) (r2 : rv h ≤ 2) :
    Fn (Float64.add m1 (Float64.mul (Float64.mul (Float64.sub m2 m1) h) 4618441417868443648)) ∧ Near (rv (Float64.add m1 (Float64.mul (Float64.mul (Float64.sub m2 m1) h) 4618441417868443648))) (rv m1 + (rv m2 - rv m1) * (6 * rv h)) (20 * eps) := by
  run_tac mark
  obtain ⟨fd, nd⟩ := sub_app h2 h1 ⟨by grind, by grind⟩
  have bd : -2 ≤ rv (Float64.sub m2 m1) ∧ rv (Float64.sub m2 m1) ≤ 2 := by unfold Near at nd; grind
  have bp := mul_bd bd (z := rv h) (K := 2) ⟨by grind, by grind⟩
  obtain ⟨fp, np⟩ := mul_app fd hh ⟨by grind, by grind⟩
  have n1 := near_mul nd (z := rv h) (K := 2) ⟨by grind, by grind⟩
  have n2 := near_trans np n1 (f := 3 * eps) (by grind)
  have bw := mul_bd (x := rv m2 - rv m1) (a := 1) (z := rv h) (K := 2) ⟨by grind, by grind⟩ ⟨by grind, by grind⟩
  obtain ⟨fq, nq⟩ := mul_app fp c_six.1 (by rw [c_six.2]; unfold Near at n2; constructor <;> grind)
  rw [c_six.2] at nq
  obtain ⟨fr, nr⟩ := add_app h1 fq (by unfold Near at nq n2; constructor <;> grind)
  refine ⟨fr, ?_⟩
  unfold Near at *
  constructor <;> grind
  run_tac squeeze

theorem scale_le {w x d : Rat} (hw : 0 ≤ w) (hw1 : w ≤ 1) (hx : x ≤ d) (hd : 0 ≤ d) : w * x ≤ d := by
  run_tac mark
  have a : 0 ≤ w * (d - x) := Rat.mul_nonneg hw (by grind)
  have b : 0 ≤ (1 - w) * d := Rat.mul_nonneg (by grind) hd
  grind
  run_tac squeeze

theorem near_scale {w x y d : Rat} (hw : 0 ≤ w) (hw1 : w ≤ 1) (hd : 0 ≤ d) (h : Near x y d) : Near (w * x) (w * y) d := by
  run_tac mark
  obtain ⟨a, b⟩ := h
  have c1 := scale_le hw hw1 (x := x - y) (d := d) (by grind) hd
  have c2 := scale_le hw hw1 (x := y - x) (d := d) (by grind) hd
  constructor <;> grind
  run_tac squeeze

theorem v_app {m1 m2 hue : UInt64} (h1 : Fn m1) (h2 : Fn m2) (hA : 0 ≤ rv m1) (hB : rv m1 ≤ rv m2) (hB1 : rv m2 ≤ 1) (hh : Fn hue) :
    ∃ n : Int, -(6 * eps) ≤ rv hue - (n : Rat) ∧ rv hue - (n : Rat) ≤ 1 + 6 * eps ∧ Fn (vF m1 m2 hue) ∧ Near (rv (vF m1 m2 hue)) (rv m1 + (rv m2 - rv m1) * phi (rv hue - (n : Rat))) (60 * eps) := by
  run_tac mark
  obtain ⟨n, fm, nm, l1, l2⟩ := mod1_app hh
  refine ⟨n, by unfold Near at nm; grind, by unfold Near at nm; grind, ?_⟩
  have hl := phi_lip nm
  have hs := near_scale (w := rv m2 - rv m1) (by grind) (by grind) (by grind) hl
  have e1 : (Float64.cmp (mod1 hue) 4595172819793696085 == some .lt) = decide (rv (mod1 hue) < rv 4595172819793696085) := lt_app fm c_sixth.1
  have e2 : (Float64.cmp (mod1 hue) 4602678819172646912 == some .lt) = decide (rv (mod1 hue) < rv 4602678819172646912) := lt_app fm c_half.1
  have e3 : (Float64.cmp (mod1 hue) 4604180019048437077 == some .lt) = decide (rv (mod1 hue) < rv 4604180019048437077) := lt_app fm c_thirds.1
  have k1 := c_sixth.2
  have k3 := c_thirds.2
  rw [c_half.2] at e2
  have hv : vF m1 m2 hue = if decide (rv (mod1 hue) < rv 4595172819793696085) = true then Float64.add m1 (Float64.mul (Float64.mul (Float64.sub m2 m1) (mod1 hue)) 4618441417868443648) else if decide (rv (mod1 hue) < 1 / 2) = true then m2 else if decide (rv (mod1 hue) < rv 4604180019048437077) = true then Float64.add m1 (Float64.mul (Float64.mul (Float64.sub m2 m1) (Float64.sub 4604180019048437077 (mod1 hue))) 4618441417868443648) else m1 := by
    rw [← e1, ← e2, ← e3]; rfl
  rw [hv]
  have done : ∀ (r : UInt64) (p : Rat), Fn r → Near (rv r) (rv m1 + (rv m2 - rv m1) * p) (30 * eps) → Near p (phi (rv (mod1 hue))) (12 * eps) → Fn r ∧ Near (rv r) (rv m1 + (rv m2 - rv m1) * phi (rv hue - (n : Rat))) (60 * eps) := by
    intro r p fr nr np
    refine ⟨fr, ?_⟩
    have hq := near_scale (w := rv m2 - rv m1) (by grind) (by grind) (by grind) np
    unfold Near at *
    constructor <;> grind
  by_cases c1 : rv (mod1 hue) < rv 4595172819793696085
  · rw [if_pos (by simpa using c1)]
    obtain ⟨a, b⟩ := v_core h1 h2 hA hB hB1 fm (by grind) (by grind)
    refine done _ (6 * rv (mod1 hue)) a (by unfold Near at *; grind) ?_
    unfold Near phi at *
    split
    · constructor <;> grind
    · rw [if_pos (by grind)]; constructor <;> grind
  · rw [if_neg (by simpa using c1)]
    by_cases c2 : rv (mod1 hue) < 1 / 2
    · rw [if_pos (by simpa using c2)]
      refine done _ 1 h2 ⟨by grind, by grind⟩ ?_
      unfold Near phi at *
      split
      · constructor <;> grind
      · constructor <;> grind
    · rw [if_neg (by simpa using c2)]
      by_cases c3 : rv (mod1 hue) < rv 4604180019048437077
      · rw [if_pos (by simpa using c3)]
        obtain ⟨fs, ns⟩ := sub_app c_thirds.1 fm (by unfold Near at *; constructor <;> grind)
        obtain ⟨a, b⟩ := v_core h1 h2 hA hB hB1 fs (by unfold Near at *; grind) (by unfold Near at *; grind)
        refine done _ (6 * rv (Float64.sub 4604180019048437077 (mod1 hue))) a (by unfold Near at *; grind) ?_
        unfold Near phi at *
        rw [if_neg (by grind), if_neg c2]
        split <;> constructor <;> grind
      · rw [if_neg (by simpa using c3)]
        refine done _ 0 h1 ⟨by grind, by grind⟩ ?_
        unfold Near phi at *
        rw [if_neg (by grind), if_neg c2]
        split <;> constructor <;> grind
  run_tac squeeze

end
theorem quietF4 : True := by
  run_tac quiet
  trivial
-- F5
section
open PySem
/-- a colour's share of the way, in parts, of its place u of 3 * parts -/
noncomputable def fU (parts u : Int) : Int := if 2 * u < parts then 2 * u else if 2 * u < 3 * parts then parts else if u < 2 * parts then 4 * parts - 2 * u else 0
noncomputable def fC (parts j c : Int) : Int := fU parts ((3 * j + c * parts) % (3 * parts))
theorem lt_scale {x y K : Rat} (hK : 0 < K) : x < y ↔ x * K < y * K := by
  run_tac mark
  constructor
  · intro h; exact Rat.mul_lt_mul_of_pos_right h hK
  · intro h; exact Rat.lt_of_mul_lt_mul_right h (Rat.le_of_lt hK)
  run_tac squeeze

theorem phi_at {parts u : Int} (hp : 0 < parts) : phi ((u : Rat) / (3 * (parts : Rat))) = (fU parts u : Rat) / (parts : Rat) := by
  run_tac mark
  have hP : (0 : Rat) < (parts : Rat) := by have := Rat.intCast_lt_intCast.mpr hp; simpa using this
  have hq : (u : Rat) / (3 * (parts : Rat)) * (3 * (parts : Rat)) = (u : Rat) := div_back (by grind)
  have ed : ∀ f : Int, (f : Rat) / (parts : Rat) * (parts : Rat) = (f : Rat) := fun f => div_back hP
  have can : ∀ x y : Rat, x * (parts : Rat) = y * (parts : Rat) → x = y := fun x y h => by grind
  generalize (u : Rat) / (3 * (parts : Rat)) = q at *
  have e1 : q < 1 / 6 ↔ 2 * u < parts := by
    rw [lt_scale (K := 6 * (parts : Rat)) (by grind), ← Rat.intCast_lt_intCast, Rat.intCast_mul]
    have c2 : ((2 : Int) : Rat) = 2 := rfl
    have a : q * (6 * (parts : Rat)) = ((2 : Int) : Rat) * (u : Rat) := by rw [c2]; grind
    have b : 1 / 6 * (6 * (parts : Rat)) = (parts : Rat) := by grind
    rw [a, b]
  have e2 : q < 1 / 2 ↔ 2 * u < 3 * parts := by
    rw [lt_scale (K := 6 * (parts : Rat)) (by grind), ← Rat.intCast_lt_intCast, Rat.intCast_mul, Rat.intCast_mul]
    have c2 : ((2 : Int) : Rat) = 2 := rfl
    have c3 : ((3 : Int) : Rat) = 3 := rfl
    have a : q * (6 * (parts : Rat)) = ((2 : Int) : Rat) * (u : Rat) := by rw [c2]; grind
    have b : 1 / 2 * (6 * (parts : Rat)) = ((3 : Int) : Rat) * (parts : Rat) := by rw [c3]; grind
    rw [a, b]
  have e3 : q < 2 / 3 ↔ u < 2 * parts := by
    rw [lt_scale (K := 3 * (parts : Rat)) (by grind), ← Rat.intCast_lt_intCast, Rat.intCast_mul]
    have c2 : ((2 : Int) : Rat) = 2 := rfl
    have b : 2 / 3 * (3 * (parts : Rat)) = ((2 : Int) : Rat) * (parts : Rat) := by rw [c2]; grind
    rw [hq, b]
  unfold phi fU
  simp only [e1, e2, e3]
  have c2 : ((2 : Int) : Rat) = 2 := rfl
  have c4 : ((4 : Int) : Rat) = 4 := rfl
  have c0 : ((0 : Int) : Rat) = 0 := rfl
  by_cases a1 : 2 * u < parts
  · rw [if_pos a1, if_pos a1]
    refine can _ _ ?_
    rw [ed, Rat.intCast_mul, c2]; grind
  · rw [if_neg a1, if_neg a1]
    by_cases a2 : 2 * u < 3 * parts
    · rw [if_pos a2, if_pos a2]
      refine can _ _ ?_
      rw [ed]; grind
    · rw [if_neg a2, if_neg a2]
      by_cases a3 : u < 2 * parts
      · rw [if_pos a3, if_pos a3]
        refine can _ _ ?_
        rw [ed, Rat.intCast_sub, Rat.intCast_mul, Rat.intCast_mul, c2, c4]; grind
      · rw [if_neg a3, if_neg a3]
        refine can _ _ ?_
        rw [ed, c0]; grind
  run_tac squeeze

theorem fU_mod {parts u : Int} (hp : 2 ≤ parts ∧ parts ≤ 7) (h0 : 0 ≤ u) (h1 : u ≤ 3 * parts) : fU parts u = fU parts (u % (3 * parts)) := by
  run_tac mark
  by_cases h : u = 3 * parts
  · subst h
    rw [Int.emod_self]
    unfold fU
    rw [if_neg (by omega), if_neg (by omega), if_neg (by omega), if_pos (by omega)]
    rfl
  · rw [Int.emod_eq_of_lt h0 (by omega)]
  run_tac squeeze

theorem color_app {m1 m2 x : UInt64} {parts e c : Int} (hp : 2 ≤ parts ∧ parts ≤ 7) (h1 : Fn m1) (h2 : Fn m2) (hA : 0 ≤ rv m1) (hB : rv m1 ≤ rv m2) (hB1 : rv m2 ≤ 1) (hx : Fn x) (nx : Near (rv x) ((e : Rat) / (parts : Rat) + (c : Rat) / 3) (3 * eps)) :
    Fn (vF m1 m2 x) ∧ Near (rv (vF m1 m2 x)) (rv m1 + (rv m2 - rv m1) * ((fC parts (e % parts) c : Rat) / (parts : Rat))) (100 * eps) := by
  run_tac mark
  obtain ⟨n, l1, l2, fv, nv⟩ := v_app h1 h2 hA hB hB1 hx
  refine ⟨fv, ?_⟩
  have hP2 : (2 : Rat) ≤ (parts : Rat) := by have := Rat.intCast_le_intCast.mpr hp.1; simpa using this
  have hP7 : (parts : Rat) ≤ 7 := by have := Rat.intCast_le_intCast.mpr hp.2; simpa using this
  have hP : (0 : Rat) < (parts : Rat) := by grind
  have c3 : ((3 : Int) : Rat) = 3 := rfl
  have eu : ((3 * e + c * parts - 3 * parts * n : Int) : Rat) / (3 * (parts : Rat)) = (e : Rat) / (parts : Rat) + (c : Rat) / 3 - (n : Rat) := by
    rw [Rat.intCast_sub, Rat.intCast_add, Rat.intCast_mul, Rat.intCast_mul, Rat.intCast_mul, Rat.intCast_mul, c3]
    grind
  have hq := div_back (a := ((3 * e + c * parts - 3 * parts * n : Int) : Rat)) (b := 3 * (parts : Rat)) (by grind)
  have hl := phi_at (parts := parts) (u := 3 * e + c * parts - 3 * parts * n) (by omega)
  have nt : Near (rv x - (n : Rat)) (((3 * e + c * parts - 3 * parts * n : Int) : Rat) / (3 * (parts : Rat))) (3 * eps) := by
    rw [eu]; unfold Near at *; constructor <;> grind
  have hu0 : 0 ≤ 3 * e + c * parts - 3 * parts * n := by
    have h3 : -1 < 3 * e + c * parts - 3 * parts * n := by
      apply Rat.intCast_lt_intCast.mp
      have cm : ((-1 : Int) : Rat) = -1 := rfl
      rw [cm, ← hq]
      unfold Near at nt
      generalize ((3 * e + c * parts - 3 * parts * n : Int) : Rat) / (3 * (parts : Rat)) = q at *
      have : -(9 * eps) ≤ q := by grind
      have := Rat.mul_le_mul_of_nonneg_right this (c := 3 * (parts : Rat)) (by grind)
      grind
    omega
  have hu1 : 3 * e + c * parts - 3 * parts * n ≤ 3 * parts := by
    have h3 : 3 * e + c * parts - 3 * parts * n < 3 * parts + 1 := by
      apply Rat.intCast_lt_intCast.mp
      have cm : ((1 : Int) : Rat) = 1 := rfl
      rw [Rat.intCast_add, Rat.intCast_mul, cm, c3, ← hq]
      unfold Near at nt
      generalize ((3 * e + c * parts - 3 * parts * n : Int) : Rat) / (3 * (parts : Rat)) = q at *
      have : q ≤ 1 + 9 * eps := by grind
      have := Rat.mul_le_mul_of_nonneg_right this (c := 3 * (parts : Rat)) (by grind)
      grind
    omega
  have em : (3 * e + c * parts - 3 * parts * n) % (3 * parts) = (3 * (e % parts) + c * parts) % (3 * parts) := by
    have e1 : 3 * e + c * parts - 3 * parts * n = 3 * (e % parts) + c * parts + 3 * parts * (e / parts - n) := by
      have := Int.mul_ediv_add_emod e parts
      grind
    rw [e1, Int.add_mul_emod_self_left]
  rw [fU_mod hp hu0 hu1, em] at hl
  have hh := phi_lip nt
  rw [hl] at hh
  have hs := near_scale (w := rv m2 - rv m1) (by grind) (by grind) (by grind) hh
  unfold fC
  unfold Near at *
  constructor <;> grind
  run_tac squeeze

end
theorem quietF5 : True := by
  run_tac quiet
  trivial
-- F6
section
open PySem
theorem max3_app {x y z : UInt64} (hx : Fn x) (hy : Fn y) (hz : Fn z) : Fn (max3 x y z) ∧ rv x ≤ rv (max3 x y z) ∧ rv y ≤ rv (max3 x y z) ∧ rv z ≤ rv (max3 x y z) ∧ (max3 x y z = x ∨ max3 x y z = y ∨ max3 x y z = z) := by
  run_tac mark
  unfold max3
  rw [lt_app hx hy]
  by_cases h : rv x < rv y
  · simp only [h, decide_true, if_true]; rw [lt_app hy hz]
    by_cases h2 : rv y < rv z
    · rw [if_pos (by simpa using h2)]
      exact ⟨hz, by grind, by grind, by grind, .inr (.inr rfl)⟩
    · rw [if_neg (by simpa using h2)]
      exact ⟨hy, by grind, by grind, by grind, .inr (.inl rfl)⟩
  · simp only [h, decide_false, Bool.false_eq_true, if_false]; rw [lt_app hx hz]
    by_cases h2 : rv x < rv z
    · rw [if_pos (by simpa using h2)]
      exact ⟨hz, by grind, by grind, by grind, .inr (.inr rfl)⟩
    · rw [if_neg (by simpa using h2)]
      exact ⟨hx, by grind, by grind, by grind, .inl rfl⟩
  run_tac squeeze

theorem min3_app {x y z : UInt64} (hx : Fn x) (hy : Fn y) (hz : Fn z) : Fn (min3 x y z) ∧ rv (min3 x y z) ≤ rv x ∧ rv (min3 x y z) ≤ rv y ∧ rv (min3 x y z) ≤ rv z ∧ (min3 x y z = x ∨ min3 x y z = y ∨ min3 x y z = z) := by
  run_tac mark
  unfold min3
  rw [lt_app hy hx]
  by_cases h : rv y < rv x
  · simp only [h, decide_true, if_true]; rw [lt_app hz hy]
    by_cases h2 : rv z < rv y
    · rw [if_pos (by simpa using h2)]
      exact ⟨hz, by grind, by grind, by grind, .inr (.inr rfl)⟩
    · rw [if_neg (by simpa using h2)]
      exact ⟨hy, by grind, by grind, by grind, .inr (.inl rfl)⟩
  · simp only [h, decide_false, Bool.false_eq_true, if_false]; rw [lt_app hz hx]
    by_cases h2 : rv z < rv x
    · rw [if_pos (by simpa using h2)]
      exact ⟨hz, by grind, by grind, by grind, .inr (.inr rfl)⟩
    · rw [if_neg (by simpa using h2)]
      exact ⟨hx, by grind, by grind, by grind, .inl rfl⟩
  run_tac squeeze

theorem quot_le {y b D : Rat} (hb : 1 / 40 ≤ b) (hD : 0 ≤ D) (h : y * b ≤ D) : y ≤ 40 * D := by
  run_tac mark
  by_cases h2 : y ≤ 40 * D
  · exact h2
  · exfalso
    have h3 : 0 < (y - 40 * D) * b := Rat.mul_pos (by grind) (by grind)
    have h4 : 0 ≤ 40 * D * (b - 1 / 40) := Rat.mul_nonneg (by grind) (by grind)
    grind
  run_tac squeeze

/-- a quotient near its exact value -/
theorem quot_app {x y : UInt64} {p q d1 d2 : Rat} (hx : Fn x) (hy : Fn y) (hq : 0 ≤ q) (hq1 : q ≤ 1) (nx : Near (rv x) (q * p) d1) (ny : Near (rv y) p d2) (hd1 : 0 ≤ d1) (hd2 : 0 ≤ d2) (hy40 : 1 / 40 ≤ rv y) (hs : 40 * (d1 + d2) ≤ 1) :
    Fn (Float64.div x y) ∧ Near (rv (Float64.div x y)) q (eps + 40 * (d1 + d2)) := by
  run_tac mark
  have hb := div_back (a := rv x) (b := rv y) (by grind)
  have ns := near_scale hq hq1 hd2 ny
  generalize hz : rv x / rv y = z at *
  have b1 := quot_le (y := z - q) hy40 (D := d1 + d2) (by grind) (by unfold Near at *; grind)
  have b2 := quot_le (y := q - z) hy40 (D := d1 + d2) (by grind) (by unfold Near at *; grind)
  obtain ⟨fd, nd⟩ := div_app hx hy (by grind) (by rw [hz]; constructor <;> grind)
  rw [hz] at nd
  refine ⟨fd, ?_⟩
  unfold Near at *
  constructor <;> grind
  run_tac squeeze

theorem part_bd {w f : Rat} (hw : 0 ≤ w) (h0 : 0 ≤ f) (h1 : f ≤ 1) : 0 ≤ w * f ∧ w * f ≤ w := by
  run_tac mark
  have a := Rat.mul_nonneg hw h0
  have b := Rat.mul_nonneg hw (show 0 ≤ 1 - f by grind)
  constructor <;> grind
  run_tac squeeze

/-- the colours' greatest and least -/
theorem ends_app {r g b : UInt64} {A w fr fg fb : Rat} (hr : Fn r) (hg : Fn g) (hb : Fn b) (nr : Near (rv r) (A + w * fr) (100 * eps)) (ng : Near (rv g) (A + w * fg) (100 * eps)) (nb : Near (rv b) (A + w * fb) (100 * eps))
    (hw : 1 / 32 ≤ w) (r0 : 0 ≤ fr ∧ fr ≤ 1) (g0 : 0 ≤ fg ∧ fg ≤ 1) (b0 : 0 ≤ fb ∧ fb ≤ 1) (one : fr = 1 ∨ fg = 1 ∨ fb = 1) (zero : fr = 0 ∨ fg = 0 ∨ fb = 0) :
    Fn (max3 r g b) ∧ Near (rv (max3 r g b)) (A + w) (100 * eps) ∧ Fn (min3 r g b) ∧ Near (rv (min3 r g b)) A (100 * eps) := by
  run_tac mark
  obtain ⟨fm, m1, m2, m3, mo⟩ := max3_app hr hg hb
  obtain ⟨fn, n1, n2, n3, no⟩ := min3_app hr hg hb
  have br := part_bd (w := w) (by grind) r0.1 r0.2
  have bg := part_bd (w := w) (by grind) g0.1 g0.2
  have bb := part_bd (w := w) (by grind) b0.1 b0.2
  unfold Near at *
  refine ⟨fm, ⟨?_, ?_⟩, fn, ?_, ?_⟩
  · rcases mo with h | h | h <;> rw [h] <;> grind
  · rcases one with h | h | h <;> subst h <;> grind
  · rcases zero with h | h | h <;> subst h <;> grind
  · rcases no with h | h | h <;> rw [h] <;> grind
  run_tac squeeze

theorem eqF_app {x y : UInt64} (hx : Fn x) (hy : Fn y) : eqF x y = decide (rv x = rv y) := eq_app hx hy

theorem leF_app {x y : UInt64} (hx : Fn x) (hy : Fn y) : leF x y = decide (rv x ≤ rv y) := by
  run_tac mark
  unfold leF
  rw [lt_app hx hy, eq_app hx hy, Bool.eq_iff_iff, Bool.or_eq_true, decide_eq_true_eq, decide_eq_true_eq, decide_eq_true_eq]
  constructor
  · rintro (h | h) <;> grind
  · intro h
    by_cases h2 : rv x = rv y
    · exact .inr h2
    · exact .inl (by grind)
  run_tac squeeze

theorem isOne {x : Rat} {mx f w A : Rat} (nx : Near x (A + w * f) (100 * eps)) (nm : Near mx (A + w) (100 * eps)) (hw : 1 / 32 ≤ w) (h : x = mx) (d : f = 1 ∨ f ≤ 6 / 7) : f = 1 := by
  run_tac mark
  rcases d with d | d
  · exact d
  · exfalso
    have : 0 ≤ w * (6 / 7 - f) := Rat.mul_nonneg (by grind) (by grind)
    unfold Near at *
    grind
  run_tac squeeze

theorem hue_app {r g b mx rg : UInt64} {A w fr fg fb : Rat} (hr : Fn r) (hg : Fn g) (hb : Fn b) (nr : Near (rv r) (A + w * fr) (100 * eps)) (ng : Near (rv g) (A + w * fg) (100 * eps)) (nb : Near (rv b) (A + w * fb) (100 * eps))
    (hA : 0 ≤ A) (hw : 1 / 32 ≤ w) (hAw : A + w ≤ 1) (r0 : 0 ≤ fr ∧ fr ≤ 1) (g0 : 0 ≤ fg ∧ fg ≤ 1) (b0 : 0 ≤ fb ∧ fb ≤ 1) (dr : fr = 1 ∨ fr ≤ 6 / 7) (dg : fg = 1 ∨ fg ≤ 6 / 7) (db : fb = 1 ∨ fb ≤ 6 / 7)
    (hm : Fn mx) (nm : Near (rv mx) (A + w) (100 * eps)) (mo : mx = r ∨ mx = g ∨ mx = b) (hrg : Fn rg) (nrg : Near (rv rg) w (250 * eps)) :
    Fn (hueF r g b mx rg) ∧ ∃ H : Rat, Near (rv (hueF r g b mx rg)) H (40000 * eps) ∧ ((fr = 1 ∧ H = fg - fb) ∨ (fg = 1 ∧ H = 2 + fb - fr) ∨ (fb = 1 ∧ H = 4 + fr - fg)) := by
  run_tac mark
  have br := part_bd (w := w) (by grind) r0.1 r0.2
  have bg := part_bd (w := w) (by grind) g0.1 g0.2
  have bb := part_bd (w := w) (by grind) b0.1 b0.2
  have one : ∀ (c : UInt64) (f : Rat), Fn c → Near (rv c) (A + w * f) (100 * eps) → 0 ≤ f ∧ f ≤ 1 → Fn (Float64.div (Float64.sub mx c) rg) ∧ Near (rv (Float64.div (Float64.sub mx c) rg)) (1 - f) (19000 * eps) := by
    intro c f hc nc f0
    have bc := part_bd (w := w) (by grind) f0.1 f0.2
    obtain ⟨fs, ns⟩ := sub_app hm hc (by unfold Near at *; constructor <;> grind)
    have n1 : Near (rv (Float64.sub mx c)) ((1 - f) * w) (201 * eps) := by unfold Near at *; constructor <;> grind
    obtain ⟨fd, nd⟩ := quot_app fs hrg (by grind) (by grind) n1 nrg (by grind) (by grind) (by unfold Near at *; grind) (by grind)
    exact ⟨fd, by unfold Near at *; constructor <;> grind⟩
  obtain ⟨f1, n1⟩ := one r fr hr nr r0
  obtain ⟨f2, n2⟩ := one g fg hg ng g0
  obtain ⟨f3, n3⟩ := one b fb hb nb b0
  unfold hueF
  dsimp only
  rw [eqF_app hr hm, eqF_app hg hm]
  by_cases h1 : rv r = rv mx
  · rw [if_pos (by simpa using h1)]
    have e1 := isOne nr nm hw h1 dr
    obtain ⟨fs, ns⟩ := sub_app f3 f2 (by unfold Near at *; constructor <;> grind)
    exact ⟨fs, fg - fb, by unfold Near at *; constructor <;> grind, .inl ⟨e1, rfl⟩⟩
  · rw [if_neg (by simpa using h1)]
    by_cases h2 : rv g = rv mx
    · rw [if_pos (by simpa using h2)]
      have e1 := isOne ng nm hw h2 dg
      obtain ⟨fa, na⟩ := add_app c_two.1 f1 (by rw [c_two.2]; unfold Near at *; constructor <;> grind)
      rw [c_two.2] at na
      obtain ⟨fs, ns⟩ := sub_app fa f3 (by unfold Near at *; constructor <;> grind)
      exact ⟨fs, 2 + fb - fr, by unfold Near at *; constructor <;> grind, .inr (.inl ⟨e1, rfl⟩)⟩
    · rw [if_neg (by simpa using h2)]
      have h3 : rv b = rv mx := by
        rcases mo with h | h | h
        · exact absurd (by rw [h]) h1
        · exact absurd (by rw [h]) h2
        · rw [h]
      have e1 := isOne nb nm hw h3 db
      obtain ⟨fa, na⟩ := add_app c_four.1 f2 (by rw [c_four.2]; unfold Near at *; constructor <;> grind)
      rw [c_four.2] at na
      obtain ⟨fs, ns⟩ := sub_app fa f1 (by unfold Near at *; constructor <;> grind)
      exact ⟨fs, 4 + fr - fg, by unfold Near at *; constructor <;> grind, .inr (.inr ⟨e1, rfl⟩)⟩
  run_tac squeeze

end
theorem quietF6 : True := by
  run_tac quiet
  trivial
-- F7
section
open PySem
noncomputable def m2F (l s : UInt64) : UInt64 := if (Float64.cmp l 4602678819172646912 == some .lt || Float64.cmp l 4602678819172646912 == some .eq) then Float64.mul l (Float64.add 4607182418800017408 s) else Float64.sub (Float64.add l s) (Float64.mul l s)
noncomputable def m1F (l s : UInt64) : UInt64 := Float64.sub (Float64.mul 4611686018427387904 l) (m2F l s)
theorem hlsF_eq {h l s : UInt64} (z : (Float64.cmp s 0 == some .eq) = false) : hlsF h l s = (vF (m1F l s) (m2F l s) (Float64.add h 4599676419421066581), vF (m1F l s) (m2F l s) h, vF (m1F l s) (m2F l s) (Float64.sub h 4599676419421066581)) := by
  run_tac mark
  unfold hlsF
  rw [z]
  rfl
  run_tac squeeze

noncomputable abbrev lF (i : Int) : UInt64 := Float64.div (Float64.ofInt i) 4620693217682128896
noncomputable def bM (i k : Int) : Int := if i ≤ 4 then i * (8 + k) else 8 * i + 8 * k - i * k
noncomputable def mCheck (i k : Nat) : Bool :=
  !(Float64.cmp (lF k) 0 == some .eq) && Float64.isFinite (m1F (lF i) (lF k)) && Float64.isFinite (m2F (lF i) (lF k)) &&
  (Float64.val (m1F (lF i) (lF k)) * 64 == (16 * (i : Int) - bM i k) * (SN : Int)) && (Float64.val (m2F (lF i) (lF k)) * 64 == bM i k * (SN : Int))
theorem mChecks : ((List.range 8).all fun i => (List.range 9).all fun k => i == 0 || k == 0 || mCheck i k) = true := by decide +kernel

theorem m_facts {i k : Int} (hi : 1 ≤ i ∧ i ≤ 7) (hk : 1 ≤ k ∧ k ≤ 8) : (Float64.cmp (lF k) 0 == some .eq) = false ∧ Fn (m1F (lF i) (lF k)) ∧ Fn (m2F (lF i) (lF k)) ∧ rv (m1F (lF i) (lF k)) = ((16 * i - bM i k : Int) : Rat) / 64 ∧ rv (m2F (lF i) (lF k)) = ((bM i k : Int) : Rat) / 64 := by
  run_tac mark
  have h := List.all_eq_true.mp (List.all_eq_true.mp mChecks i.toNat (List.mem_range.mpr (by omega))) k.toNat (List.mem_range.mpr (by omega))
  have h1 : (i.toNat == 0) = false := by simp; omega
  have h2 : (k.toNat == 0) = false := by simp; omega
  rw [h1, h2, Bool.false_or, Bool.false_or] at h
  unfold mCheck at h
  rw [Int.toNat_of_nonneg (by omega), Int.toNat_of_nonneg (by omega)] at h
  simp only [Bool.and_eq_true, Bool.not_eq_true', beq_iff_eq] at h
  obtain ⟨⟨⟨⟨a, b⟩, c⟩, d⟩, e⟩ := h
  refine ⟨a, fn_of b, fn_of c, ?_, ?_⟩
  · exact const_eq (q := 64) (by decide) d
  · exact const_eq (q := 64) (by decide) e
  run_tac squeeze

noncomputable def fCheck (p j : Nat) : Bool :=
  let r := fC p j 1; let g := fC p j 0; let b := fC p j (-1)
  decide (0 ≤ r ∧ r ≤ p) && decide (0 ≤ g ∧ g ≤ p) && decide (0 ≤ b ∧ b ≤ p) && decide (r = p ∨ g = p ∨ b = p) && decide (r = 0 ∨ g = 0 ∨ b = 0) &&
  decide (r = p → (g - b - 6 * j) % (6 * p) = 0) && decide (g = p → (2 * p + b - r - 6 * j) % (6 * p) = 0) && decide (b = p → (4 * p + r - g - 6 * j) % (6 * p) = 0)
theorem fChecks : ((List.range 8).all fun p => (List.range 8).all fun j => decide (p < 2) || decide (p ≤ j) || fCheck p j) = true := by decide +kernel

theorem f_facts {p j : Int} (hp : 2 ≤ p ∧ p ≤ 7) (hj : 0 ≤ j ∧ j < p) :
    (0 ≤ fC p j 1 ∧ fC p j 1 ≤ p) ∧ (0 ≤ fC p j 0 ∧ fC p j 0 ≤ p) ∧ (0 ≤ fC p j (-1) ∧ fC p j (-1) ≤ p) ∧ (fC p j 1 = p ∨ fC p j 0 = p ∨ fC p j (-1) = p) ∧ (fC p j 1 = 0 ∨ fC p j 0 = 0 ∨ fC p j (-1) = 0) ∧
    (fC p j 1 = p → (fC p j 0 - fC p j (-1) - 6 * j) % (6 * p) = 0) ∧ (fC p j 0 = p → (2 * p + fC p j (-1) - fC p j 1 - 6 * j) % (6 * p) = 0) ∧ (fC p j (-1) = p → (4 * p + fC p j 1 - fC p j 0 - 6 * j) % (6 * p) = 0) := by
  run_tac mark
  have h := List.all_eq_true.mp (List.all_eq_true.mp fChecks p.toNat (List.mem_range.mpr (by omega))) j.toNat (List.mem_range.mpr (by omega))
  have h1 : decide (p.toNat < 2) = false := decide_eq_false (by omega)
  have h2 : decide (p.toNat ≤ j.toNat) = false := decide_eq_false (by omega)
  rw [h1, h2, Bool.false_or, Bool.false_or] at h
  unfold fCheck at h
  rw [Int.toNat_of_nonneg (by omega), Int.toNat_of_nonneg (by omega)] at h
  simp only [Bool.and_eq_true, decide_eq_true_eq] at h
  obtain ⟨⟨⟨⟨⟨⟨⟨a, b⟩, c⟩, d⟩, e⟩, f⟩, g⟩, i⟩ := h
  exact ⟨a, b, c, d, e, f, g, i⟩
  run_tac squeeze

theorem half_up {x : UInt64} {n : Int} (hx : Fn x) (hn : 0 ≤ n) (h : Near (rv x) ((n : Rat) + 1 / 2) (1 / 4)) : Float64.isFinite x = true ∧ Flt.toInt Float64.truncOf x = n := by
  run_tac mark
  have h0 : (0 : Rat) ≤ (n : Rat) := by have := Rat.intCast_le_intCast.mpr hn; simpa using this
  have e : ((n.toNat : Nat) : Rat) = (n : Rat) := by
    rw [← Rat.intCast_natCast, Int.toNat_of_nonneg hn]
  unfold Near at h
  refine ⟨finite_app hx, ?_⟩
  rw [trunc_app (n := n.toNat) hx (by grind) (by rw [e]; grind) (by rw [e]; grind), Int.toNat_of_nonneg hn]
  run_tac squeeze

theorem near_p {a x c q : Rat} (h1 : Near a (x + c) eps) (h2 : Near x q eps) (h3 : Near c (1 / 3) eps) : Near a (q + 1 / 3) (3 * eps) := by unfold Near at *; constructor <;> grind

theorem near_z {x q : Rat} (h2 : Near x q eps) : Near x (q + 0 / 3) (3 * eps) := by unfold Near at *; constructor <;> grind

theorem near_m {a x c q : Rat} (h1 : Near a (x - c) eps) (h2 : Near x q eps) (h3 : Near c (1 / 3) eps) : Near a (q + -1 / 3) (3 * eps) := by unfold Near at *; constructor <;> grind

/-- the three sums of the greatest and the least -/
theorem sums_app {mx mn : UInt64} {A B L : Rat} (fmx : Fn mx) (fmn : Fn mn) (nmx : Near (rv mx) B (100 * eps)) (nmn : Near (rv mn) A (100 * eps)) (hs : A + B = L / 4) (hL : 1 ≤ L ∧ L ≤ 7) (hw : 1 / 32 ≤ B - A) (hA : 0 ≤ A) (hB : B ≤ 1) :
    (Float64.cmp mn mx == some .eq) = false ∧ (Fn (Float64.sub mx mn) ∧ Near (rv (Float64.sub mx mn)) (B - A) (250 * eps)) ∧ (Fn (Float64.add mx mn) ∧ Near (rv (Float64.add mx mn)) (L / 4) (250 * eps)) ∧
    (Fn (Float64.sub (Float64.sub 4611686018427387904 mx) mn) ∧ Near (rv (Float64.sub (Float64.sub 4611686018427387904 mx) mn)) (2 - L / 4) (250 * eps)) := by
  run_tac mark
  obtain ⟨fd, nd⟩ := sub_app fmx fmn (by unfold Near at *; constructor <;> grind)
  obtain ⟨fu, nu⟩ := add_app fmx fmn (by unfold Near at *; constructor <;> grind)
  obtain ⟨ft, nt⟩ := sub_app c_two.1 fmx (by rw [c_two.2]; unfold Near at *; constructor <;> grind)
  rw [c_two.2] at nt
  obtain ⟨fv, nv⟩ := sub_app ft fmn (by unfold Near at *; constructor <;> grind)
  refine ⟨?_, ⟨fd, ?_⟩, ⟨fu, ?_⟩, fv, ?_⟩
  · rw [eq_app fmn fmx]; refine decide_eq_false ?_; unfold Near at *; grind
  · unfold Near at *; constructor <;> grind
  · unfold Near at *; constructor <;> grind
  · unfold Near at *; constructor <;> grind
  run_tac squeeze

theorem far_zero {x : UInt64} {p : Rat} (fx : Fn x) (nx : Near (rv x) p (250 * eps)) (hp : 1 / 40 ≤ p) : Float64.isZero x = false := zero_app fx (by unfold Near at *; grind)

theorem light_app {u : UInt64} {L : Rat} (fu : Fn u) (nu : Near (rv u) (L / 4) (250 * eps)) (hL : 1 ≤ L ∧ L ≤ 7) : Fn (Float64.div u 4611686018427387904) ∧ Near (rv (Float64.div u 4611686018427387904)) (L / 8) (130 * eps) := by
  run_tac mark
  obtain ⟨fl, nl⟩ := div_app fu c_two.1 (by rw [c_two.2]; decide +kernel) (by rw [c_two.2]; unfold Near at *; constructor <;> grind)
  rw [c_two.2] at nl
  exact ⟨fl, by unfold Near at *; constructor <;> grind⟩
  run_tac squeeze

theorem eight_app {x : UInt64} {n : Int} {d : Rat} (fx : Fn x) (nx : Near (rv x) ((n : Rat) / 8) d) (hn : 0 ≤ n) (hd : 0 ≤ d) (hd1 : d ≤ 1 / 100) (hn8 : (n : Rat) ≤ 8) : Float64.isFinite (Float64.add (Float64.mul x 4620693217682128896) 4602678819172646912) = true ∧ Flt.toInt Float64.truncOf (Float64.add (Float64.mul x 4620693217682128896) 4602678819172646912) = n := by
  run_tac mark
  have h0 : (0 : Rat) ≤ (n : Rat) := by have := Rat.intCast_le_intCast.mpr hn; simpa using this
  obtain ⟨f1, n1⟩ := mul_app fx c_eight.1 (by rw [c_eight.2]; unfold Near at *; constructor <;> grind)
  rw [c_eight.2] at n1
  obtain ⟨f2, n2⟩ := add_app f1 c_half.1 (by rw [c_half.2]; unfold Near at *; constructor <;> grind)
  rw [c_half.2] at n2
  exact half_up f2 hn (by unfold Near at *; constructor <;> grind)
  run_tac squeeze

theorem share_app {l mx mn : UInt64} {light : Int} {S w : Rat} (fl : Fn l) (nl : Near (rv l) ((light : Rat) / 8) (130 * eps)) (hl : 1 ≤ light ∧ light ≤ 7) (hS : 0 ≤ S ∧ S ≤ 1) (h1 : light ≤ 4 → w = S * ((light : Rat) / 4)) (h2 : 4 ≤ light → w = S * (2 - (light : Rat) / 4))
    (fd : Fn (Float64.sub mx mn)) (nd : Near (rv (Float64.sub mx mn)) w (250 * eps)) (fu : Fn (Float64.add mx mn)) (nu : Near (rv (Float64.add mx mn)) ((light : Rat) / 4) (250 * eps)) (fv : Fn (Float64.sub (Float64.sub 4611686018427387904 mx) mn)) (nv : Near (rv (Float64.sub (Float64.sub 4611686018427387904 mx) mn)) (2 - (light : Rat) / 4) (250 * eps)) :
    Fn (satF l mx mn) ∧ Near (rv (satF l mx mn)) S (21000 * eps) := by
  run_tac mark
  have hL1 : (1 : Rat) ≤ (light : Rat) := by have := Rat.intCast_le_intCast.mpr hl.1; simpa using this
  have hL7 : (light : Rat) ≤ 7 := by have := Rat.intCast_le_intCast.mpr hl.2; simpa using this
  unfold satF
  rw [leF_app fl c_half.1, c_half.2]
  by_cases h : rv l ≤ 1 / 2
  · rw [if_pos (by simpa using h)]
    have h4 : light ≤ 4 := by
      by_cases h5 : light ≤ 4
      · exact h5
      · exfalso
        have := Rat.intCast_le_intCast.mpr (show 5 ≤ light by omega)
        have c5 : ((5 : Int) : Rat) = 5 := rfl
        rw [c5] at this
        unfold Near at nl; grind
    rw [h1 h4] at nd
    obtain ⟨a, b⟩ := quot_app (q := S) (p := (light : Rat) / 4) (d1 := 250 * eps) (d2 := 250 * eps) fd fu hS.1 hS.2 nd nu (by grind) (by grind) (by unfold Near at nu; grind) (by grind)
    exact ⟨a, by unfold Near at *; constructor <;> grind⟩
  · rw [if_neg (by simpa using h)]
    have h4 : 4 ≤ light := by
      by_cases h5 : 4 ≤ light
      · exact h5
      · exfalso
        have := Rat.intCast_le_intCast.mpr (show light ≤ 3 by omega)
        have c5 : ((3 : Int) : Rat) = 3 := rfl
        rw [c5] at this
        unfold Near at nl; grind
    rw [h2 h4] at nd
    obtain ⟨a, b⟩ := quot_app (q := S) (p := 2 - (light : Rat) / 4) (d1 := 250 * eps) (d2 := 250 * eps) fd fv hS.1 hS.2 nd nv (by grind) (by grind) (by unfold Near at nv; grind) (by grind)
    exact ⟨a, by unfold Near at *; constructor <;> grind⟩
  run_tac squeeze

theorem hueTold_app {hx : UInt64} {parts j k : Int} {H : Rat} (hp : 2 ≤ parts ∧ parts ≤ 7) (fH : Fn hx) (nH : Near (rv hx) H (40000 * eps)) (hH : -10 ≤ H ∧ H ≤ 10) (eH : H * (parts : Rat) = 6 * ((j + parts * k : Int) : Rat)) :
    Float64.isFinite (Float64.add (Float64.mul (mod1 (Float64.div hx 4618441417868443648)) (Float64.ofInt parts)) 4602678819172646912) = true ∧ (Flt.toInt Float64.truncOf (Float64.add (Float64.mul (mod1 (Float64.div hx 4618441417868443648)) (Float64.ofInt parts)) 4602678819172646912)).fmod parts = j % parts := by
  run_tac mark
  have hP2 : (2 : Rat) ≤ (parts : Rat) := by have := Rat.intCast_le_intCast.mpr hp.1; simpa using this
  have hP7 : (parts : Rat) ≤ 7 := by have := Rat.intCast_le_intCast.mpr hp.2; simpa using this
  obtain ⟨fd, nd⟩ := div_app fH c_six.1 (by rw [c_six.2]; decide +kernel) (by rw [c_six.2]; unfold Near at *; constructor <;> grind)
  rw [c_six.2] at nd
  obtain ⟨n, fm, nm, m0, m1⟩ := mod1_app fd
  generalize mod1 (Float64.div hx 4618441417868443648) = m at *
  have nq : Near (rv m) (H / 6 - (n : Rat)) (7000 * eps) := by unfold Near at *; constructor <;> grind
  clear nd nm fd
  obtain ⟨fP, nP⟩ := int_app parts (by constructor <;> grind)
  have n1 := near_mul nq (z := (parts : Rat)) (K := 7) ⟨by grind, by grind⟩
  have n2 := near_mul nP (z := rv m) (K := 2) ⟨by grind, by grind⟩
  have bm := mul_bd (x := rv m) (a := 2) (z := (parts : Rat)) (K := 7) ⟨by grind, by grind⟩ ⟨by grind, by grind⟩
  have eN : (H / 6 - (n : Rat)) * (parts : Rat) = ((j + parts * (k - n) : Int) : Rat) := by
    rw [Rat.intCast_add, Rat.intCast_mul, Rat.intCast_sub]
    rw [Rat.intCast_add, Rat.intCast_mul] at eH
    grind
  rw [eN] at n1
  have e2 : rv (Float64.ofInt parts) * rv m = rv m * rv (Float64.ofInt parts) := by grind
  have e3 : (parts : Rat) * rv m = rv m * (parts : Rat) := by grind
  rw [e2, e3] at n2
  have lo := Rat.mul_le_mul_of_nonneg_right m0 (show 0 ≤ (parts : Rat) by grind)
  have up := Rat.mul_le_mul_of_nonneg_right m1 (show 0 ≤ (parts : Rat) by grind)
  generalize hv : rv m * (parts : Rat) = v at *
  have hN0 : 0 ≤ j + parts * (k - n) := by
    have : -1 < j + parts * (k - n) := by
      apply Rat.intCast_lt_intCast.mp
      have cm : ((-1 : Int) : Rat) = -1 := rfl
      rw [cm]
      unfold Near at n1; grind
    omega
  obtain ⟨f1, n3⟩ := mul_app fm fP (by unfold Near at n2; constructor <;> grind)
  have n4 : Near (rv (Float64.mul m (Float64.ofInt parts))) ((j + parts * (k - n) : Int) : Rat) (60000 * eps) := by unfold Near at *; constructor <;> grind
  have hNup : ((j + parts * (k - n) : Int) : Rat) ≤ 8 := by unfold Near at n1; grind
  have hNlo : -1 ≤ ((j + parts * (k - n) : Int) : Rat) := by unfold Near at n1; grind
  clear n1 n2 n3 eN eH
  obtain ⟨f2, n5⟩ := add_app f1 c_half.1 (by rw [c_half.2]; unfold Near at n4; constructor <;> grind)
  rw [c_half.2] at n5
  obtain ⟨a, b⟩ := half_up f2 hN0 (by unfold Near at n4 n5 ⊢; constructor <;> grind)
  refine ⟨a, ?_⟩
  rw [b, Int.fmod_eq_emod_of_nonneg _ (by omega), Int.add_mul_emod_self_left]
  run_tac squeeze

set_option maxHeartbeats 2000000 in
theorem told_ok {e parts light share : Int} (hp : 2 ≤ parts ∧ parts ≤ 7) (hl : 1 ≤ light ∧ light ≤ 7) (hs : 1 ≤ share ∧ share ≤ 8) (he : -100000000 ≤ e) (he' : e ≤ 100000000) : Told e parts light share := by
  run_tac mark
  have c1 : ((1 : Int) : Rat) = 1 := rfl
  have c0 : ((0 : Int) : Rat) = 0 := rfl
  have cm : ((-1 : Int) : Rat) = -1 := rfl
  have c2 : ((2 : Int) : Rat) = 2 := rfl
  have c4 : ((4 : Int) : Rat) = 4 := rfl
  have c6 : ((6 : Int) : Rat) = 6 := rfl
  have c8 : ((8 : Int) : Rat) = 8 := rfl
  have c16 : ((16 : Int) : Rat) = 16 := rfl
  have hP2 : (2 : Rat) ≤ (parts : Rat) := by have := Rat.intCast_le_intCast.mpr hp.1; simpa using this
  have hP7 : (parts : Rat) ≤ 7 := by have := Rat.intCast_le_intCast.mpr hp.2; simpa using this
  have hP : (0 : Rat) < (parts : Rat) := by grind
  have hE1 : -100000000 ≤ (e : Rat) := by have := Rat.intCast_le_intCast.mpr he; simpa using this
  have hE2 : (e : Rat) ≤ 100000000 := by have := Rat.intCast_le_intCast.mpr he'; simpa using this
  have hL1 : (1 : Rat) ≤ (light : Rat) := by have := Rat.intCast_le_intCast.mpr hl.1; simpa using this
  have hL7 : (light : Rat) ≤ 7 := by have := Rat.intCast_le_intCast.mpr hl.2; simpa using this
  have hS1 : (1 : Rat) ≤ (share : Rat) := by have := Rat.intCast_le_intCast.mpr hs.1; simpa using this
  have hS8 : (share : Rat) ≤ 8 := by have := Rat.intCast_le_intCast.mpr hs.2; simpa using this
  obtain ⟨mz, fm1, fm2, vm1, vm2⟩ := m_facts hl hs
  have hin : inF e parts light share = _ := hlsF_eq (h := Float64.ofFrac (decide (e < 0) != decide (parts < 0)) e.natAbs parts.natAbs) (l := lF light) mz
  -- the two ends of the range
  have hsum : rv (m1F (lF light) (lF share)) + rv (m2F (lF light) (lF share)) = (light : Rat) / 4 := by
    rw [vm1, vm2, Rat.intCast_sub, Rat.intCast_mul, c16]; grind
  have hw : (light ≤ 4 → rv (m2F (lF light) (lF share)) - rv (m1F (lF light) (lF share)) = (share : Rat) / 8 * ((light : Rat) / 4)) ∧ (4 ≤ light → rv (m2F (lF light) (lF share)) - rv (m1F (lF light) (lF share)) = (share : Rat) / 8 * (2 - (light : Rat) / 4)) := by
    constructor
    · intro h
      rw [vm1, vm2, Rat.intCast_sub, Rat.intCast_mul, c16]
      unfold bM
      rw [if_pos h, Rat.intCast_mul, Rat.intCast_add, c8]; grind
    · intro h
      rw [vm1, vm2, Rat.intCast_sub, Rat.intCast_mul, c16]
      unfold bM
      by_cases h4 : light ≤ 4
      · have : light = 4 := by omega
        subst this
        rw [if_pos h4, Rat.intCast_mul, Rat.intCast_add, c8, c4]; grind
      · rw [if_neg h4, Rat.intCast_sub, Rat.intCast_add, Rat.intCast_mul, Rat.intCast_mul, Rat.intCast_mul, c8]; grind
  generalize m1F (lF light) (lF share) = m1 at *
  generalize m2F (lF light) (lF share) = m2 at *
  have hwb : 1 / 32 ≤ rv m2 - rv m1 ∧ rv m2 - rv m1 ≤ (light : Rat) / 4 ∧ rv m2 - rv m1 ≤ 2 - (light : Rat) / 4 := by
    have p1 : 0 ≤ ((share : Rat) - 1) * ((light : Rat) - 1) := Rat.mul_nonneg (by grind) (by grind)
    have p2 : 0 ≤ ((share : Rat) - 1) * (7 - (light : Rat)) := Rat.mul_nonneg (by grind) (by grind)
    have p3 : 0 ≤ (8 - (share : Rat)) * (light : Rat) := Rat.mul_nonneg (by grind) (by grind)
    have p4 : 0 ≤ (8 - (share : Rat)) * (8 - (light : Rat)) := Rat.mul_nonneg (by grind) (by grind)
    by_cases h : light ≤ 4
    · have := hw.1 h
      have hL4 : (light : Rat) ≤ 4 := by have := Rat.intCast_le_intCast.mpr h; simpa using this
      refine ⟨?_, ?_, ?_⟩ <;> grind
    · have := hw.2 (by omega)
      have hL4 : (4 : Rat) ≤ (light : Rat) := by have := Rat.intCast_le_intCast.mpr (show 4 ≤ light by omega); simpa using this
      refine ⟨?_, ?_, ?_⟩ <;> grind
  have hA : 0 ≤ rv m1 := by grind
  have hB : rv m1 ≤ rv m2 := by grind
  have hB1 : rv m2 ≤ 1 := by grind
  -- the hue put in
  have hne : (decide (e < 0) != decide (parts < 0)) = decide (e < 0) := by
    rw [decide_eq_false (show ¬ parts < 0 by omega), Bool.bne_false]
  have eP : ((parts.natAbs : Nat) : Rat) = (parts : Rat) := (cast_pos_nat parts (by omega)).symm
  have hq := div_back (a := (e : Rat)) (b := (parts : Rat)) hP
  have hX : -50000000 ≤ (e : Rat) / (parts : Rat) ∧ (e : Rat) / (parts : Rat) ≤ 50000000 := by
    generalize (e : Rat) / (parts : Rat) = q at hq
    constructor
    · by_cases h : -50000000 ≤ q
      · exact h
      · have := Rat.mul_pos (show 0 < -50000000 - q by grind) hP
        grind
    · by_cases h : q ≤ 50000000
      · exact h
      · have := Rat.mul_pos (show 0 < q - 50000000 by grind) hP
        grind
  rw [hne] at hin
  obtain ⟨f0, n0⟩ := frac_app (neg := decide (e < 0)) (n := e.natAbs) (d := parts.natAbs) (z := (e : Rat) / (parts : Rat)) (by omega) (by rw [cast_signed, eP, hq]) (by constructor <;> grind)
  generalize Float64.ofFrac (decide (e < 0)) e.natAbs parts.natAbs = h0 at *
  obtain ⟨fa, na⟩ := add_app f0 c_third.1 (by have := c_third.2; unfold Near at *; constructor <;> grind)
  obtain ⟨fs, ns⟩ := sub_app f0 c_third.1 (by have := c_third.2; unfold Near at *; constructor <;> grind)
  have c3n := c_third.2
  obtain ⟨fr, nr⟩ := color_app (e := e) (c := 1) hp fm1 fm2 hA hB hB1 fa (by rw [c1]; exact near_p na n0 c3n)
  obtain ⟨fg, ng⟩ := color_app (e := e) (c := 0) hp fm1 fm2 hA hB hB1 f0 (by rw [c0]; exact near_z n0)
  obtain ⟨fb, nb⟩ := color_app (e := e) (c := -1) hp fm1 fm2 hA hB hB1 fs (by rw [cm]; exact near_m ns n0 c3n)
  have hj0 := Int.emod_nonneg e (show parts ≠ 0 by omega)
  have hj1 := Int.emod_lt_of_pos e (show 0 < parts by omega)
  obtain ⟨br, bg, bb, one, zero, kr, kg, kb⟩ := f_facts hp ⟨hj0, hj1⟩
  generalize vF m1 m2 (Float64.add h0 4599676419421066581) = r at *
  generalize vF m1 m2 h0 = g at *
  generalize vF m1 m2 (Float64.sub h0 4599676419421066581) = b at *
  have sh : ∀ f : Int, 0 ≤ f ∧ f ≤ parts → (0 ≤ (f : Rat) / (parts : Rat) ∧ (f : Rat) / (parts : Rat) ≤ 1) ∧ ((f : Rat) / (parts : Rat) = 1 ∨ (f : Rat) / (parts : Rat) ≤ 6 / 7) ∧ (f = parts → (f : Rat) / (parts : Rat) = 1) ∧ (f = 0 → (f : Rat) / (parts : Rat) = 0) ∧ ((f : Rat) / (parts : Rat) = 1 → f = parts) := by
    intro f ⟨h0, h1⟩
    have hf := div_back (a := (f : Rat)) (b := (parts : Rat)) hP
    have g0 : (0 : Rat) ≤ (f : Rat) := by have := Rat.intCast_le_intCast.mpr h0; simpa using this
    have g1 : (f : Rat) ≤ (parts : Rat) := Rat.intCast_le_intCast.mpr h1
    generalize (f : Rat) / (parts : Rat) = q at *
    have hq0 : 0 ≤ q := Rat.le_of_mul_le_mul_right (c := (parts : Rat)) (by grind) hP
    have hq1 : q ≤ 1 := Rat.le_of_mul_le_mul_right (c := (parts : Rat)) (by grind) hP
    refine ⟨⟨hq0, hq1⟩, ?_, ?_, ?_, ?_⟩
    · by_cases h : f = parts
      · left; rw [h] at hf; grind
      · right
        have h2 : f ≤ parts - 1 := by omega
        have g2 := Rat.intCast_le_intCast.mpr h2
        rw [Rat.intCast_sub, c1] at g2
        by_cases h3 : q ≤ 6 / 7
        · exact h3
        · have := Rat.mul_pos (show 0 < q - 6 / 7 by grind) hP
          grind
    · intro h; rw [h] at hf; grind
    · intro h; rw [h, c0] at hf; grind
    · intro h; rw [h] at hf; exact (Rat.intCast_inj.mp (by grind : (f : Rat) = (parts : Rat)))
  obtain ⟨r0, dr, r1, rz, rb⟩ := sh _ br
  obtain ⟨g0, dg, g1, gz, gb⟩ := sh _ bg
  obtain ⟨b0, db, b1, bz, bb'⟩ := sh _ bb
  have eR := div_back (a := (fC parts (e % parts) 1 : Rat)) (b := (parts : Rat)) hP
  have eG := div_back (a := (fC parts (e % parts) 0 : Rat)) (b := (parts : Rat)) hP
  have eB := div_back (a := (fC parts (e % parts) (-1) : Rat)) (b := (parts : Rat)) hP
  have hone := one.imp r1 (Or.imp g1 b1)
  have hzero := zero.imp rz (Or.imp gz bz)
  -- greatest and least
  obtain ⟨fmx, nmx, fmn, nmn⟩ := ends_app fr fg fb nr ng nb hwb.1 r0 g0 b0 hone hzero
  have mo := (max3_app fr fg fb).2.2.2.2
  unfold Told Fine hueOut lightOut shareOut outF
  rw [hin]
  unfold rgbF
  dsimp only
  generalize max3 r g b = mx at *
  generalize min3 r g b = mn at *
  have nmx' : Near (rv mx) (rv m2) (100 * eps) := by
    have e : rv m1 + (rv m2 - rv m1) = rv m2 := by grind
    rw [e] at nmx; exact nmx
  obtain ⟨z0, ⟨fd, nd⟩, ⟨fu, nu⟩, fv, nv⟩ := sums_app fmx fmn nmx' nmn hsum ⟨hL1, hL7⟩ hwb.1 hA hB1
  obtain ⟨fH, H, nH, cases3⟩ := hue_app fr fg fb nr ng nb hA hwb.1 (by clear nr ng nb; grind) r0 g0 b0 dr dg db fmx nmx mo fd nd
  obtain ⟨fl, nl⟩ := light_app fu nu ⟨hL1, hL7⟩
  obtain ⟨fS, nS⟩ := share_app (S := (share : Rat) / 8) fl nl hl (by constructor <;> grind) hw.1 hw.2 fd nd fu nu fv nv
  refine ⟨⟨z0, far_zero fd nd (by grind), far_zero fu nu (by grind), far_zero fv nv (by grind)⟩, ?_, ?_, ?_⟩
  · exact eight_app fl nl (by omega) (by decide +kernel) (by decide +kernel) (by grind)
  · exact eight_app fS nS (by omega) (by decide +kernel) (by decide +kernel) (by grind)
  · -- the hue told
    have key : ∃ k : Int, H * (parts : Rat) = 6 * ((e % parts + parts * k : Int) : Rat) := by
      have six : ∀ x : Int, (x - 6 * (e % parts)) % (6 * parts) = 0 → ∃ k : Int, (x : Rat) = 6 * ((e % parts + parts * k : Int) : Rat) := by
        intro x hx
        obtain ⟨k, hk⟩ := Int.dvd_of_emod_eq_zero hx
        refine ⟨k, ?_⟩
        have e1 : x = 6 * (e % parts + parts * k) := by grind
        conv => lhs; rw [e1]
        rw [Rat.intCast_mul, c6]
      rcases cases3 with ⟨h1, h2⟩ | ⟨h1, h2⟩ | ⟨h1, h2⟩
      · obtain ⟨k, hk⟩ := six _ (kr (rb h1))
        refine ⟨k, ?_⟩
        rw [← hk, Rat.intCast_sub, h2, ← eG, ← eB]
        clear nr ng nb hk; grind
      · obtain ⟨k, hk⟩ := six _ (kg (gb h1))
        refine ⟨k, ?_⟩
        rw [← hk, Rat.intCast_sub, Rat.intCast_add, Rat.intCast_mul, c2, h2, ← eR, ← eB]
        clear nr ng nb hk; grind
      · obtain ⟨k, hk⟩ := six _ (kb (bb' h1))
        refine ⟨k, ?_⟩
        rw [← hk, Rat.intCast_sub, Rat.intCast_add, Rat.intCast_mul, c4, h2, ← eR, ← eG]
        clear nr ng nb hk; grind
    obtain ⟨k, hk⟩ := key
    have hH : -10 ≤ H ∧ H ≤ 10 := by
      clear nr ng nb nH hk
      rcases cases3 with ⟨h1, h2⟩ | ⟨h1, h2⟩ | ⟨h1, h2⟩ <;> constructor <;> grind
    have := hueTold_app hp fH nH hH hk
    rw [Int.emod_emod] at this
    exact this
  run_tac squeeze

end
theorem quietF7 : True := by
  run_tac quiet
  trivial
-- L1
section
open Lean Meta Elab Tactic PySem PySem.W PySem.Calls PyProof.Rows
theorem asF_eq : ∀ P, asF = (KF P).map (·.1) := fun _ => by kernel_rfl

noncomputable abbrev hookF : Hook := kHook KF asF asF_eq
theorem tail_off {tl : List (Addr × Obj)} {D c : Addr} (h : ∀ p ∈ tl, D < p.1) (hc : @LT.lt Nat _ c D) : ∀ p ∈ tl, p.1 ≠ c := fun p hp e => Nat.lt_irrefl c (Nat.lt_trans hc (show @LT.lt Nat _ D c from e ▸ h p hp))

theorem woven_at (w : World) (l : Addr) (a1 a2 a3 a4 a5 : Int) (t1 t2 t3 t4 t5 : Tok) (n : Nat) (b1 : 0 ≤ a1 ∧ a1 < 1000000) (b2 : 0 ≤ a2 ∧ a2 < 1000000) (b3 : 0 ≤ a3 ∧ a3 < 1000000) (b4 : 0 ≤ a4 ∧ a4 < 1000000) (b5 : 0 ≤ a5 ∧ a5 < 1000000) :
   PureIn w 158 2 [.ref l] (fun news => (l, listOf #[.int a1 t1, .int a2 t2, .int a3 t3, .int a4 t4, .int a5 t5] n) ∈ news) (fun t => .str (weave [a1, a2, a3, a4, a5] (rangeKs 0 5)).2 t) := by
  run_tac mark
  intro mean mg mb dp un gd cn cs a ccd cl outer A₀ base h₀ L m news s Q E hl B F X N T hk hd hu hret
  exact woven_con w l [.int a1 t1, .int a2 t2, .int a3 t3, .int a4 t4, .int a5 t5] [a1, a2, a3, a4, a5] n (.cons _ _ (.cons _ _ (.cons _ _ (.cons _ _ (.cons _ _ .nil))))) rfl (by intro c hc; simp only [List.mem_cons, List.not_mem_nil, or_false] at hc; rcases hc with rfl | rfl | rfl | rfl | rfl <;> assumption) _ _ _ _ _ _ _ _ _ _ _ _ _ _ _ _ _ _ _ _ _ hl B F X N T hk hd hu hret
  run_tac squeeze

theorem useP {w : World} {f : Addr} {k : Nat} {vs : List Value} {pre : List (Addr × Obj) → Prop} {R : Tok → Value} (C : PureIn w f k vs pre R) {mean : ExcName → Option Value} {mg mb : Str → Option Value} {dp un : Nat} {gd : Option (List Code)} {cn : Str} {cs : Scope} {a : Addr} {ccd : Value} {cl : List (Str × Addr)} {outer : List Env} {A₀ : Around} {base h₀ : Heap} {L : Addr} {m : Str → Option Value} {news : List (Addr × Obj)} {s : Shared} {Q E : Value → Shared → Prop}
    (B : Below A₀ base outer h₀) (F : Fr h₀ L s.heap m) (X : (KF w.params).In h₀) (N : News h₀ L s.heap news) (T : Top qv lo mean mg mb h₀) (hk : cs.kind = .function) (hd : dp + k < recursionLimit) (hu : un + 8 * k < cLine) (hpre : pre news)
    (ret : ∀ t h' tk', Fr h₀ L h' m → News h₀ L h' news → Q (R t) { s with heap := h', toks := tk' }) :
    wpAny (model PySem.Challenge.pw_re0166_01 w) (ktrTop dp un gd cn cs L a ccd cl outer) (call (.ref f) vs) Q E s := C _ _ _ _ _ _ _ _ _ _ _ _ _ _ _ _ _ _ _ _ _ hpre B F X N T hk hd hu ret

theorem cont_at (w : World) (l : Addr) (a1 a2 a3 a4 a5 : Int) (vs : List Value) (n : Nat) (hI : IntsAre vs (List.map (fun k' => k'.fmod 7 - 3) [a1, a2, a3, a4, a5])) :
   PureIn w 205 1 [.ref l] (fun news => ∃ o, (l, o) ∈ news ∧ o = listOf vs.toArray n) (fun t => .int (contF (a1.fmod 7 - 3) (a2.fmod 7 - 3) (a3.fmod 7 - 3) (a4.fmod 7 - 3) (a5.fmod 7 - 3)) t) := by
  run_tac mark
  have bd : ∀ x : Int, -3 ≤ x.fmod 7 - 3 ∧ x.fmod 7 - 3 ≤ 3 := fun x => by have := fmod_bd x (m := 7) (by decide); omega
  obtain ⟨t1, w1, rfl, i1⟩ := ints_cons hI
  obtain ⟨t2, w2, rfl, i2⟩ := ints_cons i1
  obtain ⟨t3, w3, rfl, i3⟩ := ints_cons i2
  obtain ⟨t4, w4, rfl, i4⟩ := ints_cons i3
  obtain ⟨t5, w5, rfl, i5⟩ := ints_cons i4
  obtain rfl := ints_nil i5
  intro mean mg mb dp un gd cn cs a ccd cl outer A₀ base h₀ L m news s Q E hp
  obtain ⟨o, ho, rfl⟩ := hp
  exact cont_con w l _ _ _ _ _ _ _ _ _ _ n (bd _) (bd _) (bd _) (bd _) (bd _) _ _ _ _ _ _ _ _ _ _ _ _ _ _ _ _ _ _ _ _ _ ho
  run_tac squeeze

theorem useJ {w : World} {vs : List Value} {k : Nat} {pre : List (Addr × Obj) → Prop} {js : List Int} (C : JoinR w vs k pre js) {mean : ExcName → Option Value} {mg mb : Str → Option Value} {dp un : Nat} {gd : Option (List Code)} {cn : Str} {cs : Scope} {a : Addr} {ccd : Value} {cl : List (Str × Addr)} {outer : List Env} {A₀ : Around} {base h₀ : Heap} {L : Addr} {m : Str → Option Value} {news : List (Addr × Obj)} {s : Shared} {Q E : Value → Shared → Prop}
    (B : Below A₀ base outer h₀) (F : Fr h₀ L s.heap m) (X : (KF w.params).In h₀) (N : News h₀ L s.heap news) (T : Top qv lo mean mg mb h₀) (hk : cs.kind = .function) (hd : dp + k < recursionLimit) (hu : un + 8 * k < cLine) (hpre : pre news)
    (ret : ∀ D us n h' tk', IntsAre us js → Fr h₀ L h' m → News h₀ L h' ((D, listOf us.toArray n) :: news) → (∀ p ∈ news, p.1 < D) → Q (.ref D) { s with heap := h', toks := tk' }) :
    wpAny (model PySem.Challenge.pw_re0166_01 w) (ktrTop dp un gd cn cs L a ccd cl outer) (call (.ref 191) vs) Q E s := C _ _ _ _ _ _ _ _ _ _ _ _ _ _ _ _ _ _ _ _ _ hpre B F X N T hk hd hu ret

theorem told0 {a0 : Int} (b0 : 0 ≤ a0 ∧ a0 < 1000000) : (2 ≤ a0.fmod 6 + 2 ∧ a0.fmod 6 + 2 ≤ 7) ∧ (0 ≤ (a0.fdiv 6).fmod (a0.fmod 6 + 2) ∧ (a0.fdiv 6).fmod (a0.fmod 6 + 2) < a0.fmod 6 + 2) ∧ (1 ≤ (a0.fdiv 42).fmod 7 + 1 ∧ (a0.fdiv 42).fmod 7 + 1 ≤ 7) ∧ (1 ≤ (a0.fdiv 294).fmod 8 + 1 ∧ (a0.fdiv 294).fmod 8 + 1 ≤ 8) := by
  run_tac mark
  have h1 := fmod_bd a0 (m := 6) (by decide)
  have h2 := fmod_bd (a0.fdiv 6) (m := a0.fmod 6 + 2) (by omega)
  have h3 := fmod_bd (a0.fdiv 42) (m := 7) (by decide)
  have h4 := fmod_bd (a0.fdiv 294) (m := 8) (by decide)
  exact ⟨by omega, h2, by omega, by omega⟩
  run_tac squeeze

theorem floats_ok {a0 : Int} (b0 : 0 ≤ a0 ∧ a0 < 1000000) : ∀ e, -100000000 ≤ e → e ≤ 100000000 → Told e (a0.fmod 6 + 2) ((a0.fdiv 42).fmod 7 + 1) ((a0.fdiv 294).fmod 8 + 1) := fun e h1 h2 => told_ok (told0 b0).1 (told0 b0).2.2.1 (told0 b0).2.2.2 h1 h2

theorem useC {w : World} {x : Str} {t1 : Tok} {crs : List (Int × Bool)} (C : CrossR w x t1 crs) {mean : ExcName → Option Value} {mg mb : Str → Option Value} {dp un : Nat} {gd : Option (List Code)} {cn : Str} {cs : Scope} {a : Addr} {ccd : Value} {cl : List (Str × Addr)} {outer : List Env} {A₀ : Around} {base h₀ : Heap} {L : Addr} {m : Str → Option Value} {news : List (Addr × Obj)} {s : Shared} {Q E : Value → Shared → Prop}
    (B : Below A₀ base outer h₀) (F : Fr h₀ L s.heap m) (X : (KF w.params).In h₀) (N : News h₀ L s.heap news) (T : Top qv lo mean mg mb h₀) (hk : cs.kind = .function) (hd : dp + 2 < recursionLimit) (hu : un + 8 * 2 < cLine)
    (ret : ∀ D vs n tl h' tk', Cross tl vs crs → Fr h₀ L h' m → News h₀ L h' ((D, listOf vs.toArray n) :: (news ++ tl)) → (∀ p ∈ news, p.1 < D) → (∀ p ∈ tl, D < p.1) → Q (.ref D) { s with heap := h', toks := tk' }) :
    wpAny (model PySem.Challenge.pw_re0166_01 w) (ktrTop dp un gd cn cs L a ccd cl outer) (call (.ref 172) [.str x t1]) Q E s :=
  C _ _ _ _ _ _ _ _ _ _ _ _ _ _ _ _ _ _ _ _ _ B F X N T hk hd hu fun D vs n tl h' tk' hc F' N' l l' => ret D vs n tl h' tk' hc F' (fun p hp => N' p (by
    rcases List.mem_cons.mp hp with rfl | hp
    · exact .head _
    · rcases List.mem_append.mp hp with hp | hp
      · exact .tail _ (List.mem_append.mpr (.inr hp))
      · exact .tail _ (List.mem_append.mpr (.inl hp)))) l l'

set_option maxHeartbeats 2500000 in
theorem walk : ∀ d kwd, defOf qv PySem.Challenge.rw_re0166_01.row.name = some (d, kwd) → WalkO qv lo (XL qv lv) (Hook.says hookF) PySem.Challenge.rw_re0166_01.row.toRowW d kwd fun f vs => PySem.call f vs := by
  run_tac mark
  k_with_none
  k_with "m:subscriptTail Name Slice ref ref" => (k_here; (with_reducible show wpAny _ _ (subscriptTail _ (PySem.Expr.Slice (some _) none none _) (Value.ref _) (Value.ref _)) _ _ _); k_dflt (refine tail_slice (s := ⟨_, _, _, _, _⟩) (by k_asm) (by k_asm) (by k_mem) (by exact Int.natCast_nonneg _) ?_ (by with_unfolding_all rfl) (by kmk_pure)); intro D9 ws9 h9 F9 N9 l9 I9; k_lt l9; (try dsimp only); (try k_fold))
  k_with "m:eval ListComp" => (k_here; (with_reducible show wpAny _ _ (eval (PySem.Expr.ListComp _ [⟨_, _, [], _⟩] _ _) _) _ _ _); k_dflt (refine LCg.ListComp_U (F₀ := by k_asm) (by with_unfolding_all rfl) (by decide) (by rfl) (by decide) (by rfl) ?_); k_dflt lcg_toSrc)
  k_with "m:eval ListComp" => (k_here; (with_reducible show wpAny _ _ (eval (PySem.Expr.ListComp _ [⟨_, _, [_], _⟩] _ _) _) _ _ _); k_dflt (refine LCt.ListComp_T (F₀ := by k_asm) (by with_unfolding_all rfl) (by decide) (by rfl) (by decide) (by rfl) ?_); k_dflt lct_toSrc)
  k_with "m:subscriptTail" => (k_here; (with_reducible show wpAny _ _ (subscriptTail _ _ (Value.ref _) (Value.int (-1) _)) _ _ _); k_extra "my last")
  k_with "m:CompSrcT" => (k_here; k_extra "my comp")
  k_with "m:binaryOp Mult int int" => (k_here; k_extra "my mul")
  k_with "m:call builtin:len" => (k_here; k_extra "my len")
  k_with "m:compareOp Eq ref ref" => (k_here; k_extra "my eq")
  k_with "m:CompEnd" => (refine LCg.CompEnd.intro (by with_reducible assumption) (by k_asm) _ (fun _ h9 => h9) (by with_reducible assumption) True.intro ?_)
  k_with "m:KCiEl" => (refine kci_el ?kce (by with_unfolding_all rfl) (by with_unfolding_all rfl); (case kce => first | exact if_pos ⟨by assumption, by assumption⟩ | exact if_pos (by assumption)))
  k_with "m:KCiNo" => (refine kci_no ?kce (by with_unfolding_all rfl); (case kce => first | exact if_neg (by assumption) | exact if_neg (fun h => absurd h.1 (by assumption)) | exact if_neg (fun h => absurd h.2 (by assumption))))
  k_with "m:KPfGrows" => (intro l9 k9; dsimp only; split <;> simp)
  k_with "m:binaryOp Add ref ref" => (k_here; k_extra "told")
  k_with "m:call ref" => (k_here; k_extra "my call")
  k_with "m:k_all" => exact tail_off (by with_reducible assumption) (by omega)
  intro d kwd hdef
  obtain ⟨rfl, rfl⟩ : _ = d ∧ _ = kwd := Prod.mk.inj (Option.some.inj ((show defOf qv PySem.Challenge.rw_re0166_01.row.name = _ from rfl).symm.trans hdef))
  clear hdef
  run_tac fillFrag `Mine.KF
  intro w s₀ s₁ mg mb G Y fa o pm cd doc dV kV ho hd hcd hD hmg hg args vals as hpre hlay hrd hwl hlo
  have KX := kIn_of Y
  k_behind G ho hd hcd hD hmg hpre hlay hrd hwl hlo cd
  k_with "told" => (k_dflt (refine told_add (by k_asm) (by k_asm) (by k_mem) rfl (by k_mem) (by with_reducible assumption) (by with_reducible assumption) ?_); intro D9 h9 a0 a1 a2 a3 a4 a5 t0 t1 t2 t3 t4 t5 b0 b1 b2 b3 b4 b5 F9 N9 l9; k_lt l9; (try dsimp only); (try k_fold))
  k_with "my call" => (k_dflt (refine' useP (woven_at w _ a1 a2 a3 a4 a5 t1 t2 t3 t4 t5 0 b1 b2 b3 b4 b5) ?k1 ?k2 ?k3 ?k4 ?k5 ?kK ?kd ?ku ?kp ?_; (case k4 => k_asm); (case kp => k_mem); (case k1 => k_asm); (case k2 => k_asm); (case k3 => k_asm); (case k5 => k_asm); (case kK => first | exact rfl | assumption); (case kd => ktr_room); (case ku => ktr_units); intro t9 h9 tk9 F9 N9; (try dsimp only); (try k_fold)))
  k_with "my call" => (k_dflt (refine' use1 (prep_con w _ _ (weave_short _)) ?k1 ?k2 ?k3 ?k4 ?k5 ?kK ?kd ?ku ?_; (case k4 => k_asm); (case k1 => k_asm); (case k2 => k_asm); (case k3 => k_asm); (case k5 => k_asm); (case kK => first | exact rfl | assumption); (case kd => ktr_room); (case ku => ktr_units); intro t10 h10 tk10 F10 N10; (try dsimp only); (try k_fold)))
  k_with "my call" => (k_dflt (refine' useC (cross_law w _ a1 a2 a3 a4 a5) ?k1 ?k2 ?k3 ?k4 ?k5 ?kK ?kd ?ku ?_; (case k4 => k_asm); (case k1 => k_asm); (case k2 => k_asm); (case k3 => k_asm); (case k5 => k_asm); (case kK => first | exact rfl | assumption); (case kd => ktr_room); (case ku => ktr_units); intro Dc vsC nC tlC h11 tk11 hCr F11 N11 l11 l11b; k_lt l11; (try simp only [List.cons_append, List.nil_append] at N11); (try dsimp only); (try k_fold)))
  k_with "my call" => (k_dflt (refine useP (cont_at w _ a1 a2 a3 a4 a5 _ _ (by with_reducible assumption)) (by k_asm) (by k_asm) (by k_asm) (by k_asm) (by k_asm) (by first | exact rfl | assumption) (by ktr_room) (by ktr_units) ⟨_, by k_mem, by rfl⟩ ?_; intro t12 h12 tk12 F12 N12; (try dsimp only); (try k_fold)))
  k_with "my call" => (k_dflt ((with_reducible show wpAny _ _ (call (Value.ref 198) _) _ _ _); refine useP (rings_at w _ nC vsC a1 a2 a3 a4 a5) (by k_asm) (by k_asm) (by k_asm) (by k_asm) (by k_asm) (by first | exact rfl | assumption) (by ktr_room) (by ktr_units) ⟨by k_mem, Cross.mono (fun p hp => by kst_mem) hCr⟩ ?_; intro t13 h13 tk13 F13 N13; (try dsimp only); (try k_fold)))
  k_with "my call" => (k_dflt ((with_reducible show wpAny _ _ (call (Value.ref 191) _) _ _ _); refine useJ (join_law w _ _ _ _ _ _ _ _ _ nC vsC a1 a2 a3 a4 a5 (told0 b0).1 (told0 b0).2.1 (told0 b0).2.2.1 (told0 b0).2.2.2 (floats_ok b0)) (by k_asm) (by k_asm) (by k_asm) (by k_asm) (by k_asm) (by first | exact rfl | assumption) (by ktr_room) (by ktr_units) ⟨by k_mem, Cross.mono (fun p hp => by kst_mem) hCr⟩ ?_; intro Dj usj nj h14 tk14 Ij F14 N14 l14; (have Lj := Ij.length); k_lt l14; (try dsimp only); (try k_fold)))
  k_with "my comp" => ((have hP := (told0 b0).1); (have hT := (told0 b0).2.1); k_dflt (refine LCt.CompSrcT.range (a := 1) (b := a0.fmod 6 + 2 + 1) (n := (a0.fmod 6 + 2 + 1 - 1).toNat) (by rfl) (by k_asm) (by k_asm) (by assumption) (small_one (by omega) (by omega) (by omega) (by omega)) (rangeSize_nat _ _) (fit1000 (by omega)) ?_; intro g'; (refine' kci_range (fun l k => if (a0.fmod 6 + 2).fmod k = 0 ∧ (contF (a1.fmod 7 - 3) (a2.fmod 7 - 3) (a3.fmod 7 - 3) (a4.fmod 7 - 3) (a5.fmod 7 - 3)).fmod k = 0 then l ++ [k] else l) (fun k' t' I' oI' C' oC' D' m' ys' l' h' tk' E' hlo' hhi' hI' hC' hx' F' N' off' ne' => ?_) ?_ ?_); (all_goals (try ((show KPfMark → _); intro hMark')))))
  k_with "my comp" => ((have hP := (told0 b0).1); (have hT := (told0 b0).2.1); k_dflt (refine LCt.CompSrcT.range (a := 0) (b := a0.fmod 6 + 2) (n := (a0.fmod 6 + 2 - 0).toNat) (by rfl) (by k_asm) (by k_asm) (by assumption) (small_one (by omega) (by omega) (by omega) (by omega)) (rangeSize_nat _ _) (fit1000 (by omega)) ?_; intro g'; (refine' kci_range (fun l k => if (contF (a1.fmod 7 - 3) (a2.fmod 7 - 3) (a3.fmod 7 - 3) (a4.fmod 7 - 3) (a5.fmod 7 - 3) * ((a0.fdiv 6).fmod (a0.fmod 6 + 2) - k)).fmod (a0.fmod 6 + 2) = 0 then l ++ [k] else l) (fun k' t' I' oI' C' oC' D' m' ys' l' h' tk' E' hlo' hhi' hI' hC' hx' F' N' off' ne' => ?_) ?_ ?_); (all_goals (try ((show KPfMark → _); intro hMark')))))
  k_with "my last" => (k_dflt (refine last_sizes (parts := a0.fmod 6 + 2) (top := (a0.fdiv 6).fmod (a0.fmod 6 + 2)) (K := runsK a1 a2 a3 a4 a5) (told0 b0).1 (told0 b0).2.1 (by k_asm) (by k_mem) (by with_reducible assumption) ?_ (by with_unfolding_all rfl)); intro t15; (try dsimp only); (try k_fold))
  k_with "my mul" => (k_dflt (refine mul_int ?_ (PySem.IntMulOk.of_right (show PySem.Builtin.Int.intBits ((a0.fdiv 6).fmod (a0.fmod 6 + 2) - k') ≤ 64 from PySem.intBits_le_64 (by omega) (by omega)))); (try dsimp only); (try k_fold))
  k_with "my len" => (k_dflt (refine len_law (parts := a0.fmod 6 + 2) (top := (a0.fdiv 6).fmod (a0.fmod 6 + 2)) (K := runsK a1 a2 a3 a4 a5) (told0 b0).1 (by k_asm) (by k_mem) (by with_reducible assumption) ?_); intro t16 tk16; (try dsimp only); (try k_fold))
  k_with "my eq" => (k_dflt (refine eq_law (parts := a0.fmod 6 + 2) (top := (a0.fdiv 6).fmod (a0.fmod 6 + 2)) (K := runsK a1 a2 a3 a4 a5) (told0 b0).1 (by k_asm) (by k_mem) (by k_mem) (by with_reducible assumption) (by with_reducible assumption) (by units_room) ?_); (try dsimp only); (try k_fold))
  change wpAny (model PySem.Challenge.pw_re0166_01 w) _ _ _ _ _
  k_steps
  · have := fmod_bd a0 (m := 6) (by decide)
    exact absurd (show a0.fmod 6 + 2 = 0 by assumption) (by omega)
  run_tac squeeze

end
theorem quietL1 : True := by
  run_tac quiet
  trivial
-- HeadB
section
open Lean Meta Elab PySem PySem.W PyProof.Rows

def longDict (o : Obj) : Bool := match o.data with | .dict es _ => es.size > 300 | _ => false
structure HC where
  m0 : Lean.Expr
  ann : Lean.Expr
  env : Lean.Expr
  q : Lean.Expr

def withWpb {α : Type} (k : Lean.Expr → Lean.Expr → Lean.Expr → Lean.Expr → MetaM α) : MetaM α :=
  withLocalDeclD `w (mkConst ``World) fun w => withLocalDeclD `p (mkConst ``Program) fun p => withLocalDeclD `b (mkApp (mkConst ``List [0]) (mkConst ``Stmt)) fun b => withLocalDeclD `os (mkConst ``OsState) fun os => k w p b os

set_option maxHeartbeats 0 in
theorem topLaid : True := by
  run_tac (Elab.Term.withDeclName `Mine.top (do
    let runOn (p : Program) (w : World) (n : Nat) (s0 : Shared) (t0 : Thread) : Option (Shared × Thread) := Id.run do
      let mut s := s0
      let mut t := t0
      for _ in [0:n] do
        match step (denote table) p w s t with
        | .go s' t' => s := s'; t := t'
        | .halt _ _ => return none
      return some (s, t)
    let cutsOf (p : Program) (w : World) (cap n : Nat) (s0 : Shared) (t0 : Thread) : Array (Nat × Shared × Bool) × Nat × Bool := Id.run do
      let mut s := s0
      let mut t := t0
      let mut k := 0
      let mut ask := false
      let mut out : Array (Nat × Shared × Bool) := #[]
      for i in [0:n] do
        let ready := k ≥ cap && n - i - 1 ≥ 20 && (match t.cur with | .pure (.again _) => true | _ => false)
        if ready then
          out := out.push (k, s, ask)
          k := 0
          ask := false
        ask := ask || (match t.cur with | .ask _ => true | _ => false)
        match step (denote table) p w s t with
        | .go s' t' => s := s'; t := t'; k := k + 1
        | .halt _ _ => return (out, k, ask)
      return (out, k, ask)
    let atLoop (t : Thread) : Option (Addr × Addr) := match t.code with
      | .builtin "set.update.loop" ⟨[.ref s, .ref i], _⟩ => some (s, i)
      | _ => none
    let toLoop (p : Program) (w : World) (n : Nat) (s0 : Shared) (t0 : Thread) : Option (Nat × Shared × Thread) := Id.run do
      let mut s := s0
      let mut t := t0
      for i in [0:n] do
        if (atLoop t).isSome then return some (i, s, t)
        match step (denote table) p w s t with
        | .go s' t' => s := s'; t := t'
        | .halt _ _ => return none
      return none
    let lastLoop (p : Program) (w : World) (n : Nat) (s0 : Shared) (t0 : Thread) : Option (Nat × Shared × Thread) := Id.run do
      let mut s := s0
      let mut t := t0
      let mut best := none
      for i in [0:n] do
        let again := match t.cur with | .pure (.again (.builtin "set.update.loop" _)) => true | _ => false
        match step (denote table) p w s t with
        | .go s' t' =>
          s := s'
          t := t'
          if again then best := some (i + 1, s', t')
        | .halt _ _ => return best
      return best
    let chunks17 (l0 : List (Int × PySem.Str)) : List (List (Int × PySem.Str)) × List (Int × PySem.Str) := Id.run do
      let mut l := l0
      let mut out : Array (List (Int × PySem.Str)) := #[]
      for _ in [0:1000] do
        if l.length < 17 then break
        out := out.push (l.take 17)
        l := l.drop 17
      return (out.toList, l)
    let setIts (h : Heap) (a : Addr) : Option (List (Int × Nat)) := match h.get? a, h.get? (a - 1) with
      | some ⟨_, _, .set .., _⟩, some ⟨_, _, .seq xs _, _⟩ => xs.toList.mapM fun | .int k t => some (k, t) | _ => none
      | _, _ => none
    let setName (a : Addr) : Name := (`Mine).str s!"setAt{a}"
    let objM (P : Lean.Expr) (o o' : Obj) : Option Lean.Expr :=
      let e := objE P o
      if e == objE P o' then some e else
      match o.data, o'.data with
      | .set es n t, .set _ _ t' =>
        if t.led != t'.led && objE P { o with data := .set es n { t with led := false } } == objE P { o' with data := (match o'.data with | .set es n t => .set es n { t with led := false } | d => d) } then
          let led := mkApp (mkConst ``Bool.not) (mkApp2 (mkConst ``Params.followText) P (mkStrLit "set-order"))
          let tE := mkAppN (mkConst ``SetTable.mk) #[toExpr t.mask, toExpr t.place, toExpr t.dummies, toExpr t.finger, led, toExpr t.moves, toExpr t.plain]
          some (mkApp4 (mkConst ``Obj.mk) (toExpr o.cls) (toExpr o.dict) (mkApp3 (mkConst ``Data.set) (toExpr es) (toExpr n) tE) (toExpr o.slots))
        else none
      | _, _ => none
    let partsQ (e : Lean.Expr) : MetaM (Array (Lean.Expr × Lean.Expr × Lean.Expr)) := do
      let ds ← Fast.twinsIn e
      let mine : Std.HashSet Lean.Expr := ds.foldl (fun s d => if d.1.isConst then s.insert d.1 else s) {}
      ds.filterM fun (x, _, _) => do return ((Fast.bareType (← inferType x)).find? fun y => mine.contains y || y.isConstOf `PySem.W.Frag).isNone
    let rawE (e : Lean.Expr) : MetaM Lean.Expr := do
      let ds ← partsQ e
      if ds.isEmpty then return e
      let at_ : Std.HashMap Lean.Expr Nat := (ds.zipIdx.foldl (fun m (d, i) => m.insert d.1 i) {})
      return Fast.putIn at_ (fun i => ds[i]!.2.1) e
    let noTwin (c : Lean.Expr) : MetaM Lean.Expr := do
      Fast.primed.modify (·.insert c.constName! none)
      return c
    let defRaw (stem : Name) (ty v : Lean.Expr) : MetaM Lean.Expr := do noTwin (← defAt stem ty (← rawE v))
    let lin (c : Name) : MetaM Unit := do
      let some f ← leftPieces.get | throwError "mine: not laid"
      f default (mkConst c) (plainProg []) ["lin"]
    let linE (c : Lean.Expr) : MetaM Lean.Expr := do lin c.constName!; return c
    let nfK : IO.Ref (Lean.Expr → MetaM Lean.Expr) ← IO.mkRef pure
    let nf (e : Lean.Expr) : MetaM Lean.Expr := do (← nfK.get) e
    nfK.set fun e => do
        let ty ← whnfR (← inferType e)
        if ty.isForall || ty.isSort then return ← (do let e' ← Dig.kw e; return e')
        if ty.isConstOf ``PySem.Str || ty.isConstOf ``String || ty.isConstOf ``UInt64 || ty.isConstOf ``Env then return e
        let e' ← Dig.kw e
        let .const c _ := e'.getAppFn | return e'
        let some (.ctorInfo ci) := (← getEnv).find? c | return e'
        if [``Code.body, ``Code.block, ``Code.handlers, ``Code.func, ``Code.expr, ``Code.whileLoop, ``Code.forLoop, ``Code.compStart, ``Code.compLoop].contains c then return e'
        let args := e'.getAppArgs
        let mut out := #[]
        for i in [0:args.size] do
          out := out.push (← if i < ci.numParams then pure args[i]! else nf args[i]!)
        return mkAppN e'.getAppFn out
    let stateM (old : Array (Obj × Obj × Lean.Expr)) (s s' : Shared) (raw : Bool) : MetaM (Array (Obj × Obj × Lean.Expr) × PySem.W.State) := do
      unless s.heap.objs.size == s'.heap.objs.size do throwError "mine: the sample worlds part"
      let P := mkConst ``Params
      let tyO ← mkArrow P (mkConst ``Obj)
      let mut objs := #[]
      for i in [0:s.heap.objs.size] do
        let (o, o') := (s.heap.objs[i]!, s'.heap.objs[i]!)
        match old[i]? with
        | some (a, a', e) => if sameObjNow a o && sameObjNow a' o' then objs := objs.push (a, a', e); continue
        | none => pure ()
        let v ← withLocalDeclD `P P fun p => do
          let some e := objM p o o' | throwError "mine: object {i} is the world's"
          mkLambdaFVars #[p] e
        objs := objs.push (o, o', ← if longDict o || !raw then (do noTwin (← defAt `o tyO v)) else defRaw `o tyO v)
      unless toExpr s.heap.life == toExpr s'.heap.life do throwError "mine: the heap's life is the world's"
      unless toExpr s.drawn == toExpr s'.drawn && s.toks == s'.toks do throwError "mine: the sample worlds part"
      let os := objs.map (·.2.2)
      let v ← withLocalDeclD `P P fun p => mkLambdaFVars #[p] (treeE p os 1 0)
      let t ← defRaw `tree (← mkArrow P (mkConst ``BT)) v
      return (objs, { heap := default, gens := ← gensE s s', drawn := toExpr s.drawn, toks := mkRawNatLit s.toks, tree := some (t, mkRawNatLit s.heap.objs.size, toExpr s.heap.life) })
    let topState (objs : Array (Obj × Obj × Lean.Expr)) (S : PySem.W.State) : MetaM TopState := do
      let some (t, n, l) := S.tree | throwError "mine: no tree"
      let some n := n.rawNatLit? | throwError "mine: no size"
      return { tree := t.constName!, n, life := l, gens := S.gens, drawn := S.drawn, toks := S.toks, objs := ← objs.mapM fun x => do return (match ← Fast.prime x.2.2.constName! with | some (a, _) => a | none => x.2.2.constName!) }
    let hcB (c : HC) : Lean.Expr := listE (mkConst ``Frame) [mkApp (mkConst ``topFrame) c.q]
    let hcCode (c : HC) (b : Lean.Expr) : Lean.Expr := mkApp2 (mkConst ``Code.body) b c.env
    let hcRst (c : HC) (f : Name) (extra : Array Lean.Expr) (w p n s th : Lean.Expr) : Lean.Expr := mkAppN (mkConst f) (#[mkConst ``treeTable, p, w, c.m0, c.ann] ++ extra ++ #[n, s, th])
    let hcRes (c : HC) (b s pos : Lean.Expr) : MetaM Lean.Expr := do mkAppM ``some #[← mkAppM ``Prod.mk #[mkConst ``Flow.next, ← mkAppM ``Prod.mk #[s, ← mkAppM ``Prod.mk #[hcCode c b, pos]]]]
    let aux (ty pf : Lean.Expr) : MetaM Lean.Expr := do return mkConst (← withOptions (Elab.async.set · false) (mkAuxLemma [] ty pf (cache := false)))
    let hcRunLemma (c : HC) (rows : List String) (steps : Nat) (S S' : PySem.W.State) (th : Lean.Expr → Lean.Expr → Lean.Expr → Lean.Expr → Lean.Expr) (pos' : Lean.Expr) : MetaM Lean.Expr := do
      let one := natE 1
      let l ← byPieceS rows (fun w p b os => pure (hcRst c ``segRunT #[one] w p (natE steps.succ) (S.atT w os) (th w p b os))) fun w _ b os => hcRes c b (S'.atT w os) pos'
      let (ty, pf) ← withWpb fun w p b os => do
        let k ← mkAppM ``segRun_of #[← atS l w p b os]
        let ty ← mkEq (hcRst c ``segRun #[one] w p (natE steps.succ) (S.at w os) (th w p b os)) (← hcRes c b (S'.at w os) pos')
        pure (← mkForallFVars #[w, p, b, os] ty, ← mkLambdaFVars #[w, p, b, os] k)
      aux ty pf
    let hcOneCut (c : HC) (ws : Lean.Expr → Lean.Expr) (asked : List String) (k : Nat) (Sp Sn : PySem.W.State) (tp : Lean.Expr → Lean.Expr → Lean.Expr → Lean.Expr → Lean.Expr) : MetaM (Lean.Expr × Lean.Expr) := do
      let one := natE 1
      let thrE ← withWpb fun w p b os => do
        let W := ws (asked.foldl (fun w r => mkApp3 (mkConst ``World.withFollow) w (mkStrLit r) (mkConst ``Bool.false)) w)
        let r ← whnfQuick (hcRst c ``segGoT #[one] W p (natE k) (Sp.atT W os) (tp W p b os))
        unless r.isAppOfArity ``Option.some 2 do throwError "mine: a cut: no state"
        let r2 ← Dig.kw r.appArg!
        unless r2.isAppOfArity ``Prod.mk 4 do throwError "mine: a cut: no pair"
        let t2 ← nf r2.appArg!
        let t2 := t2.replace fun x => if x == W then some w else none
        let t2 := t2.replace fun x => if x == ws w then some w else none
        mkLambdaFVars #[w, p, b, os] t2
      let thrC ← defAt `thread (← inferType thrE) thrE
      Fast.primed.modify (·.insert thrC.getAppFn.constName! none)
      let lem ← byPieceS asked (fun w p b os => pure (hcRst c ``segGoT #[one] (ws w) p (natE k) (Sp.atT (ws w) os) (tp (ws w) p b os))) fun w p b os => do
        mkAppM ``some #[← mkAppM ``Prod.mk #[Sn.atT (ws w) os, mkApp4 thrC (ws w) p b os]]
      return (thrC, lem)
    let hcSetLemma (c : HC) (p : Program) (cap steps : Nat) (oj : Array (Obj × Obj × Lean.Expr)) (S : PySem.W.State) (fin1 fin2 : Shared) (from1 from2 : Shared) (th1 : Thread) (th : Lean.Expr → Lean.Expr → Lean.Expr → Lean.Expr → Lean.Expr) (pos' : Lean.Expr) : MetaM (Lean.Expr × Nat × Array (Obj × Obj × Lean.Expr) × PySem.W.State) := do
      let one := natE 1
      let rowsIf (a : Bool) : List String := if a then ["special-get-raises"] else []
      let some (k0, sA, tA) := toLoop p (aWorld 1) steps from1 th1 | throwError "mine: no loop"
      let some (k0', sA', _) := toLoop p (aWorld 2) steps from2 th1 | throwError "mine: no loop"
      unless k0 == k0' do throwError "mine: the loop"
      let some (sa, ia) := atLoop tA | throwError "mine: the loop"
      let some (kL, sB, _) := lastLoop p (aWorld 1) (steps - k0) sA tA | throwError "mine: the loop's end"
      let some (kL', sB', _) := lastLoop p (aWorld 2) (steps - k0) sA' tA | throwError "mine: the loop's end"
      unless kL == kL' do throwError "mine: the loop's end"
      let some its := setIts sB.heap sa | throwError "mine: the items"
      let la := sa - 1
      -- the way to the loop's head
      let (cuts, _, _) := cutsOf p (aWorld 1) cap k0 from1 th1
      let (cuts', _, _) := cutsOf p (aWorld 2) cap k0 from2 th1
      unless cuts.size == cuts'.size do throwError "mine: cuts"
      let mut chain := #[]
      let mut oj := oj
      let mut Sj := S
      let mut tj := th
      let mut left := k0
      for ((k, sj, a), (k', sj', a')) in cuts.toList.zip cuts'.toList do
        unless k == k' do throwError "mine: cuts"
        if left - k < 40 then continue
        let (o2, Sn) ← stateM oj sj sj' true
        let (thrC, lem) ← hcOneCut c id (rowsIf (a || a')) k Sj Sn tj
        let tn (w p b os : Lean.Expr) : Lean.Expr := mkApp4 thrC w p b os
        chain := chain.push (k, Sj, tj, Sn, tn, lem)
        Sj := Sn
        tj := tn
        oj := o2
        left := left - k
      let (oA, SA) ← stateM oj sA sA' true
      -- the loop's head: its thread with the code as it is written
      let asked := ["special-get-raises"]
      let codeE := mkApp2 (mkConst ``Code.builtin) (mkStrLit "set.update.loop") (mkApp2 (mkConst ``Args.mk) (listE (mkConst ``Value) [mkApp (mkConst ``Value.ref) (mkRawNatLit sa), mkApp (mkConst ``Value.ref) (mkRawNatLit ia)]) (listE (mkApp2 (mkConst ``Prod [0, 0]) (mkConst ``PySem.Str) (mkConst ``Value)) []))
      let curE := mkApp2 (mkConst ``denote) (mkConst ``treeTable) codeE
      let headParts ← withWpb fun w p b os => do
        let W := asked.foldl (fun w r => mkApp3 (mkConst ``World.withFollow) w (mkStrLit r) (mkConst ``Bool.false)) w
        let r ← whnfQuick (hcRst c ``segGoT #[one] W p (natE left) (Sj.atT W os) (tj W p b os))
        unless r.isAppOfArity ``Option.some 2 do throwError "mine: the head: no state"
        let r2 ← Dig.kw r.appArg!
        unless r2.isAppOfArity ``Prod.mk 4 do throwError "mine: the head: no pair"
        let t2 ← nf r2.appArg!
        unless t2.isAppOfArity ``Thread.mk 4 do throwError "mine: the head: no thread"
        let st := t2.getAppArgs[3]!
        unless st.isAppOfArity ``List.cons 3 && st.getAppArgs[1]!.isAppOfArity ``Frame.ret 7 do throwError "mine: the head: no frame"
        let back (e : Lean.Expr) : Lean.Expr := e.replace fun x => if x == W then some w else none
        let parts := (#[t2.getAppArgs[2]!] ++ st.getAppArgs[1]!.getAppArgs ++ #[st.getAppArgs[2]!]).map back
        parts.mapM fun e => do mkLambdaFVars #[w, p, b, os] e
      let heads ← headParts.mapM fun e => do
        let d ← defAt `head (← inferType e) e
        Fast.primed.modify (·.insert d.getAppFn.constName! none)
        pure d
      let part (i : Nat) (w p b os : Lean.Expr) : Lean.Expr := mkAppN heads[i]! #[w, p, b, os]
      let headTh (w p b os : Lean.Expr) : Lean.Expr := mkApp4 (mkConst ``Thread.mk) curE codeE (part 0 w p b os)
        (mkApp3 (mkConst ``List.cons [0]) (mkConst ``Frame) (mkAppN (mkConst ``Frame.ret) ((Array.range 7).map fun i => part (i + 1) w p b os)) (part 8 w p b os))
      let thrE ← withWpb fun w p b os => do mkLambdaFVars #[w, p, b, os] (headTh w p b os)
      let thrC ← defAt `thread (← inferType thrE) thrE
      let preL ← byPieceS asked (fun w p b os => pure (hcRst c ``segGoT #[one] w p (natE left) (Sj.atT w os) (tj w p b os))) fun w p b os => do
        mkAppM ``some #[← mkAppM ``Prod.mk #[SA.atT w os, mkApp4 thrC w p b os]]
      -- the loop's end
      let oB := oA.mapIdx fun i x => if i == sa then (sB.heap.objs[sa]!, sB'.heap.objs[sa]!, mkConst (setName sa)) else x
      let (oB, SB) ← stateM oB sB sB' true
      let oB' := oB.mapIdx fun i x => if i == sa then (fin1.heap.objs[sa]!, fin2.heap.objs[sa]!, mkConst (setName sa)) else x
      let (oF, SF) ← stateM oB' fin1 fin2 true
      let restSteps := steps - k0 - kL
      let rest ← hcRunLemma c ["special-get-raises"] restSteps SB SF (fun w p b os => mkApp4 thrC w p b os) pos'
      let fuel := 24 * its.length + restSteps.succ
      let some (tA9, nn, life) := SA.tree | throwError "mine: no tree"
      let some (tB9, _, _) := SB.tree | throwError "mine: no tree"
      let itsE := toExpr its
      let itsC ← defAt `items (← inferType itsE) itsE
      let (saE, iaE, laE) := (mkRawNatLit sa, mkRawNatLit ia, mkRawNatLit la)
      let led (w : Lean.Expr) := mkApp (mkConst ``Bool.not) (mkApp2 (mkConst ``Params.followText) (mkApp (mkConst ``World.params) w) (mkStrLit "set-order"))
      let some lo := sA.heap.objs[la]? | throwError "mine: the list"
      let nL ← match lo.data with | .seq _ n => pure n | _ => throwError "mine: the list"
      -- the premises, for every w; their types are read off the theorem
      let (ty, pf) ← withWpb fun w p b os => do
        let P := mkApp (mkConst ``World.params) w
        let mut k ← pure (default : Lean.Expr)
        let some (_, _, r) := (← instantiateForall (← inferType rest) #[w, p, b, os]).eq? | throwError "mine: the rest"
        let base := #[p, w, c.m0, c.ann, part 8 w p b os, mkApp tA9 P, mkApp tB9 P, nn, life, saE, iaE, laE, natE nL, itsC, SA.gens, SA.drawn, os, SA.toks, SB.toks, natE restSteps.succ, natE fuel, part 0 w p b os, part 6 w p b os,
          part 1 w p b os, part 2 w p b os, part 3 w p b os, part 4 w p b os, part 7 w p b os, part 5 w p b os, led w, r.appArg!]
        let f := mkAppN (mkConst ``set_piece) base
        let mut fty ← inferType f
        let mut prem := #[]
        for i in [0:12] do
          let .forallE _ d bd _ ← whnfCore fty | throwError "mine: a premise {i}"
          let pr ← if i == 11 then pure (mkAppN rest #[w, p, b, os])
            else if i == 7 then mkDecideProof d
            else do
              let some (_, l, rr) := d.eq? | throwError "mine: premise {i}: no equation: {d}"
              let q ← mkEqRefl (if i < 3 then rr else l)
              let ty ← mkForallFVars #[w, p, b, os] d
              let pf ← mkLambdaFVars #[w, p, b, os] q
              let r ← aux ty pf
              pure (mkAppN r #[w, p, b, os])
          prem := prem.push pr
          fty := bd.instantiate1 pr
        k := mkAppN f prem
        let mut N := natE fuel
        k := mkAppN (mkConst ``seg_go) #[mkConst ``treeTable, p, w, c.m0, c.ann, one, natE left, N, Sj.at w os, SA.at w os, tj w p b os, mkApp4 thrC w p b os, r.appArg!, ← mkAppM ``segGo_of #[← atS preL w p b os], k]
        N := mkApp2 (mkConst ``Nat.add) (natE left) N
        for (n, Sp, tp, Sn, tn, l) in chain.toList.reverse do
          k := mkAppN (mkConst ``seg_go) #[mkConst ``treeTable, p, w, c.m0, c.ann, one, natE n, N, Sp.at w os, Sn.at w os, tp w p b os, tn w p b os, r.appArg!, ← mkAppM ``segGo_of #[← atS l w p b os], k]
          N := mkApp2 (mkConst ``Nat.add) (natE n) N
        let ty ← mkEq (hcRst c ``segRun #[one] w p (natE (k0 + fuel)) (S.at w os) (th w p b os)) r
        pure (← mkForallFVars #[w, p, b, os] ty, ← mkLambdaFVars #[w, p, b, os] k)
      let L ← aux ty pf
      return (L, k0 + fuel, oF, SF)
    let pairsOf (ks : List (Option PySem.Expr)) (vs : List PySem.Expr) : Option (List (Int × PySem.Str)) := (ks.zip vs).mapM fun
      | (some (.Constant (.int k) _ _), .Constant (.str v) _ _) => some (k, v)
      | _ => none
    let hcDispLemma (c : HC) (p : Program) (st : Stmt) (stE sts : Lean.Expr) (steps : Nat) (oj : Array (Obj × Obj × Lean.Expr)) (S S' : PySem.W.State) (from1 from2 : Shared) (th1 : Thread) (pos1 pos' : Lean.Expr) : MetaM Lean.Expr := do
      let .Assign [.Name x p1] (.Dict ks vs p2) _ := st | throwError "mine: no display"
      let some l := pairsOf ks vs | throwError "mine: no pairs"
      let (cs, cl) := chunks17 l
      let c0 :: cs := cs | throwError "mine: short"
      let mid := 1 + (1 + (2 + 13 * c0.length + cs.foldr (fun c k => 2 + 13 * c.length + (5 + 6 * c.length) + k) 0 + (1 + 13 * cl.length + (5 + 6 * cl.length) + 0)))
      let some (s1, t1) := runOn p (aWorld 1) mid from1 th1 | throwError "mine: the run"
      let some (s2, _) := runOn p (aWorld 2) mid from2 th1 | throwError "mine: the run"
      unless toExpr t1.pos == toExpr p2 do throwError "mine: the place"
      let (_, Sm) ← stateM oj s1 s2 false
      let ty1 := mkApp2 (mkConst ``Prod [0, 0]) (mkConst ``Int) (mkConst ``PySem.Str)
      let tyL := mkApp (mkConst ``List [0]) ty1
      let c0E ← defAt `disp tyL (toExpr c0)
      let clE ← defAt `disp tyL (toExpr cl)
      let csE ← defAt `disp (mkApp (mkConst ``List [0]) tyL) (toExpr cs)
      -- the statement's parts as terms
      let a ← whnfR stE
      let stA := (← whnfD a).getAppArgs
      let val ← whnfD stA[1]!
      unless val.isAppOfArity ``PySem.Expr.Dict 3 do throwError "mine: no Dict"
      let (ksE, vsE, p2E) := (val.getAppArgs[0]!, val.getAppArgs[1]!, val.getAppArgs[2]!)
      let p3E := stA[2]!
      let (xE, p1E) := (toExpr x, toExpr p1)
      let BE := hcB c
      let env := c.env
      -- the items
      let hiL ← mkAppM ``List.zip #[← mkAppM ``evalEachOpt #[ksE, env], ← do
        let f ← withLocalDeclD `v (mkApp (mkConst ``Sem) (mkConst ``Value)) fun v => do
          mkLambdaFVars #[v] (← Term.TermElabM.run' do
            let (vS, pS) := (← Term.exprToSyntax v, ← Term.exprToSyntax p2E)
            let e ← Term.withSynthesize (Term.elabTermEnsuringType (← `((do let x ← ($vS : Sem Value); standAt $pS; pure x : Sem Value))) (mkApp (mkConst ``Sem) (mkConst ``Value)))
            instantiateMVars e)
        mkAppM ``List.map #[f, ← mkAppM ``evalEach #[vsE, env]]]
      let all ← mkAppM ``HAppend.hAppend #[c0E, ← mkAppM ``HAppend.hAppend #[← mkAppM ``List.flatten #[csE], clE]]
      let hiR := mkApp2 (mkConst ``itemsOf) p2E all
      let hi ← aux (← mkEq hiL hiR) (← mkEqRefl hiR)
      let some (t9, n9, life) := S.tree | throwError "mine: no tree"
      let some (tm, nm, _) := Sm.tree | throwError "mine: no tree"
      let bt := mkConst ``Bool.true
      let rflB := mkApp2 (mkConst ``Eq.refl [1]) (mkConst ``Bool) bt
      let isT (e : Lean.Expr) : MetaM Lean.Expr := do aux (← mkEq e bt) rflB
      let hn ← isT (mkApp2 (mkConst ``Nat.ble) c.m0 n9)
      let h2 ← isT (mkApp2 (mkConst ``Nat.ble) (natE 3) n9)
      let ok ← isT (mkApp3 (mkConst ``dispOk) c0E csE clE)
      let hh ← do
        let (ty, pf) ← withLocalDeclD `w (mkConst ``World) fun w => do
          let P := mkApp (mkConst ``World.params) w
          let lhs := mkApp2 (mkConst ``BT.list) (mkApp tm P) nm
          let rhs ← mkAppM ``HAppend.hAppend #[mkApp2 (mkConst ``BT.list) (mkApp t9 P) n9, mkApp4 (mkConst ``dispObjs) c0E csE clE S.toks]
          pure (← mkForallFVars #[w] (← mkEq lhs rhs), ← mkLambdaFVars #[w] (← mkEqRefl lhs))
        aux ty pf
      let ht ← do
        let e := mkApp (mkConst ``DS.toks) (mkApp4 (mkConst ``dispEnd) c0E csE clE S.toks)
        aux (← mkEq e Sm.toks) (← mkEqRefl Sm.toks)
      -- the tail's run
      let midTh (w p b os : Lean.Expr) : MetaM Lean.Expr := Term.TermElabM.run' do
        let _ := (w, p, os)
        let v ← [xE, p1E, env, n9, hcCode c b, p2E, BE].mapM fun e => Term.exprToSyntax e
        let e ← Term.withSynthesize (Term.elabTermEnsuringType (← `((⟨(dispTail $(v[0]!) $(v[1]!) $(v[2]!) (.ref $(v[3]!))).wrap (fun f => match f with | .next => (execs [] $(v[2]!)).wrap doneF deadEnd id id | f => doneF f) deadEnd id id, $(v[4]!), $(v[5]!), $(v[6]!)⟩ : Thread))) (mkConst ``Thread))
        instantiateMVars e
      let midC ← do
        let e ← withWpb fun w p b os => do mkLambdaFVars #[b] (← midTh w p b os)
        defAt `mid (← inferType e) e
      let tail ← hcRunLemma c [] (steps - mid) Sm S' (fun _ _ b _ => mkApp midC b) pos'
      let (ty, pf) ← withWpb fun w p b os => do
        let P := mkApp (mkConst ``World.params) w
        let some (_, _, r) := (← inferType (mkAppN tail #[w, p, b, os])).headBeta.eq? | throwError "mine: the tail"
        let e := mkAppN (mkConst ``disp_piece) #[p, w, c.m0, c.ann, hcCode c b, BE, env, pos1, xE, p1E, p2E, p3E, ksE, vsE, c0E, clE, csE, mkApp t9 P, mkApp tm P, n9, nm, life, S.gens, S.drawn, S.toks, Sm.toks, os, natE (steps - mid).succ, r.appArg!,
          mkConst ``Nat.one_pos, hi, hn, h2, ok, mkApp hh w, ht, mkAppN tail #[w, p, b, os]]
        let whole := mkAppN (mkConst ``piecesOf) #[sts, env, hcCode c b, pos1, BE]
        let ty ← mkEq (hcRst c ``segRun #[natE 1] w p (natE steps.succ) (S.at w os) whole) r
        pure (← mkForallFVars #[w, p, b, os] ty, ← mkLambdaFVars #[w, p, b, os] e)
      let r ← aux ty pf
      return r
    let groupsOf : List (Nat × Nat) := [(0, 8), (8, 1), (9, 1), (10, 1), (11, 1), (12, 1), (13, 1), (14, 1), (15, 26), (41, 25), (66, 1), (67, 11)]
    let nm : Name := `Mine.top
    let env9 ← getEnv
    Fast.primed.modify fun m => env9.constants.map₂.foldl (fun m c _ => m.insert c none) m
    let p := PySem.Challenge.pw_re0166_01
    let pE ← progE
    let .ok t ← traceTop p 50000 1 | throwError "mine: trace"
    let .ok t' ← traceTop p 50000 2 | throwError "mine: trace"
    let bE ← mkAppM ``behindTheImports #[pE]
    let some cells ← cellsD? bE | throwError "mine: the body"
    let main ← mkAppM ``Program.main #[pE]
    let scope ← mkAppM ``Module.scope #[main]
    let envE ← do
      let pS ← Term.exprToSyntax scope
      let cS ← Term.exprToSyntax (toExpr t.code)
      let e ← Term.withSynthesize (Term.elabTermEnsuringType (← `(({ scope := $pS, locals := mainNs, globals := mainNs, cells := [], code := $cS, frame := some $(quote t.frame) } : Env))) (mkConst ``Env))
      instantiateMVars e
    let envE ← linE (← defAt `env (mkConst ``Env) envE)
    let c : HC := { m0 := natE t.s0.heap.objs.size, ann := toExpr t.ann, env := envE, q := toExpr t.framePos }
    let o0 := (Array.range t.s0.heap.objs.size).map fun i => (t.s0.heap.objs[i]!, t'.s0.heap.objs[i]!, mkConst ((`PySem.W).str s!"boot_o_{i}"))
    let (oP, _) ← stateM o0 t.pre.s t'.pre.s true
    let (o, Sb) ← stateM oP t.block.s t'.block.s true
    let oB := o
    let mut o := o
    let mut S := Sb
    let mut pos : Pos := t.block.pos
    let mut from1 := t.block.s
    let mut from2 := t'.block.s
    let mut lems := #[]
    let pcs := (t.pieces.zip t'.pieces).toArray
    for (i, n) in groupsOf do
      let sts := (cells.drop i).take n
      let mine := (pcs.extract i (i + n)).toList
      let steps := (mine.map (·.1.steps)).foldl (· + ·) 0
      let rows := ((mine.map fun x => x.1.rows ++ x.2.rows).flatten.eraseDups).filter (· != "set-order")
      let some (x, x') := mine.getLast? | throwError "mine: a group"
      let stE ← linE (← defAt `sts (mkApp (mkConst ``List [0]) (mkConst ``Stmt)) (listE (mkConst ``Stmt) sts))
      let th1 := piecesOf ((t.body.drop i).take n) t.benv t.bcode pos [topFrame t.framePos]
      let whole (b : Lean.Expr) : Lean.Expr := mkAppN (mkConst ``piecesOf) #[stE, envE, hcCode c b, toExpr pos, hcB c]
      let (lem, fuel, o', S') ← if i == 8 || i == 12 || i == 14 then
          hcSetLemma c p 200 steps o S x.s x'.s from1 from2 th1 (fun _ _ b _ => whole b) (toExpr x.pos)
        else do
          let (o', S') ← stateM o x.s x'.s true
          let lem ← if i == 10 then do
              let some st := t.body[10]? | throwError "mine: 10"
              hcDispLemma c p st sts.head! stE steps o S S' from1 from2 th1 (toExpr pos) (toExpr x.pos)
            else hcRunLemma c rows steps S S' (fun _ _ b _ => whole b) (toExpr x.pos)
          pure (lem, steps.succ, o', S')
      lems := lems.push (stE, S, pos, S', x, lem, fuel)
      o := o'
      S := S'
      pos := x.pos
      from1 := x.s
      from2 := x'.s
    let (Sk, posK) := (S, pos)
    let chain := nm ++ `chain
    let stL := mkApp (mkConst ``List [0]) (mkConst ``Stmt)
    let (ty, pf) ← withLocalDeclD `p (mkConst ``Program) fun p => withLocalDeclD `b stL fun b => withLocalDeclD `w (mkConst ``World) fun w => withLocalDeclD `os (mkConst ``OsState) fun os =>
      withLocalDeclD `rest stL fun rest => withLocalDeclD `N (mkConst ``Nat) fun N => withLocalDeclD `r (mkConst ``Shared) fun r => do
        let th (rest : Lean.Expr) (pos : Pos) : Lean.Expr := mkAppN (mkConst ``restOf) #[rest, envE, hcCode c b, toExpr pos, hcB c]
        let someR ← mkAppM ``some #[r]
        let hyp ← mkEq (hcRst c ``topRun #[] w p N (Sk.at w os) (th rest posK)) someR
        withLocalDeclD `h hyp fun h => do
          let common := #[mkConst ``treeTable, p, w, c.m0, c.ann, envE, c.q]
          let mut k := h
          let mut N' := N
          let mut rs := rest
          for (stE, S1, pos1, S', x, lem, steps) in lems.toList.reverse do
            k := mkAppN (mkConst ``piece_app) (common ++ #[natE steps, N', S1.at w os, S'.at w os, r, stE, rs, hcCode c b, toExpr pos1, toExpr x.pos, mkAppN lem #[w, p, b, os], k])
            N' := mkApp2 (mkConst ``Nat.add) (natE steps) N'
            rs ← mkAppM ``HAppend.hAppend #[stE, rs]
          let goal ← mkEq (hcRst c ``topRun #[] w p N' (Sb.at w os) (th rs t.block.pos)) someR
          pure (← mkForallFVars #[p, b, w, os, rest, N, r, h] goal, ← mkLambdaFVars #[p, b, w, os, rest, N, r, h] k)
    addDecl (.thmDecl { name := chain, levelParams := [], type := ty, value := pf })
    let e : TopEntry := { cells := cells.toArray, groups := lems.map (·.1.constName!), steps := lems.map fun (_, _, _, _, _, _, s) => s, chain := chain, env := envE.constName!, m0 := c.m0, ann := c.ann, q := c.q, posB := toExpr t.block.pos, posK := toExpr posK, o0 := o0.map (·.2.2.constName!), sB := ← topState oB Sb, sK := ← topState o Sk }
    modifyEnv fun env => topsExt.addEntry env e
    : Term.TermElabM Unit) : Term.TermElabM Unit)
  trivial

end
-- HeadT
section
open Lean Meta Elab Tactic PySem PySem.W PySem.Calls PyProof.Rows
set_option maxHeartbeats 0 in
theorem head (hc : ∀ d kwd, defOf qv PySem.Challenge.rw_re0166_01.row.name = some (d, kwd) → WalkO qv lo (XL qv lv) (Hook.says hookF) PySem.Challenge.rw_re0166_01.row.toRowW d kwd fun f vs => PySem.call f vs) : PySem.Challenge.rw_re0166_01.Holds := by
  w_on
  o_law
  refine holds_open (q := qv) (loose := lo) (Xt := fun s => xlAt qv lv s && recOk (RowW.records PySem.Challenge.rw_re0166_01.row.toRowW) s) (XP := XL qv lv) (Yf := Hook.obs hookF) (Ya := Hook.val hookF) (YP := Hook.says hookF) (N := 40400) ?hl (Hook.of hookF) (Hook.keeps hookF) (fun s e => xl_of s (Bool.and_eq_true_iff.mp e).1) XL.keeps (by rfl) (by rfl) (by rfl) (fun s e => recFacts_of (Bool.and_eq_true_iff.mp e).2) (by rfl) (by assumption) (by decide +kernel) ⟨rfl, rfl, rfl, rfl, rfl, by decide +kernel⟩ ?hw ?hc
  case hl => run_tac do
    let g ← getMainGoal
    leftByPieces g (← progE) PySem.Challenge.pw_re0166_01 []
    modifyEnv fun env => PersistentEnvExtension.setState topsExt env ([], #[])
  case hw => w_witness2
  case hc => exact hc _ _ rfl

end
end Mine
theorem PySem.Challenge.cw_re0166_01_holds : PySem.Challenge.rw_re0166_01.Holds := by
  exact Mine.head Mine.walk
