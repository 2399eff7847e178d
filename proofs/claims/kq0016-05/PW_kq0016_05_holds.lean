import PyProof.Rows.All
import Wide.All
import OpenK.AllK
import Wide.FinOn
import PyProof.StrLawsOccR
import Wide.BytesRules
import KE.KSuper
import KE.KxIndex
import KE.KxTruthy
import KE.KTextTable
import KE.KFmtOwn
import KE.KTurns
import KE.KxPercent
import KE.KxDecode
import KE.BytesMake
import KE.KxText
import KE.LcTurns
import KE.KDictAny
import PyProof.Rows.FinIter
import KE.KLcTest
import ObjForm.LawKit
import PyProof.ReprReads
import PyProof.StrLawsRepr
import PyProof.Rows.RegStrFacts
import Lean
import PySem.Challenge.RW_kq0016_05
set_option Elab.async false
set_option compiler.extract_closed false
set_option linter.unusedVariables false
open PySem PySem.W PySem.Calls PySem.Spec PyProof.Rows
namespace Mine

open Lean in
/-- the tactics that the walk lines name by a sign -/
def wt : Char → MacroM (TSyntax `tactic)
  | 'm' => `(tactic| k_mem)
  | '3' => `(tactic| walk_at "z3")
  | '4' => `(tactic| walk_at "z4")
  | 'E' => `(tactic| walk_at "z5")
  | 'w' => `(tactic| with_reducible assumption)
  | 'A' => `(tactic| assumption)
  | 'o' => `(tactic| omega)
  | 'O' => `(tactic| (k_dflt omega))
  | 'r' => `(tactic| rfl)
  | 'R' => `(tactic| exact rfl)
  | 'd' => `(tactic| decide)
  | 'D' => `(tactic| decide +kernel)
  | 'i' => `(tactic| k_is)
  | 's' => `(tactic| ks_is)
  | 'p' => `(tactic| k_put)
  | 'u' => `(tactic| k_upd)
  | 'k' => `(tactic| k_whole)
  | 'K' => `(tactic| kernel_rfl)
  | 'b' => `(tactic| boot_by_name)
  | '1' => `(tactic| (all_goals (try walk_at "z1")))
  | '2' => `(tactic| (all_goals (try walk_at "z2")))
  | 'S' => `(tactic| (try k_sweep))
  | 'Y' => `(tactic| (try dsimp only))
  | 'L' => `(tactic| (try k_lt l1))
  | 'l' => `(tactic| (repeat (obtain ⟨_, l1⟩ := l1)))
  | 'e' => `(tactic| k_all)
  | 'W' => `(tactic| k_dflt assumption)
  | 'z' => `(tactic| k_dflt size_fits)
  | 'U' => `(tactic| ((try simp only [units_in1, units_deeper, Around.mark_units]); omega))
  | 'Z' => `(tactic| (simp only [Array.size_push, List.size_toArray, PySem.sizeLine_eq]; omega))
  | 'V' => `(tactic| (simp only [List.length_cons, List.length_nil, PySem.sizeLine_eq]; omega))
  | 'n' => `(tactic| ((show _ + 3 < recursionLimit); omega))
  | 'N' => `(tactic| (intro t; k_upd))
  | 'X' => `(tactic| with_unfolding_all rfl)
  | 'I' => `(tactic| (intro _; with_unfolding_all rfl))
  | 'M' => `(tactic| (intro q hq; (repeat (first | exact hq | refine List.mem_cons_of_mem _ ?_))))
  | 'B' => `(tactic| exact ⟨_, (by assumption : News _ _ _ ((_, LCg.lst _) :: _)).get List.mem_cons_self, rfl, _, rfl⟩)
  | _ => `(tactic| k_asm)
open Lean in
def wn (s : String) : MacroM (TSyntax `ident) := do return mkIdent (← Macro.addMacroScope (Name.mkSimple s))
open Lean in
/-- a term from its words, the head behind what it holds: @n the use of a word on n terms, [n a list, <n an anonymous constructor, 'w a text, !c a tactic's sign, .w a dotted name -/
def wp : List String → List (TSyntax `term) → MacroM (TSyntax `term)
  | [], t :: _ => return t
  | [], [] => `(_)
  | w :: r, st => do
    let n := (w.drop 1).toNat?.getD 0
    let as := (st.take n).reverse
    match w.front with
    | '_' => wp r ((← `(_)) :: st)
    | '#' => wp r (quote n :: st)
    | '@' => wp r (Syntax.mkApp (st.getD n ⟨.missing⟩) as.toArray :: st.drop (n + 1))
    | '[' => wp r ((← `([$(as.toArray),*])) :: st.drop n)
    | '\'' => wp r (Syntax.mkStrLit ((w.drop 1).toString.map fun c => if c == '~' then ' ' else c) :: st)
    | '<' => wp r ((← `(⟨$(as.toArray),*⟩)) :: st.drop n)
    | '!' => do
      let t ← wt (w.back)
      wp r ((← `(by $t:tactic)) :: st)
    | '$' => do
      let i ← wn (w.drop 1).toString
      wp r ((← `($i:ident)) :: st)
    | '.' => wp r ((← `(.$(mkIdent (w.drop 1).toString.toName):ident)) :: st)
    | _ => wp r (mkIdent w.toName :: st)
open Lean in
/-- the tactic of a sign; a figure: one of the line's own, each a term to be given, or several parted by | -/
def wx (ex : List String) (c : Char) : MacroM (TSyntax `tactic) :=
  match (if c.toNat < 53 || 64 < c.toNat then none else ex[c.toNat - 53]?) with
  | some t =>
    if t.startsWith "^" then do
      let k ← wn "k9"
      let u ← wp ((t.drop 1).toString.splitOn " ") []
      `(tactic| try ((have $k:ident := $u); dsimp only at $k:ident))
    else do
    let as ← (t.splitOn " | ").mapM fun s => do
      if s.startsWith "=" then wt s.back else do
      let u ← wp (s.splitOn " ") []
      `(tactic| exact $u)
    let as := as.toArray
    `(tactic| first $[| $as:tactic]*)
  | none => wt c
open Lean in
/-- the holes, closed in the order told: hole, tactic, hole, tactic ..; a sign . for no hole -/
def wc (ex : List String) : List Char → MacroM (List (TSyntax `tactic))
  | h :: c :: r => do
    let t ← wx ex c
    let u ← if h == '.' then pure t else do
      let i ← wn h.toString
      `(tactic| (case $i:ident => $t:tactic))
    return u :: (← wc ex r)
  | _ => return []
open Lean in
/-- the arguments: _ an open hole, a letter a hole of that name, = for rfl, ' and a sign for a tactic at once, a figure for one of the line's own terms -/
def wa (ex : List String) : List Char → MacroM (List (TSyntax `term))
  | [] => return []
  | '\'' :: c :: r => do
    let t ← wx ex c
    return (← `(by $t:tactic)) :: (← wa ex r)
  | c :: r => do
    let u ← match c with
      | '_' => `(?_)
      | '=' => `(rfl)
      | _ => match (if c.toNat < 53 || 64 < c.toNat then none else ex[c.toNat - 53]?) with
        | none => `(?$(← wn c.toString):ident)
        | some t => match t.splitOn ":=" with
          | [n, t] => do
            let t ← wp (t.splitOn " ") []
            pure ⟨(← `(Parser.Term.namedArgument| ($(mkIdent n.toName):ident := $t))).raw⟩
          | _ => wp (t.splitOn " ") []
    return u :: (← wa ex r)
open Lean in
/-- a walk line: fl 1 k_here, 2 k_dflt, 4 with_reducible; what must stand there; the rule, its arguments, how its holes are closed; what is named then; what is done last -/
def wl (fl : Nat) (pre sh : String) (th : Name) (hs cs is e : String) (ex : List String) : MacroM Syntax := do
  let p ← if pre == "" then pure [] else pure [← `(tactic| ks_step $(Syntax.mkStrLit pre))]
  let s ← if sh == "" then pure [] else do pure [← `(tactic| with_reducible show wpAny _ _ $(← wp (sh.splitOn " ") []) _ _ _)]
  let f := Syntax.mkApp (mkIdent th) (← wa ex hs.toList).toArray
  let t ← if fl.testBit 2 then `(tactic| with_reducible refine $f) else `(tactic| refine' $f)
  let b := (t :: (← wc ex cs.toList)).toArray
  let b ← `(tactic| ($[$b];*))
  let b ← if fl.testBit 1 then `(tactic| k_dflt $b:tactic) else pure b
  let h ← if fl.testBit 0 then pure [← `(tactic| k_here)] else pure []
  let i ← if is == "" then pure #[] else (is.splitOn " ").toArray.mapM wn
  let i ← if i.size == 0 then pure [] else do pure [← `(tactic| intro $i*)]
  let e ← e.toList.mapM (wx ex)
  let ts := (p ++ h ++ s ++ [b] ++ i ++ e).toArray
  `(tactic| ($[$ts];*))
end Mine

section
open PySem PySem.W PyProof.Rows
set_option maxRecDepth 100000
set_option maxHeartbeats 8000000
def hd.prog : Program := PySem.Challenge.rw_kq0016_05.row.toRowW.prog
/-- the text without what is loose in it -/
def hd.view_39 : Program := { hd.prog with main := { hd.prog.main with body := [0, 1, 4, 6, 7, 8].map (hd.prog.main.body.getD · default) } }
theorem hd.said : OpenLaw.wellSaid PySem.Challenge.rw_kq0016_05 = true := by kernel_rfl
local macro_rules | `(tactic| o_law) => `(tactic| refine holds_law hd.said fun said => ?_)
local macro_rules | `(tactic| o_head $H) => `(tactic| (refine holds_open (r := PySem.Challenge.rw_kq0016_05.row) (q := hd.view_39) (loose := [Str.ofString "PatternError", Str.ofString "error_constants", Str.ofString "Tokenizer"]) (Xt := fun s => xlAt hd.view_39 [] s && recOk (RowW.records PySem.Challenge.rw_kq0016_05.row.toRowW) s) (XP := XL hd.view_39 []) (Yf := Hook.obs $H) (Ya := Hook.val $H) (YP := Hook.says $H) (N := 4000) ?hl (Hook.of $H) (Hook.keeps $H) (fun s e => xl_of s (Bool.and_eq_true_iff.mp e).1) XL.keeps (by rfl) (by rfl) (by rfl) (fun s e => recFacts_of (Bool.and_eq_true_iff.mp e).2) (by rfl) (by first | assumption | decide +kernel) (by decide +kernel) ⟨rfl, rfl, rfl, rfl, rfl, by decide +kernel⟩ ?hw ?hc; (case hl => intro w; kernel_rfl)))
open_top hd for PySem.Challenge.rw_kq0016_05
end

section
open PySem PySem.W PySem.Calls PySem.Spec PyProof.Rows
set_option maxRecDepth 100000
set_option maxHeartbeats 3000000
namespace Mine
/-- the law's own text, out of the row -/
def defBody : Stmt → List Stmt
  | .FunctionDef _ _ b _ _ _ _ _ _ _ => b
  | _ => []
def defScope : Stmt → Scope
  | .FunctionDef _ _ _ _ _ _ s _ _ _ => s
  | _ => default
def forBody : Stmt → List Stmt
  | .For _ _ b _ _ => b
  | _ => []
def lastDef (k : Nat) : Stmt := PySem.Challenge.rw_kq0016_05.row.prog.main.body.reverse.getD k default
def lawBody : List Stmt := defBody (lastDef 0)
def lawScope : Scope := defScope (lastDef 0)
def lawTurn : List Stmt := forBody (lawBody.getD 16 default)
end Mine
end

section
open PySem PySem.W PySem.Calls PySem.Spec PyProof.Rows
set_option maxRecDepth 100000
set_option maxHeartbeats 4000000
namespace Mine
open TI

/-- an environment whose frame is L -/
structure EvAt (ev : Env) (L : Addr) : Prop where
  kind : ev.scope.kind = .function
  frame : ev.frame = some L
  globals : ev.globals = mainGlobals
  builtins : ev.builtins = builtinsNs
theorem EvAt.of {name : Str} {scope : Scope} {L a : Addr} {cd : Value} (h : scope.kind = .function) : EvAt (envOf name scope L a cd) L := ⟨h, rfl, rfl, rfl⟩
theorem EvAt.ofC {name : Str} {scope : Scope} {L a : Addr} {cd : Value} (h : scope.kind = .function) : EvAt (envOfC name scope L a cd) L := ⟨h, rfl, rfl, rfl⟩
section frames
variable {prog : Program} {w : World} {A : Around} {s : Shared} {K : Frag} {L : Addr} {base : Heap} {m mg mb : Str → Option Value} {news frs : List (Addr × Obj)} {p : Program} {loose : List Str} {mean : ExcName → Option Value} {l : List Env}
  {R : Result → Shared → Prop} {name qual : Str} {params : Arguments} {body : List Stmt} {scope : Scope} {dV kV doc pm cdv ct oc : Value} {an od : Option Addr} {osl : Array (Option Value)} {f : Addr} {args : Args} {binds : List (Str × Value)}
  {cn : Str} {cs : Scope} {a : Addr} {ccd : Value}

theorem caller_of {h : Heap} (F : Fr base L h m) : ∃ oL, h.get? L = some oL ∧ Caller base L m oL := by
  obtain ⟨oL, es, ep, hL, hLd, hLk, hLf⟩ := F.ns
  exact ⟨oL, hL, fun h' sl e => ⟨_, es, ep, e, hLd, hLk, hLf⟩, ⟨es, ep, hLd⟩, F.above⟩

/-- a call of a def of the text: its frame stands on the law's own ground, the caller's frame is a part of the ledger -/
theorem enterV {ev : Env} (F : Fr base L s.heap m) (X : K.In base) (N : News base L s.heap news) (T : Top p loose mean mg mb base) (Fs : Frs l frs)
    (ho : K.lookup f = some ⟨oc, od, .func (fnOf name qual params body scope dV kV doc pm an cdv ct), osl⟩) (hcd : codeIn K cdv qual = true) (hroom : A.depth < recursionLimit)
    (hbind : BindsTo s (fnOf name qual params body scope dV kV doc pm an cdv ct) args binds) (hloc : ∀ y ∈ binds, scope.names.lookup y.1 = some .local)
    (h : ∀ oL L' h₁, Caller base L m oL → Frs (ev :: l) ((L, oL) :: frs) → Fr base L' h₁ (fun y => binds.reverse.lookup y) → News base L' h₁ ((L, oL) :: news) → (∀ q ∈ news, q.1 ≠ L) → (∀ q ∈ (L, oL) :: news, q.1 < L') →
      wpAny (model prog w) (A.deeper (envOf qual scope L' f cdv)) (execs body (envOf qual scope L' f cdv))
        (fun fl s' => R (.ok (.ret (match fl with | .ret v => v | _ => .none))) s')
        (fun e s' => wpAny (model prog w) (A.deeper (envOf qual scope L' f cdv)) (leaving (envOf qual scope L' f cdv) e) (fun _ s'' => R (.error e) s'') (fun e' s'' => R (.error e') s'') s')
        { s with heap := h₁, toks := s.toks + binds.length })
    (hev : EvAt ev L) (hco : scope.isCoroutine = false) (hgen : scope.isGenerator = false) (hk : scope.kind = .function)
    (hcell : ∀ x ∈ scope.names, x.2 ≠ .cell) : codeAny (model prog w) A (.call (.ref f) args) R s := by
  have X' := X.keeps F.keep
  obtain ⟨oL, hL, C⟩ := caller_of F
  refine codeAny_call_def (fd := fnOf name qual params body scope dV kV doc pm an cdv ct) (body := body) (binds := binds) hroom (X' _ _ ho) rfl (T.nolimit.keeps F.keep) (codeRec_of X' hcd) rfl hbind hcell hloc (fun h₁ hns hk₁ => ?_) hco hgen hk
  have hkind : (ev).scope.kind ≠ .module := by
    rw [hev.kind]; decide
  have hlt : L < s.heap.objs.size := Heap.lt_size hL
  refine h oL s.heap.objs.size h₁ C ⟨hkind, hev.frame, C.dict, Fs⟩ ⟨hns, fun b o e => hk₁ b o (F.keep b o e), Nat.le_of_lt (Nat.lt_of_le_of_lt F.above hlt)⟩ ?_ (fun q hq => (N q hq).2.1) ?_
  · intro q hq
    rcases List.mem_cons.mp hq with rfl | hq
    · exact ⟨hk₁ _ _ hL, Nat.ne_of_lt hlt, Heap.get?_none_of_le F.above⟩
    · exact ⟨hk₁ _ _ (N q hq).1, Nat.ne_of_lt (Heap.lt_size (N q hq).1), (N q hq).2.2⟩
  · intro q hq
    rcases List.mem_cons.mp hq with rfl | hq
    · exact hlt
    · exact Heap.lt_size (N q hq).1

theorem enterM (F : Fr base L s.heap m) (X : K.In base) (N : News base L s.heap news) (T : Top p loose mean mg mb base) (Fs : Frs l frs)
    (ho : K.lookup f = some ⟨oc, od, .func (fnOf name qual params body scope dV kV doc pm an cdv ct), osl⟩) (hcd : codeIn K cdv qual = true) (hroom : A.depth < recursionLimit)
    (hbind : BindsTo s (fnOf name qual params body scope dV kV doc pm an cdv ct) args binds) (hloc : ∀ y ∈ binds, scope.names.lookup y.1 = some .local)
    (h : ∀ oL L' h₁, Caller base L m oL → Frs (envOf cn cs L a ccd :: l) ((L, oL) :: frs) → Fr base L' h₁ (fun y => binds.reverse.lookup y) → News base L' h₁ ((L, oL) :: news) → (∀ q ∈ news, q.1 ≠ L) → (∀ q ∈ (L, oL) :: news, q.1 < L') →
      wpAny (model prog w) (A.deeper (envOf qual scope L' f cdv)) (execs body (envOf qual scope L' f cdv))
        (fun fl s' => R (.ok (.ret (match fl with | .ret v => v | _ => .none))) s')
        (fun e s' => wpAny (model prog w) (A.deeper (envOf qual scope L' f cdv)) (leaving (envOf qual scope L' f cdv) e) (fun _ s'' => R (.error e) s'') (fun e' s'' => R (.error e') s'') s')
        { s with heap := h₁, toks := s.toks + binds.length })
    (hck : cs.kind = .function) (hco : scope.isCoroutine = false) (hgen : scope.isGenerator = false) (hk : scope.kind = .function)
    (hcell : ∀ x ∈ scope.names, x.2 ≠ .cell) : codeAny (model prog w) A (.call (.ref f) args) R s :=
  enterV F X N T Fs ho hcd hroom hbind hloc h (EvAt.of hck) hco hgen hk hcell

theorem backM {L' : Addr} {m' : Str → Option Value} {oL : Obj} {sl : Array (Option Value)} {h : Heap} {news' : List (Addr × Obj)} (C : Caller base L m oL) (F' : Fr base L' h m') (N' : News base L' h news') (hL : (L, { oL with slots := sl }) ∈ news') : Fr base L h m :=
  ⟨C.ns _ sl (N' _ hL).1, F'.keep, C.above⟩
theorem backN {L' : Addr} {h : Heap} {news' sub : List (Addr × Obj)} (N' : News base L' h news') (hs : ∀ q ∈ sub, q ∈ news') (hne : ∀ q ∈ sub, q.1 ≠ L) : News base L h sub :=
  fun q hq => ⟨(N' q (hs q hq)).1, hne q hq, (N' q (hs q hq)).2.2⟩
end frames

/-! an exception object in the ledger -/
structure ExcAt (oe oT : Obj) (cls : Value) (dct : Option Addr) (a0 c2 : Value) (T : Addr) (fl : Value) : Prop where
  cls : oe.cls = cls
  dict : oe.dict = dct
  data : ∃ vs, oe.data = .fields vs ∧ vs[0]? = some a0 ∧ vs[1]? = some (.ref T) ∧ vs[2]? = some c2
  tb : ∃ ts, oT.data = .fields ts ∧ ts[3]? = some fl

section exc
variable {prog : Program} {w : World} {M : Model} {A : Around} {E : Value → Shared → Prop} {s : Shared} {L a e T : Addr} {cls a0 c2 : Value} {dct : Option Addr} {base h : Heap} {m : Str → Option Value} {new frs : List (Addr × Obj)} {l : List Env} {name : Str} {scope : Scope} {cd : Value} {oe oT : Obj} {Q : Unit → Shared → Prop}

theorem sameUp_get {h h' : Heap} : ∀ {frs : List (Addr × Obj)}, (∀ q ∈ frs, h.get? q.1 = some q.2) → (∀ b o, h.get? b = some o → ∃ sl, h'.get? b = some { o with slots := sl }) → ∃ frs', SameUp frs frs' ∧ ∀ q ∈ frs', h'.get? q.1 = some q.2 :=
  fun h1 h2 => sameUp_of fun q hq => h2 _ _ (h1 q hq)

/-- the traceback's entry is made and the frames are looked at -/
theorem entryM {ev : Env} {head : Value} {hadNext : Bool} {vs : Array Value} (hA : A.frames = some (ev :: l)) (hk : EvAt ev L) (Fs : Frs l frs)
    (F : Fr base L s.heap m) (N : News base L s.heap ((e, oe) :: (new ++ frs))) (hap : ∀ q ∈ new, q.1 ≠ e ∧ q.1 ∉ frs.map (·.1)) (hef : e ∉ frs.map (·.1))
    (hd : oe.data = .fields vs) (hsz : 1 < vs.size)
    (k : ∀ h' frs' T oT, SameUp frs frs' → Frs l frs' → Fr base L h' m → News base L h' ((T, oT) :: (e, Obj.mapFields (·.setIfInBounds 1 (.ref T)) oe) :: (new ++ frs')) → (∀ q ∈ (e, oe) :: (new ++ frs), q.1 < T) →
      (∃ ts, oT.data = .fields ts ∧ ts[3]? = some (rawInt L)) → Q () { s with heap := h' }) :
    wpAny M A (do let f ← frameOf (ev); let pl ← entryPlaceOf L hadNext; let b ← EntryCells.newEntry head f .none (rawInt L) .none pl; setField (.ref e) 1 b) Q E s := by
  have hN : ∀ q ∈ frs, q ∈ (e, oe) :: (new ++ frs) := fun q hq => List.mem_cons_of_mem _ (List.mem_append_right _ hq)
  obtain ⟨oL, esL, epL, hL, hLd, hLk, hLf⟩ := F.ns
  have hkind : ev.scope.kind ≠ .module := by
    rw [hk.kind]; decide
  have hbL : base.get? L = none := Heap.get?_none_of_le F.above
  have hff : s.heap.FunFrames base (ev :: l) := Heap.FunFrames.cons hkind hk.frame ⟨oL, esL, epL, hL, hLd, hLk, hLf⟩ hbL (Fs.fun fun q hq => ⟨(N q (hN q hq)).1, (N q (hN q hq)).2.2⟩)
  have hfa : (ev :: l).filterMap (·.frame) = L :: frs.map (·.1) := by rw [List.filterMap_cons, hk.frame]; exact congrArg (List.cons L) (by have z := frames_are (name := Str.empty) (scope := default) (L := L) (a := 0) (cd := .none) Fs; exact (List.cons.inj z).2)
  refine wpAny_bind (wpAny_frameOf_fun hA hff hk.frame fun h₁ hs₁ => ?_)
  refine wpAny_bind (wpAny_entryPlaceOf fun pl hpl => ?_)
  unfold EntryCells.newEntry newFields
  refine wpAny_bind (wpAny_newObj_type ?_ (hpl.sizeOk5 _ _ _ _ _))
  obtain ⟨z1, z2, z3⟩ := hs₁
  rw [hfa] at z2
  have Nex := N _ (List.mem_cons_self)
  have heL : e ∉ L :: frs.map (·.1) := fun hm => by
    rcases List.mem_cons.mp hm with q | q
    · exact Nex.2.1 q
    · exact hef q
  have he₁ : h₁.get? e = some oe := (z2 e heL).trans Nex.1
  generalize hO : ({ cls := .type "traceback", dict := none, data := .fields ([head, .ref L, .none, rawInt L, .none] ++ (if pl.isEmpty then List.replicate 6 Value.none else pl)).toArray } : Obj) = O
  have hOf : O.isFreed = false := by rw [← hO]; rfl
  have he₂ := Heap.get?_push_of_some (h := h₁) O he₁
  refine wpAny_setField he₂ hd hsz ?_
  have hTe : h₁.objs.size ≠ e := Nat.ne_of_gt (Heap.lt_size he₁)
  have hd₃ := Obj.data_mapFields hd (·.setIfInBounds 1 (Value.ref h₁.objs.size))
  have he₃ := Heap.get?_update_self (Obj.mapFields (·.setIfInBounds 1 (Value.ref h₁.objs.size))) he₂ (Obj.isFreed_of_fields hd₃)
  have hT₃ := (Heap.get?_update_other (h₁.push O) (Obj.mapFields (·.setIfInBounds 1 (Value.ref h₁.objs.size))) (Ne.symm hTe)).trans (Heap.get?_push_size h₁ hOf)
  have keep : ∀ b o, b ≠ e → h₁.get? b = some o → ((h₁.push O).update e (Obj.mapFields (·.setIfInBounds 1 (Value.ref h₁.objs.size)))).get? b = some o := fun b o hbe hb => by
    rw [Heap.get?_update_other _ _ (Ne.symm hbe)]
    exact Heap.get?_push_of_some _ hb
  obtain ⟨frs', SU, hfr'⟩ := sameUp_get (h' := h₁) (fun q hq => (N q (hN q hq)).1) z3
  have keep0 : ∀ b o, b ∉ L :: frs.map (·.1) → b ≠ e → s.heap.get? b = some o → ((h₁.push O).update e (Obj.mapFields (·.setIfInBounds 1 (Value.ref h₁.objs.size)))).get? b = some o := fun b o hb hbe ho => keep b o hbe ((z2 b hb).trans ho)
  have hLe : L ≠ e := fun q => Nex.2.1 q.symm
  obtain ⟨slL, hsl⟩ := z3 L oL hL
  have hbase : ∀ b o, base.get? b = some o → b ∉ L :: frs.map (·.1) := fun b o eb hm => by
    rcases List.mem_cons.mp hm with rfl | hm
    · rw [hbL] at eb; cases eb
    · obtain ⟨q, hq, rfl⟩ := List.mem_map.mp hm
      rw [(N q (hN q hq)).2.2] at eb; cases eb
  refine k _ frs' h₁.objs.size O SU (Fs.up SU) ⟨⟨_, esL, epL, keep _ _ hLe hsl, hLd, hLk, hLf⟩, fun b o eb => keep0 b o (hbase b o eb) (fun q => by rw [q, Nex.2.2] at eb; cases eb) (F.keep b o eb), F.above⟩ ?_ ?_ ?_
  · intro q hq
    rcases List.mem_cons.mp hq with rfl | hq
    · refine ⟨hT₃, fun q => ?_, Heap.get?_none_of_le (by rw [z1]; exact Nat.le_of_lt (Nat.lt_of_le_of_lt F.above (Heap.lt_size hL)))⟩
      have := Heap.lt_size hL
      rw [← z1] at this
      exact absurd q (Nat.ne_of_gt this)
    · rcases List.mem_cons.mp hq with rfl | hq
      · exact ⟨he₃, Nex.2⟩
      · rcases List.mem_append.mp hq with hq | hq
        · have Nq := N q (List.mem_cons_of_mem _ (List.mem_append_left _ hq))
          exact ⟨keep0 _ _ (fun hm => by
            rcases List.mem_cons.mp hm with z | z
            · exact Nq.2.1 z
            · exact (hap q hq).2 z) (hap q hq).1 Nq.1, Nq.2⟩
        · obtain ⟨q', hq', eq'⟩ := SU.fwd q hq
          have Nq := N q' (hN q' hq')
          refine ⟨keep _ _ (fun z => ?_) (hfr' q hq), by rw [eq']; exact Nq.2.1, by rw [eq']; exact Nq.2.2⟩
          exact hef (by rw [← z, eq']; exact List.mem_map_of_mem hq')
  · intro q hq
    have := Heap.lt_size (N q hq).1
    rw [z1]; exact this
  · subst hO
    exact ⟨_, rfl, by rcases hpl with rfl | ⟨_, _, _, _, _, _, _, rfl⟩ <;> simp⟩

theorem mapFields_vs {vs : Array Value} {i : Nat} {x : Value} (hd : oe.data = .fields vs) : (Obj.mapFields (·.setIfInBounds i x) oe).data = .fields (vs.setIfInBounds i x) := Obj.data_mapFields hd _

theorem ExcAt.of_new {vs : Array Value} (hc : oe.cls = cls) (hdct : oe.dict = dct) (hd : oe.data = .fields vs) (h0 : vs[0]? = some a0) (h2 : vs[2]? = some c2) (hsz : 1 < vs.size) {fl : Value} (ht : ∃ ts, oT.data = .fields ts ∧ ts[3]? = some fl) :
    ExcAt (Obj.mapFields (·.setIfInBounds 1 (.ref T)) oe) oT cls dct a0 c2 T fl := by
  refine ⟨?_, ?_, ⟨_, mapFields_vs hd, ?_, ?_, ?_⟩, ht⟩
  · rw [← hc]; exact Obj.cls_mapFields _ _
  · rw [← hdct]; cases oe with | mk c d dt sl => cases dt <;> rfl
  · rw [Array.getElem?_setIfInBounds_ne (by decide)]; exact h0
  · simp [hsz]
  · rw [Array.getElem?_setIfInBounds_ne (by decide)]; exact h2

/-- the first frame that an exception passes -/
theorem noteE1 {ev : Env} {vs : Array Value} (hA : A.frames = some (ev :: l)) (hk : EvAt ev L) (Fs : Frs l frs)
    (F : Fr base L s.heap m) (N : News base L s.heap ((e, oe) :: (new ++ frs))) (hap : ∀ q ∈ new, q.1 ≠ e ∧ q.1 ∉ frs.map (·.1)) (hef : e ∉ frs.map (·.1))
    (hc : oe.cls = cls) (hdct : oe.dict = dct) (hd : oe.data = .fields vs) (h0 : vs[0]? = some a0) (h1 : vs[1]? = some .none) (h2 : vs[2]? = some c2)
    (k : ∀ h' frs' T oT oe', SameUp frs frs' → Frs l frs' → Fr base L h' m → News base L h' ((T, oT) :: (e, oe') :: (new ++ frs')) → (∀ q ∈ (e, oe) :: (new ++ frs), q.1 < T) → ExcAt oe' oT cls dct a0 c2 T (rawInt L) → Q () { s with heap := h' }) :
    wpAny M A (noteFrame (.ref e) (ev)) Q E s := by
  have hsz : 1 < vs.size := (Array.getElem?_eq_some_iff.mp h1).1
  unfold noteFrame
  simp only [hk.frame]
  refine wpAny_bind (wpAny_field (N _ List.mem_cons_self).1 hd h1 ?_)
  rw [if_neg (by decide)]
  exact entryM hA hk Fs F N hap hef hd hsz fun h' frs' T oT SU Fs' F' N' lt ht => k h' frs' T oT _ SU Fs' F' N' lt (ExcAt.of_new hc hdct hd h0 h2 hsz ht)

/-- a further frame -/
theorem noteE2 {ev : Env} (hA : A.frames = some (ev :: l)) (hk : EvAt ev L) (Fs : Frs l frs)
    (F : Fr base L s.heap m) (N : News base L s.heap ((T, oT) :: (e, oe) :: (new ++ frs))) (hap : ∀ q ∈ new, q.1 ≠ e ∧ q.1 ∉ frs.map (·.1)) (hef : e ∉ frs.map (·.1))
    (hTe : T ≠ e) (hTn : ∀ q ∈ new, q.1 ≠ T) (hTf : T ∉ frs.map (·.1)) (X : ExcAt oe oT cls dct a0 c2 T .none)
    (k : ∀ h' frs' T' oT' oe', SameUp frs frs' → Frs l frs' → Fr base L h' m → News base L h' ((T', oT') :: (e, oe') :: (new ++ frs')) → (∀ q ∈ (e, oe) :: (new ++ frs), q.1 < T') → ExcAt oe' oT' cls dct a0 c2 T' (rawInt L) → Q () { s with heap := h' }) :
    wpAny M A (noteFrame (.ref e) (ev)) Q E s := by
  obtain ⟨hc, hdct, ⟨vs, hd, h0, h1, h2⟩, ⟨ts, hts, h3⟩⟩ := X
  have hsz : 1 < vs.size := (Array.getElem?_eq_some_iff.mp h1).1
  have NT := N (T, oT) List.mem_cons_self
  unfold noteFrame
  simp only [hk.frame]
  refine wpAny_bind (wpAny_field (N _ (List.mem_cons_of_mem _ List.mem_cons_self)).1 hd h1 ?_)
  rw [if_pos (show (Value.ref T != Value.none) = true from by simp)]
  refine wpAny_bind (wpAny_field NT.1 hts h3 ?_)
  rw [if_neg (show ¬ ((Value.none == rawInt L) = true) from by simp [rawInt])]
  refine wpAny_bind (wpAny_setField NT.1 hts (Array.getElem?_eq_some_iff.mp h3).1 ?_)
  have other : ∀ b, b ≠ T → (s.heap.update T (Obj.mapFields (·.setIfInBounds 3 Value.none))).get? b = s.heap.get? b := fun b hb => Heap.get?_update_other _ _ (Ne.symm hb)
  obtain ⟨oL, esL, epL, hL, hLd, hLk, hLf⟩ := F.ns
  have F' : Fr base L (s.heap.update T (Obj.mapFields (·.setIfInBounds 3 Value.none))) m :=
    ⟨⟨oL, esL, epL, (other L (Ne.symm NT.2.1)).trans hL, hLd, hLk, hLf⟩, fun b o hb => (other b fun q => by rw [q, NT.2.2] at hb; cases hb).trans (F.keep b o hb), F.above⟩
  have N' : News base L (s.heap.update T (Obj.mapFields (·.setIfInBounds 3 Value.none))) ((e, oe) :: (new ++ frs)) := fun q hq => by
    have Nq := N q (List.mem_cons_of_mem _ hq)
    refine ⟨(other _ fun z => ?_).trans Nq.1, Nq.2⟩
    rcases List.mem_cons.mp hq with rfl | hq
    · exact hTe z.symm
    · rcases List.mem_append.mp hq with hq | hq
      · exact hTn q hq z
      · exact hTf (by rw [← z]; exact List.mem_map_of_mem hq)
  exact entryM (s := { s with heap := s.heap.update T (Obj.mapFields (·.setIfInBounds 3 Value.none)) }) hA hk Fs F' N' hap hef hd hsz fun h' frs' T' oT' SU Fs' F'' N'' lt ht => k h' frs' T' oT' _ SU Fs' F'' N'' lt (ExcAt.of_new hc hdct hd h0 h2 hsz ht)

theorem flightE {fl : Value} {led : List (Addr × Obj)} (F : Fr base L s.heap m) (N : News base L s.heap ((T, oT) :: (e, oe) :: led)) (hTe : T ≠ e) (hTl : ∀ q ∈ led, q.1 ≠ T) (X : ExcAt oe oT cls dct a0 c2 T fl)
    (k : ∀ h' oT', Fr base L h' m → News base L h' ((T, oT') :: (e, oe) :: led) → ExcAt oe oT' cls dct a0 c2 T .none → Q () { s with heap := h' }) : wpAny M A (setFlight (.ref e) none) Q E s := by
  obtain ⟨hc, hdct, ⟨vs, hd, h0, h1, h2⟩, ⟨ts, hts, h3⟩⟩ := X
  have NT := N (T, oT) List.mem_cons_self
  have hsz : 3 < ts.size := (Array.getElem?_eq_some_iff.mp h3).1
  have other : ∀ b, b ≠ T → (s.heap.update T (Obj.mapFields (·.setIfInBounds 3 Value.none))).get? b = s.heap.get? b := fun b hb => Heap.get?_update_other _ _ (Ne.symm hb)
  obtain ⟨oL, esL, epL, hL, hLd, hLk, hLf⟩ := F.ns
  refine wpAny_setFlight_none (N _ (List.mem_cons_of_mem _ List.mem_cons_self)).1 hd h1 NT.1 hts hsz (k _ (Obj.mapFields (·.setIfInBounds 3 Value.none) oT) ⟨⟨oL, esL, epL, (other L (Ne.symm NT.2.1)).trans hL, hLd, hLk, hLf⟩, fun b o hb => (other b fun q => by rw [q, NT.2.2] at hb; cases hb).trans (F.keep b o hb), F.above⟩ ?_ ⟨hc, hdct, ⟨vs, hd, h0, h1, h2⟩, ⟨_, Obj.data_mapFields hts _, by simp [hsz]⟩⟩)
  intro q hq
  rcases List.mem_cons.mp hq with rfl | hq
  · exact ⟨Heap.get?_update_self _ NT.1 (Obj.isFreed_of_fields (Obj.data_mapFields hts _)), NT.2⟩
  · have Nq := N q (List.mem_cons_of_mem _ hq)
    refine ⟨(other _ fun z => ?_).trans Nq.1, Nq.2⟩
    rcases List.mem_cons.mp hq with rfl | hq
    · exact hTe z.symm
    · exact hTl q hq z

theorem lt_apart {led : List (Addr × Obj)} {b : Addr} (h : ∀ q ∈ led, q.1 < b) : ∀ q ∈ led, q.1 ≠ b := fun q hq => Nat.ne_of_lt (h q hq)
theorem sameUp_map : ∀ {a b : List (Addr × Obj)}, SameUp a b → b.map (·.1) = a.map (·.1)
  | [], [], _ => rfl
  | p :: ps, q :: qs, h => by
    obtain ⟨h1, _, h2⟩ := h
    simp only [List.map_cons, h1, sameUp_map h2]
  | [], _ :: _, h => h.elim
  | _ :: _, [], h => h.elim

/-- an exception leaves the frame in which it was raised -/
theorem leaveE1 {vs : Array Value} (hA : A.frames = some (envOf name scope L a cd :: l)) (hk : scope.kind = .function) (Fs : Frs l frs)
    (F : Fr base L s.heap m) (N : News base L s.heap ((e, oe) :: (new ++ frs))) (hap : ∀ q ∈ new, q.1 ≠ e ∧ q.1 ∉ frs.map (·.1)) (hef : e ∉ frs.map (·.1))
    (hc : oe.cls = cls) (hdct : oe.dict = dct) (hd : oe.data = .fields vs) (h0 : vs[0]? = some a0) (h1 : vs[1]? = some .none) (h2 : vs[2]? = some c2)
    (k : ∀ h' frs' T oT oe', SameUp frs frs' → Frs l frs' → Fr base L h' m → News base L h' ((T, oT) :: (e, oe') :: (new ++ frs')) → (∀ q ∈ (e, oe) :: (new ++ frs), q.1 < T) → ExcAt oe' oT cls dct a0 c2 T .none → Q () { s with heap := h' }) :
    wpAny M A (leaving (envOf name scope L a cd) (.ref e)) Q E s := by
  unfold leaving
  refine wpAny_bind (noteE1 hA (EvAt.of hk) Fs F N hap hef hc hdct hd h0 h1 h2 fun h' frs' T oT oe' SU Fs' F' N' lt X => ?_)
  refine flightE (s := { s with heap := h' }) F' N' (Ne.symm (lt_apart lt _ List.mem_cons_self)) (fun q hq => ?_) X fun h'' oT' F'' N'' X' => k h'' frs' T oT' oe' SU Fs' F'' N'' lt X'
  rcases List.mem_append.mp hq with hq | hq
  · exact lt_apart lt _ (List.mem_cons_of_mem _ (List.mem_append_left _ hq))
  · obtain ⟨q', hq', eq'⟩ := SU.fwd q hq
    rw [eq']
    exact lt_apart lt _ (List.mem_cons_of_mem _ (List.mem_append_right _ hq'))

/-- an exception that a callee has raised leaves the frame -/
theorem leaveE2 (hA : A.frames = some (envOf name scope L a cd :: l)) (hk : scope.kind = .function) (Fs : Frs l frs)
    (F : Fr base L s.heap m) (N : News base L s.heap ((T, oT) :: (e, oe) :: (new ++ frs))) (hap : ∀ q ∈ new, q.1 ≠ e ∧ q.1 ∉ frs.map (·.1)) (hef : e ∉ frs.map (·.1))
    (hTe : T ≠ e) (hTn : ∀ q ∈ new, q.1 ≠ T) (hTf : T ∉ frs.map (·.1)) (X : ExcAt oe oT cls dct a0 c2 T .none)
    (k : ∀ h' frs' T oT oe', SameUp frs frs' → Frs l frs' → Fr base L h' m → News base L h' ((T, oT) :: (e, oe') :: (new ++ frs')) → (∀ q ∈ (e, oe) :: (new ++ frs), q.1 < T) → ExcAt oe' oT cls dct a0 c2 T .none → Q () { s with heap := h' }) :
    wpAny M A (leaving (envOf name scope L a cd) (.ref e)) Q E s := by
  unfold leaving
  refine wpAny_bind (noteE2 hA (EvAt.of hk) Fs F N hap hef hTe hTn hTf X fun h' frs' T oT oe' SU Fs' F' N' lt X => ?_)
  refine flightE (s := { s with heap := h' }) F' N' (Ne.symm (lt_apart lt _ List.mem_cons_self)) (fun q hq => ?_) X fun h'' oT' F'' N'' X' => k h'' frs' T oT' oe' SU Fs' F'' N'' lt X'
  rcases List.mem_append.mp hq with hq | hq
  · exact lt_apart lt _ (List.mem_cons_of_mem _ (List.mem_append_left _ hq))
  · obtain ⟨q', hq', eq'⟩ := SU.fwd q hq
    rw [eq']
    exact lt_apart lt _ (List.mem_cons_of_mem _ (List.mem_append_right _ hq'))
end exc

section caught
variable {prog : Program} {w : World} {A₀ : Around} {E : Value → Shared → Prop} {s' : Shared} {base h : Heap} {L a e : Addr} {m mg mb : Str → Option Value} {name : Str} {scope : Scope} {cd : Value} {new frs : List (Addr × Obj)} {l : List Env}
  {b₀ : Stmt} {suite : List Stmt} {pos np : Pos} {rest : List ExceptHandler} {Q : Flow → Shared → Prop} {K : Frag} {p : Program} {loose : List Str} {mean : ExcName → Option Value} {x : Str} {X T' : String}

/-- an exception of the interpreter's own, raised in this frame and taken by this frame's own clause -/
theorem caughtN (hx : Heap.NewExc h s'.heap e X) (hA : A₀.frames = some l) (Fs : Frs l frs) (F : Fr base L h m) (N : News base L h (new ++ frs)) (hap : ∀ q ∈ new, q.1 ∉ frs.map (·.1)) (KX : K.In base) (T : Top p loose mean mg mb base)
    (ex : nsIn K mainGlobals x = some none) (hv : bootBuiltins x = some (.type T')) (hn' : x ≠ "__name__")
    (hexc : isSubtype (.type T') (.type "BaseException") = pure true) (hnt : isSubtype (.type ((Manifest.find? T').elim "type" fun y => y.metatype)) (.type "tuple") = pure false) (hsub : isSubtype (.type X) (.type T') = pure true)
    (k : ∀ h' frs' Tb oT oe a0, SameUp frs frs' → Frs l frs' → Fr base L h' m → News base L h' ((Tb, oT) :: (e, oe) :: (new ++ frs')) → (∀ q ∈ new ++ frs, q.1 ≠ e) → (∀ q ∈ (e, oe) :: (new ++ frs), q.1 ≠ Tb) → ExcAt oe oT (.type X) oe.dict a0 .none Tb .none →
      wpAny (model prog w) ((A₀.deeper (envOf name scope L a cd)).mark (some (.ref e))) (execs (b₀ :: suite) (envOf name scope L a cd)) Q E { s' with heap := h' })
    (hk : scope.kind = .function := by rfl) (hx' : (envOf name scope L a cd).kindOf x = some .globalImplicit := by rfl) (hdb : (x == ("__debug__" : Str)) = false := by decide)
    (hE : PassesOwnAt (model prog w) ((A₀.deeper (envOf name scope L a cd)).mark (some (.ref e))) (A₀.deeper (envOf name scope L a cd)) (envOf name scope L a cd) E := by passes_own) :
    wpAny (model prog w) (A₀.deeper (envOf name scope L a cd)) (noteFrame (.ref e) (envOf name scope L a cd))
      (fun _ s₂ => wpAny (model prog w) (A₀.deeper (envOf name scope L a cd)) (setFlight (.ref e) none) (fun _ s₃ =>
        wpAny (model prog w) (A₀.deeper (envOf name scope L a cd)) (handleBy (.ref e) (envOf name scope L a cd) (.ExceptHandler (some (.Name x np)) none (b₀ :: suite) pos :: rest)) Q E s₃) E s₂) E s' := by
  obtain ⟨ob, tp, he, hcls, hd⟩ := hx.there
  have hne : ∀ q ∈ new ++ frs, q.1 ≠ e := fun q hq z => by have := (N q hq).1; rw [z, hx.new] at this; cases this
  have hLe : e ≠ L := fun z => by
    obtain ⟨oL, _, _, hL, _⟩ := F.ns
    rw [← z, hx.new] at hL; cases hL
  have hbe : base.get? e = none := none_of F.keep hx.new
  have N' : News base L s'.heap ((e, ob) :: (new ++ frs)) := fun q hq => by
    rcases List.mem_cons.mp hq with rfl | hq
    · exact ⟨he, hLe, hbe⟩
    · exact ⟨hx.keeps _ _ (N q hq).1, (N q hq).2⟩
  have F' : Fr base L s'.heap m := F.keeps hx.keeps
  have hef : e ∉ frs.map (·.1) := fun hm => by
    obtain ⟨q, hq, z⟩ := List.mem_map.mp hm
    exact hne q (List.mem_append_right _ hq) z
  refine noteE1 (Around.frames_deeper hA) (EvAt.of hk) Fs F' N' (fun q hq => ⟨hne q (List.mem_append_left _ hq), hap q hq⟩) hef hcls rfl hd rfl rfl rfl fun h₄ frs₄ Tb oT oe SU Fs₄ F₄ N₄ lt X₄ => ?_
  have ltT : ∀ q ∈ (new ++ frs₄), q.1 ≠ Tb := fun q hq => by
    rcases List.mem_append.mp hq with hq | hq
    · exact lt_apart lt _ (List.mem_cons_of_mem _ (List.mem_append_left _ hq))
    · obtain ⟨q', hq', eq'⟩ := SU.fwd q hq
      rw [eq']
      exact lt_apart lt _ (List.mem_cons_of_mem _ (List.mem_append_right _ hq'))
  have hTe : Tb ≠ e := Ne.symm (lt_apart lt _ List.mem_cons_self)
  refine flightE (s := { s' with heap := h₄ }) F₄ N₄ hTe ltT X₄ fun h₅ oT₅ F₅ N₅ X₅ => ?_
  refine wpAny_handleBy_builtin (X := X) (T := T') (b := true) hexc hnt hsub (wpAny_passesOwnAt hE (name_B F₅ KX (topRead_of T) ex hv hn' ⟨rfl, ⟨oe, (N₅ _ (List.mem_cons_of_mem _ List.mem_cons_self)).1, X₅.cls⟩, ?_⟩ hk hx' hdb))
  rw [if_pos rfl]
  refine flightE (s := { s' with heap := h₅ }) F₅ N₅ hTe ltT X₅ fun h₆ oT₆ F₆ N₆ X₆ => ?_
  exact wpAny_passesOwnAt hE (k h₆ frs₄ Tb oT₆ oe tp SU Fs₄ F₆ N₆ hne (fun q hq => by
    rcases List.mem_cons.mp hq with rfl | hq
    · exact Ne.symm hTe
    · exact lt_apart lt _ (List.mem_cons_of_mem _ hq)) ⟨X₆.cls, rfl, X₆.data, X₆.tb⟩)
end caught
end Mine
end

section
open PySem PySem.W PySem.Calls PySem.Spec PyProof.Rows
set_option maxRecDepth 100000
set_option maxHeartbeats 4000000
namespace Mine
open TI
/-- an exception object of an own class -/
abbrev peO (C dx : Addr) (a0 tb c2 c3 b4 c5 : Value) : Obj := { cls := .ref C, dict := some dx, data := .fields #[a0, tb, c2, c3, b4, c5] }

section
variable {prog : Program} {w : World} {A : Around} {E : Value → Shared → Prop} {s : Shared} {env : Env}
variable {nm q : Str} {C N : Addr} {bs bm : List Value} {hdct : Bool} {sn : List Str} {sub : List Value} {ab : Bool} {col : Option Bool} {dd : Option Addr} {k0 k1 k2 k3 k5 : Option Value} {newId : String}

theorem raise_plain {x : Sem Value} {Q : Flow → Shared → Prop} (hh : A.handled = none)
    (h : wpAny (model prog w) A x (fun v s₁ => ∃ e dx a0 c2 c3 b4 c5 nm q N bs bm hdct sn sub ab col dd k0 k1 k2 k3 k5 newId, v = .ref e ∧ s₁.heap.get? C = some (excClassObj nm q C N bs bm hdct sn sub ab col dd k0 k1 k2 k3 k5 newId) ∧ bm.contains (.type "BaseException") = true ∧
      s₁.heap.get? e = some (peO C dx a0 .none c2 c3 b4 c5) ∧ E (.ref e) s₁) E s) :
    wpAny (model prog w) A (raiseStmt env (some x) none) Q E s := by
  unfold raiseStmt
  refine wpAny_bind (wpAny_mono h (fun v s₁ h₁ => ?_) fun _ _ x => x)
  obtain ⟨e, dx, a0, c2, c3, b4, c5, nm, q, N, bs, bm, hdct, sn, sub, ab, col, dd, k0, k1, k2, k3, k5, newId, rfl, hC, hbase, he, hE⟩ := h₁
  have hcB : (Value.ref C :: bm).contains (.type "BaseException") = true := by rw [List.contains_cons, hbase, Bool.or_true]
  obtain ⟨hp, g, d, tk, os⟩ := s₁
  repeat (first | with_reducible refine wpAny_loadPart_at he ?_ | with_reducible refine wpAny_loadPart_at hC ?_ | (with_reducible refine wpAny_isSubtype_exc hC ?_; rw [hcB]) | wp_step)
  exact wpAny_raiseNew_none hh hE

theorem entry_unchain : entryFor table "proto.unchain" = some Builtin.«proto.unchain» := entryFor_of_tree (by kernel_rfl)

theorem unchain_end {ev : Value} {hh : Addr} {oh : Obj} {vsh : Array Value} {R : Result → Shared → Prop} (hg : s.heap.get? hh = some oh) (hd : oh.data = .fields vsh) (h2 : vsh[2]? = some .none) (hq : R (.ok (.ret .none)) s) :
    codeAny (model prog w) A (.builtin "proto.unchain" ⟨[ev, .ref hh, .ref hh, .bool false], []⟩) R s := by
  refine codeAny_builtin entry_unchain ?_
  unfold Builtin.«proto.unchain»
  refine wpAny_bind (wpAny_field hg hd h2 ?_)
  rw [if_pos (by decide)]
  wp_walk
  exact hq

theorem raise_from_none {hx : Addr} {oh : Obj} {vsh : Array Value} {x c : Sem Value} {Q : Flow → Shared → Prop} (hh : A.handled = some (.ref hx))
    (hcn : ∀ s Q', Q' Value.none s → wpAny (model prog w) A c Q' E s)
    (h : wpAny (model prog w) A x (fun v s₁ => ∃ e dx a0 c2 c3 b4 c5 nm q N bs bm hdct sn sub ab col dd k0 k1 k2 k3 k5 newId oh vsh, v = .ref e ∧ s₁.heap.get? C = some (excClassObj nm q C N bs bm hdct sn sub ab col dd k0 k1 k2 k3 k5 newId) ∧ bm.contains (.type "BaseException") = true ∧
      s₁.heap.get? e = some (peO C dx a0 .none c2 c3 b4 c5) ∧ s₁.heap.get? hx = some oh ∧ oh.data = .fields vsh ∧ vsh[2]? = some .none ∧ hx ≠ e ∧ e ≠ C ∧
      ∀ h', Heap.SameBut e s₁.heap h' → h'.get? e = some (peO C dx a0 .none (.ref hx) .none (.bool true) c5) → E (.ref e) { s₁ with heap := h' }) E s) :
    wpAny (model prog w) A (raiseStmt env (some x) (some c)) Q E s := by
  unfold raiseStmt
  refine wpAny_bind (wpAny_mono h (fun v s₁ h₁ => ?_) fun _ _ x => x)
  obtain ⟨e, dx, a0, c2, c3, b4, c5, nm, q, N, bs, bm, hdct, sn, sub, ab, col, dd, k0, k1, k2, k3, k5, newId, oh, vsh, rfl, hC, hbase, he, hg, hd, h2, hne, heC, hE⟩ := h₁
  have hcB : (Value.ref C :: bm).contains (.type "BaseException") = true := by rw [List.contains_cons, hbase, Bool.or_true]
  refine wpAny_bind (wpAny_holding (hcn _ _ (wpAny_bind (wpAny_pure ?_))))
  obtain ⟨hp, g, d, tk, os⟩ := s₁
  repeat (first | with_reducible refine wpAny_loadPart_at he ?_ | with_reducible refine wpAny_loadPart_at hC ?_ | (with_reducible refine wpAny_isSubtype_exc hC ?_; rw [hcB]) | wp_step)
  have g1 := Heap.get?_update_self (Obj.mapFields fun x => x.setIfInBounds 3 Value.none) he rfl
  have g2 := Heap.get?_update_self (Obj.mapFields fun x => x.setIfInBounds 4 (Value.bool true)) g1 rfl
  have gx : ((hp.update e (Obj.mapFields fun x => x.setIfInBounds 3 Value.none)).update e (Obj.mapFields fun x => x.setIfInBounds 4 (Value.bool true))).get? hx = some oh := by
    rw [Heap.get?_update_other _ _ (Ne.symm hne), Heap.get?_update_other _ _ (Ne.symm hne)]; exact hg
  unfold raiseNew
  refine wpAny_bind (wpAny_handled ?_)
  rw [hh]
  show wpAny _ _ (if (Value.ref hx != Value.ref e) = true then _ else _) _ _ _
  rw [if_pos (by simpa using hne)]
  refine wpAny_bind (wpAny_holding (wpAny_runValue (unchain_end gx hd h2 ?_)))
  refine wpAny_bind (wpAny_mono (wpAny_setField (Q := fun _ s' => E (.ref e) s') g2 rfl (by simp) ?_) (fun _ s' y => wpAny_throw y) fun _ _ y => y)
  refine hE _ ⟨?_, fun b hb => ?_⟩ (Heap.get?_update_self (Obj.mapFields fun x => x.setIfInBounds 2 (Value.ref hx)) g2 rfl)
  · simp only [Heap.size_after_update]
  · rw [Heap.get?_update_other _ _ (Ne.symm hb), Heap.get?_update_other _ _ (Ne.symm hb), Heap.get?_update_other _ _ (Ne.symm hb)]
end

theorem name_V {M : Model} {A : Around} {E : Value → Shared → Prop} {s : Shared} {K : Frag} {h₀ : Heap} {L : Addr} {ev : Env} {m mg mb : Str → Option Value} {p : Program} {loose : List Str}
    {x : Str} {pos : Pos} {v : Value} {Q : Value → Shared → Prop} (hev : EvAt ev L) (F : Fr h₀ L s.heap m) (X : K.In h₀) (T : TopRead p loose mg mb h₀) (e : nsIn K mainGlobals x = some (some v)) (h : Q v s)
    (hx : ev.kindOf x = some .globalImplicit := by rfl) (hd : (x == ("__debug__" : Str)) = false := by decide) : wpAny M A (eval (.Name x pos) ev) Q E s :=
  Calls.Name_function_global hev.kind hx (Calls.loadGlobal_global (by rw [hev.globals]; exact T.g.keeps F.keep) (mg_of X T.g e) h) hd
theorem name_BV {M : Model} {A : Around} {E : Value → Shared → Prop} {s : Shared} {K : Frag} {h₀ : Heap} {L : Addr} {ev : Env} {m mg mb : Str → Option Value} {p : Program} {loose : List Str}
    {x : Str} {pos : Pos} {v : Value} {Q : Value → Shared → Prop} (hev : EvAt ev L) (F : Fr h₀ L s.heap m) (X : K.In h₀) (T : TopRead p loose mg mb h₀) (e : nsIn K mainGlobals x = some none) (hv : bootBuiltins x = some v) (hn : x ≠ "__name__") (h : Q v s)
    (hx : ev.kindOf x = some .globalImplicit := by rfl) (hd : (x == ("__debug__" : Str)) = false := by decide) : wpAny M A (eval (.Name x pos) ev) Q E s :=
  Calls.Name_function_global hev.kind hx (Calls.loadGlobal_builtin (by rw [hev.globals]; exact T.g.keeps F.keep) (mg_none_of X T.g e) (by rw [hev.builtins]; exact T.b.keeps F.keep) ((T.builtins x hn).trans hv) h) hd
theorem name_goes_V {M : Model} {A : Around} {E : Value → Shared → Prop} {s : Shared} {h₀ : Heap} {ev : Env} {m : Str → Option Value} {news : List (Addr × Obj)} {n : Str} {pos : Pos} {Q : Unit → Shared → Prop} (hk : ev.scope.kind = .function) (F : Fr h₀ ev.locals s.heap m) (N : News h₀ ev.locals s.heap news)
    (h : ∀ h' v, Fr h₀ ev.locals h' (fun x => if x = n then v else m x) → News h₀ ev.locals h' news → Q () { s with heap := h', toks := s.toks + 1 })
    (hl : ev.kindOf n = some .local := by rfl) : wpAny M A (do bindName ev n .none; unbindBehindTheSuite ev n pos) Q E s :=
  wpAny_nameGoes_keeps hl F.ns (by rw [hk]; rfl) fun h' v hn hs => h h' v (F.set hn hs) (N.set hs)
section caughtP
variable {prog : Program} {w : World} {A₀ : Around} {E : Value → Shared → Prop} {s' : Shared} {base : Heap} {L a e T C : Addr} {m mg mb : Str → Option Value} {name : Str} {scope : Scope} {cd : Value} {new frs : List (Addr × Obj)} {l : List Env}
  {b₀ : Stmt} {suite : List Stmt} {pos np : Pos} {rest : List ExceptHandler} {Q : Flow → Shared → Prop} {K : Frag} {p : Program} {loose : List Str} {mean : ExcName → Option Value} {x n : Str} {oe oT : Obj} {dct : Option Addr} {a0 c2 : Value}

/-- an exception of an own class, raised by a callee, taken by this frame's clause «except C as n» -/
theorem caughtP_as {ev : Env} (hev : EvAt ev L) (hlc : ev.locals = L) (hA : A₀.frames = some l) (Fs : Frs l frs) (F : Fr base L s'.heap m) (N : News base L s'.heap ((T, oT) :: (e, oe) :: (new ++ frs))) (hap : ∀ q ∈ new, q.1 ≠ e ∧ q.1 ∉ frs.map (·.1)) (hef : e ∉ frs.map (·.1))
    (hTe : T ≠ e) (hTn : ∀ q ∈ new, q.1 ≠ T) (hTf : T ∉ frs.map (·.1)) (X : ExcAt oe oT (.ref C) dct a0 c2 T .none) (KX : K.In base) (TT : Top p loose mean mg mb base)
    (ex : nsIn K mainGlobals x = some (some (.ref C))) (q : ktsIn K C "BaseException" = true)
    (k : ∀ h' frs' T oT oe tk, SameUp frs frs' → Frs l frs' → Fr base L h' (fun y => if y = n then some (.ref e) else m y) → News base L h' ((T, oT) :: (e, oe) :: (new ++ frs')) → (∀ q ∈ (e, oe) :: (new ++ frs'), q.1 ≠ T) → ExcAt oe oT (.ref C) dct a0 c2 T .none →
      wpAny (model prog w) ((A₀.deeper (ev)).mark (some (.ref e))) (execs (b₀ :: suite) (ev))
        (fun f s₄ => wpAny (model prog w) (A₀.deeper (ev)) (do bindName (ev) n .none; unbindBehindTheSuite (ev) n pos) (fun _ s₅ => Q f s₅) E s₄)
        (AsSuiteRaised (model prog w) ((A₀.deeper (ev)).mark (some (.ref e))) (ev) n pos (notedBy (model prog w) ((A₀.deeper (ev)).mark (some (.ref e))) (ev) (cameBackBy (model prog w) (A₀.deeper (ev)) (ev) E)))
        { s' with heap := h', toks := tk })
    (hlo : ev.kindOf n = some .local := by rfl) (hx' : ev.kindOf x = some .globalImplicit := by rfl) (hdb : (x == ("__debug__" : Str)) = false := by decide) :
    wpAny (model prog w) (A₀.deeper (ev)) (noteFrame (.ref e) (ev))
      (fun _ s₂ => wpAny (model prog w) (A₀.deeper (ev)) (setFlight (.ref e) none) (fun _ s₃ =>
        wpAny (model prog w) (A₀.deeper (ev)) (handleBy (.ref e) (ev) (.ExceptHandler (some (.Name x np)) (some n) (b₀ :: suite) pos :: rest)) Q E s₃) E s₂) E s' := by
  refine noteE2 (Around.frames_deeper hA) hev Fs F N hap hef hTe hTn hTf X fun h₄ frs₄ T₄ oT₄ oe₄ SU Fs₄ F₄ N₄ lt X₄ => ?_
  have ltT : ∀ q ∈ (new ++ frs₄), q.1 ≠ T₄ := fun q hq => by
    rcases List.mem_append.mp hq with hq | hq
    · exact lt_apart lt _ (List.mem_cons_of_mem _ (List.mem_append_left _ hq))
    · obtain ⟨q', hq', eq'⟩ := SU.fwd q hq
      rw [eq']
      exact lt_apart lt _ (List.mem_cons_of_mem _ (List.mem_append_right _ hq'))
  have hTe' : T₄ ≠ e := Ne.symm (lt_apart lt _ List.mem_cons_self)
  refine flightE (s := { s' with heap := h₄ }) F₄ N₄ hTe' ltT X₄ fun h₅ oT₅ F₅ N₅ X₅ => ?_
  obtain ⟨nm, q', NC, bs, bm, hdct, sn, sub, ab, col, dd, k0, k1, k2, k3, k5, newId, hC, hbase, hbT⟩ := kts_cls KX q
  have hC₅ := F₅.keep _ _ hC
  refine wpAny_handleBy_cons (codeAny_handlers_test (name_V hev F₅ KX (topRead_of TT) ex ?_ hx' hdb)) (by intro q; cases q)
  refine wpAny_excMatches_sub_self hC₅ (N₅ _ (List.mem_cons_of_mem _ List.mem_cons_self)).1 X₅.cls hbase (codeAny_handlers_suite_as ?_)
  refine flightE (s := { s' with heap := h₅ }) F₅ N₅ hTe' ltT X₅ fun h₆ oT₆ F₆ N₆ X₆ => ?_
  subst hlc
  refine wpAny_storeName_local hlo F₆.ns (fun h₇ hn₇ hs₇ => ?_) (by rw [hev.kind]; rfl)
  have F₇ := F₆.set hn₇ hs₇
  have N₇ := N₆.set hs₇
  exact k h₇ frs₄ T₄ oT₆ oe₄ _ SU Fs₄ F₇ N₇ (fun q hq => by
    rcases List.mem_cons.mp hq with rfl | hq
    · exact Ne.symm hTe'
    · exact ltT q hq) X₆
end caughtP
end Mine
end

section
open PySem PySem.W PySem.Calls PySem.Spec PyProof.Rows
set_option maxRecDepth 100000
set_option maxHeartbeats 4000000
namespace Mine
open TI
section
variable {prog : Program} {w : World} {A : Around} {E : Value → Shared → Prop} {s : Shared} {K : Frag} {x C d L : Addr} {base : Heap} {m : Str → Option Value} {pre post news : List (Addr × Obj)} {ox : Obj} {od : Option Obj} {es es' : List DictEntry} {n n' : Nat} {nm : Str} {tk : Tok} {v : Value} {R : Result → Shared → Prop} {cd : ClassData}

theorem storeD {Q : Fin → Shared → Prop} (F : Fr base L s.heap m) (N : News base L s.heap (pre ++ (d, dictOf es n) :: post)) (h1 : ∀ p ∈ pre, p.1 ≠ d) (h2 : ∀ p ∈ post, p.1 ≠ d) (hl : (getL nm es).isSome = true)
    (e : (putL nm (PyData.keyHash w.params nm) (.str nm s.toks) v es, putN nm es n) = (es', n')) (hz : es'.length ≤ 1000)
    (h : ∀ h', Fr base L h' m → News base L h' (pre ++ (d, dictOf es' n') :: post) → Q (.done (.ret .none)) { s with heap := h', toks := s.toks + 1 }) :
    wpAny (model prog w) A (Builtin.ObjectAttr.storeInDict d (.str nm tk) nm v) Q E s := by
  obtain ⟨e1, e2⟩ := Prod.mk.inj e
  have ep : Obj.putName nm (PyData.keyHash w.params nm) (.str nm s.toks) v (dictOf es n) = dictOf es' n' := by rw [putName_dict, e1, e2]
  obtain ⟨U1, U2⟩ := news_upd (f := Obj.putName nm (PyData.keyHash w.params nm) (.str nm s.toks) v) F N h1 h2 ep rfl
  have D := (N (d, dictOf es n) (by simp)).1
  have D' := (U2 (d, dictOf es' n') (by simp)).1
  unfold Builtin.ObjectAttr.storeInDict
  refine wpAny_bind (wpAny_pure (wpAny_bind ?_))
  unfold nsSet
  refine wpAny_bind (wpAny_bind (wpAny_askSetting (wpAny_pure (wpAny_bind (wpAny_mkText (wpAny_bind (wpAny_loadPart D ?_)))))))
  have c : (!es.toArray.any (·.key.isStr nm) && es.toArray.any (·.refKey)) = false := by
    unfold getL at hl
    simp only [List.any_toArray]
    split at hl
    · rename_i en he
      rw [List.any_eq_true.mpr ⟨en, List.mem_of_find?_eq_some he, List.find?_some he⟩]; rfl
    · split at hl
      · cases hl
      · rename_i z; rw [Bool.not_eq_true] at z; rw [z, Bool.and_false]
  show wpAny _ _ (if aRefKeyMayBeTheName nm es.toArray = true then _ else _) _ _ _
  rw [aRefKeyMayBeTheName_at, c]
  refine wpAny_updatePart D ?_
  refine wpAny_bind (wpAny_lookBehind D' (pastItsLine_dict (by rw [List.size_toArray, sizeLine_eq]; omega)) ?_)
  exact wpAny_pure (h _ U1 U2)

/-- «o.name = v» where nothing between the class and object takes it -/
theorem osaG (X : K.In s.heap) (I : W.InstAt s.heap x ox C od) (hc : clsIn K C = some cd) (hob : cd.mro.contains (.type "object") = true) (hrf : ∀ self, refuseLoop self "__setattr__" cd.mro = pure ()) (ht : takerIn K C nm = some none)
    (h : ∀ b, wpAny (model prog w) A.in1 (Builtin.ObjectAttr.storeInOwnDict (.ref x) (.ref C) (.str nm tk) nm v b)
      (fun fin s' => match fin with | .done f => R (.ok f) s' | .again c' => c'.quiet = true ∧ codeAny (model prog w) A c' R s') (fun e s' => R (.error e) s') s) :
    codeAny (model prog w) A (.call (.builtin "object.__setattr__") ⟨[.ref x, .str nm tk, v], []⟩) R s := by
  have SF := PySem.F.store_object
  have sub : Looks (model prog w) s.heap (isInstance (.ref x) (.type "object")) true := I.type.andThen (looks_mroIn X (by
    unfold mroIn
    rw [hc, Option.bind_some, if_neg (by intro q; rw [List.isEmpty_iff] at q; rw [q] at hob; cases hob), hob]))
  refine codeAny_call_builtin SF.slot.plain SF.entry (@check_slot (model prog w) _ _ s "object.__setattr__" "object" "__setattr__" (.ref x) [.str nm tk, v] [] _ SF.kind SF.split sub (SF.args (.ref x) (.str nm tk) v) ?_)
  obtain ⟨attr, ha, hr⟩ := Option.bind_eq_some_iff.mp ht
  have hm : Looks (model prog w) s.heap (mroOf (.ref C)) cd.mro := (looks_clsIn X hc).andThen .now
  have L3 : Looks (model prog w) s.heap (Builtin.ObjectAttr.storeTaker? attr) none := by
    cases attr with
    | none => exact .now
    | some a =>
      obtain ⟨b, hb, q⟩ := Option.map_eq_some_iff.mp hr
      refine (looks_takesIn X hb).andThen ?_
      cases b with
      | true => cases q
      | false => exact .now
  rw [osa_eq, refuse_eq]
  refine wpAny_bind (wpAny_bind (I.type.here (wpAny_bind (hm.here ?_))))
  rw [hrf]
  refine wpAny_pure (wpAny_bind (I.type.here (wpAny_bind ((looks_findIn X ha).here (wpAny_bind (L3.here ?_))))))
  exact h _

theorem setE {Q : Unit → Shared → Prop} (F : Fr base L s.heap m) (X : K.In base) (N : News base L s.heap (pre ++ (d, dictOf es n) :: post)) (I : W.InstAt s.heap x ox C (some (dictOf es n))) (hd : ox.dict = some d)
    (hs : findIn K (.ref C) "__setattr__" = some (some (.builtin "object.__setattr__"))) (hc : clsIn K C = some cd) (hob : cd.mro.contains (.type "object") = true) (hhd : cd.hasDict = true) (hrf : ∀ self, refuseLoop self "__setattr__" cd.mro = pure ()) (ht : takerIn K C nm = some none)
    (h1 : ∀ p ∈ pre, p.1 ≠ d) (h2 : ∀ p ∈ post, p.1 ≠ d) (hl : (getL nm es).isSome = true)
    (e : (putL nm (PyData.keyHash w.params nm) (.str nm (s.toks + 1)) v es, putN nm es n) = (es', n')) (hz : es'.length ≤ 1000)
    (h : ∀ h', Fr base L h' m → News base L h' (pre ++ (d, dictOf es' n') :: post) → Q () { s with heap := h', toks := s.toks + 2 }) :
    wpAny (model prog w) A (setAttr (.ref x) nm v) Q E s := by
  refine set_plain (X.keeps F.keep) I hs (osaG (s := { s with toks := s.toks + 1 }) (X.keeps F.keep) I hc hob hrf ht fun b => ?_)
  obtain ⟨hx, hcl, hn, -⟩ := I
  obtain ⟨oc, odi, oda, osl⟩ := ox
  dsimp only at hcl hd
  subst hcl hd
  unfold Builtin.ObjectAttr.storeInOwnDict Builtin.ObjectAttr.ownDictForStores instanceDict
  refine wpAny_bind (wpAny_pure (wpAny_bind (wpAny_bind (wpAny_loadPart hx (wpAny_bind (looks_clsIn (X.keeps F.keep) hc _ _ _ _ (fun _ _ y => y) ?_))))))
  rw [hhd]
  refine wpAny_pure (a := some d) ?_
  exact storeD (s := { s with toks := s.toks + 1 }) F N h1 h2 hl e hz fun h' F' N' => h h' F' N'

theorem setE_new {Q : Unit → Shared → Prop} {flds : Array Value} (F : Fr base L s.heap m) (X : K.In base) (N : News base L s.heap ((x, ({ cls := .ref C, data := .fields flds } : Obj)) :: news)) (hap : ∀ p ∈ news, p.1 ≠ x)
    (hs : findIn K (.ref C) "__setattr__" = some (some (.builtin "object.__setattr__"))) (hc : clsIn K C = some cd) (hob : cd.mro.contains (.type "object") = true) (hhd : cd.hasDict = true) (hrf : ∀ self, refuseLoop self "__setattr__" cd.mro = pure ()) (ht : takerIn K C nm = some none)
    (h : ∀ h' d, Fr base L h' m → News base L h' ((d, dictOf [⟨PyData.keyHash w.params nm, .str nm (s.toks + 1), v⟩] 1) :: (x, ({ cls := .ref C, dict := some d, data := .fields flds } : Obj)) :: news) → (∀ q ∈ (x, ({ cls := .ref C, data := .fields flds } : Obj)) :: news, q.1 < d) → Q () { s with heap := h', toks := s.toks + 2 }) :
    wpAny (model prog w) A (setAttr (.ref x) nm v) Q E s := by
  have hx := (N _ List.mem_cons_self).1
  have I : W.InstAt s.heap x ({ cls := .ref C, data := .fields flds } : Obj) C none := ⟨hx, rfl, rfl, trivial⟩
  refine set_plain (X.keeps F.keep) I hs (osaG (s := { s with toks := s.toks + 1 }) (X.keeps F.keep) I hc hob hrf ht fun b => ?_)
  unfold Builtin.ObjectAttr.storeInOwnDict Builtin.ObjectAttr.ownDictForStores instanceDict
  refine wpAny_bind (wpAny_pure (wpAny_bind (wpAny_bind (wpAny_loadPart hx (wpAny_bind (looks_clsIn (X.keeps F.keep) hc _ _ _ _ (fun _ _ y => y) ?_))))))
  rw [hhd]
  refine wpAny_bind (wpAny_alloc ?_)
  have F₁ := F.push (dictOf [] 0)
  have N₁ := N.push F (dictOf [] 0) rfl
  have lt : ∀ q ∈ (x, ({ cls := .ref C, data := .fields flds } : Obj)) :: news, q.1 < s.heap.objs.size := fun q hq => Heap.lt_size (N q hq).1
  obtain ⟨F₂, N₂⟩ := news_upd (f := fun o => { o with dict := some s.heap.objs.size }) (pre := [(s.heap.objs.size, dictOf [] 0)]) (post := news) F₁ N₁ (fun p hp => by
    rcases List.mem_singleton.mp hp with rfl
    exact Ne.symm (Nat.ne_of_lt (lt _ List.mem_cons_self))) hap (o' := ({ cls := .ref C, dict := some s.heap.objs.size, data := .fields flds } : Obj)) rfl rfl
  refine wpAny_bind (wpAny_update (N₁ _ (List.mem_cons_of_mem _ List.mem_cons_self)).1 (wpAny_pure (a := some s.heap.objs.size) ?_))
  refine storeD (s := { s with heap := (s.heap.push (dictOf [] 0)).update x (fun o => { o with dict := some s.heap.objs.size }), toks := s.toks + 1 }) (pre := []) (es := []) (n := 0) F₂ N₂ (fun _ hp => nomatch hp) (fun p hp => ?_) rfl rfl (by simp [putL]) fun h' F' N' => h h' _ F' N' lt
  rcases List.mem_cons.mp hp with rfl | hp
  · exact Nat.ne_of_lt (show x < _ from lt (x, ({ cls := .ref C, data := .fields flds } : Obj)) List.mem_cons_self)
  · exact Nat.ne_of_lt (lt _ (List.mem_cons_of_mem _ hp))
end
end Mine
end

section
open PySem PySem.W PySem.Calls PySem.Spec PyProof.Rows
set_option maxRecDepth 100000
set_option maxHeartbeats 4000000
namespace Mine
open TI
section
variable {prog : Program} {w : World} {A : Around} {E : Value → Shared → Prop} {s : Shared} {K : Frag} {x C : Addr} {ox : Obj} {od : Option Obj} {name : Str} {expr : Bool} {v : Value}

theorem ga_code {tk : Tok} {R : Result → Shared → Prop} (X : K.In s.heap) (I : W.InstAt s.heap x ox C od) (hm : mroIn K C (.type "BaseException") = some true) (hf : findObj K C od name = some (.value v)) (h : R (.ok (.ret v)) s) :
    codeAny (model prog w) A (.call (.builtin "BaseException.__getattribute__") ⟨[.ref x, .str name tk], []⟩) R s := by
  have sub : Looks (model prog w) s.heap (isInstance (.ref x) (.type "BaseException")) true := I.type.andThen (looks_mroIn X hm)
  refine codeAny_call_builtin (by decide +kernel) F.entry_bexc_ga (@check_slot (model prog w) _ _ s "BaseException.__getattribute__" "BaseException" "__getattribute__" (.ref x) [.str name tk] [] _ (by decide +kernel) (by decide +kernel) sub (F.args_bexc_ga (.ref x) (.str name tk)) ?_)
  obtain ⟨hh', g, d, t, os⟩ := s
  have L0 := I.type (M := model prog w)
  have L1 := looks_find (M := model prog w) X I hf
  refine wpAny_bind (wpAny_pure (wpAny_bind (wpAny_pure (wpAny_bind (L0.at (wpAny_bind (L1.at ?_)))))))
  exact wpAny_pure h

theorem getE {Q : Value → Shared → Prop} (X : K.In s.heap) (I : W.InstAt s.heap x ox C od) (hga : findIn K (.ref C) "__getattribute__" = some (some (.builtin "BaseException.__getattribute__"))) (hgt : findIn K (.ref C) "__getattr__" = some none)
    (hm : mroIn K C (.type "BaseException") = some true) (hf : findObj K C od name = some (.value v)) (hh : handedIn v = true) (h : Q v { s with toks := s.toks + 1 }) : wpAny (model prog w) A (getAttr (.ref x) name expr) Q E s := by
  have X' := X
  have I' := I
  obtain ⟨hp, g, d, t, os⟩ := s
  have L0 := I.type (M := model prog w)
  have Lg := looks_findIn (M := model prog w) X hga
  have Lt := looks_findIn (M := model prog w) X hgt
  have hx0 : (expr && onTheHeap (Value.builtin "BaseException.__getattribute__")) = false := by cases expr <;> rfl
  have hx2 : (Value.builtin "BaseException.__getattribute__" == Value.builtin "object.__getattribute__") = false := by decide +kernel
  have hx1 : (onTheHeap (Value.ref C) && Value.builtin "BaseException.__getattribute__" == Value.builtin "object.__getattribute__") = false := by rw [hx2]; rfl
  have f3 : bindSpecial (.builtin "BaseException.__getattribute__") (.ref x) = pure (.builtin "BaseException.__getattribute__", [.ref x]) := PySem.F.attrBase_Exception.ga.bind _
  unfold getAttr
  repeat (any_goals (first | assumption | (with_reducible refine L0.at ?_) | (with_reducible refine Lg.at ?_) | (with_reducible refine Lt.at ?_) | wp_step))
  refine ga_code (s := ⟨hp, g, d, t + 1, os⟩) X I hm hf ?_
  show wpAny _ _ (handedOut v) _ _ _
  rw [handedOut_of hh]; exact wpAny_pure h
end
end Mine
end

section
open PySem PySem.W PySem.Calls PySem.Spec PyProof.Rows
set_option maxRecDepth 100000
set_option maxHeartbeats 4000000
namespace Mine
open TI
theorem slot_wd_get : Slot "wrapper_descriptor" "__get__" "wrapper_descriptor.__get__" := .of (owner := "wrapper_descriptor") (n := "__get__") (by rw [typeLookup_type, builtinLookup_eq_fast]; kernel_rfl) (by decide +kernel) (by decide +kernel) (by decide +kernel)
  (by first | exact .inl (by decide +kernel) | exact .inr (by decide +kernel)) (by rw [isSubtype_type]; kernel_rfl)
theorem entry_wd_get : entryFor table "wrapper_descriptor.__get__" = some Builtin.«wrapper_descriptor.__get__» := entryFor_of_tree (by kernel_rfl)
theorem args_wd_get (a b c : Value) : argsOk "wrapper_descriptor.__get__" ⟨[a, b, c], []⟩ := by unfold argsOk; kernel_rfl
theorem type_exc_init : typeOf (.builtin "Exception.__init__") = pure (.type "wrapper_descriptor") := by kernel_rfl

section
variable {prog : Program} {w : World} {A : Around} {E : Value → Shared → Prop} {h : Heap} {g : Array GenState} {d : Drawn} {t : Nat} {os : OsState}

theorem super_ga_init {so D x C : Addr} {l₀ l : List Value} {K : Frag} {tk : Tok} {Q : Fin → Shared → Prop}
    (hso : h.get? so = some { cls := .type "super", dict := none, data := .fields #[.ref D, .ref x, .ref C], slots := #[] }) (hno : Looks (model prog w) h (opaqueClassAbove (.ref C)) none)
    (hC : Looks (model prog w) h (mroOf (.ref C)) l₀) (hl : (l₀.dropWhile (· != .ref D)).drop 1 = l) (X : K.In h)
    (hf : alongIn K "__init__" l = some (some (.builtin "Exception.__init__"))) {ox : Obj} (hx : h.get? x = some ox) (hcl : ox.cls = .ref C) (hI : Looks (model prog w) h (isSubtype (.ref C) (.type "Exception")) true) (hxC : x ≠ C)
    (hq : Q (.done (.ret (.ref h.objs.size))) ⟨h.push { cls := .type "method-wrapper", data := .fields #[.builtin "Exception.__init__", .ref x] }, g, d, t, os⟩) :
    wpAny (model prog w) A (Builtin.«super.__getattribute__» ⟨[.ref so, .str "__init__" tk], []⟩) Q E ⟨h, g, d, t, os⟩ := by
  have hlk := slot_wd_get.lookup
  have hne : (Value.ref x == Value.ref C) = false := by simp [hxC]
  have hTf : (⟨h, g, d, t, os⟩ : Shared).TypeIs (.builtin "Exception.__init__") "wrapper_descriptor" := type_exc_init
  have hdt : ({ cls := .type "super", dict := none, data := .fields #[.ref D, .ref x, .ref C], slots := #[] } : Obj).data = .fields #[.ref D, .ref x, .ref C] := rfl
  have f0 : (#[.ref D, .ref x, .ref C] : Array Value)[0]? = some (.ref D) := rfl
  have f1 : (#[.ref D, .ref x, .ref C] : Array Value)[1]? = some (.ref x) := rfl
  have f2 : (#[.ref D, .ref x, .ref C] : Array Value)[2]? = some (.ref C) := rfl
  have how : ".".intercalate ("Exception.__init__".cutAt '.').dropLast = "Exception" := by decide +kernel
  have hn : (("__init__" : Str) == ("__class__" : Str)) = false := by decide
  unfold Builtin.«super.__getattribute__»
  repeat (first
    | (with_reducible refine wpAny_field hso hdt f0 ?_) | (with_reducible refine wpAny_field hso hdt f1 ?_) | (with_reducible refine wpAny_field hso hdt f2 ?_)
    | (with_reducible refine ks_wpAny_notOpaque hno ?_)
    | (with_reducible refine Looks.at hC ?_; rw [hl])
    | (refine ks_forIn_along X (fun _ _ => rfl) rfl ?_ hf)
    | (with_reducible refine wpAny_typeOf hTf ?_)
    | (with_reducible refine wpAny_call_entry slot_wd_get hTf entry_wd_get ?_ (args_wd_get _ _ _))
    | (with_reducible refine wpAny_loadPart_at hx ?_; rw [hcl])
    | (rw [how]; with_reducible refine Looks.at hI ?_)
    | (with_reducible refine ⟨_, rfl, ?_⟩)
    | (simp only [hn, hne, Bool.or_false, Bool.false_eq_true, if_false])
    | wp_step
    | dsimp only)
  all_goals exact hq

theorem super_getMethod_init {so D x C : Addr} {l₀ l : List Value} {K : Frag} {pl : Sem Bool} {Q : Value × List Value → Shared → Prop}
    (hso : h.get? so = some { cls := .type "super", dict := none, data := .fields #[.ref D, .ref x, .ref C], slots := #[] }) (hno : Looks (model prog w) h (opaqueClassAbove (.ref C)) none)
    (hC : Looks (model prog w) h (mroOf (.ref C)) l₀) (hl : (l₀.dropWhile (· != .ref D)).drop 1 = l) (X : K.In h)
    (hf : alongIn K "__init__" l = some (some (.builtin "Exception.__init__"))) {ox : Obj} (hx : h.get? x = some ox) (hcl : ox.cls = .ref C) (hI : Looks (model prog w) h (isSubtype (.ref C) (.type "Exception")) true) (hxC : x ≠ C)
    (hq : Q (.ref h.objs.size, []) ⟨h.push { cls := .type "method-wrapper", data := .fields #[.builtin "Exception.__init__", .ref x] }, g, d, t + 1, os⟩) :
    wpAny (model prog w) A (getMethod (.ref so) "__init__" pl) Q E ⟨h, g, d, t, os⟩ := by
  have hlk := F.ks_slot_super_ga.lookup
  have hT : ∀ t', (⟨h, g, d, t', os⟩ : Shared).TypeIs (.ref so) "super" := fun _ => ⟨_, hso, rfl⟩
  unfold getMethod
  refine wpAny_bind (wpAny_specialOf (hT _) hlk ?_)
  show wpAny _ _ (if (Manifest.canonical "super.__getattribute__" != "object.__getattribute__") = true then _ else _) _ _ _
  rw [if_pos F.ks_canon_super_ga]
  unfold getAttr getAttrBy
  refine wpAny_bind (wpAny_bind (wpAny_mkText (wpAny_holding (wpAny_bind (wpAny_typeOf (hT _) (wpAny_bind (wpAny_of_eq hlk ?_)))))))
  show wpAny _ _ (getAttrByItsOwn (.ref so) (.str "__init__" t) (.type "super") (.builtin "super.__getattribute__") true false) _ _ _
  unfold getAttrByItsOwn hookBefore callGetattribute boundAndCalled
  refine wpAny_bind (wpAny_of_eq (show (if onTheHeap (.type "super") then typeLookup (.type "super") "__getattr__" else pure none) = pure none from rfl) ?_)
  refine wpAny_bind (wpAny_attempt (wpAny_holding ?_))
  show wpAny _ _ (bindSpecial (.builtin "super.__getattribute__") (.ref so) >>= _) _ _ _
  refine wpAny_bind (wpAny_of_eq (F.ks_slot_super_ga.bind _) ?_)
  refine wpAny_mono (Q := fun v s' => v = .ref h.objs.size ∧ s' = ⟨h.push { cls := .type "method-wrapper", data := .fields #[.builtin "Exception.__init__", .ref x] }, g, d, t + 1, os⟩) (E := fun _ _ => False)
    (wpAny_call_entry F.ks_slot_super_ga (hT _) F.ks_entry_super_ga (super_ga_init hso hno hC hl X hf hx hcl hI hxC ⟨_, rfl, rfl, rfl⟩) (F.ks_gaArgs_super _ _)) (fun v s' hv => ?_) fun _ _ z => z.elim
  obtain ⟨rfl, rfl⟩ := hv
  exact wpAny_pure (wpAny_pure hq)

theorem init_body {x : Addr} {ox : Obj} {vs : Array Value} {mv : Value} {Q : Fin → Shared → Prop} (hx : h.get? x = some ox) (hd : ox.data = .fields vs) (h0 : 0 < vs.size) {a0 : Addr} (hv0 : vs[0]? = some (.ref a0))
    (hq : Q (.done (.ret .none)) ⟨(h.push { cls := .type "tuple", data := .seq #[mv] }).update x (Obj.mapFields (·.setIfInBounds 0 (.ref h.objs.size))), g, d, t, os⟩) :
    wpAny (model prog w) A (Builtin.«BaseException.__init__» ⟨[.ref x, mv], []⟩) Q E ⟨h, g, d, t, os⟩ := by
  unfold Builtin.«BaseException.__init__»
  have hx₁ := Heap.get?_push_of_some { cls := .type "tuple", data := .seq #[mv] } hx
  refine wpAny_bind (wpAny_newObj_type ?_ (by show (1 : Nat) ≤ sizeLine; decide))
  unfold Builtin.BaseException.bexcPut letGo
  refine wpAny_bind (wpAny_bind (wpAny_field hx₁ hd hv0 (wpAny_bind (wpAny_setField hx₁ hd h0 ?_))))
  repeat wp_step
  all_goals exact hq

theorem mw_call {b x C : Addr} {ox : Obj} {vs : Array Value} {mv : Value} {R : Result → Shared → Prop} {nm q : Str} {N : Addr} {bs : List Value} {hdct : Bool} {sn : List Str} {sub : List Value} {ab : Bool} {col : Option Bool} {dd : Option Addr} {k0 k1 k2 k3 k5 : Option Value}
    (hb : h.get? b = some { cls := .type "method-wrapper", dict := none, data := .fields #[.builtin "Exception.__init__", .ref x], slots := #[] })
    (hC : h.get? C = some (excClassObj nm q C N bs [.type "Exception", .type "BaseException", .type "object"] hdct sn sub ab col dd k0 k1 k2 k3 k5 "Exception.__new__")) (hx : h.get? x = some ox) (hcl : ox.cls = .ref C) (hd : ox.data = .fields vs) (h0 : 0 < vs.size) {a0 : Addr} (hv0 : vs[0]? = some (.ref a0))
    (hq : R (.ok (.ret .none)) ⟨(h.push { cls := .type "tuple", data := .seq #[mv] }).update x (Obj.mapFields (·.setIfInBounds 0 (.ref h.objs.size))), g, d, t, os⟩) :
    codeAny (model prog w) A (.call (.ref b) ⟨[mv], []⟩) R ⟨h, g, d, t, os⟩ := by
  have FE := F.excBase_Exception
  refine codeAny_of_tree ?_
  show wpAny _ A.in1 (callAny (.ref b) _) _ _ _
  unfold callAny
  refine wpAny_bind (wpAny_load hb ?_)
  show wpAny _ _ (checkBoundCall "Exception.__init__" ⟨[.ref x, mv], []⟩ >>= _) _ _ _
  refine wpAny_bind ?_
  unfold checkBoundCall
  have hshort := FE.noStar
  simp only [FE.initKind, FE.initRow]
  rw [if_pos (by decide)]
  have hcB : (Value.ref C :: [.type "Exception", .type "BaseException", .type "object"]).contains (.type "Exception") = true := by rw [List.contains_cons, FE.hasB, Bool.or_true]
  repeat (first | (with_reducible refine wpAny_loadPart_at hx ?_; rw [hcl]) | with_reducible refine wpAny_loadPart_at hC ?_ | (with_reducible refine wpAny_isSubtype_exc hC ?_; rw [hcB]) | wp_step)
  exact ⟨Code.quiet_builtin _ (by decide +kernel), codeAny_builtin FE.initEntry (init_body hx hd h0 hv0 hq)⟩
end
end Mine
end

section
open PySem PySem.W PySem.Calls PySem.Spec PyProof.Rows
set_option maxRecDepth 100000
set_option maxHeartbeats 4000000
namespace Mine
open TI
section
variable {prog : Program} {w : World} {A : Around} {E : Value → Shared → Prop} {s : Shared} {K : Frag} {x C d L : Addr} {base : Heap} {m : Str → Option Value} {news news' : List (Addr × Obj)} {ox : Obj} {es es' : List DictEntry} {n n' : Nat} {nm : Str} {v : Value} {cd : ClassData}

/-- the class takes plain stores: what «o.name = v» asks of it -/
def storesIn (K : Frag) (C : Addr) : Bool := findIn K (.ref C) "__setattr__" == some (some (.builtin "object.__setattr__")) && (clsIn K C).any fun cd => cd.hasDict && cd.mro.contains (.type "object") && cd.mro == [.ref C, .type "Exception", .type "BaseException", .type "object"]
theorem refuse_exc (self : Value) (C : Addr) : refuseLoop self "__setattr__" [.ref C, .type "Exception", .type "BaseException", .type "object"] = pure () := by
  rw [refuseLoop_ref]; kernel_rfl
theorem storesIn_of (h : storesIn K C = true) : findIn K (.ref C) "__setattr__" = some (some (.builtin "object.__setattr__")) ∧ ∃ cd, clsIn K C = some cd ∧ cd.mro.contains (.type "object") = true ∧ cd.hasDict = true ∧ ∀ self, refuseLoop self "__setattr__" cd.mro = pure () := by
  unfold storesIn at h
  rw [Bool.and_eq_true, beq_iff_eq] at h
  obtain ⟨h1, h2⟩ := h
  obtain ⟨cd, hc, h3⟩ := any_some h2
  simp only [Bool.and_eq_true, beq_iff_eq] at h3
  exact ⟨h1, cd, hc, h3.1.2, h3.1.1, fun self => by rw [h3.2]; exact refuse_exc self C⟩

theorem setEU {Q : Unit → Shared → Prop} (F : Fr base L s.heap m) (X : K.In base) (N : News base L s.heap news) (I : W.InstAt s.heap x ox C (some (dictOf es n))) (hd : ox.dict = some d)
    (hs : storesIn K C = true) (ht : takerIn K C nm = some none) (hl : (getL nm es).isSome = true)
    (e : (putL nm (PyData.keyHash w.params nm) (.str nm (s.toks + 1)) v es, putN nm es n) = (es', n')) (U : Upd d (dictOf es n) (dictOf es' n') news news') (hz : es'.length ≤ 1000)
    (h : ∀ h', Fr base L h' m → News base L h' news' → Q () { s with heap := h', toks := s.toks + 2 }) :
    wpAny (model prog w) A (setAttr (.ref x) nm v) Q E s := by
  obtain ⟨pre, post, rfl, rfl, a, b⟩ := U.split
  obtain ⟨h1, cd, hc, ho, hh, hr⟩ := storesIn_of hs
  exact setE F X N I hd h1 hc ho hh hr ht a b hl e hz h

theorem setEN {Q : Unit → Shared → Prop} {flds : Array Value} (F : Fr base L s.heap m) (X : K.In base) (N : News base L s.heap ((x, ({ cls := .ref C, data := .fields flds } : Obj)) :: news)) (hap : ∀ p ∈ news, p.1 ≠ x)
    (hs : storesIn K C = true) (ht : takerIn K C nm = some none)
    (h : ∀ h' d, Fr base L h' m → News base L h' ((d, dictOf [⟨PyData.keyHash w.params nm, .str nm (s.toks + 1), v⟩] 1) :: (x, ({ cls := .ref C, dict := some d, data := .fields flds } : Obj)) :: news) → (∀ q ∈ (x, ({ cls := .ref C, data := .fields flds } : Obj)) :: news, q.1 < d) → Q () { s with heap := h', toks := s.toks + 2 }) :
    wpAny (model prog w) A (setAttr (.ref x) nm v) Q E s := by
  obtain ⟨h1, cd, hc, ho, hh, hr⟩ := storesIn_of hs
  exact setE_new F X N hap h1 hc ho hh hr ht h

/-- the object is an exception's: class, dict and fields are known -/
theorem instE {L : Addr} {d : Addr} {flds : Array Value} {sl : Array (Option Value)} {od : Obj} (N : News base L s.heap news) (h1 : (x, (⟨.ref C, some d, .fields flds, sl⟩ : Obj)) ∈ news) (h2 : (d, od) ∈ news) : W.InstAt s.heap x ⟨.ref C, some d, .fields flds, sl⟩ C (some od) := ⟨(N _ h1).1, rfl, rfl, (N _ h2).1⟩

def readsE (K : Frag) (C : Addr) (nm : Str) : Bool := findIn K (.ref C) "__getattribute__" == some (some (.builtin "BaseException.__getattribute__")) && findIn K (.ref C) "__getattr__" == some none && mroIn K C (.type "BaseException") == some true && findIn K (.ref C) nm == some none && hasDictIn K C
theorem getEU {Q : Value → Shared → Prop} {expr : Bool} (F : Fr base L s.heap m) (X : K.In base) (I : W.InstAt s.heap x ox C (some (dictOf es n))) (hr : readsE K C nm = true) (hl : getL nm es = some (some v)) (hh : handedIn v = true) (h : Q v { s with toks := s.toks + 1 }) :
    wpAny (model prog w) A (getAttr (.ref x) nm expr) Q E s := by
  unfold readsE at hr
  simp only [Bool.and_eq_true, beq_iff_eq] at hr
  obtain ⟨⟨⟨⟨h1, h2⟩, h3⟩, h4⟩, h5⟩ := hr
  exact getE (X.keeps F.keep) I h1 h2 h3 (findObj_own h5 h4 rfl hl) hh h

variable {mg mb : Str → Option Value} {p : Program} {loose : List Str} {mean : ExcName → Option Value} {R : Result → Shared → Prop} {name qual : Str} {params : Arguments} {body : List Stmt} {scope : Scope} {dV kV doc pm cdv ct oc : Value} {an od : Option Addr} {osl : Array (Option Value)} {f cc : Addr} {args : Args} {binds : List (Str × Value)}

theorem enterS (F : Fr base L s.heap m) (X : K.In base) (N : News base L s.heap news) (T : Top p loose mean mg mb base)
    (ho : K.lookup f = some ⟨oc, od, .func (ksFn name qual params body scope dV kV doc pm an cdv ct cc), osl⟩) (hcd : codeIn K cdv qual = true) (hroom : A.depth < recursionLimit)
    (hbind : BindsTo s (ksFn name qual params body scope dV kV doc pm an cdv ct cc) args binds) (hloc : ∀ y ∈ binds, scope.names.lookup y.1 = some .local)
    (h : ∀ oL L' h₁, Caller base L m oL → Fr base L' h₁ (fun y => binds.reverse.lookup y) → News base L' h₁ ((L, oL) :: news) → (∀ q ∈ news, q.1 ≠ L) → (∀ q ∈ (L, oL) :: news, q.1 < L') →
      _root_.PySem.wpAt (model prog w) (A.deeper (ksEnv qual scope L' f cdv cc)) (.func body (ksEnv qual scope L' f cdv cc)) (execs body (ksEnv qual scope L' f cdv cc))
        (fun fl s' => R (.ok (.ret (match fl with | .ret v => v | _ => .none))) s')
        (fun e s' => wpAny (model prog w) (A.deeper (ksEnv qual scope L' f cdv cc)) (leaving (ksEnv qual scope L' f cdv cc) e) (fun _ s'' => R (.error e) s'') (fun e' s'' => R (.error e') s'') s')
        { s with heap := h₁, toks := s.toks + binds.length })
    (hco : scope.isCoroutine = false) (hgen : scope.isGenerator = false) (hk : scope.kind = .function)
    (hcell : ∀ x ∈ scope.names, x.2 ≠ .cell) : codeAny (model prog w) A (.call (.ref f) args) R s := by
  have X' := X.keeps F.keep
  obtain ⟨oL, hL, Cl⟩ := caller_of F
  refine ks_codeAny_call_defAt (fd := ksFn name qual params body scope dV kV doc pm an cdv ct cc) (body := body) (binds := binds) hroom (X' _ _ ho) rfl (T.nolimit.keeps F.keep) (codeRec_of X' hcd) rfl hbind hcell hloc (fun h₁ hns hk₁ => ?_) hco hgen hk
  have hlt : L < s.heap.objs.size := Heap.lt_size hL
  refine h oL s.heap.objs.size h₁ Cl ⟨hns, fun b o e => hk₁ b o (F.keep b o e), Nat.le_of_lt (Nat.lt_of_le_of_lt F.above hlt)⟩ ?_ (fun q hq => (N q hq).2.1) ?_
  · intro q hq
    rcases List.mem_cons.mp hq with rfl | hq
    · exact ⟨hk₁ _ _ hL, Nat.ne_of_lt hlt, Heap.get?_none_of_le F.above⟩
    · exact ⟨hk₁ _ _ (N q hq).1, Nat.ne_of_lt (Heap.lt_size (N q hq).1), (N q hq).2.2⟩
  · intro q hq
    rcases List.mem_cons.mp hq with rfl | hq
    · exact hlt
    · exact Heap.lt_size (N q hq).1
end
end Mine
end

section
open PySem PySem.W PySem.Calls PySem.Spec PyProof.Rows PySem.Builtin
set_option maxRecDepth 100000
set_option maxHeartbeats 4000000
namespace Mine
open Builtin.Str

theorem gives_count4 (x y : Str) (i j : Int) (t u v v' : Tok) : Gives («str.count» ⟨[.str x t, .str y u, .int i v, .int j v'], []⟩) (.int (occurrences x y (fromIndex x.length i) (min (fromIndex x.length j) x.length) (x.length + 1)).length) := by
  show Gives (retInt (occurrences x y (fromIndex x.length i) (min (fromIndex x.length j) x.length) (x.length + 1)).length) _
  exact .of_eq rfl
theorem gives_rfind4 (x y : Str) (i j : Int) (t u v v' : Tok) : Gives («str.rfind» ⟨[.str x t, .str y u, .int i v, .int j v'], []⟩) (.int (match lastOccurrence x y (fromIndex x.length i) (min (fromIndex x.length j) x.length) with | some k => (k : Int) | none => -1)) := by
  show Gives (match lastOccurrence x y (fromIndex x.length i) (min (fromIndex x.length j) x.length) with | some k => retInt k | none => (do rule "str.rfind.not-found"; retInt (-1))) _
  cases lastOccurrence x y (fromIndex x.length i) (min (fromIndex x.length j) x.length) with
  | none => exact .rule (.of_eq rfl)
  | some k => exact .of_eq rfl

section
variable {prog : Program} {w : World} {A : Around} {E : Value → Shared → Prop} {s : Shared} {x y : Str} {t u v v' : Tok} {i j : Int} {Q : Value → Shared → Prop}
/-- how often y stands in x between i and j, overlaps apart -/
def cnt4 (x y : Str) (i j : Int) : Int := (occurrences x y (fromIndex x.length i) (min (fromIndex x.length j) x.length) (x.length + 1)).length
def rfi4 (x y : Str) (i j : Int) : Int := match lastOccurrence x y (fromIndex x.length i) (min (fromIndex x.length j) x.length) with | some k => (k : Int) | none => -1
theorem count4 (hq : Q (.int (cnt4 x y i j) s.toks) { s with toks := s.toks + 1 }) : wpAny (model prog w) A (call (.builtin "str.count") [.str x t, .str y u, .int i v, .int j v']) Q E s :=
  call_gives F.slot_str_count (typeIs_str _ _ _) F.entry_str_count (F.args_str_count_4 _ _ _ _) (gives_count4 x y i j t u v v') hq
theorem rfind4 (hq : Q (.int (rfi4 x y i j) s.toks) { s with toks := s.toks + 1 }) : wpAny (model prog w) A (call (.builtin "str.rfind") [.str x t, .str y u, .int i v, .int j v']) Q E s :=
  call_gives F.slot_str_rfind (typeIs_str _ _ _) F.entry_str_rfind (F.args_str_rfind_4 _ _ _ _) (gives_rfind4 x y i j t u v v') hq
end

theorem slot_bytes_count : Slot "bytes" "count" "bytes.count" :=
  .of (owner := "bytes") (n := "count") (by rw [typeLookup_type, builtinLookup_eq_fast]; kernel_rfl) (by decide +kernel) (by decide +kernel) (by decide +kernel)
    (by first | exact .inl (by decide +kernel) | exact .inr (by decide +kernel)) (by rw [isSubtype_type]; kernel_rfl)
theorem type_bytes_count : typeOf (.builtin "bytes.count") = pure (.type "method_descriptor") := by show builtinType _ = _; rw [builtinType_eq_fast]; kernel_rfl
theorem entry_bytes_count : entryFor table "bytes.count" = some Builtin.«bytes.count» := entryFor_of_tree (by kernel_rfl)
theorem args_bytes_count_4 (a b c d : Value) : argsOk "bytes.count" ⟨[a, b, c, d], []⟩ := by
  unfold argsOk; rw [signature?_of (id := "bytes.count") (n := ['t', 'n', 'u', 'o', 'c']) (o := ['s', 'e', 't', 'y', 'b']) (by kernel_rfl) FB.owner_bytes]; kernel_rfl
theorem slot_bytes_rfind : Slot "bytes" "rfind" "bytes.rfind" :=
  .of (owner := "bytes") (n := "rfind") (by rw [typeLookup_type, builtinLookup_eq_fast]; kernel_rfl) (by decide +kernel) (by decide +kernel) (by decide +kernel)
    (by first | exact .inl (by decide +kernel) | exact .inr (by decide +kernel)) (by rw [isSubtype_type]; kernel_rfl)
theorem type_bytes_rfind : typeOf (.builtin "bytes.rfind") = pure (.type "method_descriptor") := by show builtinType _ = _; rw [builtinType_eq_fast]; kernel_rfl
theorem entry_bytes_rfind : entryFor table "bytes.rfind" = some Builtin.«bytes.rfind» := entryFor_of_tree (by kernel_rfl)
theorem args_bytes_rfind_4 (a b c d : Value) : argsOk "bytes.rfind" ⟨[a, b, c, d], []⟩ := by
  unfold argsOk; rw [signature?_of (id := "bytes.rfind") (n := ['d', 'n', 'i', 'f', 'r']) (o := ['s', 'e', 't', 'y', 'b']) (by kernel_rfl) FB.owner_bytes]; kernel_rfl

section
variable {b c : Array UInt8} {t u v v' : Tok} {j : Int} {M : Model} {A : Around} {E : Value → Shared → Prop} {s : Shared}
theorem bound_int {i : Int} {Q : Option Int → Shared → Prop} (h : Q (some i) s) : wpAny M A (Bytes.bound? (some (.int i v))) Q E s := by
  unfold Bytes.bound?
  refine wpAny_bind (wpAny_specialOf (typeIs_int s i v) F.slot_int_index.lookup ?_)
  show wpAny M A (asIndex (.int i v) >>= fun r => pure (some r)) Q E s
  rw [show asIndex (.int i v) = pure i from rfl]
  exact wpAny_pure h
theorem searchArgs_bytes {name : String} {i : Int} {Q : Array UInt8 × Array UInt8 × Option (Nat × Nat) → Shared → Prop}
    (h : Q (b, c, if (Bytes.window b.size (some i) (some j)).2 - (Bytes.window b.size (some i) (some j)).1 < c.size then none else some ((Bytes.window b.size (some i) (some j)).1.toNat, (Bytes.window b.size (some i) (some j)).2.toNat)) s) :
    wpAny M A (Bytes.searchArgs .bytes name ⟨[.bytes b t, .bytes c u, .int i v, .int j v'], []⟩) Q E s := by
  unfold Bytes.searchArgs
  show wpAny M A (Bytes.bound? (some (.int i v)) >>= fun _ => _) Q E s
  refine wpAny_bind (bound_int ?_)
  show wpAny M A (Bytes.bound? (some (.int j v')) >>= fun _ => _) Q E s
  refine wpAny_bind (bound_int ?_)
  show wpAny M A (Bytes.buffer? _ (.bytes c u) >>= fun _ => _) Q E s
  refine wpAny_bind (wpAny_of_eq KBy.buffer_eq ?_)
  exact wpAny_pure h
def bcnt (b c : Array UInt8) (i j : Int) : Int := if (Bytes.window b.size (some i) (some j)).2 - (Bytes.window b.size (some i) (some j)).1 < c.size then 0 else (Bytes.occurrences b c (Bytes.window b.size (some i) (some j)).1.toNat (Bytes.window b.size (some i) (some j)).2.toNat).length
def brfi (b c : Array UInt8) (i j : Int) : Int := if (Bytes.window b.size (some i) (some j)).2 - (Bytes.window b.size (some i) (some j)).1 < c.size then -1 else match Bytes.rfind? b c (Bytes.window b.size (some i) (some j)).1.toNat (Bytes.window b.size (some i) (some j)).2.toNat with | some k => k | none => -1
theorem gives_bcount {i : Int} (hc : c.isEmpty = false) : Gives («bytes.count» ⟨[.bytes b t, .bytes c u, .int i v, .int j v'], []⟩) (.int (bcnt b c i j)) := by
  refine .of_wp fun M A E s Q hq => ?_
  unfold Builtin.«bytes.count» Bytes.countM
  refine wpAny_bind (searchArgs_bytes ?_)
  unfold bcnt at hq
  dsimp only
  split at hq
  · next h => rw [if_pos h]; exact wpAny_bind (wpAny_mkInt (wpAny_pure ⟨_, rfl, hq⟩))
  · next h => 
    rw [if_neg h]
    dsimp only
    rw [if_neg (by rw [hc]; exact Bool.false_ne_true)]
    exact wpAny_bind (wpAny_mkInt (wpAny_pure ⟨_, rfl, hq⟩))
theorem gives_brfind {i : Int} : Gives («bytes.rfind» ⟨[.bytes b t, .bytes c u, .int i v, .int j v'], []⟩) (.int (brfi b c i j)) := by
  refine .of_wp fun M A E s Q hq => ?_
  unfold Builtin.«bytes.rfind» Bytes.searchM
  refine wpAny_bind (searchArgs_bytes ?_)
  unfold brfi at hq
  dsimp only
  split at hq
  · next h =>
    rw [if_pos h]
    dsimp only [Option.bind]
    exact wpAny_bind (wpAny_rule (wpAny_bind (wpAny_mkInt (wpAny_pure ⟨_, rfl, hq⟩))))
  · next h => 
    rw [if_neg h]
    dsimp only [Option.bind]
    rw [if_pos rfl]
    revert hq
    cases Bytes.rfind? b c (Bytes.window b.size (some i) (some j)).1.toNat (Bytes.window b.size (some i) (some j)).2.toNat with
    | none => intro hq; exact wpAny_bind (wpAny_rule (wpAny_bind (wpAny_mkInt (wpAny_pure ⟨_, rfl, hq⟩))))
    | some k => intro hq; exact wpAny_bind (wpAny_mkInt (wpAny_pure ⟨_, rfl, hq⟩))
end
section
variable {prog : Program} {w : World} {A : Around} {E : Value → Shared → Prop} {s : Shared} {b c : Array UInt8} {t u v v' : Tok} {i j : Int} {Q : Value → Shared → Prop}
theorem bcount4 (hc : c.isEmpty = false) (hq : Q (.int (bcnt b c i j) s.toks) { s with toks := s.toks + 1 }) : wpAny (model prog w) A (call (.builtin "bytes.count") [.bytes b t, .bytes c u, .int i v, .int j v']) Q E s :=
  call_gives slot_bytes_count (typeIs_bytes _ _ _) entry_bytes_count (args_bytes_count_4 _ _ _ _) (gives_bcount hc) hq
theorem brfind4 (hq : Q (.int (brfi b c i j) s.toks) { s with toks := s.toks + 1 }) : wpAny (model prog w) A (call (.builtin "bytes.rfind") [.bytes b t, .bytes c u, .int i v, .int j v']) Q E s :=
  call_gives slot_bytes_rfind (typeIs_bytes _ _ _) entry_bytes_rfind (args_bytes_rfind_4 _ _ _ _) gives_brfind hq
end
theorem noIndex_bytes : typeLookup (.type "bytes") "__index__" = pure none := by rw [typeLookup_type, builtinLookup_eq_fast]; kernel_rfl
theorem typeName_bytes : typeName (.type "bytes") = pure "bytes" := by kernel_rfl
section
variable {prog : Program} {w : World} {A : Around} {E : Value → Shared → Prop} {s : Shared} {b c : Array UInt8} {t u v v' : Tok} {j : Int} {Q : Value → Shared → Prop}
theorem cut_bytes {n : Nat} {Q : String → Shared → Prop} (h : Q "bytes" s) : wpAny (model prog w) A (typeNameOfCut n (.bytes b t)) Q E s := by
  unfold typeNameOfCut shownTypeOf
  refine wpAny_bind (wpAny_bind (wpAny_typeOf (typeIs_bytes _ b t) ?_))
  simp only [show (Value.type "bytes" == Value.type "builtin_function_or_method") = false by decide, Bool.false_eq_true, if_false]
  refine wpAny_pure ?_
  rw [show typeNameCut n (.type "bytes") = typeName (.type "bytes") from rfl, typeName_bytes]
  exact wpAny_pure h
theorem asIndex_bytes {Q : Int → Shared → Prop} (hh : A.handled = none) (h : ∀ h' tk e, Heap.NewExc s.heap h' e "TypeError" → E (.ref e) { s with heap := h', toks := tk }) : wpAny (model prog w) A (asIndex (.bytes b t)) Q E s := by
  unfold asIndex
  refine wpAny_bind (wpAny_of_eq (show asInt? (Value.bytes b t) = pure none from rfl) ?_)
  refine wpAny_bind (wpAny_callSpecial?_none (typeIs_bytes s b t) noIndex_bytes ?_)
  exact wpAny_bind (cut_bytes (wpAny_raiseTypeError hh h))
theorem bcount_method {pl : Sem Bool} {Q : Value × List Value → Shared → Prop} (h : Q (.builtin "bytes.count", [.bytes b t]) s) : wpAny (model prog w) A (getMethod (.bytes b t) "count" pl) Q E s := by
  with_reducible exact KBd.method_of (.bytes b t) (typeIs_bytes _ _ _) slot_bytes_count type_bytes_count KBd.noRef h
theorem brfind_method {pl : Sem Bool} {Q : Value × List Value → Shared → Prop} (h : Q (.builtin "bytes.rfind", [.bytes b t]) s) : wpAny (model prog w) A (getMethod (.bytes b t) "rfind" pl) Q E s := by
  with_reducible exact KBd.method_of (.bytes b t) (typeIs_bytes _ _ _) slot_bytes_rfind type_bytes_rfind KBd.noRef h
end
end Mine
end

section
open PySem PySem.Builtin PySem.Builtin.Str PySem.StrLaws
set_option maxRecDepth 10000
namespace Mine
/-- the text of one sign -/
def one (c : Nat) : Str := ⟨#[c]⟩
theorem subAt_one (x : Str) (c i : Nat) : subAt x (one c) i = (x.cps[i]? == some c) := by
  unfold subAt one Str.length
  show (x.cps.extract i (i + 1) == #[c]) = _
  by_cases h : i < x.cps.size
  · have e : x.cps.extract i (i + 1) = #[x.cps[i]] := by
      apply Array.ext
      · simp; omega
      · intro j h1 h2
        simp at h2
        subst h2
        simp
    rw [e, Array.getElem?_eq_getElem h]
    by_cases hc : x.cps[i] = c <;> simp [hc]
  · have e : x.cps.extract i (i + 1) = #[] := by
      apply Array.ext
      · simp; omega
      · intro j h1 h2; simp at h2
    rw [e, Array.getElem?_eq_none (by omega)]
    simp

theorem occ_one_loop (x : Str) (c hi lim : Nat) : ∀ (n a : Nat) (acc : Array Nat) (free : Nat), free ≤ a → acc.size + n ≤ lim →
    (forIn (List.range' a n) (acc, free) (occBody x (one c) hi lim)).run.fst.toList = acc.toList ++ (List.range' a n).filter fun i => decide (i < hi) && x.cps[i]? == some c
  | 0, a, acc, free, _, _ => by simp
  | n + 1, a, acc, free, hf, hl => by
    have h1 : (one c).length = 1 := rfl
    rw [List.range'_succ, List.forIn_cons]
    unfold occBody
    rw [subAt_one, h1]
    by_cases hc : a < hi ∧ (x.cps[a]? == some c) = true
    · rw [if_pos ⟨⟨⟨by show acc.size < lim; omega, hf⟩, by omega⟩, hc.2⟩]
      have := occ_one_loop x c hi lim n (a + 1) (acc.push a) (a + 1) (Nat.le_refl _) (by simp; omega)
      unfold occBody at this
      simp only [pure_bind, subAt_one, h1] at this ⊢
      rw [this]
      simp [hc]
    · rw [if_neg (by rintro ⟨⟨_, h⟩, h'⟩; exact hc ⟨by omega, h'⟩)]
      have := occ_one_loop x c hi lim n (a + 1) acc free (by omega) (by omega)
      unfold occBody at this
      simp only [pure_bind, subAt_one, h1] at this ⊢
      rw [this]
      congr 1
      rw [List.filter_cons]
      have : ¬ ((decide (a < hi) && x.cps[a]? == some c) = true) := by simpa using hc
      rw [if_neg this]

theorem occ_one (x : Str) (c hi lim : Nat) (hl : hi + 1 ≤ lim) : occurrences x (one c) 0 hi lim = (List.range' 0 (hi + 1)).filter fun i => decide (i < hi) && x.cps[i]? == some c := by
  rw [occ_eq]
  have := occ_one_loop x c hi lim (hi + 1 - 0) 0 #[] 0 (Nat.le_refl _) (by simp; omega)
  rw [this]; simp

theorem filter_count (l : List Nat) (c : Nat) : ∀ n, n ≤ l.length → ((List.range' 0 n).filter fun i => l[i]? == some c).length = (l.take n).count c := by
  intro n
  induction n with
  | zero => intro _; simp
  | succ n ih =>
    intro hn
    have hlt : n < l.length := hn
    have ht : l.take (n + 1) = l.take n ++ [l[n]] := by rw [List.take_add_one, List.getElem?_eq_getElem hlt]; rfl
    rw [List.range'_1_concat, List.filter_append, List.length_append, ih (by omega), ht, List.count_append]
    congr 1
    rw [Nat.zero_add, List.filter_cons, List.getElem?_eq_getElem hlt]
    by_cases h : l[n] = c <;> simp [h]

theorem filter_range_lt (p : Nat → Bool) (hi : Nat) : (List.range' 0 (hi + 1)).filter (fun i => decide (i < hi) && p i) = (List.range' 0 hi).filter p := by
  rw [List.range'_1_concat, List.filter_append]
  have : ([0 + hi].filter fun i => decide (i < hi) && p i) = [] := by simp
  rw [this, List.append_nil]
  apply List.filter_congr
  intro i hi'
  simp at hi'
  simp [hi']

theorem occ_one_count (x : Str) (c hi lim : Nat) (hl : hi + 1 ≤ lim) (hx : hi ≤ x.length) : (occurrences x (one c) 0 hi lim).length = (x.cps.toList.take hi).count c := by
  rw [occ_one x c hi lim hl, filter_range_lt (fun i => x.cps[i]? == some c)]
  rw [← filter_count x.cps.toList c hi (by simpa [Str.length] using hx)]
  congr 2
  funext i
  rw [Array.getElem?_toList]

/-- where c stands last in l, -1 if nowhere -/
def lastIx (c : Nat) (l : List Nat) : Int := (l.length : Int) - 1 - (l.reverse.takeWhile (· != c)).length

theorem lastIx_concat (c a : Nat) (l : List Nat) : lastIx c (l ++ [a]) = if a = c then (l.length : Int) else lastIx c l := by
  unfold lastIx
  by_cases h : a = c
  · simp [h]
  · simp [h]; omega
theorem lastIx_lt (c : Nat) (l : List Nat) : lastIx c l < l.length := by unfold lastIx; omega
theorem lastIx_ge (c : Nat) (l : List Nat) : -1 ≤ lastIx c l := by
  unfold lastIx
  have := (List.takeWhile_sublist (p := (· != c)) (l := l.reverse)).length_le
  simp at this
  omega

theorem last_loop (f : Nat → Bool) : ∀ (l : List Nat) (o : Option Nat), (forIn (m := Id) l o (fun i r => if f i = true then pure (ForInStep.yield (some i)) else pure (ForInStep.yield r))).run = ((l.filter f).getLast?).or o
  | [], o => by simp
  | a :: l, o => by
    rw [List.forIn_cons]
    by_cases h : f a = true
    · rw [if_pos h]
      simp only [pure_bind]
      rw [last_loop f l (some a), List.filter_cons_of_pos h, List.getLast?_cons]
      cases (l.filter f).getLast? <;> simp
    · rw [if_neg h]
      simp only [pure_bind]
      rw [last_loop f l o, List.filter_cons_of_neg h]

theorem last_eq (x sub : Str) (lo hi : Nat) : lastOccurrence x sub lo hi = ((List.range' lo (hi + 1 - lo)).filter fun i => decide (i + sub.length ≤ hi) && subAt x sub i).getLast? := by
  unfold lastOccurrence
  have := last_loop (fun i => decide (i + sub.length ≤ hi) && subAt x sub i) (List.range' lo (hi + 1 - lo)) none
  simp at this ⊢
  exact this

theorem filter_last (l : List Nat) (c : Nat) : ∀ n, n ≤ l.length → (match ((List.range' 0 n).filter fun i => l[i]? == some c).getLast? with | some k => (k : Int) | none => -1) = lastIx c (l.take n) := by
  intro n
  induction n with
  | zero => intro _; simp [lastIx]
  | succ n ih =>
    intro hn
    have hlt : n < l.length := hn
    have ht : l.take (n + 1) = l.take n ++ [l[n]] := by rw [List.take_add_one, List.getElem?_eq_getElem hlt]; rfl
    rw [ht, lastIx_concat, ← ih (by omega), List.range'_1_concat, List.filter_append, Nat.zero_add, List.filter_cons, List.getElem?_eq_getElem hlt]
    by_cases h : l[n] = c
    · simp [h]; omega
    · simp [h]

theorem last_one (x : Str) (c hi : Nat) (hx : hi ≤ x.length) : (match lastOccurrence x (one c) 0 hi with | some k => (k : Int) | none => -1) = lastIx c (x.cps.toList.take hi) := by
  rw [last_eq, ← filter_last x.cps.toList c hi (by simpa [Str.length] using hx)]
  have : (List.range' 0 (hi + 1 - 0)).filter (fun i => decide (i + (one c).length ≤ hi) && subAt x (one c) i) = (List.range' 0 hi).filter fun i => x.cps.toList[i]? == some c := by
    rw [← filter_range_lt (fun i => x.cps.toList[i]? == some c)]
    apply List.filter_congr
    intro i _
    rw [subAt_one]
    have : (one c).length = 1 := rfl
    rw [this, Array.getElem?_toList]
    rfl
  rw [this]
end Mine
end

section
open PySem PySem.Builtin PySem.Builtin.Str PySem.StrLaws
set_option maxRecDepth 10000
namespace Mine
theorem occ_lim_loop (x : Str) (c hi lim : Nat) : ∀ (n a : Nat) (acc : Array Nat) (free : Nat), free ≤ a →
    (forIn (List.range' a n) (acc, free) (occBody x (one c) hi lim)).run.fst.toList = acc.toList ++ ((List.range' a n).filter fun i => decide (i < hi) && x.cps[i]? == some c).take (lim - acc.size)
  | 0, a, acc, free, _ => by simp
  | n + 1, a, acc, free, hf => by
    have h1 : (one c).length = 1 := rfl
    rw [List.range'_succ, List.forIn_cons]
    unfold occBody
    rw [subAt_one, h1]
    by_cases hc : a < hi ∧ (x.cps[a]? == some c) = true
    · by_cases hs : acc.size < lim
      · rw [if_pos ⟨⟨⟨by show acc.size < lim; omega, hf⟩, by omega⟩, hc.2⟩]
        have := occ_lim_loop x c hi lim n (a + 1) (acc.push a) (a + 1) (Nat.le_refl _)
        unfold occBody at this
        simp only [pure_bind, subAt_one, h1] at this ⊢
        rw [this]
        have e : lim - acc.size = (lim - (acc.push a).size) + 1 := by simp; omega
        rw [e, List.filter_cons, if_pos (by simpa using hc)]
        simp
      · rw [if_neg (by rintro ⟨⟨⟨h, _⟩, _⟩, _⟩; exact hs h)]
        have := occ_lim_loop x c hi lim n (a + 1) acc free (by omega)
        unfold occBody at this
        simp only [pure_bind, subAt_one, h1] at this ⊢
        rw [this]
        have e : lim - acc.size = 0 := by omega
        rw [e]
        simp
    · rw [if_neg (by rintro ⟨⟨_, h⟩, h'⟩; exact hc ⟨by omega, h'⟩)]
      have := occ_lim_loop x c hi lim n (a + 1) acc free (by omega)
      unfold occBody at this
      simp only [pure_bind, subAt_one, h1] at this ⊢
      rw [this]
      congr 2
      rw [List.filter_cons]
      have : ¬ ((decide (a < hi) && x.cps[a]? == some c) = true) := by simpa using hc
      rw [if_neg this]

theorem occ_empty (x : Str) (c : Nat) : (occurrences x (one c) 0 x.length 1).isEmpty = !(x.cps.toList.contains c) := by
  rw [occ_eq]
  have := occ_lim_loop x c x.length 1 (x.length + 1 - 0) 0 #[] 0 (Nat.le_refl _)
  rw [this]
  have e : ∀ l : List Nat, (([] : List Nat) ++ l.take (1 - 0)).isEmpty = l.isEmpty := by intro l; cases l <;> simp
  show (([] : List Nat) ++ _).isEmpty = _
  rw [show (#[] : Array Nat).size = 0 from rfl, e, Nat.sub_zero, filter_range_lt (fun i => x.cps[i]? == some c)]
  have hc := filter_count x.cps.toList c x.length (by simp [Str.length])
  have : (List.range' 0 x.length).filter (fun i => x.cps[i]? == some c) = (List.range' 0 x.length).filter (fun i => x.cps.toList[i]? == some c) := by
    congr 1; funext i; rw [Array.getElem?_toList]
  rw [this]
  rw [List.take_of_length_le (by simp [Str.length])] at hc
  cases h : (List.range' 0 x.length).filter (fun i => x.cps.toList[i]? == some c) with
  | nil =>
    rw [h] at hc
    have : ¬ c ∈ x.cps.toList := fun m => by have := List.count_pos_iff.mpr m; rw [← hc] at this; exact absurd this (Nat.lt_irrefl 0)
    simp only [List.isEmpty_nil, Bool.true_eq, Bool.not_eq_true']
    simpa using this
  | cons a r =>
    rw [h] at hc
    have : c ∈ x.cps.toList := List.count_pos_iff.mp (by rw [← hc]; exact Nat.zero_lt_succ _)
    simp only [List.isEmpty_cons, Bool.false_eq, Bool.not_eq_false']
    simpa using this

/-! octets -/
theorem extract_one (b : Array UInt8) (c : UInt8) (i : Nat) : (b.extract i (i + 1) == #[c]) = (b[i]? == some c) := by
  by_cases h : i < b.size
  · have e : b.extract i (i + 1) = #[b[i]] := by
      apply Array.ext
      · simp; omega
      · intro j h1 h2
        simp at h2
        subst h2
        simp
    rw [e, Array.getElem?_eq_getElem h]
    by_cases hc : b[i] = c <;> simp [hc]
  · have e : b.extract i (i + 1) = #[] := by
      apply Array.ext
      · simp; omega
      · intro j h1 h2; simp at h2
    rw [e, Array.getElem?_eq_none (by omega)]
    simp
def stepB (b : Array UInt8) (c : UInt8) (acc : List Nat × Nat) (i : Nat) : List Nat × Nat := if i ≥ acc.2 && b.extract i (i + 1) == #[c] then (i :: acc.1, i + 1) else acc
theorem stepB_fold (b : Array UInt8) (c : UInt8) : ∀ n, ((List.range n).foldl (stepB b c) ([], 0)).2 ≤ n ∧ ((List.range n).foldl (stepB b c) ([], 0)).1.length = ((List.range n).filter fun i => b[i]? == some c).length := by
  intro n
  induction n with
  | zero => simp
  | succ n ih =>
    rw [List.range_succ, List.foldl_append, List.filter_append]
    generalize (List.range n).foldl (stepB b c) ([], 0) = z at ih
    obtain ⟨i1, i2⟩ := ih
    simp only [List.foldl_cons, List.foldl_nil, List.length_append, List.filter_cons, List.filter_nil]
    unfold stepB
    rw [extract_one]
    by_cases h : (b[n]? == some c) = true
    · rw [h]; simp [i1, i2]
    · have h' : (b[n]? == some c) = false := by simpa using h
      rw [h']; simp [i2]; omega
/-- the numbers of the octets -/
def nums (b : Array UInt8) : List Nat := b.toList.map (·.toNat)
theorem filter_nums (b : Array UInt8) (c : UInt8) (n : Nat) : (List.range n).filter (fun i => b[i]? == some c) = (List.range' 0 n).filter (fun i => (nums b)[i]? == some c.toNat) := by
  rw [List.range_eq_range']
  congr 1
  funext i
  unfold nums
  rw [List.getElem?_map, Array.getElem?_toList]
  cases h : b[i]? with
  | none => simp
  | some a =>
    simp only [Option.map_some]
    by_cases hc : a = c
    · simp [hc]
    · have : a.toNat ≠ c.toNat := fun e => hc (UInt8.toNat_inj.mp e)
      have e1 : (some a == some c) = false := by simpa using hc
      have e2 : (some a.toNat == some c.toNat) = false := by simpa using this
      rw [e1, e2]
theorem nums_len (b : Array UInt8) : (nums b).length = b.size := by simp [nums]
theorem occB_count (b : Array UInt8) (c : UInt8) (stop : Nat) (h : stop ≤ b.size) : (Bytes.occurrences b #[c] 0 stop).length = ((nums b).take stop).count c.toNat := by
  have : Bytes.occurrences b #[c] 0 stop = ((List.range stop).foldl (stepB b c) ([], 0)).1.reverse := by
    unfold Bytes.occurrences stepB
    have e : stop + 1 - (0 + (#[c] : Array UInt8).size) = stop := by show stop + 1 - (0 + 1) = stop; omega
    rw [e]
    simp only [Nat.add_zero, List.map_id']
    rfl
  rw [this, List.length_reverse, (stepB_fold b c stop).2, filter_nums, filter_count _ _ _ (by rw [nums_len]; exact h)]
theorem rfind_last (p : Nat → Bool) (n : Nat) : (List.range n).reverse.find? p = ((List.range n).filter p).getLast? := by
  rw [← List.head?_filter, List.filter_reverse, List.head?_reverse]
theorem rfindB (b : Array UInt8) (c : UInt8) (stop : Nat) (h : stop ≤ b.size) : (match Bytes.rfind? b #[c] 0 stop with | some k => (k : Int) | none => -1) = lastIx c.toNat ((nums b).take stop) := by
  have : Bytes.rfind? b #[c] 0 stop = ((List.range' 0 stop).filter fun i => (nums b)[i]? == some c.toNat).getLast? := by
    unfold Bytes.rfind?
    have e : stop + 1 - (0 + (#[c] : Array UInt8).size) = stop := by show stop + 1 - (0 + 1) = stop; omega
    rw [e]
    simp only [Nat.add_zero, List.map_id']
    rw [rfind_last, ← filter_nums]
    congr 2
    funext i
    exact extract_one b c i
  rw [this]
  exact filter_last _ _ _ (by rw [nums_len]; exact h)
theorem findB (b : Array UInt8) (c : UInt8) : (Bytes.find? b #[c] 0 b.size).isSome = (nums b).contains c.toNat := by
  unfold Bytes.find?
  have e : b.size + 1 - (0 + (#[c] : Array UInt8).size) = b.size := by show b.size + 1 - (0 + 1) = b.size; omega
  rw [e]
  simp only [Nat.add_zero, List.map_id']
  rw [Bool.eq_iff_iff, List.find?_isSome]
  simp only [List.contains_iff_mem, nums, List.mem_map]
  constructor
  · rintro ⟨i, hi, h⟩
    rw [show (b.extract i (i + (#[c] : Array UInt8).size) == #[c]) = (b[i]? == some c) from extract_one b c i] at h
    have hi' : i < b.size := by simpa using hi
    rw [Array.getElem?_eq_getElem hi'] at h
    refine ⟨b[i], by simp, ?_⟩
    have : b[i] = c := by simpa using h
    rw [this]
  · rintro ⟨a, ha, e⟩
    have : a = c := UInt8.toNat_inj.mp e
    subst this
    obtain ⟨i, hi, h⟩ := List.getElem_of_mem ha
    refine ⟨i, by simpa using hi, ?_⟩
    rw [show (b.extract i (i + (#[a] : Array UInt8).size) == #[a]) = (b[i]? == some a) from extract_one b a i]
    have hi' : i < b.size := by simpa using hi
    rw [Array.getElem?_eq_getElem hi']
    simpa using h
end Mine
end

section
open PySem PySem.W PySem.Calls PySem.Spec PyProof.Rows PySem.Builtin
set_option maxRecDepth 100000
set_option maxHeartbeats 1000000
namespace Mine
section
variable {prog : Program} {w : World} {A : Around} {E : Value → Shared → Prop} {s : Shared} {X T : PySem.Str} {t tm tp tq : Tok} {Q : Value → Shared → Prop} {b L : Addr} {n : Nat} {h₀ : Heap} {news : List (Addr × Obj)} {p q : Int}
theorem mod1 (N : News h₀ L s.heap news) (hb : (b, ({ cls := .type "tuple", data := .seq #[.str X tm, .int p tp] } : Obj)) ∈ news) (hX : X.length ≤ 20000) (h0 : 0 ≤ p) (h1 : p ≤ 100000)
    (h : ∀ t' k, Q (.str (X ++ Str.ofString " at position " ++ Str.ofString (toString p)) t') { s with toks := k }) : wpAny (model prog w) A (binaryOp .Mod (.str (Str.ofString "%s at position %d") t) (.ref b)) Q E s := by
  refine' KPt.mod_tuple N hb ?kptF ?kptm ?_
  case kptF => kpt_eq
  case kptm => kpt_run
  intro t k
  exact h t k
theorem mod2 (N : News h₀ L s.heap news) (hb : (b, ({ cls := .type "tuple", data := .seq #[.str X tm, .int p tp, .int q tq] } : Obj)) ∈ news) (hX : X.length ≤ 40000) (h0 : 0 ≤ p) (h1 : p ≤ 100000) (h2 : 0 ≤ q) (h3 : q ≤ 100000)
    (h : ∀ t' k, Q (.str (X ++ Str.ofString " (line " ++ Str.ofString (toString p) ++ Str.ofString ", column " ++ Str.ofString (toString q) ++ Str.ofString ")") t') { s with toks := k }) : wpAny (model prog w) A (binaryOp .Mod (.str (Str.ofString "%s (line %d, column %d)") t) (.ref b)) Q E s := by
  refine' KPt.mod_tuple N hb ?kptF ?kptm ?_
  case kptF => kpt_eq
  case kptm => kpt_run
  intro t k
  exact h t k
end
open Builtin.Str
theorem nl_one : Str.ofString "\n" = one 10 := by decide +kernel
/-- what the error words and places are, for a pattern of the signs l -/
def peLine (l : List Nat) (p : Int) : Int := ((l.take p.toNat).count 10 : Nat) + 1
def peCol (l : List Nat) (p : Int) : Int := p - lastIx 10 (l.take p.toNat)
def peHead (msg : Str) (p : Int) : Str := msg ++ Str.ofString " at position " ++ Str.ofString (toString p)
def peWords (msg : Str) (l : List Nat) (p : Int) : Str :=
  if l.contains 10 then peHead msg p ++ Str.ofString " (line " ++ Str.ofString (toString (peLine l p)) ++ Str.ofString ", column " ++ Str.ofString (toString (peCol l p)) ++ Str.ofString ")" else peHead msg p
theorem from0 (n : Nat) : fromIndex n 0 = 0 := by unfold fromIndex; simp
theorem fromP (n : Nat) {p : Int} (h : 0 ≤ p) : fromIndex n p = p.toNat := by unfold fromIndex; rw [if_neg (Int.not_lt.mpr h), Int.max_eq_right h]
theorem take_min (l : List Nat) (n : Nat) : l.take (min n l.length) = l.take n := by
  by_cases h : n ≤ l.length
  · rw [Nat.min_eq_left h]
  · rw [Nat.min_eq_right (by omega), List.take_of_length_le (Nat.le_refl _), List.take_of_length_le (by omega)]
theorem cnt4_eq (D : Str) {p : Int} (h : 0 ≤ p) : cnt4 D (Str.ofString "\n") 0 p + 1 = peLine D.cps.toList p := by
  unfold cnt4 peLine
  rw [nl_one, from0, fromP _ h, occ_one_count D 10 _ _ (by omega) (Nat.min_le_right _ _), show D.length = D.cps.toList.length from by simp [Str.length], take_min]
theorem rfi4_eq (D : Str) {p : Int} (h : 0 ≤ p) : p - rfi4 D (Str.ofString "\n") 0 p = peCol D.cps.toList p := by
  unfold rfi4 peCol
  rw [nl_one, from0, fromP _ h]
  congr 1
  refine (last_one D 10 _ (Nat.min_le_right _ _)).trans ?_
  rw [show D.length = D.cps.toList.length from by simp [Str.length], take_min]
theorem occ_nl (D : Str) : (occurrences D (Str.ofString "\n") 0 D.length 1).isEmpty = !(D.cps.toList.contains 10) := by rw [nl_one]; exact occ_empty D 10
theorem peLine_bound (l : List Nat) (p : Int) : 0 ≤ peLine l p ∧ peLine l p ≤ l.length + 1 := by
  unfold peLine
  have := List.count_le_length (l := l.take p.toNat) (a := 10)
  simp only [List.length_take] at this
  omega
theorem peCol_bound (l : List Nat) {p : Int} (h : 0 ≤ p) : 0 ≤ peCol l p ∧ peCol l p ≤ p + 1 := by
  unfold peCol
  have h1 := lastIx_lt 10 (l.take p.toNat)
  have h2 := lastIx_ge 10 (l.take p.toNat)
  have h3 : ((l.take p.toNat).length : Int) ≤ p := by rw [List.length_take]; exact Int.le_trans (Int.ofNat_le.mpr (Nat.min_le_left _ _)) (Int.toNat_of_nonneg h ▸ Int.le_refl _)
  generalize lastIx 10 (l.take p.toNat) = z at h1 h2 ⊢
  generalize ((l.take p.toNat).length : Int) = y at h1 h3
  omega
theorem peHead_len {msg : Str} {p : Int} (hm : msg.length ≤ 20000) (h0 : 0 ≤ p) (h1 : p ≤ 10000) : (peHead msg p).length ≤ 40000 := by
  unfold peHead
  rw [PySem.Str.length_append, PySem.Str.length_append]
  have := toString_length_le (v := p) h0 (k := 10) (by decide) (by omega)
  have e : (Str.ofString " at position ").length = 13 := by decide +kernel
  omega
/-! the same of octets -/
theorem window0 (n : Nat) {p : Int} (h : 0 ≤ p) : Bytes.window n (some 0) (some p) = (0, ((min n p.toNat : Nat) : Int)) := by
  unfold Bytes.window
  simp only [Option.getD_some]
  obtain ⟨k, rfl⟩ := Int.eq_ofNat_of_zero_le h
  rw [if_neg (by decide), if_neg (Int.not_lt.mpr h)]
  rw [Int.toNat_natCast]
  congr 1
  rcases Nat.le_total n k with h | h
  · rw [Nat.min_eq_left h, Int.min_eq_left (Int.ofNat_le.mpr h)]
  · rw [Nat.min_eq_right h, Int.min_eq_right (Int.ofNat_le.mpr h)]
theorem bcnt_eq (b : Array UInt8) {p : Int} (h : 0 ≤ p) : bcnt b #[10] 0 p + 1 = peLine (nums b) p := by
  unfold bcnt peLine
  rw [window0 _ h]
  have e : ((#[10] : Array UInt8).size : Int) = 1 := rfl
  rw [e]
  dsimp only
  rw [← take_min, nums_len]
  rw [Nat.min_comm p.toNat]
  have hle := Nat.min_le_left b.size p.toNat
  generalize min b.size p.toNat = k at hle ⊢
  clear h
  by_cases hz : ((k : Nat) : Int) - 0 < 1
  · rw [if_pos hz, show k = 0 from by omega]
    simp
  · rw [if_neg hz]
    have := occB_count b 10 k hle
    rw [show ((k : Nat) : Int).toNat = k from rfl, show (0 : Int).toNat = 0 from rfl, this]
    rfl
theorem brfi_eq (b : Array UInt8) {p : Int} (h : 0 ≤ p) : p - brfi b #[10] 0 p = peCol (nums b) p := by
  unfold brfi peCol
  rw [window0 _ h]
  have e : ((#[10] : Array UInt8).size : Int) = 1 := rfl
  rw [e]
  dsimp only
  rw [← take_min, nums_len]
  congr 1
  rw [Nat.min_comm p.toNat]
  have hle := Nat.min_le_left b.size p.toNat
  generalize min b.size p.toNat = k at hle ⊢
  clear h
  by_cases hz : ((k : Nat) : Int) - 0 < 1
  · rw [if_pos hz, show k = 0 from by omega]
    simp [lastIx]
  · rw [if_neg hz]
    have := rfindB b 10 k hle
    rw [show ((k : Nat) : Int).toNat = k from rfl, show (0 : Int).toNat = 0 from rfl]
    exact this
theorem find_nl (b : Array UInt8) : (Bytes.find? b #[10] 0 b.size).isSome = (nums b).contains 10 := findB b 10
end Mine
end

section
open PySem PySem.W PySem.Calls PySem.Spec PyProof.Rows
set_option maxRecDepth 100000
set_option maxHeartbeats 1000000
namespace Mine
open TI
section
variable {prog : Program} {w : World} {A : Around} {E : Value → Shared → Prop} {s : Shared} {K : Frag} {so b x C D L : Addr} {base : Heap} {m : Str → Option Value} {news news' : List (Addr × Obj)} {od : Option Addr} {flds : Array Value} {sl : Array (Option Value)} {odx : Option Obj}

theorem super_init_K {pl : Sem Bool} {Q : Value × List Value → Shared → Prop} (F : Fr base L s.heap m) (X₀ : K.In base) (N : News base L s.heap news) (hso : (so, ks_superObj D x C) ∈ news) (I : W.InstAt s.heap x ⟨.ref C, od, .fields flds, sl⟩ C odx)
    (ho : nsIn K cStatics "thirdparty.any" = some none) (hm : ks_superIn K C D "__init__" = some (some (.builtin "Exception.__init__"))) (hsub : mroIn K C (.type "Exception") = some true)
    (h : ∀ b h', Fr base L h' m → News base L h' ((b, ({ cls := .type "method-wrapper", data := .fields #[.builtin "Exception.__init__", .ref x] } : Obj)) :: news) → (∀ p ∈ news, p.1 < b) → Q (.ref b, []) { s with heap := h', toks := s.toks + 1 }) :
    wpAny (model prog w) A (getMethod (.ref so) "__init__" pl) Q E s := by
  have X : K.In s.heap := X₀.keeps F.keep
  obtain ⟨hh, g, d, t, os⟩ := s
  cases hc : clsIn K C with
  | none => unfold ks_superIn at hm; rw [hc] at hm; cases hm
  | some cd =>
    unfold ks_superIn at hm
    rw [hc] at hm
    refine super_getMethod_init (N _ hso).1 (looks_opaque X ho) (l₀ := cd.mro) ?_ rfl X hm I.at_ rfl (looks_mroIn X hsub) (ks_ne X I hc) ?_
    · exact fun A Q E s k q => wpAny_bind ((looks_clsIn X hc) A _ E s k (wpAny_pure q))
    · exact h _ _ (F.push _) (N.push F _ rfl) (fun q hq => Heap.lt_size (N q hq).1)

theorem mw_call_U {mv : Value} {Q : Value → Shared → Prop} {nm q : Str} {Ns : Addr} {bs : List Value} {hdct : Bool} {sn : List Str} {sub : List Value} {ab : Bool} {col : Option Bool} {dd : Option Addr} {k0 k1 k2 k3 k5 : Option Value} {a0 d : Addr} {c2 c3 c5 : Value} {b4 : Value} {news' : Addr → List (Addr × Obj)}
    (F : Fr base L s.heap m) (X₀ : K.In base) (N : News base L s.heap news)
    (hb : (b, ({ cls := .type "method-wrapper", data := .fields #[.builtin "Exception.__init__", .ref x] } : Obj)) ∈ news)
    (U : ∀ t, Upd x ({ cls := .ref C, dict := some d, data := .fields #[.ref a0, c2, c3, c5, b4, .none] } : Obj) ({ cls := .ref C, dict := some d, data := .fields #[.ref t, c2, c3, c5, b4, .none] } : Obj) news (news' t))
    (hC : K.lookup C = some (excClassObj nm q C Ns bs [.type "Exception", .type "BaseException", .type "object"] hdct sn sub ab col dd k0 k1 k2 k3 k5 "Exception.__new__"))
    (h : ∀ h' t, Fr base L h' m → News base L h' ((t, ({ cls := .type "tuple", data := .seq #[mv] } : Obj)) :: news' t) → (∀ p ∈ news, p.1 < t) → Q .none { s with heap := h' }) :
    wpAny (model prog w) A (call (.ref b) [mv]) Q E s := by
  have X : K.In s.heap := X₀.keeps F.keep
  obtain ⟨hh, g, dr, t, os⟩ := s
  obtain ⟨pre, post, e1, e2, a, c⟩ := (U hh.objs.size).split
  have hx := (N (x, _) (by rw [e1]; exact List.mem_append_right _ List.mem_cons_self)).1
  have hlt : ∀ p ∈ news, p.1 < hh.objs.size := fun p hp => Heap.lt_size (N p hp).1
  have hlx : x < hh.objs.size := Heap.lt_size hx
  refine wpAny_call (mw_call (N _ hb).1 (X _ _ hC) hx rfl rfl (Nat.zero_lt_succ _) rfl ?_)
  have F₁ := F.push ({ cls := .type "tuple", data := .seq #[mv] } : Obj)
  have N₁ := N.push F ({ cls := .type "tuple", data := .seq #[mv] } : Obj) rfl
  rw [e1] at N₁ hlt
  obtain ⟨F₂, N₂⟩ := news_upd (f := Obj.mapFields (·.setIfInBounds 0 (.ref hh.objs.size))) (pre := (hh.objs.size, ({ cls := .type "tuple", data := .seq #[mv] } : Obj)) :: pre) (post := post) F₁ N₁ (fun p hp => by
    rcases List.mem_cons.mp hp with rfl | hp
    · exact Ne.symm (Nat.ne_of_lt hlx)
    · exact a p hp) c (o' := ({ cls := .ref C, dict := some d, data := .fields #[.ref hh.objs.size, c2, c3, c5, b4, .none] } : Obj)) rfl rfl
  exact h _ hh.objs.size F₂ (by rw [e2]; exact N₂) (by rw [e1]; exact hlt)
/-- the object at b is the method-wrapper of x's Exception.__init__ -/
def MwAt (b x : Addr) (h : Heap) : Prop := h.get? b = some ({ cls := .type "method-wrapper", data := .fields #[.builtin "Exception.__init__", .ref x] } : Obj)
theorem mwAt {h : Heap} (N : News base L h news) (hb : (b, ({ cls := .type "method-wrapper", data := .fields #[.builtin "Exception.__init__", .ref x] } : Obj)) ∈ news) : MwAt b x h := (N _ hb).1
theorem and_mw {h : Heap} {P : Prop} (N : News base L h news) (hb : (b, ({ cls := .type "method-wrapper", data := .fields #[.builtin "Exception.__init__", .ref x] } : Obj)) ∈ news) (p : P) : MwAt b x h ∧ P := ⟨mwAt N hb, p⟩
theorem keeps_mw {M : Model} (h : Heap) (X : MwAt b x h) : ∃ k, (k = Keeper.frame ∨ k = Keeper.machine ∨ k = Keeper.boundFrame) ∧ Looks M h (keeperOf (.ref b)) k :=
  ⟨_, .inr (.inl rfl), (Looks.ld (part := none) X).andThen .now⟩
theorem callWith_mw {pos : Pos} {env : Env} {e : Expr} {rest : List Expr} {Q : Value → Shared → Prop} (_N : News base L s.heap news) (_hb : (b, ({ cls := .type "method-wrapper", data := .fields #[.builtin "Exception.__init__", .ref x] } : Obj)) ∈ news)
    (h : wpAny (model prog w) A (spliced (backTo pos (starEach (e :: rest) env))) (fun vs s₁ => MwAt b x s₁.heap ∧ wpAny (model prog w) A (call (.ref b) vs) Q E s₁) E s)
    (he : starEach (e :: rest) env = (false, eval e env) :: starEach rest env := by rfl) (hplain : (backTo pos (starEach rest env)).any (·.1) = false := by rfl) :
    wpAny (model prog w) A (callWith pos (.ref b) [] (backTo pos (starEach (e :: rest) env)) []) Q E s := by
  rw [he] at h ⊢
  exact callWith_of (by show ((false || (backTo pos (starEach rest env)).any (·.1)) || false) = false; rw [hplain]; rfl) keeps_mw (evalArgs_plain h)
theorem back3 {L' : Addr} {h : Heap} {m' : Str → Option Value} {oL : Obj} {sub news' : List (Addr × Obj)} {a b c : Addr} {oa ob oc : Obj} (C : Caller base L m oL) (F' : Fr base L' h m') (N' : News base L' h news') (hL : (L, { oL with slots := oL.slots }) ∈ news')
    (h1 : (a, oa) ∈ news') (h2 : (b, ob) ∈ news') (h3 : (c, oc) ∈ news') (hs : ∀ q ∈ sub, q ∈ news') (n1 : a ≠ L) (n2 : b ≠ L) (n3 : c ≠ L) (hn : ∀ q ∈ sub, q.1 ≠ L) : Fr base L h m ∧ News base L h ((a, oa) :: (b, ob) :: (c, oc) :: sub) :=
  ⟨backM C F' N' hL, backN N' (fun q hq => by
    rcases List.mem_cons.mp hq with rfl | hq
    · exact h1
    rcases List.mem_cons.mp hq with rfl | hq
    · exact h2
    rcases List.mem_cons.mp hq with rfl | hq
    · exact h3
    exact hs q hq) (fun q hq => by
    rcases List.mem_cons.mp hq with rfl | hq
    · exact n1
    rcases List.mem_cons.mp hq with rfl | hq
    · exact n2
    rcases List.mem_cons.mp hq with rfl | hq
    · exact n3
    exact hn q hq)⟩
/-- the dict of a PatternError -/
abbrev peD (P : Params) (k1 k2 k3 k4 k5 : Tok) (msg pat pos line col : Value) : Obj :=
  dictOf [⟨PyData.keyHash P (Str.ofString "msg"), .str (Str.ofString "msg") k1, msg⟩, ⟨PyData.keyHash P (Str.ofString "pattern"), .str (Str.ofString "pattern") k2, pat⟩, ⟨PyData.keyHash P (Str.ofString "pos"), .str (Str.ofString "pos") k3, pos⟩,
    ⟨PyData.keyHash P (Str.ofString "lineno"), .str (Str.ofString "lineno") k4, line⟩, ⟨PyData.keyHash P (Str.ofString "colno"), .str (Str.ofString "colno") k5, col⟩] 5
end
end Mine
end

section
open PySem PySem.W PySem.Calls PySem.Spec PyProof.Rows PySem.Builtin
set_option maxRecDepth 100000
set_option maxHeartbeats 1000000
namespace Mine
open TI
section
variable {prog : Program} {w : World} {A : Around} {E : Value → Shared → Prop} {s : Shared} {value slice : PySem.Expr} {x : PySem.Str} {t u : Tok} {n : Nat} {i : Int} {Q : Value → Shared → Prop}
theorem str_out (hh : A.handled = none) (h0 : (x.length : Int) ≤ i) (h1 : i ≤ 1000000) (h : ∀ h' tk e, Heap.NewExc s.heap h' e "IndexError" → E (.ref e) { s with heap := h', toks := tk })
    (hs : subscripted slice false (.str x t) (.int i u) = operate [.str x t, .int i u] (getItem (.str x t) (.int i u)) := by with_unfolding_all rfl)
    (ht : ∀ r, letTemporaryGo value (.str x t) r = pure () := by intro _; with_unfolding_all rfl) :
    wpAny (model prog w) A (subscriptTail value slice (.str x t) (.int i u)) Q E s := by
  refine tail_of_ItemOn ⟨"str", _, F.slot_str_getitem.lookup, typeIs_str _ _ _, getItem_meets (typeIs_str _ _ _) (by decide) F.slot_str_getitem F.entry_str_getitem (F.args_str_getitem_2 _ _) (raises_str_getitem x i t u ?_ ?_) ⟨hh, h⟩⟩ hs ht
  · simp only [Bool.or_eq_false_iff, decide_eq_false_iff_not]; omega
  · have : seqIndex? i x.length = none := by
      unfold seqIndex?
      have hn : ¬ i < 0 := by omega
      simp [hn]; omega
    rw [this]; rfl
theorem inst_ne {base : Heap} {L dx C y : Addr} {h : Heap} {news : List (Addr × Obj)} {es : List DictEntry} {n : Nat} (N : News base L h news) (h1 : (y, instObj C dx) ∈ news) (h2 : (dx, dictOf es n) ∈ news) : y ≠ dx := fun z => by
  have a := (N _ h1).1
  have b := (N _ h2).1
  subst z
  have := Option.some.inj (a.symm.trans b)
  exact absurd (congrArg Obj.cls this) (by intro q; cases q)
end
/-- the sign at i -/
theorem item_one {D : Str} {i : Nat} {c : Nat} (h : D.cps.toList[i]? = some c) : Txt.item D (i : Int) = one c := by
  have hl : i < D.cps.size := by
    have := (List.getElem?_eq_some_iff.mp h).1
    simpa using this
  have hc : D.cps[i]? = some c := by rw [← Array.getElem?_toList]; exact h
  unfold Txt.item Txt.charAt
  have e : seqIndex? (i : Int) D.length = some i := by
    unfold seqIndex?
    have hn : ¬ (i : Int) < 0 := by omega
    have : i < D.length := hl
    simp [hn]; omega
  rw [e]
  show (⟨#[((D.cps[i]?).getD 0)]⟩ : Str) = one c
  rw [hc]
  rfl
section
variable {prog : Program} {w : World} {A : Around} {E : Value → Shared → Prop} {s : Shared} {value slice : PySem.Expr} {x y z : PySem.Str} {t u : Tok} {n : Nat} {i : Int} {Q : Value → Shared → Prop}
theorem str_in (e : Txt.item x i = y) (h0 : 0 ≤ i) (h1 : i < x.length) (hn : x.length ≤ 16777216) (h : Q (.str y s.toks) { s with toks := s.toks + 1 })
    (hs : subscripted slice false (.str x t) (.int i u) = operate [.str x t, .int i u] (getItem (.str x t) (.int i u)) := by with_unfolding_all rfl)
    (ht : ∀ r, letTemporaryGo value (.str x t) r = pure () := by intro _; with_unfolding_all rfl) :
    wpAny (model prog w) A (subscriptTail value slice (.str x t) (.int i u)) Q E s :=
  KXi.item rfl (by omega) h1 hn (fun _ => by rw [e]; exact h) hs ht
theorem eq_strR {r : Bool} (e : (x == y) = r) (h : Q (.bool r) s) : wpAny (model prog w) A (compareOp .Eq (.str x t) (.str y u)) Q E s := PyProof.Rows.eq_str (by rw [e]; exact h)
theorem iadd_str1 (hx : 1 ≤ x.length) (hy : 1 ≤ y.length) (hsz : x.length + y.length ≤ 16777216) (h : Q (.str (x ++ y) s.toks) { s with toks := s.toks + 1 }) : wpAny (model prog w) A (inplaceOp .Add (.str x t) (.str y u)) Q E s := by
  refine P.iadd_str ?_
  rw [if_neg (by simp; omega), if_neg (by simp; omega)]
  refine ⟨?_, h⟩
  rw [Str.length_append, sizeLine_eq]; omega
end
theorem item_one1 {D : Str} {i : Nat} {c : Nat} (h : D.cps.toList[i + 1]? = some c) : Txt.item D ((i : Int) + 1) = one c := item_one (i := i + 1) h
theorem one_len (c : Nat) : (one c).length = 1 := rfl
theorem one_beq (c d : Nat) : (one c == one d) = (c == d) := by
  rw [Bool.eq_iff_iff]
  simp [one]
theorem bs_one : Str.ofString "\\" = one 92 := by decide +kernel
section
variable {α : Type} {a b c d q : α} {n f r : List α}
theorem mem_i1 (h : q ∈ a :: b :: (n ++ c :: f)) : q ∈ c :: a :: b :: (n ++ f) := by
  simp only [List.mem_cons, List.mem_append] at h ⊢; grind
theorem mem_i2 (h : q ∈ a :: b :: c :: r) : q ∈ c :: a :: b :: r := by
  simp only [List.mem_cons] at h ⊢; grind
end
theorem fin2 {base : Heap} {L L' x dx : Addr} {h : Heap} {m m' : Str → Option Value} {oL ox od : Obj} {sl : Array (Option Value)} {new frs : List (Addr × Obj)} (C : Caller base L m oL) (F' : Fr base L' h m')
    (N' : News base L' h ((x, ox) :: (dx, od) :: (new ++ ((L, { oL with slots := sl }) :: frs)))) (n1 : L ≠ x) (n2 : L ≠ dx) (n3 : ∀ q ∈ new ++ frs, q.1 ≠ L) : Fr base L h m ∧ News base L h ((x, ox) :: (dx, od) :: (new ++ frs)) :=
  ⟨backM (sl := sl) C F' N' (by simp), backN N' (fun q hq => by simp only [List.mem_cons, List.mem_append] at hq ⊢; grind) (fun q hq => by
    rcases List.mem_cons.mp hq with rfl | hq
    · exact n1.symm
    rcases List.mem_cons.mp hq with rfl | hq
    · exact n2.symm
    exact n3 q hq)⟩
theorem sameUp_cons {p : Addr × Obj} {frs frs' : List (Addr × Obj)} (h : SameUp (p :: frs) frs') : ∃ sl qs, frs' = (p.1, { p.2 with slots := sl }) :: qs ∧ SameUp frs qs := by
  cases frs' with
  | nil => exact False.elim h
  | cons q qs =>
    obtain ⟨a, ⟨sl, b⟩, c⟩ := h
    exact ⟨sl, qs, by rw [← a, ← b], c⟩
theorem up_ne {a : Addr} {new frs frs' : List (Addr × Obj)} (h : ∀ q ∈ new ++ frs, q.1 ≠ a) (S : SameUp frs frs') : ∀ q ∈ new ++ frs', q.1 ≠ a := fun q hq => by
  rcases List.mem_append.mp hq with hq | hq
  · exact h q (List.mem_append_left _ hq)
  · obtain ⟨r, hr, e⟩ := S.fwd q hq
    rw [e]; exact h r (List.mem_append_right _ hr)
/-- the three objects of a PatternError: itself, its dict, its words -/
def IsPe (P : Params) (C : Addr) (msg : Str) (pat : Value) (l : List Nat) (pos : Int) (e d t : Addr) (o3 : List (Addr × Obj)) : Prop :=
  ∃ k1 k2 k3 k4 k5 tm tp tl tc tw, o3 = [(e, peO C d (.ref t) .none .none .none (.bool false) .none), (d, peD P k1 k2 k3 k4 k5 (.str msg tm) pat (.int pos tp) (.int (peLine l pos) tl) (.int (peCol l pos) tc)), (t, ({ cls := .type "tuple", data := .seq #[.str (peWords msg l pos) tw] } : Obj))]
theorem IsPe.ne {P : Params} {C : Addr} {msg : Str} {pat : Value} {l : List Nat} {pos : Int} {e d t : Addr} {o3 : List (Addr × Obj)} (h : IsPe P C msg pat l pos e d t o3) {L : Addr} (a : L ≠ e) (b : L ≠ d) (c : L ≠ t) : ∀ q ∈ o3, q.1 ≠ L := by
  obtain ⟨k1, k2, k3, k4, k5, tm, tp, tl, tc, tw, rfl⟩ := h
  intro q hq
  simp only [List.mem_cons, List.not_mem_nil, or_false] at hq
  rcases hq with rfl | rfl | rfl
  · exact a.symm
  · exact b.symm
  · exact c.symm
/-- «msg.encode('ascii', 'backslashreplace')» gives bs -/
def EncTo (msg : Str) (bs : Array UInt8) : Prop := ∀ (prog : Program) (w : World) (A : Around) (E : Value → Shared → Prop) (s : Shared) (Q : Value → Shared → Prop) (t t1 t2 : Tok),
  (∀ t' k, Q (.bytes bs t') { s with toks := k }) → wpAny (model prog w) A (call (.builtin "str.encode") [.str msg t, .str (Str.ofString "ascii") t1, .str (Str.ofString "backslashreplace") t2]) Q E s
/-- «bs.decode('ascii')» gives msg -/
def DecTo (bs : Array UInt8) (msg : Str) : Prop := ∀ (prog : Program) (w : World) (A : Around) (E : Value → Shared → Prop) (s : Shared) (Q : Value → Shared → Prop) (t t1 : Tok),
  (∀ t' k, Q (.str msg t') { s with toks := k }) → wpAny (model prog w) A (call (.builtin "bytes.decode") [.bytes bs t, .str (Str.ofString "ascii") t1]) Q E s
theorem enc_go {prog : Program} {w : World} {A : Around} {E : Value → Shared → Prop} {s : Shared} {Q : Value → Shared → Prop} {m : Str} {bs : Array UInt8} {t t1 t2 : Tok} (x : EncTo m bs) (h : ∀ t' k, Q (.bytes bs t') { s with toks := k }) : wpAny (model prog w) A (call (.builtin "str.encode") [.str m t, .str (Str.ofString "ascii") t1, .str (Str.ofString "backslashreplace") t2]) Q E s := x _ _ _ _ _ _ _ _ _ h
theorem dec_go {prog : Program} {w : World} {A : Around} {E : Value → Shared → Prop} {s : Shared} {Q : Value → Shared → Prop} {m : Str} {bs : Array UInt8} {t t1 : Tok} (x : DecTo bs m) (h : ∀ t' k, Q (.str m t') { s with toks := k }) : wpAny (model prog w) A (call (.builtin "bytes.decode") [.bytes bs t, .str (Str.ofString "ascii") t1]) Q E s := x _ _ _ _ _ _ _ _ h
theorem encode_method {M : Model} {A : Around} {E : Value → Shared → Prop} {s : Shared} {x : Str} {t : Tok} {pl : Sem Bool} {Q : Value × List Value → Shared → Prop} (h : Q (.builtin "str.encode", [.str x t]) s) : wpAny M A (getMethod (.str x t) "encode" pl) Q E s := by
  with_reducible exact GM.of (.str x t) (typeIs_str _ _ _) F.slot_str_encode F.type_str_encode GM.noRef h
end Mine
end

section
open PySem PySem.W PySem.Calls PySem.Spec PyProof.Rows PySem.Builtin
set_option maxRecDepth 100000
namespace Mine
open TI
/-- how long the sign that is next is -/
def nlen : Value → Int
  | .str y _ => y.length
  | _ => 0
/-- what can be next -/
def NextOk : Value → Prop
  | .none => True
  | .str y _ => 1 ≤ y.length ∧ y.length ≤ 2
  | _ => False

/-- the texts one behind the other -/
def cat : List Str → Str
  | l => l.foldl (· ++ ·) (Str.ofString "")
theorem cat_snoc (l : List Str) (y : Str) : cat (l ++ [y]) = cat l ++ y := by unfold cat; rw [List.foldl_append]; rfl
theorem cat_nil : cat [] = Str.ofString "" := rfl
theorem foldl_len : ∀ (l : List Str) (a : Str), (l.foldl (· ++ ·) a).length = a.length + (l.map Str.length).sum
  | [], a => by simp
  | y :: l, a => by
    rw [List.foldl_cons, foldl_len l, Str.length_append]
    simp only [List.map_cons, List.sum_cons]; omega
theorem cat_len (l : List Str) : (cat l).length = (l.map Str.length).sum := by
  unfold cat
  rw [foldl_len]
  have : (Str.ofString "").length = 0 := by decide +kernel
  omega

/-- the signs of D from i on -/
def Signs (D : Str) : Nat → List Str → Prop
  | i, [] => D.cps.toList[i]? = none
  | i, y :: r => (∃ c, D.cps.toList[i]? = some c ∧ c ≠ 92 ∧ y = one c ∧ Signs D (i + 1) r) ∨ (∃ c, D.cps.toList[i]? = some 92 ∧ D.cps.toList[i + 1]? = some c ∧ y = one 92 ++ one c ∧ Signs D (i + 2) r)
/-- a reader at index i whose next is nv: the sign that is next begins at p, and sgs are the signs from there -/
def RdAt (D : Str) (i : Nat) (nv : Value) (p : Nat) : List Str → Prop
  | [] => nv = .none ∧ i = p ∧ D.cps.toList[p]? = none
  | y :: r => ∃ t, nv = .str y t ∧ i = p + y.length ∧ 1 ≤ y.length ∧ y.length ≤ 2 ∧ i ≤ D.length ∧ Signs D i r
section
variable {prog : Program} {w : World} {A : Around} {E : Value → Shared → Prop} {s : Shared} {x y : PySem.Str} {t u : Tok} {n : Nat} {Q : Value → Shared → Prop}
theorem truthyR {b : Bool} {Q : Bool → Shared → Prop} (e : ((x.length : Int) != 0) = b) (hl : x.length ≤ 16777216) (h : ∀ k, Q b { s with toks := k }) : wpAny (model prog w) A (PySem.truthy (.str x t)) Q E s := KXt.truthy e hl h
theorem iadd_any (hsz : x.length + y.length ≤ 16777216) (h : ∀ t' k, Q (.str (x ++ y) t') { s with toks := k }) : wpAny (model prog w) A (inplaceOp .Add (.str x t) (.str y u)) Q E s := SB.iadd h (by rw [sizeLine_eq]; omega)
theorem add_any (hsz : x.length + y.length ≤ 16777216) (h : ∀ t' k, Q (.str (x ++ y) t') { s with toks := k }) : wpAny (model prog w) A (binaryOp .Add (.str x t) (.str y u)) Q E s := SB.add h (by rw [sizeLine_eq]; omega)
end
theorem canon0 {a c : Str} {v : Option Value} {M0 : Str → Option Value} : (fun y => if y = a then v else M0 y) = (fun y => if y = a then v else if y = c then M0 c else M0 y) := by
  funext y
  by_cases h : y = a
  · rw [if_pos h, if_pos h]
  · rw [if_neg h, if_neg h]
    by_cases h' : y = c
    · rw [if_pos h', h']
    · rw [if_neg h']
theorem canon1 {a c : Str} {v v0 u u0 : Option Value} {M0 : Str → Option Value} : (fun y => if y = a then v else if y = c then u else if y = a then v0 else if y = c then u0 else M0 y) = (fun y => if y = a then v else if y = c then u else M0 y) := by
  funext y
  by_cases h : y = a <;> by_cases h' : y = c <;> simp [h, h']
theorem nlen_nonneg (v : Value) : 0 ≤ nlen v := by
  unfold nlen
  split
  · exact Int.natCast_nonneg _
  · exact Int.le_refl _
end Mine
end

section
open PySem PySem.W PySem.Calls PySem.Spec PyProof.Rows PySem.Builtin
set_option maxRecDepth 100000
set_option maxHeartbeats 1000000
namespace Mine
section
variable {prog : Program} {w : World} {A : Around} {E : Value → Shared → Prop} {s : Shared} {X : PySem.Str} {t u : Tok} {Q : Value → Shared → Prop}
theorem modU (hX : X.length ≤ 100) (h : ∀ t' k, Q (.str (Str.ofString "missing " ++ X ++ Str.ofString ", unterminated name") t') { s with toks := k }) :
    wpAny (model prog w) A (binaryOp .Mod (.str (Str.ofString "missing %s, unterminated name") t) (.str X u)) Q E s := by
  refine' KPc.mod_str ?kpcF ?kpcl ?kpcm ?_
  case kpcF => kpc_eq
  case kpcl => kpc_size
  case kpcm => kpc_run_s
  intro t k
  exact h t k
end
end Mine
end

section
open PySem PySem.W PySem.Calls PySem.Spec PyProof.Rows PySem.Builtin
set_option maxRecDepth 100000
set_option maxHeartbeats 1000000
namespace Mine
open TI
/-- v is a new exception of the class C, and what follows takes it -/
def RaisesPe (C : Addr) (E : Value → Shared → Prop) (v : Value) (s₁ : Shared) : Prop := ∃ e dx a0 c2 c3 b4 c5 nm q N bs bm hdct sn sub ab col dd k0 k1 k2 k3 k5 newId, v = .ref e ∧ s₁.heap.get? C = some (excClassObj nm q C N bs bm hdct sn sub ab col dd k0 k1 k2 k3 k5 newId) ∧ bm.contains (.type "BaseException") = true ∧
      s₁.heap.get? e = some (peO C dx a0 .none c2 c3 b4 c5) ∧ E (.ref e) s₁
/-- the dict and the words of a PatternError -/
def IsPe2 (P : Params) (msg : Str) (pat : Value) (l : List Nat) (pos : Int) (d t : Addr) (o2 : List (Addr × Obj)) : Prop :=
  ∃ k1 k2 k3 k4 k5 tm tp tl tc tw, o2 = [(d, peD P k1 k2 k3 k4 k5 (.str msg tm) pat (.int pos tp) (.int (peLine l pos) tl) (.int (peCol l pos) tc)), (t, ({ cls := .type "tuple", data := .seq #[.str (peWords msg l pos) tw] } : Obj))]
theorem IsPe.split {P : Params} {C : Addr} {msg : Str} {pat : Value} {l : List Nat} {pos : Int} {e d t : Addr} {o3 : List (Addr × Obj)} (h : IsPe P C msg pat l pos e d t o3) : ∃ o2, IsPe2 P msg pat l pos d t o2 ∧ o3 = (e, peO C d (.ref t) .none .none .none (.bool false) .none) :: o2 ∧ (∀ q ∈ o2, q.1 = d ∨ q.1 = t) := by
  obtain ⟨k1, k2, k3, k4, k5, tm, tp, tl, tc, tw, rfl⟩ := h
  refine ⟨_, ⟨k1, k2, k3, k4, k5, tm, tp, tl, tc, tw, rfl⟩, rfl, fun q hq => ?_⟩
  simp only [List.mem_cons, List.not_mem_nil, or_false] at hq
  rcases hq with rfl | rfl
  · exact .inl rfl
  · exact .inr rfl
section
variable {prog : Program} {w : World} {A : Around} {E E1 : Value → Shared → Prop} {s : Shared} {env : Env} {C e d t L L' a : Addr} {base : Heap} {m m' : Str → Option Value}
theorem exec_raise_pe {exc : Expr} {pos : Pos} {Q : Flow → Shared → Prop} (hh : A.handled = none) (h : wpAny (model prog w) A (eval exc env) (RaisesPe C E) E s) : wpAny (model prog w) A (exec (.Raise (some exc) none pos) env) Q E s := by
  rw [arm_exec_Raise]
  refine wpAny_bind (wpAny_standAt ?_)
  exact raise_plain (C := C) hh (wpAny_bind (wpAny_mono h (fun v s₁ h₁ => wpAny_bind (wpAny_standAt (wpAny_pure h₁))) fun _ _ z => z))

theorem raise_out {P : Params} {msg : Str} {pat : Value} {lst : List Nat} {pos : Int} {o3 mid frs : List (Addr × Obj)} {l : List Env} {ev : Env} {name : Str} {scope : Scope} {cd : Value} {oL : Obj} {sl : Array (Option Value)} {Ee : Value → Value → Shared → Prop} {K : Frag} {nm q : Str} {Ns : Addr} {bs : List Value} {hdct : Bool} {sn : List Str} {sub : List Value} {ab : Bool} {col : Option Bool} {dd : Option Addr} {k0 k1 k2 k3 k5 : Option Value}
    (hC : K.lookup C = some (excClassObj nm q C Ns bs [.type "Exception", .type "BaseException", .type "object"] hdct sn sub ab col dd k0 k1 k2 k3 k5 "Exception.__new__")) (X : K.In base)
    (pe : IsPe P C msg pat lst pos e d t o3) (F : Fr base L' s.heap m') (N : News base L' s.heap (o3 ++ (mid ++ ((L, { oL with slots := sl }) :: frs)))) (Cl : Caller base L m oL)
    (l1 : ∀ q ∈ mid ++ ((L, { oL with slots := sl }) :: frs), q.1 ≠ e ∧ q.1 ≠ d ∧ q.1 ≠ t) (l2 : e ≠ d) (l3 : e ≠ t) (l4 : d ≠ t)
    (hA : A.frames = some (envOf name scope L' a cd :: ev :: l)) (hk : scope.kind = .function) (Fs : Frs (ev :: l) ((L, { oL with slots := sl }) :: frs))
    (hmid : ∀ q ∈ mid, q.1 ∉ ((L, { oL with slots := sl }) :: frs).map (·.1)) (hLf : ∀ q ∈ mid ++ frs, q.1 ≠ L)
    (hE : ∀ h' frs' T oT oe o2, SameUp frs frs' → Frs l frs' → Fr base L h' m → News base L h' ((T, oT) :: (e, oe) :: ((o2 ++ mid) ++ frs')) → IsPe2 P msg pat lst pos d t o2 → ExcAt oe oT (.ref C) (some d) (.ref t) .none T .none →
      (∀ q ∈ (o2 ++ mid) ++ frs', q.1 ≠ e ∧ q.1 ≠ T) → T ≠ e → (∀ q ∈ o2, q.1 = d ∨ q.1 = t) → (∀ q ∈ mid ++ frs', q.1 ≠ d ∧ q.1 ≠ t) → E1 (.ref e) { s with heap := h' }) :
    RaisesPe C (fun e s' => wpAny (model prog w) A (leaving (envOf name scope L' a cd) e) (fun _ s'' => E1 e s'') (Ee e) s') (.ref e) s := by
  obtain ⟨o2, p2, rfl, ho2⟩ := pe.split
  have N' : News base L' s.heap ((e, peO C d (.ref t) .none .none .none (.bool false) .none) :: ((o2 ++ mid) ++ ((L, { oL with slots := sl }) :: frs))) := fun q hq => N q (by simp only [List.mem_cons, List.mem_append, List.cons_append] at hq ⊢; grind)
  have l5 : ∀ q ∈ o2, ∀ r ∈ mid ++ ((L, { oL with slots := sl }) :: frs), q.1 ≠ r.1 := fun q hq r hr z => by
    rcases ho2 q hq with h | h
    · exact (l1 r hr).2.1 (by rw [← z, h])
    · exact (l1 r hr).2.2 (by rw [← z, h])
  have l6 : ∀ q ∈ o2, q.1 ≠ e := fun q hq z => by
    rcases ho2 q hq with h | h
    · exact l2 (by rw [← z, h])
    · exact l3 (by rw [← z, h])
  have hap : ∀ q ∈ o2 ++ mid, q.1 ≠ e ∧ q.1 ∉ ((L, { oL with slots := sl }) :: frs).map (·.1) := fun q hq => by
    rcases List.mem_append.mp hq with hq | hq
    · refine ⟨l6 q hq, fun hm => ?_⟩
      obtain ⟨r, hr, z⟩ := List.mem_map.mp hm
      exact l5 q hq r (List.mem_append_right _ hr) z.symm
    · exact ⟨(l1 q (List.mem_append_left _ hq)).1, hmid q hq⟩
  have hef : e ∉ ((L, { oL with slots := sl }) :: frs).map (·.1) := fun hm => by
    obtain ⟨r, hr, z⟩ := List.mem_map.mp hm
    exact (l1 r (List.mem_append_right _ hr)).1 z
  have hLe : L ≠ e ∧ L ≠ d ∧ L ≠ t := l1 (L, { oL with slots := sl }) (List.mem_append_right _ List.mem_cons_self)
  refine ⟨e, d, .ref t, .none, .none, .bool false, .none, nm, q, Ns, bs, _, hdct, sn, sub, ab, col, dd, k0, k1, k2, k3, k5, _, rfl, X.keeps F.keep _ _ hC, by decide, (N' _ List.mem_cons_self).1, ?_⟩
  refine leaveE1 hA hk Fs F N' hap hef rfl rfl rfl rfl rfl rfl fun h' frs' T oT oe' SU Fs' F' N₂ lt X' => ?_
  obtain ⟨sl', qs, rfl, SU'⟩ := sameUp_cons SU
  have ltE : ∀ q ∈ (o2 ++ mid) ++ ((L, { oL with slots := sl }) :: frs), q.1 ≠ T := fun q hq => lt_apart lt q (List.mem_cons_of_mem _ hq)
  have hTe : T ≠ e := Ne.symm (lt_apart lt _ List.mem_cons_self)
  have hTL : T ≠ L := Ne.symm (ltE (L, { oL with slots := sl }) (List.mem_append_right _ List.mem_cons_self))
  have up : ∀ q ∈ qs, ∃ r ∈ frs, q.1 = r.1 := SU'.fwd
  refine hE h' qs T oT oe' o2 SU' Fs'.2.2.2 (backM (sl := sl') Cl F' N₂ ?_) (backN N₂ ?_ ?_) p2 X' ?_ hTe ho2 ?_
  · simp
  · intro q hq; simp only [List.mem_cons, List.mem_append] at hq ⊢; grind
  · intro q hq
    rcases List.mem_cons.mp hq with rfl | hq
    · exact hTL
    rcases List.mem_cons.mp hq with rfl | hq
    · exact hLe.1.symm
    rcases List.mem_append.mp hq with hq | hq
    · rcases List.mem_append.mp hq with hq | hq
      · exact l5 q hq (L, { oL with slots := sl }) (List.mem_append_right _ List.mem_cons_self)
      · exact hLf q (List.mem_append_left _ hq)
    · obtain ⟨r, hr, z⟩ := up q hq
      rw [z]; exact hLf r (List.mem_append_right _ hr)
  · intro q hq
    rcases List.mem_append.mp hq with hq | hq
    · exact ⟨(hap q hq).1, ltE q (List.mem_append_left _ hq)⟩
    · obtain ⟨r, hr, z⟩ := up q hq
      rw [z]
      exact ⟨(l1 r (List.mem_append_right _ (List.mem_cons_of_mem _ hr))).1, ltE r (List.mem_append_right _ (List.mem_cons_of_mem _ hr))⟩
  · intro q hq
    rcases List.mem_append.mp hq with hq | hq
    · exact (l1 q (List.mem_append_left _ hq)).2
    · obtain ⟨r, hr, z⟩ := up q hq
      rw [z]
      exact (l1 r (List.mem_append_right _ (List.mem_cons_of_mem _ hr))).2
end
theorem ff {x dx L : Addr} {oL : Obj} {new frs frs' : List (Addr × Obj)} (hdx : ∀ q ∈ new ++ frs, q.1 ≠ dx) (hxf : ∀ q ∈ frs, q.1 ≠ x) (hap : ∀ q ∈ new, q.1 ∉ frs.map (·.1)) (hLd : L ≠ dx) (hLx : L ≠ x) (hnL : ∀ q ∈ new ++ frs, q.1 ≠ L) (SU : SameUp frs frs') :
    (∀ q ∈ new ++ ((L, oL) :: frs'), q.1 ≠ dx) ∧ (∀ q ∈ (L, oL) :: frs', q.1 ≠ x) ∧ (∀ q ∈ new, q.1 ∉ ((L, oL) :: frs').map (·.1)) := by
  refine ⟨fun q hq => ?_, fun q hq => ?_, fun q hq hm => ?_⟩
  · rcases List.mem_append.mp hq with hq | hq
    · exact hdx q (List.mem_append_left _ hq)
    rcases List.mem_cons.mp hq with rfl | hq
    · exact hLd
    obtain ⟨r, hr, z⟩ := SU.fwd q hq
    rw [z]; exact hdx r (List.mem_append_right _ hr)
  · rcases List.mem_cons.mp hq with rfl | hq
    · exact hLx
    obtain ⟨r, hr, z⟩ := SU.fwd q hq
    rw [z]; exact hxf r hr
  · obtain ⟨r, hr, z⟩ := List.mem_map.mp hm
    rcases List.mem_cons.mp hr with rfl | hr
    · exact hnL q (List.mem_append_left _ hq) z.symm
    obtain ⟨r', hr', z'⟩ := SU.fwd r hr
    exact hap q hq (by rw [← z, z']; exact List.mem_map_of_mem hr')
theorem ffmid {x dx L : Addr} {oL ox od : Obj} {new frs' : List (Addr × Obj)} (h1 : ∀ q ∈ new ++ ((L, oL) :: frs'), q.1 ≠ dx) (h2 : ∀ q ∈ (L, oL) :: frs', q.1 ≠ x) (h3 : ∀ q ∈ new, q.1 ∉ ((L, oL) :: frs').map (·.1)) :
    ∀ q ∈ (x, ox) :: (dx, od) :: new, q.1 ∉ ((L, oL) :: frs').map (·.1) := by
  intro q hq hm
  obtain ⟨r, hr, z⟩ := List.mem_map.mp hm
  rcases List.mem_cons.mp hq with rfl | hq
  · exact h2 r hr z
  rcases List.mem_cons.mp hq with rfl | hq
  · exact h1 r (List.mem_append_right _ hr) z
  exact h3 q hq hm
theorem ffL {x dx L : Addr} {ox od : Obj} {new frs frs' : List (Addr × Obj)} (hLd : L ≠ dx) (hLx : L ≠ x) (hnL : ∀ q ∈ new ++ frs, q.1 ≠ L) (SU : SameUp frs frs') : ∀ q ∈ ((x, ox) :: (dx, od) :: new) ++ frs', q.1 ≠ L := by
  intro q hq
  rcases List.mem_append.mp hq with hq | hq
  · rcases List.mem_cons.mp hq with rfl | hq
    · exact hLx.symm
    rcases List.mem_cons.mp hq with rfl | hq
    · exact hLd.symm
    exact hnL q (List.mem_append_left _ hq)
  · obtain ⟨r, hr, z⟩ := SU.fwd q hq
    rw [z]; exact hnL r (List.mem_append_right _ hr)
theorem cat_zero {pre : List Str} (h : ∀ z ∈ pre, 1 ≤ z.length) (h0 : (cat pre).length = 0) : pre = [] := by
  cases pre with
  | nil => rfl
  | cons y r =>
    rw [cat_len] at h0
    have := h y List.mem_cons_self
    simp only [List.map_cons, List.sum_cons] at h0
    omega
theorem canon2 {a c y : Str} {pre : List Str} {t : Tok} {v0 u u0 : Option Value} {M0 : Str → Option Value} : (fun z => if z = a then some (.str (cat pre ++ y) t) else if z = c then u else if z = a then v0 else if z = c then u0 else M0 z) = (fun z => if z = a then some (.str (cat (pre ++ [y])) t) else if z = c then u else M0 z) := by
  rw [cat_snoc]; exact canon1
/-- «str(b, 'latin1')» gives D -/
def LatTo (b : Array UInt8) (D : Str) : Prop := ∀ (prog : Program) (w : World) (A : Around) (E : Value → Shared → Prop) (s : Shared) (Q : Value → Shared → Prop) (t t1 : Tok),
  (∀ t' k, Q (.str D t') { s with toks := k }) → wpAny (model prog w) A (call (.type "str") [.bytes b t, .str (Str.ofString "latin1") t1]) Q E s
theorem lat_go {prog : Program} {w : World} {A : Around} {E : Value → Shared → Prop} {s : Shared} {Q : Value → Shared → Prop} {D : Str} {b : Array UInt8} {t t1 : Tok} (x : LatTo b D) (h : ∀ t' k, Q (.str D t') { s with toks := k }) : wpAny (model prog w) A (call (.type "str") [.bytes b t, .str (Str.ofString "latin1") t1]) Q E s := x _ _ _ _ _ _ _ _ h
end Mine
end

section
open PySem PySem.W PySem.Calls PySem.Spec PyProof.Rows PySem.Builtin
set_option maxRecDepth 100000
set_option maxHeartbeats 1000000
namespace Mine
/-- how a turn of a loop over a list of the ledger ends: the ledger may have grown -/
def TurnG (h₀ : Heap) (L I : Addr) (oI : Obj) (p₀ : Addr × Obj) (Jn : (Str → Option Value) → List (Addr × Obj) → Prop) (s₁ : Shared) (Q : Flow → Shared → Prop) (f : Flow) (s₂ : Shared) : Prop :=
  match f with
  | .ret v => Q (.ret v) s₂
  | .brk => Q .next s₂
  | _ => ∃ h' tk m₂ news₂, s₂ = { s₁ with heap := h', toks := tk } ∧ Fr h₀ L h' m₂ ∧ News h₀ L h' ((I, oI) :: news₂) ∧ (∀ p ∈ news₂, p.1 ≠ I) ∧ p₀ ∈ news₂ ∧ Jn m₂ news₂
section
variable {prog : Program} {w : World} {A : Around} {s : Shared} {env : Env} {h₀ : Heap} {E : Value → Shared → Prop} {Q : Flow → Shared → Prop} {x : Str} {body : List Stmt}
theorem iter_grow {l : Addr} {vs : List Value} {nn : Nat} {m₀ : Str → Option Value} {news : List (Addr × Obj)} (J : Nat → (Str → Option Value) → List (Addr × Obj) → Prop)
    (hh : A.handled = none) (hl : (l, W.listOf vs.toArray nn) ∈ news) (F : Fr h₀ env.locals s.heap m₀) (N : News h₀ env.locals s.heap news) (hj : J 0 m₀ news)
    (turn : ∀ i v m₁ news₁ h tk I oI, vs[i]? = some v → (l, W.listOf vs.toArray nn) ∈ news₁ → J i m₁ news₁ → (∀ p ∈ news₁, p.1 ≠ I) → Fr h₀ env.locals h (fun y => if y = x then some v else m₁ y) → News h₀ env.locals h ((I, oI) :: news₁) →
      wpAny (model prog w) A (execs body env) (TurnG h₀ env.locals I oI (l, W.listOf vs.toArray nn) (J (i + 1)) { s with heap := h, toks := tk } Q) E { s with heap := h, toks := tk })
    (done : ∀ m₁ news₁ h tk, J vs.length m₁ news₁ → Fr h₀ env.locals h m₁ → News h₀ env.locals h news₁ → Q .next { s with heap := h, toks := tk }) :
    wpAny (model prog w) A (pyIter (.ref l)) (fun it s₂ => LoopAtV prog w A h₀ env x body Q E it s₂) E s := by
  have hol : s.heap.get? l = some (W.listOf vs.toArray nn) := (N _ hl).1
  have hls : s.heap.IsList l vs.toArray := ⟨_, hol, rfl, nn, rfl⟩
  have hne : l ≠ s.heap.objs.size := Nat.ne_of_lt (Heap.lt_size hol)
  refine wpAny_pyIter_list hls ?_
  have Wk := Walks.list (prog := prog) (w := w) hh s.heap.objs.size l hne vs.toArray
  have hlen : vs.toArray.size = vs.length := by simp
  rw [hlen] at Wk
  refine ⟨_, _, _, vs.length, _, _, m₀, news, (fun i m nx => (l, W.listOf vs.toArray nn) ∈ nx ∧ J i m nx), rfl, Wk, ?_, ?_, ?_, ⟨⟨_, Heap.get?_push_size _ rfl, rfl, rfl⟩, hls.at fun o e => Heap.get?_push_of_some _ e⟩, F.push _, (fun p hp => ⟨Heap.get?_push_of_some _ (N p hp).1, (N p hp).2⟩), ⟨hl, hj⟩, ?_, ?_⟩
  · intro hm
    rcases List.mem_cons.mp hm with e | hm
    · exact absurd F.ns.lt (e ▸ Nat.lt_irrefl _)
    · exact (N _ hl).2.1 (List.mem_singleton.mp hm).symm
  · intro b hb
    rw [List.mem_singleton.mp hb]
    exact next_is_new F
  · intro p hp hI
    exact absurd (Heap.lt_size (N p hp).1) ((List.mem_singleton.mp hI) ▸ Nat.lt_irrefl _)
  · rintro i v m₁ news₁ s₁ own ⟨hh', tk', rfl⟩ hin hP ⟨hlm, hJ⟩ hoff hown hget hall hst F₁ N₁
    have hv : vs[i]? = some v := by simpa using hP
    obtain ⟨oI, hoI, _⟩ := hst.1
    have hIb : h₀.get? s.heap.objs.size = none := next_is_new F
    have hIown := hall s.heap.objs.size (by simp) hIb oI hoI
    have NI : News h₀ env.locals hh' ((s.heap.objs.size, oI) :: news₁) := fun p hp => by
      rcases List.mem_cons.mp hp with rfl | hp
      · exact N₁ _ (List.mem_append_left _ hIown)
      · exact N₁ _ (List.mem_append_right _ hp)
    have hoff' : ∀ p ∈ news₁, p.1 ≠ s.heap.objs.size := fun p hp e => hoff p hp (by rw [e]; exact List.mem_singleton_self _)
    refine wpAny_mono (turn i v m₁ news₁ hh' tk' s.heap.objs.size oI hv hlm hJ hoff' F₁ NI) (fun f s₂ p => ?_) fun _ _ e => e
    have fin : (∃ h' tk m₂ news₂, s₂ = { ({ s with heap := hh', toks := tk' } : Shared) with heap := h', toks := tk } ∧ Fr h₀ env.locals h' m₂ ∧ News h₀ env.locals h' ((s.heap.objs.size, oI) :: news₂) ∧ (∀ p ∈ news₂, p.1 ≠ s.heap.objs.size) ∧ (l, W.listOf vs.toArray nn) ∈ news₂ ∧ J (i + 1) m₂ news₂) →
        LoopStepU h₀ env.locals [s.heap.objs.size] own (fun m nx => (l, W.listOf vs.toArray nn) ∈ nx ∧ J (i + 1) m nx) { s with heap := hh', toks := tk' } .next s₂ := by
      rintro ⟨h', tk, m₂, news₂, rfl, F₂, N₂, ho, hm, hJ₂⟩
      refine ⟨rfl, h', tk, m₂, news₂, rfl, F₂, fun q hq => ?_, fun q hq hb => ho q hq (List.mem_singleton.mp hb), hm, hJ₂⟩
      rcases List.mem_append.mp hq with hq | hq
      · rcases List.mem_cons.mp (hown q hq) with h1 | h1
        · have h2 := hget q hq
          rw [h1] at h2
          have h3 : q.2 = oI := by
            have : (some q.2) = some oI := h2.symm.trans hoI
            exact Option.some.inj this
          have : q = (s.heap.objs.size, oI) := Prod.ext h1 h3
          rw [this]; exact N₂ _ List.mem_cons_self
        · have h1 := List.mem_singleton.mp h1
          have h2 := hget q hq
          rw [h1] at h2
          have h4 := (N₁ _ (List.mem_append_right _ hlm)).1
          have h3 : q.2 = W.listOf vs.toArray nn := Option.some.inj (h2.symm.trans h4)
          have : q = (l, W.listOf vs.toArray nn) := Prod.ext h1 h3
          rw [this]; exact N₂ _ (List.mem_cons_of_mem _ hm)
      · exact N₂ _ (List.mem_cons_of_mem _ hq)
    cases f with
    | ret v => exact p
    | brk => exact p
    | next => exact fin p
    | cont => exact fin p
  · intro h' tk m' news' F' N' hoff ⟨_, hJ⟩
    exact done m' news' h' tk hJ F' N'
end
end Mine
end

section
open PySem PySem.W PySem.Calls PySem.Spec PyProof.Rows PySem.Builtin
set_option maxRecDepth 100000
set_option maxHeartbeats 1000000
namespace Mine
section
variable {prog : Program} {w : World} {A : Around} {E : Value → Shared → Prop} {s : Shared} {value slice : PySem.Expr} {l L : Addr} {h₀ : Heap} {news : List (Addr × Obj)} {vs : List Value} {ws : List Str} {n : Nat} {i z k : Int} {u : Tok} {Q : Value → Shared → Prop}
theorem str_item (N : News h₀ L s.heap news) (hm : (l, W.listOf vs.toArray n) ∈ news) (hw : StrsAre vs ws) (h0 : 0 ≤ i) (h1 : i < (ws.length : Int)) (h2 : ws.length ≤ 1000) (h : ∀ t', Q (.str (ws.getD i.toNat PySem.Str.empty) t') s)
    (hs : subscripted slice false (.ref l) (.int i u) = operate [.ref l, .int i u] (getItem (.ref l) (.int i u)) := by with_unfolding_all rfl) :
    wpAny (model prog w) A (subscriptTail value slice (.ref l) (.int i u)) Q E s :=
  KTb.item_list ⟨_, (N _ hm).1, rfl, n, rfl⟩ hw h0 h1 (by omega) (fun t _ => h t) hs
theorem str_fmod (N : News h₀ L s.heap news) (hm : (l, W.listOf vs.toArray n) ∈ news) (hw : StrsAre vs ws) (hk : (0 : Int) < k) (h1 : (ws.length : Int) = k) (h2 : ws.length ≤ 1000) (h : ∀ t', Q (.str (ws.getD (z.fmod k).toNat PySem.Str.empty) t') s)
    (hs : subscripted slice false (.ref l) (.int (z.fmod k) u) = operate [.ref l, .int (z.fmod k) u] (getItem (.ref l) (.int (z.fmod k) u)) := by with_unfolding_all rfl) :
    wpAny (model prog w) A (subscriptTail value slice (.ref l) (.int (z.fmod k) u)) Q E s :=
  str_item N hm hw (Int.fmod_nonneg_of_pos _ hk) (by rw [h1]; exact Int.fmod_lt_of_pos _ hk) h2 h hs
theorem len_at {its : Array Value} (N : News h₀ L s.heap news) (hm : (l, W.listOf its n) ∈ news) (hsz : its.size ≤ 16777216) (h : ∀ t k, Q (.int its.size t) { s with toks := k }) : wpAny (model prog w) A (call (.builtin "len") [.ref l]) Q E s :=
  call_len_list ⟨_, (N _ hm).1, rfl, n, rfl⟩ (by omega) (h _ _)
theorem str_itemE {X : Str} (N : News h₀ L s.heap news) (hm : (l, W.listOf vs.toArray n) ∈ news) (hw : StrsAre vs ws) (h0 : 0 ≤ i) (h1 : i < (ws.length : Int)) (h2 : ws.length ≤ 1000) (e : ws.getD i.toNat PySem.Str.empty = X) (h : ∀ t', Q (.str X t') s)
    (hs : subscripted slice false (.ref l) (.int i u) = operate [.ref l, .int i u] (getItem (.ref l) (.int i u)) := by with_unfolding_all rfl) :
    wpAny (model prog w) A (subscriptTail value slice (.ref l) (.int i u)) Q E s :=
  str_item N hm hw h0 h1 h2 (fun t => by rw [e]; exact h t) hs
end
end Mine
end

section
open PySem PySem.W PySem.Calls PySem.Spec PyProof.Rows PySem.Builtin
set_option maxRecDepth 100000
set_option maxHeartbeats 1000000
namespace Mine
/-- the numbers of a text's signs -/
def codes (x : Str) : List Int := x.cps.toList.map Int.ofNat
section
variable {prog : Program} {w : World} {A : Around} {E : Value → Shared → Prop} {s : Shared} {h₀ : Heap} {L : Addr} {m mg mb : Str → Option Value} {env : Env} {K : Frag} {p : Program} {loose : List Str} {mean : ExcName → Option Value} {news : List (Addr × Obj)}
/-- a list comprehension over the signs of a text -/
theorem comp_text {elt iter : Expr} {x : Str} {px : Pos} {scope : Scope} {cl : List (Str × Addr)} {pos : Pos} {Q : Value → Shared → Prop} {X : Str} {t : Tok}
    (_F₀ : Fr h₀ L s.heap m) (hclos : closureFor scope env = pure cl) (hcell : ∀ y ∈ scope.names, y.2 ≠ .cell) (hkind : scope.kind = .function)
    (hnames : ∀ y ∈ scope.names, y.2 = .local → scope.names.lookup y.1 = some .local) (hx : scope.names.lookup x = some .local)
    (hh : A.handled = none) (hsz : X.cps.size ≤ sizeLine)
    (h : wpAny (model prog w) A (eval iter env) (fun v s₁ => v = .str X t ∧ Fr h₀ L s₁.heap m ∧ News h₀ L s₁.heap news ∧
      ∀ s₂ : Shared, (∃ h, s₂ = { s₁ with heap := h }) → LCg.CompRest prog w A h₀ L m env elt x scope cl s₂ (fun _ => True) (SignAt X) (LCg.FinE h₀ L m s₂ Q) X.cps.size 0 [] news) E s)
    (hs : ∀ x, foldedSetIterable iter env x = pure x := by intro _; rfl) :
    wpAny (model prog w) A (eval (.ListComp elt [⟨.Name x px, iter, [], 0⟩] scope pos) env) Q E s := by
  rw [eval_ListComp]
  refine wpAny_comprehension_free (use := none) rfl hs hclos hkind hnames (wpAny_mono h (fun xv s₁ h₁ => ?_) fun _ _ e => e)
  obtain ⟨rfl, F, N, R⟩ := h₁
  have st1 : ∀ {T : String} i (h h' : Heap) (o : Obj) (nw : List (Addr × Obj)), h.IsStrIter s₁.heap.objs.size T X t i → h.get? s₁.heap.objs.size = some o → h'.get? s₁.heap.objs.size = some o → (∀ b o, h₀.get? b = some o → h'.get? b = some o) → News h₀ L h' nw → True → h'.IsStrIter s₁.heap.objs.size T X t i :=
    fun i h h' o nw st e e' _ _ _ => by obtain ⟨o', q, r⟩ := st; rw [e] at q; cases q; exact ⟨o, e', r⟩
  cases ha : X.cps.all (· < 128)
  · refine wpAny_pyIter_wide ha ?_
    refine LCg.block_U (Walks.strWide hh s₁.heap.objs.size X t) hsz (fun i h st => by obtain ⟨o, e, _⟩ := st; exact ⟨o, e⟩) st1 hcell hkind hx ⟨_, Heap.get?_push_size _ rfl, rfl, rfl⟩ (fun b hb => ?_)
      (F.keeps fun _ _ e => Heap.get?_push_of_some _ e) (N.grown fun _ _ e => Heap.get?_push_of_some _ e) (Nat.ne_of_lt F.ns.lt) (next_is_new F) (fun p hp => Nat.ne_of_lt (Heap.lt_size (N p hp).1)) trivial (R _ ⟨_, rfl⟩) ?_
    · rw [List.mem_singleton.mp hb]
      show s₁.heap.objs.size < (s₁.heap.push _).objs.size
      rw [Heap.size_push]; exact Nat.lt_succ_self _
    · intro D C h' tk m' ys news' F' N' o1 hn hC₀ hD₀ hCL hDL hCD offC fin
      refine ⟨m', hn, fun h'' hs'' => fin D h'' tk (F'.change hs'' hCL hC₀) (fun p hp => ?_) o1⟩
      refine ⟨hs''.extBut _ _ ?_ (N' p hp).1, (N' p hp).2⟩
      rcases List.mem_cons.mp hp with rfl | hp
      · exact Ne.symm hCD
      · exact offC p hp
  · refine wpAny_pyIter_ascii ha ?_
    refine LCg.block_U (Walks.strAscii hh s₁.heap.objs.size X t) hsz (fun i h st => by obtain ⟨o, e, _⟩ := st; exact ⟨o, e⟩) st1 hcell hkind hx ⟨_, Heap.get?_push_size _ rfl, rfl, rfl⟩ (fun b hb => ?_)
      (F.keeps fun _ _ e => Heap.get?_push_of_some _ e) (N.grown fun _ _ e => Heap.get?_push_of_some _ e) (Nat.ne_of_lt F.ns.lt) (next_is_new F) (fun p hp => Nat.ne_of_lt (Heap.lt_size (N p hp).1)) trivial (R _ ⟨_, rfl⟩) ?_
    · rw [List.mem_singleton.mp hb]
      show s₁.heap.objs.size < (s₁.heap.push _).objs.size
      rw [Heap.size_push]; exact Nat.lt_succ_self _
    · intro D C h' tk m' ys news' F' N' o1 hn hC₀ hD₀ hCL hDL hCD offC fin
      refine ⟨m', hn, fun h'' hs'' => fin D h'' tk (F'.change hs'' hCL hC₀) (fun p hp => ?_) o1⟩
      refine ⟨hs''.extBut _ _ ?_ (N' p hp).1, (N' p hp).2⟩
      rcases List.mem_cons.mp hp with rfl | hp
      · exact Ne.symm hCD
      · exact offC p hp
end
end Mine
end

section
open PySem PySem.W PySem.Calls PySem.Spec PyProof.Rows PySem.Builtin
set_option maxRecDepth 100000
set_option maxHeartbeats 1000000
namespace Mine
theorem split_ne (x y : Str) : Txt.split x y ≠ [] := by
  unfold Txt.split
  split
  · simp
  · split
    · simp
    · rw [StrLaws.partsBetween_eq]
      obtain ⟨p, q, e⟩ := StrLaws.partsFrom_ne x y.length 0 (Builtin.Str.occurrences x y 0 x.length (x.length + 1))
      rw [e]; simp
theorem last_facts (c : Nat) : ∀ ps : List Str, ps ≠ [] → (∀ p ∈ ps, c ∉ p.cps.toList) →
    (Str.join (one c) ps).cps.toList.count c + 1 = ps.length ∧ lastIx c (Str.join (one c) ps).cps.toList = ((Str.join (one c) ps).cps.toList.length : Int) - 1 - ((ps.getLastD Str.empty).length : Int)
  | [], h, _ => absurd rfl h
  | [p], _, hp => by
    have h := hp p List.mem_cons_self
    have e : (Str.join (one c) [p]) = p := rfl
    rw [e]
    refine ⟨by rw [List.count_eq_zero.mpr h]; rfl, ?_⟩
    unfold lastIx
    have : p.cps.toList.reverse.takeWhile (· != c) = p.cps.toList.reverse := by
      have tw : ∀ l : List Nat, c ∉ l → l.takeWhile (· != c) = l := by
        intro l hl
        induction l with
        | nil => rfl
        | cons a r ih =>
          have ha : a ≠ c := fun z => hl (by rw [z]; exact List.mem_cons_self)
          rw [List.takeWhile_cons, if_pos (by simpa using ha), ih (fun z => hl (List.mem_cons_of_mem _ z))]
      exact tw _ (by simpa using h)
    rw [this]
    simp [Str.length]
  | p :: q :: r, _, hp => by
    have ih := last_facts c (q :: r) (by simp) (fun z hz => hp z (List.mem_cons_of_mem _ hz))
    have h := hp p List.mem_cons_self
    have e : (Str.join (one c) (p :: q :: r)).cps.toList = p.cps.toList ++ c :: (Str.join (one c) (q :: r)).cps.toList := by
      show (p ++ one c ++ Str.join (one c) (q :: r)).cps.toList = _
      rw [Str.cps_append, Str.cps_append]
      simp [one]
    rw [e]
    generalize (Str.join (one c) (q :: r)).cps.toList = J at ih
    refine ⟨?_, ?_⟩
    · rw [List.count_append, List.count_cons_self, List.count_eq_zero.mpr h]
      have := ih.1
      simp only [List.length_cons] at this ⊢
      omega
    · have ih2 := ih.2
      have el : (p :: q :: r).getLastD Str.empty = (q :: r).getLastD Str.empty := by simp
      rw [el]
      unfold lastIx at ih2 ⊢
      have hr : (p.cps.toList ++ c :: J).reverse = J.reverse ++ (c :: p.cps.toList.reverse) := by simp
      rw [hr, List.takeWhile_append]
      by_cases hJ : (J.reverse.takeWhile (· != c)).length = J.reverse.length
      · rw [if_pos hJ]
        simp only [List.length_append, List.length_cons, List.takeWhile_cons, bne_self_eq_false] at ih2 hJ ⊢
        simp only [Bool.false_eq_true, if_false, List.length_nil, List.length_reverse] at hJ ⊢
        omega
      · rw [if_neg hJ]
        simp only [List.length_append, List.length_cons]
        omega
/-- the lines of a text: how many, and how long the last one is -/
theorem split_lines (D : Str) : ((Txt.split D (Str.ofString "\n")).length : Int) = peLine D.cps.toList D.length ∧ ((Txt.split D (Str.ofString "\n")).getLastD Str.empty).length + 1 = peCol D.cps.toList D.length := by
  have h := last_facts 10 (Txt.split D (one 10)) (split_ne _ _) (StrLaws.split_free D 10)
  rw [show Str.join (one 10) (Txt.split D (one 10)) = D from StrLaws.join_split D _] at h
  rw [nl_one]
  unfold peLine peCol
  have e : D.cps.toList.take ((D.length : Int).toNat) = D.cps.toList := List.take_of_length_le (by simp [Str.length])
  have l : D.cps.toList.length = D.length := by simp [Str.length]
  rw [e]
  obtain ⟨h1, h2⟩ := h
  rw [l] at h2
  constructor <;> omega
/-- the same at a place p: what stands ahead of it -/
theorem split_at (D : Str) {p : Nat} (hp : p ≤ D.length) {y : Str} (hy : y.cps.toList = D.cps.toList.take p) :
    ((Txt.split y (Str.ofString "\n")).length : Int) = peLine D.cps.toList p ∧ ((Txt.split y (Str.ofString "\n")).getLastD Str.empty).length + 1 = peCol D.cps.toList p := by
  have h := split_lines y
  have l : y.length = p := by
    have := congrArg List.length hy
    have e : y.cps.toList.length = y.length := by simp [Str.length]
    have e2 : D.cps.toList.length = D.length := by simp [Str.length]
    rw [e, List.length_take, e2] at this
    omega
  rw [l] at h
  unfold peLine peCol at h ⊢
  rw [hy, List.take_take] at h
  simp only [Int.toNat_natCast, Nat.min_self] at h ⊢
  exact h
end Mine
end

section
open PySem PySem.W PySem.Calls PySem.Spec PyProof.Rows
set_option maxRecDepth 100000
set_option maxHeartbeats 1000000
namespace Mine
theorem slice_pre (x : Str) {p : Nat} (hp : p ≤ x.length) : (Txt.slice x none (some (p : Int))).cps.toList = x.cps.toList.take p := by
  have e : Txt.slice x none (some (p : Int)) = StrLaws.sliceText x (some ((0 : Nat) : Int)) (some (p : Int)) := by
    unfold Txt.slice StrLaws.sliceText
    rw [StrLaws.sliceIdx_none_lo]
    rfl
  rw [e, StrLaws.sliceText_nat x (Nat.zero_le _) hp]
  simp
section
variable {prog : Program} {w : World} {A : Around} {E : Value → Shared → Prop} {s : Shared} {h₀ : Heap} {L l : Addr} {m : Str → Option Value} {news : List (Addr × Obj)} {x y : Str} {t u : Tok} {Q : Value → Shared → Prop} {value slice : PySem.Expr} {p n : Nat}
theorem cut_to {up : Tok} (hp : p ≤ x.length) (hx : x.length ≤ 10000) (hF : Fr h₀ L s.heap m) (hN : News h₀ L s.heap news) (h : ∀ h' t' k y, Fr h₀ L h' m → News h₀ L h' news → y.cps.toList = x.cps.toList.take p → y.length = p → Q (.str y t') { s with heap := h', toks := k })
    (hs : subscripted slice false (.str x t) (.ref s.heap.objs.size) = operate [.ref s.heap.objs.size, .str x t] (getItem (.str x t) (.ref s.heap.objs.size)) := by with_unfolding_all rfl)
    (ht : ∀ r, letTemporaryGo value (.str x t) r = pure () := by intro _; with_unfolding_all rfl) :
    wpAny (model prog w) A (subscriptTail value slice (.str x t) (.ref s.heap.objs.size)) Q E { s with heap := s.heap.push { cls := .type "slice", data := .fields #[.none, .int (p : Int) up, .none] } } :=
  slice_strN_ns_len hF hN (fun h' t' k F' N' _ => h h' t' k _ F' N' (slice_pre x hp) (by
    have := congrArg List.length (slice_pre x hp)
    rw [List.length_take] at this
    simp only [Array.length_toList] at this
    unfold Str.length at hp ⊢
    omega)) hs ht (by rw [sizeLine_eq]; omega)
/-- the lines of what stands ahead of p -/
theorem split_nl {D : Str} (hp : p ≤ D.length) (hy : y.cps.toList = D.cps.toList.take p) (hl : y.length ≤ 10000) (F : Fr h₀ L s.heap m) (N : News h₀ L s.heap news)
    (h : ∀ Dl h' k (vs : List Value) (last : Str) lt, (vs.toArray.size : Int) = peLine D.cps.toList p → vs.getLast? = some (Value.str last lt) → (last.length : Int) + 1 = peCol D.cps.toList p → Fr h₀ L h' m → News h₀ L h' ((Dl, W.listOf vs.toArray 0) :: news) → (∀ q ∈ news, q.1 < Dl) → Q (.ref Dl) { s with heap := h', toks := k }) :
    wpAny (model prog w) A (call (.builtin "str.split") [.str y t, .str (Str.ofString "\n") u]) Q E s := by
  refine KSpl.split1 F N (by decide) (fun Dl l h' k e a F' N' l1 => ?_) (by rw [sizeLine_eq]; omega)
  have hs := split_at D hp hy
  rw [← e] at hs
  have hlen : (strValues l).length = (l.map (·.1)).length := by rw [strValues]; simp
  have hne : l ≠ [] := fun z => by
    rw [z] at e
    exact split_ne y (Str.ofString "\n") e.symm
  obtain ⟨l', p', rfl⟩ : ∃ l' p', l = l' ++ [p'] := ⟨l.dropLast, l.getLast hne, (List.dropLast_concat_getLast hne).symm⟩
  refine h Dl h' k _ p'.1 p'.2 (by rw [List.size_toArray, hlen]; exact hs.1) (by unfold strValues; simp) (by have := hs.2; simpa using this) F' N' l1
theorem len_atE {its : Array Value} {z : Int} (N : News h₀ L s.heap news) (hm : (l, W.listOf its n) ∈ news) (hz : (its.size : Int) = z) (hsz : z ≤ 16777216) (h : ∀ t k, Q (.int z t) { s with toks := k }) : wpAny (model prog w) A (call (.builtin "len") [.ref l]) Q E s :=
  len_at N hm (by omega) (by rw [hz]; exact h)
theorem item_last {vs : List Value} {v : Value} {k : Int} (N : News h₀ L s.heap news) (hm : (l, W.listOf vs.toArray n) ∈ news) (hv : vs.getLast? = some v) (hk : k = -1) (h : Q v s)
    (hs : subscripted slice false (.ref l) (.int k u) = operate [.ref l, .int k u] (getItem (.ref l) (.int k u)) := by with_unfolding_all rfl) :
    wpAny (model prog w) A (subscriptTail value slice (.ref l) (.int k u)) Q E s := by
  subst hk
  have hl : s.heap.IsList l vs.toArray := ⟨_, (N _ hm).1, rfl, n, rfl⟩
  have hne : vs ≠ [] := fun z => by rw [z] at hv; cases hv
  have hpos : 0 < vs.length := List.length_pos_iff.mpr hne
  refine tail_any hl.typeIs slot_list_getitem.lookup (wpAny_getItem_list_neg hl (by decide) (by simp; omega) (by decide) ?_ h) hs
  rw [List.getLast?_eq_getElem?] at hv
  have e : ((-1 : Int) + (vs.toArray.size : Int)).toNat = vs.length - 1 := by rw [List.size_toArray, Int.add_comm]; exact Int.toNat_sub vs.length 1
  rw [e]
  simpa using hv
theorem in_nl {D : Str} {b : Bool} (hb : D.cps.toList.contains 10 = b) (h : Q (.bool b) s) : wpAny (model prog w) A (compareOp .In (.str (Str.ofString "\n") t) (.str D u)) Q E s := by
  refine in_str ?_
  rw [occ_nl, Bool.not_not, hb]; exact h
theorem len_str (hx : x.length ≤ 10000) (h : ∀ t' k, Q (.int x.length t') { s with toks := k }) : wpAny (model prog w) A (call (.builtin "len") [.str x t]) Q E s := PySem.P.len_str (by omega) (h _ _)
end
end Mine
end

section
open PySem PySem.W PySem.Calls PySem.Spec PyProof.Rows
set_option maxRecDepth 100000
set_option maxHeartbeats 1000000
namespace Mine
section
variable {prog : Program} {w : World} {A : Around} {E : Value → Shared → Prop} {s : Shared} {K : Frag}
theorem slot_bexc_str : Slot "BaseException" "__str__" "BaseException.__str__" :=
  .of (owner := "BaseException") (n := "__str__") (by rw [typeLookup_type, builtinLookup_eq_fast]; kernel_rfl) (by decide +kernel) (by decide +kernel) (by decide +kernel)
    (by first | exact .inl (by decide +kernel) | exact .inr (by decide +kernel)) (by rw [isSubtype_type]; kernel_rfl)
open Builtin Builtin.BaseException in
/-- «str(e)» of an exception of an own class with one word -/
theorem pe_str {e C t0 : Addr} {oe : Obj} {od : Option Obj} {vs : Array Value} {m : Str} {tk : Tok} {Q : Value → Shared → Prop} (hu : A.in1.in1.units < cLine) (X : K.In s.heap) (I : W.InstAt s.heap e oe C od)
    (hd : oe.data = .fields vs) (h0 : vs[0]? = some (.ref t0)) (ht : s.heap.get? t0 = some ({ cls := .type "tuple", data := .seq #[.str m tk] } : Obj))
    (hs : findIn K (.ref C) "__str__" = some (some (.builtin "BaseException.__str__"))) (hm : mroIn K C (.type "BaseException") = some true) (hq : Q (.str m tk) s) :
    wpAny (model prog w) A (call (.type "str") [.ref e]) Q E s := by
  refine callType_codes (T := "str") (Bi := Builtin.«object.__init__») (Q₁ := fun r s₁ => ∃ y u, r = .str y u ∧ Q r s₁) PySem.F.called_str (PySem.F.typeCall_str_1 _) PySem.F.entry_object_init ?_ ?_
  · refine codeAny_of_tree ?_
    show wpAny _ A.in1.in1 (do checkBuiltinCall "str.__new__" ⟨[.type "str", .ref e], []⟩; again (.builtin "str.__new__" ⟨[.type "str", .ref e], []⟩)) _ _ s
    refine wpAny_bind (wpAny_of_eq (PySem.F.newCall_str_1 _) (wpAny_pure ⟨plainId_quiet (by decide +kernel) _, codeAny_builtin PySem.F.entry_str_new ?_⟩))
    rw [Around.under_plainId (by decide +kernel) _]
    rw [PySem.str_new_tree]
    refine wpAny_bind (wpAny_pure ?_)
    refine wpAny_bind (wpAny_of_eq isSubtype_str_str ?_)
    have body : codeAny (model prog w) A.in1.in1 (.call (.builtin "BaseException.__str__") ⟨[.ref e], []⟩) (fun r s₁ => r = .ok (.ret (.str m tk)) ∧ s₁ = s) s := by
      refine codeAny_call_builtin slot_bexc_str.plain PySem.F.entry_bexc_str (check_slot (i := "BaseException.__str__") (owner := "BaseException") (n := "__str__") (by decide +kernel) (by decide +kernel) (I.type.andThen (looks_mroIn X hm)) (PySem.F.args_bexc_str _) ?_)
      have htd : ({ cls := .type "tuple", data := .seq #[.str m tk] } : Obj).data = .seq #[.str m tk] 0 := rfl
      have ba : ∀ (A' : Around) (Q : Value × List Value → Shared → Prop) (E : Value → Shared → Prop), Q (.ref t0, [.str m tk]) s → wpAny (model prog w) A' (bexcArgs (.ref e)) Q E s := by
        intro A' Q E hq
        unfold bexcArgs
        refine wpAny_bind (wpAny_field I.at_ hd h0 (wpAny_bind (wpAny_seqItems ht rfl ?_)))
        exact wpAny_pure hq
      unfold Builtin.«BaseException.__str__»
      repeat (first | with_reducible refine ba _ _ _ ?_ | wp_step)
      exact ⟨rfl, rfl⟩
    have key : wpAny (model prog w) A.in1.in1 (PySem.Builtin.Str.strOf (.ref e)) (fun r s₁ => ∃ y u, r = .str y u ∧ Q r s₁) E s := by
      unfold PySem.Builtin.Str.strOf
      rw [show PySem.Builtin.Str.isExactStr (.ref e) = false from rfl]
      refine wpAny_bind (m := cRoomFor _ _) (wpAny_cRoomFor hu ?_)
      refine wpAny_bind (m := callSpecial? (.ref e) (Str.ofString "__str__")) (kfo_special X I hs slot_bexc_str.bind (wpAny_call (codeAny_mono body fun r s₁ h => ?_)))
      obtain ⟨rfl, rfl⟩ := h
      exact wpAny_pure ⟨_, _, rfl, hq⟩
    exact wpAny_bind (wpAny_mono key (fun r s₁ hr => wpAny_pure hr) fun _ _ y => y)
  · rintro obj s₁ ⟨y, u, rfl, hq⟩
    exact ⟨typeIs_str _ _ _, PySem.F.args_object_init_2 _ _, object_init_meets PySem.F.called_str.init.lookup PySem.F.called_str.made (by decide) prog w A.in1 _ s₁ ⟨typeIs_str _ _ _, rfl, hq⟩⟩
end
theorem eqg_bytes (b c : Array UInt8) (t u : Tok) : MeetsSeq.EqGives (.bytes b t) (.bytes c u) (b.toList == c.toList) := by
  intro prog w A E s Q h
  unfold eqBool
  refine wpAny_holding ?_
  refine wpAny_ite_split (fun hab => ?_) (fun hab => ?_)
  · have e : b = c := by have := eq_of_beq hab; injection this
    subst e
    exact wpAny_bind (wpAny_rule (wpAny_pure (by simpa using h)))
  · exact wpAny_bind (PySem.richCompare_gives (typeIs_bytes s b t) (typeIs_bytes s c u) FB.slot_bytes_eq FB.entry_bytes_eq (FB.args_bytes_eq_2 _ _) (gives_bytes_eq b c t u) (by simp [Made.takes]) (wpAny_truthy_bool h))
/-- the same datum, whatever its token -/
def SameV : Value → Value → Prop
  | .str x _, .str y _ => x = y
  | .int i _, .int j _ => i = j
  | .bytes b _, .bytes c _ => b = c
  | _, _ => False
theorem SameV.eqg {x y : Value} (h : SameV x y) : MeetsSeq.EqGives x y true := by
  unfold SameV at h
  split at h
  · subst h
    intro prog w A E s Q hq
    exact SeqRoads2.EqGives.str _ _ _ _ prog w A E s Q (by rw [beq_self_eq_true]; exact hq)
  · subst h
    intro prog w A E s Q hq
    exact MeetsSeq.EqGives.int _ _ _ _ prog w A E s Q (by rw [beq_self_eq_true]; exact hq)
  · subst h
    intro prog w A E s Q hq
    exact eqg_bytes _ _ _ _ prog w A E s Q (by rw [beq_self_eq_true]; exact hq)
  · exact h.elim
theorem SameV.str (x : Str) (t u : Tok) : SameV (.str x t) (.str x u) := rfl
theorem SameV.int (i : Int) (t u : Tok) : SameV (.int i t) (.int i u) := rfl
theorem SameV.bytes (b : Array UInt8) (t u : Tok) : SameV (.bytes b t) (.bytes b u) := rfl
inductive AllSame : List Value → List Value → Prop
  | nil : AllSame [] []
  | cons {x y : Value} {xs ys : List Value} : SameV x y → AllSame xs ys → AllSame (x :: xs) (y :: ys)
section
variable {prog : Program} {w : World} {A : Around} {E : Value → Shared → Prop} {s : Shared} {h₀ : Heap} {L a b : Addr} {news : List (Addr × Obj)} {xs ys : List Value} {Q : Value → Shared → Prop}
end
/-- how a turn of a loop over enumerate ends -/
def EnumEnd (h₀ : Heap) (L e it : Addr) (oe oi : Obj) (p₀ : Addr × Obj) (Jn : (Str → Option Value) → List (Addr × Obj) → Prop) (s₀ : Shared) (Q : Flow → Shared → Prop) (f : Flow) (s₂ : Shared) : Prop :=
  match f with
  | .ret v => Q (.ret v) s₂
  | .brk => Q .next s₂
  | _ => ∃ h' tk m₂ news₂, s₂ = { s₀ with heap := h', toks := tk } ∧ Fr h₀ L h' m₂ ∧ News h₀ L h' ((e, oe) :: (it, oi) :: news₂) ∧ (∀ p ∈ news₂, p.1 ≠ e ∧ p.1 ≠ it) ∧ p₀ ∈ news₂ ∧ Jn m₂ news₂
section
variable {prog : Program} {w : World} {A : Around} {s : Shared} {env : Env} {h₀ : Heap} {E : Value → Shared → Prop} {Q : Flow → Shared → Prop} {body : List Stmt}
theorem iter_enum {elts : List Expr} {k : Nat} {pos : Pos} {l : Addr} {vs : List Value} {nn : Nat} {m₀ : Str → Option Value} {news : List (Addr × Obj)} (J : Nat → (Str → Option Value) → List (Addr × Obj) → Prop)
    (hh : A.handled = none) (hl : (l, W.listOf vs.toArray nn) ∈ news) (F : Fr h₀ env.locals s.heap m₀) (N : News h₀ env.locals s.heap news) (hj : J 0 m₀ news)
    (turn : ∀ i v t m₁ news₁ h tk e it oe oi T, vs[i]? = some v → (l, W.listOf vs.toArray nn) ∈ news₁ → J i m₁ news₁ → (∀ p ∈ news₁, p.1 ≠ e ∧ p.1 ≠ it) → IsTup h T #[.int (i : Int) t, v] → Fr h₀ env.locals h m₁ → News h₀ env.locals h ((e, oe) :: (it, oi) :: news₁) →
      wpAny (model prog w) A (assign (.Tuple elts k pos) env (.ref T)) (fun _ s₂ => wpAny (model prog w) A (execs body env) (EnumEnd h₀ env.locals e it oe oi (l, W.listOf vs.toArray nn) (J (i + 1)) s Q) E s₂) E { s with heap := h, toks := tk })
    (done : ∀ m₁ news₁ h tk, J vs.length m₁ news₁ → Fr h₀ env.locals h m₁ → News h₀ env.locals h news₁ → Q .next { s with heap := h, toks := tk }) :
    wpAny (model prog w) A (call (.type "enumerate") [.ref l]) (fun xv s₁ => wpAny (model prog w) A (pyIter xv) (fun it s₂ => TurnsAt prog w A h₀ env (.Tuple elts k pos) body Q E it s₂) E s₁) E s := by
  have hax := N _ hl
  have hls : s.heap.IsList l vs.toArray := ⟨_, hax.1, rfl, nn, rfl⟩
  have hlt : l < s.heap.objs.size := Heap.lt_size hax.1
  have hLs : env.locals < s.heap.objs.size := F.ns.lt
  refine call_enumerate_list hls fun h' hE hI hsz hk => ?_
  refine wpAny_pyIter_enum hE ?_
  have Wk := KTurns.ofWalksU (elts := elts) (k := k) (pos := pos) (WalksT.enumerate (prog := prog) (w := w) hh (s.heap.objs.size + 1) s.heap.objs.size l (Nat.succ_ne_self _) (ktu_ne 1 hlt) (Nat.ne_of_lt hlt) vs.toArray).toU
  refine ⟨_, _, _, _, _, _, _, m₀, news, (fun i m nx => (l, W.listOf vs.toArray nn) ∈ nx ∧ J i m nx), rfl, Wk, ?_, ?_, ?_, ⟨⟨.none, hE⟩, hI, hls.at fun o e => hk l o e⟩, F.keeps hk, N.grown hk, ⟨hl, hj⟩, ?_, ?_⟩
  · intro hI'
    have hb' : env.locals = s.heap.objs.size + 1 ∨ env.locals = s.heap.objs.size ∨ env.locals = l := by simpa using hI'
    rcases hb' with e | e | e
    · exact ktu_ne 1 hLs e
    · exact Nat.ne_of_lt hLs e
    · exact hax.2.1 e.symm
  · intro b hb
    have hb' : b = s.heap.objs.size + 1 ∨ b = s.heap.objs.size := by simpa using hb
    rcases hb' with rfl | rfl
    · exact ktu_new F (Nat.le_add_right _ _)
    · exact ktu_new F (Nat.le_refl _)
  · intro p hp hI'
    have hb' : p.1 = s.heap.objs.size + 1 ∨ p.1 = s.heap.objs.size := by simpa using hI'
    have hlp := Heap.lt_size (N p hp).1
    rcases hb' with e | e
    · exact ktu_ne 1 hlp e
    · exact Nat.ne_of_lt hlp e
  · rintro i v m₁ news₁ h₁ tk₁ own hin ⟨T, vals, rfl, ⟨t, x, hx, rfl⟩, hT⟩ ⟨hlm, hJ⟩ hoff hown hget hall ⟨⟨old, he⟩, ⟨oi, hoi, hic, hid⟩, _⟩ F₁ N₁
    have he' : ∃ oe : Obj, h₁.get? (s.heap.objs.size + 1) = some oe := ⟨_, he⟩
    obtain ⟨oe, hoe⟩ := he'
    have me : (s.heap.objs.size + 1, oe) ∈ own := hall _ (by simp) (ktu_new F (Nat.le_add_right _ _)) oe hoe
    have mi : (s.heap.objs.size, oi) ∈ own := hall _ (by simp) (ktu_new F (Nat.le_refl _)) oi hoi
    have N₂ : News h₀ env.locals h₁ ((s.heap.objs.size + 1, oe) :: (s.heap.objs.size, oi) :: news₁) := fun p hp => by
      rcases List.mem_cons.mp hp with rfl | hp
      · exact N₁ _ (List.mem_append_left _ me)
      rcases List.mem_cons.mp hp with rfl | hp
      · exact N₁ _ (List.mem_append_left _ mi)
      exact N₁ _ (List.mem_append_right _ hp)
    have ho2 : ∀ p ∈ news₁, p.1 ≠ s.heap.objs.size + 1 ∧ p.1 ≠ s.heap.objs.size := fun p hp => ⟨fun z => hoff p hp (by rw [z]; simp), fun z => hoff p hp (by rw [z]; simp)⟩
    refine wpAny_mono (turn i x t m₁ news₁ h₁ tk₁ _ _ oe oi T (by simpa using hx) hlm hJ ho2 hT F₁ N₂) (fun _ s₂ h₂ => wpAny_mono h₂ (fun f s₃ p => ?_) fun _ _ e => e) fun _ _ e => e
    have fin : (∃ h' tk m₂ news₂, s₃ = { s with heap := h', toks := tk } ∧ Fr h₀ env.locals h' m₂ ∧ News h₀ env.locals h' ((s.heap.objs.size + 1, oe) :: (s.heap.objs.size, oi) :: news₂) ∧ (∀ p ∈ news₂, p.1 ≠ s.heap.objs.size + 1 ∧ p.1 ≠ s.heap.objs.size) ∧ (l, W.listOf vs.toArray nn) ∈ news₂ ∧ J (i + 1) m₂ news₂) →
        LoopStepU h₀ env.locals [s.heap.objs.size + 1, s.heap.objs.size] own (fun m nx => (l, W.listOf vs.toArray nn) ∈ nx ∧ J (i + 1) m nx) { ({ s with heap := h', toks := s.toks } : Shared) with heap := h₁, toks := tk₁ } .next s₃ := by
      rintro ⟨h', tk, m₂, news₂, rfl, F₂, N₂, ho, hm, hJ₂⟩
      refine ⟨rfl, h', tk, m₂, news₂, rfl, F₂, fun q hq => ?_, fun q hq hb => ?_, hm, hJ₂⟩
      · rcases List.mem_append.mp hq with hq | hq
        · have hq1 : q.1 = s.heap.objs.size + 1 ∨ q.1 = s.heap.objs.size ∨ q.1 = l := by simpa using hown q hq
          have hg := hget q hq
          rcases hq1 with h1 | h1 | h1
          · rw [h1, hoe] at hg
            have : q = (s.heap.objs.size + 1, oe) := Prod.ext h1 (Option.some.inj hg).symm
            rw [this]; exact N₂ _ List.mem_cons_self
          · rw [h1, hoi] at hg
            have : q = (s.heap.objs.size, oi) := Prod.ext h1 (Option.some.inj hg).symm
            rw [this]; exact N₂ _ (List.mem_cons_of_mem _ List.mem_cons_self)
          · rw [h1, (N₁ _ (List.mem_append_right _ hlm)).1] at hg
            have : q = (l, W.listOf vs.toArray nn) := Prod.ext h1 (Option.some.inj hg).symm
            rw [this]; exact N₂ _ (List.mem_cons_of_mem _ (List.mem_cons_of_mem _ hm))
        · exact N₂ _ (List.mem_cons_of_mem _ (List.mem_cons_of_mem _ hq))
      · have hb' : q.1 = s.heap.objs.size + 1 ∨ q.1 = s.heap.objs.size := by simpa using hb
        rcases hb' with z | z
        · exact (ho q hq).1 z
        · exact (ho q hq).2 z
    cases f with
    | ret v => exact p
    | brk => exact p
    | next => exact fin p
    | cont => exact fin p
  · intro h' tk m' news' F' N' hoff ⟨_, hJ⟩
    have e : vs.toArray.size = vs.length := by simp
    rw [e] at hJ
    exact done m' news' h' tk hJ F' N'
end
end Mine
end

section
open PySem PySem.W PySem.Calls PySem.Spec PyProof.Rows
set_option maxRecDepth 100000
set_option maxHeartbeats 1000000
namespace Mine
/-- the frame's names: what these are -/
def Has (m : Str → Option Value) (l : List (Str × Value)) : Prop := ∀ p ∈ l, m p.1 = some p.2
abbrev setM (m : Str → Option Value) (n : Str) (v : Value) : Str → Option Value := fun y => if y = n then some v else m y
def chainOf : List (Str × Value) → (Str → Option Value) → Str → Option Value
  | [], m => m
  | p :: l, m => fun y => if y = p.1 then some p.2 else chainOf l m y
theorem chain_eq {m : Str → Option Value} : ∀ {l : List (Str × Value)}, Has m l → chainOf l m = m
  | [], _ => rfl
  | p :: l, h => by
    have ih := chain_eq (l := l) (fun q hq => h q (List.mem_cons_of_mem _ hq))
    funext y
    show (if y = p.1 then some p.2 else chainOf l m y) = m y
    rw [ih]
    by_cases hy : y = p.1
    · rw [if_pos hy, hy]; exact (h p List.mem_cons_self).symm
    · rw [if_neg hy]
theorem Has.fr {m : Str → Option Value} {l : List (Str × Value)} (h : Has m l) {base hp : Heap} {L : Addr} (F : Fr base L hp m) : Fr base L hp (chainOf l m) := by rw [chain_eq h]; exact F
theorem Has.back {m : Str → Option Value} {l : List (Str × Value)} (h : Has m l) {base hp : Heap} {L : Addr} {n : Str} {v : Value} (F : Fr base L hp (fun y => if y = n then some v else chainOf l m y)) : Fr base L hp (setM m n v) := by rw [chain_eq h] at F; exact F
theorem Has.back2 {m : Str → Option Value} {l : List (Str × Value)} (h : Has m l) {base hp : Heap} {L : Addr} {n n' : Str} {v v' : Value} (F : Fr base L hp (fun y => if y = n then some v else if y = n' then some v' else chainOf l m y)) : Fr base L hp (setM (setM m n' v') n v) := by rw [chain_eq h] at F; exact F
theorem Has.nil {m : Str → Option Value} : Has m [] := fun _ h => nomatch h
theorem Has.cons {m : Str → Option Value} {l : List (Str × Value)} {n : Str} {v : Value} (h1 : m n = some v) (h : Has m l) : Has m ((n, v) :: l) := fun p hp => by
  rcases List.mem_cons.mp hp with rfl | hp
  · exact h1
  · exact h p hp
theorem Has.set {m : Str → Option Value} {l : List (Str × Value)} (h : Has m l) {n : Str} {v : Value} (hn : l.all (fun p => p.1 != n) = true) : Has (setM m n v) l := fun p hp => by
  have : p.1 ≠ n := by have := List.all_eq_true.mp hn p hp; simpa using this
  show (if p.1 = n then some v else m p.1) = _
  rw [if_neg this]; exact h p hp
theorem Has.put {m : Str → Option Value} {l : List (Str × Value)} (h : Has m l) {n : Str} {v : Value} (hn : l.all (fun p => p.1 != n) = true) : Has (setM m n v) ((n, v) :: l) := Has.cons (by show (if n = n then some v else m n) = _; rw [if_pos rfl]) (h.set hn)
theorem Has.get {m : Str → Option Value} {l : List (Str × Value)} (h : Has m l) {n : Str} {v : Value} (hm : (n, v) ∈ l) : m n = some v := h _ hm
/-- a text of at most n signs -/
def Sh (n : Nat) (x : Str) : Prop := x.length ≤ n
theorem Sh.app {x y : Str} {a b : Nat} (h1 : Sh a x) (h2 : Sh b y) : Sh (a + b) (x ++ y) := by unfold Sh at *; rw [Str.length_append]; omega
theorem Sh.le {x : Str} {a b : Nat} (h1 : Sh a x) (h : a ≤ b) : x.length ≤ b := Nat.le_trans h1 h
section
variable {prog : Program} {w : World} {A : Around} {E : Value → Shared → Prop} {s : Shared} {x y : Str} {t u : Tok} {Q : Value → Shared → Prop} {i j : Nat}
theorem add_sh (h1 : Sh i x) (h2 : Sh j y) (hs : i + j ≤ 16777216) (h : ∀ t' k, Sh (i + j) (x ++ y) → Q (.str (x ++ y) t') { s with toks := k }) : wpAny (model prog w) A (binaryOp .Add (.str x t) (.str y u)) Q E s :=
  add_any (Nat.le_trans (Nat.add_le_add h1 h2) hs) fun t' k => h t' k (h1.app h2)
end
/-- what _law_whole gives -/
abbrev wholeO (msg : Str) (given : Value) (l : List Nat) (pos : Int) (tm tp tl tc tw : Tok) : Obj := { cls := .type "tuple", data := .seq #[.str msg tm, given, .int pos tp, .int (peLine l pos) tl, .int (peCol l pos) tc, .str (peWords msg l pos) tw] }
/-- a result: a name, or a refusal's words and place -/
def ResAt (gv : Value) (l : List Nat) (news : List (Addr × Obj)) (v : Value) : Str ⊕ (Str × Int) → Prop
  | .inl y => ∃ t, v = .str y t
  | .inr r => ∃ T g t1 t2 t3 t4 t5, v = .ref T ∧ SameV g gv ∧ (T, wholeO r.1 g l r.2 t1 t2 t3 t4 t5) ∈ news
end Mine
end

section
open PySem PySem.W PySem.Calls PySem.Spec PyProof.Rows
set_option maxRecDepth 100000
set_option maxHeartbeats 1000000
namespace Mine
section
variable {prog : Program} {w : World} {A : Around} {E : Value → Shared → Prop} {h₀ : Heap} {L : Addr} {m : Str → Option Value} {env : Env} {elt : Expr} {x : Str} {scope : Scope} {cl : List (Str × Addr)} {s : Shared} {S : List (Addr × Obj) → Prop} {P : Nat → Value → Prop} {Fin : List Value → List (Addr × Obj) → Prop} {news : List (Addr × Obj)}
/-- how one element of a comprehension of ints ends -/
def ElInt (h₀ : Heap) (L : Addr) (m : Str → Option Value) (s₁ : Shared) (r : Int) (all : List (Addr × Obj)) (y : Value) (s₂ : Shared) : Prop := ∃ h' tk t, y = .int r t ∧ s₂ = { s₁ with heap := h', toks := tk } ∧ Fr h₀ L h' m ∧ News h₀ L h' all
theorem comp_ints {n : Nat} (g : Nat → Int) (hS : S news)
    (turn : ∀ i v I oI C oC D m₂ ys h tk (E' : Value → Shared → Prop), i < n → P i v → LCg.NsObj oC m₂ → m₂ x = some v → Fr h₀ L h m → News h₀ L h ((I, oI) :: (C, oC) :: (D, LCg.lst ys) :: news) →
      wpAny (model prog w) A (eval elt (compEnvC scope cl C env)) (ElInt h₀ L m { s with heap := h, toks := tk } (g i) ((I, oI) :: (C, oC) :: (D, LCg.lst ys) :: news)) E' { s with heap := h, toks := tk })
    (fin : ∀ ys, IntsAre ys ((List.range n).map g) → Fin ys news) : LCg.CompRest prog w A h₀ L m env elt x scope cl s S P Fin n 0 [] news := by
  have key : ∀ (j i : Nat) (ys : List Value), i + j = n → IntsAre ys ((List.range i).map g) → LCg.CompRest prog w A h₀ L m env elt x scope cl s S P Fin j i ys news := by
    intro j
    induction j with
    | zero =>
      intro i ys hi hy
      have e : i = n := by omega
      subst e
      exact LCg.CompRest.zero (fin ys hy)
    | succ j ih =>
      intro i ys hi hy
      refine LCg.CompRest.succ ?_
      intro v I oI C oC D m₂ h tk E' hv hC hx F N off ne
      refine wpAny_mono (turn i v I oI C oC D m₂ ys h tk E' (by omega) hv hC hx F N) (fun y s₂ hq => ?_) fun _ _ e => e
      obtain ⟨h', tk', t', rfl, rfl, F', N'⟩ := hq
      refine ⟨h', tk', news, rfl, F', N', off, hS, ih (i + 1) _ (by omega) ?_⟩
      rw [List.range_succ, List.map_append]
      exact IntsAre.append hy (.cons (g i) t' .nil)
  exact key n 0 [] (by omega) .nil
theorem range_codes (X : Str) : (List.range X.cps.size).map (fun i => ((X.cps.getD i 0 : Nat) : Int)) = codes X := by
  apply List.ext_getElem
  · simp [codes]
  · intro i h1 h2
    have hi : i < X.cps.size := by simpa using h1
    simp [codes, Array.getD, hi]
end
/-- the octets of the numbers of a text whose signs are below 256 -/
theorem codes_in {D : Str} (h : ∀ c ∈ D.cps.toList, c < 256) : ∀ n ∈ codes D, 0 ≤ n ∧ n < 256 := by
  intro n hn
  obtain ⟨c, hc, rfl⟩ := List.mem_map.mp hn
  have := h c hc
  constructor
  · exact Int.natCast_nonneg c
  · show ((c : Nat) : Int) < 256; omega
theorem nums_codes {D : Str} (h : ∀ c ∈ D.cps.toList, c < 256) : nums (byteArr (codes D)) = D.cps.toList := by
  unfold nums byteArr codes
  simp only [List.map_map]
  have : ∀ l : List Nat, (∀ c ∈ l, c < 256) → l.map ((fun x : UInt8 => x.toNat) ∘ (fun n : Int => n.toNat.toUInt8) ∘ Int.ofNat) = l := by
    intro l hl
    refine (List.map_congr_left (g := _root_.id) fun c hc => ?_).trans (List.map_id _)
    have := hl c hc
    show (c.toUInt8).toNat = c
    simp [Nat.toUInt8]
    omega
  exact this _ h
end Mine
end

section
open PySem PySem.W PySem.Calls PySem.Spec PyProof.Rows PySem.Builtin
set_option maxRecDepth 100000
set_option maxHeartbeats 1000000
namespace Mine
section
variable {prog : Program} {w : World} {A : Around} {E : Value → Shared → Prop} {s : Shared}
theorem raiseNewH {α : Type} {hx e : Addr} {oh oe : Obj} {vsh vs : Array Value} {Q : α → Shared → Prop} (hh : A.handled = some (.ref hx)) (hg : s.heap.get? hx = some oh) (hd : oh.data = .fields vsh) (h2 : vsh[2]? = some .none)
    (he : s.heap.get? e = some oe) (hde : oe.data = .fields vs) (h3 : 2 < vs.size) (hne : hx ≠ e)
    (h : ∀ h', (∀ a o, a ≠ e → s.heap.get? a = some o → h'.get? a = some o) → E (.ref e) { s with heap := h' }) : wpAny (model prog w) A (raiseNew (.ref e) : Sem α) Q E s := by
  unfold raiseNew
  refine wpAny_bind (wpAny_handled ?_)
  rw [hh]
  show wpAny _ _ (if (Value.ref hx != Value.ref e) = true then _ else _) _ _ _
  rw [if_pos (by simpa using hne)]
  refine wpAny_bind (wpAny_holding (wpAny_runValue (unchain_end hg hd h2 ?_)))
  refine wpAny_bind (wpAny_mono (wpAny_setField (Q := fun _ s' => E (.ref e) s') he hde h3 ?_) (fun _ s' y => wpAny_throw y) fun _ _ y => y)
  refine h _ fun a o ha ho => ?_
  rw [Heap.get?_update_other _ _ (Ne.symm ha)]; exact ho
/-- a TypeError raised while an exception is handled -/
theorem raiseTypeErrorH {α : Type} {msg : String} {hx : Addr} {oh : Obj} {vsh : Array Value} {Q : α → Shared → Prop} (hh : A.handled = some (.ref hx)) (hg : s.heap.get? hx = some oh) (hd : oh.data = .fields vsh) (h2 : vsh[2]? = some .none)
    (h : ∀ h' tk e, (∀ a o, s.heap.get? a = some o → h'.get? a = some o) → E (.ref e) { s with heap := h', toks := tk }) (hm : (msg : Str).length ≤ sizeLine := by size_fits) :
    wpAny (model prog w) A (raiseError "TypeError" msg : Sem α) Q E s := by
  unfold raiseErrorMade
  refine wpAny_bind (wpAny_mkStr (wpAny_bind ?_) hm)
  unfold newExc newTuple
  refine wpAny_bind (wpAny_newObj_type ?_)
  refine wpAny_bind (m := firstArgMember _ _) (wpAny_of_eq (a := Value.none) (by simp only [firstArgMember, typeError_no_first]; rfl) ?_)
  rw [ownMembersOf_TypeError]
  refine wpAny_newObj_type ?_
  dsimp only
  generalize hH : s.heap.push _ = H
  have up : ∀ a o, s.heap.get? a = some o → H.get? a = some o := fun a o ho => by rw [← hH]; exact Heap.get?_push_of_some _ ho
  refine raiseNewH hh (Heap.get?_push_of_some _ (up _ _ hg)) hd h2 (Heap.get?_push_size H rfl) rfl (by simp) (Nat.ne_of_lt (Heap.lt_size (up _ _ hg))) fun h' hk => ?_
  exact h h' _ _ fun a o ho => hk a o (Nat.ne_of_lt (Heap.lt_size (up _ _ ho))) (Heap.get?_push_of_some _ (up _ _ ho))
variable {b c : Array UInt8} {t u : Tok}
/-- nothing is handled, or an exception of the ledger that has no context of its own -/
def HdOk (A : Around) (news : List (Addr × Obj)) : Prop := A.handled = none ∨ ∃ hx oh vsh, A.handled = some (.ref hx) ∧ (hx, oh) ∈ news ∧ oh.data = .fields vsh ∧ vsh[2]? = some .none
theorem asIndex_bytesH {news : List (Addr × Obj)} {base : Heap} {L : Addr} {Q : Int → Shared → Prop} (hh : HdOk A news) (N : News base L s.heap news) (h : ∀ h' tk e, (∀ a o, s.heap.get? a = some o → h'.get? a = some o) → E (.ref e) { s with heap := h', toks := tk }) : wpAny (model prog w) A (asIndex (.bytes b t)) Q E s := by
  rcases hh with hh | ⟨hx, oh, vsh, hh, hm, hd, h2⟩
  · exact asIndex_bytes hh fun h' tk e X => h h' tk e X.keeps
  · unfold asIndex
    refine wpAny_bind (wpAny_of_eq (show asInt? (Value.bytes b t) = pure none from rfl) ?_)
    refine wpAny_bind (wpAny_callSpecial?_none (typeIs_bytes s b t) noIndex_bytes ?_)
    exact wpAny_bind (cut_bytes (raiseTypeErrorH hh (N _ hm).1 hd h2 h))
theorem bytes_contains_meetsH {base : Heap} {L : Addr} : Meets («bytes.__contains__» ⟨[.bytes b t, .bytes c u], []⟩) (fun A R s => (∃ news, HdOk A news ∧ News base L s.heap news) ∧ ∀ h' tk, (∀ a o, s.heap.get? a = some o → h'.get? a = some o) → R (.ok (.ret (.bool (Bytes.find? b c 0 b.size).isSome))) { s with heap := h', toks := tk }) := by
  refine .of_wp fun prog w A R s h => ?_
  obtain ⟨⟨news, hh, N⟩, h⟩ := h
  unfold Builtin.«bytes.__contains__»
  show wpAny _ _ (Bytes.containsIn "bytes.__contains__" (.bytes b t) (.bytes c u) >>= fun _ => _) _ _ s
  refine wpAny_bind ?_
  unfold Bytes.containsIn
  refine wpAny_bind (wpAny_attempt (asIndex_bytesH (A := A.in1) hh N fun h' tk e X => ?_))
  refine wpAny_bind (wpAny_of_eq KBy.buffer_eq ?_)
  show wpAny _ _ (Bytes.buffer? _ (.bytes c u) >>= fun _ => _) _ _ _
  refine wpAny_bind (wpAny_of_eq KBy.buffer_eq ?_)
  refine wpAny_bind (wpAny_rule (wpAny_pure (wpAny_pure ⟨_, rfl, ?_⟩)))
  exact h h' tk X
theorem in_bytesH {base : Heap} {L : Addr} {m : Str → Option Value} {news : List (Addr × Obj)} {Q : Value → Shared → Prop} (F : Fr base L s.heap m) (N : News base L s.heap news) (hh : HdOk A news)
    (h : ∀ h' tk, Fr base L h' m → News base L h' news → Q (.bool (Bytes.find? b c 0 b.size).isSome) { s with heap := h', toks := tk }) : wpAny (model prog w) A (compareOp .In (.bytes c u) (.bytes b t)) Q E s := by
  show wpAny _ _ (do return .bool (← contains (.bytes b t) (.bytes c u))) Q E s
  refine wpAny_bind (wpAny_contains_slot (typeIs_bytes _ _ _) FB.slot_bytes_contains ?_)
  refine call_meets FB.slot_bytes_contains (typeIs_bytes _ _ _) FB.entry_bytes_contains (FB.args_bytes_contains_2 _ _) (bytes_contains_meetsH (base := base) (L := L)) ⟨⟨news, hh, N⟩, fun h' tk k => ?_⟩
  exact wpAny_pure (wpAny_pure (h h' tk (F.keeps k) fun q hq => ⟨k _ _ (N q hq).1, (N q hq).2⟩))
theorem HdOk.mono {news news' : List (Addr × Obj)} {A' : Around} (h : HdOk A news) (hs : ∀ q ∈ news, q ∈ news') (e : A'.handled = A.handled := by rfl) : HdOk A' news' := by
  rcases h with h | ⟨hx, oh, vsh, h, hm, hd, h2⟩
  · exact .inl (e.trans h)
  · exact .inr ⟨hx, oh, vsh, e.trans h, hs _ hm, hd, h2⟩
end
end Mine
end

section
open PySem PySem.W PySem.Calls PySem.Spec PyProof.Rows
set_option maxRecDepth 100000
set_option maxHeartbeats 1000000
namespace Mine
open TI
/-- what the reader was given: the text, or the octets of its numbers -/
def GivenIs (b : Bool) (gv : Value) (D : Str) : Prop := (b = true ∧ ∃ t, gv = .str D t) ∨ (b = false ∧ ∃ B t, gv = .bytes B t ∧ nums B = D.cps.toList)
/-- what a refusal's words become: for octets what is past 127 is escaped -/
def WordsTo (b : Bool) (m m' : Str) : Prop := (b = true ∧ m' = m) ∨ (b = false ∧ ∃ bs, EncTo m bs ∧ DecTo bs m')
theorem GivenIs.same {b : Bool} {gv : Value} {D : Str} (h : GivenIs b gv D) : SameV gv gv := by
  rcases h with ⟨_, t, rfl⟩ | ⟨_, B, t, rfl, _⟩
  · exact SameV.str _ _ _
  · exact SameV.bytes _ _ _
theorem GivenIs.handed {b : Bool} {gv : Value} {D : Str} (h : GivenIs b gv D) : handedIn gv = true := by
  rcases h with ⟨_, t, rfl⟩ | ⟨_, B, t, rfl, _⟩ <;> rfl
theorem sameUp_nil {frs' : List (Addr × Obj)} (h : SameUp [] frs') : frs' = [] := by
  cases frs' with
  | nil => rfl
  | cons _ _ => exact h.elim
/-- a refusal has left the callee: what stands then, in the caller's words -/
def RaisedE (P : Params) (base : Heap) (L : Addr) (m : Str → Option Value) (l : List Env) (mid frs : List (Addr × Obj)) (msg : Str) (gv : Value) (lst : List Nat) (pos : Int) (E : Value → Shared → Prop) (s : Shared) : Prop :=
  ∀ h' frs' tk e d t T oT oe o2 c2, SameUp frs frs' → Frs l frs' → Fr base L h' m → News base L h' ((T, oT) :: (e, oe) :: ((o2 ++ mid) ++ frs')) → IsPe2 P msg gv lst pos d t o2 → ExcAt oe oT (.ref 41) (some d) (.ref t) c2 T .none →
    (∀ q ∈ (o2 ++ mid) ++ frs', q.1 ≠ e ∧ q.1 ≠ T) → T ≠ e → (∀ q ∈ o2, q.1 = d ∨ q.1 = t) → (∀ q ∈ mid ++ frs', q.1 ≠ d ∧ q.1 ≠ t) → E (.ref e) { s with heap := h', toks := tk }
theorem RaisedE.up {P : Params} {base : Heap} {L : Addr} {m : Str → Option Value} {l : List Env} {mid frs qs : List (Addr × Obj)} {msg : Str} {gv : Value} {lst : List Nat} {pos : Int} {E : Value → Shared → Prop} {s : Shared} {h₁ : Heap} {k₁ : Nat} (h : RaisedE P base L m l mid frs msg gv lst pos E s) (SU : SameUp frs qs) : RaisedE P base L m l mid qs msg gv lst pos E { s with heap := h₁, toks := k₁ } :=
  fun h' frs' tk e d t T oT oe o2 c2 SU' => h h' frs' tk e d t T oT oe o2 c2 (SU.trans SU')
section
variable {prog : Program} {w : World} {A : Around} {E1 : Value → Shared → Prop} {s : Shared} {L L' a : Addr} {base : Heap} {m m' : Str → Option Value}
theorem pass_raised {P : Params} {msg : Str} {gv : Value} {lst : List Nat} {pos : Int} {mid frs : List (Addr × Obj)} {l : List Env} {ev : Env} {name : Str} {scope : Scope} {cd : Value} {oL : Obj} {sl : Array (Option Value)} {Ee : Value → Value → Shared → Prop}
    (Cl : Caller base L m oL) (hA : A.frames = some (envOf name scope L' a cd :: ev :: l)) (hk : scope.kind = .function)
    (hmid : ∀ q ∈ mid, q.1 ∉ ((L, { oL with slots := sl }) :: frs).map (·.1)) (hLf : ∀ q ∈ mid ++ frs, q.1 ≠ L)
    (h : RaisedE P base L m l mid frs msg gv lst pos E1 s) :
    RaisedE P base L' m' (ev :: l) mid ((L, { oL with slots := sl }) :: frs) msg gv lst pos (fun e s' => wpAny (model prog w) A (leaving (envOf name scope L' a cd) e) (fun _ s'' => E1 e s'') (Ee e) s') s := by
  intro h₁ frs₁ tk e d t T oT oe o2 c2 SU Fs F N p2 XA l1 l2 l3 l4
  have up : ∀ q ∈ frs₁, ∃ r ∈ (L, { oL with slots := sl }) :: frs, q.1 = r.1 := SU.fwd
  have hmap : frs₁.map (·.1) = ((L, { oL with slots := sl }) :: frs).map (·.1) := sameUp_map SU
  have hap : ∀ q ∈ o2 ++ mid, q.1 ≠ e ∧ q.1 ∉ frs₁.map (·.1) := fun q hq => by
    refine ⟨(l1 q (List.mem_append_left _ hq)).1, fun hm => ?_⟩
    rcases List.mem_append.mp hq with hq | hq
    · obtain ⟨r, hr, z⟩ := List.mem_map.mp hm
      have := l4 r (List.mem_append_right _ hr)
      rcases l3 q hq with h | h
      · exact this.1 (z.trans h)
      · exact this.2 (z.trans h)
    · exact hmid q hq (hmap ▸ hm)
  have hef : e ∉ frs₁.map (·.1) := fun hm => by
    obtain ⟨r, hr, z⟩ := List.mem_map.mp hm
    exact (l1 r (List.mem_append_right _ hr)).1 z
  have hTf : T ∉ frs₁.map (·.1) := fun hm => by
    obtain ⟨r, hr, z⟩ := List.mem_map.mp hm
    exact (l1 r (List.mem_append_right _ hr)).2 z
  refine leaveE2 (s := { s with heap := h₁, toks := tk }) hA hk Fs F N hap hef l2 (fun q hq => (l1 q (List.mem_append_left _ hq)).2) hTf XA fun h₂ frs₂ T₂ oT₂ oe₂ SU₂ Fs₂ F₂ N₂ lt X₂ => ?_
  obtain ⟨sl', qs, rfl, SU'⟩ := sameUp_cons (SU.trans SU₂)
  have ltE : ∀ q ∈ (o2 ++ mid) ++ frs₁, q.1 ≠ T₂ := fun q hq => lt_apart lt q (List.mem_cons_of_mem _ hq)
  have hTe : T₂ ≠ e := Ne.symm (lt_apart lt _ List.mem_cons_self)
  have hLfr : ∃ r ∈ frs₁, r.1 = L := by
    have : L ∈ frs₁.map (·.1) := by rw [hmap]; exact List.mem_cons_self
    obtain ⟨r, hr, z⟩ := List.mem_map.mp this
    exact ⟨r, hr, z⟩
  obtain ⟨rL, hrL, zL⟩ := hLfr
  have hTL : T₂ ≠ L := fun z => ltE rL (List.mem_append_right _ hrL) (zL.trans z.symm)
  have heL : e ≠ L := fun z => (l1 rL (List.mem_append_right _ hrL)).1 (zL.trans z.symm)
  have hdL : L ≠ d ∧ L ≠ t := by have := l4 rL (List.mem_append_right _ hrL); rw [zL] at this; exact this
  have upq : ∀ q ∈ qs, ∃ r ∈ frs, q.1 = r.1 := SU'.fwd
  have frq : ∀ q ∈ qs, ∃ r ∈ frs₁, q.1 = r.1 := fun q hq => SU₂.fwd q (List.mem_cons_of_mem _ hq)
  have := h h₂ qs tk e d t T₂ oT₂ oe₂ o2 c2 SU' Fs₂.2.2.2 (backM (sl := sl') Cl F₂ N₂ (by simp)) (backN N₂ (fun q hq => ?_) (fun q hq => ?_)) p2 X₂ (fun q hq => ?_) hTe l3 (fun q hq => ?_)
  · exact this
  · simp only [List.mem_cons, List.mem_append] at hq ⊢; grind
  · rcases List.mem_cons.mp hq with rfl | hq
    · exact hTL
    rcases List.mem_cons.mp hq with rfl | hq
    · exact heL
    rcases List.mem_append.mp hq with hq | hq
    · rcases List.mem_append.mp hq with hq | hq
      · rcases l3 q hq with z | z
        · rw [z]; exact hdL.1.symm
        · rw [z]; exact hdL.2.symm
      · exact hLf q (List.mem_append_left _ hq)
    · obtain ⟨r, hr, z⟩ := upq q hq
      rw [z]; exact hLf r (List.mem_append_right _ hr)
  · rcases List.mem_append.mp hq with hq | hq
    · exact ⟨(hap q hq).1, ltE q (List.mem_append_left _ hq)⟩
    · obtain ⟨r, hr, z⟩ := frq q hq
      rw [z]
      exact ⟨(l1 r (List.mem_append_right _ hr)).1, ltE r (List.mem_append_right _ hr)⟩
  · rcases List.mem_append.mp hq with hq | hq
    · exact l4 q (List.mem_append_left _ hq)
    · obtain ⟨r, hr, z⟩ := frq q hq
      rw [z]; exact l4 r (List.mem_append_right _ hr)
end
end Mine
end

section
open PySem PySem.W PySem.Calls PySem.Spec PyProof.Rows
set_option maxRecDepth 100000
set_option maxHeartbeats 1000000
namespace Mine
open TI
section
variable {prog : Program} {w : World} {A : Around} {E E1 : Value → Shared → Prop} {s : Shared} {env : Env} {C e d t L L' a hx : Addr} {base : Heap} {m m' : Str → Option Value}
/-- v is a new exception of the class C, raised out of the handling of hx, and what follows takes it -/
def RaisesFrom (C hx : Addr) (E : Value → Shared → Prop) (v : Value) (s₁ : Shared) : Prop := ∃ e dx a0 c2 c3 b4 c5 nm q N bs bm hdct sn sub ab col dd k0 k1 k2 k3 k5 newId oh vsh, v = .ref e ∧ s₁.heap.get? C = some (excClassObj nm q C N bs bm hdct sn sub ab col dd k0 k1 k2 k3 k5 newId) ∧ bm.contains (.type "BaseException") = true ∧
      s₁.heap.get? e = some (peO C dx a0 .none c2 c3 b4 c5) ∧ s₁.heap.get? hx = some oh ∧ oh.data = .fields vsh ∧ vsh[2]? = some .none ∧ hx ≠ e ∧ e ≠ C ∧
      ∀ h', Heap.SameBut e s₁.heap h' → h'.get? e = some (peO C dx a0 .none (.ref hx) .none (.bool true) c5) → E (.ref e) { s₁ with heap := h' }
theorem exec_raise_from {exc : Expr} {pos kp : Pos} {k : Nat} {Q : Flow → Shared → Prop} (hh : A.handled = some (.ref hx)) (h : wpAny (model prog w) A (eval exc env) (RaisesFrom C hx E) E s) : wpAny (model prog w) A (exec (.Raise (some exc) (some (.Constant .none k kp)) pos) env) Q E s := by
  rw [arm_exec_Raise]
  refine wpAny_bind (wpAny_standAt ?_)
  refine raise_from_none (C := C) (oh := default) (vsh := #[]) hh ?_ (wpAny_bind (wpAny_mono h (fun v s₁ h₁ => wpAny_bind (wpAny_standAt (wpAny_pure h₁))) fun _ _ z => z))
  intro s Q' hq
  exact wpAny_bind (wpAny_pure (wpAny_bind (wpAny_standAt (wpAny_pure hq))))
theorem raise_out2 {P : Params} {msg : Str} {pat : Value} {lst : List Nat} {pos : Int} {o3 mid frs : List (Addr × Obj)} {l : List Env} {ev : Env} {name : Str} {scope : Scope} {cd : Value} {oL oh : Obj} {vsh : Array Value} {sl : Array (Option Value)} {Ee : Value → Value → Shared → Prop} {K : Frag} {nm q : Str} {Ns : Addr} {bs : List Value} {hdct : Bool} {sn : List Str} {sub : List Value} {ab : Bool} {col : Option Bool} {dd : Option Addr} {k0 k1 k2 k3 k5 : Option Value}
    (hC : K.lookup 41 = some (excClassObj nm q 41 Ns bs [.type "Exception", .type "BaseException", .type "object"] hdct sn sub ab col dd k0 k1 k2 k3 k5 "Exception.__new__")) (X : K.In base)
    (pe : IsPe P 41 msg pat lst pos e d t o3) (F : Fr base L' s.heap m') (N : News base L' s.heap (o3 ++ ((hx, oh) :: (mid ++ ((L, { oL with slots := sl }) :: frs))))) (Cl : Caller base L m oL)
    (hd : oh.data = .fields vsh) (h2 : vsh[2]? = some .none)
    (l1 : ∀ q ∈ (hx, oh) :: (mid ++ ((L, { oL with slots := sl }) :: frs)), q.1 ≠ e ∧ q.1 ≠ d ∧ q.1 ≠ t) (l2 : e ≠ d) (l3 : e ≠ t) (l4 : d ≠ t)
    (hA : A.frames = some (envOf name scope L' a cd :: ev :: l)) (hk : scope.kind = .function) (Fs : Frs (ev :: l) ((L, { oL with slots := sl }) :: frs))
    (hmid : ∀ q ∈ mid, q.1 ∉ ((L, { oL with slots := sl }) :: frs).map (·.1)) (hLf : ∀ q ∈ mid ++ frs, q.1 ≠ L)
    (hE : RaisedE P base L m l mid frs msg pat lst pos E1 s) :
    RaisesFrom 41 hx (fun e s' => wpAny (model prog w) A (leaving (envOf name scope L' a cd) e) (fun _ s'' => E1 e s'') (Ee e) s') (.ref e) s := by
  obtain ⟨o2, p2, rfl, ho2⟩ := pe.split
  have Nexc := N (e, peO 41 d (.ref t) .none .none .none (.bool false) .none) (by simp)
  have Nhx := N (hx, oh) (by simp)
  have hC' := X.keeps F.keep _ _ hC
  have heC : e ≠ 41 := fun z => by
    have h1 := X _ _ hC
    have h2 := Nexc.2.2
    rw [z, h1] at h2; cases h2
  refine ⟨e, d, .ref t, .none, .none, .bool false, .none, nm, q, Ns, bs, _, hdct, sn, sub, ab, col, dd, k0, k1, k2, k3, k5, _, oh, vsh, rfl, hC', by decide, Nexc.1, Nhx.1, hd, h2, (l1 _ List.mem_cons_self).1, heC, ?_⟩
  intro h' hs he'
  have l5 : ∀ q ∈ o2, ∀ r ∈ mid ++ ((L, { oL with slots := sl }) :: frs), q.1 ≠ r.1 := fun q hq r hr z => by
    rcases ho2 q hq with h | h
    · exact (l1 r (List.mem_cons_of_mem _ hr)).2.1 (by rw [← z, h])
    · exact (l1 r (List.mem_cons_of_mem _ hr)).2.2 (by rw [← z, h])
  have l6 : ∀ q ∈ o2, q.1 ≠ e := fun q hq z => by
    rcases ho2 q hq with h | h
    · exact l2 (by rw [← z, h])
    · exact l3 (by rw [← z, h])
  have F' : Fr base L' h' m' := F.change hs Nexc.2.1 Nexc.2.2
  have N' : News base L' h' ((e, peO 41 d (.ref t) .none (.ref hx) .none (.bool true) .none) :: ((o2 ++ mid) ++ ((L, { oL with slots := sl }) :: frs))) := fun q hq => by
    rcases List.mem_cons.mp hq with rfl | hq
    · exact ⟨he', Nexc.2⟩
    · have hq2 : q ∈ ((e, peO 41 d (.ref t) .none .none .none (.bool false) .none) :: o2) ++ ((hx, oh) :: (mid ++ ((L, { oL with slots := sl }) :: frs))) := by simp only [List.mem_cons, List.mem_append, List.cons_append] at hq ⊢; grind
      have z := N q hq2
      refine ⟨hs.extBut _ _ ?_ z.1, z.2⟩
      rcases List.mem_append.mp hq with hq | hq
      · rcases List.mem_append.mp hq with hq | hq
        · exact l6 q hq
        · exact (l1 q (List.mem_cons_of_mem _ (List.mem_append_left _ hq))).1
      · exact (l1 q (List.mem_cons_of_mem _ (List.mem_append_right _ hq))).1
  have hap : ∀ q ∈ o2 ++ mid, q.1 ≠ e ∧ q.1 ∉ ((L, { oL with slots := sl }) :: frs).map (·.1) := fun q hq => by
    rcases List.mem_append.mp hq with hq | hq
    · refine ⟨l6 q hq, fun hm => ?_⟩
      obtain ⟨r, hr, z⟩ := List.mem_map.mp hm
      exact l5 q hq r (List.mem_append_right _ hr) z.symm
    · exact ⟨(l1 q (List.mem_cons_of_mem _ (List.mem_append_left _ hq))).1, hmid q hq⟩
  have hef : e ∉ ((L, { oL with slots := sl }) :: frs).map (·.1) := fun hm => by
    obtain ⟨r, hr, z⟩ := List.mem_map.mp hm
    exact (l1 r (List.mem_cons_of_mem _ (List.mem_append_right _ hr))).1 z
  have hLe : L ≠ e ∧ L ≠ d ∧ L ≠ t := l1 (L, { oL with slots := sl }) (List.mem_cons_of_mem _ (List.mem_append_right _ List.mem_cons_self))
  refine leaveE1 (s := { s with heap := h' }) hA hk Fs F' N' hap hef rfl rfl rfl rfl rfl rfl fun h₂ frs' T oT oe' SU Fs' F₂ N₂ lt X' => ?_
  obtain ⟨sl', qs, rfl, SU'⟩ := sameUp_cons SU
  have ltE : ∀ q ∈ (o2 ++ mid) ++ ((L, { oL with slots := sl }) :: frs), q.1 ≠ T := fun q hq => lt_apart lt q (List.mem_cons_of_mem _ hq)
  have hTe : T ≠ e := Ne.symm (lt_apart lt _ List.mem_cons_self)
  have hTL : T ≠ L := Ne.symm (ltE (L, { oL with slots := sl }) (List.mem_append_right _ List.mem_cons_self))
  have up : ∀ q ∈ qs, ∃ r ∈ frs, q.1 = r.1 := SU'.fwd
  refine hE h₂ qs _ e d t T oT oe' o2 _ SU' Fs'.2.2.2 (backM (sl := sl') Cl F₂ N₂ ?_) (backN N₂ ?_ ?_) p2 X' ?_ hTe ho2 ?_
  · simp
  · intro q hq; simp only [List.mem_cons, List.mem_append] at hq ⊢; grind
  · intro q hq
    rcases List.mem_cons.mp hq with rfl | hq
    · exact hTL
    rcases List.mem_cons.mp hq with rfl | hq
    · exact hLe.1.symm
    rcases List.mem_append.mp hq with hq | hq
    · rcases List.mem_append.mp hq with hq | hq
      · exact l5 q hq (L, { oL with slots := sl }) (List.mem_append_right _ List.mem_cons_self)
      · exact hLf q (List.mem_append_left _ hq)
    · obtain ⟨r, hr, z⟩ := up q hq
      rw [z]; exact hLf r (List.mem_append_right _ hr)
  · intro q hq
    rcases List.mem_append.mp hq with hq | hq
    · exact ⟨(hap q hq).1, ltE q (List.mem_append_left _ hq)⟩
    · obtain ⟨r, hr, z⟩ := up q hq
      rw [z]
      exact ⟨(l1 r (List.mem_cons_of_mem _ (List.mem_append_right _ (List.mem_cons_of_mem _ hr)))).1, ltE r (List.mem_append_right _ (List.mem_cons_of_mem _ hr))⟩
  · intro q hq
    rcases List.mem_append.mp hq with hq | hq
    · exact (l1 q (List.mem_cons_of_mem _ (List.mem_append_left _ hq))).2
    · obtain ⟨r, hr, z⟩ := up q hq
      rw [z]
      exact (l1 r (List.mem_cons_of_mem _ (List.mem_append_right _ (List.mem_cons_of_mem _ hr)))).2
/-- the plain raise, in the same words -/
theorem raise_out1 {P : Params} {msg : Str} {pat : Value} {lst : List Nat} {pos : Int} {o3 mid frs : List (Addr × Obj)} {l : List Env} {ev : Env} {name : Str} {scope : Scope} {cd : Value} {oL : Obj} {sl : Array (Option Value)} {Ee : Value → Value → Shared → Prop} {K : Frag} {nm q : Str} {Ns : Addr} {bs : List Value} {hdct : Bool} {sn : List Str} {sub : List Value} {ab : Bool} {col : Option Bool} {dd : Option Addr} {k0 k1 k2 k3 k5 : Option Value}
    (hC : K.lookup 41 = some (excClassObj nm q 41 Ns bs [.type "Exception", .type "BaseException", .type "object"] hdct sn sub ab col dd k0 k1 k2 k3 k5 "Exception.__new__")) (X : K.In base)
    (pe : IsPe P 41 msg pat lst pos e d t o3) (F : Fr base L' s.heap m') (N : News base L' s.heap (o3 ++ (mid ++ ((L, { oL with slots := sl }) :: frs)))) (Cl : Caller base L m oL)
    (l1 : ∀ q ∈ mid ++ ((L, { oL with slots := sl }) :: frs), q.1 ≠ e ∧ q.1 ≠ d ∧ q.1 ≠ t) (l2 : e ≠ d) (l3 : e ≠ t) (l4 : d ≠ t)
    (hA : A.frames = some (envOf name scope L' a cd :: ev :: l)) (hk : scope.kind = .function) (Fs : Frs (ev :: l) ((L, { oL with slots := sl }) :: frs))
    (hmid : ∀ q ∈ mid, q.1 ∉ ((L, { oL with slots := sl }) :: frs).map (·.1)) (hLf : ∀ q ∈ mid ++ frs, q.1 ≠ L)
    (hE : RaisedE P base L m l mid frs msg pat lst pos E1 s) :
    RaisesPe 41 (fun e s' => wpAny (model prog w) A (leaving (envOf name scope L' a cd) e) (fun _ s'' => E1 e s'') (Ee e) s') (.ref e) s :=
  raise_out hC X pe F N Cl l1 l2 l3 l4 hA hk Fs hmid hLf fun h' frs' T oT oe o2 SU Fs' F' N' p2 XA q1 q2 q3 q4 => hE h' frs' s.toks e d t T oT oe o2 .none SU Fs' F' N' p2 XA q1 q2 q3 q4
theorem len_given {b : Bool} {gv : Value} {D : Str} {Q : Value → Shared → Prop} (hg : GivenIs b gv D) (hD : D.length ≤ 10000) (h : ∀ t' k, Q (.int D.length t') { s with toks := k }) : wpAny (model prog w) A (call (.builtin "len") [gv]) Q E s := by
  rcases hg with ⟨rfl, t, rfl⟩ | ⟨rfl, B, t, rfl, hB⟩
  · exact PySem.P.len_str (by omega) (h _ _)
  · have e : B.size = D.length := by rw [← nums_len, hB]; simp [Str.length]
    rw [← e] at h
    exact PySem.W.len_bytes (by omega) (h _ _)
end
end Mine
end

open Mine TI
local macro_rules | `(tactic| walk_at "z4") => wl 0 "" "" `instE "abc" "aabmcm" "" "" []
local macro_rules | `(tactic| k_all) => `(tactic| first | assumption | exact allLt_ne (by assumption))
section
open PySem PySem.W PySem.Calls PySem.Spec PyProof.Rows
set_option maxRecDepth 100000
set_option maxHeartbeats 1000000
namespace Mine
theorem anew1 : True := by
  w_top off
  exact True.intro
open TI
theorem fillPX5 (P : Params) : hd.heap_1 P = hd.heap_1 P ∧ PySem.Challenge.rw_kq0016_05 = PySem.Challenge.rw_kq0016_05 := by
  k_fill
  exact ⟨rfl, rfl⟩
theorem st41 (P : Params) : storesIn (hd.heap_1 P) 41 = true := by kernel_rfl
theorem rd_msg (P : Params) : readsE (hd.heap_1 P) 41 "msg" = true := by kernel_rfl
theorem cls41 (P : Params) : ∃ nm q N bs hdct sn sub ab col dd k0 k1 k2 k3 k5, List.lookup 41 (hd.heap_1 P) = some (excClassObj nm q 41 N bs [.type "Exception", .type "BaseException", .type "object"] hdct sn sub ab col dd k0 k1 k2 k3 k5 "Exception.__new__") ∧ N = 40 := ⟨_, _, _, _, _, _, _, _, _, _, _, _, _, _, _, rfl, rfl⟩
theorem ns40 {P : Params} {h : Heap} (X : (hd.heap_1 P).In h) : ∃ mN, h.Ns 40 mN ∧ mN "__init__" = some (.ref 38) := by
  refine ⟨_, ⟨_, _, _, X 40 _ rfl, rfl, ?_, fun _ => rfl⟩, ?_⟩
  · intro e he
    simp only [List.mem_toArray, List.mem_cons, List.not_mem_nil, or_false] at he
    rcases he with rfl | rfl | rfl | rfl | rfl | rfl <;> exact ⟨_, _, rfl⟩
  · kernel_rfl
theorem allLt_ne {b : Addr} : ∀ {l : List (Addr × Obj)}, AllLt b l → ∀ q ∈ l, q.1 ≠ b
  | [], _, _, h => nomatch h
  | _ :: _, h, q, hq => by
    rcases List.mem_cons.mp hq with rfl | hq
    · exact Nat.ne_of_lt h.1
    · exact allLt_ne h.2 q hq
local macro_rules | `(tactic| walk_at "setAttr ref") => wl 3 "" "" `setEN "abcdef_" "aabacadee5fi.k" "h' d' F' N' l1" "LlSY" ["st41 _ @1"]
local macro_rules | `(tactic| walk_at "setAttr ref") => wl 3 "" "" `setEU "abcdefghijk_" "aabacad4eRf5gihripjuk6.k" "h' F' N'" "SY" ["st41 _ @1", "Nat.le_of_ble_eq_true rfl @1"]

local macro_rules | `(tactic| walk_at "call builtin:str.count") => wl 4 "" "" `count4 "_" "" "" "" []
local macro_rules | `(tactic| walk_at "call builtin:str.rfind") => wl 4 "" "" `rfind4 "_" "" "" "" []
local macro_rules | `(tactic| walk_at "getMethod bytes") => wl 4 "" "" `brfind_method "_" "" "" "" []
local macro_rules | `(tactic| walk_at "getMethod bytes") => wl 4 "" "" `bcount_method "_" "" "" "" []
local macro_rules | `(tactic| walk_at "call builtin:bytes.count") => wl 4 "" "" `bcount4 "=_" "" "" "" []
local macro_rules | `(tactic| walk_at "call builtin:bytes.rfind") => wl 4 "" "" `brfind4 "_" "" "" "" []
local macro_rules | `(tactic| walk_at "getAttr ref") => wl 3 "" "" `getEU "abcdef_" "aabac4d5erfr" "" "Y" ["rd_msg _ @1"]
local macro_rules | `(tactic| walk_at "wpAt") => wl 3 "attributeBase Call" "" `ks_node "abcdefghijklmnopqrstuv_" "h4aabacadaeifrgriijrk5liminioipdqrrrsrtruDv6" "so' h' F' N' l1" "L" ["=r | =D", "=b | =r | =K"]
local macro_rules | `(tactic| walk_at "binaryOp Mod str ref") => wl 3 "" "binaryOp Operator.Mod Value.str Str.ofString '%s~(line~%d,~column~%d) @1 _ @2 Value.ref _ @1 @3" `mod2 "abcdefg_" "aabmc5doeofogo" "u0 u1" "Y" ["=A | =z"]
local macro_rules | `(tactic| walk_at "binaryOp Mod str ref") => wl 3 "" "binaryOp Operator.Mod Value.str Str.ofString '%s~at~position~%d @1 _ @2 Value.ref _ @1 @3" `mod1 "abcde_" "aabmcAdoeo" "u0 u1" "Y" []
local macro_rules | `(tactic| walk_at "wpAt") => `(tactic| dsimp only)
local macro_rules | `(tactic| walk_at "wpAt") => wl 2 "exec Expr" "" `ks_wpAt_Expr_any "_'r'r" "" "" "" []
local macro_rules | `(tactic| walk_at "wpAt") => wl 2 "eval Call" "" `ks_wpAt_MethodCall "_" "" "" "" []
local macro_rules | `(tactic| walk_at "getMethod ref") => wl 3 "" "getMethod _ Str.ofString '__init__ @1 _ @3" `super_init_K "abcdefgh_" "aabacadme4figshi" "b' h' F' N' l1" "LlY" []
local macro_rules | `(tactic| walk_at "call ref") => wl 3 "" "" `mw_call_U "abcde'A_" "aabacadmeN" "h' t' F' N' l1" "LlSY" []
local macro_rules | `(tactic| walk_at "callWith ref") => wl 3 "" "" `callWith_mw "ab_" "aabm" "" "" []
local macro_rules | `(tactic| walk_at "And") => wl 0 "" "" `and_mw "ab_" "aabm" "" "" []
local macro_rules | `(tactic| walk_at "MwAt") => wl 0 "" "" `mwAt "ab" "aabm" "" "" []
local macro_rules | `(tactic| walk_at "compareOp In bytes bytes") => wl 3 "" "" `in_bytesH "abc_" "aabac5" "h' tk F' N'" "SY" ["HdOk.mono !A !M !r @3"]
/-- how «if newline in pattern: msg = ..» ends -/
inductive PeJ (base : Heap) (L : Addr) (M : Str → Option Value) (news : List (Addr × Obj)) (y : Str) (s : Shared) (f : Flow) (s' : Shared) : Prop
  | mk (t : Tok) (tk : Nat) (h' : Heap) (h : f = .next) (e : s' = { s with heap := h', toks := tk }) (hF : Fr base L h' (fun z => if z = Str.ofString "msg" then some (.str y t) else M z)) (hN : News base L h' news)
theorem join_If {Mo : Model} {A : Around} {E : Value → Shared → Prop} {s : Shared} {st : Stmt} {env : Env} {Q : Flow → Shared → Prop} {base : Heap} {L : Addr} {m : Str → Option Value} {news : List (Addr × Obj)} (y : Str) (F : Fr base L s.heap m) (N : News base L s.heap news) {co : Code} (h1 : PySem.wpAt Mo A co (exec st env) (PeJ base L m news y s) E s)
    (h2 : ∀ t tk h', Fr base L h' (fun z => if z = Str.ofString "msg" then some (.str y t) else m z) → News base L h' news → Q .next { s with heap := h', toks := tk }) : PySem.wpAt Mo A co (exec st env) Q E s :=
  ks_wpAt_mono h1 (fun _ _ ⟨t, tk, h', a, b, c, d⟩ => by subst a; subst b; exact h2 t tk h' c d) (fun _ _ z => z)
theorem msg_same {base h : Heap} {L : Addr} {m : Str → Option Value} {y : Str} {t : Tok} (F : Fr base L h m) (e : m (Str.ofString "msg") = some (.str y t)) : Fr base L h (fun z => if z = Str.ofString "msg" then some (.str y t) else m z) := by
  have : (fun z => if z = Str.ofString "msg" then some (.str y t) else m z) = m := funext fun z => by
    by_cases h : z = Str.ofString "msg"
    · rw [if_pos h, h, e]
    · rw [if_neg h]
  rw [this]; exact F
theorem pe_newS {w : World} {loose : List Str} {mean : ExcName → Option Value} {mg mb : Str → Option Value} {A : Around}
    {base : Heap} {L : Addr} {m : Str → Option Value} {s : Shared} {Q E : Value → Shared → Prop} {news : List (Addr × Obj)} {msg : Str} {D : Str} {tm dt tp : Tok} {pos : Int}
    (F : Fr base L s.heap m) (X : (hd.heap_1 w.params).In base) (N : News base L s.heap news) (T : Top hd.view_39 loose mean mg mb base) (hd' : A.depth + 6 < recursionLimit) (hD : (D.cps.toList).length ≤ 2000) (hm : msg.length ≤ 20000) (hp0 : 0 ≤ pos) (hp1 : pos ≤ 10000)
    (hQ : ∀ h' k e d t k1 k2 k3 k4 k5 tl tc tw, Fr base L h' m ∧ News base L h' ((e, peO 41 d (.ref t) .none .none .none (.bool false) .none) :: (d, peD w.params k1 k2 k3 k4 k5 (.str msg tm) (.str D dt) (.int pos tp) (.int (peLine (D.cps.toList) pos) tl) (.int (peCol (D.cps.toList) pos) tc)) ::
        (t, ({ cls := .type "tuple", data := .seq #[.str (peWords msg (D.cps.toList) pos) tw] } : Obj)) :: news) → (∀ q ∈ news, q.1 ≠ e ∧ q.1 ≠ d ∧ q.1 ≠ t) → e ≠ d → e ≠ t → d ≠ t → Q (.ref e) { s with heap := h', toks := k }) :
    wpAny (model PySem.Challenge.rw_kq0016_05.row.prog w) A (call (.ref 41) [.str msg tm, .str D dt, .int pos tp]) Q E s := by
  obtain ⟨hp, g, d, t, os⟩ := s
  obtain ⟨nm, q, NC, bs, hdct, sn, sub, ab, col, dd, k0, k1, k2, k3, k5, hC, rfl⟩ := cls41 w.params
  obtain ⟨mN, hN, hi⟩ := ns40 (X.keeps F.keep)
  refine wpAny_call_exc_init PySem.F.excBase_Exception (X.keeps F.keep _ _ hC) hN hi (X.keeps F.keep 38 _ rfl) rfl (fun h' e Md => ?_) (by show (3 : Nat) ≤ sizeLine; decide)
  obtain ⟨t0, he, ht0n, ht0⟩ := Md.there
  have hne0 : ∀ q ∈ news, q.1 ≠ e := fun q hq z => by have := (N q hq).1; rw [z, Md.new] at this; cases this
  have hnt : ∀ q ∈ news, q.1 ≠ t0 := fun q hq z => by have := (N q hq).1; rw [z, ht0n] at this; cases this
  have N1 : News base L h' ((e, ({ cls := .ref 41, data := .fields #[.ref t0, .none, .none, .none, .bool false, .none] } : Obj)) :: (t0, ({ cls := .type "tuple", data := .seq #[.str msg tm, .str D dt, .int pos tp] } : Obj)) :: news) := by
    have hLe : e ≠ L := fun z => by
      obtain ⟨oL, _, _, hL, _⟩ := F.ns
      have := Md.new
      rw [z] at this
      rw [this] at hL; cases hL
    have hLt : t0 ≠ L := fun z => by
      obtain ⟨oL, _, _, hL, _⟩ := F.ns
      rw [← z] at hL
      rw [ht0n] at hL; cases hL
    intro q hq
    rcases List.mem_cons.mp hq with rfl | hq
    · exact ⟨he, hLe, none_of F.keep Md.new⟩
    · rcases List.mem_cons.mp hq with rfl | hq
      · exact ⟨ht0, hLt, none_of F.keep ht0n⟩
      · exact ⟨Md.keeps _ _ (N q hq).1, (N q hq).2⟩
  have hte : t0 ≠ e := fun z => by rw [z, he] at ht0; cases ht0
  refine wpAny_call (enterS (F.keeps Md.keeps) X N1 T rfl (by kernel_rfl) (by simp only [depth_under_make]; omega) (binds_K (X.keeps (F.keeps Md.keeps).keep) rfl (by k_is) rfl rfl rfl) (locs rfl) (fun oL L' h₁ Cl F₁ N₁ hne hltL => ?_) rfl rfl rfl (by decide))
  have hLe : L ≠ e := fun z => hne _ List.mem_cons_self z.symm
  have hLn : ∀ q ∈ news, q.1 ≠ L := fun q hq => hne q (List.mem_cons_of_mem _ (List.mem_cons_of_mem _ hq))
  have N₂ : News base L' h₁ ((e, ({ cls := .ref 41, data := .fields #[.ref t0, .none, .none, .none, .bool false, .none] } : Obj)) :: (t0, ({ cls := .type "tuple", data := .seq #[.str msg tm, .str D dt, .int pos tp] } : Obj)) :: (L, oL) :: news) := fun q hq => N₁ q (mem_i2 hq)
  clear N₁
  have hcb := peLine_bound (D.cps.toList) pos
  have hrb := peCol_bound (D.cps.toList) hp0
  have hpl := peHead_len hm hp0 hp1
  unfold peHead at hpl
  rw [← cnt4_eq D hp0, ← rfi4_eq D hp0] at hQ
  rw [← cnt4_eq D hp0] at hcb
  rw [← rfi4_eq D hp0] at hrb
  have hwv : peWords msg (D.cps.toList) pos = peWords msg (D.cps.toList) pos := rfl
  conv at hwv => lhs; unfold peWords peHead; rw [← cnt4_eq D hp0, ← rfi4_eq D hp0]
  have hnl := occ_nl D
  repeat ((fail_if_success (with_reducible show PySem.wpAt _ _ _ (exec (Stmt.If _ _ _ _) _) _ _ _)); first | (k_unfold; (try dsimp only)) | walk1 | (dsimp only; walk1))
  first | (k_unfold; (try dsimp only)) | walk1 | (dsimp only; walk1)
  repeat ((fail_if_success (with_reducible show PySem.wpAt _ _ _ (exec (Stmt.If _ _ _ _) _) _ _ _)); first | (k_unfold; (try dsimp only)) | walk1 | (dsimp only; walk1))
  first | (k_unfold; (try dsimp only)) | walk1 | (dsimp only; walk1)
  repeat ((fail_if_success (with_reducible show PySem.wpAt _ _ _ (exec (Stmt.If _ _ _ _) _) _ _ _)); first | (k_unfold; (try dsimp only)) | walk1 | (dsimp only; walk1))
  refine join_If (peWords msg (D.cps.toList) pos) (by assumption) (by assumption) ?ev ?go
  case ev =>
    clear hQ
    k_steps
    all_goals (
      first
        | (rw [show (Builtin.Str.occurrences D (Str.ofString "\n") 0 D.length 1).isEmpty = true from by assumption] at hnl)
        | (rw [show (Builtin.Str.occurrences D (Str.ofString "\n") 0 D.length 1).isEmpty = false from by assumption] at hnl)
        | (rw [show (Builtin.Str.occurrences D (Str.ofString "\n") 0 D.length 1).isEmpty = false from by simpa using ‹¬ (Builtin.Str.occurrences D (Str.ofString "\n") 0 D.length 1).isEmpty = true›] at hnl)
      first
        | (have hc : (D.cps.toList).contains 10 = false := by simpa using hnl.symm)
        | (have hc : (D.cps.toList).contains 10 = true := by simpa using hnl.symm)
      rw [hc] at hwv
      simp only [Bool.false_eq_true, if_false, if_true] at hwv
      rw [← hwv]
      first
        | exact ⟨_, _, _, rfl, rfl, by assumption, by assumption⟩
        | exact ⟨_, _, _, rfl, rfl, by assumption, fun q hq => (by assumption : News base L' _ _) q (List.mem_cons_of_mem _ hq)⟩
        | exact ⟨_, _, _, rfl, rfl, msg_same (by assumption) ((if_neg (by decide)).trans (if_pos rfl)), by assumption⟩)
  case go =>
    intro t5 k5 h5 F5 N5
    clear hwv hnl
    dsimp only at F5
    k_steps
    rename_i lt
    refine' hQ _ _ e _ _ _ _ _ _ _ _ _ _ (back3 (by assumption) (by assumption) (by assumption) ?m ?m1 ?m2 ?m3 ?ms ?n1 ?n2 ?n3 hLn) ?a1 ?a2 ?a3 ?a4
    case m => k_mem
    case m1 => k_mem
    case m2 => k_mem
    case m3 => k_mem
    case ms => intro q hq; (repeat (refine List.mem_cons_of_mem _ ?_)); exact hq
    case n1 => exact hLe.symm
    case n2 => exact Ne.symm (Nat.ne_of_lt (by assumption))
    case n3 => exact Ne.symm (Nat.ne_of_lt (by assumption))
    case a1 => exact fun q hq => ⟨hne0 q hq, allLt_ne (by assumption) q hq, allLt_ne (by assumption) q hq⟩
    case a2 => exact Nat.ne_of_lt (by assumption)
    case a3 => exact Nat.ne_of_lt (by assumption)
    case a4 => exact Nat.ne_of_lt (by assumption)

theorem pe_S {w : World} {loose : List Str} {mean : ExcName → Option Value} {mg mb : Str → Option Value} {A : Around}
    {base : Heap} {L : Addr} {m : Str → Option Value} {s : Shared} {Q E : Value → Shared → Prop} {news : List (Addr × Obj)} {msg : Str} {D : Str} {tm dt tp : Tok} {pos : Int}
    (F : Fr base L s.heap m) (X : (hd.heap_1 w.params).In base) (N : News base L s.heap news) (T : Top hd.view_39 loose mean mg mb base) (hd' : A.depth + 6 < recursionLimit) (hD : (D.cps.toList).length ≤ 2000) (hm : msg.length ≤ 20000) (hp0 : 0 ≤ pos) (hp1 : pos ≤ 10000)
    (hQ : ∀ h' k e d t o3, IsPe w.params 41 msg (.str D dt) (D.cps.toList) pos e d t o3 → Fr base L h' m → News base L h' (o3 ++ news) → (∀ q ∈ news, q.1 ≠ e ∧ q.1 ≠ d ∧ q.1 ≠ t) → e ≠ d → e ≠ t → d ≠ t → Q (.ref e) { s with heap := h', toks := k }) :
    wpAny (model PySem.Challenge.rw_kq0016_05.row.prog w) A (call (.ref 41) [.str msg tm, .str D dt, .int pos tp]) Q E s :=
  pe_newS F X N T  hd' hD hm hp0 hp1 fun h' k e d t k1 k2 k3 k4 k5 tl tc tw r a1 a2 a3 a4 => hQ h' k e d t _ ⟨k1, k2, k3, k4, k5, tm, tp, tl, tc, tw, rfl⟩ r.1 r.2 a1 a2 a3 a4
theorem pe_newB {w : World} {loose : List Str} {mean : ExcName → Option Value} {mg mb : Str → Option Value} {A : Around}
    {base : Heap} {L : Addr} {m : Str → Option Value} {s : Shared} {Q E : Value → Shared → Prop} {news : List (Addr × Obj)} {msg : Str} {D : Array UInt8} {tm dt tp : Tok} {pos : Int}
    (F : Fr base L s.heap m) (X : (hd.heap_1 w.params).In base) (N : News base L s.heap news) (T : Top hd.view_39 loose mean mg mb base) (hh : HdOk A news) (hd' : A.depth + 6 < recursionLimit) (hD : (nums D).length ≤ 2000) (hm : msg.length ≤ 20000) (hp0 : 0 ≤ pos) (hp1 : pos ≤ 10000)
    (hQ : ∀ h' k e d t k1 k2 k3 k4 k5 tl tc tw, Fr base L h' m ∧ News base L h' ((e, peO 41 d (.ref t) .none .none .none (.bool false) .none) :: (d, peD w.params k1 k2 k3 k4 k5 (.str msg tm) (.bytes D dt) (.int pos tp) (.int (peLine (nums D) pos) tl) (.int (peCol (nums D) pos) tc)) ::
        (t, ({ cls := .type "tuple", data := .seq #[.str (peWords msg (nums D) pos) tw] } : Obj)) :: news) → (∀ q ∈ news, q.1 ≠ e ∧ q.1 ≠ d ∧ q.1 ≠ t) → e ≠ d → e ≠ t → d ≠ t → Q (.ref e) { s with heap := h', toks := k }) :
    wpAny (model PySem.Challenge.rw_kq0016_05.row.prog w) A (call (.ref 41) [.str msg tm, .bytes D dt, .int pos tp]) Q E s := by
  obtain ⟨hp, g, d, t, os⟩ := s
  obtain ⟨nm, q, NC, bs, hdct, sn, sub, ab, col, dd, k0, k1, k2, k3, k5, hC, rfl⟩ := cls41 w.params
  obtain ⟨mN, hN, hi⟩ := ns40 (X.keeps F.keep)
  refine wpAny_call_exc_init PySem.F.excBase_Exception (X.keeps F.keep _ _ hC) hN hi (X.keeps F.keep 38 _ rfl) rfl (fun h' e Md => ?_) (by show (3 : Nat) ≤ sizeLine; decide)
  obtain ⟨t0, he, ht0n, ht0⟩ := Md.there
  have hne0 : ∀ q ∈ news, q.1 ≠ e := fun q hq z => by have := (N q hq).1; rw [z, Md.new] at this; cases this
  have hnt : ∀ q ∈ news, q.1 ≠ t0 := fun q hq z => by have := (N q hq).1; rw [z, ht0n] at this; cases this
  have N1 : News base L h' ((e, ({ cls := .ref 41, data := .fields #[.ref t0, .none, .none, .none, .bool false, .none] } : Obj)) :: (t0, ({ cls := .type "tuple", data := .seq #[.str msg tm, .bytes D dt, .int pos tp] } : Obj)) :: news) := by
    have hLe : e ≠ L := fun z => by
      obtain ⟨oL, _, _, hL, _⟩ := F.ns
      have := Md.new
      rw [z] at this
      rw [this] at hL; cases hL
    have hLt : t0 ≠ L := fun z => by
      obtain ⟨oL, _, _, hL, _⟩ := F.ns
      rw [← z] at hL
      rw [ht0n] at hL; cases hL
    intro q hq
    rcases List.mem_cons.mp hq with rfl | hq
    · exact ⟨he, hLe, none_of F.keep Md.new⟩
    · rcases List.mem_cons.mp hq with rfl | hq
      · exact ⟨ht0, hLt, none_of F.keep ht0n⟩
      · exact ⟨Md.keeps _ _ (N q hq).1, (N q hq).2⟩
  have hte : t0 ≠ e := fun z => by rw [z, he] at ht0; cases ht0
  refine wpAny_call (enterS (F.keeps Md.keeps) X N1 T rfl (by kernel_rfl) (by simp only [depth_under_make]; omega) (binds_K (X.keeps (F.keeps Md.keeps).keep) rfl (by k_is) rfl rfl rfl) (locs rfl) (fun oL L' h₁ Cl F₁ N₁ hne hltL => ?_) rfl rfl rfl (by decide))
  have hLe : L ≠ e := fun z => hne _ List.mem_cons_self z.symm
  have hLn : ∀ q ∈ news, q.1 ≠ L := fun q hq => hne q (List.mem_cons_of_mem _ (List.mem_cons_of_mem _ hq))
  have N₂ : News base L' h₁ ((e, ({ cls := .ref 41, data := .fields #[.ref t0, .none, .none, .none, .bool false, .none] } : Obj)) :: (t0, ({ cls := .type "tuple", data := .seq #[.str msg tm, .bytes D dt, .int pos tp] } : Obj)) :: (L, oL) :: news) := fun q hq => N₁ q (mem_i2 hq)
  clear N₁
  have hcb := peLine_bound (nums D) pos
  have hrb := peCol_bound (nums D) hp0
  have hpl := peHead_len hm hp0 hp1
  unfold peHead at hpl
  rw [← bcnt_eq D hp0, ← brfi_eq D hp0] at hQ
  rw [← bcnt_eq D hp0] at hcb
  rw [← brfi_eq D hp0] at hrb
  have hwv : peWords msg (nums D) pos = peWords msg (nums D) pos := rfl
  conv at hwv => lhs; unfold peWords peHead; rw [← bcnt_eq D hp0, ← brfi_eq D hp0]
  have hnl := find_nl D
  repeat ((fail_if_success (with_reducible show PySem.wpAt _ _ _ (exec (Stmt.If _ _ _ _) _) _ _ _)); first | (k_unfold; (try dsimp only)) | walk1 | (dsimp only; walk1))
  first | (k_unfold; (try dsimp only)) | walk1 | (dsimp only; walk1)
  repeat ((fail_if_success (with_reducible show PySem.wpAt _ _ _ (exec (Stmt.If _ _ _ _) _) _ _ _)); first | (k_unfold; (try dsimp only)) | walk1 | (dsimp only; walk1))
  first | (k_unfold; (try dsimp only)) | walk1 | (dsimp only; walk1)
  repeat ((fail_if_success (with_reducible show PySem.wpAt _ _ _ (exec (Stmt.If _ _ _ _) _) _ _ _)); first | (k_unfold; (try dsimp only)) | walk1 | (dsimp only; walk1))
  refine join_If (peWords msg (nums D) pos) (by assumption) (by assumption) ?ev ?go
  case ev =>
    clear hQ
    k_steps
    all_goals (
      first
        | (rw [show (Builtin.Bytes.find? D #[10] 0 D.size).isSome = true from by assumption] at hnl)
        | (rw [show (Builtin.Bytes.find? D #[10] 0 D.size).isSome = false from by assumption] at hnl)
        | (rw [show (Builtin.Bytes.find? D #[10] 0 D.size).isSome = false from by simpa using ‹¬ (Builtin.Bytes.find? D #[10] 0 D.size).isSome = true›] at hnl)
      first
        | (have hc : (nums D).contains 10 = false := by simpa using hnl.symm)
        | (have hc : (nums D).contains 10 = true := by simpa using hnl.symm)
      rw [hc] at hwv
      simp only [Bool.false_eq_true, if_false, if_true] at hwv
      rw [← hwv]
      first
        | exact ⟨_, _, _, rfl, rfl, by assumption, by assumption⟩
        | exact ⟨_, _, _, rfl, rfl, by assumption, fun q hq => (by assumption : News base L' _ _) q (List.mem_cons_of_mem _ hq)⟩
        | exact ⟨_, _, _, rfl, rfl, msg_same (by assumption) ((if_neg (by decide)).trans (if_pos rfl)), by assumption⟩)
  case go =>
    intro t5 k5 h5 F5 N5
    clear hwv hnl
    dsimp only at F5
    k_steps
    rename_i lt
    refine' hQ _ _ e _ _ _ _ _ _ _ _ _ _ (back3 (by assumption) (by assumption) (by assumption) ?m ?m1 ?m2 ?m3 ?ms ?n1 ?n2 ?n3 hLn) ?a1 ?a2 ?a3 ?a4
    case m => k_mem
    case m1 => k_mem
    case m2 => k_mem
    case m3 => k_mem
    case ms => intro q hq; (repeat (refine List.mem_cons_of_mem _ ?_)); exact hq
    case n1 => exact hLe.symm
    case n2 => exact Ne.symm (Nat.ne_of_lt (by assumption))
    case n3 => exact Ne.symm (Nat.ne_of_lt (by assumption))
    case a1 => exact fun q hq => ⟨hne0 q hq, allLt_ne (by assumption) q hq, allLt_ne (by assumption) q hq⟩
    case a2 => exact Nat.ne_of_lt (by assumption)
    case a3 => exact Nat.ne_of_lt (by assumption)
    case a4 => exact Nat.ne_of_lt (by assumption)

theorem pe_B {w : World} {loose : List Str} {mean : ExcName → Option Value} {mg mb : Str → Option Value} {A : Around}
    {base : Heap} {L : Addr} {m : Str → Option Value} {s : Shared} {Q E : Value → Shared → Prop} {news : List (Addr × Obj)} {msg : Str} {D : Array UInt8} {tm dt tp : Tok} {pos : Int}
    (F : Fr base L s.heap m) (X : (hd.heap_1 w.params).In base) (N : News base L s.heap news) (T : Top hd.view_39 loose mean mg mb base) (hh : HdOk A news) (hd' : A.depth + 6 < recursionLimit) (hD : (nums D).length ≤ 2000) (hm : msg.length ≤ 20000) (hp0 : 0 ≤ pos) (hp1 : pos ≤ 10000)
    (hQ : ∀ h' k e d t o3, IsPe w.params 41 msg (.bytes D dt) (nums D) pos e d t o3 → Fr base L h' m → News base L h' (o3 ++ news) → (∀ q ∈ news, q.1 ≠ e ∧ q.1 ≠ d ∧ q.1 ≠ t) → e ≠ d → e ≠ t → d ≠ t → Q (.ref e) { s with heap := h', toks := k }) :
    wpAny (model PySem.Challenge.rw_kq0016_05.row.prog w) A (call (.ref 41) [.str msg tm, .bytes D dt, .int pos tp]) Q E s :=
  pe_newB F X N T hh hd' hD hm hp0 hp1 fun h' k e d t k1 k2 k3 k4 k5 tl tc tw r a1 a2 a3 a4 => hQ h' k e d t _ ⟨k1, k2, k3, k4, k5, tm, tp, tl, tc, tw, rfl⟩ r.1 r.2 a1 a2 a3 a4

/-- PatternError(msg, given, pos) -/
theorem pe_c {w : World} {loose : List Str} {mean : ExcName → Option Value} {mg mb : Str → Option Value} {A : Around}
    {base : Heap} {L : Addr} {m : Str → Option Value} {s : Shared} {Q E : Value → Shared → Prop} {news : List (Addr × Obj)} {msg : Str} {D : Str} {b : Bool} {gv : Value} {tm tp : Tok} {pos : Int}
    (F : Fr base L s.heap m) (X : (hd.heap_1 w.params).In base) (N : News base L s.heap news) (T : Top hd.view_39 loose mean mg mb base) (hh : HdOk A news) (hd' : A.depth + 6 < recursionLimit) (hg : GivenIs b gv D) (hD : D.length ≤ 2000) (hm : msg.length ≤ 20000) (hp0 : 0 ≤ pos) (hp1 : pos ≤ 10000)
    (hQ : ∀ h' k e d t o3, IsPe w.params 41 msg gv D.cps.toList pos e d t o3 → Fr base L h' m → News base L h' (o3 ++ news) → (∀ q ∈ news, q.1 ≠ e ∧ q.1 ≠ d ∧ q.1 ≠ t) → e ≠ d → e ≠ t → d ≠ t → Q (.ref e) { s with heap := h', toks := k }) :
    wpAny (model PySem.Challenge.rw_kq0016_05.row.prog w) A (call (.ref 41) [.str msg tm, gv, .int pos tp]) Q E s := by
  have hD' : D.cps.toList.length ≤ 2000 := by simpa [Str.length] using hD
  rcases hg with ⟨rfl, t, rfl⟩ | ⟨rfl, B, t, rfl, hB⟩
  · exact pe_S F X N T hd' hD' hm hp0 hp1 hQ
  · rw [← hB] at hQ hD'
    exact pe_B F X N T hh hd' hD' hm hp0 hp1 hQ
end Mine
end

local macro_rules | `(tactic| walk_at "compareOp Eq str str") => wl 0 "" "" `eq_strR "'w_" "" "" "" []
section
open PySem PySem.W PySem.Calls PySem.Spec PyProof.Rows
set_option maxRecDepth 100000
set_option maxHeartbeats 2000000
namespace Mine
theorem anew2 : True := by
  w_top off
  exact True.intro
open TI
theorem fillNX5 (P : Params) : hd.heap_1 P = hd.heap_1 P ∧ PySem.Challenge.rw_kq0016_05 = PySem.Challenge.rw_kq0016_05 := by
  k_fill
  exact ⟨rfl, rfl⟩
/-- one entry of an instance's dict -/
abbrev ent (P : Params) (k : Str) (t : Tok) (v : Value) : DictEntry := ⟨PyData.keyHash P k, .str k t, v⟩
/-- the tokenizer's dict -/
abbrev tokD (P : Params) (k1 k2 k3 k4 k5 : Tok) (b : Bool) (sv dv iv nv : Value) : Obj :=
  dictOf [ent P (Str.ofString "istext") k1 (.bool b), ent P (Str.ofString "string") k2 sv, ent P (Str.ofString "decoded_string") k3 dv, ent P (Str.ofString "index") k4 iv, ent P (Str.ofString "next") k5 nv] 5

local macro_rules | `(tactic| walk_at "subscriptTail") => wl 1 "" "subscriptTail _ _ Value.str _ _ @2 Value.int _ _ @2 @4" `str_out "'W'o'o_" "" "h' tk' e' X'" "" []
local macro_rules | `(tactic| walk_at "subscriptTail") => wl 1 "" "subscriptTail _ _ Value.str _ _ @2 Value.int _ _ @2 @4" `str_in "'w'o'o'o_" "" "" "" []
local macro_rules | `(tactic| walk_at "inplaceOp Add str str") => wl 0 "" "" `iadd_str1 "'o'o'o_" "" "" "" []
theorem next_c {w : World} {loose : List Str} {mean : ExcName → Option Value} {mg mb : Str → Option Value} {A : Around} {l : List Env} {ce : Env}
    {base : Heap} {L : Addr} {m : Str → Option Value} {s : Shared} {Q E : Value → Shared → Prop} {new frs : List (Addr × Obj)}
    {x dx : Addr} {k1 k2 k3 k4 k5 : Tok} {b : Bool} {sv : Value} {D : Str} {dt : Tok} {i : Nat} {it : Tok} {nv : Value}
    (F : Fr base L s.heap m) (X : (hd.heap_1 w.params).In base) (N : News base L s.heap ((x, instObj 133 dx) :: (dx, tokD w.params k1 k2 k3 k4 k5 b sv (.str D dt) (.int i it) nv) :: (new ++ frs))) (T : Top hd.view_39 loose mean mg mb base)
    (Fs : Frs l frs) (hcs : EvAt ce L) (hdx : ∀ q ∈ new ++ frs, q.1 ≠ dx) (hxf : ∀ q ∈ frs, q.1 ≠ x) (hap : ∀ q ∈ new, q.1 ∉ frs.map (·.1)) (hA : A.frames = some (ce :: l)) (hh : A.handled = none) (hd' : A.depth + 6 < recursionLimit)
    (hD : D.length ≤ 2000) (hi : i ≤ 3000)
    (hl : ¬ (D.cps.toList[i]? = some 92 ∧ D.cps.toList[i + 1]? = none))
    (hE : D.cps.toList[i]? = none → ∀ h' frs' tk, SameUp frs frs' → Frs l frs' → Fr base L h' m → News base L h' ((x, instObj 133 dx) :: (dx, tokD w.params k1 k2 k3 k4 k5 b sv (.str D dt) (.int i it) .none) :: (new ++ frs')) → Q .none { s with heap := h', toks := tk })
    (h1 : ∀ c, D.cps.toList[i]? = some c → c ≠ 92 → ∀ h' tk it' nt, Fr base L h' m → News base L h' ((x, instObj 133 dx) :: (dx, tokD w.params k1 k2 k3 k4 k5 b sv (.str D dt) (.int ((i + 1 : Nat) : Int) it') (.str (one c) nt)) :: (new ++ frs)) → Q .none { s with heap := h', toks := tk })
    (h2 : ∀ c, D.cps.toList[i]? = some 92 → D.cps.toList[i + 1]? = some c → ∀ h' tk it' nt, Fr base L h' m → News base L h' ((x, instObj 133 dx) :: (dx, tokD w.params k1 k2 k3 k4 k5 b sv (.str D dt) (.int ((i + 2 : Nat) : Int) it') (.str (one 92 ++ one c) nt)) :: (new ++ frs)) → Q .none { s with heap := h', toks := tk }) :
    wpAny (model PySem.Challenge.rw_kq0016_05.row.prog w) A (call (.ref 65) [.ref x]) Q E s := by
  have hxd : x ≠ dx := inst_ne N List.mem_cons_self (List.mem_cons_of_mem _ List.mem_cons_self)
  refine wpAny_call (enterV (ev := ce) F X N T Fs rfl (by kernel_rfl) (by omega) (BindsTo.of_eq rfl) (locs rfl) (fun oL L' h₁ Cl Fs₁ F₁ N₁ hne hltL => ?_) hcs rfl rfl rfl (by decide))
  have N₂ : News base L' h₁ ((x, instObj 133 dx) :: (dx, tokD w.params k1 k2 k3 k4 k5 b sv (.str D dt) (.int i it) nv) :: (new ++ ((L, oL) :: frs))) := fun q hq => N₁ q (mem_i1 hq)
  have hLd : L ≠ dx := Ne.symm (hne (dx, tokD w.params k1 k2 k3 k4 k5 b sv (.str D dt) (.int i it) nv) (List.mem_cons_of_mem _ List.mem_cons_self))
  have hLx : L ≠ x := Ne.symm (hne (x, instObj 133 dx) List.mem_cons_self)
  have hrd : ∀ q ∈ new ++ ((L, oL) :: frs), q.1 ≠ dx := fun q hq => by
    simp only [List.mem_cons, List.mem_append] at hq
    rcases hq with hq | rfl | hq
    · exact hdx q (List.mem_append_left _ hq)
    · exact hLd
    · exact hdx q (List.mem_append_right _ hq)
  clear N₁
  have hnL : ∀ q ∈ new ++ frs, q.1 ≠ L := fun q hq => hne q (List.mem_cons_of_mem _ (List.mem_cons_of_mem _ hq))
  have hi0 : (0 : Int) ≤ (i : Int) := Int.natCast_nonneg i
  have hDl : D.cps.toList.length = D.length := by simp [Str.length]
  cases hg : D.cps.toList[i]? with
  | none =>
    have hi1 : (D.length : Int) ≤ i := by have := List.getElem?_eq_none_iff.mp hg; omega
    k_steps
    rename_i e' X'
    have hfe : ∀ q ∈ (x, instObj 133 dx) :: (dx, tokD w.params k1 k2 k3 k4 k5 b sv (.str D dt) (.int i it) nv) :: new, q.1 ∉ ((L, oL) :: frs).map (·.1) := fun q hq hm => by
      rcases List.mem_map.mp hm with ⟨r, hr, hqr⟩
      rcases List.mem_cons.mp hr with rfl | hr
      · simp only [List.mem_cons] at hq
        rcases hq with rfl | rfl | hq
        · exact hLx hqr
        · exact hLd hqr
        · exact hne q (List.mem_cons_of_mem _ (List.mem_cons_of_mem _ (List.mem_append_left _ hq))) hqr.symm
      · simp only [List.mem_cons] at hq
        rcases hq with rfl | rfl | hq
        · exact hxf r hr hqr
        · exact hdx r (List.mem_append_right _ hr) hqr
        · exact hap q hq (hqr ▸ List.mem_map_of_mem hr)
    refine caughtN (A₀ := A) (X := "IndexError") (T' := "IndexError") (x := Str.ofString "IndexError") X' hA Fs₁ (by assumption) (new := (x, instObj 133 dx) :: (dx, tokD w.params k1 k2 k3 k4 k5 b sv (.str D dt) (.int i it) nv) :: new) (by assumption) hfe X T (by k_is) (by kernel_rfl) (by decide) (by rw [isSubtype_type]; kernel_rfl) (by rw [isSubtype_type]; kernel_rfl) (by rw [isSubtype_type]; kernel_rfl) ?_
    intro h' frs' Tb oT oe a0 SU Fs' F' N' ne1 ne2 XA
    obtain ⟨sl, qs, rfl, SU'⟩ := sameUp_cons SU
    have N3 : News base L' h' ((x, instObj 133 dx) :: (dx, tokD w.params k1 k2 k3 k4 k5 b sv (.str D dt) (.int i it) nv) :: (new ++ ((L, { oL with slots := sl }) :: qs))) := fun q hq => N' q (by simp only [List.mem_cons, List.mem_append, List.cons_append] at hq ⊢; grind)
    have hrd' := up_ne hrd SU
    clear N' hrd
    k_steps
    obtain ⟨r1, r2⟩ := fin2 Cl (by assumption) (by assumption) hLx hLd (up_ne hnL SU')
    exact hE hg _ _ _ SU' Fs'.2.2.2 r1 r2
  | some c =>
    have hi1 : (i : Int) < D.length := by have := (List.getElem?_eq_some_iff.mp hg).1; omega
    have e1 := item_one hg
    have o1 := one_len c
    by_cases hc : c = 92
    · subst hc
      cases hg2 : D.cps.toList[i + 1]? with
      | none => exact absurd ⟨hg, hg2⟩ hl
      | some c2 =>
        have hi2 : (i : Int) + 1 < D.length := by have := (List.getElem?_eq_some_iff.mp hg2).1; omega
        have e2 := item_one1 hg2
        have o2 := one_len c2
        have q1 : (one 92 == Str.ofString "\\") = true := by rw [bs_one, one_beq]; rfl
        k_steps
        obtain ⟨r1, r2⟩ := fin2 (sl := oL.slots) Cl (by assumption) (by assumption) hLx hLd hnL
        exact h2 c2 hg hg2 _ _ _ _ r1 r2
    · have q1 : (one c == Str.ofString "\\") = false := by rw [bs_one, one_beq]; simpa using hc
      k_steps
      obtain ⟨r1, r2⟩ := fin2 (sl := oL.slots) Cl (by assumption) (by assumption) hLx hLd hnL
      exact h1 c hg hc _ _ _ _ r1 r2
theorem exc_ctx {oe oT : Obj} {cls a0 : Value} {dct : Option Addr} {T : Addr} {fl : Value} (X : ExcAt oe oT cls dct a0 .none T fl) : ∃ vs, oe.data = .fields vs ∧ vs[2]? = some .none := by
  obtain ⟨vs, hd, _, _, h2⟩ := X.data
  exact ⟨vs, hd, h2⟩
local macro_rules | `(tactic| walk_at "call builtin:len") => wl 3 "" "" `len_given "'w'o_" "" "t' k'" "" []
/-- «self.__next()» where a lone backslash would have to be read -/
theorem next_lone {w : World} {loose : List Str} {mean : ExcName → Option Value} {mg mb : Str → Option Value} {A : Around} {l : List Env} {ce : Env}
    {base : Heap} {L : Addr} {m : Str → Option Value} {s : Shared} {Q E : Value → Shared → Prop} {new frs : List (Addr × Obj)}
    {x dx : Addr} {k1 k2 k3 k4 k5 : Tok} {b : Bool} {gv : Value} {D : Str} {dt : Tok} {i : Nat} {it : Tok} {nv : Value}
    (F : Fr base L s.heap m) (X : (hd.heap_1 w.params).In base) (N : News base L s.heap ((x, instObj 133 dx) :: (dx, tokD w.params k1 k2 k3 k4 k5 b gv (.str D dt) (.int i it) nv) :: (new ++ frs))) (T : Top hd.view_39 loose mean mg mb base)
    (Fs : Frs l frs) (hcs : EvAt ce L) (hdx : ∀ q ∈ new ++ frs, q.1 ≠ dx) (hxf : ∀ q ∈ frs, q.1 ≠ x) (hap : ∀ q ∈ new, q.1 ∉ frs.map (·.1)) (hA : A.frames = some (ce :: l)) (hh : A.handled = none) (hd' : A.depth + 16 < recursionLimit)
    (hD : D.length ≤ 2000) (hi : i ≤ 3000) (hg : GivenIs b gv D)
    (hl : D.cps.toList[i]? = some 92 ∧ D.cps.toList[i + 1]? = none)
    (hE : RaisedE w.params base L m l ((x, instObj 133 dx) :: (dx, tokD w.params k1 k2 k3 k4 k5 b gv (.str D dt) (.int i it) nv) :: new) frs (Str.ofString "bad escape (end of pattern)") gv D.cps.toList ((D.length : Int) - 1) E s) :
    wpAny (model PySem.Challenge.rw_kq0016_05.row.prog w) A (call (.ref 65) [.ref x]) Q E s := by
  have hxd : x ≠ dx := inst_ne N List.mem_cons_self (List.mem_cons_of_mem _ List.mem_cons_self)
  refine wpAny_call (enterV (ev := ce) F X N T Fs rfl (by kernel_rfl) (by omega) (BindsTo.of_eq rfl) (locs rfl) (fun oL L' h₁ Cl Fs₁ F₁ N₁ hne hltL => ?_) hcs rfl rfl rfl (by decide))
  have N₂ : News base L' h₁ ((x, instObj 133 dx) :: (dx, tokD w.params k1 k2 k3 k4 k5 b gv (.str D dt) (.int i it) nv) :: (new ++ ((L, oL) :: frs))) := fun q hq => N₁ q (mem_i1 hq)
  have hLd : L ≠ dx := Ne.symm (hne (dx, tokD w.params k1 k2 k3 k4 k5 b gv (.str D dt) (.int i it) nv) (List.mem_cons_of_mem _ List.mem_cons_self))
  have hLx : L ≠ x := Ne.symm (hne (x, instObj 133 dx) List.mem_cons_self)
  have hrd : ∀ q ∈ new ++ ((L, oL) :: frs), q.1 ≠ dx := fun q hq => by
    simp only [List.mem_cons, List.mem_append] at hq
    rcases hq with hq | rfl | hq
    · exact hdx q (List.mem_append_left _ hq)
    · exact hLd
    · exact hdx q (List.mem_append_right _ hq)
  clear N₁
  have hnL : ∀ q ∈ new ++ frs, q.1 ≠ L := fun q hq => hne q (List.mem_cons_of_mem _ (List.mem_cons_of_mem _ hq))
  have hi0 : (0 : Int) ≤ (i : Int) := Int.natCast_nonneg i
  have hDl : D.cps.toList.length = D.length := by simp [Str.length]
  obtain ⟨hl1, hl2⟩ := hl
  have hi1 : (i : Int) < D.length := by have := (List.getElem?_eq_some_iff.mp hl1).1; omega
  have hi2 : (D.length : Int) ≤ (i : Int) + 1 := by have := List.getElem?_eq_none_iff.mp hl2; omega
  have e1 := item_one hl1
  have o1 := one_len 92
  have q1 : (one 92 == Str.ofString "\\") = true := by rw [bs_one, one_beq]; rfl
  have hfe : ∀ q ∈ (x, instObj 133 dx) :: (dx, tokD w.params k1 k2 k3 k4 k5 b gv (.str D dt) (.int i it) nv) :: new, q.1 ∉ ((L, oL) :: frs).map (·.1) := fun q hq hm => by
    rcases List.mem_map.mp hm with ⟨r, hr, hqr⟩
    rcases List.mem_cons.mp hr with rfl | hr
    · simp only [List.mem_cons] at hq
      rcases hq with rfl | rfl | hq
      · exact hLx hqr
      · exact hLd hqr
      · exact hne q (List.mem_cons_of_mem _ (List.mem_cons_of_mem _ (List.mem_append_left _ hq))) hqr.symm
    · simp only [List.mem_cons] at hq
      rcases hq with rfl | rfl | hq
      · exact hxf r hr hqr
      · exact hdx r (List.mem_append_right _ hr) hqr
      · exact hap q hq (hqr ▸ List.mem_map_of_mem hr)
  k_steps
  rename_i e' X'
  refine caughtN (A₀ := A) (X := "IndexError") (T' := "IndexError") (x := Str.ofString "IndexError") X' hA Fs₁ (by assumption) (new := (x, instObj 133 dx) :: (dx, tokD w.params k1 k2 k3 k4 k5 b gv (.str D dt) (.int i it) nv) :: new) (by assumption) hfe X T (by k_is) (by kernel_rfl) (by decide) (by rw [isSubtype_type]; kernel_rfl) (by rw [isSubtype_type]; kernel_rfl) (by rw [isSubtype_type]; kernel_rfl) ?_
  intro h' frs' Tb oT oe a0 SU Fs' F' N' ne1 ne2 XA
  obtain ⟨sl, qs, rfl, SU'⟩ := sameUp_cons SU
  obtain ⟨vse, hde, hce⟩ := exc_ctx XA
  have N3 : News base L' h' ((e', oe) :: (x, instObj 133 dx) :: (dx, tokD w.params k1 k2 k3 k4 k5 b gv (.str D dt) (.int i it) nv) :: (new ++ ((L, { oL with slots := sl }) :: qs))) := fun q hq => N' q (by simp only [List.mem_cons, List.mem_append, List.cons_append] at hq ⊢; grind)
  have hHd : ∀ (A' : Around) rest, A'.handled = some (.ref e') → HdOk A' ((e', oe) :: rest) := fun A' rest h => .inr ⟨e', oe, vse, h, List.mem_cons_self, hde, hce⟩
  have ne3 : ∀ q ∈ (x, instObj 133 dx) :: (dx, tokD w.params k1 k2 k3 k4 k5 b gv (.str D dt) (.int i it) nv) :: (new ++ ((L, { oL with slots := sl }) :: qs)), q.1 ≠ e' := fun q hq => by
    have up : ∀ r ∈ (L, { oL with slots := sl }) :: qs, ∃ r' ∈ (L, oL) :: frs, r.1 = r'.1 := SU.fwd
    simp only [List.mem_cons, List.mem_append] at hq
    rcases hq with rfl | rfl | hq | hq
    · exact ne1 (x, _) (by simp)
    · exact ne1 (dx, _) (by simp)
    · exact ne1 q (by simp [hq])
    · obtain ⟨r', hr', z⟩ := up q (by simpa using hq)
      rw [z]; exact ne1 r' (List.mem_append_right _ hr')
  clear N' hrd hfe; (try clear N); (try clear N₂)
  have hg' := hg
  rcases hg with ⟨rfl, gt, rfl⟩ | ⟨rfl, gB, gt, rfl, gh⟩
  all_goals (
    repeat ((fail_if_success (with_reducible show wpAny _ _ (exec (Stmt.Raise _ _ _) _) _ _ _)); first | (k_unfold; (try dsimp only)) | walk1 | (dsimp only; walk1))
    refine exec_raise_from (C := 41) (hx := e') (by rfl) ?_
    k_steps
    refine pe_c (D := D) (by k_asm) X (by with_reducible assumption) T (hHd _ _ rfl) ?dd hg' hD ?hm (by omega) (by omega) ?_
    case dd => show A.depth + 1 + 6 < recursionLimit; omega
    case hm => decide +kernel
    intro h'' k'' e2 d t o3 pe F5 N5 l1 l2 l3 l4
    obtain ⟨nm', q', NC, bs, hdct, sn, sub, ab, col, dd, c0, c1, c2, c3, c5, hC, rfl⟩ := cls41 w.params
    have SUt := ‹SameUp frs qs›
    refine raise_out2 (mid := (x, instObj 133 dx) :: (dx, _) :: new) hC X pe F5 N5 Cl hde hce l1 l2 l3 l4 (Around.frames_deeper hA) rfl (by assumption) ?hmid ?hLf (hE.up SUt)
    case hmid => exact ffmid (ff hdx hxf hap hLd hLx hnL SUt).1 (ff hdx hxf hap hLd hLx hnL SUt).2.1 (ff hdx hxf hap hLd hLx hnL SUt).2.2
    case hLf => exact ffL hLd hLx hnL SUt)
end Mine
end

section
open PySem PySem.W PySem.Calls PySem.Spec PyProof.Rows
set_option maxRecDepth 100000
namespace Mine
/-- what a row asks of the reader: its name, its end, where it begins and what is behind -/
structure RowAsk (D : Str) (ns : List Str) (e : Str) (bh : Int) (p : Nat) (sgs : List Str) (p' : Nat) (rest : List Str) : Prop where
  pos : ∀ z ∈ ns, 1 ≤ z.length
  off : e ∉ ns
  way : (sgs = ns ++ e :: rest ∧ p' = p + (cat ns).length + e.length ∧ bh = (p' : Int)) ∨ (sgs = ns ∧ rest = [] ∧ bh = -1 ∧ p' = p + (cat ns).length ∧ p' = D.length)
end Mine
end

section
open PySem PySem.W PySem.Calls PySem.Spec PyProof.Rows
set_option maxRecDepth 100000
namespace Mine
/-- the signs of D from i on; behind them the end, or a backslash alone -/
def SignsX (lone : Bool) (D : Str) : Nat → List Str → Prop
  | i, [] => if lone then D.cps.toList[i]? = some 92 ∧ D.cps.toList[i + 1]? = none else D.cps.toList[i]? = none
  | i, y :: r => (∃ c, D.cps.toList[i]? = some c ∧ c ≠ 92 ∧ y = one c ∧ SignsX lone D (i + 1) r) ∨ (∃ c, D.cps.toList[i]? = some 92 ∧ D.cps.toList[i + 1]? = some c ∧ y = one 92 ++ one c ∧ SignsX lone D (i + 2) r)
/-- a reader at index i whose next is nv: the sign that is next begins at p, and sgs are the signs from there -/
def RdX (lone : Bool) (D : Str) (i : Nat) (nv : Value) (p : Nat) : List Str → Prop
  | [] => lone = false ∧ nv = .none ∧ i = p ∧ D.cps.toList[p]? = none
  | y :: r => ∃ t, nv = .str y t ∧ i = p + y.length ∧ 1 ≤ y.length ∧ y.length ≤ 2 ∧ i ≤ D.length ∧ SignsX lone D i r
theorem RdX.signs {lone : Bool} {D : Str} {i : Nat} {nv : Value} {p : Nat} {sgs : List Str} (h : RdX lone D i nv p sgs) : SignsX lone D i sgs.tail := by
  cases sgs with
  | nil => obtain ⟨rfl, _, rfl, h⟩ := h; exact h
  | cons y r => obtain ⟨t, _, _, _, _, _, h⟩ := h; exact h
theorem RdX.ok {lone : Bool} {D : Str} {i : Nat} {nv : Value} {p : Nat} {sgs : List Str} (h : RdX lone D i nv p sgs) : NextOk nv ∧ (i : Int) - nlen nv = p := by
  cases sgs with
  | nil => obtain ⟨_, rfl, rfl, h⟩ := h; exact ⟨trivial, by simp [nlen]⟩
  | cons y r => obtain ⟨t, rfl, rfl, h1, h2, _⟩ := h; exact ⟨⟨h1, h2⟩, by simp [nlen]⟩
theorem SignsX.lone_at {D : Str} {i : Nat} (h : SignsX true D i []) : D.cps.toList[i]? = some 92 ∧ D.cps.toList[i + 1]? = none := by simpa [SignsX] using h
/-- what getuntil gives, and where the reader stands then -/
def GetsX (lone : Bool) (D tv m1 m2 : Str) (sgs : List Str) (p : Nat) (r : Str ⊕ (Str × Int)) (p' : Nat) (rest : List Str) : Prop :=
  (∃ pre, sgs = pre ++ tv :: rest ∧ tv ∉ pre ∧ ¬ (rest = [] ∧ lone = true) ∧ pre ≠ [] ∧ r = .inl (cat pre) ∧ p' = p + (cat pre).length + tv.length) ∨
  (sgs = tv :: rest ∧ ¬ (rest = [] ∧ lone = true) ∧ r = .inr (m1, (p : Int) + tv.length - 1) ∧ p' = p + tv.length) ∨
  (lone = false ∧ sgs = [] ∧ rest = [] ∧ r = .inr (m1, (p : Int)) ∧ p' = p) ∨
  (lone = false ∧ tv ∉ sgs ∧ sgs ≠ [] ∧ rest = [] ∧ r = .inr (m2, (p : Int)) ∧ p' = p + (cat sgs).length) ∨
  (lone = true ∧ ∃ pre y, sgs = pre ++ [y] ∧ tv ∉ pre ∧ rest = [y] ∧ r = .inr (Str.ofString "bad escape (end of pattern)", (D.length : Int) - 1) ∧ p' = p + (cat pre).length)
theorem same_text {D : Str} {t t' : Tok} : ∀ u v, SameV u (.str D t') → SameV v (.str D t) → SameV u v := by
  intro u v h1 h2
  cases u <;> cases v <;> simp_all [SameV]
theorem same_octets {B : Array UInt8} {t t' : Tok} : ∀ u v, SameV u (.bytes B t') → SameV v (.bytes B t) → SameV u v := by
  intro u v h1 h2
  cases u <;> cases v <;> simp_all [SameV]
end Mine
end

local macro_rules | `(tactic| walk_at "z1") => `(tactic| first | ((with_reducible show Fr _ _ _ _); k_asm) | ((with_reducible show News _ _ _ _); k_asm) | ((with_reducible show Frag.In _ _); k_asm) | ((with_reducible show Top _ _ _ _ _ _); k_asm) | ((with_reducible show Around.frames _ = _); exact Around.frames_deeper (by assumption)))
local macro_rules | `(tactic| walk_at "z2") => `(tactic| ((with_reducible show (_ : Prop)); first | with_reducible assumption | ((with_reducible show Around.handled _ = none); assumption) | ((with_reducible show EvAt _ _); first | exact EvAt.of rfl | exact EvAt.ofC rfl) | ((with_reducible show _ = ScopeKind.function); rfl) | ((with_reducible show _ < recursionLimit); (show _ + 1 + _ < _); omega) | ((with_reducible show _ < recursionLimit); (show _ + 1 + 1 + _ < _); omega) | ((with_reducible show _ ≤ _); omega)))
section
open PySem PySem.W PySem.Calls PySem.Spec PyProof.Rows
set_option maxRecDepth 100000
set_option maxHeartbeats 2000000
namespace Mine
theorem anew3 : True := by
  w_top off
  exact True.intro
local macro_rules | `(tactic| walk_at "pad") => `(tactic| fail)
open TI
theorem fillTX5 (P : Params) : hd.heap_1 P = hd.heap_1 P ∧ PySem.Challenge.rw_kq0016_05 = PySem.Challenge.rw_kq0016_05 := by
  k_fill
  exact ⟨rfl, rfl⟩

theorem tell_c {w : World} {loose : List Str} {mean : ExcName → Option Value} {mg mb : Str → Option Value} {A : Around}
    {base : Heap} {L : Addr} {m : Str → Option Value} {s : Shared} {Q E : Value → Shared → Prop} {rest : List (Addr × Obj)}
    {x dx : Addr} {k1 k2 k3 k4 k5 : Tok} {b : Bool} {sv dv : Value} {i : Int} {it : Tok} {nv : Value}
    (F : Fr base L s.heap m) (X : (hd.heap_1 w.params).In base) (N : News base L s.heap ((x, instObj 133 dx) :: (dx, tokD w.params k1 k2 k3 k4 k5 b sv dv (.int i it) nv) :: rest)) (T : Top hd.view_39 loose mean mg mb base)
    (hd' : A.depth + 3 < recursionLimit) (hn : NextOk nv)
    (hQ : ∀ h' tk t, Fr base L h' m → News base L h' ((x, instObj 133 dx) :: (dx, tokD w.params k1 k2 k3 k4 k5 b sv dv (.int i it) nv) :: rest) → Q (.int (i - nlen nv) t) { s with heap := h', toks := tk }) :
    wpAny (model PySem.Challenge.rw_kq0016_05.row.prog w) A (call (.ref 108) [.ref x]) Q E s := by
  refine wpAny_call (enterM (cn := Str.ofString "") (cs := { kind := .function, names := [], isGenerator := false, isCoroutine := false }) (a := 0) (ccd := .none) (l := []) (frs := []) F X N T trivial rfl (by kernel_rfl) (by omega) (BindsTo.of_eq rfl) (locs rfl) (fun oL L' h₁ Cl Fs₁ F₁ N₁ hne hltL => ?_) rfl rfl rfl rfl (by decide))
  have N₂ : News base L' h₁ ((x, instObj 133 dx) :: (dx, tokD w.params k1 k2 k3 k4 k5 b sv dv (.int i it) nv) :: (L, oL) :: rest) := fun q hq => N₁ q (mem_i2 hq)
  have hLd : L ≠ dx := Ne.symm (hne (dx, tokD w.params k1 k2 k3 k4 k5 b sv dv (.int i it) nv) (List.mem_cons_of_mem _ List.mem_cons_self))
  have hLx : L ≠ x := Ne.symm (hne (x, instObj 133 dx) List.mem_cons_self)
  have hnL : ∀ q ∈ rest, q.1 ≠ L := fun q hq => hne q (List.mem_cons_of_mem _ (List.mem_cons_of_mem _ hq))
  clear N₁ Fs₁
  cases nv with
  | none =>
    k_steps
    obtain ⟨r1, r2⟩ := fin2 (sl := oL.slots) (new := []) Cl (by assumption) (by assumption) hLx hLd hnL
    exact hQ _ _ _ r1 r2
  | str y yt =>
    obtain ⟨hn1, hn2⟩ := hn
    k_steps
    · obtain ⟨r1, r2⟩ := fin2 (sl := oL.slots) (new := []) Cl (by assumption) (by assumption) hLx hLd hnL
      exact hQ _ _ _ r1 r2
    · omega
  | _ => exact hn.elim

local macro_rules | `(tactic| walk_at "call ref") => wl 3 "" "call Value.ref #108 @1 _ @2" `tell_c "_____a_" ".1aA.2" "h' tk' t' F' N'" "SY" []
local macro_rules | `(tactic| walk_at "call ref") => wl 3 "" "call Value.ref #41 @1 _ @2" `pe_S "_____ab_c_" ".1aAbAco.2" "h' k' e' d' t' o3 pe rF rN l1 l2 l3 l4" "" []

theorem error_cS {w : World} {loose : List Str} {mean : ExcName → Option Value} {mg mb : Str → Option Value} {A : Around}
    {base : Heap} {L : Addr} {m : Str → Option Value} {s : Shared} {Q E : Value → Shared → Prop} {rest : List (Addr × Obj)}
    {x dx : Addr} {k1 k2 k3 k4 k5 : Tok} {dv : Value} {D : Str} {dt tm : Tok} {i : Int} {it : Tok} {nv : Value} {msg : Str} {off : Int} {ot : Tok} {vals : List Value}
    (hvals : vals = [.ref x, .str msg tm, .int off ot] ∨ (vals = [.ref x, .str msg tm] ∧ off = 0))
    (F : Fr base L s.heap m) (X : (hd.heap_1 w.params).In base) (N : News base L s.heap ((x, instObj 133 dx) :: (dx, tokD w.params k1 k2 k3 k4 k5 true (.str D dt) dv (.int i it) nv) :: rest)) (T : Top hd.view_39 loose mean mg mb base)
    (hd' : A.depth + 12 < recursionLimit) (hn : NextOk nv) (hD : D.cps.toList.length ≤ 2000) (hm : msg.length ≤ 20000) (hp0 : 0 ≤ i - nlen nv - off) (hp1 : i - nlen nv - off ≤ 10000)
    (hQ : ∀ h' k e d t o3, IsPe w.params 41 msg (.str D dt) D.cps.toList (i - nlen nv - off) e d t o3 → Fr base L h' m → News base L h' (o3 ++ ((x, instObj 133 dx) :: (dx, tokD w.params k1 k2 k3 k4 k5 true (.str D dt) dv (.int i it) nv) :: rest)) →
      (∀ q ∈ (x, instObj 133 dx) :: (dx, tokD w.params k1 k2 k3 k4 k5 true (.str D dt) dv (.int i it) nv) :: rest, q.1 ≠ e ∧ q.1 ≠ d ∧ q.1 ≠ t) → e ≠ d → e ≠ t → d ≠ t → Q (.ref e) { s with heap := h', toks := k }) :
    wpAny (model PySem.Challenge.rw_kq0016_05.row.prog w) A (call (.ref 123) vals) Q E s := by
  rcases hvals with rfl | ⟨rfl, rfl⟩
  all_goals (
    refine wpAny_call (enterM (cn := Str.ofString "") (cs := { kind := .function, names := [], isGenerator := false, isCoroutine := false }) (a := 0) (ccd := .none) (l := []) (frs := []) F X N T trivial rfl (by kernel_rfl) (by omega) (binds_K (X.keeps F.keep) rfl (by k_is) rfl rfl rfl) (locs rfl) (fun oL L' h₁ Cl Fs₁ F₁ N₁ hne hltL => ?_) rfl rfl rfl rfl (by decide))
    have N₂ : News base L' h₁ ((x, instObj 133 dx) :: (dx, tokD w.params k1 k2 k3 k4 k5 true (.str D dt) dv (.int i it) nv) :: (L, oL) :: rest) := fun q hq => N₁ q (mem_i2 hq)
    clear N₁ Fs₁
    k_steps
    rename_i e' d' t' o3 pe rF rN l1 l2 l3 l4
    have hL3 : L ≠ e' ∧ L ≠ d' ∧ L ≠ t' := l1 (L, oL) (by simp)
    refine hQ _ _ e' d' t' o3 pe (backM (sl := oL.slots) Cl rF rN (by simp)) (backN rN ?ha ?hb) ?hc l2 l3 l4
    case ha => intro q hq; simp only [List.mem_cons, List.mem_append] at hq ⊢; grind
    case hb =>
      intro q hq
      rcases List.mem_append.mp hq with hq | hq
      · exact pe.ne hL3.1 hL3.2.1 hL3.2.2 q hq
      · exact hne q hq
    case hc =>
      intro q hq
      refine l1 q ?_
      simp only [List.mem_cons] at hq ⊢
      rcases hq with hq | hq | hq
      · exact .inl hq
      · exact .inr (.inl hq)
      · exact .inr (.inr (.inr hq)))
local macro_rules | `(tactic| walk_at "call ref") => wl 3 "" "call Value.ref #41 @1 _ @2" `pe_B "____a_bc_d_" ".1a5bAcAdo.2" "h' k' e' d' t' o3 pe rF rN l1 l2 l3 l4" "" [".inl !A @1"]
local macro_rules | `(tactic| walk_at "getMethod str") => wl 4 "" "" `encode_method "_" "" "" "" []
local macro_rules | `(tactic| walk_at "call builtin:str.encode") => wl 0 "" "" `enc_go "'w_" "" "t' k'" "" []
local macro_rules | `(tactic| walk_at "call builtin:bytes.decode") => wl 0 "" "" `dec_go "'w_" "" "t' k'" "" []

theorem error_cB {w : World} {loose : List Str} {mean : ExcName → Option Value} {mg mb : Str → Option Value} {A : Around}
    {base : Heap} {L : Addr} {m : Str → Option Value} {s : Shared} {Q E : Value → Shared → Prop} {rest : List (Addr × Obj)}
    {x dx : Addr} {k1 k2 k3 k4 k5 : Tok} {dv : Value} {D : Array UInt8} {dt tm : Tok} {i : Int} {it : Tok} {nv : Value} {msg msg' : Str} {bs : Array UInt8} {off : Int} {ot : Tok} {vals : List Value}
    (hvals : vals = [.ref x, .str msg tm, .int off ot] ∨ (vals = [.ref x, .str msg tm] ∧ off = 0))
    (F : Fr base L s.heap m) (X : (hd.heap_1 w.params).In base) (N : News base L s.heap ((x, instObj 133 dx) :: (dx, tokD w.params k1 k2 k3 k4 k5 false (.bytes D dt) dv (.int i it) nv) :: rest)) (T : Top hd.view_39 loose mean mg mb base)
    (hh : A.handled = none) (he : EncTo msg bs) (hdec : DecTo bs msg') (hd' : A.depth + 12 < recursionLimit) (hn : NextOk nv) (hD : (nums D).length ≤ 2000) (hm : msg'.length ≤ 20000) (hp0 : 0 ≤ i - nlen nv - off) (hp1 : i - nlen nv - off ≤ 10000)
    (hQ : ∀ h' k e d t o3, IsPe w.params 41 msg' (.bytes D dt) (nums D) (i - nlen nv - off) e d t o3 → Fr base L h' m → News base L h' (o3 ++ ((x, instObj 133 dx) :: (dx, tokD w.params k1 k2 k3 k4 k5 false (.bytes D dt) dv (.int i it) nv) :: rest)) →
      (∀ q ∈ (x, instObj 133 dx) :: (dx, tokD w.params k1 k2 k3 k4 k5 false (.bytes D dt) dv (.int i it) nv) :: rest, q.1 ≠ e ∧ q.1 ≠ d ∧ q.1 ≠ t) → e ≠ d → e ≠ t → d ≠ t → Q (.ref e) { s with heap := h', toks := k }) :
    wpAny (model PySem.Challenge.rw_kq0016_05.row.prog w) A (call (.ref 123) vals) Q E s := by
  rcases hvals with rfl | ⟨rfl, rfl⟩
  all_goals (
    refine wpAny_call (enterM (cn := Str.ofString "") (cs := { kind := .function, names := [], isGenerator := false, isCoroutine := false }) (a := 0) (ccd := .none) (l := []) (frs := []) F X N T trivial rfl (by kernel_rfl) (by omega) (binds_K (X.keeps F.keep) rfl (by k_is) rfl rfl rfl) (locs rfl) (fun oL L' h₁ Cl Fs₁ F₁ N₁ hne hltL => ?_) rfl rfl rfl rfl (by decide))
    have N₂ : News base L' h₁ ((x, instObj 133 dx) :: (dx, tokD w.params k1 k2 k3 k4 k5 false (.bytes D dt) dv (.int i it) nv) :: (L, oL) :: rest) := fun q hq => N₁ q (mem_i2 hq)
    clear N₁ Fs₁
    k_steps
    rename_i e' d' t' o3 pe rF rN l1 l2 l3 l4
    have hL3 : L ≠ e' ∧ L ≠ d' ∧ L ≠ t' := l1 (L, oL) (by simp)
    refine hQ _ _ e' d' t' o3 pe (backM (sl := oL.slots) Cl rF rN (by simp)) (backN rN ?ha ?hb) ?hc l2 l3 l4
    case ha => intro q hq; simp only [List.mem_cons, List.mem_append] at hq ⊢; grind
    case hb =>
      intro q hq
      rcases List.mem_append.mp hq with hq | hq
      · exact pe.ne hL3.1 hL3.2.1 hL3.2.2 q hq
      · exact hne q hq
    case hc =>
      intro q hq
      refine l1 q ?_
      simp only [List.mem_cons] at hq ⊢
      rcases hq with hq | hq | hq
      · exact .inl hq
      · exact .inr (.inl hq)
      · exact .inr (.inr (.inr hq)))
/-- self.error(words, offset) -/
theorem error_c {w : World} {loose : List Str} {mean : ExcName → Option Value} {mg mb : Str → Option Value} {A : Around}
    {base : Heap} {L : Addr} {m : Str → Option Value} {s : Shared} {Q E : Value → Shared → Prop} {rest : List (Addr × Obj)}
    {x dx : Addr} {k1 k2 k3 k4 k5 : Tok} {b : Bool} {gv dv : Value} {D : Str} {tm : Tok} {i : Int} {it : Tok} {nv : Value} {msg msg' : Str} {off : Int} {ot : Tok} {vals : List Value}
    (hvals : vals = [.ref x, .str msg tm, .int off ot] ∨ (vals = [.ref x, .str msg tm] ∧ off = 0))
    (F : Fr base L s.heap m) (X : (hd.heap_1 w.params).In base) (N : News base L s.heap ((x, instObj 133 dx) :: (dx, tokD w.params k1 k2 k3 k4 k5 b gv dv (.int i it) nv) :: rest)) (T : Top hd.view_39 loose mean mg mb base)
    (hh : A.handled = none) (hg : GivenIs b gv D) (hw : WordsTo b msg msg') (hd' : A.depth + 12 < recursionLimit) (hn : NextOk nv) (hD : D.length ≤ 2000) (hm : msg'.length ≤ 20000) (hp0 : 0 ≤ i - nlen nv - off) (hp1 : i - nlen nv - off ≤ 10000)
    (hQ : ∀ h' k e d t o3, IsPe w.params 41 msg' gv D.cps.toList (i - nlen nv - off) e d t o3 → Fr base L h' m → News base L h' (o3 ++ ((x, instObj 133 dx) :: (dx, tokD w.params k1 k2 k3 k4 k5 b gv dv (.int i it) nv) :: rest)) →
      (∀ q ∈ (x, instObj 133 dx) :: (dx, tokD w.params k1 k2 k3 k4 k5 b gv dv (.int i it) nv) :: rest, q.1 ≠ e ∧ q.1 ≠ d ∧ q.1 ≠ t) → e ≠ d → e ≠ t → d ≠ t → Q (.ref e) { s with heap := h', toks := k }) :
    wpAny (model PySem.Challenge.rw_kq0016_05.row.prog w) A (call (.ref 123) vals) Q E s := by
  have hD' : D.cps.toList.length ≤ 2000 := by simpa [Str.length] using hD
  rcases hg with ⟨rfl, t, rfl⟩ | ⟨rfl, B, t, rfl, hB⟩
  · obtain rfl : msg' = _ := hw.elim (fun z => z.2) (fun z => absurd z.1 (by decide))
    exact error_cS hvals F X N T hd' hn hD' hm hp0 hp1 hQ
  · obtain ⟨bs, he, hdc⟩ : ∃ bs, EncTo msg bs ∧ DecTo bs msg' := hw.elim (fun z => absurd z.1 (by decide)) (fun z => z.2)
    rw [← hB] at hQ hD'
    exact error_cB hvals F X N T hh he hdc hd' hn hD' hm hp0 hp1 hQ
end Mine
end

section
open PySem PySem.W PySem.Calls PySem.Spec PyProof.Rows
set_option maxRecDepth 100000
set_option maxHeartbeats 2000000
namespace Mine
open TI
theorem fill3a (P : Params) : hd.heap_1 P = hd.heap_1 P ∧ PySem.Challenge.rw_kq0016_05 = PySem.Challenge.rw_kq0016_05 := by
  k_fill
  exact ⟨rfl, rfl⟩
/-- «self.__next()» where it can go on, in words of signs -/
theorem nextX_ok {w : World} {loose : List Str} {mean : ExcName → Option Value} {mg mb : Str → Option Value} {A : Around} {l : List Env} {ev : Env} {ce : Env}
    {base : Heap} {L Lc : Addr} {oL : Obj} {sl : Array (Option Value)} {m : Str → Option Value} {s : Shared} {Q E : Value → Shared → Prop} {new frs : List (Addr × Obj)}
    {x dx : Addr} {k1 k2 k3 k4 k5 : Tok} {b lone : Bool} {sv : Value} {D : Str} {dt : Tok} {i : Nat} {it : Tok} {nv : Value} {sgs : List Str}
    (F : Fr base L s.heap m) (X : (hd.heap_1 w.params).In base) (N : News base L s.heap ((x, instObj 133 dx) :: (dx, tokD w.params k1 k2 k3 k4 k5 b sv (.str D dt) (.int i it) nv) :: (new ++ ((Lc, { oL with slots := sl }) :: frs)))) (T : Top hd.view_39 loose mean mg mb base)
    (Fs : Frs (ev :: l) ((Lc, { oL with slots := sl }) :: frs)) (hcs : EvAt ce L) (hdx : ∀ q ∈ new ++ ((Lc, { oL with slots := sl }) :: frs), q.1 ≠ dx) (hxf : ∀ q ∈ (Lc, { oL with slots := sl }) :: frs, q.1 ≠ x) (hap : ∀ q ∈ new, q.1 ∉ ((Lc, { oL with slots := sl }) :: frs).map (·.1)) (hA : A.frames = some (ce :: ev :: l)) (hh : A.handled = none) (hd' : A.depth + 6 < recursionLimit)
    (hD : D.length ≤ 2000) (hi : i ≤ 3000) (hs : SignsX lone D i sgs) (hn : ¬ (sgs = [] ∧ lone = true))
    (hQ : ∀ h' sl' qs tk (i' : Nat) it' nv', SameUp frs qs → Frs (ev :: l) ((Lc, { oL with slots := sl' }) :: qs) → Fr base L h' m → News base L h' ((x, instObj 133 dx) :: (dx, tokD w.params k1 k2 k3 k4 k5 b sv (.str D dt) (.int i' it') nv') :: (new ++ ((Lc, { oL with slots := sl' }) :: qs))) → RdX lone D i' nv' i sgs → i' ≤ 3000 → NextOk nv' → (i' : Int) - nlen nv' = i → Q .none { s with heap := h', toks := tk }) :
    wpAny (model PySem.Challenge.rw_kq0016_05.row.prog w) A (call (.ref 65) [.ref x]) Q E s := by
  have hDl : D.cps.toList.length = D.length := by simp [Str.length]
  cases sgs with
  | nil =>
    obtain rfl : lone = false := by cases lone <;> simp_all
    have hs' : D.cps.toList[i]? = none := hs
    refine next_c F X N T Fs hcs hdx hxf hap hA hh hd' hD hi (fun z => ?_) (fun z h' frs' tk SU Fs' F' N' => ?_) (fun c z => ?_) (fun c z => ?_)
    · rw [hs'] at z; exact absurd z.1 (by simp)
    · obtain ⟨sl', qs, rfl, SU'⟩ := sameUp_cons SU
      exact hQ h' sl' qs tk i it .none SU' Fs' F' N' ⟨rfl, rfl, rfl, hs'⟩ hi trivial (by simp [nlen])
    · rw [hs'] at z; cases z
    · rw [hs'] at z; cases z
  | cons y r =>
    rcases hs with ⟨c, hc, h92, rfl, hs⟩ | ⟨c, hc, hc2, rfl, hs⟩
    · have hlt := (List.getElem?_eq_some_iff.mp hc).1
      refine next_c F X N T Fs hcs hdx hxf hap hA hh hd' hD hi (fun z => ?_) (fun z => ?_) (fun c' z zn h' tk it' nt F' N' => ?_) (fun c' z => ?_)
      · rw [hc] at z; exact h92 (Option.some.inj z.1)
      · rw [hc] at z; cases z
      · rw [hc] at z; cases z
        have R : RdX lone D (i + 1) (.str (one c) nt) i (one c :: r) := ⟨nt, rfl, rfl, Nat.le_refl _, (by decide : 1 ≤ 2), by omega, hs⟩
        exact hQ h' sl frs tk (i + 1) it' _ (SameUp.refl _) Fs F' N' R (by omega) R.ok.1 R.ok.2
      · rw [hc] at z; exact absurd (Option.some.inj z) h92
    · have hlt := (List.getElem?_eq_some_iff.mp hc2).1
      have e2 : (one 92 ++ one c).length = 2 := by rw [Str.length_append]; rfl
      refine next_c F X N T Fs hcs hdx hxf hap hA hh hd' hD hi (fun z => ?_) (fun z => ?_) (fun c' z zn => ?_) (fun c' z z2 h' tk it' nt F' N' => ?_)
      · rw [hc2] at z; cases z.2
      · rw [hc] at z; cases z
      · rw [hc] at z; exact absurd (Option.some.inj z).symm zn
      · rw [hc2] at z2; cases z2
        have R : RdX lone D (i + 2) (.str (one 92 ++ one c) nt) i ((one 92 ++ one c) :: r) := ⟨nt, rfl, by rw [e2], by omega, by omega, by omega, hs⟩
        exact hQ h' sl frs tk (i + 2) it' _ (SameUp.refl _) Fs F' N' R (by omega) R.ok.1 R.ok.2
end Mine
end

local macro_rules | `(tactic| walk_at "call ref") => wl 3 "" "call Value.ref #65 @1 _ @2" `next_lone "_________________" ".1.2" "" "" []
local macro_rules | `(tactic| walk_at "call ref") => wl 3 "" "call Value.ref #65 @1 _ @2" `nextX_ok "_________________" ".1.2" "h' sl' qs' tk' i' it' nv' SU' Fs' F' N' R' b' ok1 ok2" "Y" []
local macro_rules | `(tactic| walk_at "truthy str") => wl 0 "" "" `truthyR "'w'o_" "" "k'" "" []
local macro_rules | `(tactic| walk_at "inplaceOp Add str str") => wl 0 "" "" `iadd_any "'o_" "" "t' k'" "" []
local macro_rules | `(tactic| walk_at "binaryOp Add str str") => wl 0 "" "" `add_any "'O_" "" "t' k'" "" []
section
open PySem PySem.W PySem.Calls PySem.Spec PyProof.Rows
set_option maxRecDepth 100000
set_option maxHeartbeats 2000000
namespace Mine
theorem anew4 : True := by
  w_top off
  exact True.intro
open TI
theorem fillGX5 (P : Params) : hd.heap_1 P = hd.heap_1 P ∧ PySem.Challenge.rw_kq0016_05 = PySem.Challenge.rw_kq0016_05 := by
  k_fill
  exact ⟨rfl, rfl⟩
local macro_rules | `(tactic| walk_at "call ref") => wl 3 "" "call Value.ref #123 @1 _ @2" `error_c "5____________a_" ".1ao.2" "h' k' e' d' t' o3 pe rF rN l1 l2 l3 l4" "" [".inl rfl @1"]
local macro_rules | `(tactic| walk_at "call ref") => wl 3 "" "call Value.ref #123 @1 _ @2" `error_c "56____________a_" ".1ao.2" "h' k' e' d' t' o3 pe rF rN l1 l2 l3 l4" "" ["ot:=#0", ".inr rfl rfl <2 @1"]

local macro_rules | `(tactic| walk_at "binaryOp Mod str str") => wl 0 "" "" `modU "'A_" "" "t' k'" "" []
local macro_rules | `(tactic| walk_at "exec Raise some none") => wl 3 "" "" `exec_raise_pe "5'A_" "" "" "" ["C:=#41"]
inductive GuJ (Pm : Params) (lone b : Bool) (gv : Value) (D : Str) (dt k1 k2 k3 k4 k5 : Tok) (x dx L : Addr) (oL : Obj) (l : List Env) (frs new : List (Addr × Obj)) (tv : Str) (sgs : List Str) (p : Nat) (M0 : Str → Option Value) (n : Nat) (m₁ : Str → Option Value) (news₁ : List (Addr × Obj)) : Prop
  | mk (pre rest' : List Str) (i : Nat) (it : Tok) (nv : Value) (p' : Nat) (sl : Array (Option Value)) (frs' : List (Addr × Obj)) (rt : Tok) (cv : Option Value) (h1 : n = rest'.length) (h2 : sgs = pre ++ rest') (h3 : tv ∉ pre) (h4 : ∀ z ∈ pre, 1 ≤ z.length) (h5 : RdX lone D i nv p' rest') (h6 : p' = p + (cat pre).length) (h7 : i ≤ 3000) (h8 : SameUp frs frs') (h9 : Frs l frs')
      (h10 : m₁ = (fun y => if y = Str.ofString "result" then some (.str (cat pre) rt) else if y = Str.ofString "c" then cv else M0 y))
      (h11 : news₁ = ((x, instObj 133 dx) :: (dx, tokD Pm k1 k2 k3 k4 k5 b gv (.str D dt) (.int i it) nv) :: (new ++ ((L, { oL with slots := sl }) :: frs'))))
theorem getuntil_c {w : World} {loose : List Str} {mean : ExcName → Option Value} {mg mb : Str → Option Value} {A : Around} {l : List Env} {ce : Env}
    {base : Heap} {L : Addr} {m : Str → Option Value} {s : Shared} {Q E : Value → Shared → Prop} {new frs : List (Addr × Obj)}
    {x dx : Addr} {k1 k2 k3 k4 k5 : Tok} {b lone : Bool} {gv : Value} {D : Str} {dt : Tok} {i : Nat} {it : Tok} {nv : Value} {p : Nat} {sgs : List Str} {tv nm m1 m2 : Str} {tt tn : Tok}
    (F : Fr base L s.heap m) (X : (hd.heap_1 w.params).In base) (N : News base L s.heap ((x, instObj 133 dx) :: (dx, tokD w.params k1 k2 k3 k4 k5 b gv (.str D dt) (.int i it) nv) :: (new ++ frs))) (T : Top hd.view_39 loose mean mg mb base)
    (Fs : Frs l frs) (hcs : EvAt ce L) (hdx : ∀ q ∈ new ++ frs, q.1 ≠ dx) (hxf : ∀ q ∈ frs, q.1 ≠ x) (hap : ∀ q ∈ new, q.1 ∉ frs.map (·.1)) (hA : A.frames = some (ce :: l)) (hh : A.handled = none) (hd' : A.depth + 20 < recursionLimit)
    (hD : D.length ≤ 2000) (hi : i ≤ 3000) (hr : RdX lone D i nv p sgs) (htv : tv.length ≤ 100) (hnm : nm.length ≤ 100) (htv1 : 1 ≤ tv.length)
    (hg : GivenIs b gv D) (hw1 : WordsTo b (Str.ofString "missing " ++ nm) m1) (hw2 : WordsTo b (Str.ofString "missing " ++ tv ++ Str.ofString ", unterminated name") m2) (hm1 : m1.length ≤ 20000) (hm2 : m2.length ≤ 20000)
    (hQ : ∀ pre p' rest, GetsX lone D tv m1 m2 sgs p (.inl (cat pre)) p' rest → ∀ h' frs' tk (i' : Nat) it' nv' rt, SameUp frs frs' → Frs l frs' → Fr base L h' m → News base L h' ((x, instObj 133 dx) :: (dx, tokD w.params k1 k2 k3 k4 k5 b gv (.str D dt) (.int i' it') nv') :: (new ++ frs')) → RdX lone D i' nv' p' rest → i' ≤ 3000 → Q (.str (cat pre) rt) { s with heap := h', toks := tk })
    (hE : ∀ msg pos p' rest, GetsX lone D tv m1 m2 sgs p (.inr (msg, pos)) p' rest → ∀ (i' : Nat) it' nv', RdX lone D i' nv' p' rest → i' ≤ 3000 → RaisedE w.params base L m l ((x, instObj 133 dx) :: (dx, tokD w.params k1 k2 k3 k4 k5 b gv (.str D dt) (.int i' it') nv') :: new) frs msg gv D.cps.toList pos E s) :
    wpAny (model PySem.Challenge.rw_kq0016_05.row.prog w) A (call (.ref 93) [.ref x, .str tv tt, .str nm tn]) Q E s := by
  have hDl : D.cps.toList.length ≤ 2000 := by simpa [Str.length] using hD
  refine wpAny_call (enterV (ev := ce) F X N T Fs rfl (by kernel_rfl) (by omega) (BindsTo.of_eq rfl) (locs rfl) (fun oL L' h₁ Cl Fs₁ F₁ N₁ hne hltL => ?_) hcs rfl rfl rfl (by decide))
  have N₂ : News base L' h₁ ((x, instObj 133 dx) :: (dx, tokD w.params k1 k2 k3 k4 k5 b gv (.str D dt) (.int i it) nv) :: (new ++ ((L, oL) :: frs))) := fun q hq => N₁ q (mem_i1 hq)
  have hLd : L ≠ dx := Ne.symm (hne (dx, tokD w.params k1 k2 k3 k4 k5 b gv (.str D dt) (.int i it) nv) (List.mem_cons_of_mem _ List.mem_cons_self))
  have hLx : L ≠ x := Ne.symm (hne (x, instObj 133 dx) List.mem_cons_self)
  have hnL : ∀ q ∈ new ++ frs, q.1 ≠ L := fun q hq => hne q (List.mem_cons_of_mem _ (List.mem_cons_of_mem _ hq))
  clear N₁
  obtain ⟨M0, eM, F₃⟩ : ∃ M0, M0 = _ ∧ Fr base L' h₁ M0 := ⟨_, rfl, F₁⟩
  clear F₁
  repeat ((fail_if_success (with_reducible show wpAny _ _ (exec (Stmt.While _ _ _ _) _) _ _ _)); first | (k_unfold; (try dsimp only)) | walk1 | (dsimp only; walk1))
  rename_i F₂ N₃
  refine While_inv2 (n₀ := sgs.length) (GuJ w.params lone b gv D dt k1 k2 k3 k4 k5 x dx L oL l frs new tv sgs p M0) F₂ N₃ ?hJ ?turn
  case hJ => exact ⟨[], sgs, i, it, nv, p, oL.slots, frs, _, _, rfl, rfl, by simp, by simp, hr, by rw [cat_len]; rfl, hi, SameUp.refl _, Fs, canon0, rfl⟩
  case turn =>
    rintro n m₁ news₁ h₁ tk₁ F₁ N₁ ⟨pre, rest', i, it, nv, p', sl, frs', rt, cv, rfl, hsg, hpre, hpos, hr, hp', hi, SU, Fs', rfl, rfl⟩
    have Fs₂ : Frs (ce :: l) ((L, { oL with slots := sl }) :: frs') := ⟨by rw [hcs.kind]; decide, hcs.frame, Cl.dict, Fs'⟩
    obtain ⟨hdx', hxf', hap'⟩ := ff (oL := { oL with slots := sl }) hdx hxf hap hLd hLx hnL SU
    have hcl : (cat pre).length ≤ 3000 := by have := hr.ok.2; have := nlen_nonneg nv; omega
    (try clear F N); (try clear N₂); (try clear F₂); (try clear N₃); (try clear F₃)
    subst eM
    clear Fs₁
    obtain ⟨nm', q', NC, bs, hdct, sn, sub, ab, col, dd, c0, c1, c2, c3, c5, hC, rfl⟩ := cls41 w.params
    have hrs := hr.signs
    cases rest' with
    | nil =>
      have hr0 := hr
      obtain ⟨rfl, rfl, rfl, hgn⟩ := hr0
      have hn : ¬ (([] : List Str).tail = [] ∧ false = true) := by simp
      by_cases hz : (cat pre).length = 0
      · have tz : (((cat pre).length : Int) != 0) = false := by simp [hz]
        k_steps
        obtain rfl := cat_zero hpos hz
        have SUt := SU.trans ‹SameUp frs' _›
        refine raise_out1 (mid := (x, _) :: (dx, _) :: new) hC X (by assumption) (by assumption) (by assumption) Cl (by assumption) (by assumption) (by assumption) (by assumption) (Around.frames_deeper hA) rfl (by assumption) (ffmid (ff hdx hxf hap hLd hLx hnL SUt).1 (ff hdx hxf hap hLd hLx hnL SUt).2.1 (ff hdx hxf hap hLd hLx hnL SUt).2.2) (ffL hLd hLx hnL SUt) ((hE _ _ i [] (.inr (.inr (.inl ⟨rfl, by simpa using hsg, rfl, by congr 3 <;> omega, by omega⟩))) _ _ _ (by assumption) (by assumption)).up SUt)
      · have tz : (((cat pre).length : Int) != 0) = true := by simp [hz]
        k_steps
        have hse : sgs = pre := by simpa using hsg
        subst hse
        have SUt := SU.trans ‹SameUp frs' _›
        refine raise_out1 (mid := (x, _) :: (dx, _) :: new) hC X (by assumption) (by assumption) (by assumption) Cl (by assumption) (by assumption) (by assumption) (by assumption) (Around.frames_deeper hA) rfl (by assumption) (ffmid (ff hdx hxf hap hLd hLx hnL SUt).1 (ff hdx hxf hap hLd hLx hnL SUt).2.1 (ff hdx hxf hap hLd hLx hnL SUt).2.2) (ffL hLd hLx hnL SUt) ((hE _ _ _ _ (.inr (.inr (.inr (.inl ⟨rfl, hpre, fun z => hz (by rw [z, cat_len]; rfl), rfl, by congr 3 <;> omega, hp'⟩)))) _ _ _ (by assumption) (by assumption)).up SUt)
    | cons y r =>
      have hr0 := hr
      obtain ⟨yt, rfl, hi', hy1, hy2, hle, hsr⟩ := hr0
      by_cases hl : r = [] ∧ lone = true
      · obtain ⟨rfl, rfl⟩ := hl
        have hla := hsr.lone_at
        k_steps
        exact pass_raised Cl (Around.frames_deeper hA) rfl (ffmid (ff hdx hxf hap hLd hLx hnL SU).1 (ff hdx hxf hap hLd hLx hnL SU).2.1 (ff hdx hxf hap hLd hLx hnL SU).2.2) (ffL hLd hLx hnL SU) ((hE _ _ p' [y] (.inr (.inr (.inr (.inr ⟨rfl, pre, y, by simpa using hsg, hpre, rfl, rfl, hp'⟩)))) i _ _ hr (by assumption)).up SU)
      · have hn : ¬ ((y :: r).tail = [] ∧ lone = true) := hl
        by_cases hy : y = tv
        · subst hy
          have qy : (y == y) = true := beq_self_eq_true y
          by_cases hz : (cat pre).length = 0
          · have tz : (((cat pre).length : Int) != 0) = false := by simp [hz]
            k_steps
            obtain rfl := cat_zero hpos hz
            have SUt := SU.trans ‹SameUp frs' _›
            refine raise_out1 (mid := (x, _) :: (dx, _) :: new) hC X (by assumption) (by assumption) (by assumption) Cl (by assumption) (by assumption) (by assumption) (by assumption) (Around.frames_deeper hA) rfl (by assumption) (ffmid (ff hdx hxf hap hLd hLx hnL SUt).1 (ff hdx hxf hap hLd hLx hnL SUt).2.1 (ff hdx hxf hap hLd hLx hnL SUt).2.2) (ffL hLd hLx hnL SUt) ((hE _ _ i r (.inr (.inl ⟨by simpa using hsg, hn, by congr 3 <;> omega, by omega⟩)) _ _ _ (by assumption) (by assumption)).up SUt)
          · have tz : (((cat pre).length : Int) != 0) = true := by simp [hz]
            k_steps
            dsimp only
            unfold WhileStep2
            dsimp only
            k_steps
            have SUt := SU.trans ‹SameUp frs' _›
            obtain ⟨r1, r2⟩ := fin2 (new := new) Cl (by assumption) (by assumption) hLx hLd (up_ne hnL SUt)
            have R3 := ‹RdX _ D _ _ i _›
            exact hQ pre _ r (.inl ⟨pre, by simpa using hsg, hpre, hn, fun z => hz (by rw [z, cat_len]; rfl), rfl, by omega⟩) _ _ _ _ _ _ _ SUt (Fs.up SUt) r1 r2 R3 (by assumption)
        · have qy : (y == tv) = false := by simpa using hy
          k_steps
          have SUt := SU.trans ‹SameUp frs' _›
          refine ⟨_, _, _, _, r.length, rfl, by assumption, by assumption, by simp, pre ++ [y], r, _, _, _, i, _, _, _, _, rfl, by simpa using hsg, fun z => ?_, fun z hz => ?_, by assumption, by rw [cat_snoc, Str.length_append]; omega, by assumption, SUt, Fs.up SUt, canon2, rfl⟩
          · rcases List.mem_append.mp z with z | z
            · exact hpre z
            · exact hy (List.mem_singleton.mp z).symm
          · rcases List.mem_append.mp hz with hz | hz
            · exact hpos z hz
            · rw [List.mem_singleton.mp hz]; exact hy1
end Mine
end

section
open PySem PySem.W PySem.Calls PySem.Spec PyProof.Rows PySem.Builtin PySem.Builtin.Str
set_option maxRecDepth 100000
set_option maxHeartbeats 1000000
namespace Mine
section
variable {M : Model} {A : Around} {E : Value → Shared → Prop} {s : Shared}
open _codecs
/-- a decoder that takes one octet a sign -/
theorem run_dec {d : Decoder} {b : Array UInt8} {f : Nat → Nat} {id : String} {errors : Option Str} {held : List Value} {Q : Array Nat × Nat → Shared → Prop} (hf : ∀ p, p < b.size → d.find true b p = .text [f p] (p + 1)) (hsz : b.size ≤ sizeLine)
    (hq : Q (((List.range b.size).map f).toArray, b.size) s) : wpAny M A (runDecoder id d errors true b 0 held) Q E s := by
  unfold runDecoder
  dsimp only
  rw [KPc.range_list]
  refine wpAny_bind (wpAny_forIn_list _ (fun l (c : Nat × Array Nat × Faults) s' => s' = s ∧ ∃ i, i ≤ b.size ∧ l = List.range' i (b.size - i) ∧ c.1 = i ∧ c.2.1 = ((List.range i).map f).toArray) _ ?_ ?_ _ _ ⟨rfl, 0, Nat.zero_le _, by simp, rfl, by simp⟩)
  · rintro x rest ⟨p, out, st⟩ s' ⟨rfl, i, hi, hl, rfl, hout⟩
    have hlt : p < b.size := by
      rcases Nat.lt_or_ge p b.size with h | h
      · exact h
      · rw [show b.size - p = 0 from by omega] at hl; cases hl
    obtain ⟨k, hk⟩ : ∃ k, b.size - p = k + 1 := ⟨b.size - p - 1, by omega⟩
    rw [hk, List.range'_succ] at hl
    obtain ⟨rfl, rfl⟩ := List.cons.inj hl
    dsimp only at hout ⊢
    subst hout
    rw [if_neg (by simp; omega)]
    rw [if_neg (by omega), hf _ hlt]
    refine wpAny_pure ⟨rfl, x + 1, hlt, by congr 1; omega, rfl, ?_⟩
    simp [List.range_succ]
  · rintro ⟨p, out, st⟩ s' ⟨rfl, i, hi, hl, rfl, hout⟩
    have : p = b.size := by
      rcases Nat.lt_or_ge p b.size with h | h
      · obtain ⟨k, hk⟩ : ∃ k, b.size - p = k + 1 := ⟨b.size - p - 1, by omega⟩
        rw [hk, List.range'_succ] at hl; cases hl
      · exact Nat.le_antisymm hi h
    dsimp only at this hout ⊢
    subst this hout
    exact wpAny_pure hq
theorem range_nums (b : Array UInt8) : (List.range b.size).map (fun p => (b.getD p 0).toNat) = nums b := by
  apply List.ext_getElem
  · simp [nums]
  · intro i h1 h2
    have hi : i < b.size := by simpa using h1
    simp [nums, Array.getD, hi]
end
theorem typeCall_str_2 (a b : Value) : checkTypeCall "str" ⟨[a, b], []⟩ = pure () := by kernel_rfl
theorem newCall_str_2 (a b : Value) : checkBuiltinCall "str.__new__" ⟨[.type "str", a, b], []⟩ = pure () := by kernel_rfl
section
variable {prog : Program} {w : World} {A : Around} {E : Value → Shared → Prop} {s : Shared} {b : Array UInt8} {t t1 : Tok} {D : Str}
theorem str_new_lat {Q : Fin → Shared → Prop} (hb : ∀ (Q : Value → Shared → Prop) (E : Value → Shared → Prop) (s : Shared) t1, (∀ t' k, Q (.str D t') { s with toks := k }) → wpAny (model prog w) A (call (.builtin "bytes.decode") [.bytes b t] [(Str.ofString "encoding", .str (Str.ofString "latin1") t1)]) Q E s)
   (h : ∀ t' k, Q (.done (.ret (.str D t'))) { s with toks := k }) : wpAny (model prog w) A («str.__new__» ⟨[.type "str", .bytes b t, .str (Str.ofString "latin1") t1], []⟩) Q E s := by
  unfold «str.__new__»
  refine wpAny_bind (wpAny_pure ?_)
  refine wpAny_bind (wpAny_of_eq isSubtype_str_str ?_)
  (try dsimp only)
  refine wpAny_bind (wpAny_of_eq (show _ = pure [some (.bytes b t), some (.str (Str.ofString "latin1") t1), none] from by kernel_rfl) ?_)
  (try dsimp only)
  refine wpAny_bind (wpAny_of_eq (show _ = pure (some (Str.ofString "latin1")) from by kernel_rfl) ?_)
  refine wpAny_bind (wpAny_of_eq (show _ = pure none from by kernel_rfl) ?_)
  (try dsimp only)
  rw [if_neg (by decide)]
  refine wpAny_bind ?_
  show wpAny _ _ ((mkStr (Str.ofString "latin1") >>= _) >>= _) _ _ _
  refine wpAny_bind (wpAny_bind (wpAny_mkStr (wpAny_pure ?_) (by decide)))
  refine wpAny_bind (wpAny_pure ?_)
  dsimp only
  refine wpAny_bind (wpAny_isInstance (T := "bytes") (b := true) (typeIs_bytes _ _ _) PySem.F.bm_sub ?_)
  rw [if_pos rfl]
  refine wpAny_bind (wpAny_rule (hb _ _ _ _ fun t' k => ?_))
  rw [if_pos (by decide)]
  exact wpAny_pure (h t' k)
theorem dec_kw {c : UInt8} {cs : List UInt8} : «bytes.decode» ⟨[.bytes (c :: cs).toArray t], [(Str.ofString "encoding", .str (Str.ofString "latin1") t1)]⟩ = (mkStr (Str.ofString "utf-8") >>= fun _ => mkStr (Str.ofString "latin1") >>= fun e => mkStr (Str.ofString "bytes.decode") >>= fun d =>
    call (.builtin "_codecs.decode.text") [.bytes (c :: cs).toArray t, e, .none, d] >>= fun v => ret v) := by kernel_rfl
theorem dec_kw0 : «bytes.decode» ⟨[.bytes ([] : List UInt8).toArray t], [(Str.ofString "encoding", .str (Str.ofString "latin1") t1)]⟩ = (rule "bytes.decode.empty" >>= fun _ => retStr Str.empty) := by kernel_rfl
theorem dec_pos {c : UInt8} {cs : List UInt8} : «bytes.decode» ⟨[.bytes (c :: cs).toArray t, .str (Str.ofString "ascii") t1], []⟩ = (mkStr (Str.ofString "utf-8") >>= fun _ => mkStr (Str.ofString "ascii") >>= fun e => mkStr (Str.ofString "bytes.decode") >>= fun d =>
    call (.builtin "_codecs.decode.text") [.bytes (c :: cs).toArray t, e, .none, d] >>= fun v => ret v) := by kernel_rfl
theorem args_dec_kw {a v : Value} : argsOk "bytes.decode" ⟨[a], [(Str.ofString "encoding", v)]⟩ := by
  unfold argsOk; rw [signature?_of (id := "bytes.decode") (n := ['e', 'd', 'o', 'c', 'e', 'd']) (o := ['s', 'e', 't', 'y', 'b']) (by kernel_rfl) FB.owner_bytes]; kernel_rfl
theorem args_dec_2 {a v : Value} : argsOk "bytes.decode" ⟨[a, v], []⟩ := by
  unfold argsOk; rw [signature?_of (id := "bytes.decode") (n := ['e', 'd', 'o', 'c', 'e', 'd']) (o := ['s', 'e', 't', 'y', 'b']) (by kernel_rfl) FB.owner_bytes]; kernel_rfl
theorem road_lat {id : String} : _codecs.decodeRoad id b (Str.ofString "latin1") none [] = (_codecs.runDecoder id _codecs.latin1Decoder none true b 0 [] >>= fun r => mkStr ⟨r.1⟩) := by kernel_rfl
theorem road_asc {id : String} : _codecs.decodeRoad id b (Str.ofString "ascii") none [] = (_codecs.runDecoder id _codecs.asciiDecoder none true b 0 [] >>= fun r => mkStr ⟨r.1⟩) := by kernel_rfl
theorem meets_lat {t1 t2 : Tok} {d : PySem.Str} (hD : nums b = D.cps.toList) :
    Meets («_codecs.decode.text» ⟨[.bytes b t, .str (Str.ofString "latin1") t1, .none, .str d t2], []⟩) (fun _ R s => D.length ≤ sizeLine ∧ R (.ok (.ret (.str D s.toks))) { s with toks := s.toks + 1 }) := by
  refine .of_wp fun prog w A R s hS => ?_
  obtain ⟨hsz, h⟩ := hS
  have hbs : b.size = D.length := by rw [← nums_len, hD]; simp [Str.length]
  show wpAny _ _ (Bytes.bytesLike _ (.bytes b t) >>= fun r => _) _ _ s
  refine wpAny_bind (wpAny_of_eq KBd.like_eq ?_)
  refine wpAny_bind (wpAny_of_eq KBd.held_eq ?_)
  show wpAny _ _ (_codecs.decodeRoad _ b (PySem.Str.ofString "latin1") none [] >>= fun v => _) _ _ s
  rw [road_lat]
  refine wpAny_bind (wpAny_bind (run_dec (f := fun p => (b.getD p 0).toNat) (fun p _ => rfl) (by rw [hbs]; exact hsz) ?_))
  have e : (⟨((List.range b.size).map fun p => (b.getD p 0).toNat).toArray⟩ : Str) = D := by
    rw [range_nums, hD]
  dsimp only
  rw [e]
  exact wpAny_mkStr (wpAny_pure ⟨_, rfl, h⟩) hsz
theorem meets_asc {t1 t2 : Tok} {d : PySem.Str} (hD : nums b = D.cps.toList) (ha : ∀ c ∈ nums b, c < 128) :
    Meets («_codecs.decode.text» ⟨[.bytes b t, .str (Str.ofString "ascii") t1, .none, .str d t2], []⟩) (fun _ R s => D.length ≤ sizeLine ∧ R (.ok (.ret (.str D s.toks))) { s with toks := s.toks + 1 }) := by
  refine .of_wp fun prog w A R s hS => ?_
  obtain ⟨hsz, h⟩ := hS
  have hbs : b.size = D.length := by rw [← nums_len, hD]; simp [Str.length]
  show wpAny _ _ (Bytes.bytesLike _ (.bytes b t) >>= fun r => _) _ _ s
  refine wpAny_bind (wpAny_of_eq KBd.like_eq ?_)
  refine wpAny_bind (wpAny_of_eq KBd.held_eq ?_)
  show wpAny _ _ (_codecs.decodeRoad _ b (PySem.Str.ofString "ascii") none [] >>= fun v => _) _ _ s
  rw [road_asc]
  refine wpAny_bind (wpAny_bind (run_dec (f := fun p => (b.getD p 0).toNat) (fun p hp => ?_) (by rw [hbs]; exact hsz) ?_))
  · have : (b.getD p 0).toNat < 128 := by
      refine ha _ ?_
      rw [← range_nums]
      exact List.mem_map.mpr ⟨p, List.mem_range.mpr hp, rfl⟩
    show (if (b.getD p 0).toNat < 128 then _ else _) = _
    rw [if_pos this]; rfl
  have e : (⟨((List.range b.size).map fun p => (b.getD p 0).toNat).toArray⟩ : Str) = D := by
    rw [range_nums, hD]
  dsimp only
  rw [e]
  exact wpAny_mkStr (wpAny_pure ⟨_, rfl, h⟩) hsz
theorem decode_lat (hD : nums b = D.cps.toList) (hsz : D.length ≤ 16777216) {Q : Value → Shared → Prop} (h : ∀ t' k, Q (.str D t') { s with toks := k }) :
    wpAny (model prog w) A (call (.builtin "bytes.decode") [.bytes b t] [(Str.ofString "encoding", .str (Str.ofString "latin1") t1)]) Q E s := by
  refine wpAny_call_entry_kw FB.slot_bytes_decode (typeIs_bytes _ _ _) FB.entry_bytes_decode ?_ args_dec_kw
  obtain ⟨l⟩ := b
  cases l with
  | nil =>
    have e : D = Str.empty := by
      apply Str.ext'
      have : D.cps.toList = [] := hD.symm
      show D.cps = #[]
      exact Array.toList_inj.mp this
    show wpAny _ _ («bytes.decode» ⟨[.bytes ([] : List UInt8).toArray t], _⟩) _ _ _
    rw [dec_kw0]
    subst e
    exact wpAny_bind (wpAny_rule (wpAny_bind (wpAny_mkStr (wpAny_pure ⟨_, rfl, h _ _⟩) (by decide))))
  | cons c cs =>
    show wpAny _ _ («bytes.decode» ⟨[.bytes (c :: cs).toArray t], _⟩) _ _ _
    rw [dec_kw]
    refine wpAny_bind (wpAny_mkStr ?_ (by decide))
    refine wpAny_bind (wpAny_mkStr ?_ (by decide))
    refine wpAny_bind (wpAny_mkStr ?_ (by decide))
    exact wpAny_bind (call_function_meets KBd.kind_text KBd.plain_text KBd.entry_text (KBd.args_text _ _ _ _) (meets_lat hD) ⟨by rw [sizeLine_eq]; exact hsz, wpAny_pure ⟨_, rfl, h _ _⟩⟩)
end
/-- «str(b, 'latin1')»: the text of the octets' numbers -/
theorem lat_to {b : Array UInt8} {D : Str} (hD : nums b = D.cps.toList) (hsz : D.length ≤ 16777216) : LatTo b D := by
  intro prog w A E s Q t t1 h
  refine callType_codes (T := "str") (Bi := Builtin.«object.__init__») (Q₁ := fun r s₁ => ∃ u, r = .str D u ∧ Q r s₁) PySem.F.called_str (typeCall_str_2 _ _) PySem.F.entry_object_init ?_ ?_
  · refine codeAny_of_tree ?_
    show wpAny _ A.in1.in1 (do checkBuiltinCall "str.__new__" ⟨[.type "str", .bytes b t, .str (Str.ofString "latin1") t1], []⟩; again (.builtin "str.__new__" ⟨[.type "str", .bytes b t, .str (Str.ofString "latin1") t1], []⟩)) _ _ s
    refine wpAny_bind (wpAny_of_eq (newCall_str_2 _ _) (wpAny_pure ⟨plainId_quiet (by decide +kernel) _, codeAny_builtin PySem.F.entry_str_new ?_⟩))
    rw [Around.under_plainId (by decide +kernel) _]
    exact str_new_lat (fun Q E s t1 hq => decode_lat hD hsz hq) fun t' k => ⟨_, rfl, h t' k⟩
  · rintro obj s₁ ⟨u, rfl, hq⟩
    exact ⟨typeIs_str _ _ _, PySem.F.args_object_init_3 _ _ _, object_init_meets PySem.F.called_str.init.lookup PySem.F.called_str.made (by decide) prog w A.in1 _ s₁ ⟨typeIs_str _ _ _, rfl, hq⟩⟩
/-- «bs.decode('ascii')» -/
theorem dec_to {b : Array UInt8} {D : Str} (hD : nums b = D.cps.toList) (ha : ∀ c ∈ nums b, c < 128) (hn : 0 < b.size) (hsz : D.length ≤ 16777216) : DecTo b D := by
  intro prog w A E s Q t t1 h
  refine wpAny_call_entry FB.slot_bytes_decode (typeIs_bytes _ _ _) FB.entry_bytes_decode ?_ args_dec_2
  obtain ⟨l⟩ := b
  cases l with
  | nil => exact absurd hn (by decide)
  | cons c cs =>
    show wpAny _ _ («bytes.decode» ⟨[.bytes (c :: cs).toArray t, _], _⟩) _ _ _
    rw [dec_pos]
    refine wpAny_bind (wpAny_mkStr ?_ (by decide))
    refine wpAny_bind (wpAny_mkStr ?_ (by decide))
    refine wpAny_bind (wpAny_mkStr ?_ (by decide))
    exact wpAny_bind (call_function_meets KBd.kind_text KBd.plain_text KBd.entry_text (KBd.args_text _ _ _ _) (meets_asc hD ha) ⟨by rw [sizeLine_eq]; exact hsz, wpAny_pure ⟨_, rfl, h _ _⟩⟩)
theorem enc_entry {m : Str} {t t1 t2 : Tok} : «str.encode» ⟨[.str m t, .str (Str.ofString "ascii") t1, .str (Str.ofString "backslashreplace") t2], []⟩ = ((_codecs.encodeNarrow "str.encode" _codecs.asciiCodec (some (Str.ofString "backslashreplace")) (.str m t) m >>= fun b => mkBytes b) >>= fun v => ret v) := by kernel_rfl
/-- the octets of a text of signs below 128 -/
def ascB (t : String) : Array UInt8 := (t.toList.map fun c => c.toNat.toUInt8).toArray
/-- what the encoder makes of m: with or without a note of a fault -/
def EncN (m : Str) (bs : Array UInt8) : Prop := ∀ v, _codecs.encodeNarrow "str.encode" _codecs.asciiCodec (some (Str.ofString "backslashreplace")) v m = pure bs ∨ _codecs.encodeNarrow "str.encode" _codecs.asciiCodec (some (Str.ofString "backslashreplace")) v m = (rule "str.encode.fault.backslashreplace" >>= fun _ => pure bs)
theorem enc_to {m : Str} {bs : Array UInt8} (he : EncN m bs) (hz : bs.size ≤ 16777216) : EncTo m bs := by
  intro prog w A E s Q t t1 t2 h
  refine wpAny_call_entry F.slot_str_encode (typeIs_str _ _ _) F.entry_str_encode ?_ (F.args_str_encode_3 _ _ _)
  rw [enc_entry]
  have fin : ∀ s' : Shared, s' = s → wpAny (model prog w) A.in1 (mkBytes bs) (fun v s₁ => wpAny (model prog w) A.in1 (ret v) (fun fin s' => ∃ v, fin = .done (.ret v) ∧ Q v s') E s₁) E s' := by
    rintro s' rfl
    refine wpAny_mkBytes (wpAny_pure ⟨_, rfl, h _ _⟩) (by rw [sizeLine_eq]; exact hz)
  rcases he (.str m t) with e | e
  · rw [e]
    exact wpAny_bind (wpAny_bind (wpAny_pure (fin _ rfl)))
  · rw [e]
    exact wpAny_bind (wpAny_bind (wpAny_bind (wpAny_rule (wpAny_pure (fin _ rfl)))))
/-- encoded and decoded again: words below 128 -/
theorem recode {m m' : Str} {t : String} (he : EncN m (ascB t)) (h1 : nums (ascB t) = m'.cps.toList) (h2 : ∀ c ∈ nums (ascB t), c < 128) (h3 : 0 < (ascB t).size) (h4 : m'.length ≤ 10000) : ∃ bs, EncTo m bs ∧ DecTo bs m' := by
  have hz : (ascB t).size = m'.length := by rw [← nums_len, h1]; simp [Str.length]
  exact ⟨_, enc_to he (by omega), dec_to h1 h2 h3 (by omega)⟩
end Mine
end

section
open PySem PySem.W PySem.Calls PySem.Spec PyProof.Rows
set_option maxRecDepth 100000
set_option maxHeartbeats 2000000
namespace Mine
theorem anew5 : True := by
  w_top off
  exact True.intro
open TI
theorem fillNW5 (P : Params) : hd.heap_1 P = hd.heap_1 P ∧ PySem.Challenge.rw_kq0016_05 = PySem.Challenge.rw_kq0016_05 := by
  k_fill
  exact ⟨rfl, rfl⟩
theorem gi_text {D : Str} {t : Tok} : GivenIs true (.str D t) D := .inl ⟨rfl, t, rfl⟩
theorem gi_octets {D : Str} {B : Array UInt8} {t : Tok} (h : nums B = D.cps.toList) : GivenIs false (.bytes B t) D := .inr ⟨rfl, B, t, rfl, h⟩
local macro_rules | `(tactic| walk_at "call ref") => wl 3 "" "call Value.ref #65 @1 _ @2" `next_lone "5_____________ab__" ".1adb6.2" "" "" ["i:=#0", "gi_text | gi_octets !A @1"]
local macro_rules | `(tactic| walk_at "call ref") => wl 3 "" "call Value.ref #65 @1 _ @2" `nextX_ok "5_____________a___" ".1ad.2" "h' sl' qs' tk' i' it' nv' SU' Fs' F' N' R' b' ok1 ok2" "Y" ["i:=#0"]
theorem new_xS {w : World} {loose : List Str} {mean : ExcName → Option Value} {mg mb : Str → Option Value} {A : Around} {ce : Env}
    {base : Heap} {L : Addr} {m : Str → Option Value} {s : Shared} {Q E : Value → Shared → Prop} {new : List (Addr × Obj)} {lone : Bool} {D : Str} {dt : Tok} {sgs : List Str}
    (F : Fr base L s.heap m) (X : (hd.heap_1 w.params).In base) (N : News base L s.heap (new ++ [])) (T : Top hd.view_39 loose mean mg mb base)
    (hcs : EvAt ce L) (hA : A.frames = some [ce]) (hh : A.handled = none) (hd' : A.depth + 20 < recursionLimit)
    (hD : D.length ≤ 2000) (hs : SignsX lone D 0 sgs)
    (hQ : ¬ (sgs = [] ∧ lone = true) → ∀ h' tk x dx k1 k2 k3 k4 k5 st dt' (i' : Nat) it' nv', Fr base L h' m → News base L h' ((x, instObj 133 dx) :: (dx, tokD w.params k1 k2 k3 k4 k5 true (.str D st) (.str D dt') (.int i' it') nv') :: (new ++ [])) → RdX lone D i' nv' 0 sgs → i' ≤ 3000 → (∀ q ∈ new ++ [], q.1 ≠ dx) → (∀ q ∈ new ++ [], q.1 ≠ x) → Q (.ref x) { s with heap := h', toks := tk })
    (hE : sgs = [] → lone = true → ∀ x dx k1 k2 k3 k4 k5 st dt' it', (∀ q ∈ new ++ [], q.1 ≠ dx) → (∀ q ∈ new ++ [], q.1 ≠ x) → RaisedE w.params base L m [] ((x, instObj 133 dx) :: (dx, tokD w.params k1 k2 k3 k4 k5 true (.str D st) (.str D dt') (.int 0 it') .none) :: new) [] (Str.ofString "bad escape (end of pattern)") (.str D st) D.cps.toList ((D.length : Int) - 1) E s) :
    wpAny (model PySem.Challenge.rw_kq0016_05.row.prog w) A (call (.ref 133) [.str D dt]) Q E s := by
  k_dflt (refine' call_cls ?k1 ?k2 ?k3 ?k4 ?k5 ?k6 ?_; (case k1 => k_asm); (case k2 => k_asm); (case k3 => k_asm); (case k4 => k_is); (case k5 => k_is); (case k6 => k_is))
  intro x d h' F' N' l1 l2
  have Fs : Frs [] [] := trivial
  have hap : ∀ q ∈ new, q.1 ∉ ([] : List (Addr × Obj)).map (·.1) := by simp
  have hxd : x ≠ d := Ne.symm (Nat.ne_of_lt l2)
  refine enterV (ev := ce) F' X N' T Fs rfl (by kernel_rfl) (by show A.depth + 1 < recursionLimit; omega) (BindsTo.of_eq rfl) (locs rfl) (fun oL L' h₁ Cl Fs₁ F₁ N₁ hne hltL => ?_) hcs rfl rfl rfl (by decide)
  have N₂ : News base L' h₁ ((x, instObj 133 d) :: (d, dictOf [] 0) :: (new ++ ((L, { oL with slots := oL.slots }) :: []))) := fun q hq => N₁ q (mem_i1 hq)
  have hLd : L ≠ d := Ne.symm (hne (d, dictOf [] 0) (List.mem_cons_of_mem _ List.mem_cons_self))
  have hLx : L ≠ x := Ne.symm (hne (x, instObj 133 d) List.mem_cons_self)
  have hnL : ∀ q ∈ new ++ [], q.1 ≠ L := fun q hq => hne q (List.mem_cons_of_mem _ (List.mem_cons_of_mem _ hq))
  have hdx : ∀ q ∈ new ++ [], q.1 ≠ d := fun q hq => Nat.ne_of_lt (l1 q hq)
  have hxn : ∀ q ∈ new ++ [], q.1 ≠ x := fun q hq => Nat.ne_of_lt (Nat.lt_trans (l1 q hq) l2)
  have hxf : ∀ q ∈ ([] : List (Addr × Obj)), q.1 ≠ x := fun q hq => hxn q (List.mem_append_right _ hq)
  obtain ⟨hdx', hxf', hap'⟩ := ff (oL := { oL with slots := oL.slots }) hdx hxf hap hLd hLx hnL (SameUp.refl [])
  have Fs₂ : Frs (ce :: []) ((L, { oL with slots := oL.slots }) :: []) := Fs₁
  clear N₁ Fs₁
  by_cases hl : sgs = [] ∧ lone = true
  · obtain ⟨rfl, rfl⟩ := hl
    have hla := hs.lone_at
    k_steps
    have SU0 := SameUp.refl ([] : List (Addr × Obj))
    exact pass_raised Cl (Around.frames_deeper hA) rfl (ffmid (ff hdx hxf hap hLd hLx hnL SU0).1 (ff hdx hxf hap hLd hLx hnL SU0).2.1 (ff hdx hxf hap hLd hLx hnL SU0).2.2) (ffL hLd hLx hnL SU0) ((hE rfl rfl _ _ _ _ _ _ _ _ _ _ hdx hxn).up SU0)
  · k_steps
    have SU := ‹SameUp [] _›
    obtain rfl := sameUp_nil SU
    obtain ⟨r1, r2⟩ := fin2 (new := new) Cl (by assumption) (by assumption) hLx hLd hnL
    refine ⟨rfl, ?_⟩
    exact hQ hl _ _ x d _ _ _ _ _ _ _ _ _ _ r1 r2 (by assumption) (by assumption) hdx hxn
local macro_rules | `(tactic| walk_at "call type:str") => wl 0 "" "" `lat_go "'w_" "" "t' k'" "" []
theorem new_xB {w : World} {loose : List Str} {mean : ExcName → Option Value} {mg mb : Str → Option Value} {A : Around} {ce : Env}
    {base : Heap} {L : Addr} {m : Str → Option Value} {s : Shared} {Q E : Value → Shared → Prop} {new : List (Addr × Obj)} {lone : Bool} {D : Str} {B : Array UInt8} {dt : Tok} {sgs : List Str}
    (F : Fr base L s.heap m) (X : (hd.heap_1 w.params).In base) (N : News base L s.heap (new ++ [])) (T : Top hd.view_39 loose mean mg mb base)
    (hcs : EvAt ce L) (hA : A.frames = some [ce]) (hh : A.handled = none) (hd' : A.depth + 20 < recursionLimit)
    (hD : D.length ≤ 2000) (hs : SignsX lone D 0 sgs) (hB : nums B = D.cps.toList) (hlat : LatTo B D)
    (hQ : ¬ (sgs = [] ∧ lone = true) → ∀ h' tk x dx k1 k2 k3 k4 k5 st dt' (i' : Nat) it' nv', Fr base L h' m → News base L h' ((x, instObj 133 dx) :: (dx, tokD w.params k1 k2 k3 k4 k5 false (.bytes B st) (.str D dt') (.int i' it') nv') :: (new ++ [])) → RdX lone D i' nv' 0 sgs → i' ≤ 3000 → (∀ q ∈ new ++ [], q.1 ≠ dx) → (∀ q ∈ new ++ [], q.1 ≠ x) → Q (.ref x) { s with heap := h', toks := tk })
    (hE : sgs = [] → lone = true → ∀ x dx k1 k2 k3 k4 k5 st dt' it', (∀ q ∈ new ++ [], q.1 ≠ dx) → (∀ q ∈ new ++ [], q.1 ≠ x) → RaisedE w.params base L m [] ((x, instObj 133 dx) :: (dx, tokD w.params k1 k2 k3 k4 k5 false (.bytes B st) (.str D dt') (.int 0 it') .none) :: new) [] (Str.ofString "bad escape (end of pattern)") (.bytes B st) D.cps.toList ((D.length : Int) - 1) E s) :
    wpAny (model PySem.Challenge.rw_kq0016_05.row.prog w) A (call (.ref 133) [.bytes B dt]) Q E s := by
  k_dflt (refine' call_cls ?k1 ?k2 ?k3 ?k4 ?k5 ?k6 ?_; (case k1 => k_asm); (case k2 => k_asm); (case k3 => k_asm); (case k4 => k_is); (case k5 => k_is); (case k6 => k_is))
  intro x d h' F' N' l1 l2
  have Fs : Frs [] [] := trivial
  have hap : ∀ q ∈ new, q.1 ∉ ([] : List (Addr × Obj)).map (·.1) := by simp
  have hxd : x ≠ d := Ne.symm (Nat.ne_of_lt l2)
  refine enterV (ev := ce) F' X N' T Fs rfl (by kernel_rfl) (by show A.depth + 1 < recursionLimit; omega) (BindsTo.of_eq rfl) (locs rfl) (fun oL L' h₁ Cl Fs₁ F₁ N₁ hne hltL => ?_) hcs rfl rfl rfl (by decide)
  have N₂ : News base L' h₁ ((x, instObj 133 d) :: (d, dictOf [] 0) :: (new ++ ((L, { oL with slots := oL.slots }) :: []))) := fun q hq => N₁ q (mem_i1 hq)
  have hLd : L ≠ d := Ne.symm (hne (d, dictOf [] 0) (List.mem_cons_of_mem _ List.mem_cons_self))
  have hLx : L ≠ x := Ne.symm (hne (x, instObj 133 d) List.mem_cons_self)
  have hnL : ∀ q ∈ new ++ [], q.1 ≠ L := fun q hq => hne q (List.mem_cons_of_mem _ (List.mem_cons_of_mem _ hq))
  have hdx : ∀ q ∈ new ++ [], q.1 ≠ d := fun q hq => Nat.ne_of_lt (l1 q hq)
  have hxn : ∀ q ∈ new ++ [], q.1 ≠ x := fun q hq => Nat.ne_of_lt (Nat.lt_trans (l1 q hq) l2)
  have hxf : ∀ q ∈ ([] : List (Addr × Obj)), q.1 ≠ x := fun q hq => hxn q (List.mem_append_right _ hq)
  obtain ⟨hdx', hxf', hap'⟩ := ff (oL := { oL with slots := oL.slots }) hdx hxf hap hLd hLx hnL (SameUp.refl [])
  have Fs₂ : Frs (ce :: []) ((L, { oL with slots := oL.slots }) :: []) := Fs₁
  clear N₁ Fs₁
  by_cases hl : sgs = [] ∧ lone = true
  · obtain ⟨rfl, rfl⟩ := hl
    have hla := hs.lone_at
    k_steps
    have SU0 := SameUp.refl ([] : List (Addr × Obj))
    exact pass_raised Cl (Around.frames_deeper hA) rfl (ffmid (ff hdx hxf hap hLd hLx hnL SU0).1 (ff hdx hxf hap hLd hLx hnL SU0).2.1 (ff hdx hxf hap hLd hLx hnL SU0).2.2) (ffL hLd hLx hnL SU0) ((hE rfl rfl _ _ _ _ _ _ _ _ _ _ hdx hxn).up SU0)
  · k_steps
    have SU := ‹SameUp [] _›
    obtain rfl := sameUp_nil SU
    obtain ⟨r1, r2⟩ := fin2 (new := new) Cl (by assumption) (by assumption) hLx hLd hnL
    refine ⟨rfl, ?_⟩
    exact hQ hl _ _ x d _ _ _ _ _ _ _ _ _ _ r1 r2 (by assumption) (by assumption) hdx hxn
/-- Tokenizer(given) at the law's level -/
theorem new_c {w : World} {loose : List Str} {mean : ExcName → Option Value} {mg mb : Str → Option Value} {A : Around} {ce : Env}
    {base : Heap} {L : Addr} {m : Str → Option Value} {s : Shared} {Q E : Value → Shared → Prop} {new : List (Addr × Obj)} {b lone : Bool} {gv : Value} {D : Str} {sgs : List Str}
    (F : Fr base L s.heap m) (X : (hd.heap_1 w.params).In base) (N : News base L s.heap new) (T : Top hd.view_39 loose mean mg mb base)
    (hcs : EvAt ce L) (hA : A.frames = some [ce]) (hh : A.handled = none) (hd' : A.depth + 20 < recursionLimit) (hD : D.length ≤ 2000) (hs : SignsX lone D 0 sgs) (hg : GivenIs b gv D)
    (hQ : ¬ (sgs = [] ∧ lone = true) → ∀ h' tk x dx k1 k2 k3 k4 k5 gv' dt' (i' : Nat) it' nv', GivenIs b gv' D → (∀ u v, SameV u gv' → SameV v gv → SameV u v) → Fr base L h' m → News base L h' ((x, instObj 133 dx) :: (dx, tokD w.params k1 k2 k3 k4 k5 b gv' (.str D dt') (.int i' it') nv') :: new) → RdX lone D i' nv' 0 sgs → i' ≤ 3000 → (∀ q ∈ new, q.1 ≠ dx) → Q (.ref x) { s with heap := h', toks := tk })
    (hE : sgs = [] → lone = true → ∀ x dx k1 k2 k3 k4 k5 gv' dt' it', GivenIs b gv' D → (∀ u v, SameV u gv' → SameV v gv → SameV u v) → (∀ q ∈ new, q.1 ≠ dx) → RaisedE w.params base L m [] ((x, instObj 133 dx) :: (dx, tokD w.params k1 k2 k3 k4 k5 b gv' (.str D dt') (.int 0 it') .none) :: new) [] (Str.ofString "bad escape (end of pattern)") gv' D.cps.toList ((D.length : Int) - 1) E s) :
    wpAny (model PySem.Challenge.rw_kq0016_05.row.prog w) A (call (.ref 133) [gv]) Q E s := by
  have en : new ++ [] = new := List.append_nil new
  rcases hg with ⟨rfl, t, rfl⟩ | ⟨rfl, B, t, rfl, hB⟩
  · refine new_xS F X (by rw [en]; exact N) T hcs hA hh hd' hD hs ?_ ?_
    · intro hl h' tk x dx k1 k2 k3 k4 k5 st dt' i' it' nv' F' N' R' b' o1 o2
      rw [en] at N' o1
      exact hQ hl h' tk x dx k1 k2 k3 k4 k5 _ dt' i' it' nv' (.inl ⟨rfl, _, rfl⟩) same_text F' N' R' b' o1
    · intro h1 h2 x dx k1 k2 k3 k4 k5 st dt' it' o1 o2
      rw [en] at o1
      exact hE h1 h2 x dx k1 k2 k3 k4 k5 _ dt' it' (.inl ⟨rfl, _, rfl⟩) same_text o1
  · refine new_xB F X (by rw [en]; exact N) T hcs hA hh hd' hD hs hB (lat_to hB (by omega)) ?_ ?_
    · intro hl h' tk x dx k1 k2 k3 k4 k5 st dt' i' it' nv' F' N' R' b' o1 o2
      rw [en] at N' o1
      exact hQ hl h' tk x dx k1 k2 k3 k4 k5 _ dt' i' it' nv' (.inr ⟨rfl, _, _, rfl, hB⟩) same_octets F' N' R' b' o1
    · intro h1 h2 x dx k1 k2 k3 k4 k5 st dt' it' o1 o2
      rw [en] at o1
      exact hE h1 h2 x dx k1 k2 k3 k4 k5 _ dt' it' (.inr ⟨rfl, _, _, rfl, hB⟩) same_octets o1
end Mine
end

section
open PySem PySem.W PySem.Calls PySem.Spec PyProof.Rows PySem.Builtin
set_option maxRecDepth 100000
namespace Mine
abbrev tabS : List Str := [Str.ofString "a", Str.ofString "b", Str.ofString "0", Str.ofString "\n", Str.ofString ">", Str.ofString ")", Str.ofString "\\>", Str.ofString "\\\\", Str.ofString "é"]
abbrev endS : List Str := [Str.ofString ">", Str.ofString ")", Str.ofString "\\>", Str.ofString "é", Str.ofString "\n"]
/-- what the law has built so far -/
structure Bst where
  text : Str
  name : Str
  e : Str
  rows : List (Str × Str × Nat)
/-- the sign of a number -/
def sgn (v : Int) (e : Str) : Str := if v.fmod 12 < 9 then tabS.getD (v.fmod 12).toNat Str.empty else e
def bstep (st : Bst) (v : Int) : Bst :=
  if sgn v st.e == st.e then ⟨st.text ++ sgn v st.e, Str.ofString "", endS.getD ((v.fdiv 12 + ((st.rows.length + 1 : Nat) : Int)).fmod 5).toNat Str.empty, st.rows ++ [(st.name, st.e, (st.text ++ sgn v st.e).length)]⟩
  else ⟨st.text ++ sgn v st.e, st.name ++ sgn v st.e, st.e, st.rows⟩
def bst0 (z : Int) : Bst := ⟨Str.ofString "", Str.ofString "", endS.getD ((z.fdiv 2).fmod 5).toNat Str.empty, []⟩
def built (ns : List Int) (z : Int) : Bst := ns.foldl bstep (bst0 z)
/-- one row as a tuple of the ledger -/
def RowAt (tups : List (Addr × Obj)) (r : Value) (row : Str × Str × Int) : Prop := ∃ T t1 t2 t3, r = .ref T ∧ (T, ({ cls := .type "tuple", data := .seq #[.str row.1 t1, .str row.2.1 t2, .int row.2.2 t3] } : Obj)) ∈ tups
def RowsAt (tups : List (Addr × Obj)) : List Value → List (Str × Str × Int) → Prop
  | [], [] => True
  | r :: rs, row :: rows => RowAt tups r row ∧ RowsAt tups rs rows
  | _, _ => False
def iRows (l : List (Str × Str × Nat)) : List (Str × Str × Int) := l.map fun r => (r.1, r.2.1, (r.2.2 : Int))
section
variable {a b c d e f : Str} {va vb vc vd ve vf va' vc' vd' ve' vf' : Option Value} {M : Str → Option Value}
/-- the local names in the loop that builds -/
abbrev lM (a b c d e f : Str) (va vb vc vd ve vf : Option Value) (M : Str → Option Value) : Str → Option Value := fun y => if y = a then va else if y = b then vb else if y = c then vc else if y = d then vd else if y = e then ve else if y = f then vf else M y
end
def Bnd (n : Nat) (st : Bst) : Prop := st.text.length ≤ 2 * n ∧ st.name.length ≤ 2 * n ∧ st.e.length ≤ 2 ∧ st.rows.length ≤ n
end Mine
end

section
open PySem PySem.W PySem.Calls PySem.Spec PyProof.Rows
set_option maxRecDepth 100000
namespace Mine
/-- a sign of a text: one of a backslash with what follows it, or any other -/
def IsSign (y : Str) : Prop := (∃ c, c ≠ 92 ∧ c < 256 ∧ y = one c) ∨ (∃ c, c < 256 ∧ y = one 92 ++ one c)
def sg (l : List Str) : List Nat := (l.map fun y => y.cps.toList).flatten
theorem app_cps (a b : Str) : (a ++ b).cps.toList = a.cps.toList ++ b.cps.toList := by rw [Str.cps_append]; simp
theorem empty_cps : (Str.ofString "").cps.toList = [] := by decide +kernel
theorem cat_cps (l : List Str) : (cat l).cps.toList = sg l := by
  have : ∀ (l : List Str) (a : Str), (l.foldl (· ++ ·) a).cps.toList = a.cps.toList ++ sg l := by
    intro l
    induction l with
    | nil => intro a; simp [sg]
    | cons y r ih => intro a; rw [List.foldl_cons, ih, app_cps]; simp [sg]
  unfold cat
  rw [this, empty_cps, List.nil_append]
theorem str_ext {a b : Str} (h : a.cps.toList = b.cps.toList) : a = b := Str.ext' (Array.toList_inj.mp h)
theorem sg_app (a b : List Str) : sg (a ++ b) = sg a ++ sg b := by simp [sg]
theorem cat_app (a b : List Str) : cat (a ++ b) = cat a ++ cat b := str_ext (by rw [app_cps, cat_cps, cat_cps, cat_cps, sg_app])
theorem cat_one (y : Str) : cat [y] = y := str_ext (by rw [cat_cps]; simp [sg])
/-- the signs of rows that are ended -/
def flat (done : List (List Str × Str)) : List Str := (done.map fun r => r.1 ++ [r.2]).flatten
def rowsOf : Nat → List (List Str × Str) → List (Str × Str × Nat)
  | _, [] => []
  | p, r :: rest => (cat r.1, r.2, p + (cat (r.1 ++ [r.2])).length) :: rowsOf (p + (cat (r.1 ++ [r.2])).length) rest
/-- what holds of the built text between the turns -/
structure BInv (st : Bst) (done : List (List Str × Str)) (cur : List Str) (ke : Nat) : Prop where
  name : st.name = cat cur
  off : st.e ∉ cur
  kb : ke < 5
  e : st.e = endS.getD ke Str.empty
  text : st.text = cat (flat done ++ cur)
  rows : st.rows = rowsOf 0 done
  ends : ∀ r ∈ done, r.2 ∉ r.1 ∧ ∃ k < 5, r.2 = endS.getD k Str.empty
  signs : ∀ y ∈ flat done ++ cur, IsSign y
end Mine
end

section
open PySem PySem.W PySem.Calls PySem.Spec PyProof.Rows PySem.Builtin
set_option maxRecDepth 100000
set_option maxHeartbeats 1000000
namespace Mine
theorem Has.consM {m : Str → Option Value} {l l' : List (Str × Value)} {n : Str} {v : Value} (h : Has m l) (hm : (n, v) ∈ l) (r : Has m l') : Has m ((n, v) :: l') := Has.cons (h _ hm) r
/-- how a turn of a loop ends: the ledger may have grown -/
def TurnV (h₀ : Heap) (L I : Addr) (oI : Obj) (Jn : (Str → Option Value) → List (Addr × Obj) → Prop) (s₁ : Shared) (Q : Flow → Shared → Prop) (f : Flow) (s₂ : Shared) : Prop :=
  match f with
  | .ret v => Q (.ret v) s₂
  | .brk => Q .next s₂
  | _ => ∃ h' tk m₂ news₂, s₂ = { s₁ with heap := h', toks := tk } ∧ Fr h₀ L h' m₂ ∧ News h₀ L h' ((I, oI) :: news₂) ∧ (∀ p ∈ news₂, p.1 ≠ I) ∧ Jn m₂ news₂
section
variable {prog : Program} {w : World} {A : Around} {s : Shared} {env : Env} {h₀ : Heap} {E : Value → Shared → Prop} {Q : Flow → Shared → Prop} {x : Str} {body : List Stmt}
/-- an iterator of a range -/
def rgIt (x left c : Int) : Obj := { cls := .type "range_iterator", data := .fields #[rawInt x, rawInt left, rawInt c] }
/-- a loop over a range of the ledger, the ledger growing from turn to turn -/
theorem iter_rangeV {r : Addr} {a₀ b₀ c : Int} {t₀ u₀ v₀ : Tok} {n : Nat} {m₀ : Str → Option Value} {news : List (Addr × Obj)} (J : Nat → (Str → Option Value) → List (Addr × Obj) → Prop)
    (hh : A.handled = none) (hr : IsRange s.heap r a₀ b₀ c t₀ u₀ v₀) (hsmall : Builtin.Range.small a₀ b₀ c = true) (hn : Builtin.Range.rangeSize a₀ b₀ c = (n : Int)) (F : Fr h₀ env.locals s.heap m₀) (N : News h₀ env.locals s.heap news) (hj : J 0 m₀ news)
    (turn : ∀ i t m₁ news₁ h tk I oI, i < n → J i m₁ news₁ → (∀ p ∈ news₁, p.1 ≠ I) → Fr h₀ env.locals h (fun y => if y = x then some (.int (a₀ + (i : Int) * c) t) else m₁ y) → News h₀ env.locals h ((I, oI) :: news₁) →
      wpAny (model prog w) A (execs body env) (TurnV h₀ env.locals I oI (J (i + 1)) { s with heap := h, toks := tk } Q) E { s with heap := h, toks := tk })
    (done : ∀ m₁ news₁ h tk, J n m₁ news₁ → Fr h₀ env.locals h m₁ → News h₀ env.locals h news₁ → Q .next { s with heap := h, toks := tk }) :
    wpAny (model prog w) A (pyIter (.ref r)) (fun it s₂ => LoopAtV prog w A h₀ env x body Q E it s₂) E s := by
  refine wpAny_pyIter_range hr hsmall ?_
  have Wk : Walks prog w A s.heap.objs.size [s.heap.objs.size] [s.heap.objs.size] n (fun i v => i < n ∧ ∃ t, v = .int (a₀ + i * c) t)
      (fun i h => IsRangeIter h s.heap.objs.size (a₀ + (i : Nat) * c) ((n : Int) - (i : Nat)) c) := (Walks.range hh _ a₀ c n).bound
  have hnew := next_is_new F
  refine ⟨_, _, _, n, _, _, m₀, news, J, rfl, Wk, ?_, ?_, ?_, (by show IsRangeIter _ _ _ _ _; rw [hn]; simpa using Heap.get?_push_size _ rfl), F.push _, (fun p hp => ⟨Heap.get?_push_of_some _ (N p hp).1, (N p hp).2⟩), hj, ?_, ?_⟩
  · intro hm
    exact absurd F.ns.lt ((List.mem_singleton.mp hm) ▸ Nat.lt_irrefl _)
  · intro b hb
    rw [List.mem_singleton.mp hb]
    exact hnew
  · intro p hp hI
    exact absurd (Heap.lt_size (N p hp).1) ((List.mem_singleton.mp hI) ▸ Nat.lt_irrefl _)
  · rintro i v m₁ news₁ s₁ own ⟨hh', tk', rfl⟩ hin ⟨_, t, rfl⟩ hJ hoff hown hget hall hst F₁ N₁
    have hst' : hh'.get? s.heap.objs.size = some (rgIt (a₀ + ((i + 1 : Nat) : Int) * c) ((n : Int) - ((i + 1 : Nat) : Int)) c) := hst
    have hmem := hall s.heap.objs.size (List.mem_singleton.mpr rfl) hnew _ hst'
    have N₂ : News h₀ env.locals hh' ((s.heap.objs.size, (rgIt (a₀ + ((i + 1 : Nat) : Int) * c) ((n : Int) - ((i + 1 : Nat) : Int)) c)) :: news₁) := fun p hp => by
      rcases List.mem_cons.mp hp with rfl | hp
      · exact N₁ _ (List.mem_append_left _ hmem)
      · exact N₁ _ (List.mem_append_right _ hp)
    have hoff' : ∀ p ∈ news₁, p.1 ≠ s.heap.objs.size := fun p hp e => hoff p hp (by rw [e]; exact List.mem_singleton_self _)
    refine wpAny_mono (turn i t m₁ news₁ hh' tk' s.heap.objs.size (rgIt (a₀ + ((i + 1 : Nat) : Int) * c) ((n : Int) - ((i + 1 : Nat) : Int)) c) hin hJ hoff' F₁ N₂) (fun f s₂ p => ?_) fun _ _ e => e
    have fin : (∃ h' tk m₂ news₂, s₂ = { ({ s with heap := hh', toks := tk' } : Shared) with heap := h', toks := tk } ∧ Fr h₀ env.locals h' m₂ ∧ News h₀ env.locals h' ((s.heap.objs.size, (rgIt (a₀ + ((i + 1 : Nat) : Int) * c) ((n : Int) - ((i + 1 : Nat) : Int)) c)) :: news₂) ∧ (∀ p ∈ news₂, p.1 ≠ s.heap.objs.size) ∧ J (i + 1) m₂ news₂) →
        LoopStepU h₀ env.locals [s.heap.objs.size] own (J (i + 1)) { s with heap := hh', toks := tk' } .next s₂ := by
      rintro ⟨h', tk, m', news', e, F', N', ho, r⟩
      refine ⟨rfl, h', tk, m', news', e, F', fun p hp => ?_, fun p hp hI => ho p hp (List.mem_singleton.mp hI), r⟩
      rcases List.mem_append.mp hp with hp | hp
      · have h1 : p.1 = s.heap.objs.size := List.mem_singleton.mp (hown p hp)
        have h2 : hh'.get? p.1 = some p.2 := hget p hp
        have h3 : p = (s.heap.objs.size, (rgIt (a₀ + ((i + 1 : Nat) : Int) * c) ((n : Int) - ((i + 1 : Nat) : Int)) c)) := by
          rw [h1, hst'] at h2
          exact Prod.ext h1 (Option.some.inj h2).symm
        rw [h3]; exact N' _ (List.mem_cons_self ..)
      · exact N' _ (List.mem_cons_of_mem _ hp)
    cases f with
    | ret v => exact p
    | brk => exact p
    | next => exact fin p
    | cont => exact fin p
  · rintro h' tk m' news' F' N' _ hJ
    exact done m' news' h' tk hJ F' N'
end
section
variable {prog : Program} {w : World} {A : Around} {E : Value → Shared → Prop} {h₀ : Heap} {L : Addr} {m : Str → Option Value} {env : Env} {elt : Expr} {x : Str} {scope : Scope} {cl : List (Str × Addr)} {s : Shared} {S : List (Addr × Obj) → Prop} {P : Nat → Value → Prop} {Fin : List Value → List (Addr × Obj) → Prop} {news : List (Addr × Obj)}
/-- how one element of a comprehension of texts ends -/
def ElStr (h₀ : Heap) (L : Addr) (m : Str → Option Value) (s₁ : Shared) (r : Str) (all : List (Addr × Obj)) (y : Value) (s₂ : Shared) : Prop := ∃ h' tk t, y = .str r t ∧ s₂ = { s₁ with heap := h', toks := tk } ∧ Fr h₀ L h' m ∧ News h₀ L h' all
theorem strs_snoc {y : Str} {t : Tok} : ∀ {vs : List Value} {ys : List Str}, StrsAre vs ys → StrsAre (vs ++ [.str y t]) (ys ++ [y])
  | _, _, .nil => .cons y t .nil
  | _, _, .cons z u r => .cons z u (strs_snoc r)
theorem comp_strs {n : Nat} (g : Nat → Str) (hS : S news)
    (turn : ∀ i v I oI C oC D m₂ ys h tk (E' : Value → Shared → Prop), i < n → P i v → LCg.NsObj oC m₂ → m₂ x = some v → Fr h₀ L h m → News h₀ L h ((I, oI) :: (C, oC) :: (D, LCg.lst ys) :: news) →
      wpAny (model prog w) A (eval elt (compEnvC scope cl C env)) (ElStr h₀ L m { s with heap := h, toks := tk } (g i) ((I, oI) :: (C, oC) :: (D, LCg.lst ys) :: news)) E' { s with heap := h, toks := tk })
    (fin : ∀ ys, StrsAre ys ((List.range n).map g) → Fin ys news) : LCg.CompRest prog w A h₀ L m env elt x scope cl s S P Fin n 0 [] news := by
  have key : ∀ (j i : Nat) (ys : List Value), i + j = n → StrsAre ys ((List.range i).map g) → LCg.CompRest prog w A h₀ L m env elt x scope cl s S P Fin j i ys news := by
    intro j
    induction j with
    | zero =>
      intro i ys hi hy
      have e : i = n := by omega
      subst e
      exact LCg.CompRest.zero (fin ys hy)
    | succ j ih =>
      intro i ys hi hy
      refine LCg.CompRest.succ ?_
      intro v I oI C oC D m₂ h tk E' hv hC hx F N off ne
      refine wpAny_mono (turn i v I oI C oC D m₂ ys h tk E' (by omega) hv hC hx F N) (fun y s₂ hq => ?_) fun _ _ e => e
      obtain ⟨h', tk', t', rfl, rfl, F', N'⟩ := hq
      refine ⟨h', tk', news, rfl, F', N', off, hS, ih (i + 1) _ (by omega) ?_⟩
      rw [List.range_succ, List.map_append]
      exact strs_snoc hy
  exact key n 0 [] (by omega) .nil
end
theorem join_cat (xs : List Str) : PySem.Txt.join (Str.ofString "") xs = cat xs := by
  show Builtin.Str.glued (Str.ofString "") xs = _
  rw [StrLaws.glued_eq_join]
  have key : ∀ (n : Nat) (l : List Str), l.length = n → Str.join (Str.ofString "") l = cat l := by
    intro n
    induction n with
    | zero => intro l hl; obtain rfl := List.eq_nil_of_length_eq_zero hl; rfl
    | succ n ih =>
      intro l hl
      have hne : l ≠ [] := by intro z; subst z; cases hl
      obtain ⟨r, a, rfl⟩ : ∃ r a, l = r ++ [a] := ⟨l.dropLast, l.getLast hne, (List.dropLast_concat_getLast hne).symm⟩
      have hr : r.length = n := by simpa using hl
      rw [FinIter.join_snoc, ih r hr, cat_snoc]
      split
      · subst_vars
        exact str_ext (by rw [app_cps, cat_nil]; rfl)
      · exact str_ext (by rw [app_cps, app_cps, app_cps]; simp [show (Str.ofString "").cps.toList = [] from rfl])
  exact key _ xs rfl
section
variable {prog : Program} {w : World} {A : Around} {E : Value → Shared → Prop} {s : Shared} {t : Tok} {Q : Value → Shared → Prop} {D : Addr} {ys : List Value} {xs : List Str} {n : Nat} {h₀ : Heap} {L : Addr} {news : List (Addr × Obj)}
theorem join_strs (N : News h₀ L s.heap news) (hm : (D, W.listOf ys.toArray n) ∈ news) (hw : StrsAre ys xs) (hB : ∀ a ∈ xs, a.length ≤ 10) (hn : xs.length ≤ 1000) (h : ∀ t' k, Q (.str (cat xs) t') { s with toks := k }) :
    wpAny (model prog w) A (call (.builtin "str.join") [.str (Str.ofString "") t, .ref D]) Q E s := by
  refine KT.join_B (α := Str) (g := _root_.id) (l := xs) 10 ⟨_, (N _ hm).1, rfl, n, rfl⟩ (by simpa using hw.carried) hB (by omega) (by decide) ?_
  intro t' k
  rw [List.map_id, join_cat]
  exact h t' k
end
section
variable {K : Type} [DecidableEq K]
end
end Mine
end

section
open PySem PySem.W PySem.Calls PySem.Spec PyProof.Rows PySem.Builtin
set_option maxRecDepth 100000
set_option maxHeartbeats 1000000
namespace Mine
section
variable {prog : Program} {w : World} {A : Around} {s : Shared} {env : Env} {h₀ : Heap} {E : Value → Shared → Prop} {Q : Flow → Shared → Prop} {body : List Stmt}
theorem truthy_at {l : Addr} {L : Addr} {vs : List Value} {n : Nat} {news : List (Addr × Obj)} {Q : Bool → Shared → Prop} {r : Bool} (N : News h₀ L s.heap news) (hm : (l, W.listOf vs.toArray n) ∈ news) (hl : vs.length ≤ 16777216) (e : (!vs.isEmpty) = r) (h : ∀ k, Q r { s with toks := k }) :
    wpAny (model prog w) A (truthy (.ref l)) Q E s :=
  kgr_truthy N hm rfl rfl (by omega) (by rw [e]; exact h _)
end
/-- two lists, item by item -/
def All2 {α β : Type} (R : α → β → Prop) : List α → List β → Prop
  | [], [] => True
  | a :: l, b :: r => R a b ∧ All2 R l r
  | _, _ => False
section
variable {α β : Type} {R S : α → β → Prop}
end
end Mine
end

section
open PySem PySem.W PySem.Calls PySem.Spec PyProof.Rows PySem.Builtin
set_option maxRecDepth 100000
set_option maxHeartbeats 1000000
namespace Mine
/-- what «c not in charset» gives, where the ledger holds the set -/
def MemTo (prog : Program) (w : World) (A : Around) (new : List (Addr × Obj)) (cs : Value) (P : Str → Bool) : Prop :=
  ∀ (A' : Around) (E : Value → Shared → Prop) (Q : Value → Shared → Prop) (s' : Shared), A'.units ≤ A.units + 4 → (∀ q ∈ new, s'.heap.get? q.1 = some q.2) →
    (∀ (y : Str) t, 1 ≤ y.length → y.length ≤ 2 → (∀ k, Q (.bool (!P y)) { s' with toks := k }) → wpAny (model prog w) A' (compareOp .NotIn (.str y t) cs) Q E s') ∧
    ((∀ k, Q (.bool true) { s' with toks := k }) → wpAny (model prog w) A' (compareOp .NotIn .none cs) Q E s')
theorem no_none (S : List Str) : (S.map PyData.str).any (fun y => PyData.eqv y .none) = false := by
  rw [List.any_map, List.any_eq_false]
  intro y _
  simp [PyData.eqv]
theorem lay_strs (S : List Str) (h : ∀ y ∈ S, PyData.strOk y = true) : PyData.canLayAll0 (S.map PyData.str) = true := by
  induction S with
  | nil => rfl
  | cons y r ih =>
    have h1 := h y List.mem_cons_self
    have h2 := ih fun z hz => h z (List.mem_cons_of_mem _ hz)
    simp only [List.map_cons, PyData.canLayAll0, PyData.canLay0, h1, h2, Bool.and_self]
theorem mem_strs {prog : Program} {w : World} {A : Around} {new : List (Addr × Obj)} {a : Addr} {ys : List Value} {n : Nat} {S : List Str} (hm : (a, W.listOf ys.toArray n) ∈ new) (hy : StrsAre ys S) (hok : ∀ y ∈ S, PyData.strOk y = true) (hu : A.units + 80 < cLine) :
    MemTo prog w A new (.ref a) (fun y => S.any (· == y)) := by
  intro A' E Q s' hA hn
  have hg := hn _ hm
  refine ⟨fun y t _ _ hq => notin_list_strs ⟨_, hg, rfl, n, rfl⟩ hy (hq s'.toks), fun hq => ?_⟩
  refine SeqAt.notIn_list_reads (xs := S.map PyData.str) (d := .none) (Reads.list hg rfl rfl (by simpa using strs_readAll s'.heap hy)) Reads.none (lay_strs S hok) (by rfl) ?_ (by rw [no_none]; exact hq s'.toks)
  have : min (PyData.depthAll (S.map PyData.str)) (PyData.none).depth ≤ (PyData.none).depth := Nat.min_le_right _ _
  have e : (PyData.none).depth = 0 := rfl
  omega
section
variable {prog : Program} {w : World} {A : Around} {E : Value → Shared → Prop} {h₀ : Heap} {L : Addr} {m : Str → Option Value} {env : Env} {ct elt : Expr} {x : Str} {scope : Scope} {cl : List (Str × Addr)} {s : Shared} {S : List (Addr × Obj) → Prop} {P : Nat → Value → Prop} {Fin : List Value → List (Addr × Obj) → Prop} {news : List (Addr × Obj)}
end
end Mine
end

section
open PySem PySem.W PySem.Calls PySem.Spec PyProof.Rows
set_option maxRecDepth 100000
set_option maxHeartbeats 2000000
namespace Mine
theorem anew6 : True := by
  w_top off
  exact True.intro
open TI
theorem fillMX5 (P : Params) : hd.heap_1 P = hd.heap_1 P ∧ PySem.Challenge.rw_kq0016_05 = PySem.Challenge.rw_kq0016_05 := by
  k_fill
  exact ⟨rfl, rfl⟩
theorem match_c {w : World} {loose : List Str} {mean : ExcName → Option Value} {mg mb : Str → Option Value} {A : Around} {l : List Env} {ce : Env}
    {base : Heap} {L : Addr} {m : Str → Option Value} {s : Shared} {Q E : Value → Shared → Prop} {new frs : List (Addr × Obj)}
    {x dx : Addr} {k1 k2 k3 k4 k5 : Tok} {b lone : Bool} {gv : Value} {D : Str} {dt : Tok} {i : Nat} {it : Tok} {nv : Value} {p : Nat} {sgs : List Str} {tv : Str} {tt : Tok}
    (F : Fr base L s.heap m) (X : (hd.heap_1 w.params).In base) (N : News base L s.heap ((x, instObj 133 dx) :: (dx, tokD w.params k1 k2 k3 k4 k5 b gv (.str D dt) (.int i it) nv) :: (new ++ frs))) (T : Top hd.view_39 loose mean mg mb base)
    (Fs : Frs l frs) (hcs : EvAt ce L) (hdx : ∀ q ∈ new ++ frs, q.1 ≠ dx) (hxf : ∀ q ∈ frs, q.1 ≠ x) (hap : ∀ q ∈ new, q.1 ∉ frs.map (·.1)) (hA : A.frames = some (ce :: l)) (hh : A.handled = none) (hd' : A.depth + 20 < recursionLimit)
    (hD : D.length ≤ 2000) (hi : i ≤ 3000) (hr : RdX lone D i nv p sgs) (hg : GivenIs b gv D)
    (hF : sgs.head? ≠ some tv → ∀ h' tk, Fr base L h' m → News base L h' ((x, instObj 133 dx) :: (dx, tokD w.params k1 k2 k3 k4 k5 b gv (.str D dt) (.int i it) nv) :: (new ++ frs)) → Q (.bool false) { s with heap := h', toks := tk })
    (hQ : ∀ r, sgs = tv :: r → ¬ (r = [] ∧ lone = true) → ∀ h' frs' tk (i' : Nat) it' nv', SameUp frs frs' → Frs l frs' → Fr base L h' m → News base L h' ((x, instObj 133 dx) :: (dx, tokD w.params k1 k2 k3 k4 k5 b gv (.str D dt) (.int i' it') nv') :: (new ++ frs')) → RdX lone D i' nv' (p + tv.length) r → i' ≤ 3000 → Q (.bool true) { s with heap := h', toks := tk })
    (hE : sgs = [tv] → lone = true → RaisedE w.params base L m l ((x, instObj 133 dx) :: (dx, tokD w.params k1 k2 k3 k4 k5 b gv (.str D dt) (.int i it) nv) :: new) frs (Str.ofString "bad escape (end of pattern)") gv D.cps.toList ((D.length : Int) - 1) E s) :
    wpAny (model PySem.Challenge.rw_kq0016_05.row.prog w) A (call (.ref 72) [.ref x, .str tv tt]) Q E s := by
  refine wpAny_call (enterV (ev := ce) F X N T Fs rfl (by kernel_rfl) (by omega) (BindsTo.of_eq rfl) (locs rfl) (fun oL L' h₁ Cl Fs₁ F₁ N₁ hne hltL => ?_) hcs rfl rfl rfl (by decide))
  have N₂ : News base L' h₁ ((x, instObj 133 dx) :: (dx, tokD w.params k1 k2 k3 k4 k5 b gv (.str D dt) (.int i it) nv) :: (new ++ ((L, { oL with slots := oL.slots }) :: frs))) := fun q hq => N₁ q (mem_i1 hq)
  have hLd : L ≠ dx := Ne.symm (hne (dx, tokD w.params k1 k2 k3 k4 k5 b gv (.str D dt) (.int i it) nv) (List.mem_cons_of_mem _ List.mem_cons_self))
  have hLx : L ≠ x := Ne.symm (hne (x, instObj 133 dx) List.mem_cons_self)
  have hnL : ∀ q ∈ new ++ frs, q.1 ≠ L := fun q hq => hne q (List.mem_cons_of_mem _ (List.mem_cons_of_mem _ hq))
  obtain ⟨hdx', hxf', hap'⟩ := ff (oL := { oL with slots := oL.slots }) hdx hxf hap hLd hLx hnL (SameUp.refl frs)
  have Fs₂ : Frs (ce :: l) ((L, { oL with slots := oL.slots }) :: frs) := Fs₁
  clear N₁ Fs₁
  have SU0 := SameUp.refl frs
  generalize (s.toks + List.length _) = u0
  cases sgs with
  | nil =>
    obtain ⟨rfl, rfl, rfl, hgn⟩ := hr
    k_steps
    obtain ⟨r1, r2⟩ := fin2 (new := new) Cl (by assumption) (by assumption) hLx hLd hnL
    exact hF (by simp) _ _ r1 r2
  | cons y r =>
    have hr0 := hr
    obtain ⟨yt, rfl, hi', hy1, hy2, hle, hsr⟩ := hr0
    by_cases hy : tv = y
    · subst hy
      have qy : (tv == tv) = true := beq_self_eq_true tv
      by_cases hl : r = [] ∧ lone = true
      · obtain ⟨rfl, rfl⟩ := hl
        have hla := hsr.lone_at
        k_steps
        exact pass_raised Cl (Around.frames_deeper hA) rfl (ffmid (ff hdx hxf hap hLd hLx hnL SU0).1 (ff hdx hxf hap hLd hLx hnL SU0).2.1 (ff hdx hxf hap hLd hLx hnL SU0).2.2) (ffL hLd hLx hnL SU0) ((hE rfl rfl).up SU0)
      · have hn : ¬ ((tv :: r).tail = [] ∧ lone = true) := hl
        k_steps
        have SUt := ‹SameUp frs _›
        have R3 := ‹RdX _ D _ _ i _›
        obtain ⟨r1, r2⟩ := fin2 (new := new) Cl (by assumption) (by assumption) hLx hLd (up_ne hnL SUt)
        exact hQ r rfl hn _ _ _ _ _ _ SUt (Fs.up SUt) r1 r2 (hi' ▸ R3) (by assumption)
    · have qy : (tv == y) = false := by simpa using hy
      k_steps
      obtain ⟨r1, r2⟩ := fin2 (new := new) Cl (by assumption) (by assumption) hLx hLd hnL
      exact hF (by simpa using fun z => hy z.symm) _ _ r1 r2
theorem mem_ti {α : Type} {a b c q : α} {n r : List α} (h : q ∈ c :: a :: b :: (n ++ r)) : q ∈ a :: b :: ((c :: n) ++ r) := by
  rcases List.mem_cons.mp h with rfl | h
  · exact List.mem_cons_of_mem _ (List.mem_cons_of_mem _ List.mem_cons_self)
  rcases List.mem_cons.mp h with rfl | h
  · exact List.mem_cons_self
  rcases List.mem_cons.mp h with rfl | h
  · exact List.mem_cons_of_mem _ List.mem_cons_self
  · exact List.mem_cons_of_mem _ (List.mem_cons_of_mem _ (List.mem_cons_of_mem _ h))
theorem mem_it {α : Type} {a b c q : α} {n r : List α} (h : q ∈ a :: b :: ((c :: n) ++ r)) : q ∈ c :: a :: b :: (n ++ r) := by
  rcases List.mem_cons.mp h with rfl | h
  · exact List.mem_cons_of_mem _ List.mem_cons_self
  rcases List.mem_cons.mp h with rfl | h
  · exact List.mem_cons_of_mem _ (List.mem_cons_of_mem _ List.mem_cons_self)
  rcases List.mem_cons.mp h with rfl | h
  · exact List.mem_cons_self
  · exact List.mem_cons_of_mem _ (List.mem_cons_of_mem _ (List.mem_cons_of_mem _ h))
theorem mem_sub2 {α : Type} {a b q : α} {n n' r : List α} (hs : ∀ q ∈ n, q ∈ n') (h : q ∈ a :: b :: (n ++ r)) : q ∈ a :: b :: (n' ++ r) := by
  rcases List.mem_cons.mp h with rfl | h
  · exact List.mem_cons_self
  rcases List.mem_cons.mp h with rfl | h
  · exact List.mem_cons_of_mem _ List.mem_cons_self
  rcases List.mem_append.mp h with h | h
  · exact List.mem_cons_of_mem _ (List.mem_cons_of_mem _ (List.mem_append_left _ (hs q h)))
  · exact List.mem_cons_of_mem _ (List.mem_cons_of_mem _ (List.mem_append_right _ h))
theorem un_chain {m : Str → Option Value} {l : List (Str × Value)} (h : Has m l) {base hp : Heap} {L : Addr} (F : Fr base L hp (chainOf l m)) : Fr base L hp m := by rw [chain_eq h] at F; exact F
theorem small_up {n : Nat} (hn : n ≤ 1000) : Builtin.Range.small 0 (n : Int) 1 = true ∧ Builtin.Range.rangeSize 0 (n : Int) 1 = (n : Int) := by
  have e : Builtin.Range.rangeSize 0 (n : Int) 1 = (n : Int) := rangeSize_nat 0 n
  exact ⟨small_one (by omega) (by omega) (by omega) (by omega), e⟩
theorem RaisedE.sub {P : Params} {base : Heap} {L : Addr} {m : Str → Option Value} {l : List Env} {mid mid' frs : List (Addr × Obj)} {msg : Str} {gv : Value} {lst : List Nat} {pos : Int} {E : Value → Shared → Prop} {s : Shared} (h : RaisedE P base L m l mid frs msg gv lst pos E s) (hs : ∀ q ∈ mid, q ∈ mid') : RaisedE P base L m l mid' frs msg gv lst pos E s := by
  intro h' frs' tk e d t T oT oe o2 c2 SU Fs F N p2 XA l1 l2 l3 l4
  refine h h' frs' tk e d t T oT oe o2 c2 SU Fs F (fun q hq => N q ?_) p2 XA (fun q hq => l1 q ?_) l2 l3 (fun q hq => l4 q ?_)
  · simp only [List.mem_cons, List.mem_append] at hq ⊢
    rcases hq with hq | hq | (hq | hq) | hq
    · exact .inl hq
    · exact .inr (.inl hq)
    · exact .inr (.inr (.inl (.inl hq)))
    · exact .inr (.inr (.inl (.inr (hs q hq))))
    · exact .inr (.inr (.inr hq))
  · simp only [List.mem_append] at hq ⊢
    rcases hq with (hq | hq) | hq
    · exact .inl (.inl hq)
    · exact .inl (.inr (hs q hq))
    · exact .inr hq
  · simp only [List.mem_append] at hq ⊢
    rcases hq with hq | hq
    · exact .inl (hs q hq)
    · exact .inr hq
inductive GwJ (Pm : Params) (lone b : Bool) (gv : Value) (D : Str) (dt k1 k2 k3 k4 k5 : Tok) (x dx L : Addr) (oL : Obj) (l : List Env) (frs new : List (Addr × Obj)) (cs : Value) (P : Str → Bool) (sgs : List Str) (p : Nat) (j : Nat) (m₁ : Str → Option Value) (news₁ : List (Addr × Obj)) : Prop
  | mk (pre rest : List Str) (i : Nat) (it : Tok) (nv : Value) (sl : Array (Option Value)) (frs' : List (Addr × Obj)) (rt : Tok) (h1 : sgs = pre ++ rest) (h2 : ∀ y ∈ pre, P y = true) (h3 : pre.length = j) (h4 : lone = true → rest = [] → pre = []) (h5 : RdX lone D i nv (p + (cat pre).length) rest) (h6 : i ≤ 3000) (h7 : SameUp frs frs') (h8 : Frs l frs') (h9 : Has m₁ [(Str.ofString "self", .ref x), (Str.ofString "charset", cs), (Str.ofString "result", .str (cat pre) rt)])
      (h10 : news₁ = (x, instObj 133 dx) :: (dx, tokD Pm k1 k2 k3 k4 k5 b gv (.str D dt) (.int i it) nv) :: (new ++ ((L, { oL with slots := sl }) :: frs')))
inductive GwE (Pm : Params) (lone b : Bool) (gv : Value) (D : Str) (dt k1 k2 k3 k4 k5 : Tok) (x dx L : Addr) (oL : Obj) (l : List Env) (frs new : List (Addr × Obj)) (P : Str → Bool) (sgs : List Str) (p n : Nat) (base : Heap) (L' : Addr) (s s' : Shared) : Prop
  | mk (pre rest : List Str) (h' : Heap) (frs' : List (Addr × Obj)) (tk i' : Nat) (it' : Tok) (nv' : Value) (sl : Array (Option Value)) (rt : Tok) (m' : Str → Option Value) (h0 : s' = { s with heap := h', toks := tk }) (h1 : sgs = pre ++ rest) (h2 : ∀ y ∈ pre, P y = true) (h3 : pre.length ≤ n) (h4 : pre.length = n ∨ ∀ y, rest.head? = some y → P y = false) (h5 : lone = true → rest = [] → pre = []) (h6 : SameUp frs frs') (h7 : Frs l frs') (h8 : Fr base L' h' m') (h9 : Has m' [(Str.ofString "result", .str (cat pre) rt)])
      (h10 : News base L' h' ((x, instObj 133 dx) :: (dx, tokD Pm k1 k2 k3 k4 k5 b gv (.str D dt) (.int (i' : Int) it') nv') :: (new ++ ((L, { oL with slots := sl }) :: frs')))) (h11 : RdX lone D i' nv' (p + (cat pre).length) rest) (h12 : i' ≤ 3000)
theorem getwhile_c {w : World} {loose : List Str} {mean : ExcName → Option Value} {mg mb : Str → Option Value} {A : Around} {l : List Env} {ce : Env}
    {base : Heap} {L : Addr} {m : Str → Option Value} {s : Shared} {Q E : Value → Shared → Prop} {new frs : List (Addr × Obj)}
    {x dx : Addr} {k1 k2 k3 k4 k5 : Tok} {b lone : Bool} {gv : Value} {D : Str} {dt : Tok} {i : Nat} {it : Tok} {nv : Value} {p : Nat} {sgs : List Str} {n : Nat} {nt : Tok} {cs : Value} {P : Str → Bool}
    (F : Fr base L s.heap m) (X : (hd.heap_1 w.params).In base) (N : News base L s.heap ((x, instObj 133 dx) :: (dx, tokD w.params k1 k2 k3 k4 k5 b gv (.str D dt) (.int i it) nv) :: (new ++ frs))) (T : Top hd.view_39 loose mean mg mb base)
    (Fs : Frs l frs) (hcs : EvAt ce L) (hdx : ∀ q ∈ new ++ frs, q.1 ≠ dx) (hxf : ∀ q ∈ frs, q.1 ≠ x) (hap : ∀ q ∈ new, q.1 ∉ frs.map (·.1)) (hA : A.frames = some (ce :: l)) (hh : A.handled = none) (hd' : A.depth + 20 < recursionLimit)
    (hD : D.length ≤ 2000) (hi : i ≤ 3000) (hr : RdX lone D i nv p sgs) (hg : GivenIs b gv D) (hn : n ≤ 1000) (hM : MemTo PySem.Challenge.rw_kq0016_05.row.prog w A new cs P) (hu : A.units + 80 < cLine)
    (hQ : ∀ pre rest, sgs = pre ++ rest → (∀ y ∈ pre, P y = true) → pre.length ≤ n → (pre.length = n ∨ ∀ y, rest.head? = some y → P y = false) → (lone = true → rest = [] → pre = []) → ∀ h' frs' tk (i' : Nat) it' nv' rt, SameUp frs frs' → Frs l frs' → Fr base L h' m → News base L h' ((x, instObj 133 dx) :: (dx, tokD w.params k1 k2 k3 k4 k5 b gv (.str D dt) (.int i' it') nv') :: (new ++ frs')) → RdX lone D i' nv' (p + (cat pre).length) rest → i' ≤ 3000 → Q (.str (cat pre) rt) { s with heap := h', toks := tk })
    (hE : ∀ pre y, sgs = pre ++ [y] → lone = true → (∀ z ∈ pre, P z = true) → P y = true → pre.length < n → ∀ (i' : Nat) it' nv', RdX lone D i' nv' (p + (cat pre).length) [y] → i' ≤ 3000 → RaisedE w.params base L m l ((x, instObj 133 dx) :: (dx, tokD w.params k1 k2 k3 k4 k5 b gv (.str D dt) (.int i' it') nv') :: new) frs (Str.ofString "bad escape (end of pattern)") gv D.cps.toList ((D.length : Int) - 1) E s) :
    wpAny (model PySem.Challenge.rw_kq0016_05.row.prog w) A (call (.ref 86) [.ref x, .int (n : Int) nt, cs]) Q E s := by
  refine wpAny_call (enterV (ev := ce) F X N T Fs rfl (by kernel_rfl) (by omega) (BindsTo.of_eq rfl) (locs rfl) (fun oL L' h₁ Cl Fs₁ F₁ N₁ hne hltL => ?_) hcs rfl rfl rfl (by decide))
  have N₂ : News base L' h₁ ((x, instObj 133 dx) :: (dx, tokD w.params k1 k2 k3 k4 k5 b gv (.str D dt) (.int i it) nv) :: (new ++ ((L, { oL with slots := oL.slots }) :: frs))) := fun q hq => N₁ q (mem_i1 hq)
  have hLd : L ≠ dx := Ne.symm (hne (dx, tokD w.params k1 k2 k3 k4 k5 b gv (.str D dt) (.int i it) nv) (List.mem_cons_of_mem _ List.mem_cons_self))
  have hLx : L ≠ x := Ne.symm (hne (x, instObj 133 dx) List.mem_cons_self)
  have hnL : ∀ q ∈ new ++ frs, q.1 ≠ L := fun q hq => hne q (List.mem_cons_of_mem _ (List.mem_cons_of_mem _ hq))
  obtain ⟨hdx', hxf', hap'⟩ := ff (oL := { oL with slots := oL.slots }) hdx hxf hap hLd hLx hnL (SameUp.refl frs)
  have Fs₂ : Frs (ce :: l) ((L, { oL with slots := oL.slots }) :: frs) := Fs₁
  clear N₁ Fs₁
  have SU0 := SameUp.refl frs
  generalize (s.toks + List.length _) = u0
  obtain ⟨M0, H0, F₀⟩ : ∃ M0, Has M0 [(Str.ofString "self", .ref x), (Str.ofString "n", .int (n : Int) nt), (Str.ofString "charset", cs)] ∧ Fr base L' h₁ M0 := ⟨_, Has.cons (by kernel_rfl) (Has.cons (by kernel_rfl) (Has.cons (by kernel_rfl) Has.nil)), F₁⟩
  clear F₁
  have F₁ := H0.fr F₀
  dsimp only [chainOf] at F₁
  clear F₀
  repeat ((fail_if_success (with_reducible show wpAny _ _ (exec (Stmt.For _ _ _ _ _) _) _ _ _)); first | (k_unfold; (try dsimp only)) | walk1 | (dsimp only; walk1))
  rename_i h₂ F₂ N₃
  have HM := (H0.put (n := Str.ofString "result") (v := .str (Str.ofString "") u0) (by kernel_rfl))
  have F₃ := H0.back F₂
  generalize setM M0 (Str.ofString "result") (.str (Str.ofString "") u0) = M at HM F₃
  clear F₂ F N
  rw [show Str.ofString "" = cat [] from by decide +kernel] at HM
  have J0 : GwJ w.params lone b gv D dt k1 k2 k3 k4 k5 x dx L oL l frs new cs P sgs p 0 M ((x, instObj 133 dx) :: (dx, tokD w.params k1 k2 k3 k4 k5 b gv (.str D dt) (.int i it) nv) :: (new ++ ((L, { oL with slots := oL.slots }) :: frs))) :=
    ⟨[], sgs, _, _, _, _, _, u0, rfl, by simp, rfl, fun _ _ => rfl, by rw [cat_len]; exact hr, hi, SU0, Fs, (by repeat (with_reducible first | exact Has.nil | refine Has.consM HM (by repeat (with_reducible first | exact List.mem_cons_self | apply List.mem_cons_of_mem)) ?_)), rfl⟩
  refine wpAny_mono (Q := fun f s' => f = .next ∧ GwE w.params lone b gv D dt k1 k2 k3 k4 k5 x dx L oL l frs new P sgs p n base L' s s') ?loop ?cont (fun _ _ z => z)
  case cont =>
    rintro f s' ⟨rfl, pre, rest, h', frs', tk, i', it', nv', sl, rt', m', rfl, hsg, hpre, hlen, hst, hlo, SU, Fs', F', Hm, N', R', b'⟩
    have F₁ := Hm.fr F'
    dsimp only [chainOf] at F₁
    clear F' F₃ N₃ J0
    k_steps
    obtain ⟨r1, r2⟩ := fin2 (new := new) Cl (by assumption) (by assumption) hLx hLd (up_ne hnL SU)
    exact hQ pre rest hsg hpre hlen hst hlo _ _ _ _ _ _ _ SU Fs' r1 r2 R' b'
  case loop =>
    refine For_invVF F₃ (by rfl) (by rfl) ?_ (by intro _; rfl) ?_
    · generalize hR : (fun xv s₁ => wpAny (model PySem.Challenge.rw_kq0016_05.row.prog w) _ (pyIter xv) _ _ s₁) = R
      have F₁ := HM.fr F₃
      dsimp only [chainOf] at F₁
      have N₁ := N₃
      clear N₃
      repeat ((fail_if_success (with_reducible (show R _ _))); first | (k_unfold; (try dsimp only)) | walk1 | dsimp only)
      subst hR
      have F₄ := ‹Fr base L' _ _›
      have N₄ := ‹News base L' _ _›
      have hsm := small_up (n := n) hn
      have F₅ := un_chain HM F₄
      refine iter_rangeV (n := n) (GwJ w.params lone b gv D dt k1 k2 k3 k4 k5 x dx L oL l frs new cs P sgs p) hh (by assumption) hsm.1 hsm.2 F₅ N₄ J0 ?turn ?done
      case done =>
        rintro m₁ news₁ h₁ tk₁ ⟨pre, rest, i, it, nv, sl, frs', rt, hsg, hpre, hlen, hlo, hr, hi, SU, Fs', Hm, rfl⟩ F' N'
        exact ⟨rfl, pre, rest, h₁, frs', tk₁, i, it, nv, sl, rt, m₁, rfl, hsg, hpre, Nat.le_of_eq hlen, .inl hlen, hlo, SU, Fs', F', (by repeat (with_reducible first | exact Has.nil | refine Has.consM Hm (by repeat (with_reducible first | exact List.mem_cons_self | apply List.mem_cons_of_mem)) ?_)), N', hr, hi⟩
      case turn =>
        clear F₃ F₄ F₅ N₄ J0 HM
        rintro j t m₁ news₁ h₁ tk₁ I oI hj ⟨pre, rest, i, it, nv, sl, frs', rt, hsg, hpre, hlen, hlo, hr, hi, SU, Fs', Hm, rfl⟩ hoff F' N'
        have H1 : Has (fun y => if y = Str.ofString "_" then some (Value.int (0 + (j : Int) * 1) t) else m₁ y) [(Str.ofString "self", .ref x), (Str.ofString "charset", cs), (Str.ofString "result", .str (cat pre) rt)] := Hm.set (by kernel_rfl)
        generalize (fun y => if y = Str.ofString "_" then some (Value.int (0 + (j : Int) * 1) t) else m₁ y) = M1 at F' H1
        clear Hm
        obtain ⟨nw, hnw⟩ : ∃ nw, nw = (I, oI) :: new := ⟨_, rfl⟩
        have hin : ∀ q ∈ new, q ∈ nw := fun q hq => by subst hnw; exact List.mem_cons_of_mem _ hq
        have N₁ : News base L' h₁ ((x, instObj 133 dx) :: (dx, tokD w.params k1 k2 k3 k4 k5 b gv (.str D dt) (.int i it) nv) :: (nw ++ ((L, { oL with slots := sl }) :: frs'))) := fun q hq => N' q (by subst hnw; exact mem_it hq)
        have hIL : ∀ (A B : Addr × Obj) (R : List (Addr × Obj)), (∀ q ∈ A :: B :: R, q.1 ≠ I) → I ≠ B.1 ∧ (∀ q ∈ R, I ≠ q.1) := fun A B R h => ⟨(h B (List.mem_cons_of_mem _ List.mem_cons_self)).symm, fun q hq => (h q (List.mem_cons_of_mem _ (List.mem_cons_of_mem _ hq))).symm⟩
        obtain ⟨oI1, oI2⟩ := hIL _ _ _ hoff
        have hIf : I ∉ frs.map (·.1) := fun hz => by
          rw [← sameUp_map SU] at hz
          obtain ⟨q, hq, e⟩ := List.mem_map.mp hz
          exact oI2 q (List.mem_append_right _ (List.mem_cons_of_mem _ hq)) e.symm
        have hdxn : ∀ q ∈ nw ++ frs, q.1 ≠ dx := fun q hq => by
          subst hnw
          rcases List.mem_cons.mp hq with rfl | hq
          · exact oI1
          · exact hdx q hq
        have hapn : ∀ q ∈ nw, q.1 ∉ frs.map (·.1) := fun q hq => by
          subst hnw
          rcases List.mem_cons.mp hq with rfl | hq
          · exact hIf
          · exact hap q hq
        have hnLn : ∀ q ∈ nw ++ frs, q.1 ≠ L := fun q hq => by
          subst hnw
          rcases List.mem_cons.mp hq with rfl | hq
          · exact oI2 (L, _) (List.mem_append_right _ List.mem_cons_self)
          · exact hnL q hq
        obtain ⟨hdx₁, hxf₁, hap₁⟩ := ff (oL := { oL with slots := sl }) hdxn hxf hapn hLd hLx hnLn SU
        have Fs₁ : Frs (ce :: l) ((L, { oL with slots := sl }) :: frs') := ⟨by rw [hcs.kind]; decide, hcs.frame, Cl.dict, Fs'⟩
        have hcl : (cat pre).length ≤ 6000 := by have := hr.ok.2; have := nlen_nonneg nv; omega
        have F₁ := H1.fr F'
        dsimp only [chainOf] at F₁
        clear F' N' hdx' hxf' hap' Fs₂ hIL hne hltL
        have hrs := hr.signs
        have brk : ∀ h2 tk2 v, Fr base L' h2 (fun y => if y = Str.ofString "c" then some v else chainOf [(Str.ofString "self", .ref x), (Str.ofString "charset", cs), (Str.ofString "result", .str (cat pre) rt)] M1 y) → News base L' h2 ((x, instObj 133 dx) :: (dx, tokD w.params k1 k2 k3 k4 k5 b gv (.str D dt) (.int i it) nv) :: (nw ++ ((L, { oL with slots := sl }) :: frs'))) → (∀ y, rest.head? = some y → P y = false) →
            GwE w.params lone b gv D dt k1 k2 k3 k4 k5 x dx L oL l frs new P sgs p n base L' s { s with heap := h2, toks := tk2 } := by
          intro h2 tk2 v F2 N2 hst
          have H2 : Has (setM M1 (Str.ofString "c") v) [(Str.ofString "self", .ref x), (Str.ofString "charset", cs), (Str.ofString "result", .str (cat pre) rt)] := H1.set (by kernel_rfl)
          exact ⟨pre, rest, h2, frs', tk2, i, it, nv, sl, rt, _, rfl, hsg, hpre, by omega, .inr hst, hlo, SU, Fs', H1.back F2, (by repeat (with_reducible first | exact Has.nil | refine Has.consM H2 (by repeat (with_reducible first | exact List.mem_cons_self | apply List.mem_cons_of_mem)) ?_)), fun q hq => N2 q (mem_sub2 hin hq), hr, hi⟩
        cases rest with
        | nil =>
          obtain ⟨rfl, rfl, hi', hgn⟩ := hr
          repeat ((fail_if_success (with_reducible show wpAny _ _ (compareOp CmpOp.NotIn _ _) _ _ _)); first | (k_unfold; (try dsimp only)) | walk1 | (dsimp only; walk1))
          refine (hM _ _ _ _ (by first | omega | (show _ ≤ _; simp only [Around.deeper]; omega)) (fun q hq => ((by assumption : News base L' _ ((x, _) :: (dx, _) :: (nw ++ ((L, _) :: frs')))) q (List.mem_cons_of_mem _ (List.mem_cons_of_mem _ (List.mem_append_left _ (hin q hq))))).1)).2 (fun k => ?_)
          k_steps
          exact ⟨rfl, brk _ _ _ (by assumption) (by assumption) (by simp)⟩
        | cons y r =>
          have hr0 := hr
          obtain ⟨yt, rfl, hi', hy1, hy2, hle, hsr⟩ := hr0
          repeat ((fail_if_success (with_reducible show wpAny _ _ (compareOp CmpOp.NotIn _ _) _ _ _)); first | (k_unfold; (try dsimp only)) | walk1 | (dsimp only; walk1))
          refine (hM _ _ _ _ (by first | omega | (show _ ≤ _; simp only [Around.deeper]; omega)) (fun q hq => ((by assumption : News base L' _ ((x, _) :: (dx, _) :: (nw ++ ((L, _) :: frs')))) q (List.mem_cons_of_mem _ (List.mem_cons_of_mem _ (List.mem_append_left _ (hin q hq))))).1)).1 _ _ hy1 hy2 (fun k => ?_)
          by_cases hP : P y = true
          · rw [hP]
            by_cases hl : r = [] ∧ lone = true
            · obtain ⟨rfl, rfl⟩ := hl
              have hla := hsr.lone_at
              clear brk
              k_steps
              exact pass_raised Cl (Around.frames_deeper hA) rfl (ffmid hdx₁ hxf₁ hap₁) (ffL hLd hLx hnLn SU) (((hE pre y hsg rfl hpre hP (by omega) i it _ hr hi).sub (fun q hq => by
                have := mem_sub2 (r := []) hin (by simpa using hq)
                simpa using this)).up SU)
            · have hn : ¬ ((y :: r).tail = [] ∧ lone = true) := hl
              clear brk
              k_steps
              have SUt := ‹SameUp frs' _›
              have H2 : Has (setM M1 (Str.ofString "c") (.str y yt)) [(Str.ofString "self", .ref x), (Str.ofString "charset", cs), (Str.ofString "result", .str (cat pre) rt)] := H1.set (by kernel_rfl)
              have H3 : ∀ t, Has (setM (setM M1 (Str.ofString "c") (.str y yt)) (Str.ofString "result") (.str (cat (pre ++ [y])) t)) [(Str.ofString "self", .ref x), (Str.ofString "charset", cs), (Str.ofString "result", .str (cat (pre ++ [y])) t)] := fun t => by
                have H4 : Has (setM M1 (Str.ofString "c") (.str y yt)) [(Str.ofString "self", .ref x), (Str.ofString "charset", cs)] := (by repeat (with_reducible first | exact Has.nil | refine Has.consM H2 (by repeat (with_reducible first | exact List.mem_cons_self | apply List.mem_cons_of_mem)) ?_))
                have H5 := H4.put (n := Str.ofString "result") (v := .str (cat (pre ++ [y])) t) (by kernel_rfl)
                exact (by repeat (with_reducible first | exact Has.nil | refine Has.consM H5 (by repeat (with_reducible first | exact List.mem_cons_self | apply List.mem_cons_of_mem)) ?_))
              refine ⟨_, _, _, _, rfl, H1.back2 (by assumption), fun q hq => (by assumption : News base L' _ ((x, _) :: (dx, _) :: (nw ++ ((L, _) :: _)))) q (by rw [hnw]; exact mem_ti hq), ?_, pre ++ [y], r, _, _, _, _, _, _, by simpa using hsg, ?_, by rw [List.length_append, hlen]; rfl, fun h1 h2 => absurd ⟨h2, h1⟩ hl, ?_, by assumption, SU.trans SUt, (by assumption : Frs (ce :: l) ((L, _) :: _)).2.2.2, by rw [← cat_snoc]; exact H3 _, rfl⟩
              · intro q hq
                rcases List.mem_cons.mp hq with rfl | hq
                · exact hoff (x, instObj 133 dx) List.mem_cons_self
                rcases List.mem_cons.mp hq with rfl | hq
                · exact oI1.symm
                rcases List.mem_append.mp hq with hq | hq
                · exact (oI2 q (List.mem_append_left _ hq)).symm
                rcases List.mem_cons.mp hq with rfl | hq
                · exact (oI2 (L, _) (List.mem_append_right _ List.mem_cons_self)).symm
                obtain ⟨z, hz, e⟩ := SUt.fwd q hq
                rw [e]
                exact (oI2 z (List.mem_append_right _ (List.mem_cons_of_mem _ hz))).symm
              · intro z hz
                rcases List.mem_append.mp hz with hz | hz
                · exact hpre z hz
                · rw [List.mem_singleton.mp hz]; exact hP
              · have R3 := ‹RdX _ D _ _ i _›
                rw [cat_snoc, Str.length_append, ← Nat.add_assoc, ← hi']
                exact R3
          · rw [Bool.eq_false_iff.mpr hP]
            k_steps
            exact ⟨rfl, brk _ _ _ (by assumption) (by assumption) (by intro z hz; cases hz; exact Bool.eq_false_iff.mpr hP)⟩
    · passes_own
end Mine
end

section
open PySem PySem.W PySem.Calls PySem.Spec PyProof.Rows
set_option maxRecDepth 100000
set_option maxHeartbeats 2000000
namespace Mine
theorem anew7 : True := by
  w_top off
  exact True.intro
open TI
theorem fillGP5 (P : Params) : hd.heap_1 P = hd.heap_1 P ∧ PySem.Challenge.rw_kq0016_05 = PySem.Challenge.rw_kq0016_05 := by
  k_fill
  exact ⟨rfl, rfl⟩
theorem get_c {w : World} {loose : List Str} {mean : ExcName → Option Value} {mg mb : Str → Option Value} {A : Around} {l : List Env} {ce : Env}
    {base : Heap} {L : Addr} {m : Str → Option Value} {s : Shared} {Q E : Value → Shared → Prop} {new frs : List (Addr × Obj)}
    {x dx : Addr} {k1 k2 k3 k4 k5 : Tok} {b lone : Bool} {gv : Value} {D : Str} {dt : Tok} {i : Nat} {it : Tok} {nv : Value} {p : Nat} {sgs : List Str}
    (F : Fr base L s.heap m) (X : (hd.heap_1 w.params).In base) (N : News base L s.heap ((x, instObj 133 dx) :: (dx, tokD w.params k1 k2 k3 k4 k5 b gv (.str D dt) (.int i it) nv) :: (new ++ frs))) (T : Top hd.view_39 loose mean mg mb base)
    (Fs : Frs l frs) (hcs : EvAt ce L) (hdx : ∀ q ∈ new ++ frs, q.1 ≠ dx) (hxf : ∀ q ∈ frs, q.1 ≠ x) (hap : ∀ q ∈ new, q.1 ∉ frs.map (·.1)) (hA : A.frames = some (ce :: l)) (hh : A.handled = none) (hd' : A.depth + 20 < recursionLimit)
    (hD : D.length ≤ 2000) (hi : i ≤ 3000) (hr : RdX lone D i nv p sgs) (hg : GivenIs b gv D)
    (hQ0 : sgs = [] → ∀ h' frs' tk (i' : Nat) it' nv', SameUp frs frs' → Frs l frs' → Fr base L h' m → News base L h' ((x, instObj 133 dx) :: (dx, tokD w.params k1 k2 k3 k4 k5 b gv (.str D dt) (.int i' it') nv') :: (new ++ frs')) → RdX lone D i' nv' p [] → i' ≤ 3000 → Q .none { s with heap := h', toks := tk })
    (hQ : ∀ y r t, sgs = y :: r → ¬ (r = [] ∧ lone = true) → ∀ h' frs' tk (i' : Nat) it' nv', SameUp frs frs' → Frs l frs' → Fr base L h' m → News base L h' ((x, instObj 133 dx) :: (dx, tokD w.params k1 k2 k3 k4 k5 b gv (.str D dt) (.int i' it') nv') :: (new ++ frs')) → RdX lone D i' nv' (p + y.length) r → i' ≤ 3000 → Q (.str y t) { s with heap := h', toks := tk })
    (hE : ∀ y, sgs = [y] → lone = true → RaisedE w.params base L m l ((x, instObj 133 dx) :: (dx, tokD w.params k1 k2 k3 k4 k5 b gv (.str D dt) (.int i it) nv) :: new) frs (Str.ofString "bad escape (end of pattern)") gv D.cps.toList ((D.length : Int) - 1) E s) :
    wpAny (model PySem.Challenge.rw_kq0016_05.row.prog w) A (call (.ref 79) [.ref x]) Q E s := by
  refine wpAny_call (enterV (ev := ce) F X N T Fs rfl (by kernel_rfl) (by omega) (BindsTo.of_eq rfl) (locs rfl) (fun oL L' h₁ Cl Fs₁ F₁ N₁ hne hltL => ?_) hcs rfl rfl rfl (by decide))
  have N₂ : News base L' h₁ ((x, instObj 133 dx) :: (dx, tokD w.params k1 k2 k3 k4 k5 b gv (.str D dt) (.int i it) nv) :: (new ++ ((L, { oL with slots := oL.slots }) :: frs))) := fun q hq => N₁ q (mem_i1 hq)
  have hLd : L ≠ dx := Ne.symm (hne (dx, tokD w.params k1 k2 k3 k4 k5 b gv (.str D dt) (.int i it) nv) (List.mem_cons_of_mem _ List.mem_cons_self))
  have hLx : L ≠ x := Ne.symm (hne (x, instObj 133 dx) List.mem_cons_self)
  have hnL : ∀ q ∈ new ++ frs, q.1 ≠ L := fun q hq => hne q (List.mem_cons_of_mem _ (List.mem_cons_of_mem _ hq))
  obtain ⟨hdx', hxf', hap'⟩ := ff (oL := { oL with slots := oL.slots }) hdx hxf hap hLd hLx hnL (SameUp.refl frs)
  have Fs₂ : Frs (ce :: l) ((L, { oL with slots := oL.slots }) :: frs) := Fs₁
  clear N₁ Fs₁
  have SU0 := SameUp.refl frs
  generalize (s.toks + List.length _) = u0
  cases sgs with
  | nil =>
    have hr0 := hr
    obtain ⟨rfl, rfl, hip, hgn⟩ := hr0
    have hrs : SignsX false D i [] := hr.signs
    have hn : ¬ (([] : List Str) = [] ∧ false = true) := by simp
    k_steps
    have SUt := ‹SameUp frs _›
    have R3 := ‹RdX _ D _ _ i _›
    obtain ⟨r1, r2⟩ := fin2 (new := new) Cl (by assumption) (by assumption) hLx hLd (up_ne hnL SUt)
    exact hQ0 rfl _ _ _ _ _ _ SUt (Fs.up SUt) r1 r2 (hip ▸ R3) (by assumption)
  | cons y r =>
    have hr0 := hr
    obtain ⟨yt, rfl, hi', hy1, hy2, hle, hsr⟩ := hr0
    by_cases hl : r = [] ∧ lone = true
    · obtain ⟨rfl, rfl⟩ := hl
      have hla := hsr.lone_at
      k_steps
      exact pass_raised Cl (Around.frames_deeper hA) rfl (ffmid (ff hdx hxf hap hLd hLx hnL SU0).1 (ff hdx hxf hap hLd hLx hnL SU0).2.1 (ff hdx hxf hap hLd hLx hnL SU0).2.2) (ffL hLd hLx hnL SU0) ((hE y rfl rfl).up SU0)
    · k_steps
      have SUt := ‹SameUp frs _›
      have R3 := ‹RdX _ D _ _ i _›
      obtain ⟨r1, r2⟩ := fin2 (new := new) Cl (by assumption) (by assumption) hLx hLd (up_ne hnL SUt)
      exact hQ y r yt rfl hl _ _ _ _ _ _ SUt (Fs.up SUt) r1 r2 (hi' ▸ R3) (by assumption)
end Mine
end

section
open PySem PySem.W PySem.Calls PySem.Spec PyProof.Rows
set_option maxRecDepth 100000
set_option maxHeartbeats 2000000
namespace Mine
theorem anew8 : True := by
  w_top off
  exact True.intro
open TI
theorem fillSX5 (P : Params) : hd.heap_1 P = hd.heap_1 P ∧ PySem.Challenge.rw_kq0016_05 = PySem.Challenge.rw_kq0016_05 := by
  k_fill
  exact ⟨rfl, rfl⟩
theorem seek_c {w : World} {loose : List Str} {mean : ExcName → Option Value} {mg mb : Str → Option Value} {A : Around} {l : List Env} {ce : Env}
    {base : Heap} {L : Addr} {m : Str → Option Value} {s : Shared} {Q E : Value → Shared → Prop} {new frs : List (Addr × Obj)}
    {x dx : Addr} {k1 k2 k3 k4 k5 : Tok} {b lone : Bool} {gv : Value} {D : Str} {dt : Tok} {iv : Value} {nv : Value} {p : Nat} {pt : Tok} {sgs : List Str}
    (F : Fr base L s.heap m) (X : (hd.heap_1 w.params).In base) (N : News base L s.heap ((x, instObj 133 dx) :: (dx, tokD w.params k1 k2 k3 k4 k5 b gv (.str D dt) iv nv) :: (new ++ frs))) (T : Top hd.view_39 loose mean mg mb base)
    (Fs : Frs l frs) (hcs : EvAt ce L) (hdx : ∀ q ∈ new ++ frs, q.1 ≠ dx) (hxf : ∀ q ∈ frs, q.1 ≠ x) (hap : ∀ q ∈ new, q.1 ∉ frs.map (·.1)) (hA : A.frames = some (ce :: l)) (hh : A.handled = none) (hd' : A.depth + 20 < recursionLimit)
    (hD : D.length ≤ 2000) (hi : p ≤ 3000) (hg : GivenIs b gv D) (hs : SignsX lone D p sgs)
    (hQ : ¬ (sgs = [] ∧ lone = true) → ∀ h' frs' tk (i' : Nat) it' nv', SameUp frs frs' → Frs l frs' → Fr base L h' m → News base L h' ((x, instObj 133 dx) :: (dx, tokD w.params k1 k2 k3 k4 k5 b gv (.str D dt) (.int i' it') nv') :: (new ++ frs')) → RdX lone D i' nv' p sgs → i' ≤ 3000 → Q .none { s with heap := h', toks := tk })
    (hE : sgs = [] → lone = true → RaisedE w.params base L m l ((x, instObj 133 dx) :: (dx, tokD w.params k1 k2 k3 k4 k5 b gv (.str D dt) (.int p pt) nv) :: new) frs (Str.ofString "bad escape (end of pattern)") gv D.cps.toList ((D.length : Int) - 1) E s) :
    wpAny (model PySem.Challenge.rw_kq0016_05.row.prog w) A (call (.ref 115) [.ref x, .int p pt]) Q E s := by
  have hxd : x ≠ dx := inst_ne N List.mem_cons_self (List.mem_cons_of_mem _ List.mem_cons_self)
  refine wpAny_call (enterV (ev := ce) F X N T Fs rfl (by kernel_rfl) (by omega) (BindsTo.of_eq rfl) (locs rfl) (fun oL L' h₁ Cl Fs₁ F₁ N₁ hne hltL => ?_) hcs rfl rfl rfl (by decide))
  have N₂ : News base L' h₁ ((x, instObj 133 dx) :: (dx, tokD w.params k1 k2 k3 k4 k5 b gv (.str D dt) iv nv) :: (new ++ ((L, oL) :: frs))) := fun q hq => N₁ q (mem_i1 hq)
  have hLd : L ≠ dx := Ne.symm (hne (dx, tokD w.params k1 k2 k3 k4 k5 b gv (.str D dt) iv nv) (List.mem_cons_of_mem _ List.mem_cons_self))
  have hLx : L ≠ x := Ne.symm (hne (x, instObj 133 dx) List.mem_cons_self)
  have hrd : ∀ q ∈ new ++ ((L, oL) :: frs), q.1 ≠ dx := fun q hq => by
    simp only [List.mem_cons, List.mem_append] at hq
    rcases hq with hq | rfl | hq
    · exact hdx q (List.mem_append_left _ hq)
    · exact hLd
    · exact hdx q (List.mem_append_right _ hq)
  have hnL : ∀ q ∈ new ++ frs, q.1 ≠ L := fun q hq => hne q (List.mem_cons_of_mem _ (List.mem_cons_of_mem _ hq))
  have Fs₂ : Frs (ce :: l) ((L, { oL with slots := oL.slots }) :: frs) := ⟨by rw [hcs.kind]; decide, hcs.frame, Cl.dict, Fs⟩
  obtain ⟨hdx', hxf', hap'⟩ := ff (oL := { oL with slots := oL.slots }) hdx hxf hap hLd hLx hnL (SameUp.refl frs)
  clear N₁
  by_cases hl : sgs = [] ∧ lone = true
  · obtain ⟨rfl, rfl⟩ := hl
    have hla := hs.lone_at
    k_steps
    have SU0 := SameUp.refl frs
    exact pass_raised Cl (Around.frames_deeper hA) rfl (ffmid (ff hdx hxf hap hLd hLx hnL SU0).1 (ff hdx hxf hap hLd hLx hnL SU0).2.1 (ff hdx hxf hap hLd hLx hnL SU0).2.2) (ffL hLd hLx hnL SU0) ((hE rfl rfl).up SU0)
  · k_steps
    have SUt := ‹SameUp frs _›
    obtain ⟨r1, r2⟩ := fin2 (new := new) Cl (by assumption) (by assumption) hLx hLd (up_ne hnL SUt)
    exact hQ hl _ _ _ _ _ _ SUt (Fs.up SUt) r1 r2 (by assumption) (by assumption)
end Mine
end

local macro_rules | `(tactic| walk_at "call builtin:len") => wl 3 "" "call Value.builtin 'len @1 Value.str _ _ @2 [1 @2" `len_str "'o_" "" "t' k'" "" []
section
open PySem PySem.W PySem.Calls PySem.Spec PyProof.Rows
set_option maxRecDepth 100000
set_option maxHeartbeats 2000000
namespace Mine
theorem anew9 : True := by
  w_top off
  exact True.intro
open TI
theorem fillWX5 (P : Params) : hd.heap_1 P = hd.heap_1 P ∧ PySem.Challenge.rw_kq0016_05 = PySem.Challenge.rw_kq0016_05 := by
  k_fill
  exact ⟨rfl, rfl⟩
local macro_rules | `(tactic| walk_at "subscriptTail Name Slice str ref") => wl 3 "" "" `cut_to "5abcd_" "aAbocada" "h' t' k' y' F' N' hy' hl'" "Y" ["s:=_ _ _ _ _ <5"]
local macro_rules | `(tactic| walk_at "call builtin:str.split") => wl 3 "" "" `split_nl "abcde_" "aAbAcodaea" "D' h' k' vs' last' lt' e1' e2' e3' F' N' l1" "L" []
local macro_rules | `(tactic| walk_at "call builtin:len") => wl 3 "" "call Value.builtin 'len @1 Value.ref _ @1 [1 @2" `len_atE "abcd_" "aabmcwdo" "t' k'" "" []
local macro_rules | `(tactic| walk_at "subscriptTail") => wl 3 "" "subscriptTail _ Expr.UnaryOp _ _ _ @3 Value.ref _ @1 Value.int _ _ @2 @4" `item_last "abcd_" "aabmcwdd" "" "" []
local macro_rules | `(tactic| walk_at "compareOp In str str") => wl 0 "" "" `in_nl "'w_" "" "" "" []
local macro_rules | `(tactic| walk_at "inplaceOp Add str str") => wl 0 "" "" `iadd_any "'z_" "" "t' k'" "" []
theorem app5 (a d e f g h : Str) : a ++ (d ++ e ++ f ++ g ++ h) = a ++ d ++ e ++ f ++ g ++ h := by simp only [Str.append_assoc]
theorem words_no {msg : Str} {l : List Nat} {p : Int} (hb : l.contains 10 = false) : msg ++ Str.ofString " at position " ++ Str.ofString (toString p) = peWords msg l p := by
  unfold peWords peHead
  rw [hb, if_neg Bool.false_ne_true]
theorem words_yes {msg : Str} {l : List Nat} {p col : Int} (hc : col = peCol l p) (hb : l.contains 10 = true) : msg ++ Str.ofString " at position " ++ Str.ofString (toString p) ++ (Str.ofString " (line " ++ Str.ofString (toString (peLine l p)) ++ Str.ofString ", column " ++ Str.ofString (toString col) ++ Str.ofString ")") = peWords msg l p := by
  subst hc
  unfold peWords peHead
  rw [hb, if_pos rfl, app5]
theorem whole_fin {base h : Heap} {L L' T D' : Addr} {oL o : Obj} {news : List (Addr × Obj)} {msg words : Str} {given : Value} {l : List Nat} {pos col : Int} {tm tp tl tc tw : Tok} (hw : words = peWords msg l pos) (hc : col = peCol l pos)
    (N : News base L' h ((T, ({ cls := .type "tuple", data := .seq #[.str msg tm, given, .int pos tp, .int (peLine l pos) tl, .int col tc, .str words tw] } : Obj)) :: (D', o) :: (L, oL) :: news)) (hT : T ≠ L) (hn : ∀ q ∈ news, q.1 ≠ L) : News base L h ((T, wholeO msg given l pos tm tp tl tc tw) :: news) := by
  subst hw hc
  refine backN N (fun q hq => ?_) (fun q hq => ?_)
  · rcases List.mem_cons.mp hq with rfl | hq
    · exact List.mem_cons_self
    · simp only [List.mem_cons]; exact .inr (.inr (.inr hq))
  · rcases List.mem_cons.mp hq with rfl | hq
    · exact hT
    · exact hn q hq
theorem whole_c {w : World} {loose : List Str} {mean : ExcName → Option Value} {mg mb : Str → Option Value} {A : Around}
    {base : Heap} {L : Addr} {m : Str → Option Value} {s : Shared} {Q E : Value → Shared → Prop} {news : List (Addr × Obj)} {msg D : Str} {tm dt tp : Tok} {given : Value} {p : Nat}
    (F : Fr base L s.heap m) (X : (hd.heap_1 w.params).In base) (N : News base L s.heap news) (T : Top hd.view_39 loose mean mg mb base)
    (hd' : A.depth + 3 < recursionLimit) (hD : D.length ≤ 2000) (hm : msg.length ≤ 10000) (hp : p ≤ D.length)
    (hQ : ∀ h' tk T tp tl tc tw, Fr base L h' m → News base L h' ((T, wholeO msg given D.cps.toList p tm tp tl tc tw) :: news) → (∀ q ∈ news, q.1 ≠ T) → Q (.ref T) { s with heap := h', toks := tk }) :
    wpAny (model PySem.Challenge.rw_kq0016_05.row.prog w) A (call (.ref 144) [.str msg tm, .str D dt, given, .int (p : Int) tp]) Q E s := by
  refine wpAny_call (enterM (cn := Str.ofString "") (cs := { kind := .function, names := [], isGenerator := false, isCoroutine := false }) (a := 0) (ccd := .none) (l := []) (frs := []) F X N T trivial rfl (by kernel_rfl) (by omega) (BindsTo.of_eq rfl) (locs rfl) (fun oL L' h₁ Cl Fs₁ F₁ N₁ hne hltL => ?_) rfl rfl rfl rfl (by decide))
  clear Fs₁
  have hp0 : (0 : Int) ≤ (p : Int) := Int.natCast_nonneg p
  have hb1 := peLine_bound D.cps.toList p
  have hb2 := peCol_bound D.cps.toList hp0
  have hDl : D.cps.toList.length = D.length := by simp [Str.length]
  rw [hDl] at hb1
  cases hb : D.cps.toList.contains 10
  all_goals (
    k_steps
    have rN := ‹News base L' _ _›
    have rF := ‹Fr base L' _ _›
    have e3 := ‹((Str.length _ : Nat) : Int) + 1 = peCol D.cps.toList p›
    have p9 := (by assumption : @LT.lt Nat _ _ _ ∧ @LT.lt Nat _ L _ ∧ AllLt _ news)
    refine hQ _ _ _ _ _ _ _ (backM (sl := oL.slots) Cl rF rN (by simp)) (whole_fin ?hw e3 rN (Ne.symm (Nat.ne_of_lt p9.2.1)) hne) (allLt_ne p9.2.2)
    case hw =>
      first
        | ((have h0 : D.cps.toList.contains 10 = false := by with_reducible assumption); exact words_no h0)
        | ((have h0 : D.cps.toList.contains 10 = true := by with_reducible assumption); exact words_yes e3 h0))
theorem whole_cI {w : World} {loose : List Str} {mean : ExcName → Option Value} {mg mb : Str → Option Value} {A : Around}
    {base : Heap} {L : Addr} {m : Str → Option Value} {s : Shared} {Q E : Value → Shared → Prop} {news : List (Addr × Obj)} {msg D : Str} {tm dt tp : Tok} {given : Value} {pos : Int}
    (F : Fr base L s.heap m) (X : (hd.heap_1 w.params).In base) (N : News base L s.heap news) (T : Top hd.view_39 loose mean mg mb base)
    (hd' : A.depth + 3 < recursionLimit) (hD : D.length ≤ 2000) (hm : msg.length ≤ 10000) (h0 : 0 ≤ pos) (hp : pos ≤ D.length)
    (hQ : ∀ h' tk T tp tl tc tw, Fr base L h' m → News base L h' ((T, wholeO msg given D.cps.toList pos tm tp tl tc tw) :: news) → (∀ q ∈ news, q.1 ≠ T) → Q (.ref T) { s with heap := h', toks := tk }) :
    wpAny (model PySem.Challenge.rw_kq0016_05.row.prog w) A (call (.ref 144) [.str msg tm, .str D dt, given, .int pos tp]) Q E s := by
  obtain ⟨p, rfl⟩ := Int.eq_ofNat_of_zero_le h0
  exact whole_c F X N T hd' hD hm (by omega) hQ
end Mine
end

section
open PySem PySem.W PySem.Calls PySem.Spec PyProof.Rows
set_option maxRecDepth 100000
namespace Mine
/-- what comes up from a place: the end, nothing, a lone backslash, or a sign that a lone backslash follows -/
inductive How
  | none | lone | stuck | fin
def How.str : How → Str
  | .none => Str.ofString "none"
  | .lone => Str.ofString "lone"
  | .stuck => Str.ofString "stuck"
  | .fin => Str.ofString "end"
def howOf (lone : Bool) (e : Str) : Nat → List Str → How × Nat
  | p, [] => if lone then (.lone, p) else (.none, p)
  | p, y :: r => if r.isEmpty && lone then (.stuck, p) else if y = e then (.fin, p) else howOf lone e (p + y.length) r
/-- the signs from p on, and what comes up there -/
def HowAt (D e : Str) (p : Nat) (h : How) (q : Nat) : Prop := ∃ lone sgs, SignsX lone D p sgs ∧ howOf lone e p sgs = (h, q)
/-- the sign at a place: one code, or a backslash and what follows it -/
def SignAtP (D : Str) (p : Nat) (y : Str) : Prop := (∃ c, D.cps.toList[p]? = some c ∧ c ≠ 92 ∧ y = one c) ∨ (∃ c, D.cps.toList[p]? = some 92 ∧ D.cps.toList[p + 1]? = some c ∧ y = one 92 ++ one c)
/-- the text from p to q -/
def cutS (D : Str) (p q : Nat) : Str := Txt.slice D (some (p : Int)) (some (q : Int))
/-- what the law asks of a place -/
def wantR (m1 m2 D e : Str) (p : Nat) (h : How) (q : Nat) : Str ⊕ (Str × Int) :=
  match h with
  | .stuck => .inr (Str.ofString "bad escape (end of pattern)", (D.length : Int) - 1)
  | .fin => if q = p then .inr (m1, (q : Int) + e.length - 1) else .inl (cutS D p q)
  | _ => if p = D.length then .inr (m1, (D.length : Int)) else .inr (m2, (p : Int))
def behindR (e : Str) (h : How) (q : Nat) : Nat := match h with | .fin => q + e.length | _ => q
theorem signsX_cat {lone : Bool} {D : Str} {rest : List Str} : ∀ {pre : List Str} {p : Nat}, SignsX lone D p (pre ++ rest) → (D.cps.toList.drop p).take (cat pre).length = (cat pre).cps.toList ∧ SignsX lone D (p + (cat pre).length) rest ∧ ((cat pre).length = 0 ↔ pre = [])
  | [], p, h => by
    have e : (cat []).length = 0 := rfl
    rw [e]
    exact ⟨by simp [cat_cps, sg], h, by simp⟩
  | y :: pre, p, h => by
    have e : cat (y :: pre) = y ++ cat pre := by rw [show y :: pre = [y] ++ pre from rfl, cat_app, cat_one]
    rw [e, Str.length_append]
    rcases h with ⟨c, h1, h2, rfl, h3⟩ | ⟨c, h1, h2, rfl, h3⟩
    · obtain ⟨a, b, d⟩ := signsX_cat h3
      have hlt := (List.getElem?_eq_some_iff.mp h1).1
      have hc := (List.getElem?_eq_some_iff.mp h1).2
      have el : (one c).length = 1 := rfl
      rw [el, app_cps]
      refine ⟨?_, by rw [← Nat.add_assoc]; exact b, by simp⟩
      rw [List.drop_eq_getElem_cons hlt, hc, Nat.add_comm, List.take_succ_cons, a]; rfl
    · obtain ⟨a, b, d⟩ := signsX_cat h3
      have hlt := (List.getElem?_eq_some_iff.mp h1).1
      have hlt2 := (List.getElem?_eq_some_iff.mp h2).1
      have hc := (List.getElem?_eq_some_iff.mp h1).2
      have hc2 := (List.getElem?_eq_some_iff.mp h2).2
      have el : (one 92 ++ one c).length = 2 := by rw [Str.length_append]; rfl
      rw [el, app_cps, app_cps]
      refine ⟨?_, by rw [← Nat.add_assoc]; exact b, by simp⟩
      rw [List.drop_eq_getElem_cons hlt, hc, List.drop_eq_getElem_cons hlt2, hc2, Nat.add_comm, show (cat pre).length + 2 = ((cat pre).length + 1) + 1 from rfl, List.take_succ_cons, List.take_succ_cons, a]; rfl
end Mine
end

section
open PySem PySem.W PySem.Calls PySem.Spec PyProof.Rows PySem.Builtin PySem.Builtin.Str
set_option maxRecDepth 100000
set_option maxHeartbeats 1000000
namespace Mine
abbrev tab4 : List Str := [Str.ofString "a", Str.ofString "b", Str.ofString "\n", Str.ofString ">", Str.ofString "é", Str.ofString "\\>", Str.ofString "\\\\", Str.ofString ">"]
abbrev end4 : List Str := [Str.ofString ">", Str.ofString "\\>"]
abbrev what2 : List Str := [Str.ofString "name", Str.ofString "word"]
/-- a sign of a text: one of a backslash with what follows it, or any other -/
def IsSg (y : Str) : Prop := (∃ c, c ≠ 92 ∧ c < 256 ∧ y = one c) ∨ (∃ c, c < 256 ∧ y = one 92 ++ one c)
theorem one2_len (a c : Nat) : (one a ++ one c).length = 2 := by rw [Str.length_append]; rfl
theorem IsSg.len {y : Str} (h : IsSg y) : 1 ≤ y.length ∧ y.length ≤ 2 := by
  rcases h with ⟨c, _, _, rfl⟩ | ⟨c, _, rfl⟩
  · exact ⟨Nat.le_refl _, by show 1 ≤ 2; decide⟩
  · rw [one2_len]; decide
theorem fmod_nat {v k : Int} (hk : 0 < k) : (v.fmod k).toNat < k.toNat := (Int.toNat_lt_toNat hk).mpr (Int.fmod_lt_of_pos v hk)
def signs4 (ns : List Int) : List Str := (ns.take 12).map fun v => tab4.getD (v.fmod 8).toNat Str.empty
theorem sum_le {l : List Str} {k : Nat} (h : ∀ y ∈ l, y.length ≤ k) : (l.map Str.length).sum ≤ l.length * k := by
  induction l with
  | nil => simp
  | cons y r ih =>
    simp only [List.map_cons, List.sum_cons, List.length_cons]
    have := h y List.mem_cons_self
    have := ih fun z hz => h z (List.mem_cons_of_mem _ hz)
    rw [Nat.add_mul]; omega
theorem sg_small {l : List Str} (h : ∀ y ∈ l, IsSg y) : ∀ c ∈ (cat l).cps.toList, c < 256 := by
  intro c hc
  rw [cat_cps] at hc
  obtain ⟨z, hz, hcz⟩ := List.mem_flatten.mp hc
  obtain ⟨y, hy, rfl⟩ := List.mem_map.mp hz
  rcases h y hy with ⟨d, _, hd, rfl⟩ | ⟨d, hd, rfl⟩
  · have : c = d := by simpa [one] using hcz
    omega
  · rw [app_cps] at hcz
    have : c = 92 ∨ c = d := by simpa [one] using hcz
    omega
theorem signsX_at {lone : Bool} {D : Str} : ∀ {l : List Str} {pre : List Nat}, (∀ y ∈ l, IsSg y) → D.cps.toList = pre ++ (sg l ++ if lone then [92] else []) → SignsX lone D pre.length l
  | [], pre, _, h => by
    cases lone
    · show D.cps.toList[pre.length]? = none
      rw [h]; simp [sg]
    · show (if true = true then _ else _)
      rw [if_pos rfl, h]
      constructor
      · simp [sg]
      · rw [List.getElem?_append_right (by omega)]; simp [sg]
  | y :: r, pre, hl, h => by
    have hr : ∀ z ∈ r, IsSg z := fun z hz => hl z (List.mem_cons_of_mem _ hz)
    rcases hl y List.mem_cons_self with ⟨c, hc, _, rfl⟩ | ⟨c, _, rfl⟩
    · have e : D.cps.toList = pre ++ c :: (sg r ++ if lone then [92] else []) := by rw [h]; simp [sg, one]
      refine .inl ⟨c, by rw [e]; simp, hc, rfl, ?_⟩
      have := signsX_at (lone := lone) (pre := pre ++ [c]) hr (by rw [e]; simp)
      simpa using this
    · have e : D.cps.toList = pre ++ 92 :: c :: (sg r ++ if lone then [92] else []) := by
        rw [h]
        have : (one 92 ++ one c).cps.toList = [92, c] := by rw [app_cps]; rfl
        simp [sg, this]
      refine .inr ⟨c, by rw [e]; simp, by rw [e, List.getElem?_append_right (by omega)]; simp, rfl, ?_⟩
      have := signsX_at (lone := lone) (pre := pre ++ [92, c]) hr (by rw [e]; simp)
      simpa using this
/-- the rows are what getuntil gives, call by call -/
def Rows (lone : Bool) (D e m1 m2 : Str) : Nat → List Str → List ((Str ⊕ (Str × Int)) × Nat) → Prop
  | _, _, [] => True
  | p, sgs, (r, st) :: more => ∀ r' p' rest, GetsX lone D e m1 m2 sgs p r' p' rest → r' = r ∧ p' = st ∧ Rows lone D e m1 m2 p' rest more
/-- what stands between the turns of the loop that tells -/
structure Tst where
  name : List Str
  begin : Nat
  place : Nat
  rows : List ((Str ⊕ (Str × Int)) × Nat)
def tstep (e m1 : Str) (s : Tst) (y : Str) : Tst :=
  if y = e then ⟨[], s.place + y.length, s.place + y.length, s.rows ++ [(if s.name = [] then .inr (m1, ((s.place + y.length : Nat) : Int) - 1) else .inl (cat s.name), s.place + y.length)]⟩
  else ⟨s.name ++ [y], s.begin, s.place + y.length, s.rows⟩
def tall (e m1 : Str) (l : List Str) : Tst := l.foldl (tstep e m1) ⟨[], 0, 0, []⟩
/-- the rows at the text's end -/
def endRows (m1 m2 : Str) (s : Tst) (size : Nat) : List ((Str ⊕ (Str × Int)) × Nat) := [(if s.name = [] then .inr (m1, (size : Int)) else .inr (m2, (s.begin : Int)), size), (.inr (m1, (size : Int)), size)]
def stuckRows (D : Str) (place : Nat) : List ((Str ⊕ (Str × Int)) × Nat) := [(.inr (Str.ofString "bad escape (end of pattern)", (D.length : Int) - 1), place), (.inr (Str.ofString "bad escape (end of pattern)", (D.length : Int) - 1), place)]
end Mine
end

section
open PySem PySem.W PySem.Calls PySem.Spec PyProof.Rows PySem.Builtin PySem.Builtin.Str
set_option maxRecDepth 100000
set_option maxHeartbeats 1000000
namespace Mine
abbrev tab9 : List Str := [Str.ofString "a", Str.ofString "b", Str.ofString "0", Str.ofString "\n", Str.ofString ">", Str.ofString ":", Str.ofString "\\>", Str.ofString "\\\\", Str.ofString "é"]
abbrev end5 : List Str := [Str.ofString ">", Str.ofString ":", Str.ofString "\\>", Str.ofString "\n", Str.ofString "é"]
def mark3 (b : Bool) (e : Str) : Str := if !b && e == Str.ofString "é" then Str.ofString "\\xe9" else e
/-- the sign that a number stands for -/
def sign3 (e : Str) (v : Int) : Str := if v.fmod 13 < 9 then tab9.getD (v.fmod 13).toNat Str.empty else e
def signs3 (e : Str) (ns : List Int) : List Str := (ns.take 40).map (sign3 e)
/-- the parts that an end closes, each with its end -/
def flatP (e : Str) (init : List (List Str)) : List Str := (init.map (· ++ [e])).flatten
/-- what is left from the k-th part on -/
def rest3 (e : Str) (init : List (List Str)) (last : List Str) (k : Nat) : List Str := flatP e (init.drop k) ++ last
/-- where the k-th part begins -/
def begin3 (e : Str) (Ps : List (List Str)) (k : Nat) : Nat := ((Ps.take k).map fun p => (cat p).length + e.length).sum
/-- what stands behind a part -/
def after3 (e : Str) (more : Bool) (tail : List Str) : List Str := if more then e :: tail else []
/-- what the law wants of getuntil -/
def want3 (e m1 m2 : Str) (part : List Str) (more : Bool) (p : Nat) : Str ⊕ (Str × Int) :=
  if part ≠ [] then (if more then .inl (cat part) else .inr (m2, (p : Int))) else if more then .inr (m1, (p : Int) + e.length - 1) else .inr (m1, (p : Int))
end Mine
end

section
open PySem PySem.W PySem.Calls PySem.Spec PyProof.Rows PySem.Builtin
set_option maxRecDepth 100000
set_option maxHeartbeats 1000000
namespace Mine
theorem slot_bytes_repr : Slot "bytes" "__repr__" "bytes.__repr__" :=
  .of (owner := "bytes") (n := "__repr__") (by rw [typeLookup_type, builtinLookup_eq_fast]; kernel_rfl) (by decide +kernel) (by decide +kernel) (by decide +kernel)
    (by first | exact .inl (by decide +kernel) | exact .inr (by decide +kernel)) (by rw [isSubtype_type]; kernel_rfl)
theorem entry_bytes_repr : entryFor table "bytes.__repr__" = some Builtin.«bytes.__repr__» := entryFor_of_tree (by kernel_rfl)
theorem args_bytes_repr_1 (a : Value) : argsOk "bytes.__repr__" ⟨[a], []⟩ := by
  unfold argsOk; rw [signature?_of (id := "bytes.__repr__") (n := ['_', '_', 'r', 'p', 'e', 'r', '_', '_']) (o := ['s', 'e', 't', 'y', 'b']) (by kernel_rfl) FB.owner_bytes]; kernel_rfl
theorem gives_bytes_repr {b : Array UInt8} {t : Tok} (h : 4 * b.size + 3 ≤ sizeLine) : Gives (Builtin.«bytes.__repr__» ⟨[.bytes b t], []⟩) (.str (Bytes.literal b)) := by
  refine .of_eq ?_
  have h1 : Bytes.tooLong (4 * b.size + 3 + 0) = false := by
    show decide (4 * b.size + 3 + 0 > sizeLine) = false
    exact decide_eq_false (by omega)
  show (do retStr (← Bytes.literalAsked b) : Sem Fin) = _
  unfold Bytes.literalAsked
  rw [h1]
  rfl
theorem literal_len (b : Array UInt8) : (Bytes.literal b).length ≤ 4 * b.size + 3 := by
  unfold Bytes.literal
  show Array.size (Array.push (Array.foldl _ _ b) _) ≤ _
  rw [Array.size_push, ← Array.foldl_toList]
  have key : ∀ (f : UInt8 → Array Nat) (hf : ∀ c, (f c).size ≤ 4) (l : List UInt8) (acc : Array Nat), (l.foldl (fun a c => a ++ f c) acc).size ≤ acc.size + 4 * l.length := by
    intro f hf l
    induction l with
    | nil => intro acc; simp
    | cons c r ih =>
      intro acc
      rw [List.foldl_cons]
      have := ih (acc ++ f c)
      rw [Array.size_append] at this
      have := hf c
      simp only [List.length_cons]
      omega
  refine Nat.le_trans (Nat.add_le_add_right (key _ (fun c => ?_) _ _) 1) ?_
  · have ite4 : ∀ {p : Prop} [Decidable p] {x y : Array Nat}, x.size ≤ 4 → y.size ≤ 4 → (if p then x else y).size ≤ 4 := by
      intro p _ x y hx hy
      split <;> assumption
    exact ite4 (show 2 ≤ 4 by decide) (ite4 (show 2 ≤ 4 by decide) (ite4 (show 2 ≤ 4 by decide) (ite4 (show 2 ≤ 4 by decide) (ite4 (show 4 ≤ 4 by decide) (show 1 ≤ 4 by decide)))))
  · simp only [Array.length_toList]
    show 2 + 4 * b.size + 1 ≤ _
    omega
section
variable {prog : Program} {w : World}
theorem ReprIs_bytes (b : Array UInt8) (t : Tok) (h : 4 * b.size + 3 ≤ sizeLine) : ReprIs prog w (.bytes b t) (Bytes.literal b) := fun n hn _ _ _ _ hq => by
  have hn' : n ≤ sizeLine := by omega
  rw [pyReprUnder_leaf (v := .bytes b t) hn' (fun _ e => nomatch e)]
  unfold pyRepr
  exact wpAny_bind (wpAny_pyReprObj_gives (typeIs_bytes _ b t) slot_bytes_repr entry_bytes_repr (args_bytes_repr_1 _) (gives_bytes_repr h) (hx := Nat.le_trans (literal_len b) h) (wpAny_pure (hq _)))
/-- what repr makes of a text, octets or a number -/
def reprV : Value → Str
  | .str x _ => reprText x
  | .bytes b _ => Bytes.literal b
  | .int i _ => toString i
  | _ => Str.ofString ""
theorem reprV_same {u v : Value} (h : SameV u v) : reprV u = reprV v := by
  unfold SameV at h
  split at h
  · subst h; rfl
  · subst h; rfl
  · subst h; rfl
  · exact h.elim
/-- a text, octets or a number that repr can show -/
def ShowsV : Value → Prop
  | .str x _ => x.length ≤ 30000 ∧ ∀ c ∈ x.cps.toList, c < 16 ^ 8
  | .bytes b _ => b.size ≤ 30000
  | .int i _ => -10000 ≤ i ∧ i ≤ 10000
  | _ => False
theorem ShowsV.is {v : Value} (h : ShowsV v) : ReprIs prog w v (reprV v) ∧ (reprV v).length ≤ 400000 := by
  unfold ShowsV at h
  split at h
  · rename_i x t
    have := StrLaws.reprText_len x h.2
    exact ⟨ReprIs.str x t (by rw [sizeLine_eq]; omega), by show (reprText x).length ≤ _; omega⟩
  · rename_i b t
    have := literal_len b
    exact ⟨ReprIs_bytes b t (by rw [sizeLine_eq]; omega), by show (Bytes.literal b).length ≤ _; omega⟩
  · rename_i i t
    have hl : i.natAbs.log2 < 1920 := by
      by_cases h0 : i.natAbs = 0
      · rw [h0]; decide
      · refine (Nat.log2_lt h0).mpr (Nat.lt_of_le_of_lt (show i.natAbs ≤ 2 ^ 14 by omega) (Nat.pow_lt_pow_right (by decide) (by decide)))
    have := int_text_len_1921 hl
    exact ⟨ReprIs.int t hl, by show (Str.ofString (toString i)).length ≤ _; omega⟩
  · exact h.elim
/-- what a deed gives: nothing, a truth value, a text, or a refusal's tuple -/
inductive Out
  | none | bool (b : Bool) | text (y : Str) | whole (msg : Str) (pos : Int)
def wholeVals (m : Str) (g : Value) (l : List Nat) (p : Int) (t1 t2 t3 t4 t5 : Tok) : List Value := [.str m t1, g, .int p t2, .int (peLine l p) t3, .int (peCol l p) t4, .str (peWords m l p) t5]
def outText (g : Value) (l : List Nat) : Out → Str
  | .none => "None"
  | .bool b => if b then "True" else "False"
  | .text y => reprText y
  | .whole m p => tupleText [reprText m, reprV g, toString p, toString (peLine l p), toString (peCol l p), reprText (peWords m l p)]
/-- a value that is what a deed gave -/
def OutAt (gv : Value) (l : List Nat) (tups : List (Addr × Obj)) (v : Value) : Out → Prop
  | .none => v = .none
  | .bool b => v = .bool b
  | .text y => ∃ t, v = .str y t
  | .whole m p => ∃ T g t1 t2 t3 t4 t5, v = .ref T ∧ SameV g gv ∧ (T, wholeO m g l p t1 t2 t3 t4 t5) ∈ tups
theorem OutAt.mono {gv v : Value} {l : List Nat} {a b : List (Addr × Obj)} {o : Out} (h : OutAt gv l a v o) (hs : ∀ q ∈ a, q ∈ b) : OutAt gv l b v o := by
  cases o with
  | whole m p => obtain ⟨T, g, t1, t2, t3, t4, t5, h1, h2, h3⟩ := h; exact ⟨T, g, t1, t2, t3, t4, t5, h1, h2, hs _ h3⟩
  | _ => exact h
def StrFit (x : Str) : Prop := x.length ≤ 30000 ∧ ∀ c ∈ x.cps.toList, c < 16 ^ 8
def IntFit (i : Int) : Prop := -10000 ≤ i ∧ i ≤ 10000
def OutFit (gv : Value) (l : List Nat) : Out → Prop
  | .text y => StrFit y
  | .whole m p => StrFit m ∧ ShowsV gv ∧ IntFit p ∧ IntFit (peLine l p) ∧ IntFit (peCol l p) ∧ StrFit (peWords m l p)
  | _ => True
theorem ShowsV.same {u v : Value} (h : ShowsV v) (e : SameV u v) : ShowsV u := by
  unfold SameV at e
  split at e
  · subst e; exact h
  · subst e; exact h
  · subst e; exact h
  · exact e.elim
theorem tuple6_len {a b c d e f : Str} (h1 : a.length ≤ 400000) (h2 : b.length ≤ 400000) (h3 : c.length ≤ 400000) (h4 : d.length ≤ 400000) (h5 : e.length ≤ 400000) (h6 : f.length ≤ 400000) : (tupleText [a, b, c, d, e, f]).length ≤ sizeLine := by
  have hp := tupleText_len_le [a, b, c, d, e, f]
  simp only [List.map_cons, List.map_nil, List.sum_cons, List.sum_nil, List.length_cons, List.length_nil] at hp
  rw [sizeLine_eq]
  omega
variable {prog : Program} {w : World} {A : Around} {E : Value → Shared → Prop} {s : Shared} {h₀ : Heap} {L : Addr} {m : Str → Option Value}
theorem repr_out {gv v : Value} {l : List Nat} {tups news : List (Addr × Obj)} {o : Out} {Q : Value → Shared → Prop} (F : Fr h₀ L s.heap m) (N : News h₀ L s.heap news) (R : OutAt gv l tups v o) (ht : ∀ q ∈ tups, q ∈ news) (hf : OutFit gv l o) (hg : A.guards = some []) (hu : A.units + 20 < cLine)
    (hQ : ∀ h' tk t, Fr h₀ L h' m → News h₀ L h' news → Q (.str (outText gv l o) t) { s with heap := h', toks := tk }) : wpAny (model prog w) A (call (.builtin "repr") [v]) Q E s := by
  cases o with
  | none =>
    cases (show v = _ from R)
    exact P.repr_of_none (hQ s.heap _ _ F N)
  | bool b =>
    cases (show v = _ from R)
    exact P.repr_of_bool (hQ s.heap _ _ F N)
  | text y =>
    obtain ⟨t, rfl⟩ := R
    have := StrLaws.reprText_len y hf.2
    have h1 := hf.1
    exact P.repr_of_str (hQ s.heap _ _ F N) (by rw [sizeLine_eq]; omega)
  | whole mm p =>
    obtain ⟨T, g, t1, t2, t3, t4, t5, rfl, hs, hT⟩ := R
    obtain ⟨f1, f2, f3, f4, f5, f6⟩ := hf
    have e1 := ShowsV.is (prog := prog) (w := w) (v := .str mm t1) f1
    have e2 := ShowsV.is (prog := prog) (w := w) (f2.same hs)
    have e3 := ShowsV.is (prog := prog) (w := w) (v := .int p t2) f3
    have e4 := ShowsV.is (prog := prog) (w := w) (v := .int (peLine l p) t3) f4
    have e5 := ShowsV.is (prog := prog) (w := w) (v := .int (peCol l p) t4) f5
    have e6 := ShowsV.is (prog := prog) (w := w) (v := .str (peWords mm l p) t5) f6
    rw [reprV_same hs] at e2
    have hax := (N _ (ht _ hT)).1
    refine call_repr_slot (by omega) ⟨_, hax, rfl⟩ _root_.PySem.F.slot_tuple_repr (call_tuple_reprK (as := []) (h₀ := s.heap) (d := 0) (ts := [_, _, _, _, _, _]) hax rfl rfl (by simp) (.cons (.of_is e1.1 _ _ _) (.cons (.of_is e2.1 _ _ _) (.cons (.of_is e3.1 _ _ _) (.cons (.of_is e4.1 _ _ _) (.cons (.of_is e5.1 _ _ _) (.cons (.of_is e6.1 _ _ _) .nil)))))) (g := []) hg (fun b _ => Clear.nil b) (by show A.units + 1 + 1 < cLine; omega) (fun _ _ z => z) (fun h' u tk hk => ⟨_, _, rfl, hQ h' tk u (F.keptAll hk) (N.grown hk)⟩) ?_)
    exact tuple6_len e1.2 e2.2 e3.2 e4.2 e5.2 e6.2
end
end Mine
end

section
open PySem PySem.W PySem.Calls PySem.Spec PyProof.Rows PySem.Builtin PySem.Builtin.Str
set_option maxRecDepth 100000
set_option maxHeartbeats 1000000
namespace Mine
abbrev tab8 : List Str := [Str.ofString "a", Str.ofString "b", Str.ofString "0", Str.ofString "\n", Str.ofString "(", Str.ofString "\\a", Str.ofString "\\\\", Str.ofString "é"]
abbrev some5 : List Str := [Str.ofString "a", Str.ofString "b", Str.ofString "0", Str.ofString "\\a", Str.ofString "\\\\"]
theorem thing_words (b : Bool) : WordsTo b (Str.ofString "missing " ++ Str.ofString "thing") (Str.ofString "missing thing") := by
  cases b with
  | true => exact .inl ⟨rfl, by decide +kernel⟩
  | false => exact .inr ⟨rfl, recode (t := "missing thing") (fun _ => .inl (by kernel_rfl)) (by decide +kernel) (by decide +kernel) (by decide +kernel) (by decide +kernel)⟩
theorem mark_words5 (b : Bool) (k : Nat) (hk : k < 8) : WordsTo b (Str.ofString "missing " ++ tab8.getD k Str.empty ++ Str.ofString ", unterminated name") (Str.ofString "missing " ++ mark3 b (tab8.getD k Str.empty) ++ Str.ofString ", unterminated name") := by
  cases b with
  | true => exact .inl ⟨rfl, rfl⟩
  | false =>
    refine .inr ⟨rfl, ?_⟩
    match k, hk with
    | 0, _ => exact recode (t := "missing a, unterminated name") (fun _ => .inl (by kernel_rfl)) (by decide +kernel) (by decide +kernel) (by decide +kernel) (by decide +kernel)
    | 1, _ => exact recode (t := "missing b, unterminated name") (fun _ => .inl (by kernel_rfl)) (by decide +kernel) (by decide +kernel) (by decide +kernel) (by decide +kernel)
    | 2, _ => exact recode (t := "missing 0, unterminated name") (fun _ => .inl (by kernel_rfl)) (by decide +kernel) (by decide +kernel) (by decide +kernel) (by decide +kernel)
    | 3, _ => exact recode (t := "missing \n, unterminated name") (fun _ => .inl (by kernel_rfl)) (by decide +kernel) (by decide +kernel) (by decide +kernel) (by decide +kernel)
    | 4, _ => exact recode (t := "missing (, unterminated name") (fun _ => .inl (by kernel_rfl)) (by decide +kernel) (by decide +kernel) (by decide +kernel) (by decide +kernel)
    | 5, _ => exact recode (t := "missing \\a, unterminated name") (fun _ => .inl (by kernel_rfl)) (by decide +kernel) (by decide +kernel) (by decide +kernel) (by decide +kernel)
    | 6, _ => exact recode (t := "missing \\\\, unterminated name") (fun _ => .inl (by kernel_rfl)) (by decide +kernel) (by decide +kernel) (by decide +kernel) (by decide +kernel)
    | 7, _ => exact recode (t := "missing \\xe9, unterminated name") (fun _ => .inr (by kernel_rfl)) (by decide +kernel) (by decide +kernel) (by decide +kernel) (by decide +kernel)
theorem tab8_dec : ∀ k < 8, (tab8.getD k Str.empty) = one ((tab8.getD k Str.empty).cps.toList.getD 0 0) ∧ (tab8.getD k Str.empty).cps.toList.getD 0 0 ≠ 92 ∧ (tab8.getD k Str.empty).cps.toList.getD 0 0 < 256 ∨ (tab8.getD k Str.empty) = one 92 ++ one ((tab8.getD k Str.empty).cps.toList.getD 1 0) ∧ (tab8.getD k Str.empty).cps.toList.getD 1 0 < 256 := by decide +kernel
theorem tab8_sg (k : Nat) (hk : k < 8) : IsSg (tab8.getD k Str.empty) := by
  rcases tab8_dec k hk with ⟨h1, h2, h3⟩ | ⟨h1, h2⟩
  · exact .inl ⟨_, h2, h3, h1⟩
  · exact .inr ⟨_, h2, h1⟩
theorem some5_ok : ∀ y ∈ some5, PyData.strOk y = true := by decide +kernel
def signs5 (ns : List Int) : List Str := Str.ofString "a" :: (ns.take 24).map fun v => tab8.getD (v.fmod 8).toNat Str.empty
theorem signs5_sg (ns : List Int) : ∀ y ∈ signs5 ns, IsSg y := fun y hy => by
  rcases List.mem_cons.mp hy with rfl | hy
  · exact tab8_sg 0 (by decide)
  · obtain ⟨v, _, rfl⟩ := List.mem_map.mp hy
    exact tab8_sg _ (fmod_nat (k := 8) (by decide))
theorem signs5_len (ns : List Int) : 1 ≤ (signs5 ns).length ∧ (signs5 ns).length ≤ 25 ∧ (cat (signs5 ns)).length ≤ 50 := by
  have h1 : (signs5 ns).length ≤ 25 := by unfold signs5; rw [List.length_cons, List.length_map, List.length_take]; omega
  refine ⟨by unfold signs5; rw [List.length_cons]; omega, h1, ?_⟩
  rw [cat_len]
  have := sum_le (l := signs5 ns) (k := 2) (fun y hy => (signs5_sg ns y hy).len.2)
  omega
/-- the text -/
def text5 (lone : Bool) (S : List Str) : Str := if lone then cat S ++ Str.ofString "\\" else cat S
theorem text5_len (lone : Bool) (S : List Str) : (text5 lone S).length = (cat S).length + (if lone then 1 else 0) := by
  cases lone
  · rfl
  · show (cat S ++ Str.ofString "\\").length = _
    rw [Str.length_append]; rfl
theorem text5_at {lone : Bool} {S : List Str} (hS : ∀ y ∈ S, IsSg y) : SignsX lone (text5 lone S) 0 S := by
  refine signsX_at (pre := []) hS ?_
  cases lone
  · show (cat S).cps.toList = _
    rw [cat_cps]; simp
  · show (cat S ++ Str.ofString "\\").cps.toList = _
    rw [app_cps, cat_cps]; rfl
theorem text5_small {lone : Bool} {S : List Str} (hS : ∀ y ∈ S, IsSg y) : ∀ c ∈ (text5 lone S).cps.toList, c < 256 := by
  intro c hc
  cases lone
  · exact sg_small hS c hc
  · have e : (text5 true S).cps.toList = (cat S).cps.toList ++ [92] := by show (cat S ++ Str.ofString "\\").cps.toList = _; rw [app_cps]; rfl
    rw [e] at hc
    rcases List.mem_append.mp hc with hc | hc
    · exact sg_small hS c hc
    · rw [List.mem_singleton.mp hc]; decide
/-- where the k-th sign begins -/
def pl5 (S : List Str) (k : Nat) : Nat := (cat (S.take k)).length
theorem pl5_succ {S : List Str} {k : Nat} {y : Str} (h : S[k]? = some y) : pl5 S (k + 1) = pl5 S k + y.length := by
  unfold pl5; rw [List.take_add_one, h]; show (cat (S.take k ++ [y])).length = _; rw [cat_snoc, Str.length_append]
theorem pl5_add {S : List Str} {k j : Nat} : pl5 S (k + j) = pl5 S k + (cat ((S.drop k).take j)).length := by
  unfold pl5; rw [List.take_add, cat_app, Str.length_append]
theorem pl5_le (S : List Str) (k : Nat) : pl5 S k ≤ (cat S).length := by
  have : cat S = cat (S.take k) ++ cat (S.drop k) := by rw [← cat_app, List.take_append_drop]
  unfold pl5; rw [this, Str.length_append]; omega
theorem drop5_at {lone : Bool} {D : Str} {S : List Str} (h : SignsX lone D 0 S) (k : Nat) : SignsX lone D (pl5 S k) (S.drop k) := by
  have := (signsX_cat (pre := S.take k) (rest := S.drop k) (p := 0) (by rw [List.take_append_drop]; exact h)).2.1
  rwa [Nat.zero_add] at this
theorem drop_split {S pre rest : List Str} {k : Nat} (h : S.drop k = pre ++ rest) : rest = S.drop (k + pre.length) ∧ (S.drop k).take pre.length = pre ∧ pl5 S (k + pre.length) = pl5 S k + (cat pre).length := by
  have h1 : (S.drop k).take pre.length = pre := by rw [h, List.take_left]
  refine ⟨?_, h1, by rw [pl5_add, h1]⟩
  rw [← List.drop_drop, h, List.drop_left]
theorem drop_cons5 {S r : List Str} {k : Nat} {y : Str} (h : S.drop k = y :: r) : S[k]? = some y ∧ r = S.drop (k + 1) ∧ k < S.length := by
  have hk : k < S.length := by
    have := congrArg List.length h
    rw [List.length_drop, List.length_cons] at this; omega
  rw [List.drop_eq_getElem_cons hk] at h
  obtain ⟨h1, h2⟩ := List.cons.inj h
  exact ⟨by rw [List.getElem?_eq_getElem hk, h1], h2.symm, hk⟩
/-- the run from here on of what passes a test, up to a bound -/
def Stop (P : Str → Bool) (S : List Str) (here lim at_ : Nat) : Prop :=
  here ≤ at_ ∧ at_ ≤ lim ∧ (∀ k, here ≤ k → k < at_ → ∃ y, S[k]? = some y ∧ P y = true) ∧ (at_ = lim ∨ ∃ y, S[at_]? = some y ∧ P y = false)
/-- how far the numbers go: a lone backslash keeps the sign ahead of it -/
def top5 (lone : Bool) (S : List Str) : Nat := if lone then S.length - 1 else S.length
theorem take_mem {S pre rest : List Str} {k j : Nat} (h : S.drop k = pre ++ rest) (hj : k ≤ j) (hj2 : j < k + pre.length) : ∃ y, S[j]? = some y ∧ y ∈ pre := by
  have e : S[j]? = (S.drop k)[j - k]? := by rw [List.getElem?_drop]; congr 1; omega
  rw [h, List.getElem?_append_left (by omega)] at e
  exact ⟨pre[j - k], by rw [e, List.getElem?_eq_getElem (by omega)], List.getElem_mem _⟩
/-- the run is one -/
theorem stop_uniq {P : Str → Bool} {S pre rest : List Str} {here lim at_ q : Nat} (H : Stop P S here lim at_) (h : S.drop here = pre ++ rest) (hq : q = here + pre.length) (h1 : ∀ y ∈ pre, P y = true) (h2 : q ≤ lim) (h3 : q = lim ∨ ∃ y, S[q]? = some y ∧ P y = false) : at_ = q := by
  obtain ⟨a1, a2, a3, a4⟩ := H
  rcases Nat.lt_trichotomy at_ q with hlt | rfl | hgt
  · obtain ⟨y, hy, hm⟩ := take_mem h a1 (by omega)
    rcases a4 with rfl | ⟨z, hz, hf⟩
    · omega
    · rw [hy] at hz
      obtain rfl := Option.some.inj hz
      rw [h1 _ hm] at hf; cases hf
  · rfl
  · obtain ⟨y, hy, ht⟩ := a3 q (by omega) hgt
    rcases h3 with rfl | ⟨z, hz, hf⟩
    · omega
    · rw [hy] at hz
      obtain rfl := Option.some.inj hz
      rw [ht] at hf; cases hf
end Mine
end

local macro_rules | `(tactic| walk_at "z3") => `(tactic| (repeat (first | with_reducible exact List.mem_cons_self | with_reducible assumption | apply List.mem_cons_of_mem | apply List.mem_append_right)))
local macro_rules | `(tactic| walk_at "eval Name") => wl 3 "" "eval Expr.Name _ _ @2 envOfC _ _ _ _ _ @5 @2" `name_BV "abcdefg_" "baa5cadaeifbgd.k" "" "" ["EvAt.ofC rfl @1"]
local macro_rules | `(tactic| walk_at "eval Name") => wl 3 "" "eval Expr.Name _ _ @2 envOfC _ _ _ _ _ @5 @2" `name_V "abcde_" "baa5cadaei.k" "" "" ["EvAt.ofC rfl @1"]
local macro_rules | `(tactic| walk_at "eval Name") => wl 3 "" "eval Expr.Name _ _ @2 envOfC _ _ _ _ _ @5 @2" `nameX_C "5abcd_ef" "erfraabrc3dw.k" "" "" ["cl:=cellsFrom _ _ [0 @3"]
local macro_rules | `(tactic| walk_at "subscriptTail") => wl 3 "" "subscriptTail _ _ Value.ref _ @1 Value.int Int.fmod _ _ @2 _ @2 @4" `str_fmod "abcdef_" "aab3cwdderfd" "tk'" "" []
local macro_rules | `(tactic| walk_at "call builtin:len") => wl 3 "" "call Value.builtin 'len @1 Value.ref _ @1 [1 @2" `len_atE "abcd_" "aab3cwdo" "t' k'" "" []
section
open PySem PySem.W PySem.Calls PySem.Spec PyProof.Rows
set_option maxRecDepth 100000
set_option maxHeartbeats 2000000
namespace Mine
theorem anew10 : True := by
  w_top off
  exact True.intro
local macro_rules | `(tactic| walk_at "pad") => `(tactic| fail)
open TI
theorem fillL5A (P : Params) : hd.heap_1 P = hd.heap_1 P ∧ PySem.Challenge.rw_kq0016_05 = PySem.Challenge.rw_kq0016_05 := by
  k_fill
  exact ⟨rfl, rfl⟩
def lawStmt (k : Nat) : Stmt := lawBody.getD k default
def lawEnv (L a : Addr) (cd : Value) : Env := envOfC (Str.ofString "law") lawScope L a cd
theorem law_lit {w : World} {A : Around} {L a : Addr} {cd : Value} {s : Shared} {E : Value → Shared → Prop} {Q : Flow → Shared → Prop} {st x : Stmt} {y : Scope} (h1 : st = x) (h2 : lawScope = y)
    (h3 : wpAny (model PySem.Challenge.rw_kq0016_05.row.prog w) A (exec x (envOfC (Str.ofString "law") y L a cd)) Q E s) : wpAny (model PySem.Challenge.rw_kq0016_05.row.prog w) A (exec st (lawEnv L a cd)) Q E s := by
  unfold lawEnv
  rw [h1, h2]; exact h3
theorem law_lit2 {w : World} {A₀ : Around} {L a : Addr} {cd : Value} {s : Shared} {E : Value → Shared → Prop} {Q : Flow → Shared → Prop} {st x : Stmt} {y : Scope} (h1 : st = x) (h2 : lawScope = y)
    (h3 : wpAny (model PySem.Challenge.rw_kq0016_05.row.prog w) (A₀.deeper (envOfC (Str.ofString "law") y L a cd)) (exec x (envOfC (Str.ofString "law") y L a cd)) Q E s) : wpAny (model PySem.Challenge.rw_kq0016_05.row.prog w) (A₀.deeper (lawEnv L a cd)) (exec st (lawEnv L a cd)) Q E s := by
  unfold lawEnv
  rw [h1, h2]; exact h3
theorem law_litS {w : World} {A₀ : Around} {L a : Addr} {cd : Value} {s : Shared} {E : Value → Shared → Prop} {Q : Flow → Shared → Prop} {st x : List Stmt} {y : Scope} (h1 : st = x) (h2 : lawScope = y)
    (h3 : wpAny (model PySem.Challenge.rw_kq0016_05.row.prog w) A₀ (execs x (envOfC (Str.ofString "law") y L a cd)) Q E s) : wpAny (model PySem.Challenge.rw_kq0016_05.row.prog w) A₀ (execs st (lawEnv L a cd)) Q E s := by
  unfold lawEnv
  rw [h1, h2]; exact h3
theorem cons_lit {α : Type} {a x : α} {l y : List α} (h1 : a = x) (h2 : l = y) : a :: l = x :: y := by rw [h1, h2]
local macro_rules | `(tactic| walk_at "eval Name") => wl 3 "" "eval Expr.Name _ _ @2 compEnvC _ _ _ _ @4 @2" `lcf_cell "abcd_ef" "erfKaabrc3dw" "" "" []
theorem range_map {α : Type} (l : List Int) (g : Int → α) : (List.range l.length).map (fun i => g (l.getD i 0)) = l.map g := by
  apply List.ext_getElem
  · simp
  · intro i h1 h2
    have hi : i < l.length := by simpa using h1
    simp [hi]
theorem s_signs {w : World} {loose : List Str} {mean : ExcName → Option Value} {mg mb : Str → Option Value} {A : Around} {a : Addr} {cd : Value}
    {base : Heap} {L : Addr} {m : Str → Option Value} {s : Shared} {E : Value → Shared → Prop} {Q : Flow → Shared → Prop} {news : List (Addr × Obj)} {oc : Obj} {t2 D : Addr} {tv ws : List Value} {ns : List Int} {nt : Nat}
    (F : Fr base L s.heap m) (X : (hd.heap_1 w.params).In base) (N : News base L s.heap news) (T : Top hd.view_39 loose mean mg mb base) (hh : A.handled = none)
    (hc : (L + 1, oc) ∈ news) (hoc : oc.data = .cell (some (.ref t2))) (ht2 : (t2, W.listOf tv.toArray nt) ∈ news) (htv : StrsAre tv tab8)
    (hm : Has m [(Str.ofString "script", .ref D)]) (hL : base.IsList D ws.toArray) (hI : IntsAre ws ns) (hlen : ns.length ≤ 63)
    (hQ : ∀ h' tk Dg ys n, Fr base L h' (setM m (Str.ofString "signs") (.ref Dg)) → News base L h' ((Dg, W.listOf (List.toArray ys) n) :: news) → StrsAre ys (signs5 ns) → (∀ q ∈ news, q.1 ≠ Dg) → Q .next { s with heap := h', toks := tk }) :
    wpAny (model PySem.Challenge.rw_kq0016_05.row.prog w) A (exec (lawStmt 4) (lawEnv L a cd)) Q E s := by
  have fin : ∀ h' tk Dg ys n, Fr base L h' (fun y => if y = Str.ofString "signs" then some (.ref Dg) else chainOf [(Str.ofString "script", .ref D)] m y) → News base L h' ((Dg, W.listOf (List.toArray ys) n) :: news) → StrsAre ys (signs5 ns) → (∀ q ∈ news, q.1 ≠ Dg) → Q .next { s with heap := h', toks := tk } :=
    fun h' tk Dg ys n F' N' hy o => hQ h' tk Dg ys n (hm.back F') N' hy o
  refine law_lit (by conv => lhs; whnf) (by conv => lhs; whnf) ?_
  have F₁ := hm.fr F
  dsimp only [chainOf] at F₁
  clear F hQ hm
  repeat ((fail_if_success (with_reducible show wpAny _ _ (eval (Expr.ListComp _ _ _ _) _) _ _ _)); first | (k_unfold; (try dsimp only)) | walk1 | (dsimp only; walk1))
  refine LCg.ListComp_U (F₀ := by k_asm) (by with_unfolding_all rfl) (by decide) (by rfl) (by decide) (by rfl) ?_
  generalize hR : LCg.CompSrc _ _ _ _ _ _ _ _ _ _ _ _ = R
  repeat ((fail_if_success (with_reducible (show R _ _))); first | (k_unfold; (try dsimp only)) | walk1 | dsimp only)
  subst hR
  rename_i l0 h₀ l1 D' ws' h₁ F₁ N₁ hI' hC' hL' l2
  have hwl : ws'.length = (ns.take 24).length := hI'.length
  refine LCg.CompSrc.ledger hh F₁ N₁ List.mem_cons_self (by simp only [List.size_toArray, PySem.sizeLine_eq]; omega) ?_
  intro g'
  refine comp_strs (fun i => tab8.getD (((ns.take 24).getD i 0).fmod 8).toNat Str.empty) (.inr ⟨_, List.mem_cons_self, rfl, _, rfl⟩) ?turn ?fin
  case turn =>
    intro i v I oI C oC D'' m₂ ys h tk E' hi hv hC hx F' N'
    have hv' : ws'[i]? = some v := by simpa using hv
    have hi' : i < (ns.take 24).length := by rw [← hwl]; exact (List.getElem?_eq_some_iff.mp hv').1
    obtain ⟨t, ht⟩ := hI'.get i (ns.take 24)[i] (List.getElem?_eq_getElem hi')
    rw [hv'] at ht
    obtain rfl := Option.some.inj ht
    have hg : (ns.take 24).getD i 0 = (ns.take 24)[i] := (List.getElem_eq_getD (h := hi') 0).symm
    rw [hg]
    generalize (ns.take 24)[i] = k at hx hv ht
    clear fin hg hI' hC' hL' hwl hv' hi' l1 l2 N₁ F₁ hI hL
    k_steps
    exact ⟨_, _, _, rfl, rfl, by assumption, by assumption⟩
  case fin =>
    intro ys hy
    have he : (List.range ws'.toArray.size).map (fun i => tab8.getD (((ns.take 24).getD i 0).fmod 8).toNat Str.empty) = (ns.take 24).map fun v => tab8.getD (v.fmod 8).toNat Str.empty := by
      rw [List.size_toArray, hwl]
      exact range_map (ns.take 24) fun v => tab8.getD (v.fmod 8).toNat Str.empty
    rw [he] at hy
    have hyl : ys.length ≤ 24 := by rw [hy.length, List.length_map, List.length_take]; omega
    unfold LCg.FinE
    intro D3 h3 tk3 F3 N3 o3
    clear N₁ F₁
    repeat ((fail_if_success (with_reducible show wpAny _ _ (binaryOp _ _ _) _ _ _)); first | (k_unfold; (try dsimp only)) | walk1 | (dsimp only; walk1))
    refine kmk_add_lit (zs := Value.str (Str.ofString "a") s.toks :: ys) (by k_asm) (by with_reducible assumption) (News.isList (by with_reducible assumption) (List.mem_cons_of_mem _ (List.mem_cons_of_mem _ List.mem_cons_self))) (News.isList (by with_reducible assumption) List.mem_cons_self) rfl ?_ (by rw [PySem.sizeLine_eq]; show 1 + ys.length ≤ _; omega)
    intro D4 h4 F4 N4 l4
    k_steps
    exact fin _ _ D4 _ 0 (by assumption) (fun q hq => (by assumption : News base L _ ((D4, _) :: _ :: _ :: _ :: news)) q (by
      rcases List.mem_cons.mp hq with rfl | hq
      · exact List.mem_cons_self
      · exact List.mem_cons_of_mem _ (List.mem_cons_of_mem _ (List.mem_cons_of_mem _ (List.mem_cons_of_mem _ hq))))) (.cons _ _ hy) (fun q hq => Nat.ne_of_lt (l4 q (List.mem_cons_of_mem _ (List.mem_cons_of_mem _ (List.mem_cons_of_mem _ hq)))))
theorem s_n {w : World} {loose : List Str} {mean : ExcName → Option Value} {mg mb : Str → Option Value} {A : Around} {a : Addr} {cd : Value}
    {base : Heap} {L : Addr} {m : Str → Option Value} {s : Shared} {E : Value → Shared → Prop} {Q : Flow → Shared → Prop} {news : List (Addr × Obj)} {Dg : Addr} {ys : List Value} {ny : Nat} {S : List Str}
    (F : Fr base L s.heap m) (X : (hd.heap_1 w.params).In base) (N : News base L s.heap news) (T : Top hd.view_39 loose mean mg mb base)
    (hm : Has m [(Str.ofString "signs", .ref Dg)]) (hDg : (Dg, W.listOf ys.toArray ny) ∈ news) (hy : StrsAre ys S) (hl : S.length ≤ 100)
    (hQ : ∀ h' tk t n P t2, Fr base L h' (setM (setM m (Str.ofString "n") (.int (S.length : Int) t)) (Str.ofString "places") (.ref P)) → News base L h' ((P, W.listOf (List.toArray [.int 0 t2]) n) :: news) → (∀ q ∈ news, q.1 ≠ P) → Q .next { s with heap := h', toks := tk }) :
    wpAny (model PySem.Challenge.rw_kq0016_05.row.prog w) A (execs [lawStmt 5, lawStmt 6] (lawEnv L a cd)) Q E s := by
  have fin : ∀ h' tk t n P t2, Fr base L h' (fun y => if y = Str.ofString "places" then some (.ref P) else if y = Str.ofString "n" then some (.int (S.length : Int) t) else chainOf [(Str.ofString "signs", .ref Dg)] m y) → News base L h' ((P, W.listOf #[.int 0 t2] n) :: news) → (∀ q ∈ news, @LT.lt Nat _ q.1 P) → Q .next { s with heap := h', toks := tk } :=
    fun h' tk t n P t2 F' N' o => hQ h' tk t n P t2 (hm.back2 F') N' (fun q hq => Nat.ne_of_lt (o q hq))
  have hz : (ys.toArray.size : Int) = (S.length : Int) := by rw [List.size_toArray, hy.length]
  refine law_litS (cons_lit (by conv => lhs; whnf) (cons_lit (by conv => lhs; whnf) rfl)) (by conv => lhs; whnf) ?_
  have F₁ := hm.fr F
  dsimp only [chainOf] at F₁
  clear F hQ hm
  k_steps
  exact fin _ _ _ _ _ _ (by assumption) (by assumption) (by assumption)
end Mine
end

section
open PySem PySem.W PySem.Calls PySem.Spec PyProof.Rows
set_option maxRecDepth 100000
set_option maxHeartbeats 2000000
namespace Mine
theorem anew11 : True := by
  w_top off
  exact True.intro
local macro_rules | `(tactic| walk_at "pad") => `(tactic| fail)
open TI
theorem fillL5B (P : Params) : hd.heap_1 P = hd.heap_1 P ∧ PySem.Challenge.rw_kq0016_05 = PySem.Challenge.rw_kq0016_05 := by
  k_fill
  exact ⟨rfl, rfl⟩
local macro_rules | `(tactic| walk_at "call builtin:list.append") => wl 3 "" "" `append_K "abc_d" "aabacudZ.k" "h' F' N'" "S" []
local macro_rules | `(tactic| walk_at "subscriptTail") => wl 3 "" "subscriptTail _ _ Value.ref _ @1 Value.int _ _ @2 @4" `item_last "abc=_" "aab3cw" "" "" []
def forIter : Stmt → PySem.Expr
  | .For _ i _ _ _ => i
  | _ => default
def forPos : Stmt → Pos
  | .For _ _ _ _ p => p
  | _ => default
def plBody : List Stmt := forBody (lawStmt 7)
theorem mem_swp {α : Type} {a b q : α} {r : List α} (h : q ∈ a :: b :: r) : q ∈ b :: a :: r := by
  rcases List.mem_cons.mp h with rfl | h
  · exact List.mem_cons_of_mem _ List.mem_cons_self
  rcases List.mem_cons.mp h with rfl | h
  · exact List.mem_cons_self
  · exact List.mem_cons_of_mem _ (List.mem_cons_of_mem _ h)
theorem strs_at {vs : List Value} : ∀ {ws : List Str} {i : Nat} {v : Value}, StrsAre vs ws → vs[i]? = some v → ∃ y t, v = .str y t ∧ ws[i]? = some y := by
  induction vs with
  | nil => intro ws i v _ h; simp at h
  | cons z r ih =>
    intro ws i v hs h
    cases hs with
    | cons x t hr =>
      cases i with
      | zero => exact ⟨x, t, by simpa using h.symm, rfl⟩
      | succ i => obtain ⟨y, t', h1, h2⟩ := ih hr (by simpa using h); exact ⟨y, t', h1, by simpa using h2⟩
theorem ints_snoc {y : Int} {t : Tok} : ∀ {vs : List Value} {ys : List Int}, IntsAre vs ys → IntsAre (vs ++ [.int y t]) (ys ++ [y])
  | _, _, .nil => .cons y t .nil
  | _, _, .cons z u r => .cons z u (ints_snoc r)
/-- the places of the first signs -/
def plcs (S : List Str) (k : Nat) : List Int := (List.range (k + 1)).map fun i => ((pl5 S i : Nat) : Int)
theorem plcs_succ (S : List Str) (k : Nat) : plcs S (k + 1) = plcs S k ++ [((pl5 S (k + 1) : Nat) : Int)] := by
  unfold plcs; rw [List.range_succ (n := k + 1), List.map_append]; rfl
theorem plcs_len (S : List Str) (k : Nat) : (plcs S k).length = k + 1 := by unfold plcs; rw [List.length_map, List.length_range]
theorem plcs_last {S : List Str} {k : Nat} {zs : List Value} (h : IntsAre zs (plcs S k)) : ∃ t, zs.getLast? = some (.int ((pl5 S k : Nat) : Int) t) := by
  have hl : zs.length = k + 1 := by rw [h.length, plcs_len]
  have hk : (plcs S k)[k]? = some ((pl5 S k : Nat) : Int) := by unfold plcs; rw [List.getElem?_map, List.getElem?_range (Nat.lt_succ_self k)]; rfl
  obtain ⟨t, ht⟩ := h.get k _ hk
  exact ⟨t, by rw [List.getLast?_eq_getElem?, hl]; exact ht⟩
theorem p_turn {w : World} {loose : List Str} {mean : ExcName → Option Value} {mg mb : Str → Option Value} {A : Around} {a : Addr} {cd : Value}
    {base : Heap} {L : Addr} {m : Str → Option Value} {s : Shared} {E : Value → Shared → Prop} {Q : Flow → Shared → Prop} {rest : List (Addr × Obj)} {y : Str} {yt zt : Tok} {P : Addr} {zs : List Value} {n : Nat} {z : Nat}
    (F : Fr base L s.heap m) (X : (hd.heap_1 w.params).In base) (N : News base L s.heap ((P, W.listOf zs.toArray n) :: rest)) (T : Top hd.view_39 loose mean mg mb base) (oP : ∀ q ∈ rest, q.1 ≠ P) (hm : Has m [(Str.ofString "sign", .str y yt), (Str.ofString "places", .ref P)]) (hz : zs.length ≤ 1000) (hy : y.length ≤ 10) (hlast : zs.getLast? = some (.int (z : Int) zt))
    (hQ : ∀ h' tk t, Fr base L h' m → News base L h' ((P, W.listOf (zs ++ [Value.int ((z + y.length : Nat) : Int) t]).toArray (n + 1)) :: rest) → Q .next { s with heap := h', toks := tk }) :
    wpAny (model PySem.Challenge.rw_kq0016_05.row.prog w) A (execs plBody (lawEnv L a cd)) Q E s := by
  have fin : ∀ h' tk t, Fr base L h' (chainOf [(Str.ofString "sign", .str y yt), (Str.ofString "places", .ref P)] m) → News base L h' ((P, W.listOf (zs.toArray.push (.int ((z : Int) + (y.length : Int)) t)) (n + 1)) :: rest) → Q .next { s with heap := h', toks := tk } := by
    intro h' tk t F' N'
    rw [chain_eq hm] at F'
    rw [List.push_toArray] at N'
    exact hQ h' tk t F' (by rw [show ((z + y.length : Nat) : Int) = (z : Int) + (y.length : Int) by omega]; exact N')
  refine law_litS (by conv => lhs; whnf) (by conv => lhs; whnf) ?_
  have F₁ := hm.fr F
  dsimp only [chainOf] at F₁
  clear F hQ hm
  k_steps
  exact fin _ _ _ (by assumption) (by assumption)
theorem p_loop {w : World} {loose : List Str} {mean : ExcName → Option Value} {mg mb : Str → Option Value} {A : Around} {a : Addr} {cd : Value}
    {base : Heap} {L : Addr} {m : Str → Option Value} {s : Shared} {E : Value → Shared → Prop} {Q : Flow → Shared → Prop} {fixed : List (Addr × Obj)} {P Dg : Addr} {gs : List Value} {n ng : Nat} {S : List Str} {t0 : Tok} {l : List (Str × Value)}
    (F : Fr base L s.heap m) (X : (hd.heap_1 w.params).In base) (N : News base L s.heap ((P, W.listOf (List.toArray [.int 0 t0]) n) :: fixed)) (T : Top hd.view_39 loose mean mg mb base) (hh : A.handled = none) (oP : ∀ q ∈ fixed, q.1 ≠ P)
    (hm : Has m [(Str.ofString "signs", .ref Dg), (Str.ofString "places", .ref P)]) (hml : Has m l) (hl : l.all (fun p => p.1 != Str.ofString "sign") = true)
    (hDg : (Dg, W.listOf gs.toArray ng) ∈ fixed) (hgs : StrsAre gs S) (hS : ∀ y ∈ S, y.length ≤ 10) (hSl : S.length ≤ 100)
    (hE : PassesOwn (model PySem.Challenge.rw_kq0016_05.row.prog w) A (lawEnv L a cd) E)
    (hQ : ∀ h' tk m' zs n', Has m' l → Fr base L h' m' → News base L h' ((P, W.listOf (List.toArray zs) n') :: fixed) → IntsAre zs (plcs S S.length) → Q .next { s with heap := h', toks := tk }) :
    wpAny (model PySem.Challenge.rw_kq0016_05.row.prog w) A (exec (lawStmt 7) (lawEnv L a cd)) Q E s := by
  have key : ∀ h' tk, Fr base L h' m → News base L h' ((P, W.listOf (List.toArray [.int 0 t0]) n) :: fixed) →
      wpAny (model PySem.Challenge.rw_kq0016_05.row.prog w) A (pyIter (.ref Dg)) (fun it s₂ => LoopAtV PySem.Challenge.rw_kq0016_05.row.prog w A base (lawEnv L a cd) (Str.ofString "sign") plBody Q E it s₂) E { s with heap := h', toks := tk } := by
    intro h' tk F' N'
    refine iter_grow (env := lawEnv L a cd) (s := { s with heap := h', toks := tk }) (fun i m₁ news₁ => ∃ zs n', news₁ = (P, W.listOf (List.toArray zs) n') :: fixed ∧ IntsAre zs (plcs S i) ∧ Has m₁ [(Str.ofString "places", .ref P)] ∧ Has m₁ l)
      hh (List.mem_cons_of_mem _ hDg) F' N' ⟨[.int 0 t0], n, rfl, .cons 0 t0 .nil, (by repeat (with_reducible first | exact Has.nil | refine Has.consM hm (by repeat (with_reducible first | exact List.mem_cons_self | apply List.mem_cons_of_mem)) ?_)), hml⟩ ?_ ?_
    · rintro i v m₁ news₁ h₁ tk₁ I oI hv hin ⟨zs, n', rfl, hzs, hm₁, hml₁⟩ hoff F₁ N₁
      obtain ⟨y, t, rfl, hy⟩ := strs_at hgs hv
      have hi := (List.getElem?_eq_some_iff.mp hy).1
      have hzl : zs.length = i + 1 := by rw [hzs.length, plcs_len]
      obtain ⟨zt, hlast⟩ := plcs_last hzs
      have hPI : P ≠ I := hoff (P, _) List.mem_cons_self
      have H1 : Has (fun z => if z = Str.ofString "sign" then some (Value.str y t) else m₁ z) [(Str.ofString "sign", .str y t), (Str.ofString "places", .ref P)] := hm₁.put (by kernel_rfl)
      have L1 : Has (fun z => if z = Str.ofString "sign" then some (Value.str y t) else m₁ z) l := hml₁.set hl
      generalize (fun z => if z = Str.ofString "sign" then some (Value.str y t) else m₁ z) = m2 at F₁ H1 L1
      refine p_turn (s := { s with heap := h₁, toks := tk₁ }) (rest := (I, oI) :: fixed) F₁ X (fun q hq => N₁ q (mem_swp hq)) T (fun q hq => ?_) H1 (by omega) (hS y (List.mem_of_getElem? hy)) hlast (fun h3 tk3 t3 F3 N3 => ?_)
      · rcases List.mem_cons.mp hq with rfl | hq
        · exact Ne.symm hPI
        · exact oP q hq
      · refine ⟨h3, tk3, m2, _, rfl, F3, fun q hq => N3 q (mem_swp hq), ?_, List.mem_cons_of_mem _ hDg, zs ++ [Value.int ((pl5 S i + y.length : Nat) : Int) t3], n' + 1, rfl, ?_, (by repeat (with_reducible first | exact Has.nil | refine Has.consM H1 (by repeat (with_reducible first | exact List.mem_cons_self | apply List.mem_cons_of_mem)) ?_)), L1⟩
        · intro q hq
          rcases List.mem_cons.mp hq with rfl | hq
          · exact hPI
          · exact hoff q (List.mem_cons_of_mem _ hq)
        · rw [plcs_succ, pl5_succ hy]; exact ints_snoc hzs
    · rintro m₁ news₁ h₁ tk₁ ⟨zs, n', rfl, hzs, hm₁, hml₁⟩ F₁ N₁
      rw [hgs.length] at hzs
      exact hQ h₁ tk₁ m₁ zs n' hml₁ F₁ N₁ hzs
  obtain ⟨px, hst⟩ : ∃ px, lawStmt 7 = .For (.Name (Str.ofString "sign") px) (forIter (lawStmt 7)) plBody [] (forPos (lawStmt 7)) := ⟨_, rfl⟩
  rw [hst]
  refine For_invVF F (by rfl) (by rfl) ?_ (by intro _; rfl) hE
  have ev : ∀ (R : Value → Shared → Prop) x y, forIter (lawStmt 7) = x → lawScope = y → wpAny (model PySem.Challenge.rw_kq0016_05.row.prog w) A (eval x (envOfC (Str.ofString "law") y L a cd)) R E s → wpAny (model PySem.Challenge.rw_kq0016_05.row.prog w) A (eval (forIter (lawStmt 7)) (lawEnv L a cd)) R E s := by
    intro R x y h1 h2 h3
    unfold lawEnv
    rw [h1, h2]; exact h3
  refine ev _ _ _ (by conv => lhs; whnf) (by conv => lhs; whnf) ?_
  clear ev hst hE
  have hm0 : Has m [(Str.ofString "signs", .ref Dg)] := (by repeat (with_reducible first | exact Has.nil | refine Has.consM hm (by repeat (with_reducible first | exact List.mem_cons_self | apply List.mem_cons_of_mem)) ?_))
  have F₁ := hm0.fr F
  dsimp only [chainOf] at F₁
  have hF : (fun y => if y = Str.ofString "signs" then some (Value.ref Dg) else m y) = m := chain_eq hm0
  rw [← hF] at key
  clear F hF
  generalize hR : (fun xv s₁ => wpAny (model PySem.Challenge.rw_kq0016_05.row.prog w) _ (pyIter xv) _ E s₁) = R
  repeat ((fail_if_success (with_reducible (show R _ _))); first | (k_unfold; (try dsimp only)) | walk1 | dsimp only)
  subst hR
  exact key _ _ (by assumption) (by assumption)
end Mine
end

local macro_rules | `(tactic| walk_at "call builtin:str.join") => wl 3 "" "" `join_strs "abcde_" "aab3cwdwew" "t' k'" "" []
section
open PySem PySem.W PySem.Calls PySem.Spec PyProof.Rows
set_option maxRecDepth 100000
set_option maxHeartbeats 2000000
namespace Mine
theorem anew12 : True := by
  w_top off
  exact True.intro
local macro_rules | `(tactic| walk_at "pad") => `(tactic| fail)
open TI
theorem fillL5C (P : Params) : hd.heap_1 P = hd.heap_1 P ∧ PySem.Challenge.rw_kq0016_05 = PySem.Challenge.rw_kq0016_05 := by
  k_fill
  exact ⟨rfl, rfl⟩
theorem str_nil (x : Str) : x ++ Str.ofString "" = x := by
  refine str_ext ?_
  rw [app_cps]; show _ ++ [] = _; rw [List.append_nil]
theorem s_lone {w : World} {loose : List Str} {mean : ExcName → Option Value} {mg mb : Str → Option Value} {A : Around} {a : Addr} {cd : Value}
    {base : Heap} {L : Addr} {m : Str → Option Value} {s : Shared} {E : Value → Shared → Prop} {Q : Flow → Shared → Prop} {news : List (Addr × Obj)} {z : Int} {zt : Tok}
    (F : Fr base L s.heap m) (X : (hd.heap_1 w.params).In base) (N : News base L s.heap news) (T : Top hd.view_39 loose mean mg mb base)
    (hm : Has m [(Str.ofString "total", .int z zt)])
    (hQ : ∀ h' tk, Fr base L h' (setM m (Str.ofString "lone") (.bool ((z.fdiv 2).fmod 3 == 0))) → News base L h' news → Q .next { s with heap := h', toks := tk }) :
    wpAny (model PySem.Challenge.rw_kq0016_05.row.prog w) A (exec (lawStmt 8) (lawEnv L a cd)) Q E s := by
  have fin : ∀ h' tk v, v = ((z.fdiv 2).fmod 3 == 0) → Fr base L h' (fun y => if y = Str.ofString "lone" then some (.bool v) else chainOf [(Str.ofString "total", .int z zt)] m y) → News base L h' news → Q .next { s with heap := h', toks := tk } := by
    intro h' tk v hv F' N'
    subst hv
    exact hQ h' tk (hm.back F') N'
  refine law_lit (by conv => lhs; whnf) (by conv => lhs; whnf) ?_
  have F₁ := hm.fr F
  dsimp only [chainOf] at F₁
  clear F hQ hm
  k_steps
  exact fin _ _ _ rfl (by assumption) (by assumption)
theorem s_text {w : World} {loose : List Str} {mean : ExcName → Option Value} {mg mb : Str → Option Value} {A : Around} {a : Addr} {cd : Value}
    {base : Heap} {L : Addr} {m : Str → Option Value} {s : Shared} {E : Value → Shared → Prop} {Q : Flow → Shared → Prop} {news : List (Addr × Obj)} {Dg : Addr} {ys : List Value} {ny : Nat} {S : List Str} {lo : Bool}
    (F : Fr base L s.heap m) (X : (hd.heap_1 w.params).In base) (N : News base L s.heap news) (T : Top hd.view_39 loose mean mg mb base)
    (hm : Has m [(Str.ofString "signs", .ref Dg), (Str.ofString "lone", .bool lo)]) (hDg : (Dg, W.listOf ys.toArray ny) ∈ news) (hy : StrsAre ys S) (hb : ∀ x ∈ S, x.length ≤ 10) (hl : S.length ≤ 1000) (hc : (cat S).length ≤ 1000)
    (hQ : ∀ h' tk t, Fr base L h' (setM m (Str.ofString "text") (.str (text5 lo S) t)) → News base L h' news → Q .next { s with heap := h', toks := tk }) :
    wpAny (model PySem.Challenge.rw_kq0016_05.row.prog w) A (exec (lawStmt 9) (lawEnv L a cd)) Q E s := by
  have fin : ∀ h' tk t v, v = text5 lo S → Fr base L h' (fun y => if y = Str.ofString "text" then some (.str v t) else chainOf [(Str.ofString "signs", .ref Dg), (Str.ofString "lone", .bool lo)] m y) → News base L h' news → Q .next { s with heap := h', toks := tk } := by
    intro h' tk t v hv F' N'
    subst hv
    exact hQ h' tk t (hm.back F') N'
  refine law_lit (by conv => lhs; whnf) (by conv => lhs; whnf) ?_
  have F₁ := hm.fr F
  dsimp only [chainOf] at F₁
  clear F hQ hm
  cases lo
  · k_steps
    exact fin _ _ _ _ (str_nil _) (by assumption) (by assumption)
  · k_steps
    exact fin _ _ _ _ rfl (by assumption) (by assumption)
local macro_rules | `(tactic| walk_at "call type:bytes") => wl 3 "" "call Value.type 'bytes @1 Value.ref _ @1 [1 @2" `KBa.make_K "___a_b__" ".1aBbA.2" "h' t' k' F' N' hin'" "" []
local macro_rules | `(tactic| walk_at "call builtin:ord") => wl 1 "" "call Value.builtin 'ord @1 Value.str _ _ @2 [1 @2" `ord_of_one "'r_" "" "" "" []
theorem r_given {w : World} {loose : List Str} {mean : ExcName → Option Value} {mg mb : Str → Option Value} {A : Around} {a : Addr} {cd : Value}
    {base : Heap} {L : Addr} {m : Str → Option Value} {s : Shared} {E : Value → Shared → Prop} {Q : Flow → Shared → Prop} {news : List (Addr × Obj)} {b : Bool} {D : Str} {Dt : Tok}
    (F : Fr base L s.heap m) (X : (hd.heap_1 w.params).In base) (N : News base L s.heap news) (T : Top hd.view_39 loose mean mg mb base) (hh : A.handled = none)
    (hm : Has m [(Str.ofString "octets", .bool (!b)), (Str.ofString "text", .str D Dt)]) (hD : D.length ≤ 2000) (h256 : ∀ c ∈ D.cps.toList, c < 256)
    (hQ : ∀ h' tk gv, GivenIs b gv D → Fr base L h' (setM m (Str.ofString "given") gv) → News base L h' news → Q .next { s with heap := h', toks := tk }) :
    wpAny (model PySem.Challenge.rw_kq0016_05.row.prog w) A (exec (lawStmt 10) (lawEnv L a cd)) Q E s := by
  have fin : ∀ h' tk gv, GivenIs b gv D → Fr base L h' (fun y => if y = Str.ofString "given" then some gv else chainOf [(Str.ofString "octets", .bool (!b)), (Str.ofString "text", .str D Dt)] m y) → News base L h' news → Q .next { s with heap := h', toks := tk } :=
    fun h' tk gv g F' N' => hQ h' tk gv g (hm.back F') N'
  refine law_lit (by conv => lhs; whnf) (by conv => lhs; whnf) ?_
  have F₁ := hm.fr F
  dsimp only [chainOf] at F₁
  clear F hQ hm
  have hsz : D.cps.size ≤ 2000 := hD
  cases b
  · repeat ((fail_if_success (with_reducible show wpAny _ _ (eval (Expr.ListComp _ _ _ _) _) _ _ _)); first | (k_unfold; (try dsimp only)) | walk1 | (dsimp only; walk1))
    refine comp_text (X := D) (t := Dt) (cl := []) (news := news) (by assumption) (by rfl) (by decide) (by rfl) (by decide) (by rfl) hh (by rw [sizeLine_eq]; omega) ?_
    k_steps
    · assumption
    · assumption
    · rename_i s₂ hs₂
      obtain ⟨h2, rfl⟩ := hs₂
      refine comp_ints (fun i => ((D.cps.getD i 0 : Nat) : Int)) trivial ?turn ?fin
      case turn =>
        intro i v I oI C oC D' m₂ ys h tk E' hi hv hC hx F' N'
        obtain ⟨c, u, hc, rfl⟩ := hv
        have hcv : D.cps.getD i 0 = c := by
          unfold Array.getD
          have : D.cps[i] = c := by rw [Array.getElem?_eq_getElem hi] at hc; exact Option.some.inj hc
          simp [hi, this]
        rw [hcv]
        k_steps
        exact ⟨_, _, _, rfl, rfl, by assumption, by assumption⟩
      case fin =>
        intro ys hI
        rw [range_codes] at hI
        unfold LCg.FinE
        intro D' h' tk' F' N' o1
        have hin := codes_in h256
        have hcl : (codes D).length ≤ 16777216 := by have : (codes D).length = D.cps.size := by simp [codes]
                                                     omega
        k_steps
        exact fin _ _ _ (.inr ⟨rfl, _, _, rfl, nums_codes h256⟩) (by assumption) (fun q hq => (by assumption : News base L _ ((_, LCg.lst ys) :: news)) q (List.mem_cons_of_mem _ hq))
  · k_steps
    exact fin _ _ _ (.inl ⟨rfl, _, rfl⟩) (by assumption) (by assumption)
local macro_rules | `(tactic| walk_at "call ref") => wl 3 "" "call Value.ref #144 @1 _ @2" `whole_cI "____a_b___" ".1anb5.2" "h' tk' T' tp' tl' tc' tw' F' N' o1'" "67" ["Sh.le !w !d @2", "^neN $o1' _ List.mem_cons_self @2 @1", "^neN $o1' _ List.mem_cons_of_mem _ List.mem_cons_self @2 @2 @1"]
theorem s_stuck {w : World} {loose : List Str} {mean : ExcName → Option Value} {mg mb : Str → Option Value} {A : Around} {a : Addr} {cd : Value}
    {base : Heap} {L : Addr} {m : Str → Option Value} {s : Shared} {E : Value → Shared → Prop} {Q : Flow → Shared → Prop} {news : List (Addr × Obj)} {D : Str} {Dt : Tok} {gv : Value}
    (F : Fr base L s.heap m) (X : (hd.heap_1 w.params).In base) (N : News base L s.heap news) (T : Top hd.view_39 loose mean mg mb base) (hd' : A.depth + 4 < recursionLimit)
    (hm : Has m [(Str.ofString "text", .str D Dt), (Str.ofString "given", gv)]) (hD : D.length ≤ 2000) (hD1 : 1 ≤ D.length)
    (hQ : ∀ h' tk Tw u1 u2 u3 u4 u5, Fr base L h' (setM m (Str.ofString "stuck") (.ref Tw)) → News base L h' ((Tw, wholeO (Str.ofString "bad escape (end of pattern)") gv D.cps.toList ((D.length : Int) - 1) u1 u2 u3 u4 u5) :: news) → (∀ q ∈ news, q.1 ≠ Tw) → Q .next { s with heap := h', toks := tk }) :
    wpAny (model PySem.Challenge.rw_kq0016_05.row.prog w) A (exec (lawStmt 11) (lawEnv L a cd)) Q E s := by
  have fin : ∀ h' tk Tw u1 u2 u3 u4 u5, Fr base L h' (fun y => if y = Str.ofString "stuck" then some (.ref Tw) else chainOf [(Str.ofString "text", .str D Dt), (Str.ofString "given", gv)] m y) → News base L h' ((Tw, wholeO (Str.ofString "bad escape (end of pattern)") gv D.cps.toList ((D.length : Int) - 1) u1 u2 u3 u4 u5) :: news) → (∀ q ∈ news, q.1 ≠ Tw) → Q .next { s with heap := h', toks := tk } :=
    fun h' tk Tw u1 u2 u3 u4 u5 F' N' o => hQ h' tk Tw u1 u2 u3 u4 u5 (hm.back F') N' o
  have shb : Sh 100 (Str.ofString "bad escape (end of pattern)") := by unfold Sh; decide +kernel
  refine law_lit (by conv => lhs; whnf) (by conv => lhs; whnf) ?_
  have F₁ := hm.fr F
  dsimp only [chainOf] at F₁
  clear F hQ hm
  k_steps
  exact fin _ _ _ _ _ _ _ _ (by assumption) (by assumption) (by assumption)
theorem s_top {w : World} {loose : List Str} {mean : ExcName → Option Value} {mg mb : Str → Option Value} {A : Around} {a : Addr} {cd : Value}
    {base : Heap} {L : Addr} {m : Str → Option Value} {s : Shared} {E : Value → Shared → Prop} {Q : Flow → Shared → Prop} {news : List (Addr × Obj)} {n : Nat} {nt : Tok} {lo : Bool}
    (F : Fr base L s.heap m) (X : (hd.heap_1 w.params).In base) (N : News base L s.heap news) (T : Top hd.view_39 loose mean mg mb base) (hn : 1 ≤ n)
    (hm : Has m [(Str.ofString "n", .int (n : Int) nt), (Str.ofString "lone", .bool lo)])
    (hQ : ∀ h' tk t, Fr base L h' (setM m (Str.ofString "top") (.int ((if lo then n - 1 else n : Nat) : Int) t)) → News base L h' news → Q .next { s with heap := h', toks := tk }) :
    wpAny (model PySem.Challenge.rw_kq0016_05.row.prog w) A (exec (lawStmt 12) (lawEnv L a cd)) Q E s := by
  have fin : ∀ h' tk t v, v = ((if lo then n - 1 else n : Nat) : Int) → Fr base L h' (fun y => if y = Str.ofString "top" then some (.int v t) else chainOf [(Str.ofString "n", .int (n : Int) nt), (Str.ofString "lone", .bool lo)] m y) → News base L h' news → Q .next { s with heap := h', toks := tk } := by
    intro h' tk t v hv F' N'
    subst hv
    exact hQ h' tk t (hm.back F') N'
  refine law_lit (by conv => lhs; whnf) (by conv => lhs; whnf) ?_
  have F₁ := hm.fr F
  dsimp only [chainOf] at F₁
  clear F hQ hm
  cases lo
  · k_steps
    exact fin _ _ _ _ rfl (by assumption) (by assumption)
  · k_steps
    refine fin _ _ _ _ ?_ (by assumption) (by assumption)
    show (n : Int) - 1 = ((n - 1 : Nat) : Int)
    omega
theorem r_source {w : World} {loose : List Str} {mean : ExcName → Option Value} {mg mb : Str → Option Value} {A₀ : Around} {a : Addr} {cd : Value}
    {base : Heap} {L : Addr} {m : Str → Option Value} {s : Shared} {E : Value → Shared → Prop} {Q : Flow → Shared → Prop} {news : List (Addr × Obj)} {b lo : Bool} {gv : Value} {D : Str} {sgs : List Str}
    (F : Fr base L s.heap m) (X : (hd.heap_1 w.params).In base) (N : News base L s.heap news) (T : Top hd.view_39 loose mean mg mb base) (hA₀ : A₀.frames = some []) (hh₀ : A₀.handled = none) (hd' : A₀.depth + 30 < recursionLimit)
    (hm : Has m [(Str.ofString "given", gv)]) (hD : D.length ≤ 2000) (hs : SignsX lo D 0 sgs) (hne : sgs ≠ []) (hg : GivenIs b gv D)
    (hQ : ∀ h' tk x dx k1 k2 k3 k4 k5 gv' dt' (i' : Nat) it' nv', GivenIs b gv' D → (∀ u v, SameV u gv' → SameV v gv → SameV u v) → Fr base L h' (setM m (Str.ofString "source") (.ref x)) → News base L h' ((x, instObj 133 dx) :: (dx, tokD w.params k1 k2 k3 k4 k5 b gv' (.str D dt') (.int i' it') nv') :: news) → RdX lo D i' nv' 0 sgs → i' ≤ 3000 → (∀ q ∈ news, q.1 ≠ dx) → Q .next { s with heap := h', toks := tk }) :
    wpAny (model PySem.Challenge.rw_kq0016_05.row.prog w) (A₀.deeper (lawEnv L a cd)) (exec (lawStmt 13) (lawEnv L a cd)) Q E s := by
  have fin : ∀ h' tk x dx k1 k2 k3 k4 k5 gv' dt' (i' : Nat) it' nv', GivenIs b gv' D → (∀ u v, SameV u gv' → SameV v gv → SameV u v) → Fr base L h' (fun y => if y = Str.ofString "source" then some (.ref x) else chainOf [(Str.ofString "given", gv)] m y) → News base L h' ((x, instObj 133 dx) :: (dx, tokD w.params k1 k2 k3 k4 k5 b gv' (.str D dt') (.int i' it') nv') :: news) → RdX lo D i' nv' 0 sgs → i' ≤ 3000 → (∀ q ∈ news, q.1 ≠ dx) → Q .next { s with heap := h', toks := tk } := by
    intro h' tk x dx k1 k2 k3 k4 k5 gv' dt' i' it' nv' g1 g2 F' N' R' b' o1
    exact hQ h' tk x dx k1 k2 k3 k4 k5 gv' dt' i' it' nv' g1 g2 (hm.back F') N' R' b' o1
  refine law_lit2 (by conv => lhs; whnf) (by conv => lhs; whnf) ?_
  have F₁ := hm.fr F
  dsimp only [chainOf] at F₁
  clear F hQ hm
  k_steps
  refine new_c (by k_asm) X (by with_reducible assumption) T ?hcs (Around.frames_deeper hA₀) ?hh ?d hD hs hg ?hQ ?hE
  case hcs => exact EvAt.ofC rfl
  case hh => exact hh₀
  case d => show A₀.depth + 1 + 20 < recursionLimit; omega
  case hE => exact fun z => absurd z hne
  case hQ =>
    intro _ h' tk x dx k1 k2 k3 k4 k5 gv' dt' i' it' nv' g1 g2 F' N' R' b' o1
    clear N
    k_steps
    exact fin _ _ x dx k1 k2 k3 k4 k5 gv' dt' i' it' nv' g1 g2 (by assumption) (by assumption) R' b' o1
theorem s_at {w : World} {loose : List Str} {mean : ExcName → Option Value} {mg mb : Str → Option Value} {A : Around} {a : Addr} {cd : Value}
    {base : Heap} {L : Addr} {m : Str → Option Value} {s : Shared} {E : Value → Shared → Prop} {Q : Flow → Shared → Prop} {news : List (Addr × Obj)}
    (F : Fr base L s.heap m) (X : (hd.heap_1 w.params).In base) (N : News base L s.heap news) (T : Top hd.view_39 loose mean mg mb base)
    (hQ : ∀ h' tk t, Fr base L h' (setM m (Str.ofString "at") (.int 0 t)) → News base L h' news → Q .next { s with heap := h', toks := tk }) :
    wpAny (model PySem.Challenge.rw_kq0016_05.row.prog w) A (exec (lawStmt 14) (lawEnv L a cd)) Q E s := by
  refine law_lit (by conv => lhs; whnf) (by conv => lhs; whnf) ?_
  k_steps
  exact hQ _ _ _ (by assumption) (by assumption)
theorem s_deeds {w : World} {loose : List Str} {mean : ExcName → Option Value} {mg mb : Str → Option Value} {A : Around} {a : Addr} {cd : Value}
    {base : Heap} {L : Addr} {m : Str → Option Value} {s : Shared} {E : Value → Shared → Prop} {Q : Flow → Shared → Prop} {news : List (Addr × Obj)} {D : Addr} {ws : List Value} {ns : List Int}
    (F : Fr base L s.heap m) (X : (hd.heap_1 w.params).In base) (N : News base L s.heap news) (T : Top hd.view_39 loose mean mg mb base) (hh : A.handled = none)
    (hm : Has m [(Str.ofString "script", .ref D)]) (hL : base.IsList D ws.toArray) (hI : IntsAre ws ns) (hlen : ns.length ≤ 63)
    (hQ : ∀ h' tk Dd dv ds n, IntsAre dv ds → ds.length ≤ 40 → Fr base L h' (setM m (Str.ofString "deeds") (.ref Dd)) → News base L h' ((Dd, W.listOf (List.toArray dv) n) :: news) → (∀ q ∈ news, q.1 ≠ Dd) → Q .next { s with heap := h', toks := tk }) :
    wpAny (model PySem.Challenge.rw_kq0016_05.row.prog w) A (exec (lawStmt 15) (lawEnv L a cd)) Q E s := by
  have fin : ∀ h' tk Dd dv ds n, IntsAre dv ds → ds.length ≤ 40 → Fr base L h' (fun y => if y = Str.ofString "deeds" then some (.ref Dd) else chainOf [(Str.ofString "script", .ref D)] m y) → News base L h' ((Dd, W.listOf (List.toArray dv) n) :: news) → (∀ q ∈ news, q.1 ≠ Dd) → Q .next { s with heap := h', toks := tk } :=
    fun h' tk Dd dv ds n hi hl F' N' o => hQ h' tk Dd dv ds n hi hl (hm.back F') N' o
  refine law_lit (by conv => lhs; whnf) (by conv => lhs; whnf) ?_
  have F₁ := hm.fr F
  dsimp only [chainOf] at F₁
  clear F hQ hm
  repeat ((fail_if_success (with_reducible show wpAny _ _ (truthy _) _ _ _)); first | (k_unfold; (try dsimp only)) | walk1 | (dsimp only; walk1))
  rename_i D' ws' h₁ F₁ N₁ l1 hI' hC' hL'
  have hwl : ws'.length ≤ 40 := by rw [hI'.length]; omega
  by_cases hns : ws' = []
  · have hE : (!ws'.isEmpty) = false := by rw [hns]; rfl
    refine truthy_at N₁ List.mem_cons_self (by omega) hE ?_
    intro k
    k_steps
    refine fin _ _ _ [_, _] [0, 2] 0 (.cons _ _ (.cons _ _ .nil)) (by decide) (by assumption) (fun q hq => (by assumption : News base L _ (_ :: (D', _) :: news)) q (by
      rcases List.mem_cons.mp hq with rfl | hq
      · exact List.mem_cons_self
      · exact List.mem_cons_of_mem _ (List.mem_cons_of_mem _ hq))) ?_
    have l2 := (by assumption : @LT.lt Nat _ D' _ ∧ AllLt _ news)
    exact allLt_ne l2.2
  · have hE : (!ws'.isEmpty) = true := by
      cases ws' with
      | nil => exact absurd rfl hns
      | cons _ _ => rfl
    refine truthy_at N₁ List.mem_cons_self (by omega) hE ?_
    intro k
    k_steps
    exact fin _ _ D' ws' (ns.take 40) 0 hI' (by rw [List.length_take]; omega) (by assumption) (by assumption) (fun q hq => Nat.ne_of_lt (l1 q hq))
end Mine
end

local macro_rules | `(tactic| walk_at "subscriptTail") => wl 3 "" "subscriptTail _ _ Value.ref _ @1 Value.int _ _ @2 @4" `str_itemE "abcdefg_" "aab3cwdweofogw" "tk'" "" []
section
open PySem PySem.W PySem.Calls PySem.Spec PyProof.Rows
set_option maxRecDepth 100000
set_option maxHeartbeats 2000000
namespace Mine
theorem anew13 : True := by
  w_top off
  exact True.intro
open TI
theorem fillL5D (P : Params) : hd.heap_1 P = hd.heap_1 P ∧ PySem.Challenge.rw_kq0016_05 = PySem.Challenge.rw_kq0016_05 := by
  k_fill
  exact ⟨rfl, rfl⟩
def turnBody : List Stmt := forBody (lawStmt 16)
def tStmt (k : Nat) : Stmt := turnBody.getD k default
theorem d_a {w : World} {loose : List Str} {mean : ExcName → Option Value} {mg mb : Str → Option Value} {A : Around} {a : Addr} {cd : Value}
    {base : Heap} {L : Addr} {m : Str → Option Value} {s : Shared} {E : Value → Shared → Prop} {Q : Flow → Shared → Prop} {news : List (Addr × Obj)} {oc : Obj} {t2 : Addr} {tv : List Value} {nt k : Nat} {v : Int} {kt vt : Tok}
    (F : Fr base L s.heap m) (X : (hd.heap_1 w.params).In base) (N : News base L s.heap news) (T : Top hd.view_39 loose mean mg mb base)
    (hc : (L + 1, oc) ∈ news) (hoc : oc.data = .cell (some (.ref t2))) (ht2 : (t2, W.listOf tv.toArray nt) ∈ news) (htv : StrsAre tv tab8) (hm : Has m [(Str.ofString "k", .int (k : Int) kt), (Str.ofString "v", .int v vt)])
    (hQ : ∀ h' tk t1 t2 t3, Fr base L h' (setM (setM (setM m (Str.ofString "deed") (.int ((v + (k : Int)).fmod 6) t1)) (Str.ofString "more") (.int (v.fdiv 6 + (k : Int)) t2)) (Str.ofString "sign") (.str (tab8.getD ((v.fdiv 6 + (k : Int)).fmod 8).toNat Str.empty) t3)) → News base L h' news → Q .next { s with heap := h', toks := tk }) :
    wpAny (model PySem.Challenge.rw_kq0016_05.row.prog w) A (execs [tStmt 0, tStmt 1, tStmt 2] (lawEnv L a cd)) Q E s := by
  have fin : ∀ h' tk t1 t2 t3, Fr base L h' (fun y => if y = Str.ofString "sign" then some (.str (tab8.getD ((v.fdiv 6 + (k : Int)).fmod 8).toNat Str.empty) t3) else if y = Str.ofString "more" then some (.int (v.fdiv 6 + (k : Int)) t2) else if y = Str.ofString "deed" then some (.int ((v + (k : Int)).fmod 6) t1) else chainOf [(Str.ofString "k", .int (k : Int) kt), (Str.ofString "v", .int v vt)] m y) → News base L h' news → Q .next { s with heap := h', toks := tk } := by
    intro h' tk t1 t2 t3 F' N'
    rw [chain_eq hm] at F'
    exact hQ h' tk t1 t2 t3 F' N'
  refine law_litS (cons_lit (by conv => lhs; whnf) (cons_lit (by conv => lhs; whnf) (cons_lit (by conv => lhs; whnf) rfl))) (by conv => lhs; whnf) ?_
  have F₁ := hm.fr F
  dsimp only [chainOf] at F₁
  clear F hQ hm
  k_steps
  exact fin _ _ _ _ _ (by assumption) (by assumption)
theorem d_b {w : World} {loose : List Str} {mean : ExcName → Option Value} {mg mb : Str → Option Value} {A : Around} {a : Addr} {cd : Value}
    {base : Heap} {L : Addr} {m : Str → Option Value} {s : Shared} {E : Value → Shared → Prop} {Q : Flow → Shared → Prop} {news : List (Addr × Obj)} {Dg : Addr} {ys : List Value} {ny q : Nat} {S : List Str} {d mo : Int} {y0 : Str} {dt mt qt nt yt : Tok}
    (F : Fr base L s.heap m) (X : (hd.heap_1 w.params).In base) (N : News base L s.heap news) (T : Top hd.view_39 loose mean mg mb base)
    (hm : Has m [(Str.ofString "deed", .int d dt), (Str.ofString "more", .int mo mt), (Str.ofString "at", .int (q : Int) qt), (Str.ofString "n", .int (S.length : Int) nt), (Str.ofString "signs", .ref Dg), (Str.ofString "sign", .str y0 yt)]) (hDg : (Dg, W.listOf ys.toArray ny) ∈ news) (hy : StrsAre ys S) (hSl : S.length ≤ 1000)
    (hQ : ∀ h' tk m' y t, (y = y0 ∨ (d = 1 ∧ S[q]? = some y)) → m' (Str.ofString "sign") = some (.str y t) → (∀ z, z ≠ Str.ofString "sign" → m' z = m z) → Fr base L h' m' → News base L h' news → Q .next { s with heap := h', toks := tk }) :
    wpAny (model PySem.Challenge.rw_kq0016_05.row.prog w) A (exec (tStmt 3) (lawEnv L a cd)) Q E s := by
  have finA : ∀ h' tk, Fr base L h' (chainOf [(Str.ofString "deed", .int d dt), (Str.ofString "more", .int mo mt), (Str.ofString "at", .int (q : Int) qt), (Str.ofString "n", .int (S.length : Int) nt), (Str.ofString "signs", .ref Dg), (Str.ofString "sign", .str y0 yt)] m) → News base L h' news → Q .next { s with heap := h', toks := tk } := by
    intro h' tk F' N'
    rw [chain_eq hm] at F'
    exact hQ h' tk m y0 yt (.inl rfl) (hm.get (by simp)) (fun _ _ => rfl) F' N'
  have finB : ∀ y, d = 1 → S[q]? = some y → ∀ h' tk t, Fr base L h' (fun z => if z = Str.ofString "sign" then some (.str y t) else chainOf [(Str.ofString "deed", .int d dt), (Str.ofString "more", .int mo mt), (Str.ofString "at", .int (q : Int) qt), (Str.ofString "n", .int (S.length : Int) nt), (Str.ofString "signs", .ref Dg), (Str.ofString "sign", .str y0 yt)] m z) → News base L h' news → Q .next { s with heap := h', toks := tk } := by
    intro y h1 h2 h' tk t F' N'
    exact hQ h' tk _ y t (.inr ⟨h1, h2⟩) (if_pos rfl) (fun z hz => if_neg hz) (hm.back F') N'
  have hq0 : (0 : Int) ≤ (q : Int) := Int.natCast_nonneg q
  refine law_lit (by conv => lhs; whnf) (by conv => lhs; whnf) ?_
  have F₁ := hm.fr F
  dsimp only [chainOf] at F₁
  clear F hQ hm
  by_cases h1 : d = 1
  · have c1 : (d == 1) = true := by simpa using h1
    by_cases h2 : mo.fmod 3 = 0
    · have c2 : (mo.fmod 3 == 0) = true := by simpa using h2
      by_cases h3 : q < S.length
      · have c3 : (q : Int) < (S.length : Int) := by omega
        obtain ⟨y, hy1, hy2⟩ : ∃ y, S[q]? = some y ∧ S.getD (q : Int).toNat Str.empty = y := ⟨S[q], List.getElem?_eq_getElem h3, by rw [Int.toNat_natCast]; exact (List.getElem_eq_getD (h := h3) _).symm⟩
        k_steps
        all_goals first | (exact finB y h1 hy1 _ _ _ (by assumption) (by assumption)) | (exfalso; omega) | (exfalso; simp_all; done)
      · have c3 : ¬ (q : Int) < (S.length : Int) := by omega
        k_steps
        all_goals first | (exact finA _ _ (by assumption) (by assumption)) | (exfalso; omega) | (exfalso; simp_all; done)
    · have c2 : (mo.fmod 3 == 0) = false := by simpa using h2
      k_steps
      all_goals first | (exact finA _ _ (by assumption) (by assumption)) | (exfalso; omega) | (exfalso; simp_all; done)
  · have c1 : (d == 1) = false := by simpa using h1
    k_steps
    all_goals first | (exact finA _ _ (by assumption) (by assumption)) | (exfalso; omega) | (exfalso; simp_all; done)
theorem d_c {w : World} {loose : List Str} {mean : ExcName → Option Value} {mg mb : Str → Option Value} {A : Around} {a : Addr} {cd : Value}
    {base : Heap} {L : Addr} {m : Str → Option Value} {s : Shared} {E : Value → Shared → Prop} {Q : Flow → Shared → Prop} {news : List (Addr × Obj)} {q top : Nat} {mo : Int} {mt tt qt : Tok}
    (F : Fr base L s.heap m) (X : (hd.heap_1 w.params).In base) (N : News base L s.heap news) (T : Top hd.view_39 loose mean mg mb base)
    (hm : Has m [(Str.ofString "more", .int mo mt), (Str.ofString "top", .int (top : Int) tt), (Str.ofString "at", .int (q : Int) qt)])
    (hQ : ∀ h' tk t1 t2, Fr base L h' (setM (setM (setM (setM m (Str.ofString "count") (.int (mo.fmod 5) t1)) (Str.ofString "goal") (.int (mo.fmod ((top : Int) + 1)) t2)) (Str.ofString "here") (.int (q : Int) qt)) (Str.ofString "want") .none) → News base L h' news → Q .next { s with heap := h', toks := tk }) :
    wpAny (model PySem.Challenge.rw_kq0016_05.row.prog w) A (execs [tStmt 4, tStmt 5, tStmt 6, tStmt 7] (lawEnv L a cd)) Q E s := by
  have fin : ∀ h' tk t1 t2, Fr base L h' (fun y => if y = Str.ofString "want" then some .none else if y = Str.ofString "here" then some (.int (q : Int) qt) else if y = Str.ofString "goal" then some (.int (mo.fmod ((top : Int) + 1)) t2) else if y = Str.ofString "count" then some (.int (mo.fmod 5) t1) else chainOf [(Str.ofString "more", .int mo mt), (Str.ofString "top", .int (top : Int) tt), (Str.ofString "at", .int (q : Int) qt)] m y) → News base L h' news → Q .next { s with heap := h', toks := tk } := by
    intro h' tk t1 t2 F' N'
    rw [chain_eq hm] at F'
    exact hQ h' tk t1 t2 F' N'
  have ht0 : (top : Int) + 1 ≠ 0 := by omega
  refine law_litS (cons_lit (by conv => lhs; whnf) (cons_lit (by conv => lhs; whnf) (cons_lit (by conv => lhs; whnf) (cons_lit (by conv => lhs; whnf) rfl)))) (by conv => lhs; whnf) ?_
  have F₁ := hm.fr F
  dsimp only [chainOf] at F₁
  clear F hQ hm
  k_steps
  exact fin _ _ _ _ (by assumption) (by assumption)
end Mine
end

section
open PySem PySem.W PySem.Calls PySem.Spec PyProof.Rows
set_option maxRecDepth 100000
set_option maxHeartbeats 2000000
namespace Mine
theorem anew14 : True := by
  w_top off
  exact True.intro
open TI
theorem fillL5E (P : Params) : hd.heap_1 P = hd.heap_1 P ∧ PySem.Challenge.rw_kq0016_05 = PySem.Challenge.rw_kq0016_05 := by
  k_fill
  exact ⟨rfl, rfl⟩
/-- what stays but for some names -/
def Oth (ex : List Str) (m' m : Str → Option Value) : Prop := ∀ z, z ∉ ex → m' z = m z
theorem Has.oth {m m' : Str → Option Value} {l : List (Str × Value)} {ex : List Str} (h : Has m l) (ho : Oth ex m' m) (hn : l.all (fun p => !ex.contains p.1) = true) : Has m' l := fun p hp => by
  have := List.all_eq_true.mp hn p hp
  rw [ho p.1 (by simpa using this)]; exact h p hp
abbrev wantX : List Str := [Str.ofString "want", Str.ofString "at", Str.ofString "mark"]
theorem oth_w {m : Str → Option Value} {v : Value} : Oth wantX (setM m (Str.ofString "want") v) m := fun z hz => if_neg fun e => hz (by rw [e]; exact List.mem_cons_self)
theorem oth_a {m : Str → Option Value} {v : Value} : Oth wantX (setM m (Str.ofString "at") v) m := fun z hz => if_neg fun e => hz (by rw [e]; exact List.mem_cons_of_mem _ List.mem_cons_self)
theorem oth_m {m : Str → Option Value} {v : Value} : Oth wantX (setM m (Str.ofString "mark") v) m := fun z hz => if_neg fun e => hz (by rw [e]; exact List.mem_cons_of_mem _ (List.mem_cons_of_mem _ List.mem_cons_self))
theorem Oth.tr {ex : List Str} {a b c : Str → Option Value} (h : Oth ex a b) (k : Oth ex b c) : Oth ex a c := fun z hz => (h z hz).trans (k z hz)
abbrev badO (D : Str) : Out := .whole (Str.ofString "bad escape (end of pattern)") ((D.length : Int) - 1)
theorem want_0 {w : World} {loose : List Str} {mean : ExcName → Option Value} {mg mb : Str → Option Value} {A : Around} {a : Addr} {cd : Value}
    {base : Heap} {L : Addr} {m : Str → Option Value} {s : Shared} {E : Value → Shared → Prop} {Q : Flow → Shared → Prop} {news : List (Addr × Obj)} {Dg Tw : Addr} {ys : List Value} {ny q top g : Nat} {S : List Str} {lo : Bool} {y D : Str} {gv : Value} {dt qt tt nt yt gt u1 u2 u3 u4 u5 : Tok}
    (F : Fr base L s.heap m) (X : (hd.heap_1 w.params).In base) (N : News base L s.heap news) (T : Top hd.view_39 loose mean mg mb base)
    (hm : Has m [(Str.ofString "deed", .int 0 dt), (Str.ofString "at", .int (q : Int) qt), (Str.ofString "top", .int (top : Int) tt), (Str.ofString "n", .int (S.length : Int) nt), (Str.ofString "lone", .bool lo), (Str.ofString "stuck", .ref Tw), (Str.ofString "signs", .ref Dg), (Str.ofString "sign", .str y yt), (Str.ofString "goal", .int (g : Int) gt), (Str.ofString "want", .none)]) (hDg : (Dg, W.listOf ys.toArray ny) ∈ news) (hy : StrsAre ys S) (hSl : S.length ≤ 1000) (htop : top = top5 lo S) (hq : q ≤ top) (hS1 : 1 ≤ S.length)
    (hTw : (Tw, wholeO (Str.ofString "bad escape (end of pattern)") gv D.cps.toList ((D.length : Int) - 1) u1 u2 u3 u4 u5) ∈ news) (hgv : SameV gv gv)
    (hQ : ∀ h' tk m' w' (q' : Nat) qt' o, ((∃ z, S[q]? = some z ∧ q < top ∧ o = .text z ∧ q' = q + 1) ∨ (q = top ∧ q' = q ∧ ((lo = true ∧ o = badO D) ∨ (lo = false ∧ o = .none)))) → m' (Str.ofString "want") = some w' → m' (Str.ofString "at") = some (.int (q' : Int) qt') → Oth wantX m' m → Fr base L h' m' → News base L h' news → OutAt gv D.cps.toList news w' o → Q .next { s with heap := h', toks := tk }) :
    wpAny (model PySem.Challenge.rw_kq0016_05.row.prog w) A (exec (tStmt 8) (lawEnv L a cd)) Q E s := by
  have hmm := hm
  have stuckOut : OutAt gv D.cps.toList news (.ref Tw) (badO D) := ⟨Tw, gv, u1, u2, u3, u4, u5, rfl, hgv, hTw⟩
  have finN : ∀ o, (∀ q', q' = q → ((∃ z, S[q]? = some z ∧ q < top ∧ o = .text z ∧ q' = q + 1) ∨ (q = top ∧ q' = q ∧ ((lo = true ∧ o = badO D) ∨ (lo = false ∧ o = .none))))) → OutAt gv D.cps.toList news .none o → ∀ h' tk, Fr base L h' (chainOf [(Str.ofString "deed", .int 0 dt), (Str.ofString "at", .int (q : Int) qt), (Str.ofString "top", .int (top : Int) tt), (Str.ofString "n", .int (S.length : Int) nt), (Str.ofString "lone", .bool lo), (Str.ofString "stuck", .ref Tw), (Str.ofString "signs", .ref Dg), (Str.ofString "sign", .str y yt), (Str.ofString "goal", .int (g : Int) gt), (Str.ofString "want", .none)] m) → News base L h' news → Q .next { s with heap := h', toks := tk } := by
    intro o hs ho h' tk F' N'
    rw [chain_eq hm] at F'
    exact hQ h' tk m _ q qt o (hs q rfl) (hm.get (by simp)) (hm.get (by simp)) (fun _ _ => rfl) F' N' ho
  have finW : ∀ o, (∀ q', q' = q → ((∃ z, S[q]? = some z ∧ q < top ∧ o = .text z ∧ q' = q + 1) ∨ (q = top ∧ q' = q ∧ ((lo = true ∧ o = badO D) ∨ (lo = false ∧ o = .none))))) → ∀ w', OutAt gv D.cps.toList news w' o → ∀ h' tk, Fr base L h' (fun z => if z = Str.ofString "want" then some w' else chainOf [(Str.ofString "deed", .int 0 dt), (Str.ofString "at", .int (q : Int) qt), (Str.ofString "top", .int (top : Int) tt), (Str.ofString "n", .int (S.length : Int) nt), (Str.ofString "lone", .bool lo), (Str.ofString "stuck", .ref Tw), (Str.ofString "signs", .ref Dg), (Str.ofString "sign", .str y yt), (Str.ofString "goal", .int (g : Int) gt), (Str.ofString "want", .none)] m z) → News base L h' news → Q .next { s with heap := h', toks := tk } := by
    intro o hs w' ho h' tk F' N'
    exact hQ h' tk _ w' q qt o (hs q rfl) (if_pos rfl) ((if_neg (by decide)).trans (hm.get (by simp))) oth_w (hm.back F') N' ho
  have finWA : ∀ o (q' : Nat), ((∃ z, S[q]? = some z ∧ q < top ∧ o = .text z ∧ q' = q + 1) ∨ (q = top ∧ q' = q ∧ ((lo = true ∧ o = badO D) ∨ (lo = false ∧ o = .none)))) → ∀ w', OutAt gv D.cps.toList news w' o → ∀ h' tk t z, Fr base L h' (fun z9 => if z9 = Str.ofString "at" then some (.int z t) else if z9 = Str.ofString "want" then some w' else chainOf [(Str.ofString "deed", .int 0 dt), (Str.ofString "at", .int (q : Int) qt), (Str.ofString "top", .int (top : Int) tt), (Str.ofString "n", .int (S.length : Int) nt), (Str.ofString "lone", .bool lo), (Str.ofString "stuck", .ref Tw), (Str.ofString "signs", .ref Dg), (Str.ofString "sign", .str y yt), (Str.ofString "goal", .int (g : Int) gt), (Str.ofString "want", .none)] m z9) → z = (q' : Int) → News base L h' news → Q .next { s with heap := h', toks := tk } := by
    intro o q' hs w' ho h' tk t z F' hz N'
    subst hz
    rw [chain_eq hm] at F'
    exact hQ h' tk _ w' q' t o hs ((if_neg (by decide)).trans (if_pos rfl)) (if_pos rfl) (oth_a.tr oth_w) F' N' ho
  refine law_lit (by conv => lhs; whnf) (by conv => lhs; whnf) ?_
  have F₁ := hm.fr F
  dsimp only [chainOf] at F₁
  clear F hQ hm hmm
  have hq0 : (0 : Int) ≤ (q : Int) := Int.natCast_nonneg q
  have htl : top ≤ S.length := by rw [htop]; unfold top5; split <;> omega
  by_cases h1 : q < top
  · have c1 : (q : Int) < (top : Int) := by omega
    obtain ⟨z, hz1, hz2⟩ : ∃ z, S[q]? = some z ∧ S.getD (q : Int).toNat Str.empty = z := ⟨S[q], List.getElem?_eq_getElem (by omega), by rw [Int.toNat_natCast]; exact (List.getElem_eq_getD (h := by omega) _).symm⟩
    k_steps
    exact finWA (.text z) (q + 1) (.inl ⟨z, hz1, h1, rfl, rfl⟩) _ ⟨_, rfl⟩ _ _ _ _ (by assumption) (by omega) (by assumption)
  · have c1 : ¬ (q : Int) < (top : Int) := by omega
    have h2 : q = top := by omega
    cases lo
    · k_steps
      exact finN .none (fun q' e => .inr ⟨h2, e, .inr ⟨rfl, rfl⟩⟩) rfl _ _ (by assumption) (by assumption)
    · k_steps
      exact finW (badO D) (fun q' e => .inr ⟨h2, e, .inl ⟨rfl, rfl⟩⟩) _ stuckOut _ _ (by assumption) (by assumption)
theorem want_1 {w : World} {loose : List Str} {mean : ExcName → Option Value} {mg mb : Str → Option Value} {A : Around} {a : Addr} {cd : Value}
    {base : Heap} {L : Addr} {m : Str → Option Value} {s : Shared} {E : Value → Shared → Prop} {Q : Flow → Shared → Prop} {news : List (Addr × Obj)} {Dg Tw : Addr} {ys : List Value} {ny q top g : Nat} {S : List Str} {lo : Bool} {y D : Str} {gv : Value} {dt qt tt nt yt gt u1 u2 u3 u4 u5 : Tok}
    (F : Fr base L s.heap m) (X : (hd.heap_1 w.params).In base) (N : News base L s.heap news) (T : Top hd.view_39 loose mean mg mb base)
    (hm : Has m [(Str.ofString "deed", .int 1 dt), (Str.ofString "at", .int (q : Int) qt), (Str.ofString "top", .int (top : Int) tt), (Str.ofString "n", .int (S.length : Int) nt), (Str.ofString "lone", .bool lo), (Str.ofString "stuck", .ref Tw), (Str.ofString "signs", .ref Dg), (Str.ofString "sign", .str y yt), (Str.ofString "goal", .int (g : Int) gt), (Str.ofString "want", .none)]) (hDg : (Dg, W.listOf ys.toArray ny) ∈ news) (hy : StrsAre ys S) (hSl : S.length ≤ 1000) (htop : top = top5 lo S) (hq : q ≤ top) (hS1 : 1 ≤ S.length)
    (hTw : (Tw, wholeO (Str.ofString "bad escape (end of pattern)") gv D.cps.toList ((D.length : Int) - 1) u1 u2 u3 u4 u5) ∈ news) (hgv : SameV gv gv)
    (hQ : ∀ h' tk m' w' (q' : Nat) qt' o, ((S[q]? ≠ some y ∧ o = .bool false ∧ q' = q) ∨ (S[q]? = some y ∧ q < top ∧ o = .bool true ∧ q' = q + 1) ∨ (S[q]? = some y ∧ q = top ∧ lo = true ∧ o = badO D ∧ q' = q)) → m' (Str.ofString "want") = some w' → m' (Str.ofString "at") = some (.int (q' : Int) qt') → Oth wantX m' m → Fr base L h' m' → News base L h' news → OutAt gv D.cps.toList news w' o → Q .next { s with heap := h', toks := tk }) :
    wpAny (model PySem.Challenge.rw_kq0016_05.row.prog w) A (exec (tStmt 8) (lawEnv L a cd)) Q E s := by
  have hmm := hm
  have stuckOut : OutAt gv D.cps.toList news (.ref Tw) (badO D) := ⟨Tw, gv, u1, u2, u3, u4, u5, rfl, hgv, hTw⟩
  have finN : ∀ o, (∀ q', q' = q → ((S[q]? ≠ some y ∧ o = .bool false ∧ q' = q) ∨ (S[q]? = some y ∧ q < top ∧ o = .bool true ∧ q' = q + 1) ∨ (S[q]? = some y ∧ q = top ∧ lo = true ∧ o = badO D ∧ q' = q))) → OutAt gv D.cps.toList news .none o → ∀ h' tk, Fr base L h' (chainOf [(Str.ofString "deed", .int 1 dt), (Str.ofString "at", .int (q : Int) qt), (Str.ofString "top", .int (top : Int) tt), (Str.ofString "n", .int (S.length : Int) nt), (Str.ofString "lone", .bool lo), (Str.ofString "stuck", .ref Tw), (Str.ofString "signs", .ref Dg), (Str.ofString "sign", .str y yt), (Str.ofString "goal", .int (g : Int) gt), (Str.ofString "want", .none)] m) → News base L h' news → Q .next { s with heap := h', toks := tk } := by
    intro o hs ho h' tk F' N'
    rw [chain_eq hm] at F'
    exact hQ h' tk m _ q qt o (hs q rfl) (hm.get (by simp)) (hm.get (by simp)) (fun _ _ => rfl) F' N' ho
  have finW : ∀ o, (∀ q', q' = q → ((S[q]? ≠ some y ∧ o = .bool false ∧ q' = q) ∨ (S[q]? = some y ∧ q < top ∧ o = .bool true ∧ q' = q + 1) ∨ (S[q]? = some y ∧ q = top ∧ lo = true ∧ o = badO D ∧ q' = q))) → ∀ w', OutAt gv D.cps.toList news w' o → ∀ h' tk, Fr base L h' (fun z => if z = Str.ofString "want" then some w' else chainOf [(Str.ofString "deed", .int 1 dt), (Str.ofString "at", .int (q : Int) qt), (Str.ofString "top", .int (top : Int) tt), (Str.ofString "n", .int (S.length : Int) nt), (Str.ofString "lone", .bool lo), (Str.ofString "stuck", .ref Tw), (Str.ofString "signs", .ref Dg), (Str.ofString "sign", .str y yt), (Str.ofString "goal", .int (g : Int) gt), (Str.ofString "want", .none)] m z) → News base L h' news → Q .next { s with heap := h', toks := tk } := by
    intro o hs w' ho h' tk F' N'
    exact hQ h' tk _ w' q qt o (hs q rfl) (if_pos rfl) ((if_neg (by decide)).trans (hm.get (by simp))) oth_w (hm.back F') N' ho
  have finWA : ∀ o (q' : Nat), ((S[q]? ≠ some y ∧ o = .bool false ∧ q' = q) ∨ (S[q]? = some y ∧ q < top ∧ o = .bool true ∧ q' = q + 1) ∨ (S[q]? = some y ∧ q = top ∧ lo = true ∧ o = badO D ∧ q' = q)) → ∀ w', OutAt gv D.cps.toList news w' o → ∀ h' tk t z, Fr base L h' (fun z9 => if z9 = Str.ofString "at" then some (.int z t) else if z9 = Str.ofString "want" then some w' else chainOf [(Str.ofString "deed", .int 1 dt), (Str.ofString "at", .int (q : Int) qt), (Str.ofString "top", .int (top : Int) tt), (Str.ofString "n", .int (S.length : Int) nt), (Str.ofString "lone", .bool lo), (Str.ofString "stuck", .ref Tw), (Str.ofString "signs", .ref Dg), (Str.ofString "sign", .str y yt), (Str.ofString "goal", .int (g : Int) gt), (Str.ofString "want", .none)] m z9) → z = (q' : Int) → News base L h' news → Q .next { s with heap := h', toks := tk } := by
    intro o q' hs w' ho h' tk t z F' hz N'
    subst hz
    rw [chain_eq hm] at F'
    exact hQ h' tk _ w' q' t o hs ((if_neg (by decide)).trans (if_pos rfl)) (if_pos rfl) (oth_a.tr oth_w) F' N' ho
  have finWW : ∀ o, (∀ q', q' = q → ((S[q]? ≠ some y ∧ o = .bool false ∧ q' = q) ∨ (S[q]? = some y ∧ q < top ∧ o = .bool true ∧ q' = q + 1) ∨ (S[q]? = some y ∧ q = top ∧ lo = true ∧ o = badO D ∧ q' = q))) → ∀ w' w2, OutAt gv D.cps.toList news w' o → ∀ h' tk, Fr base L h' (fun z => if z = Str.ofString "want" then some w' else if z = Str.ofString "want" then some w2 else chainOf [(Str.ofString "deed", .int 1 dt), (Str.ofString "at", .int (q : Int) qt), (Str.ofString "top", .int (top : Int) tt), (Str.ofString "n", .int (S.length : Int) nt), (Str.ofString "lone", .bool lo), (Str.ofString "stuck", .ref Tw), (Str.ofString "signs", .ref Dg), (Str.ofString "sign", .str y yt), (Str.ofString "goal", .int (g : Int) gt), (Str.ofString "want", .none)] m z) → News base L h' news → Q .next { s with heap := h', toks := tk } := by
    intro o hs w' w2 ho h' tk F' N'
    rw [chain_eq hm] at F'
    exact hQ h' tk _ w' q qt o (hs q rfl) (if_pos rfl) ((if_neg (by decide)).trans ((if_neg (by decide)).trans (hm.get (by simp)))) (oth_w.tr oth_w) F' N' ho
  refine law_lit (by conv => lhs; whnf) (by conv => lhs; whnf) ?_
  have F₁ := hm.fr F
  dsimp only [chainOf] at F₁
  clear F hQ hm hmm
  have hq0 : (0 : Int) ≤ (q : Int) := Int.natCast_nonneg q
  have htl : top ≤ S.length := by rw [htop]; unfold top5; split <;> omega
  have hlo : q < S.length → q = top → lo = true := fun a b => by
    cases lo
    · rw [htop] at b; exact absurd b (Nat.ne_of_lt a)
    · rfl
  by_cases h1 : q < S.length
  · have c1 : (q : Int) < (S.length : Int) := by omega
    obtain ⟨z, hz1, hz2⟩ : ∃ z, S[q]? = some z ∧ S.getD (q : Int).toNat Str.empty = z := ⟨S[q], List.getElem?_eq_getElem h1, by rw [Int.toNat_natCast]; exact (List.getElem_eq_getD (h := h1) _).symm⟩
    by_cases h2 : z = y
    · subst h2
      have e1 : (z == z) = true := beq_self_eq_true z
      by_cases h3 : q = top
      · have c2 : ((q : Int) == (top : Int)) = true := by rw [h3]; exact beq_self_eq_true _
        k_steps
        exact finWW (badO D) (fun q' e => .inr (.inr ⟨hz1, h3, hlo h1 h3, rfl, e⟩)) _ _ stuckOut _ _ (by assumption) (by assumption)
      · have c2 : ((q : Int) == (top : Int)) = false := by
          rw [beq_eq_false_iff_ne]; omega
        k_steps
        exact finWA (.bool true) (q + 1) (.inr (.inl ⟨hz1, by omega, rfl, rfl⟩)) _ rfl _ _ _ _ (by assumption) (by omega) (by assumption)
    · have e1 : (z == y) = false := by simpa using h2
      k_steps
      exact finW (.bool false) (fun q' e => .inl ⟨by rw [hz1]; exact fun w => h2 (Option.some.inj w), rfl, e⟩) _ rfl _ _ (by assumption) (by assumption)
  · have c1 : ¬ (q : Int) < (S.length : Int) := by omega
    k_steps
    refine finW (.bool false) (fun q' e => .inl ⟨by rw [List.getElem?_eq_none (by omega)]; simp, rfl, e⟩) _ ?_ _ _ (by assumption) (by assumption)
    show Value.bool (decide _) = _
    rw [decide_eq_false c1]
theorem want_4 {w : World} {loose : List Str} {mean : ExcName → Option Value} {mg mb : Str → Option Value} {A : Around} {a : Addr} {cd : Value}
    {base : Heap} {L : Addr} {m : Str → Option Value} {s : Shared} {E : Value → Shared → Prop} {Q : Flow → Shared → Prop} {news : List (Addr × Obj)} {Dg Tw : Addr} {ys : List Value} {ny q top g : Nat} {S : List Str} {lo : Bool} {y D : Str} {gv : Value} {dt qt tt nt yt gt u1 u2 u3 u4 u5 : Tok}
    (F : Fr base L s.heap m) (X : (hd.heap_1 w.params).In base) (N : News base L s.heap news) (T : Top hd.view_39 loose mean mg mb base)
    (hm : Has m [(Str.ofString "deed", .int 4 dt), (Str.ofString "at", .int (q : Int) qt), (Str.ofString "top", .int (top : Int) tt), (Str.ofString "n", .int (S.length : Int) nt), (Str.ofString "lone", .bool lo), (Str.ofString "stuck", .ref Tw), (Str.ofString "signs", .ref Dg), (Str.ofString "sign", .str y yt), (Str.ofString "goal", .int (g : Int) gt), (Str.ofString "want", .none)]) (hDg : (Dg, W.listOf ys.toArray ny) ∈ news) (hy : StrsAre ys S) (hSl : S.length ≤ 1000) (htop : top = top5 lo S) (hq : q ≤ top) (hS1 : 1 ≤ S.length)
    (hTw : (Tw, wholeO (Str.ofString "bad escape (end of pattern)") gv D.cps.toList ((D.length : Int) - 1) u1 u2 u3 u4 u5) ∈ news) (hgv : SameV gv gv)
    (hQ : ∀ h' tk m' w' (q' : Nat) qt' o, (o = .none ∧ q' = g) → m' (Str.ofString "want") = some w' → m' (Str.ofString "at") = some (.int (q' : Int) qt') → Oth wantX m' m → Fr base L h' m' → News base L h' news → OutAt gv D.cps.toList news w' o → Q .next { s with heap := h', toks := tk }) :
    wpAny (model PySem.Challenge.rw_kq0016_05.row.prog w) A (exec (tStmt 8) (lawEnv L a cd)) Q E s := by
  have hmm := hm
  have stuckOut : OutAt gv D.cps.toList news (.ref Tw) (badO D) := ⟨Tw, gv, u1, u2, u3, u4, u5, rfl, hgv, hTw⟩
  have finN : ∀ o, (∀ q', q' = q → (o = .none ∧ q' = g)) → OutAt gv D.cps.toList news .none o → ∀ h' tk, Fr base L h' (chainOf [(Str.ofString "deed", .int 4 dt), (Str.ofString "at", .int (q : Int) qt), (Str.ofString "top", .int (top : Int) tt), (Str.ofString "n", .int (S.length : Int) nt), (Str.ofString "lone", .bool lo), (Str.ofString "stuck", .ref Tw), (Str.ofString "signs", .ref Dg), (Str.ofString "sign", .str y yt), (Str.ofString "goal", .int (g : Int) gt), (Str.ofString "want", .none)] m) → News base L h' news → Q .next { s with heap := h', toks := tk } := by
    intro o hs ho h' tk F' N'
    rw [chain_eq hm] at F'
    exact hQ h' tk m _ q qt o (hs q rfl) (hm.get (by simp)) (hm.get (by simp)) (fun _ _ => rfl) F' N' ho
  have finW : ∀ o, (∀ q', q' = q → (o = .none ∧ q' = g)) → ∀ w', OutAt gv D.cps.toList news w' o → ∀ h' tk, Fr base L h' (fun z => if z = Str.ofString "want" then some w' else chainOf [(Str.ofString "deed", .int 4 dt), (Str.ofString "at", .int (q : Int) qt), (Str.ofString "top", .int (top : Int) tt), (Str.ofString "n", .int (S.length : Int) nt), (Str.ofString "lone", .bool lo), (Str.ofString "stuck", .ref Tw), (Str.ofString "signs", .ref Dg), (Str.ofString "sign", .str y yt), (Str.ofString "goal", .int (g : Int) gt), (Str.ofString "want", .none)] m z) → News base L h' news → Q .next { s with heap := h', toks := tk } := by
    intro o hs w' ho h' tk F' N'
    exact hQ h' tk _ w' q qt o (hs q rfl) (if_pos rfl) ((if_neg (by decide)).trans (hm.get (by simp))) oth_w (hm.back F') N' ho
  have finA : ∀ o (q' : Nat), (o = .none ∧ q' = g) → OutAt gv D.cps.toList news .none o → ∀ h' tk t, Fr base L h' (fun z9 => if z9 = Str.ofString "at" then some (.int (q' : Int) t) else chainOf [(Str.ofString "deed", .int 4 dt), (Str.ofString "at", .int (q : Int) qt), (Str.ofString "top", .int (top : Int) tt), (Str.ofString "n", .int (S.length : Int) nt), (Str.ofString "lone", .bool lo), (Str.ofString "stuck", .ref Tw), (Str.ofString "signs", .ref Dg), (Str.ofString "sign", .str y yt), (Str.ofString "goal", .int (g : Int) gt), (Str.ofString "want", .none)] m z9) → News base L h' news → Q .next { s with heap := h', toks := tk } := by
    intro o q' hs ho h' tk t F' N'
    exact hQ h' tk _ .none q' t o hs ((if_neg (by decide)).trans (hm.get (by simp))) (if_pos rfl) oth_a (hm.back F') N' ho
  refine law_lit (by conv => lhs; whnf) (by conv => lhs; whnf) ?_
  have F₁ := hm.fr F
  dsimp only [chainOf] at F₁
  clear F hQ hm hmm
  k_steps
  exact finA .none g ⟨rfl, rfl⟩ rfl _ _ _ (by assumption) (by assumption)
theorem want_5 {w : World} {loose : List Str} {mean : ExcName → Option Value} {mg mb : Str → Option Value} {A : Around} {a : Addr} {cd : Value}
    {base : Heap} {L : Addr} {m : Str → Option Value} {s : Shared} {E : Value → Shared → Prop} {Q : Flow → Shared → Prop} {news : List (Addr × Obj)} {Dg Tw : Addr} {ys : List Value} {ny q top g : Nat} {S : List Str} {lo : Bool} {y D : Str} {gv : Value} {dt qt tt nt yt gt u1 u2 u3 u4 u5 : Tok}
    (F : Fr base L s.heap m) (X : (hd.heap_1 w.params).In base) (N : News base L s.heap news) (T : Top hd.view_39 loose mean mg mb base)
    (hm : Has m [(Str.ofString "deed", .int 5 dt), (Str.ofString "at", .int (q : Int) qt), (Str.ofString "top", .int (top : Int) tt), (Str.ofString "n", .int (S.length : Int) nt), (Str.ofString "lone", .bool lo), (Str.ofString "stuck", .ref Tw), (Str.ofString "signs", .ref Dg), (Str.ofString "sign", .str y yt), (Str.ofString "goal", .int (g : Int) gt), (Str.ofString "want", .none)]) (hDg : (Dg, W.listOf ys.toArray ny) ∈ news) (hy : StrsAre ys S) (hSl : S.length ≤ 1000) (htop : top = top5 lo S) (hq : q ≤ top) (hS1 : 1 ≤ S.length)
    (hTw : (Tw, wholeO (Str.ofString "bad escape (end of pattern)") gv D.cps.toList ((D.length : Int) - 1) u1 u2 u3 u4 u5) ∈ news) (hgv : SameV gv gv)
    (hQ : ∀ h' tk m' w' (q' : Nat) qt' o, (o = .none ∧ q' = q) → m' (Str.ofString "want") = some w' → m' (Str.ofString "at") = some (.int (q' : Int) qt') → Oth wantX m' m → Fr base L h' m' → News base L h' news → OutAt gv D.cps.toList news w' o → Q .next { s with heap := h', toks := tk }) :
    wpAny (model PySem.Challenge.rw_kq0016_05.row.prog w) A (exec (tStmt 8) (lawEnv L a cd)) Q E s := by
  have hmm := hm
  have stuckOut : OutAt gv D.cps.toList news (.ref Tw) (badO D) := ⟨Tw, gv, u1, u2, u3, u4, u5, rfl, hgv, hTw⟩
  have finN : ∀ o, (∀ q', q' = q → (o = .none ∧ q' = q)) → OutAt gv D.cps.toList news .none o → ∀ h' tk, Fr base L h' (chainOf [(Str.ofString "deed", .int 5 dt), (Str.ofString "at", .int (q : Int) qt), (Str.ofString "top", .int (top : Int) tt), (Str.ofString "n", .int (S.length : Int) nt), (Str.ofString "lone", .bool lo), (Str.ofString "stuck", .ref Tw), (Str.ofString "signs", .ref Dg), (Str.ofString "sign", .str y yt), (Str.ofString "goal", .int (g : Int) gt), (Str.ofString "want", .none)] m) → News base L h' news → Q .next { s with heap := h', toks := tk } := by
    intro o hs ho h' tk F' N'
    rw [chain_eq hm] at F'
    exact hQ h' tk m _ q qt o (hs q rfl) (hm.get (by simp)) (hm.get (by simp)) (fun _ _ => rfl) F' N' ho
  have finW : ∀ o, (∀ q', q' = q → (o = .none ∧ q' = q)) → ∀ w', OutAt gv D.cps.toList news w' o → ∀ h' tk, Fr base L h' (fun z => if z = Str.ofString "want" then some w' else chainOf [(Str.ofString "deed", .int 5 dt), (Str.ofString "at", .int (q : Int) qt), (Str.ofString "top", .int (top : Int) tt), (Str.ofString "n", .int (S.length : Int) nt), (Str.ofString "lone", .bool lo), (Str.ofString "stuck", .ref Tw), (Str.ofString "signs", .ref Dg), (Str.ofString "sign", .str y yt), (Str.ofString "goal", .int (g : Int) gt), (Str.ofString "want", .none)] m z) → News base L h' news → Q .next { s with heap := h', toks := tk } := by
    intro o hs w' ho h' tk F' N'
    exact hQ h' tk _ w' q qt o (hs q rfl) (if_pos rfl) ((if_neg (by decide)).trans (hm.get (by simp))) oth_w (hm.back F') N' ho
  refine law_lit (by conv => lhs; whnf) (by conv => lhs; whnf) ?_
  have F₁ := hm.fr F
  dsimp only [chainOf] at F₁
  clear F hQ hm hmm
  k_steps
  exact finN .none (fun q' e => ⟨rfl, e⟩) rfl _ _ (by assumption) (by assumption)
end Mine
end

local macro_rules | `(tactic| walk_at "subscriptTail Name Slice ref ref") => wl 3 "" "subscriptTail _ PySem.Expr.Slice _ _ _ _ @4 Value.ref _ @1 Value.ref _ @1 @4" `kms_slice_lit "abcdef_ghi" "aabac5d6e7fwgXhIiZ" "D' h' F' N' l1" "" ["News.isList !a !w @2", "IsPart.none | IsPart.int _ _ @2", "IsPart.int _ _ @2 | IsPart.none"]
section
open PySem PySem.W PySem.Calls PySem.Spec PyProof.Rows
set_option maxRecDepth 100000
set_option maxHeartbeats 2000000
namespace Mine
theorem anew15 : True := by
  w_top off
  exact True.intro
open TI
theorem fillL5F (P : Params) : hd.heap_1 P = hd.heap_1 P ∧ PySem.Challenge.rw_kq0016_05 = PySem.Challenge.rw_kq0016_05 := by
  k_fill
  exact ⟨rfl, rfl⟩
section
variable {prog : Program} {w : World} {A : Around} {E : Value → Shared → Prop} {s : Shared} {h₀ : Heap} {L l : Addr} {m : Str → Option Value} {news : List (Addr × Obj)} {Q : Value → Shared → Prop}
theorem min_E {a b M : Int} {t u : Tok} (hh : A.handled = none) (F : Fr h₀ L s.heap m) (N : News h₀ L s.heap news) (e : (if b < a then b else a) = M) (h : ∀ h' tk t', Fr h₀ L h' m → News h₀ L h' news → Q (.int M t') { s with heap := h', toks := tk }) :
    wpAny (model prog w) A (call (.builtin "min") [.int a t, .int b u]) Q E s :=
  min_two_N hh F N fun h' tk F' N' => by rw [e]; exact h h' tk _ F' N'
theorem in_E {vs : List Value} {ys : List Str} {n : Nat} {k : Str} {t : Tok} {r : Bool} (N : News h₀ L s.heap news) (hm : (l, W.listOf vs.toArray n) ∈ news) (hi : StrsAre vs ys) (e : ys.any (· == k) = r) (h : Q (.bool r) s) : wpAny (model prog w) A (compareOp .In (.str k t) (.ref l)) Q E s :=
  in_list_strs ⟨_, (N _ hm).1, rfl, n, rfl⟩ hi (by rw [e]; exact h)
end
local macro_rules | `(tactic| walk_at "call builtin:min") => wl 3 "" "call Value.builtin 'min @1 Value.int _ _ @2 Value.int _ _ @2 [2 @2" `min_E "abcd_" "aAbacadw" "h' tk' t' F' N'" "" []
local macro_rules | `(tactic| walk_at "compareOp In") => wl 3 "" "compareOp CmpOp.In Value.str _ _ @2 Value.ref _ @1 @3" `in_E "abcd_" "aab3cwdw" "" "" []
theorem pick_sub {l : List Value} {j e : Nat} (h1 : j ≤ e) (h2 : e ≤ l.length) : kms_pick l.toArray.toList (some (j : Int)) (some (e : Int)) = (l.drop j).take (e - j) := by
  show (l.drop (if (j : Int) < 0 then l.length - (-(j : Int)).toNat else min (j : Int).toNat l.length)).take ((if (e : Int) < 0 then l.length - (-(e : Int)).toNat else min (e : Int).toNat l.length) - (if (j : Int) < 0 then l.length - (-(j : Int)).toNat else min (j : Int).toNat l.length)) = _
  have e1 : (if (j : Int) < 0 then l.length - (-(j : Int)).toNat else min (j : Int).toNat l.length) = j := by rw [if_neg (Int.not_lt.mpr (Int.natCast_nonneg j)), Int.toNat_natCast, Nat.min_eq_left (Nat.le_trans h1 h2)]
  have e2 : (if (e : Int) < 0 then l.length - (-(e : Int)).toNat else min (e : Int).toNat l.length) = e := by rw [if_neg (Int.not_lt.mpr (Int.natCast_nonneg e)), Int.toNat_natCast, Nat.min_eq_left h2]
  rw [e1, e2]
theorem strs_take {vs : List Value} : ∀ {ws : List Str} (j : Nat), StrsAre vs ws → StrsAre (vs.take j) (ws.take j) := by
  induction vs with
  | nil => intro ws j h; cases h; simp only [List.take_nil]; exact .nil
  | cons z r ih =>
    intro ws j h
    cases h with
    | cons x t hr =>
      cases j with
      | zero => exact .nil
      | succ j => exact .cons x t (ih j hr)
theorem strs_drop {vs : List Value} : ∀ {ws : List Str} (j : Nat), StrsAre vs ws → StrsAre (vs.drop j) (ws.drop j) := by
  induction vs with
  | nil => intro ws j h; cases h; simp only [List.drop_nil]; exact .nil
  | cons z r ih =>
    intro ws j h
    cases h with
    | cons x t hr =>
      cases j with
      | zero => exact .cons x t hr
      | succ j => exact ih j hr
/-- how the loop over the run stands, and how it ends -/
inductive RunJ (S : List Str) (P : Str → Bool) (q M : Nat) (l : List (Str × Value)) (news : List (Addr × Obj)) (m : Str → Option Value) (n : Nat) (m₁ : Str → Option Value) (news₁ : List (Addr × Obj)) : Prop
  | mk (p : Nat) (pt : Tok) (h1 : n = M - p) (h2 : q ≤ p) (h3 : p ≤ M) (h4 : ∀ k, q ≤ k → k < p → ∃ y, S[k]? = some y ∧ P y = true) (h5 : Has m₁ ((Str.ofString "at", .int (p : Int) pt) :: l)) (h6 : Oth wantX m₁ m) (h7 : news₁ = news)
inductive RunE (S : List Str) (P : Str → Bool) (q M : Nat) (l : List (Str × Value)) (news : List (Addr × Obj)) (m : Str → Option Value) (base : Heap) (L : Addr) (s s' : Shared) : Prop
  | mk (p : Nat) (pt : Tok) (h₁ : Heap) (tk : Nat) (m₁ : Str → Option Value) (h0 : s' = { s with heap := h₁, toks := tk }) (h1 : Stop P S q M p) (h5 : Has m₁ ((Str.ofString "at", .int (p : Int) pt) :: l)) (h6 : Oth wantX m₁ m) (h7 : Fr base L h₁ m₁) (h8 : News base L h₁ news)
section
variable {prog : Program} {w : World} {A : Around} {E : Value → Shared → Prop} {s : Shared} {value slice : PySem.Expr} {l L : Addr} {h₀ : Heap} {news : List (Addr × Obj)} {vs : List Value} {ns : List Int} {n : Nat} {i z : Int} {u : Tok} {Q : Value → Shared → Prop}
theorem int_itemE (N : News h₀ L s.heap news) (hm : (l, W.listOf vs.toArray n) ∈ news) (hw : IntsAre vs ns) (h0 : 0 ≤ i) (h1 : i < 1000) (e : ns[i.toNat]? = some z) (h : ∀ t', Q (.int z t') s)
    (hs : subscripted slice false (.ref l) (.int i u) = operate [.ref l, .int i u] (getItem (.ref l) (.int i u)) := by with_unfolding_all rfl) (hg : ∀ r, letTemporaryGo value (.ref l) r = pure () := by intro _; with_unfolding_all rfl) :
    wpAny (model prog w) A (subscriptTail value slice (.ref l) (.int i u)) Q E s := by
  obtain ⟨t, ht⟩ := hw.get i.toNat z e
  exact kim_list N hm rfl rfl h0 (by omega) ht (h t) hs hg
end
def ifBody : Stmt → List Stmt
  | .If _ b _ _ => b
  | _ => []
def ifElse : Stmt → List Stmt
  | .If _ _ e _ => e
  | _ => []
def nthElse : Nat → Stmt → Stmt
  | 0, s => s
  | n + 1, s => nthElse n ((ifElse s).getD 0 default)
/-- what is done to foretell deed d -/
def wBody (d : Nat) : List Stmt := ifBody (nthElse d (tStmt 8))
def wS (d k : Nat) : Stmt := (wBody d).getD k default
theorem in_2 {w : World} {loose : List Str} {mean : ExcName → Option Value} {mg mb : Str → Option Value} {A : Around} {a : Addr} {cd : Value}
    {base : Heap} {L : Addr} {m : Str → Option Value} {s : Shared} {E : Value → Shared → Prop} {Q : Flow → Shared → Prop} {news : List (Addr × Obj)} {dt : Tok}
    (F : Fr base L s.heap m) (X : (hd.heap_1 w.params).In base) (N : News base L s.heap news) (T : Top hd.view_39 loose mean mg mb base) (hm : Has m [(Str.ofString "deed", .int 2 dt)])
    (hB : ∀ h' tk, Fr base L h' m → News base L h' news → wpAny (model PySem.Challenge.rw_kq0016_05.row.prog w) A (execs (wBody 2) (lawEnv L a cd)) Q E { s with heap := h', toks := tk }) :
    wpAny (model PySem.Challenge.rw_kq0016_05.row.prog w) A (exec (tStmt 8) (lawEnv L a cd)) Q E s := by
  have lit : ∀ (s' : Shared) x y, wBody 2 = x → lawScope = y → wpAny (model PySem.Challenge.rw_kq0016_05.row.prog w) A (execs (wBody 2) (lawEnv L a cd)) Q E s' → wpAny (model PySem.Challenge.rw_kq0016_05.row.prog w) A (execs x (envOfC (Str.ofString "law") y L a cd)) Q E s' := by
    intro s' x y h1 h2 h3
    rw [← h1, ← h2]; exact h3
  refine law_lit (by conv => lhs; whnf) (by conv => lhs; whnf) ?_
  have F₁ := hm.fr F
  dsimp only [chainOf] at F₁
  have hF : (fun y => if y = Str.ofString "deed" then some (Value.int 2 dt) else m y) = m := chain_eq hm
  rw [← hF] at hB
  clear F hm hF
  repeat ((fail_if_success (with_reducible show wpAny _ _ (execs (Stmt.While _ _ _ _ :: _) _) _ _ _)); first | (k_unfold; (try dsimp only)) | walk1 | (dsimp only; walk1))
  refine wpAny_mono (lit _ _ _ (by conv => lhs; whnf) (by conv => lhs; whnf) (hB _ _ (by assumption) (by assumption))) (fun f s9 h9 => ?_) (fun _ _ z => z)
  cases f with
  | next => (repeat (first | exact h9 | refine wpAny_execs_nil ?_))
  | _ => exact h9
theorem join_2 {w : World} {loose : List Str} {mean : ExcName → Option Value} {mg mb : Str → Option Value} {A : Around} {a : Addr} {cd : Value}
    {base : Heap} {L : Addr} {m : Str → Option Value} {s : Shared} {E : Value → Shared → Prop} {Q : Flow → Shared → Prop} {news : List (Addr × Obj)} {Dg : Addr} {ys : List Value} {ny q p : Nat} {S : List Str} {ht pt : Tok}
    (F : Fr base L s.heap m) (X : (hd.heap_1 w.params).In base) (N : News base L s.heap news) (T : Top hd.view_39 loose mean mg mb base)
    (hm : Has m [(Str.ofString "here", .int (q : Int) ht), (Str.ofString "at", .int (p : Int) pt), (Str.ofString "signs", .ref Dg)]) (hDg : (Dg, W.listOf ys.toArray ny) ∈ news) (hy : StrsAre ys S) (hSl : S.length ≤ 100) (hb : ∀ x ∈ S, x.length ≤ 10) (hq : q ≤ p) (hp : p ≤ S.length)
    (hQ : ∀ h' tk t, Fr base L h' (setM m (Str.ofString "want") (.str (cat ((S.drop q).take (p - q))) t)) → News base L h' news → Q .next { s with heap := h', toks := tk }) :
    wpAny (model PySem.Challenge.rw_kq0016_05.row.prog w) A (exec (wS 2 1) (lawEnv L a cd)) Q E s := by
  have hyl : ys.length = S.length := hy.length
  have hpk := pick_sub (l := ys) (j := q) (e := p) hq (by omega)
  have hzc : StrsAre ((ys.drop q).take (p - q)) ((S.drop q).take (p - q)) := strs_take _ (strs_drop q hy)
  have hb2 : ∀ x ∈ (S.drop q).take (p - q), x.length ≤ 10 := fun x hx => hb x (List.mem_of_mem_drop (List.mem_of_mem_take hx))
  have hcl2 : ((S.drop q).take (p - q)).length ≤ 1000 := by rw [List.length_take, List.length_drop]; omega
  have fin : ∀ h' tk t t4, Fr base L h' (fun y => if y = Str.ofString "want" then some (.str (cat ((S.drop q).take (p - q))) t) else chainOf [(Str.ofString "here", .int (q : Int) ht), (Str.ofString "at", .int (p : Int) pt), (Str.ofString "signs", .ref Dg)] m y) → News base L h' (t4 :: news) → Q .next { s with heap := h', toks := tk } := fun h' tk t t4 F' N' => hQ h' tk t (hm.back F') (fun z hz => N' z (List.mem_cons_of_mem _ hz))
  clear hb
  generalize (S.drop q).take (p - q) = W at *
  refine law_lit (by conv => lhs; whnf) (by conv => lhs; whnf) ?_
  have F₁ := hm.fr F
  dsimp only [chainOf] at F₁
  clear F hQ hm
  k_steps
  exact fin _ _ _ _ (by assumption) (by assumption)
theorem loop_2 {w : World} {loose : List Str} {mean : ExcName → Option Value} {mg mb : Str → Option Value} {A : Around} {a : Addr} {cd : Value}
    {base : Heap} {L : Addr} {m : Str → Option Value} {s : Shared} {E : Value → Shared → Prop} {Q : Flow → Shared → Prop} {news : List (Addr × Obj)} {Dg Ds : Addr} {ys os : List Value} {ny no q top c : Nat} {S : List Str} {qt tt ht ct : Tok}
    (F : Fr base L s.heap m) (X : (hd.heap_1 w.params).In base) (N : News base L s.heap news) (T : Top hd.view_39 loose mean mg mb base)
    (hm : Has m ((Str.ofString "at", .int (q : Int) qt) :: [(Str.ofString "top", .int (top : Int) tt), (Str.ofString "signs", .ref Dg), (Str.ofString "here", .int (q : Int) ht), (Str.ofString "count", .int (c : Int) ct), (Str.ofString "some", .ref Ds)])) (hDg : (Dg, W.listOf ys.toArray ny) ∈ news) (hy : StrsAre ys S) (hSl : S.length ≤ 100) (hh : A.handled = none) (htl : top ≤ S.length) (hq : q ≤ top) (hDs : (Ds, W.listOf os.toArray no) ∈ news) (ho : StrsAre os some5)
    (hE : PassesOwn (model PySem.Challenge.rw_kq0016_05.row.prog w) A (lawEnv L a cd) E)
    (hQ : ∀ h' tk m' (p : Nat) pt, Stop (fun z => some5.any (· == z)) S q (min top (q + c)) p → m' (Str.ofString "at") = some (.int (p : Int) pt) → Oth wantX m' m → Fr base L h' m' → News base L h' news → Q .next { s with heap := h', toks := tk }) :
    wpAny (model PySem.Challenge.rw_kq0016_05.row.prog w) A (exec (wS 2 0) (lawEnv L a cd)) Q E s := by
  refine law_lit (by conv => lhs; whnf) (by conv => lhs; whnf) ?_
  obtain ⟨M, hM⟩ : ∃ M, M = min top (q + c) := ⟨_, rfl⟩
  rw [← hM] at hQ
  have eM : (if ((q : Int) + (c : Int)) < (top : Int) then ((q : Int) + (c : Int)) else (top : Int)) = (M : Int) := by
    rw [hM]; split <;> omega
  have hMt : M ≤ top := by omega
  have hqM : q ≤ M := by omega
  clear hM
  refine wpAny_mono (Q := fun f s' => f = .next ∧ RunE S (fun z => some5.any (· == z)) q M [(Str.ofString "top", .int (top : Int) tt), (Str.ofString "signs", .ref Dg), (Str.ofString "here", .int (q : Int) ht), (Str.ofString "count", .int (c : Int) ct), (Str.ofString "some", .ref Ds)] news m base L s s') ?loop ?cont (fun _ _ z => z)
  case cont =>
    rintro f s' ⟨rfl, p, pt, h₁, tk₁, m₁, rfl, hs, h5, h6, F₃, N₃⟩
    exact hQ h₁ tk₁ m₁ p pt hs (h5.get List.mem_cons_self) h6 F₃ N₃
  case loop =>
    refine While_inv2 (n₀ := M - q) (RunJ S (fun z => some5.any (· == z)) q M [(Str.ofString "top", .int (top : Int) tt), (Str.ofString "signs", .ref Dg), (Str.ofString "here", .int (q : Int) ht), (Str.ofString "count", .int (c : Int) ct), (Str.ofString "some", .ref Ds)] news m) F N ⟨q, qt, rfl, Nat.le_refl _, by omega, fun k a b => by omega, hm, fun _ _ => rfl, rfl⟩ ?turn hE
    case turn =>
      clear hQ
      rintro n m₁ news₁ h₁ tk₁ F₃ N₃ ⟨p, pt, rfl, h2, h3, h4, h5, h6, rfl⟩
      have F₁ := h5.fr F₃
      dsimp only [chainOf] at F₁
      have fin : ∀ h' tk, Stop (fun z => some5.any (· == z)) S q M p → Fr base L h' (chainOf ((Str.ofString "at", .int (p : Int) pt) :: [(Str.ofString "top", .int (top : Int) tt), (Str.ofString "signs", .ref Dg), (Str.ofString "here", .int (q : Int) ht), (Str.ofString "count", .int (c : Int) ct), (Str.ofString "some", .ref Ds)]) m₁) → News base L h' news₁ → RunE S (fun z => some5.any (· == z)) q M [(Str.ofString "top", .int (top : Int) tt), (Str.ofString "signs", .ref Dg), (Str.ofString "here", .int (q : Int) ht), (Str.ofString "count", .int (c : Int) ct), (Str.ofString "some", .ref Ds)] news₁ m base L s { s with heap := h', toks := tk } := fun h' tk hs F' N' => ⟨p, pt, h', tk, m₁, rfl, hs, h5, h6, un_chain h5 F', N'⟩
      have hp0 : (0 : Int) ≤ (p : Int) := Int.natCast_nonneg p
      have fin2 : ∀ h' tk v t, (∃ z, S[p]? = some z ∧ (fun z => some5.any (· == z)) z = true) → p < M → Fr base L h' (fun z9 => if z9 = Str.ofString "at" then some (.int v t) else chainOf ((Str.ofString "at", .int (p : Int) pt) :: [(Str.ofString "top", .int (top : Int) tt), (Str.ofString "signs", .ref Dg), (Str.ofString "here", .int (q : Int) ht), (Str.ofString "count", .int (c : Int) ct), (Str.ofString "some", .ref Ds)]) m₁ z9) → v = ((p + 1 : Nat) : Int) → News base L h' news₁ → ∃ h'' tk' m₂ news₂ n', ({ s with heap := h', toks := tk } : Shared) = { s with heap := h'', toks := tk' } ∧ Fr base L h'' m₂ ∧ News base L h'' news₂ ∧ n' < M - p ∧ RunJ S (fun z => some5.any (· == z)) q M [(Str.ofString "top", .int (top : Int) tt), (Str.ofString "signs", .ref Dg), (Str.ofString "here", .int (q : Int) ht), (Str.ofString "count", .int (c : Int) ct), (Str.ofString "some", .ref Ds)] news₁ m n' m₂ news₂ := by
        intro h' tk v t hz hlt F' hv N'
        subst hv
        have h5t : Has m₁ [(Str.ofString "top", .int (top : Int) tt), (Str.ofString "signs", .ref Dg), (Str.ofString "here", .int (q : Int) ht), (Str.ofString "count", .int (c : Int) ct), (Str.ofString "some", .ref Ds)] := (by repeat (with_reducible first | exact Has.nil | refine Has.consM h5 (by repeat (with_reducible first | exact List.mem_cons_self | apply List.mem_cons_of_mem)) ?_))
        refine ⟨h', tk, _, news₁, M - (p + 1), rfl, h5.back F', N', by omega, p + 1, t, rfl, by omega, by omega, fun k a b => ?_, h5t.put (by kernel_rfl), oth_a.tr h6, rfl⟩
        by_cases hk : k < p
        · exact h4 k a hk
        · have : k = p := by omega
          rw [this]; exact hz
      clear F₃ F N
      by_cases hp : p < M
      · have hpS : p < S.length := by omega
        have c1 : (p : Int) < (M : Int) := by omega
        obtain ⟨z, hz1, hz2⟩ : ∃ z, S[p]? = some z ∧ S.getD (p : Int).toNat Str.empty = z := ⟨S[p], List.getElem?_eq_getElem hpS, by rw [Int.toNat_natCast]; exact (List.getElem_eq_getD (h := hpS) _).symm⟩
        clear h6
        cases hin : some5.any (· == z)
        · k_steps
          all_goals first | exact True.intro | exact fin _ _ ⟨h2, h3, h4, .inr ⟨z, hz1, hin⟩⟩ (by assumption) (by assumption)
        · k_steps
          exact fin2 _ _ _ _ ⟨z, hz1, hin⟩ hp (by assumption) (by omega) (by assumption)
      · have c1 : ¬ (p : Int) < (M : Int) := by omega
        k_steps
        all_goals first | exact True.intro | exact fin _ _ ⟨h2, h3, h4, .inl (by omega)⟩ (by assumption) (by assumption)
theorem if_2 {w : World} {loose : List Str} {mean : ExcName → Option Value} {mg mb : Str → Option Value} {A : Around} {a : Addr} {cd : Value}
    {base : Heap} {L : Addr} {m : Str → Option Value} {s : Shared} {E : Value → Shared → Prop} {Q : Flow → Shared → Prop} {news : List (Addr × Obj)} {Dg Tw Ds : Addr} {ys os : List Value} {ny no q top c p : Nat} {S : List Str} {lo : Bool} {pt tt ht ct : Tok}
    (F : Fr base L s.heap m) (X : (hd.heap_1 w.params).In base) (N : News base L s.heap news) (T : Top hd.view_39 loose mean mg mb base)
    (hm : Has m [(Str.ofString "lone", .bool lo), (Str.ofString "at", .int (p : Int) pt), (Str.ofString "top", .int (top : Int) tt), (Str.ofString "here", .int (q : Int) ht), (Str.ofString "count", .int (c : Int) ct), (Str.ofString "signs", .ref Dg), (Str.ofString "some", .ref Ds), (Str.ofString "stuck", .ref Tw)]) (hDg : (Dg, W.listOf ys.toArray ny) ∈ news) (hy : StrsAre ys S) (hSl : S.length ≤ 100) (hS1 : 1 ≤ S.length) (htop : top = top5 lo S) (hDs : (Ds, W.listOf os.toArray no) ∈ news) (ho : StrsAre os some5)
    (hY : (lo = true ∧ p = top ∧ p < q + c ∧ ∃ z, S[p]? = some z ∧ some5.any (· == z) = true) → ∀ h' tk, Fr base L h' (setM m (Str.ofString "want") (.ref Tw)) → News base L h' news → Q .next { s with heap := h', toks := tk })
    (hN : ¬ (lo = true ∧ p = top ∧ p < q + c ∧ ∃ z, S[p]? = some z ∧ some5.any (· == z) = true) → ∀ h' tk, Fr base L h' m → News base L h' news → Q .next { s with heap := h', toks := tk }) :
    wpAny (model PySem.Challenge.rw_kq0016_05.row.prog w) A (exec (wS 2 2) (lawEnv L a cd)) Q E s := by
  have finY : (lo = true ∧ p = top ∧ p < q + c ∧ ∃ z, S[p]? = some z ∧ some5.any (· == z) = true) → ∀ h' tk, Fr base L h' (fun y => if y = Str.ofString "want" then some (.ref Tw) else chainOf [(Str.ofString "lone", .bool lo), (Str.ofString "at", .int (p : Int) pt), (Str.ofString "top", .int (top : Int) tt), (Str.ofString "here", .int (q : Int) ht), (Str.ofString "count", .int (c : Int) ct), (Str.ofString "signs", .ref Dg), (Str.ofString "some", .ref Ds), (Str.ofString "stuck", .ref Tw)] m y) → News base L h' news → Q .next { s with heap := h', toks := tk } := fun h h' tk F' N' => hY h h' tk (hm.back F') N'
  have finN : ¬ (lo = true ∧ p = top ∧ p < q + c ∧ ∃ z, S[p]? = some z ∧ some5.any (· == z) = true) → ∀ h' tk, Fr base L h' (chainOf [(Str.ofString "lone", .bool lo), (Str.ofString "at", .int (p : Int) pt), (Str.ofString "top", .int (top : Int) tt), (Str.ofString "here", .int (q : Int) ht), (Str.ofString "count", .int (c : Int) ct), (Str.ofString "signs", .ref Dg), (Str.ofString "some", .ref Ds), (Str.ofString "stuck", .ref Tw)] m) → News base L h' news → Q .next { s with heap := h', toks := tk } := fun h h' tk F' N' => hN h h' tk (un_chain hm F') N'
  clear hY hN
  have hp0 : (0 : Int) ≤ (p : Int) := Int.natCast_nonneg p
  refine law_lit (by conv => lhs; whnf) (by conv => lhs; whnf) ?_
  have F₁ := hm.fr F
  dsimp only [chainOf] at F₁
  clear F hm
  cases lo
  · k_steps
    exact finN (fun z => (Bool.false_ne_true z.1).elim) _ _ (by assumption) (by assumption)
  · by_cases hpt : p = top
    · have c2 : ((p : Int) == (top : Int)) = true := by rw [hpt]; exact beq_self_eq_true _
      by_cases hpc : p < q + c
      · have c3 : (p : Int) < (q : Int) + (c : Int) := by omega
        have hpS : p < S.length := by rw [hpt, htop]; show S.length - 1 < _; omega
        obtain ⟨z, hz1, hz2⟩ : ∃ z, S[p]? = some z ∧ S.getD (p : Int).toNat Str.empty = z := ⟨S[p], List.getElem?_eq_getElem hpS, by rw [Int.toNat_natCast]; exact (List.getElem_eq_getD (h := hpS) _).symm⟩
        cases hin : some5.any (· == z)
        · k_steps
          refine finN (fun w => ?_) _ _ (by assumption) (by assumption)
          obtain ⟨-, -, -, z2, e1, e2⟩ := w
          rw [hz1] at e1
          obtain rfl := Option.some.inj e1
          rw [hin] at e2; cases e2
        · k_steps
          exact finY ⟨rfl, hpt, hpc, z, hz1, hin⟩ _ _ (by assumption) (by assumption)
      · have c3 : ¬ (p : Int) < (q : Int) + (c : Int) := by omega
        k_steps
        exact finN (fun w => hpc w.2.2.1) _ _ (by assumption) (by assumption)
    · have c2 : ((p : Int) == (top : Int)) = false := by rw [beq_eq_false_iff_ne]; omega
      k_steps
      exact finN (fun w => hpt w.2.1) _ _ (by assumption) (by assumption)
theorem want_2 {w : World} {loose : List Str} {mean : ExcName → Option Value} {mg mb : Str → Option Value} {A : Around} {a : Addr} {cd : Value}
    {base : Heap} {L : Addr} {m : Str → Option Value} {s : Shared} {E : Value → Shared → Prop} {Q : Flow → Shared → Prop} {news : List (Addr × Obj)} {Dg Tw Ds : Addr} {ys os : List Value} {ny no q top c : Nat} {S : List Str} {lo : Bool} {D : Str} {gv : Value} {dt qt tt ht ct u1 u2 u3 u4 u5 : Tok}
    (F : Fr base L s.heap m) (X : (hd.heap_1 w.params).In base) (N : News base L s.heap news) (T : Top hd.view_39 loose mean mg mb base) (hh : A.handled = none)
    (hm : Has m ((Str.ofString "deed", .int 2 dt) :: (Str.ofString "at", .int (q : Int) qt) :: [(Str.ofString "top", .int (top : Int) tt), (Str.ofString "lone", .bool lo), (Str.ofString "stuck", .ref Tw), (Str.ofString "signs", .ref Dg), (Str.ofString "here", .int (q : Int) ht), (Str.ofString "count", .int (c : Int) ct), (Str.ofString "some", .ref Ds), (Str.ofString "want", .none)])) (hDg : (Dg, W.listOf ys.toArray ny) ∈ news) (hy : StrsAre ys S) (hSl : S.length ≤ 100) (hS1 : 1 ≤ S.length) (hb : ∀ x ∈ S, x.length ≤ 10) (htop : top = top5 lo S) (hq : q ≤ top) (hDs : (Ds, W.listOf os.toArray no) ∈ news) (ho : StrsAre os some5)
    (hTw : (Tw, wholeO (Str.ofString "bad escape (end of pattern)") gv D.cps.toList ((D.length : Int) - 1) u1 u2 u3 u4 u5) ∈ news) (hgv : SameV gv gv)
    (hE : PassesOwn (model PySem.Challenge.rw_kq0016_05.row.prog w) A (lawEnv L a cd) E)
    (hQ : ∀ h' tk m' w' (q' : Nat) qt' o, Stop (fun z => some5.any (· == z)) S q (min top (q + c)) q' → (((lo = true ∧ q' = top ∧ q' < q + c ∧ (∃ z, S[q']? = some z ∧ some5.any (· == z) = true) ∧ o = badO D) ∨ (¬ (lo = true ∧ q' = top ∧ q' < q + c ∧ ∃ z, S[q']? = some z ∧ some5.any (· == z) = true) ∧ o = .text (cat ((S.drop q).take (q' - q)))))) → m' (Str.ofString "want") = some w' → m' (Str.ofString "at") = some (.int (q' : Int) qt') → Oth wantX m' m → Fr base L h' m' → News base L h' news → OutAt gv D.cps.toList news w' o → Q .next { s with heap := h', toks := tk }) :
    wpAny (model PySem.Challenge.rw_kq0016_05.row.prog w) A (exec (tStmt 8) (lawEnv L a cd)) Q E s := by
  have htl : top ≤ S.length := by rw [htop]; unfold top5; split <;> omega
  refine in_2 F X N T (by repeat (with_reducible first | exact Has.nil | refine Has.consM hm (by repeat (with_reducible first | exact List.mem_cons_self | apply List.mem_cons_of_mem)) ?_)) (fun h1 tk1 F1 N1 => ?_)
  rw [show wBody 2 = [wS 2 0, wS 2 1, wS 2 2] from rfl]
  refine wpAny_execs_cons (loop_2 F1 X N1 T (by repeat (with_reducible first | exact Has.nil | refine Has.consM hm (by repeat (with_reducible first | exact List.mem_cons_self | apply List.mem_cons_of_mem)) ?_)) hDg hy hSl hh htl hq hDs ho hE (fun h2 tk2 m2 p pt hs ha2 o2 F2 N2 => ?_))
  have H2 : Has m2 ((Str.ofString "at", .int (p : Int) pt) :: [(Str.ofString "top", .int (top : Int) tt), (Str.ofString "lone", .bool lo), (Str.ofString "stuck", .ref Tw), (Str.ofString "signs", .ref Dg), (Str.ofString "here", .int (q : Int) ht), (Str.ofString "count", .int (c : Int) ct), (Str.ofString "some", .ref Ds)]) := Has.cons ha2 (Has.oth (l := [(Str.ofString "top", .int (top : Int) tt), (Str.ofString "lone", .bool lo), (Str.ofString "stuck", .ref Tw), (Str.ofString "signs", .ref Dg), (Str.ofString "here", .int (q : Int) ht), (Str.ofString "count", .int (c : Int) ct), (Str.ofString "some", .ref Ds)]) (by repeat (with_reducible first | exact Has.nil | refine Has.consM hm (by repeat (with_reducible first | exact List.mem_cons_self | apply List.mem_cons_of_mem)) ?_)) o2 (by kernel_rfl))
  have hqp : q ≤ p := hs.1
  have hpS : p ≤ S.length := by have := hs.2.1; omega
  refine wpAny_execs_cons (join_2 (q := q) (p := p) (S := S) F2 X N2 T (by repeat (with_reducible first | exact Has.nil | refine Has.consM H2 (by repeat (with_reducible first | exact List.mem_cons_self | apply List.mem_cons_of_mem)) ?_)) hDg hy hSl hb hqp hpS (fun h3 tk3 wt F3 N3 => ?_))
  have H3 := H2.set (n := Str.ofString "want") (v := .str (cat ((S.drop q).take (p - q))) wt) (by kernel_rfl)
  have ha3 : setM m2 (Str.ofString "want") (.str (cat ((S.drop q).take (p - q))) wt) (Str.ofString "at") = some (.int (p : Int) pt) := H3.get List.mem_cons_self
  refine wpAny_execs_cons (if_2 (q := q) (p := p) (S := S) F3 X N3 T (by repeat (with_reducible first | exact Has.nil | refine Has.consM H3 (by repeat (with_reducible first | exact List.mem_cons_self | apply List.mem_cons_of_mem)) ?_)) hDg hy hSl hS1 htop hDs ho (fun hc h4 tk4 F4 N4 => ?_) (fun hc h4 tk4 F4 N4 => ?_))
  · exact wpAny_execs_nil (hQ h4 tk4 _ (.ref Tw) p pt (badO D) hs (.inl ⟨hc.1, hc.2.1, hc.2.2.1, hc.2.2.2, rfl⟩) (if_pos rfl) ((if_neg (by decide)).trans ha3) (oth_w.tr (oth_w.tr o2)) F4 N4 ⟨Tw, gv, u1, u2, u3, u4, u5, rfl, hgv, hTw⟩)
  · exact wpAny_execs_nil (hQ h4 tk4 _ _ p pt (.text (cat ((S.drop q).take (p - q)))) hs (.inr ⟨hc, rfl⟩) (if_pos rfl) ha3 (oth_w.tr o2) F4 N4 ⟨wt, rfl⟩)
end Mine
end

local macro_rules | `(tactic| walk_at "subscriptTail") => wl 3 "" "subscriptTail _ _ Value.ref _ @1 Value.int _ _ @2 @4" `int_itemE "abcdef_" "aacwb3fwdoeo" "tk'" "" []
section
open PySem PySem.W PySem.Calls PySem.Spec PyProof.Rows
set_option maxRecDepth 100000
set_option maxHeartbeats 2000000
namespace Mine
theorem anew16 : True := by
  w_top off
  exact True.intro
open TI
theorem fillL5G (P : Params) : hd.heap_1 P = hd.heap_1 P ∧ PySem.Challenge.rw_kq0016_05 = PySem.Challenge.rw_kq0016_05 := by
  k_fill
  exact ⟨rfl, rfl⟩
theorem ne_strR {prog : Program} {w : World} {A : Around} {E : Value → Shared → Prop} {s : Shared} {x y : Str} {t u : Tok} {Q : Value → Shared → Prop} {r : Bool} (e : (x != y) = r) (h : Q (.bool r) s) : wpAny (model prog w) A (compareOp .NotEq (.str x t) (.str y u)) Q E s := P.ne_str (by
  have e2 : (x.cps.toList != y.cps.toList) = (x != y) := by
    by_cases hx : x = y
    · subst hx; rw [bne_self_eq_false, bne_self_eq_false]
    · have h2 : x.cps.toList ≠ y.cps.toList := fun z => hx (str_ext z)
      rw [bne_iff_ne.mpr h2, bne_iff_ne.mpr hx]
  rw [e2, e]; exact h)
local macro_rules | `(tactic| walk_at "compareOp NotEq str str") => wl 1 "" "" `ne_strR "'w_" "" "" "" []
local macro_rules | `(tactic| walk_at "call ref") => wl 3 "" "call Value.ref #144 @1 _ @2" `whole_cI "____a_b___" ".1anb5.2" "h' tk' T' tp' tl' tc' tw' F' N' o1'" "" ["Sh.le !w !d @2"]
local macro_rules | `(tactic| walk_at "binaryOp Add str str") => wl 3 "" "" `add_sh "abc_" "awbwcd" "t' k' sh'" "" []
theorem in_3 {w : World} {loose : List Str} {mean : ExcName → Option Value} {mg mb : Str → Option Value} {A : Around} {a : Addr} {cd : Value}
    {base : Heap} {L : Addr} {m : Str → Option Value} {s : Shared} {E : Value → Shared → Prop} {Q : Flow → Shared → Prop} {news : List (Addr × Obj)} {dt : Tok}
    (F : Fr base L s.heap m) (X : (hd.heap_1 w.params).In base) (N : News base L s.heap news) (T : Top hd.view_39 loose mean mg mb base) (hm : Has m [(Str.ofString "deed", .int 3 dt)])
    (hB : ∀ h' tk, Fr base L h' m → News base L h' news → wpAny (model PySem.Challenge.rw_kq0016_05.row.prog w) A (execs (wBody 3) (lawEnv L a cd)) Q E { s with heap := h', toks := tk }) :
    wpAny (model PySem.Challenge.rw_kq0016_05.row.prog w) A (exec (tStmt 8) (lawEnv L a cd)) Q E s := by
  have lit : ∀ (s' : Shared) x y, wBody 3 = x → lawScope = y → wpAny (model PySem.Challenge.rw_kq0016_05.row.prog w) A (execs (wBody 3) (lawEnv L a cd)) Q E s' → wpAny (model PySem.Challenge.rw_kq0016_05.row.prog w) A (execs x (envOfC (Str.ofString "law") y L a cd)) Q E s' := by
    intro s' x y h1 h2 h3
    rw [← h1, ← h2]; exact h3
  refine law_lit (by conv => lhs; whnf) (by conv => lhs; whnf) ?_
  have F₁ := hm.fr F
  dsimp only [chainOf] at F₁
  have hF : (fun y => if y = Str.ofString "deed" then some (Value.int 3 dt) else m y) = m := chain_eq hm
  rw [← hF] at hB
  clear F hm hF
  repeat ((fail_if_success (with_reducible show wpAny _ _ (execs (Stmt.While _ _ _ _ :: _) _) _ _ _)); first | (k_unfold; (try dsimp only)) | walk1 | (dsimp only; walk1))
  refine wpAny_mono (lit _ _ _ (by conv => lhs; whnf) (by conv => lhs; whnf) (hB _ _ (by assumption) (by assumption))) (fun f s9 h9 => ?_) (fun _ _ z => z)
  cases f with
  | next => (repeat (first | exact h9 | refine wpAny_execs_nil ?_))
  | _ => exact h9
theorem join_3 {w : World} {loose : List Str} {mean : ExcName → Option Value} {mg mb : Str → Option Value} {A : Around} {a : Addr} {cd : Value}
    {base : Heap} {L : Addr} {m : Str → Option Value} {s : Shared} {E : Value → Shared → Prop} {Q : Flow → Shared → Prop} {news : List (Addr × Obj)} {Dg : Addr} {ys : List Value} {ny q p : Nat} {S : List Str} {ht pt : Tok}
    (F : Fr base L s.heap m) (X : (hd.heap_1 w.params).In base) (N : News base L s.heap news) (T : Top hd.view_39 loose mean mg mb base)
    (hm : Has m [(Str.ofString "here", .int (q : Int) ht), (Str.ofString "at", .int (p : Int) pt), (Str.ofString "signs", .ref Dg)]) (hDg : (Dg, W.listOf ys.toArray ny) ∈ news) (hy : StrsAre ys S) (hSl : S.length ≤ 100) (hb : ∀ x ∈ S, x.length ≤ 10) (hq : q ≤ p) (hp : p ≤ S.length)
    (hQ : ∀ h' tk t, Fr base L h' (setM m (Str.ofString "want") (.str (cat ((S.drop q).take (p - q))) t)) → News base L h' news → Q .next { s with heap := h', toks := tk }) :
    wpAny (model PySem.Challenge.rw_kq0016_05.row.prog w) A (exec (wS 3 1) (lawEnv L a cd)) Q E s := by
  have hyl : ys.length = S.length := hy.length
  have hpk := pick_sub (l := ys) (j := q) (e := p) hq (by omega)
  have hzc : StrsAre ((ys.drop q).take (p - q)) ((S.drop q).take (p - q)) := strs_take _ (strs_drop q hy)
  have hb2 : ∀ x ∈ (S.drop q).take (p - q), x.length ≤ 10 := fun x hx => hb x (List.mem_of_mem_drop (List.mem_of_mem_take hx))
  have hcl2 : ((S.drop q).take (p - q)).length ≤ 1000 := by rw [List.length_take, List.length_drop]; omega
  have fin : ∀ h' tk t t4, Fr base L h' (fun y => if y = Str.ofString "want" then some (.str (cat ((S.drop q).take (p - q))) t) else chainOf [(Str.ofString "here", .int (q : Int) ht), (Str.ofString "at", .int (p : Int) pt), (Str.ofString "signs", .ref Dg)] m y) → News base L h' (t4 :: news) → Q .next { s with heap := h', toks := tk } := fun h' tk t t4 F' N' => hQ h' tk t (hm.back F') (fun z hz => N' z (List.mem_cons_of_mem _ hz))
  clear hb
  generalize (S.drop q).take (p - q) = W at *
  refine law_lit (by conv => lhs; whnf) (by conv => lhs; whnf) ?_
  have F₁ := hm.fr F
  dsimp only [chainOf] at F₁
  clear F hQ hm
  k_steps
  exact fin _ _ _ _ (by assumption) (by assumption)
theorem loop_3 {w : World} {loose : List Str} {mean : ExcName → Option Value} {mg mb : Str → Option Value} {A : Around} {a : Addr} {cd : Value}
    {base : Heap} {L : Addr} {m : Str → Option Value} {s : Shared} {E : Value → Shared → Prop} {Q : Flow → Shared → Prop} {news : List (Addr × Obj)} {Dg : Addr} {ys : List Value} {ny q top : Nat} {S : List Str} {y : Str} {qt tt yt : Tok}
    (F : Fr base L s.heap m) (X : (hd.heap_1 w.params).In base) (N : News base L s.heap news) (T : Top hd.view_39 loose mean mg mb base)
    (hm : Has m ((Str.ofString "at", .int (q : Int) qt) :: [(Str.ofString "top", .int (top : Int) tt), (Str.ofString "signs", .ref Dg), (Str.ofString "sign", .str y yt)])) (hDg : (Dg, W.listOf ys.toArray ny) ∈ news) (hy : StrsAre ys S) (hSl : S.length ≤ 100) (htl : top ≤ S.length) (hq : q ≤ top)
    (hE : PassesOwn (model PySem.Challenge.rw_kq0016_05.row.prog w) A (lawEnv L a cd) E)
    (hQ : ∀ h' tk m' (p : Nat) pt, Stop (fun z => z != y) S q top p → m' (Str.ofString "at") = some (.int (p : Int) pt) → Oth wantX m' m → Fr base L h' m' → News base L h' news → Q .next { s with heap := h', toks := tk }) :
    wpAny (model PySem.Challenge.rw_kq0016_05.row.prog w) A (exec (wS 3 0) (lawEnv L a cd)) Q E s := by
  refine law_lit (by conv => lhs; whnf) (by conv => lhs; whnf) ?_
  refine wpAny_mono (Q := fun f s' => f = .next ∧ RunE S (fun z => z != y) q top [(Str.ofString "top", .int (top : Int) tt), (Str.ofString "signs", .ref Dg), (Str.ofString "sign", .str y yt)] news m base L s s') ?loop ?cont (fun _ _ z => z)
  case cont =>
    rintro f s' ⟨rfl, p, pt, h₁, tk₁, m₁, rfl, hs, h5, h6, F₃, N₃⟩
    exact hQ h₁ tk₁ m₁ p pt hs (h5.get List.mem_cons_self) h6 F₃ N₃
  case loop =>
    refine While_inv2 (n₀ := top - q) (RunJ S (fun z => z != y) q top [(Str.ofString "top", .int (top : Int) tt), (Str.ofString "signs", .ref Dg), (Str.ofString "sign", .str y yt)] news m) F N ⟨q, qt, rfl, Nat.le_refl _, by omega, fun k a b => by omega, hm, fun _ _ => rfl, rfl⟩ ?turn hE
    case turn =>
      clear hQ
      rintro n m₁ news₁ h₁ tk₁ F₃ N₃ ⟨p, pt, rfl, h2, h3, h4, h5, h6, rfl⟩
      have F₁ := h5.fr F₃
      dsimp only [chainOf] at F₁
      have fin : ∀ h' tk, Stop (fun z => z != y) S q top p → Fr base L h' (chainOf ((Str.ofString "at", .int (p : Int) pt) :: [(Str.ofString "top", .int (top : Int) tt), (Str.ofString "signs", .ref Dg), (Str.ofString "sign", .str y yt)]) m₁) → News base L h' news₁ → RunE S (fun z => z != y) q top [(Str.ofString "top", .int (top : Int) tt), (Str.ofString "signs", .ref Dg), (Str.ofString "sign", .str y yt)] news₁ m base L s { s with heap := h', toks := tk } := fun h' tk hs F' N' => ⟨p, pt, h', tk, m₁, rfl, hs, h5, h6, un_chain h5 F', N'⟩
      have hp0 : (0 : Int) ≤ (p : Int) := Int.natCast_nonneg p
      have fin2 : ∀ h' tk v t, (∃ z, S[p]? = some z ∧ (fun z => z != y) z = true) → p < top → Fr base L h' (fun z9 => if z9 = Str.ofString "at" then some (.int v t) else chainOf ((Str.ofString "at", .int (p : Int) pt) :: [(Str.ofString "top", .int (top : Int) tt), (Str.ofString "signs", .ref Dg), (Str.ofString "sign", .str y yt)]) m₁ z9) → v = ((p + 1 : Nat) : Int) → News base L h' news₁ → ∃ h'' tk' m₂ news₂ n', ({ s with heap := h', toks := tk } : Shared) = { s with heap := h'', toks := tk' } ∧ Fr base L h'' m₂ ∧ News base L h'' news₂ ∧ n' < top - p ∧ RunJ S (fun z => z != y) q top [(Str.ofString "top", .int (top : Int) tt), (Str.ofString "signs", .ref Dg), (Str.ofString "sign", .str y yt)] news₁ m n' m₂ news₂ := by
        intro h' tk v t hz hlt F' hv N'
        subst hv
        have h5t : Has m₁ [(Str.ofString "top", .int (top : Int) tt), (Str.ofString "signs", .ref Dg), (Str.ofString "sign", .str y yt)] := (by repeat (with_reducible first | exact Has.nil | refine Has.consM h5 (by repeat (with_reducible first | exact List.mem_cons_self | apply List.mem_cons_of_mem)) ?_))
        refine ⟨h', tk, _, news₁, top - (p + 1), rfl, h5.back F', N', by omega, p + 1, t, rfl, by omega, by omega, fun k a b => ?_, h5t.put (by kernel_rfl), oth_a.tr h6, rfl⟩
        by_cases hk : k < p
        · exact h4 k a hk
        · have : k = p := by omega
          rw [this]; exact hz
      clear F₃ F N
      by_cases hp : p < top
      · have hpS : p < S.length := by omega
        have c1 : (p : Int) < (top : Int) := by omega
        obtain ⟨z, hz1, hz2⟩ : ∃ z, S[p]? = some z ∧ S.getD (p : Int).toNat Str.empty = z := ⟨S[p], List.getElem?_eq_getElem hpS, by rw [Int.toNat_natCast]; exact (List.getElem_eq_getD (h := hpS) _).symm⟩
        clear h6
        cases hin : (z != y)
        · k_steps
          all_goals first | exact True.intro | exact fin _ _ ⟨h2, h3, h4, .inr ⟨z, hz1, hin⟩⟩ (by assumption) (by assumption)
        · k_steps
          exact fin2 _ _ _ _ ⟨z, hz1, hin⟩ hp (by assumption) (by omega) (by assumption)
      · have c1 : ¬ (p : Int) < (top : Int) := by omega
        k_steps
        all_goals first | exact True.intro | exact fin _ _ ⟨h2, h3, h4, .inl (by omega)⟩ (by assumption) (by assumption)
theorem plcs_at {S : List Str} {k : Nat} {i : Int} (h0 : i.toNat ≤ k) : (plcs S k)[i.toNat]? = some ((pl5 S i.toNat : Nat) : Int) := by
  unfold plcs; rw [List.getElem?_map, List.getElem?_range (by omega)]; rfl
def markB : List Stmt := ifBody (nthElse 2 (wS 3 2))
theorem w_mk {w : World} {loose : List Str} {mean : ExcName → Option Value} {mg mb : Str → Option Value} {A : Around} {a : Addr} {cd : Value}
    {base : Heap} {L : Addr} {m : Str → Option Value} {s : Shared} {E : Value → Shared → Prop} {Q : Flow → Shared → Prop} {news : List (Addr × Obj)} {b : Bool} {y : Str} {yt : Tok}
    (F : Fr base L s.heap m) (X : (hd.heap_1 w.params).In base) (N : News base L s.heap news) (T : Top hd.view_39 loose mean mg mb base)
    (hm : Has m [(Str.ofString "octets", .bool (!b)), (Str.ofString "sign", .str y yt)])
    (hQ : ∀ h' tk t, Fr base L h' (setM m (Str.ofString "mark") (.str (mark3 b y) t)) → News base L h' news → Q .next { s with heap := h', toks := tk }) :
    wpAny (model PySem.Challenge.rw_kq0016_05.row.prog w) A (exec (markB.getD 0 default) (lawEnv L a cd)) Q E s := by
  have fin : ∀ h' tk t, Fr base L h' (fun z9 => if z9 = Str.ofString "mark" then some (.str (mark3 b y) t) else chainOf [(Str.ofString "octets", .bool (!b)), (Str.ofString "sign", .str y yt)] m z9) → News base L h' news → Q .next { s with heap := h', toks := tk } := fun h' tk t F' N' => hQ h' tk t (hm.back F') N'
  refine law_lit (by conv => lhs; whnf) (by conv => lhs; whnf) ?_
  have F₁ := hm.fr F
  dsimp only [chainOf] at F₁
  clear F hQ hm
  cases b
  · cases hye : (y == Str.ofString "é")
    · have emk : mark3 false y = y := by unfold mark3; rw [hye]; rfl
      rw [emk] at fin
      k_steps
      exact fin _ _ _ (by assumption) (by assumption)
    · have emk : mark3 false y = Str.ofString "\\xe9" := by unfold mark3; rw [hye]; rfl
      rw [emk] at fin
      k_steps
      exact fin _ _ _ (by assumption) (by assumption)
  · have emk : mark3 true y = y := by unfold mark3; rfl
    rw [emk] at fin
    k_steps
    exact fin _ _ _ (by assumption) (by assumption)
theorem w_mw {w : World} {loose : List Str} {mean : ExcName → Option Value} {mg mb : Str → Option Value} {A : Around} {a : Addr} {cd : Value}
    {base : Heap} {L : Addr} {m : Str → Option Value} {s : Shared} {E : Value → Shared → Prop} {Q : Flow → Shared → Prop} {news : List (Addr × Obj)} {P : Addr} {zs : List Value} {nz q : Nat} {S : List Str} {mk D : Str} {gv : Value} {mt Dt ht : Tok}
    (F : Fr base L s.heap m) (X : (hd.heap_1 w.params).In base) (N : News base L s.heap news) (T : Top hd.view_39 loose mean mg mb base) (hd' : A.depth + 4 < recursionLimit)
    (hm : Has m [(Str.ofString "mark", .str mk mt), (Str.ofString "text", .str D Dt), (Str.ofString "given", gv), (Str.ofString "places", .ref P), (Str.ofString "here", .int (q : Int) ht)]) (hP : (P, W.listOf zs.toArray nz) ∈ news) (hz : IntsAre zs (plcs S S.length)) (hSl : S.length ≤ 100) (hD : D.length ≤ 2000) (hmk : mk.length ≤ 4) (hq : q ≤ S.length) (hpq3 : pl5 S q ≤ D.length)
    (hQ : ∀ h' tk T' t1 t2 t3 t4 t5, Fr base L h' (setM m (Str.ofString "want") (.ref T')) → News base L h' ((T', wholeO (Str.ofString "missing " ++ mk ++ Str.ofString ", unterminated name") gv D.cps.toList ((pl5 S q : Nat) : Int) t1 t2 t3 t4 t5) :: news) → (∀ z ∈ news, z.1 ≠ T') → Q .next { s with heap := h', toks := tk }) :
    wpAny (model PySem.Challenge.rw_kq0016_05.row.prog w) A (exec (markB.getD 1 default) (lawEnv L a cd)) Q E s := by
  have fin : ∀ h' tk T' t1 t2 t3 t4 t5, Fr base L h' (fun z9 => if z9 = Str.ofString "want" then some (.ref T') else chainOf [(Str.ofString "mark", .str mk mt), (Str.ofString "text", .str D Dt), (Str.ofString "given", gv), (Str.ofString "places", .ref P), (Str.ofString "here", .int (q : Int) ht)] m z9) → News base L h' ((T', wholeO (Str.ofString "missing " ++ mk ++ Str.ofString ", unterminated name") gv D.cps.toList ((pl5 S q : Nat) : Int) t1 t2 t3 t4 t5) :: news) → (∀ z ∈ news, z.1 ≠ T') → Q .next { s with heap := h', toks := tk } := fun h' tk T' t1 t2 t3 t4 t5 F' N' o => hQ h' tk T' t1 t2 t3 t4 t5 (hm.back F') N' o
  have hq0 : (0 : Int) ≤ (q : Int) := Int.natCast_nonneg q
  have hq2 : (plcs S S.length)[((q : Nat) : Int).toNat]? = some ((pl5 S q : Nat) : Int) := by
    have := plcs_at (S := S) (k := S.length) (i := (q : Int)) (by omega)
    rw [Int.toNat_natCast] at this ⊢; exact this
  have s2 : Sh 8 (Str.ofString "missing ") := by unfold Sh; decide +kernel
  have s3 : Sh 19 (Str.ofString ", unterminated name") := by unfold Sh; decide +kernel
  have s5 : Sh 4 mk := by unfold Sh; exact hmk
  refine law_lit (by conv => lhs; whnf) (by conv => lhs; whnf) ?_
  have F₁ := hm.fr F
  dsimp only [chainOf] at F₁
  clear F hQ hm
  k_steps
  exact fin _ _ _ _ _ _ _ _ (by assumption) (by assumption) (by assumption)
/-- an end is there -/
theorem if_3a {w : World} {loose : List Str} {mean : ExcName → Option Value} {mg mb : Str → Option Value} {A : Around} {a : Addr} {cd : Value}
    {base : Heap} {L : Addr} {m : Str → Option Value} {s : Shared} {E : Value → Shared → Prop} {Q : Flow → Shared → Prop} {news : List (Addr × Obj)} {P Tw : Addr} {zs : List Value} {nz q p top : Nat} {S : List Str} {Wc D : Str} {gv : Value} {pt tt wt Dt nt : Tok}
    (F : Fr base L s.heap m) (X : (hd.heap_1 w.params).In base) (N : News base L s.heap news) (T : Top hd.view_39 loose mean mg mb base) (hd' : A.depth + 4 < recursionLimit)
    (hm : Has m [(Str.ofString "at", .int (p : Int) pt), (Str.ofString "top", .int (top : Int) tt), (Str.ofString "want", .str Wc wt), (Str.ofString "text", .str D Dt), (Str.ofString "given", gv), (Str.ofString "places", .ref P)]) (hP : (P, W.listOf zs.toArray nz) ∈ news) (hz : IntsAre zs (plcs S S.length)) (hSl : S.length ≤ 100) (hD : D.length ≤ 2000) (hpt : p < top) (htl : top ≤ S.length) (hW0 : Wc.length = 0 ↔ p = q) (hWl : Wc.length ≤ 16777216) (hpos : 1 ≤ pl5 S (p + 1)) (hpd : pl5 S (p + 1) ≤ D.length) (hgv : SameV gv gv)
    (hQ : ∀ h' tk m' w' (q' : Nat) qt' o nw, q' = p + 1 → o = (if p = q then .whole (Str.ofString "missing thing") (((pl5 S (p + 1) : Nat) : Int) - 1) else .text Wc) → m' (Str.ofString "want") = some w' → m' (Str.ofString "at") = some (.int (q' : Int) qt') → Oth wantX m' m → Fr base L h' m' → News base L h' (nw ++ news) → OutAt gv D.cps.toList (nw ++ news) w' o → (∀ z ∈ nw, ∀ r ∈ news, r.1 ≠ z.1) → Q .next { s with heap := h', toks := tk }) :
    wpAny (model PySem.Challenge.rw_kq0016_05.row.prog w) A (exec (wS 3 2) (lawEnv L a cd)) Q E s := by
  have c1 : (p : Int) < (top : Int) := by omega
  have hp0 : (0 : Int) ≤ (p : Int) + 1 := by omega
  have he : (plcs S S.length)[((p : Int) + 1).toNat]? = some ((pl5 S (p + 1) : Nat) : Int) := by
    have e9 : ((p : Int) + 1).toNat = p + 1 := by omega
    have := plcs_at (S := S) (k := S.length) (i := (p : Int) + 1) (by omega)
    rw [e9] at this ⊢; exact this
  have s1 : Sh 100 (Str.ofString "missing thing") := by unfold Sh; decide +kernel
  have hwm : m (Str.ofString "want") = some (.str Wc wt) := hm.get (List.mem_cons_of_mem _ (List.mem_cons_of_mem _ List.mem_cons_self))
  refine law_lit (by conv => lhs; whnf) (by conv => lhs; whnf) ?_
  have F₁ := hm.fr F
  dsimp only [chainOf] at F₁
  clear F
  by_cases hpq : p = q
  · have tz : ((Wc.length : Int) != 0) = false := by simp [hW0.mpr hpq]
    have fin : ∀ h' tk T' t1 t2 t3 t4 t5 v9 t9, Fr base L h' (fun z9 => if z9 = Str.ofString "want" then some (.ref T') else if z9 = Str.ofString "at" then some (.int v9 t9) else chainOf [(Str.ofString "at", .int (p : Int) pt), (Str.ofString "top", .int (top : Int) tt), (Str.ofString "want", .str Wc wt), (Str.ofString "text", .str D Dt), (Str.ofString "given", gv), (Str.ofString "places", .ref P)] m z9) → v9 = ((p + 1 : Nat) : Int) → News base L h' ((T', wholeO (Str.ofString "missing thing") gv D.cps.toList (((pl5 S (p + 1) : Nat) : Int) - 1) t1 t2 t3 t4 t5) :: news) → (∀ z ∈ news, z.1 ≠ T') → Q .next { s with heap := h', toks := tk } := by
      intro h' tk T' t1 t2 t3 t4 t5 v9 t9 F' hv N' o
      subst hv
      exact hQ h' tk _ (.ref T') (p + 1) t9 (.whole (Str.ofString "missing thing") (((pl5 S (p + 1) : Nat) : Int) - 1)) [_] rfl (by rw [if_pos hpq]) (if_pos rfl) ((if_neg (by decide)).trans (if_pos rfl)) (oth_w.tr oth_a) (hm.back2 F') N' ⟨_, _, _, _, _, _, _, rfl, hgv, List.mem_cons_self⟩ (fun z hz r hr => by rw [List.mem_singleton.mp hz]; exact o r hr)
    clear hm hQ hW0 hwm
    k_steps
    exact fin _ _ _ _ _ _ _ _ _ _ (by assumption) (by omega) (by assumption) (by assumption)
  · have tz : ((Wc.length : Int) != 0) = true := by
      have : Wc.length ≠ 0 := fun z => hpq (hW0.mp z)
      simpa using this
    have fin : ∀ h' tk v9 t9, Fr base L h' (fun z9 => if z9 = Str.ofString "at" then some (.int v9 t9) else chainOf [(Str.ofString "at", .int (p : Int) pt), (Str.ofString "top", .int (top : Int) tt), (Str.ofString "want", .str Wc wt), (Str.ofString "text", .str D Dt), (Str.ofString "given", gv), (Str.ofString "places", .ref P)] m z9) → v9 = ((p + 1 : Nat) : Int) → News base L h' news → Q .next { s with heap := h', toks := tk } := by
      intro h' tk v9 t9 F' hv N'
      subst hv
      exact hQ h' tk _ (.str Wc wt) (p + 1) t9 (.text Wc) [] rfl (by rw [if_neg hpq]) ((if_neg (by decide)).trans hwm) (if_pos rfl) oth_a (hm.back F') N' ⟨_, rfl⟩ (fun z hz => nomatch hz)
    clear hm hQ hW0 hwm
    k_steps
    exact fin _ _ _ _ (by assumption) (by omega) (by assumption)
/-- a lone backslash is behind -/
theorem if_3b {w : World} {loose : List Str} {mean : ExcName → Option Value} {mg mb : Str → Option Value} {A : Around} {a : Addr} {cd : Value}
    {base : Heap} {L : Addr} {m : Str → Option Value} {s : Shared} {E : Value → Shared → Prop} {Q : Flow → Shared → Prop} {news : List (Addr × Obj)} {P Tw : Addr} {zs : List Value} {nz q p top : Nat} {S : List Str} {Wc D : Str} {gv : Value} {pt tt wt Dt nt : Tok}
    (F : Fr base L s.heap m) (X : (hd.heap_1 w.params).In base) (N : News base L s.heap news) (T : Top hd.view_39 loose mean mg mb base)
    (hm : Has m [(Str.ofString "at", .int (p : Int) pt), (Str.ofString "top", .int (top : Int) tt), (Str.ofString "lone", .bool true), (Str.ofString "stuck", .ref Tw)]) (hpt : ¬ p < top)
    (hQ : ∀ h' tk, Fr base L h' (setM m (Str.ofString "want") (.ref Tw)) → News base L h' news → Q .next { s with heap := h', toks := tk }) :
    wpAny (model PySem.Challenge.rw_kq0016_05.row.prog w) A (exec (wS 3 2) (lawEnv L a cd)) Q E s := by
  have c1 : ¬ (p : Int) < (top : Int) := by omega
  have fin : ∀ h' tk, Fr base L h' (fun z9 => if z9 = Str.ofString "want" then some (.ref Tw) else chainOf [(Str.ofString "at", .int (p : Int) pt), (Str.ofString "top", .int (top : Int) tt), (Str.ofString "lone", .bool true), (Str.ofString "stuck", .ref Tw)] m z9) → News base L h' news → Q .next { s with heap := h', toks := tk } := fun h' tk F' N' => hQ h' tk (hm.back F') N'
  refine law_lit (by conv => lhs; whnf) (by conv => lhs; whnf) ?_
  have F₁ := hm.fr F
  dsimp only [chainOf] at F₁
  clear F hQ hm
  k_steps
  exact fin _ _ (by assumption) (by assumption)
/-- no end, and something stands there -/
theorem if_3c {w : World} {loose : List Str} {mean : ExcName → Option Value} {mg mb : Str → Option Value} {A : Around} {a : Addr} {cd : Value}
    {base : Heap} {L : Addr} {m : Str → Option Value} {s : Shared} {E : Value → Shared → Prop} {Q : Flow → Shared → Prop} {news : List (Addr × Obj)} {P Tw : Addr} {zs : List Value} {nz q p top : Nat} {S : List Str} {Wc D : Str} {gv : Value} {pt tt wt Dt nt : Tok}
    (F : Fr base L s.heap m) (X : (hd.heap_1 w.params).In base) (N : News base L s.heap news) (T : Top hd.view_39 loose mean mg mb base)
    (hm : Has m [(Str.ofString "at", .int (p : Int) pt), (Str.ofString "top", .int (top : Int) tt), (Str.ofString "lone", .bool false), (Str.ofString "want", .str Wc wt)]) (hpt : ¬ p < top) (tz : ((Wc.length : Int) != 0) = true) (hWl : Wc.length ≤ 16777216)
    (hB : ∀ h' tk, Fr base L h' m → News base L h' news → wpAny (model PySem.Challenge.rw_kq0016_05.row.prog w) A (execs markB (lawEnv L a cd)) Q E { s with heap := h', toks := tk }) :
    wpAny (model PySem.Challenge.rw_kq0016_05.row.prog w) A (exec (wS 3 2) (lawEnv L a cd)) Q E s := by
  have c1 : ¬ (p : Int) < (top : Int) := by omega
  have lit : ∀ (s' : Shared) x y, markB = x → lawScope = y → wpAny (model PySem.Challenge.rw_kq0016_05.row.prog w) A (execs markB (lawEnv L a cd)) Q E s' → wpAny (model PySem.Challenge.rw_kq0016_05.row.prog w) A (execs x (envOfC (Str.ofString "law") y L a cd)) Q E s' := by
    intro s' x y h1 h2 h3
    rw [← h1, ← h2]; exact h3
  have hB2 : ∀ h' tk, Fr base L h' (chainOf [(Str.ofString "at", .int (p : Int) pt), (Str.ofString "top", .int (top : Int) tt), (Str.ofString "lone", .bool false), (Str.ofString "want", .str Wc wt)] m) → News base L h' news → wpAny (model PySem.Challenge.rw_kq0016_05.row.prog w) A (execs markB (lawEnv L a cd)) Q E { s with heap := h', toks := tk } := fun h' tk F' N' => hB h' tk (un_chain hm F') N'
  refine law_lit (by conv => lhs; whnf) (by conv => lhs; whnf) ?_
  have F₁ := hm.fr F
  dsimp only [chainOf] at F₁
  clear F hm hB
  repeat ((fail_if_success (with_reducible show wpAny _ _ (execs (Stmt.Assign _ _ _ :: Stmt.Assign _ _ _ :: _) _) _ _ _)); first | (k_unfold; (try dsimp only)) | walk1 | (dsimp only; walk1))
  refine wpAny_mono (lit _ _ _ (by conv => lhs; whnf) (by conv => lhs; whnf) (hB2 _ _ (by assumption) (by assumption))) (fun f s9 h9 => ?_) (fun _ _ z => z)
  cases f with
  | next => (repeat (first | exact h9 | refine wpAny_execs_nil ?_))
  | _ => exact h9
/-- no end, and nothing stands there -/
theorem if_3d {w : World} {loose : List Str} {mean : ExcName → Option Value} {mg mb : Str → Option Value} {A : Around} {a : Addr} {cd : Value}
    {base : Heap} {L : Addr} {m : Str → Option Value} {s : Shared} {E : Value → Shared → Prop} {Q : Flow → Shared → Prop} {news : List (Addr × Obj)} {P Tw : Addr} {zs : List Value} {nz q p top : Nat} {S : List Str} {Wc D : Str} {gv : Value} {pt tt wt Dt nt : Tok}
    (F : Fr base L s.heap m) (X : (hd.heap_1 w.params).In base) (N : News base L s.heap news) (T : Top hd.view_39 loose mean mg mb base) (hd' : A.depth + 4 < recursionLimit)
    (hm : Has m [(Str.ofString "at", .int (p : Int) pt), (Str.ofString "top", .int (top : Int) tt), (Str.ofString "lone", .bool false), (Str.ofString "want", .str Wc wt), (Str.ofString "text", .str D Dt), (Str.ofString "given", gv), (Str.ofString "places", .ref P), (Str.ofString "n", .int (S.length : Int) nt)]) (hP : (P, W.listOf zs.toArray nz) ∈ news) (hz : IntsAre zs (plcs S S.length)) (hSl : S.length ≤ 100) (hD : D.length ≤ 2000) (hpt : ¬ p < top) (tz : ((Wc.length : Int) != 0) = false) (hWl : Wc.length ≤ 16777216) (hpn : pl5 S S.length ≤ D.length)
    (hQ : ∀ h' tk T' t1 t2 t3 t4 t5, Fr base L h' (setM m (Str.ofString "want") (.ref T')) → News base L h' ((T', wholeO (Str.ofString "missing thing") gv D.cps.toList ((pl5 S S.length : Nat) : Int) t1 t2 t3 t4 t5) :: news) → (∀ z ∈ news, z.1 ≠ T') → Q .next { s with heap := h', toks := tk }) :
    wpAny (model PySem.Challenge.rw_kq0016_05.row.prog w) A (exec (wS 3 2) (lawEnv L a cd)) Q E s := by
  have c1 : ¬ (p : Int) < (top : Int) := by omega
  have hn0 : (0 : Int) ≤ (S.length : Int) := Int.natCast_nonneg _
  have he : (plcs S S.length)[((S.length : Nat) : Int).toNat]? = some ((pl5 S S.length : Nat) : Int) := by
    have := plcs_at (S := S) (k := S.length) (i := (S.length : Int)) (by omega)
    rw [Int.toNat_natCast] at this ⊢; exact this
  have s1 : Sh 100 (Str.ofString "missing thing") := by unfold Sh; decide +kernel
  have fin : ∀ h' tk T' t1 t2 t3 t4 t5, Fr base L h' (fun z9 => if z9 = Str.ofString "want" then some (.ref T') else chainOf [(Str.ofString "at", .int (p : Int) pt), (Str.ofString "top", .int (top : Int) tt), (Str.ofString "lone", .bool false), (Str.ofString "want", .str Wc wt), (Str.ofString "text", .str D Dt), (Str.ofString "given", gv), (Str.ofString "places", .ref P), (Str.ofString "n", .int (S.length : Int) nt)] m z9) → News base L h' ((T', wholeO (Str.ofString "missing thing") gv D.cps.toList ((pl5 S S.length : Nat) : Int) t1 t2 t3 t4 t5) :: news) → (∀ z ∈ news, z.1 ≠ T') → Q .next { s with heap := h', toks := tk } := fun h' tk T' t1 t2 t3 t4 t5 F' N' o => hQ h' tk T' t1 t2 t3 t4 t5 (hm.back F') N' o
  refine law_lit (by conv => lhs; whnf) (by conv => lhs; whnf) ?_
  have F₁ := hm.fr F
  dsimp only [chainOf] at F₁
  clear F hQ hm
  k_steps
  exact fin _ _ _ _ _ _ _ _ (by assumption) (by assumption) (by assumption)
theorem want_3 {w : World} {loose : List Str} {mean : ExcName → Option Value} {mg mb : Str → Option Value} {A : Around} {a : Addr} {cd : Value}
    {base : Heap} {L : Addr} {m : Str → Option Value} {s : Shared} {E : Value → Shared → Prop} {Q : Flow → Shared → Prop} {news : List (Addr × Obj)} {Dg Tw P : Addr} {ys zs : List Value} {ny nz q top : Nat} {S : List Str} {lo b : Bool} {D y : Str} {gv : Value} {dt qt tt ht yt Dt nt u1 u2 u3 u4 u5 : Tok}
    (F : Fr base L s.heap m) (X : (hd.heap_1 w.params).In base) (N : News base L s.heap news) (T : Top hd.view_39 loose mean mg mb base) (hd' : A.depth + 4 < recursionLimit)
    (hm : Has m ((Str.ofString "deed", .int 3 dt) :: (Str.ofString "at", .int (q : Int) qt) :: [(Str.ofString "top", .int (top : Int) tt), (Str.ofString "lone", .bool lo), (Str.ofString "stuck", .ref Tw), (Str.ofString "signs", .ref Dg), (Str.ofString "here", .int (q : Int) ht), (Str.ofString "sign", .str y yt), (Str.ofString "places", .ref P), (Str.ofString "text", .str D Dt), (Str.ofString "given", gv), (Str.ofString "octets", .bool (!b)), (Str.ofString "n", .int (S.length : Int) nt), (Str.ofString "want", .none)])) (hDg : (Dg, W.listOf ys.toArray ny) ∈ news) (hy : StrsAre ys S) (hSl : S.length ≤ 100) (hS1 : 1 ≤ S.length) (hb : ∀ x ∈ S, 1 ≤ x.length ∧ x.length ≤ 10) (htop : top = top5 lo S) (hq : q ≤ top) (hP : (P, W.listOf zs.toArray nz) ∈ news) (hz : IntsAre zs (plcs S S.length)) (hD : D.length ≤ 2000) (hcD : (cat S).length ≤ D.length) (hy2 : y.length ≤ 2)
    (hTw : (Tw, wholeO (Str.ofString "bad escape (end of pattern)") gv D.cps.toList ((D.length : Int) - 1) u1 u2 u3 u4 u5) ∈ news) (hgv : SameV gv gv)
    (hE : PassesOwn (model PySem.Challenge.rw_kq0016_05.row.prog w) A (lawEnv L a cd) E)
    (hQ : ∀ h' tk m' w' (p q' : Nat) qt' o nw, Stop (fun z => z != y) S q top p → ((p < top ∧ q' = p + 1 ∧ o = (if p = q then .whole (Str.ofString "missing thing") (((pl5 S (p + 1) : Nat) : Int) - 1) else .text (cat ((S.drop q).take (p - q))))) ∨ (p = top ∧ q' = p ∧ lo = true ∧ o = badO D) ∨ (p = top ∧ q' = p ∧ lo = false ∧ o = (if p = q then .whole (Str.ofString "missing thing") ((pl5 S S.length : Nat) : Int) else .whole (Str.ofString "missing " ++ mark3 b y ++ Str.ofString ", unterminated name") ((pl5 S q : Nat) : Int)))) → m' (Str.ofString "want") = some w' → m' (Str.ofString "at") = some (.int (q' : Int) qt') → Oth wantX m' m → Fr base L h' m' → News base L h' (nw ++ news) → OutAt gv D.cps.toList (nw ++ news) w' o → (∀ z ∈ nw, ∀ r ∈ news, r.1 ≠ z.1) → Q .next { s with heap := h', toks := tk }) :
    wpAny (model PySem.Challenge.rw_kq0016_05.row.prog w) A (exec (tStmt 8) (lawEnv L a cd)) Q E s := by
  have htl : top ≤ S.length := by rw [htop]; unfold top5; split <;> omega
  have hb10 : ∀ x ∈ S, x.length ≤ 10 := fun x hx => (hb x hx).2
  have hpl : ∀ k, pl5 S k ≤ D.length := fun k => Nat.le_trans (pl5_le S k) hcD
  refine in_3 F X N T (by repeat (with_reducible first | exact Has.nil | refine Has.consM hm (by repeat (with_reducible first | exact List.mem_cons_self | apply List.mem_cons_of_mem)) ?_)) (fun h1 tk1 F1 N1 => ?_)
  rw [show wBody 3 = [wS 3 0, wS 3 1, wS 3 2] from rfl]
  refine wpAny_execs_cons (loop_3 F1 X N1 T (by repeat (with_reducible first | exact Has.nil | refine Has.consM hm (by repeat (with_reducible first | exact List.mem_cons_self | apply List.mem_cons_of_mem)) ?_)) hDg hy hSl htl hq hE (fun h2 tk2 m2 p pt hs ha2 o2 F2 N2 => ?_))
  have H2 : Has m2 ((Str.ofString "at", .int (p : Int) pt) :: [(Str.ofString "top", .int (top : Int) tt), (Str.ofString "lone", .bool lo), (Str.ofString "stuck", .ref Tw), (Str.ofString "signs", .ref Dg), (Str.ofString "here", .int (q : Int) ht), (Str.ofString "sign", .str y yt), (Str.ofString "places", .ref P), (Str.ofString "text", .str D Dt), (Str.ofString "given", gv), (Str.ofString "octets", .bool (!b)), (Str.ofString "n", .int (S.length : Int) nt)]) := Has.cons ha2 (Has.oth (l := [(Str.ofString "top", .int (top : Int) tt), (Str.ofString "lone", .bool lo), (Str.ofString "stuck", .ref Tw), (Str.ofString "signs", .ref Dg), (Str.ofString "here", .int (q : Int) ht), (Str.ofString "sign", .str y yt), (Str.ofString "places", .ref P), (Str.ofString "text", .str D Dt), (Str.ofString "given", gv), (Str.ofString "octets", .bool (!b)), (Str.ofString "n", .int (S.length : Int) nt)]) (by repeat (with_reducible first | exact Has.nil | refine Has.consM hm (by repeat (with_reducible first | exact List.mem_cons_self | apply List.mem_cons_of_mem)) ?_)) o2 (by kernel_rfl))
  have hqp : q ≤ p := hs.1
  have hpt' : p ≤ top := hs.2.1
  have hpS : p ≤ S.length := Nat.le_trans hpt' htl
  refine wpAny_execs_cons (join_3 (q := q) (p := p) (S := S) F2 X N2 T (by repeat (with_reducible first | exact Has.nil | refine Has.consM H2 (by repeat (with_reducible first | exact List.mem_cons_self | apply List.mem_cons_of_mem)) ?_)) hDg hy hSl hb10 hqp hpS (fun h3 tk3 wt F3 N3 => ?_))
  have hcl : ((S.drop q).take (p - q)).length = p - q := by rw [List.length_take, List.length_drop]; clear hD hcD hSl hS1; omega
  have hb1 : ∀ x ∈ (S.drop q).take (p - q), 1 ≤ x.length := fun x hx => (hb x (List.mem_of_mem_drop (List.mem_of_mem_take hx))).1
  have hcz : (cat ((S.drop q).take (p - q))).length = 0 ↔ p = q := by
    constructor
    · intro h0
      have := cat_zero hb1 h0
      rw [this] at hcl
      exact Nat.le_antisymm (Nat.le_of_sub_eq_zero hcl.symm) hqp
    · intro h0
      rw [h0, Nat.sub_self, List.take_zero]; rfl
  have hcm : (cat ((S.drop q).take (p - q))).length ≤ 16777216 := by
    have h1 := pl5_add (S := S) (k := q) (j := p - q)
    have h2 := hpl (q + (p - q))
    have h3 : (cat ((S.drop q).take (p - q))).length ≤ pl5 S (q + (p - q)) := by rw [h1]; exact Nat.le_add_left _ _
    exact Nat.le_trans h3 (Nat.le_trans h2 (Nat.le_trans hD (by decide)))
  have hWe : ∃ Wc, Wc = cat ((S.drop q).take (p - q)) := ⟨_, rfl⟩
  obtain ⟨Wc, hWe⟩ := hWe
  have hpos : p < top → 1 ≤ pl5 S (p + 1) := fun hlt => by
    have hpS : p < S.length := Nat.lt_of_lt_of_le hlt htl
    have h1 := pl5_succ (S := S) (k := p) (y := S[p]) (List.getElem?_eq_getElem hpS)
    have h2 := (hb S[p] (List.getElem_mem hpS)).1
    rw [h1]; exact Nat.le_trans h2 (Nat.le_add_left _ _)
  rw [← hWe] at F3 hcz hcm
  have H3 := (H2.put (n := Str.ofString "want") (v := .str Wc wt) (by kernel_rfl))
  have O3 : Oth wantX (setM m2 (Str.ofString "want") (.str Wc wt)) m := oth_w.tr o2
  generalize setM m2 (Str.ofString "want") (.str Wc wt) = m3 at F3 H3 O3
  have ha3 : m3 (Str.ofString "at") = some (.int (p : Int) pt) := H3.get (List.mem_cons_of_mem _ List.mem_cons_self)
  have hcond : p < top ∨ (¬ p < top ∧ p = top) := by clear hD hcD hSl hS1 hcl hcm; omega
  rcases hcond with hlt | ⟨hlt, hpe⟩
  · refine wpAny_execs_cons (if_3a (q := q) (p := p) (Tw := Tw) (nt := nt) (Wc := Wc) F3 X N3 T hd' (by repeat (with_reducible first | exact Has.nil | refine Has.consM H3 (by repeat (with_reducible first | exact List.mem_cons_self | apply List.mem_cons_of_mem)) ?_)) hP hz hSl hD hlt htl hcz hcm (hpos hlt) (hpl _) hgv (fun h' tk m' w' q' qt' o nw e1 e2 hw ha ho F' N' out fr => ?_))
    subst e1 e2
    exact wpAny_execs_nil (hQ h' tk m' w' p (p + 1) qt' _ nw hs (.inl ⟨hlt, rfl, by rw [hWe]⟩) hw ha (ho.tr O3) F' N' out fr)
  · cases lo with
    | true =>
      refine wpAny_execs_cons (if_3b (p := p) (P := P) (zs := zs) (nz := nz) (q := q) (S := S) (Wc := Wc) (D := D) (gv := gv) (wt := wt) (Dt := Dt) (nt := nt) F3 X N3 T (by repeat (with_reducible first | exact Has.nil | refine Has.consM H3 (by repeat (with_reducible first | exact List.mem_cons_self | apply List.mem_cons_of_mem)) ?_)) hlt (fun h' tk F' N' => ?_))
      exact wpAny_execs_nil (hQ h' tk _ (.ref Tw) p p pt (badO D) [] hs (.inr (.inl ⟨hpe, rfl, rfl, rfl⟩)) (if_pos rfl) ((if_neg (by decide)).trans ha3) (oth_w.tr O3) F' N' ⟨Tw, gv, u1, u2, u3, u4, u5, rfl, hgv, hTw⟩ (fun z hz => nomatch hz))
    | false =>
      by_cases hpq : p = q
      · have tz : ((Wc.length : Int) != 0) = false := by simp [hcz.mpr hpq]
        refine wpAny_execs_cons (if_3d (p := p) (q := q) (Tw := Tw) F3 X N3 T hd' (by repeat (with_reducible first | exact Has.nil | refine Has.consM H3 (by repeat (with_reducible first | exact List.mem_cons_self | apply List.mem_cons_of_mem)) ?_)) hP hz hSl hD hlt tz hcm (hpl _) (fun h' tk T' t1 t2 t3 t4 t5 F' N' fr => ?_))
        exact wpAny_execs_nil (hQ h' tk _ (.ref T') p p pt (.whole (Str.ofString "missing thing") ((pl5 S S.length : Nat) : Int)) [_] hs (.inr (.inr ⟨hpe, rfl, rfl, by rw [if_pos hpq]⟩)) (if_pos rfl) ((if_neg (by decide)).trans ha3) (oth_w.tr O3) F' N' ⟨_, _, _, _, _, _, _, rfl, hgv, List.mem_cons_self⟩ (fun z hz r hr => by rw [List.mem_singleton.mp hz]; exact fr r hr))
      · have tz : ((Wc.length : Int) != 0) = true := by
          have : Wc.length ≠ 0 := fun z => hpq (hcz.mp z)
          simpa using this
        refine wpAny_execs_cons (if_3c (p := p) (q := q) (Tw := Tw) (P := P) (zs := zs) (nz := nz) (S := S) (D := D) (gv := gv) (Dt := Dt) (nt := nt) F3 X N3 T (by repeat (with_reducible first | exact Has.nil | refine Has.consM H3 (by repeat (with_reducible first | exact List.mem_cons_self | apply List.mem_cons_of_mem)) ?_)) hlt tz hcm (fun h4 tk4 F4 N4 => ?_))
        rw [show markB = [markB.getD 0 default, markB.getD 1 default] from rfl]
        refine wpAny_execs_cons (w_mk (b := b) (y := y) F4 X N4 T (by repeat (with_reducible first | exact Has.nil | refine Has.consM H3 (by repeat (with_reducible first | exact List.mem_cons_self | apply List.mem_cons_of_mem)) ?_)) (fun h5 tk5 kt F5 N5 => ?_))
        have H5 := H3.put (n := Str.ofString "mark") (v := .str (mark3 b y) kt) (by kernel_rfl)
        have hmk : (mark3 b y).length ≤ 4 := by
          unfold mark3
          split
          · decide +kernel
          · exact Nat.le_trans hy2 (by decide)
        refine wpAny_execs_cons (w_mw (q := q) F5 X N5 T hd' (by repeat (with_reducible first | exact Has.nil | refine Has.consM H5 (by repeat (with_reducible first | exact List.mem_cons_self | apply List.mem_cons_of_mem)) ?_)) hP hz hSl hD hmk (Nat.le_trans hq htl) (hpl q) (fun h' tk T' t1 t2 t3 t4 t5 F' N' fr => ?_))
        exact wpAny_execs_nil (wpAny_execs_nil (hQ h' tk _ (.ref T') p p pt (.whole (Str.ofString "missing " ++ mark3 b y ++ Str.ofString ", unterminated name") ((pl5 S q : Nat) : Int)) [_] hs (.inr (.inr ⟨hpe, rfl, rfl, by rw [if_neg hpq]⟩)) (if_pos rfl) ((if_neg (by decide)).trans ((if_neg (by decide)).trans ha3)) (oth_w.tr (oth_m.tr O3)) F' N' ⟨_, _, _, _, _, _, _, rfl, hgv, List.mem_cons_self⟩ (fun z hz r hr => by rw [List.mem_singleton.mp hz]; exact fr r hr)))
end Mine
end

local macro_rules | `(tactic| walk_at "z5") => wl 0 "" "" `excInst "abcd" "aabmdwcm" "" "" []
section
open PySem PySem.W PySem.Calls PySem.Spec PyProof.Rows
set_option maxRecDepth 100000
set_option maxHeartbeats 2000000
namespace Mine
theorem anew17 : True := by
  w_top off
  exact True.intro
open TI
theorem fillL5H (P : Params) : hd.heap_1 P = hd.heap_1 P ∧ PySem.Challenge.rw_kq0016_05 = PySem.Challenge.rw_kq0016_05 := by
  k_fill
  exact ⟨rfl, rfl⟩
theorem excInst {base h : Heap} {L e d T C : Addr} {news : List (Addr × Obj)} {oe oT od : Obj} {a0 c2 fl : Value} (N : News base L h news) (h1 : (e, oe) ∈ news) (h2 : (d, od) ∈ news) (XA : ExcAt oe oT (.ref C) (some d) a0 c2 T fl) : W.InstAt h e oe C (some od) :=
  ⟨(N _ h1).1, XA.cls, by obtain ⟨vs, hd, _⟩ := XA.data; unfold notCls; rw [hd], by rw [XA.dict]; exact (N _ h2).1⟩
theorem rd_pattern (P : Params) : readsE (hd.heap_1 P) 41 "pattern" = true := by kernel_rfl
theorem rd_pos (P : Params) : readsE (hd.heap_1 P) 41 "pos" = true := by kernel_rfl
theorem rd_lineno (P : Params) : readsE (hd.heap_1 P) 41 "lineno" = true := by kernel_rfl
theorem rd_colno (P : Params) : readsE (hd.heap_1 P) 41 "colno" = true := by kernel_rfl
theorem str41 (P : Params) : findIn (hd.heap_1 P) (.ref 41) "__str__" = some (some (.builtin "BaseException.__str__")) := by kernel_rfl
theorem kts41 (P : Params) : ktsIn (hd.heap_1 P) 41 "BaseException" = true := by kernel_rfl
theorem mro41 (P : Params) : mroIn (hd.heap_1 P) 41 (.type "BaseException") = some true := by kernel_rfl
theorem pe_strE {prog : Program} {w : World} {A : Around} {E : Value → Shared → Prop} {s : Shared} {K : Frag} {base : Heap} {L e d T C t0 : Addr} {news : List (Addr × Obj)} {oe oT od : Obj} {c2 fl : Value} {m : Str} {tk : Tok} {mm : Str → Option Value} {Q : Value → Shared → Prop}
    (hu : A.in1.in1.units < cLine) (F : Fr base L s.heap mm) (X : K.In base) (N : News base L s.heap news) (h1 : (e, oe) ∈ news) (h2 : (d, od) ∈ news) (h3 : (t0, ({ cls := .type "tuple", data := .seq #[.str m tk] } : Obj)) ∈ news) (XA : ExcAt oe oT (.ref C) (some d) (.ref t0) c2 T fl)
    (hs : findIn K (.ref C) "__str__" = some (some (.builtin "BaseException.__str__"))) (hm : mroIn K C (.type "BaseException") = some true) (hq : Q (.str m tk) s) : wpAny (model prog w) A (call (.type "str") [.ref e]) Q E s := by
  obtain ⟨vs, hd, h0, _⟩ := XA.data
  exact pe_str hu (X.keeps F.keep) (excInst N h1 h2 XA) hd h0 (N _ h3).1 hs hm hq
theorem ne_str_same {prog : Program} {w : World} {A : Around} {E : Value → Shared → Prop} {s : Shared} {x : Str} {t u : Tok} {Q : Value → Shared → Prop} (h : Q (.bool false) s) : wpAny (model prog w) A (compareOp .NotEq (.str x t) (.str x u)) Q E s := P.ne_str (by rw [bne_self_eq_false]; exact h)
theorem mt_L {w : World} {loose : List Str} {mean : ExcName → Option Value} {mg mb : Str → Option Value} {A : Around} {ce : Env}
    {base : Heap} {L : Addr} {m : Str → Option Value} {s : Shared} {Q E : Value → Shared → Prop} {new : List (Addr × Obj)}
    {x dx : Addr} {k1 k2 k3 k4 k5 : Tok} {b lone : Bool} {gv : Value} {D : Str} {dt : Tok} {i : Nat} {it : Tok} {nv : Value} {p : Nat} {sgs : List Str} {tv : Str} {tt : Tok}
    (F : Fr base L s.heap m) (X : (hd.heap_1 w.params).In base) (N : News base L s.heap ((x, instObj 133 dx) :: (dx, tokD w.params k1 k2 k3 k4 k5 b gv (.str D dt) (.int i it) nv) :: new)) (T : Top hd.view_39 loose mean mg mb base)
    (hcs : EvAt ce L) (hdx : ∀ q ∈ new, q.1 ≠ dx) (hA : A.frames = some [ce]) (hh : A.handled = none) (hd' : A.depth + 20 < recursionLimit)
    (hD : D.length ≤ 2000) (hi : i ≤ 3000) (hr : RdX lone D i nv p sgs) (hg : GivenIs b gv D)
    (hF : sgs.head? ≠ some tv → ∀ h' tk, Fr base L h' m → News base L h' ((x, instObj 133 dx) :: (dx, tokD w.params k1 k2 k3 k4 k5 b gv (.str D dt) (.int i it) nv) :: new) → Q (.bool false) { s with heap := h', toks := tk })
    (hQ : ∀ r, sgs = tv :: r → ¬ (r = [] ∧ lone = true) → ∀ h' tk (i' : Nat) it' nv', Fr base L h' m → News base L h' ((x, instObj 133 dx) :: (dx, tokD w.params k1 k2 k3 k4 k5 b gv (.str D dt) (.int i' it') nv') :: new) → RdX lone D i' nv' (p + tv.length) r → i' ≤ 3000 → Q (.bool true) { s with heap := h', toks := tk })
    (hE : sgs = [tv] → lone = true → RaisedE w.params base L m [] ((x, instObj 133 dx) :: (dx, tokD w.params k1 k2 k3 k4 k5 b gv (.str D dt) (.int i it) nv) :: new) [] (Str.ofString "bad escape (end of pattern)") gv D.cps.toList ((D.length : Int) - 1) E s) :
    wpAny (model PySem.Challenge.rw_kq0016_05.row.prog w) A (call (.ref 72) [.ref x, .str tv tt]) Q E s := by
  have en : new ++ [] = new := List.append_nil new
  refine match_c (frs := []) (l := []) (new := new) F X (by rw [en]; exact N) T trivial hcs (by rw [en]; exact hdx) (by simp) (by simp) hA hh hd' hD hi hr hg ?_ ?_ hE
  · intro h1 h' tk F' N'
    rw [en] at N'
    exact hF h1 h' tk F' N'
  · intro r h1 h2 h' frs' tk i' it' nv' SU Fs' F' N' R' b'
    obtain rfl := sameUp_nil SU
    rw [en] at N'
    exact hQ r h1 h2 h' tk i' it' nv' F' N' R' b'
theorem gw_L {w : World} {loose : List Str} {mean : ExcName → Option Value} {mg mb : Str → Option Value} {A : Around} {ce : Env}
    {base : Heap} {L : Addr} {m : Str → Option Value} {s : Shared} {Q E : Value → Shared → Prop} {new : List (Addr × Obj)}
    {x dx : Addr} {k1 k2 k3 k4 k5 : Tok} {b lone : Bool} {gv : Value} {D : Str} {dt : Tok} {i : Nat} {it : Tok} {nv : Value} {p : Nat} {sgs : List Str} {n : Nat} {nt : Tok} {cs : Value} {P : Str → Bool}
    (F : Fr base L s.heap m) (X : (hd.heap_1 w.params).In base) (N : News base L s.heap ((x, instObj 133 dx) :: (dx, tokD w.params k1 k2 k3 k4 k5 b gv (.str D dt) (.int i it) nv) :: new)) (T : Top hd.view_39 loose mean mg mb base)
    (hcs : EvAt ce L) (hdx : ∀ q ∈ new, q.1 ≠ dx) (hA : A.frames = some [ce]) (hh : A.handled = none) (hd' : A.depth + 20 < recursionLimit)
    (hD : D.length ≤ 2000) (hi : i ≤ 3000) (hr : RdX lone D i nv p sgs) (hg : GivenIs b gv D) (hn : n ≤ 1000) (hM : MemTo PySem.Challenge.rw_kq0016_05.row.prog w A new cs P) (hu : A.units + 80 < cLine)
    (hQ : ∀ pre rest, sgs = pre ++ rest → (∀ y ∈ pre, P y = true) → pre.length ≤ n → (pre.length = n ∨ ∀ y, rest.head? = some y → P y = false) → (lone = true → rest = [] → pre = []) → ∀ h' tk (i' : Nat) it' nv' rt, Fr base L h' m → News base L h' ((x, instObj 133 dx) :: (dx, tokD w.params k1 k2 k3 k4 k5 b gv (.str D dt) (.int i' it') nv') :: new) → RdX lone D i' nv' (p + (cat pre).length) rest → i' ≤ 3000 → Q (.str (cat pre) rt) { s with heap := h', toks := tk })
    (hE : ∀ pre y, sgs = pre ++ [y] → lone = true → (∀ z ∈ pre, P z = true) → P y = true → pre.length < n → ∀ (i' : Nat) it' nv', RdX lone D i' nv' (p + (cat pre).length) [y] → i' ≤ 3000 → RaisedE w.params base L m [] ((x, instObj 133 dx) :: (dx, tokD w.params k1 k2 k3 k4 k5 b gv (.str D dt) (.int i' it') nv') :: new) [] (Str.ofString "bad escape (end of pattern)") gv D.cps.toList ((D.length : Int) - 1) E s) :
    wpAny (model PySem.Challenge.rw_kq0016_05.row.prog w) A (call (.ref 86) [.ref x, .int (n : Int) nt, cs]) Q E s := by
  have en : new ++ [] = new := List.append_nil new
  refine getwhile_c (frs := []) (l := []) (new := new) F X (by rw [en]; exact N) T trivial hcs (by rw [en]; exact hdx) (by simp) (by simp) hA hh hd' hD hi hr hg hn hM hu ?_ hE
  intro pre rest h1 h2 h3 h4 h5 h' frs' tk i' it' nv' rt SU Fs' F' N' R' b'
  obtain rfl := sameUp_nil SU
  rw [en] at N'
  exact hQ pre rest h1 h2 h3 h4 h5 h' tk i' it' nv' rt F' N' R' b'
/-- getuntil at the law's level -/
theorem gu_L {w : World} {loose : List Str} {mean : ExcName → Option Value} {mg mb : Str → Option Value} {A : Around} {ce : Env}
    {base : Heap} {L : Addr} {m : Str → Option Value} {s : Shared} {Q E : Value → Shared → Prop} {new : List (Addr × Obj)}
    {x dx : Addr} {k1 k2 k3 k4 k5 : Tok} {b lone : Bool} {gv : Value} {D : Str} {dt : Tok} {i : Nat} {it : Tok} {nv : Value} {p : Nat} {sgs : List Str} {tv nm m1 m2 : Str} {tt tn : Tok}
    (F : Fr base L s.heap m) (X : (hd.heap_1 w.params).In base) (N : News base L s.heap ((x, instObj 133 dx) :: (dx, tokD w.params k1 k2 k3 k4 k5 b gv (.str D dt) (.int i it) nv) :: new)) (T : Top hd.view_39 loose mean mg mb base)
    (hcs : EvAt ce L) (hdx : ∀ q ∈ new, q.1 ≠ dx) (hA : A.frames = some [ce]) (hh : A.handled = none) (hd' : A.depth + 20 < recursionLimit)
    (hD : D.length ≤ 2000) (hi : i ≤ 3000) (hr : RdX lone D i nv p sgs) (htv : tv.length ≤ 100) (hnm : nm.length ≤ 100) (htv1 : 1 ≤ tv.length)
    (hg : GivenIs b gv D) (hw1 : WordsTo b (Str.ofString "missing " ++ nm) m1) (hw2 : WordsTo b (Str.ofString "missing " ++ tv ++ Str.ofString ", unterminated name") m2) (hm1 : m1.length ≤ 20000) (hm2 : m2.length ≤ 20000)
    (hQ : ∀ pre p' rest, GetsX lone D tv m1 m2 sgs p (.inl (cat pre)) p' rest → ∀ h' tk (i' : Nat) it' nv' rt, Fr base L h' m → News base L h' ((x, instObj 133 dx) :: (dx, tokD w.params k1 k2 k3 k4 k5 b gv (.str D dt) (.int i' it') nv') :: new) → RdX lone D i' nv' p' rest → i' ≤ 3000 → Q (.str (cat pre) rt) { s with heap := h', toks := tk })
    (hE : ∀ msg pos p' rest, GetsX lone D tv m1 m2 sgs p (.inr (msg, pos)) p' rest → ∀ (i' : Nat) it' nv', RdX lone D i' nv' p' rest → i' ≤ 3000 → RaisedE w.params base L m [] ((x, instObj 133 dx) :: (dx, tokD w.params k1 k2 k3 k4 k5 b gv (.str D dt) (.int i' it') nv') :: new) [] msg gv D.cps.toList pos E s) :
    wpAny (model PySem.Challenge.rw_kq0016_05.row.prog w) A (call (.ref 93) [.ref x, .str tv tt, .str nm tn]) Q E s := by
  have en : new ++ [] = new := List.append_nil new
  refine getuntil_c (frs := []) (l := []) (new := new) F X (by rw [en]; exact N) T trivial hcs (by rw [en]; exact hdx) (by simp) (by simp) hA hh hd' hD hi hr htv hnm htv1 hg hw1 hw2 hm1 hm2 ?_ hE
  intro pre p' rest G h' frs' tk i' it' nv' rt SU Fs' F' N' R' b'
  obtain rfl := sameUp_nil SU
  rw [en] at N'
  exact hQ pre p' rest G h' tk i' it' nv' rt F' N' R' b'
theorem get_L {w : World} {loose : List Str} {mean : ExcName → Option Value} {mg mb : Str → Option Value} {A : Around} {ce : Env}
    {base : Heap} {L : Addr} {m : Str → Option Value} {s : Shared} {Q E : Value → Shared → Prop} {new : List (Addr × Obj)}
    {x dx : Addr} {k1 k2 k3 k4 k5 : Tok} {b lone : Bool} {gv : Value} {D : Str} {dt : Tok} {i : Nat} {it : Tok} {nv : Value} {p : Nat} {sgs : List Str}
    (F : Fr base L s.heap m) (X : (hd.heap_1 w.params).In base) (N : News base L s.heap ((x, instObj 133 dx) :: (dx, tokD w.params k1 k2 k3 k4 k5 b gv (.str D dt) (.int i it) nv) :: new)) (T : Top hd.view_39 loose mean mg mb base)
    (hcs : EvAt ce L) (hdx : ∀ q ∈ new, q.1 ≠ dx) (hA : A.frames = some [ce]) (hh : A.handled = none) (hd' : A.depth + 20 < recursionLimit)
    (hD : D.length ≤ 2000) (hi : i ≤ 3000) (hr : RdX lone D i nv p sgs) (hg : GivenIs b gv D)
    (hQ0 : sgs = [] → ∀ h' tk (i' : Nat) it' nv', Fr base L h' m → News base L h' ((x, instObj 133 dx) :: (dx, tokD w.params k1 k2 k3 k4 k5 b gv (.str D dt) (.int i' it') nv') :: new) → RdX lone D i' nv' p [] → i' ≤ 3000 → Q .none { s with heap := h', toks := tk })
    (hQ : ∀ y r t, sgs = y :: r → ¬ (r = [] ∧ lone = true) → ∀ h' tk (i' : Nat) it' nv', Fr base L h' m → News base L h' ((x, instObj 133 dx) :: (dx, tokD w.params k1 k2 k3 k4 k5 b gv (.str D dt) (.int i' it') nv') :: new) → RdX lone D i' nv' (p + y.length) r → i' ≤ 3000 → Q (.str y t) { s with heap := h', toks := tk })
    (hE : ∀ y, sgs = [y] → lone = true → RaisedE w.params base L m [] ((x, instObj 133 dx) :: (dx, tokD w.params k1 k2 k3 k4 k5 b gv (.str D dt) (.int i it) nv) :: new) [] (Str.ofString "bad escape (end of pattern)") gv D.cps.toList ((D.length : Int) - 1) E s) :
    wpAny (model PySem.Challenge.rw_kq0016_05.row.prog w) A (call (.ref 79) [.ref x]) Q E s := by
  have en : new ++ [] = new := List.append_nil new
  refine get_c (frs := []) (l := []) (new := new) F X (by rw [en]; exact N) T trivial hcs (by rw [en]; exact hdx) (by simp) (by simp) hA hh hd' hD hi hr hg ?_ ?_ hE
  · intro h1 h' frs' tk i' it' nv' SU Fs' F' N' R' b'
    obtain rfl := sameUp_nil SU
    rw [en] at N'
    exact hQ0 h1 h' tk i' it' nv' F' N' R' b'
  · intro y r t h1 h2 h' frs' tk i' it' nv' SU Fs' F' N' R' b'
    obtain rfl := sameUp_nil SU
    rw [en] at N'
    exact hQ y r t h1 h2 h' tk i' it' nv' F' N' R' b'
theorem sk_L {w : World} {loose : List Str} {mean : ExcName → Option Value} {mg mb : Str → Option Value} {A : Around} {ce : Env}
    {base : Heap} {L : Addr} {m : Str → Option Value} {s : Shared} {Q E : Value → Shared → Prop} {new : List (Addr × Obj)}
    {x dx : Addr} {k1 k2 k3 k4 k5 : Tok} {b lone : Bool} {gv : Value} {D : Str} {dt : Tok} {i : Nat} {it : Tok} {nv : Value} {p q : Nat} {qt : Tok} {sgs : List Str}
    (F : Fr base L s.heap m) (X : (hd.heap_1 w.params).In base) (N : News base L s.heap ((x, instObj 133 dx) :: (dx, tokD w.params k1 k2 k3 k4 k5 b gv (.str D dt) (.int i it) nv) :: new)) (T : Top hd.view_39 loose mean mg mb base)
    (hcs : EvAt ce L) (hdx : ∀ q ∈ new, q.1 ≠ dx) (hA : A.frames = some [ce]) (hh : A.handled = none) (hd' : A.depth + 20 < recursionLimit)
    (hD : D.length ≤ 2000) (hi : q ≤ 3000) (hs : SignsX lone D q sgs) (hn : ¬ (sgs = [] ∧ lone = true)) (hg : GivenIs b gv D)
    (hQ : ∀ h' tk (i' : Nat) it' nv', Fr base L h' m → News base L h' ((x, instObj 133 dx) :: (dx, tokD w.params k1 k2 k3 k4 k5 b gv (.str D dt) (.int i' it') nv') :: new) → RdX lone D i' nv' q sgs → i' ≤ 3000 → Q .none { s with heap := h', toks := tk }) :
    wpAny (model PySem.Challenge.rw_kq0016_05.row.prog w) A (call (.ref 115) [.ref x, .int (q : Int) qt]) Q E s := by
  have en : new ++ [] = new := List.append_nil new
  refine seek_c (frs := []) (l := []) (new := new) F X (by rw [en]; exact N) T trivial hcs (by rw [en]; exact hdx) (by simp) (by simp) hA hh hd' hD hi hg hs ?_ (fun a b => absurd ⟨a, b⟩ hn)
  intro _ h' frs' tk i' it' nv' SU Fs' F' N' R' b'
  obtain rfl := sameUp_nil SU
  rw [en] at N'
  exact hQ h' tk i' it' nv' F' N' R' b'
/-- a refusal has come up to the law: what stands then -/
inductive RZ (Pm : Params) (base : Heap) (L : Addr) (m : Str → Option Value) (x dx : Addr) (k1 k2 k3 k4 k5 : Tok) (b : Bool) (gv : Value) (D : Str) (dt : Tok) (new : List (Addr × Obj)) (K : Str → Int → Nat → Value → Prop) (s : Shared) (e' : Value) (s' : Shared) : Prop
  | mk (msg : Str) (pos : Int) (i : Nat) (it : Tok) (nv : Value) (hK : K msg pos i nv) (h' : Heap) (tk : Nat) (e d t T : Addr) (oT oe : Obj) (o2 : List (Addr × Obj)) (c2 : Value) (he : e' = .ref e) (hs : s' = { s with heap := h', toks := tk }) (F : Fr base L h' m)
      (N : News base L h' ((T, oT) :: (e, oe) :: (o2 ++ ((x, instObj 133 dx) :: (dx, tokD Pm k1 k2 k3 k4 k5 b gv (.str D dt) (.int (i : Int) it) nv) :: new)))) (p2 : IsPe2 Pm msg gv D.cps.toList pos d t o2) (XA : ExcAt oe oT (.ref 41) (some d) (.ref t) c2 T .none)
      (l1 : ∀ q ∈ o2 ++ ((x, instObj 133 dx) :: (dx, tokD Pm k1 k2 k3 k4 k5 b gv (.str D dt) (.int (i : Int) it) nv) :: new), q.1 ≠ e ∧ q.1 ≠ T) (l2 : T ≠ e)
theorem RZ.of {Pm : Params} {base : Heap} {L : Addr} {m : Str → Option Value} {x dx : Addr} {k1 k2 k3 k4 k5 : Tok} {b : Bool} {gv : Value} {D : Str} {dt : Tok} {new : List (Addr × Obj)} {K : Str → Int → Nat → Value → Prop} {s s₀ : Shared} {msg : Str} {pos : Int} {i : Nat} {it : Tok} {nv : Value} (hK : K msg pos i nv) (hs : ∃ h k, s₀ = { s with heap := h, toks := k }) :
    RaisedE Pm base L m [] ((x, instObj 133 dx) :: (dx, tokD Pm k1 k2 k3 k4 k5 b gv (.str D dt) (.int (i : Int) it) nv) :: new) [] msg gv D.cps.toList pos (RZ Pm base L m x dx k1 k2 k3 k4 k5 b gv D dt new K s) s₀ := by
  intro h' frs' tk e d t T oT oe o2 c2 SU Fs' F' N' p2 XA l1 l2 l3 l4
  obtain rfl := sameUp_nil SU
  obtain ⟨h9, k9, rfl⟩ := hs
  rw [List.append_nil] at N' l1
  exact ⟨msg, pos, i, it, nv, hK, h', tk, e, d, t, T, oT, oe, o2, c2, rfl, rfl, F', N', p2, XA, l1, l2⟩
local macro_rules | `(tactic| walk_at "exec Try") => wl 0 "" "" `wpAny_Try_except "_" "" "" "" []
local macro_rules | `(tactic| walk_at "bind") => wl 3 "" "" `name_goes_V "abc_" "arbaca" "u0 u1 u2 u3" "" []
local macro_rules | `(tactic| walk_at "getAttr ref") => wl 3 "" "" `getEU "abcdef_" "aabacEd5erf6" "" "Y" ["rd_msg _ @1 | rd_pattern _ @1 | rd_pos _ @1 | rd_lineno _ @1 | rd_colno _ @1", "=r | GivenIs.handed !w @1"]
local macro_rules | `(tactic| walk_at "call type:str") => wl 3 "" "call Value.type 'str @1 Value.ref _ @1 [1 @2" `pe_strE "abcdefghij_" "bacadahwemfmgmi5j6aU" "" "" ["str41 _ @1", "mro41 _ @1"]
def tryBody : Stmt → List Stmt
  | .Try b _ _ _ _ => b
  | _ => []
def tryHs : Stmt → List ExceptHandler
  | .Try _ h _ _ _ => h
  | _ => []
def tryB : List Stmt := tryBody (tStmt 9)
theorem t_try5 {w : World} {loose : List Str} {mean : ExcName → Option Value} {mg mb : Str → Option Value} {A₀ : Around} {a : Addr} {cd : Value}
    {base : Heap} {L : Addr} {m : Str → Option Value} {s : Shared} {E : Value → Shared → Prop} {Q : Flow → Shared → Prop} {new : List (Addr × Obj)} {D : Str} {dt : Tok} {b : Bool} {gv : Value} {x dx : Addr} {k1 k2 k3 k4 k5 : Tok} {K : Str → Int → Nat → Value → Prop} {NZ : Shared → Prop}
    (X : (hd.heap_1 w.params).In base) (T : Top hd.view_39 loose mean mg mb base)
    (hA₀ : A₀.frames = some []) (hh₀ : A₀.handled = none) (hd' : A₀.depth + 30 < recursionLimit) (hu : A₀.units + 100 < cLine) (hg : GivenIs b gv D)
    (hb : wpAny (model PySem.Challenge.rw_kq0016_05.row.prog w) (A₀.deeper (lawEnv L a cd)) (execs tryB (lawEnv L a cd)) (fun f s' => f = .next ∧ NZ s') (RZ w.params base L m x dx k1 k2 k3 k4 k5 b gv D dt new K s) s)
    (hN : ∀ s', NZ s' → Q .next s')
    (hR : ∀ msg pos i it nv, K msg pos i nv → ∀ h' tk m' v nw, m' (Str.ofString "seen") = some v → (∀ z, z ≠ Str.ofString "seen" → z ≠ Str.ofString "e" → m' z = m z) → Fr base L h' m' → News base L h' (nw ++ ((x, instObj 133 dx) :: (dx, tokD w.params k1 k2 k3 k4 k5 b gv (.str D dt) (.int ((i : Nat) : Int) it) nv) :: new)) → OutAt gv D.cps.toList nw v (.whole msg pos) → Q .next { s with heap := h', toks := tk }) :
    wpAny (model PySem.Challenge.rw_kq0016_05.row.prog w) (A₀.deeper (lawEnv L a cd)) (exec (tStmt 9) (lawEnv L a cd)) Q E s := by
  obtain ⟨h0, hs0, ps, hst⟩ : ∃ h0 hs0 ps, tStmt 9 = .Try tryB (h0 :: hs0) [] [] ps := ⟨_, _, _, rfl⟩
  have hst2 : h0 :: hs0 = tryHs (tStmt 9) := by rw [hst]; rfl
  rw [hst]
  refine wpAny_Try_except ?_
  refine wpAny_mono hb (fun f s' hf => ?_) (fun e' s' hz => ?_)
  · obtain ⟨rfl, hn⟩ := hf
    exact wpAny_execs_nil (hN s' hn)
  · rw [hst2]
    have lit : ∀ hs y, tryHs (tStmt 9) = hs → lawScope = y → wpAny (model PySem.Challenge.rw_kq0016_05.row.prog w) (A₀.deeper (envOfC (Str.ofString "law") y L a cd)) (noteFrame e' (envOfC (Str.ofString "law") y L a cd)) (fun _ s₂ => wpAny (model PySem.Challenge.rw_kq0016_05.row.prog w) (A₀.deeper (envOfC (Str.ofString "law") y L a cd)) (setFlight e' none) (fun _ s₃ => wpAny (model PySem.Challenge.rw_kq0016_05.row.prog w) (A₀.deeper (envOfC (Str.ofString "law") y L a cd)) (handleBy e' (envOfC (Str.ofString "law") y L a cd) hs) Q E s₃) E s₂) E s' →
        wpAny (model PySem.Challenge.rw_kq0016_05.row.prog w) (A₀.deeper (lawEnv L a cd)) (noteFrame e' (lawEnv L a cd)) (fun _ s₂ => wpAny (model PySem.Challenge.rw_kq0016_05.row.prog w) (A₀.deeper (lawEnv L a cd)) (setFlight e' none) (fun _ s₃ => wpAny (model PySem.Challenge.rw_kq0016_05.row.prog w) (A₀.deeper (lawEnv L a cd)) (handleBy e' (lawEnv L a cd) (tryHs (tStmt 9))) Q E s₃) E s₂) E s' := by
      intro hs y h1 h2 h3
      unfold lawEnv
      rw [h1, h2]; exact h3
    refine lit _ _ (by conv => lhs; whnf) (by conv => lhs; whnf) ?_
    clear lit hb hN hst hst2
    obtain ⟨msg, pos, i, it, nv, hK, h', tk, e, d, t, Tb, oT, oe, o2, c2, rfl, rfl, F', N', p2, XA, l1, l2⟩ := hz
    have hR1 := hR msg pos i it nv hK
    clear hR hK
    refine caughtP_as (EvAt.ofC rfl) rfl (A₀ := A₀) (l := []) (frs := []) (C := 41) (dct := some d) (a0 := .ref t) (c2 := c2) (K := hd.heap_1 w.params) (new := o2 ++ _) hA₀ trivial F' (by rw [List.append_nil]; exact N') (fun q hq => ⟨(l1 q hq).1, by simp⟩) (by simp) l2 (fun q hq => (l1 q hq).2) (by simp) XA X T (by k_is) (kts41 _) ?_
    intro h₂ frs₂ T₂ oT₂ oe₂ tk₂ SU F₂ F₃ N₃ ne₃ XA₂
    obtain rfl := sameUp_nil SU
    obtain ⟨c1, c2', c3, c4, c5, tm, tp, tl, tc, tw, rfl⟩ := p2
    simp only [List.cons_append, List.nil_append, List.append_nil] at N₃
    clear N' F' XA SU F₂
    have fin : ∀ h' tk D9 ov t1 t2 t3 t4 t5, Fr base L h' (fun y => if y = Str.ofString "e" then ov else if y = Str.ofString "seen" then some (.ref D9) else if y = Str.ofString "e" then some (.ref e) else m y) →
        News base L h' ((D9, wholeO msg gv D.cps.toList pos t1 t2 t3 t4 t5) :: (T₂, oT₂) :: (e, oe₂) :: (d, peD w.params c1 c2' c3 c4 c5 (.str msg tm) gv (.int pos tp) (.int (peLine D.cps.toList pos) tl) (.int (peCol D.cps.toList pos) tc)) :: (t, ({ cls := .type "tuple", data := .seq #[.str (peWords msg D.cps.toList pos) tw] } : Obj)) :: (x, instObj 133 dx) :: (dx, tokD w.params k1 k2 k3 k4 k5 b gv (.str D dt) (.int i it) nv) :: new) → Q .next { s with heap := h', toks := tk } := by
      intro h' tk D9 ov t1 t2 t3 t4 t5 rF rN
      refine hR1 h' tk _ (.ref D9) [(D9, wholeO msg gv D.cps.toList pos t1 t2 t3 t4 t5)] ((if_neg (by decide)).trans (if_pos rfl)) (fun z h1 h2 => (if_neg h2).trans ((if_neg h1).trans (if_neg h2))) rF (fun q hq => rN q ?_) ⟨D9, gv, t1, t2, t3, t4, t5, rfl, hg.same, List.mem_cons_self⟩
      rcases List.mem_cons.mp hq with rfl | hq
      · exact List.mem_cons_self
      · exact List.mem_cons_of_mem _ (List.mem_cons_of_mem _ (List.mem_cons_of_mem _ (List.mem_cons_of_mem _ (List.mem_cons_of_mem _ hq))))
    clear hR1
    k_steps
    exact fin _ _ _ _ _ _ _ _ _ (by assumption) (by assumption)
end Mine
end

section
open PySem PySem.W PySem.Calls PySem.Spec PyProof.Rows
set_option maxRecDepth 100000
set_option maxHeartbeats 2000000
namespace Mine
theorem anew18 : True := by
  w_top off
  exact True.intro
open TI
theorem fillL5I (P : Params) : hd.heap_1 P = hd.heap_1 P ∧ PySem.Challenge.rw_kq0016_05 = PySem.Challenge.rw_kq0016_05 := by
  k_fill
  exact ⟨rfl, rfl⟩
local macro_rules | `(tactic| walk_at "call ref") => wl 3 "" "call Value.ref #108 @1 _ @2" `tell_c "_______" ".1.2" "h' tk' t' F' N'" "" []
/-- a deed has given what it gives: what stands then -/
inductive NZ (Pm : Params) (base : Heap) (L : Addr) (m : Str → Option Value) (x dx : Addr) (k1 k2 k3 k4 k5 : Tok) (b lone : Bool) (gv : Value) (D : Str) (dt : Tok) (new : List (Addr × Obj)) (Kn : Value → Nat → List Str → Prop) (s s' : Shared) : Prop
  | mk (h' : Heap) (tk i : Nat) (it : Tok) (nv v : Value) (p : Nat) (rs : List Str) (hK : Kn v p rs) (hr : RdX lone D i nv p rs) (hi : i ≤ 3000) (hs : s' = { s with heap := h', toks := tk }) (F : Fr base L h' (setM m (Str.ofString "seen") v)) (N : News base L h' ((x, instObj 133 dx) :: (dx, tokD Pm k1 k2 k3 k4 k5 b gv (.str D dt) (.int (i : Int) it) nv) :: new))
def KE (lone : Bool) (D : Str) (Ke : Str → Int → Nat → List Str → Prop) (msg : Str) (pos : Int) (i : Nat) (nv : Value) : Prop := ∃ p rs, RdX lone D i nv p rs ∧ i ≤ 3000 ∧ Ke msg pos p rs
abbrev badW : Str := Str.ofString "bad escape (end of pattern)"
theorem tb_0 {w : World} {loose : List Str} {mean : ExcName → Option Value} {mg mb : Str → Option Value} {A₀ : Around} {a : Addr} {cd : Value}
    {base : Heap} {L : Addr} {m : Str → Option Value} {s : Shared} {E : Value → Shared → Prop} {Q : Flow → Shared → Prop} {new : List (Addr × Obj)} {x dx : Addr} {k1 k2 k3 k4 k5 : Tok} {b lone : Bool} {gv : Value} {D : Str} {dt : Tok} {i : Nat} {it : Tok} {nv : Value} {p : Nat} {sgs : List Str} {et : Tok}
    (F : Fr base L s.heap m) (X : (hd.heap_1 w.params).In base) (N : News base L s.heap ((x, instObj 133 dx) :: (dx, tokD w.params k1 k2 k3 k4 k5 b gv (.str D dt) (.int i it) nv) :: new)) (T : Top hd.view_39 loose mean mg mb base) (hA₀ : A₀.frames = some []) (hh₀ : A₀.handled = none) (hd' : A₀.depth + 30 < recursionLimit) (hu : A₀.units + 100 < cLine) (hdx : ∀ q ∈ new, q.1 ≠ dx)
    (hD : D.length ≤ 2000) (hi : i ≤ 3000) (hr : RdX lone D i nv p sgs) (hg : GivenIs b gv D)
    (hm : Has m [(Str.ofString "deed", .int 0 et), (Str.ofString "source", .ref x)]) :
    wpAny (model PySem.Challenge.rw_kq0016_05.row.prog w) (A₀.deeper (lawEnv L a cd)) (execs tryB (lawEnv L a cd)) (fun f s' => f = .next ∧ NZ w.params base L m x dx k1 k2 k3 k4 k5 b lone gv D dt new (fun v p' rs => (sgs = [] ∧ v = .none ∧ p' = p ∧ rs = []) ∨ ∃ y r t, sgs = y :: r ∧ ¬ (r = [] ∧ lone = true) ∧ v = .str y t ∧ p' = p + y.length ∧ rs = r) s s') (RZ w.params base L m x dx k1 k2 k3 k4 k5 b gv D dt new (KE lone D (fun msg pos p' rs => ∃ y, sgs = [y] ∧ lone = true ∧ msg = badW ∧ pos = (D.length : Int) - 1 ∧ p' = p ∧ rs = sgs)) s) s := by
  have fin : ∀ h' tk (i' : Nat) it' nv' v p' rs, (fun v p' rs => (sgs = [] ∧ v = .none ∧ p' = p ∧ rs = []) ∨ ∃ y r t, sgs = y :: r ∧ ¬ (r = [] ∧ lone = true) ∧ v = .str y t ∧ p' = p + y.length ∧ rs = r) v p' rs → RdX lone D i' nv' p' rs → i' ≤ 3000 → Fr base L h' (fun z9 => if z9 = Str.ofString "seen" then some v else chainOf [(Str.ofString "deed", .int 0 et), (Str.ofString "source", .ref x)] m z9) → News base L h' ((x, instObj 133 dx) :: (dx, tokD w.params k1 k2 k3 k4 k5 b gv (.str D dt) (.int i' it') nv') :: new) → NZ w.params base L m x dx k1 k2 k3 k4 k5 b lone gv D dt new (fun v p' rs => (sgs = [] ∧ v = .none ∧ p' = p ∧ rs = []) ∨ ∃ y r t, sgs = y :: r ∧ ¬ (r = [] ∧ lone = true) ∧ v = .str y t ∧ p' = p + y.length ∧ rs = r) s { s with heap := h', toks := tk } :=
    fun h' tk i' it' nv' v p' rs hK hr hi F' N' => ⟨h', tk, i', it', nv', v, p', rs, hK, hr, hi, rfl, hm.back F', N'⟩
  have hm0 := hm
  have hck := chain_eq hm
  refine law_litS (by conv => lhs; whnf) (by conv => lhs; whnf) ?_
  have F₁ := hm.fr F
  dsimp only [chainOf] at F₁
  clear F hm
  repeat ((fail_if_success (with_reducible show wpAny _ _ (call (Value.ref 79) _) _ _ _)); first | (k_unfold; (try dsimp only)) | walk1 | (dsimp only; walk1))
  refine get_L (un_chain hm0 (by assumption)) X (by with_reducible assumption) T (EvAt.ofC rfl) hdx (Around.frames_deeper hA₀) ?hh ?d hD hi hr hg ?hQ0 ?hQ ?hE
  case hh => exact hh₀
  case d => show A₀.depth + 1 + 20 < recursionLimit; omega
  case hQ0 =>
    intro h1 h' tk i' it' nv' F' N' R' b'
    rw [← hck] at F'
    dsimp only [chainOf] at F'
    clear N F₁
    k_steps
    all_goals first | exact True.intro | exact fin _ _ i' it' nv' _ _ _ (.inl ⟨h1, rfl, rfl, rfl⟩) R' b' (by assumption) (by assumption)
  case hQ =>
    intro y r t h1 h2 h' tk i' it' nv' F' N' R' b'
    rw [← hck] at F'
    dsimp only [chainOf] at F'
    clear N F₁
    k_steps
    all_goals first | exact True.intro | exact fin _ _ i' it' nv' _ _ _ (.inr ⟨y, r, t, h1, h2, rfl, rfl, rfl⟩) R' b' (by assumption) (by assumption)
  case hE =>
    intro y h1 h2
    exact RZ.of (K := KE lone D _) ⟨p, sgs, hr, hi, y, h1, h2, rfl, rfl, rfl, rfl⟩ ⟨_, _, rfl⟩
theorem tb_1 {w : World} {loose : List Str} {mean : ExcName → Option Value} {mg mb : Str → Option Value} {A₀ : Around} {a : Addr} {cd : Value}
    {base : Heap} {L : Addr} {m : Str → Option Value} {s : Shared} {E : Value → Shared → Prop} {Q : Flow → Shared → Prop} {new : List (Addr × Obj)} {x dx : Addr} {k1 k2 k3 k4 k5 : Tok} {b lone : Bool} {gv : Value} {D : Str} {dt : Tok} {i : Nat} {it : Tok} {nv : Value} {p : Nat} {sgs : List Str} {et yt : Tok} {y : Str}
    (F : Fr base L s.heap m) (X : (hd.heap_1 w.params).In base) (N : News base L s.heap ((x, instObj 133 dx) :: (dx, tokD w.params k1 k2 k3 k4 k5 b gv (.str D dt) (.int i it) nv) :: new)) (T : Top hd.view_39 loose mean mg mb base) (hA₀ : A₀.frames = some []) (hh₀ : A₀.handled = none) (hd' : A₀.depth + 30 < recursionLimit) (hu : A₀.units + 100 < cLine) (hdx : ∀ q ∈ new, q.1 ≠ dx)
    (hD : D.length ≤ 2000) (hi : i ≤ 3000) (hr : RdX lone D i nv p sgs) (hg : GivenIs b gv D)
    (hm : Has m [(Str.ofString "deed", .int 1 et), (Str.ofString "source", .ref x), (Str.ofString "sign", .str y yt)]) :
    wpAny (model PySem.Challenge.rw_kq0016_05.row.prog w) (A₀.deeper (lawEnv L a cd)) (execs tryB (lawEnv L a cd)) (fun f s' => f = .next ∧ NZ w.params base L m x dx k1 k2 k3 k4 k5 b lone gv D dt new (fun v p' rs => (sgs.head? ≠ some y ∧ v = .bool false ∧ p' = p ∧ rs = sgs) ∨ ∃ r, sgs = y :: r ∧ ¬ (r = [] ∧ lone = true) ∧ v = .bool true ∧ p' = p + y.length ∧ rs = r) s s') (RZ w.params base L m x dx k1 k2 k3 k4 k5 b gv D dt new (KE lone D (fun msg pos p' rs => sgs = [y] ∧ lone = true ∧ msg = badW ∧ pos = (D.length : Int) - 1 ∧ p' = p ∧ rs = sgs)) s) s := by
  have fin : ∀ h' tk (i' : Nat) it' nv' v p' rs, (fun v p' rs => (sgs.head? ≠ some y ∧ v = .bool false ∧ p' = p ∧ rs = sgs) ∨ ∃ r, sgs = y :: r ∧ ¬ (r = [] ∧ lone = true) ∧ v = .bool true ∧ p' = p + y.length ∧ rs = r) v p' rs → RdX lone D i' nv' p' rs → i' ≤ 3000 → Fr base L h' (fun z9 => if z9 = Str.ofString "seen" then some v else chainOf [(Str.ofString "deed", .int 1 et), (Str.ofString "source", .ref x), (Str.ofString "sign", .str y yt)] m z9) → News base L h' ((x, instObj 133 dx) :: (dx, tokD w.params k1 k2 k3 k4 k5 b gv (.str D dt) (.int i' it') nv') :: new) → NZ w.params base L m x dx k1 k2 k3 k4 k5 b lone gv D dt new (fun v p' rs => (sgs.head? ≠ some y ∧ v = .bool false ∧ p' = p ∧ rs = sgs) ∨ ∃ r, sgs = y :: r ∧ ¬ (r = [] ∧ lone = true) ∧ v = .bool true ∧ p' = p + y.length ∧ rs = r) s { s with heap := h', toks := tk } :=
    fun h' tk i' it' nv' v p' rs hK hr hi F' N' => ⟨h', tk, i', it', nv', v, p', rs, hK, hr, hi, rfl, hm.back F', N'⟩
  have hm0 := hm
  have hck := chain_eq hm
  refine law_litS (by conv => lhs; whnf) (by conv => lhs; whnf) ?_
  have F₁ := hm.fr F
  dsimp only [chainOf] at F₁
  clear F hm
  repeat ((fail_if_success (with_reducible show wpAny _ _ (call (Value.ref 72) _) _ _ _)); first | (k_unfold; (try dsimp only)) | walk1 | (dsimp only; walk1))
  refine mt_L (un_chain hm0 (by assumption)) X (by with_reducible assumption) T (EvAt.ofC rfl) hdx (Around.frames_deeper hA₀) ?hh ?d hD hi hr hg ?hF ?hQ ?hE
  case hh => exact hh₀
  case d => show A₀.depth + 1 + 20 < recursionLimit; omega
  case hF =>
    intro h1 h' tk F' N'
    rw [← hck] at F'
    dsimp only [chainOf] at F'
    clear N F₁
    k_steps
    all_goals first | exact True.intro | exact fin _ _ i it nv _ _ _ (.inl ⟨h1, rfl, rfl, rfl⟩) hr hi (by assumption) (by assumption)
  case hQ =>
    intro r h1 h2 h' tk i' it' nv' F' N' R' b'
    rw [← hck] at F'
    dsimp only [chainOf] at F'
    clear N F₁
    k_steps
    all_goals first | exact True.intro | exact fin _ _ i' it' nv' _ _ _ (.inr ⟨r, h1, h2, rfl, rfl, rfl⟩) R' b' (by assumption) (by assumption)
  case hE =>
    intro h1 h2
    exact RZ.of (K := KE lone D _) ⟨p, sgs, hr, hi, h1, h2, rfl, rfl, rfl, rfl⟩ ⟨_, _, rfl⟩
theorem tb_2 {w : World} {loose : List Str} {mean : ExcName → Option Value} {mg mb : Str → Option Value} {A₀ : Around} {a : Addr} {cd : Value}
    {base : Heap} {L : Addr} {m : Str → Option Value} {s : Shared} {E : Value → Shared → Prop} {Q : Flow → Shared → Prop} {new : List (Addr × Obj)} {x dx : Addr} {k1 k2 k3 k4 k5 : Tok} {b lone : Bool} {gv : Value} {D : Str} {dt : Tok} {i : Nat} {it : Tok} {nv : Value} {p : Nat} {sgs : List Str} {et ct : Tok} {c : Nat} {Ds : Addr} {os : List Value} {no : Nat}
    (F : Fr base L s.heap m) (X : (hd.heap_1 w.params).In base) (N : News base L s.heap ((x, instObj 133 dx) :: (dx, tokD w.params k1 k2 k3 k4 k5 b gv (.str D dt) (.int i it) nv) :: new)) (T : Top hd.view_39 loose mean mg mb base) (hA₀ : A₀.frames = some []) (hh₀ : A₀.handled = none) (hd' : A₀.depth + 30 < recursionLimit) (hu : A₀.units + 100 < cLine) (hdx : ∀ q ∈ new, q.1 ≠ dx)
    (hD : D.length ≤ 2000) (hi : i ≤ 3000) (hr : RdX lone D i nv p sgs) (hg : GivenIs b gv D) (hc : c ≤ 4) (hDs : (Ds, W.listOf os.toArray no) ∈ new) (ho : StrsAre os some5)
    (hm : Has m [(Str.ofString "deed", .int 2 et), (Str.ofString "source", .ref x), (Str.ofString "count", .int (c : Int) ct), (Str.ofString "some", .ref Ds)]) :
    wpAny (model PySem.Challenge.rw_kq0016_05.row.prog w) (A₀.deeper (lawEnv L a cd)) (execs tryB (lawEnv L a cd)) (fun f s' => f = .next ∧ NZ w.params base L m x dx k1 k2 k3 k4 k5 b lone gv D dt new (fun v p' rs => ∃ pre t, sgs = pre ++ rs ∧ (∀ y ∈ pre, some5.any (· == y) = true) ∧ pre.length ≤ c ∧ (pre.length = c ∨ ∀ y, rs.head? = some y → some5.any (· == y) = false) ∧ (lone = true → rs = [] → pre = []) ∧ v = .str (cat pre) t ∧ p' = p + (cat pre).length) s s') (RZ w.params base L m x dx k1 k2 k3 k4 k5 b gv D dt new (KE lone D (fun msg pos p' rs => ∃ pre y, sgs = pre ++ [y] ∧ lone = true ∧ (∀ z ∈ pre, some5.any (· == z) = true) ∧ some5.any (· == y) = true ∧ pre.length < c ∧ msg = badW ∧ pos = (D.length : Int) - 1 ∧ p' = p + (cat pre).length ∧ rs = [y])) s) s := by
  have fin : ∀ h' tk (i' : Nat) it' nv' v p' rs, (fun v p' rs => ∃ pre t, sgs = pre ++ rs ∧ (∀ y ∈ pre, some5.any (· == y) = true) ∧ pre.length ≤ c ∧ (pre.length = c ∨ ∀ y, rs.head? = some y → some5.any (· == y) = false) ∧ (lone = true → rs = [] → pre = []) ∧ v = .str (cat pre) t ∧ p' = p + (cat pre).length) v p' rs → RdX lone D i' nv' p' rs → i' ≤ 3000 → Fr base L h' (fun z9 => if z9 = Str.ofString "seen" then some v else chainOf [(Str.ofString "deed", .int 2 et), (Str.ofString "source", .ref x), (Str.ofString "count", .int (c : Int) ct), (Str.ofString "some", .ref Ds)] m z9) → News base L h' ((x, instObj 133 dx) :: (dx, tokD w.params k1 k2 k3 k4 k5 b gv (.str D dt) (.int i' it') nv') :: new) → NZ w.params base L m x dx k1 k2 k3 k4 k5 b lone gv D dt new (fun v p' rs => ∃ pre t, sgs = pre ++ rs ∧ (∀ y ∈ pre, some5.any (· == y) = true) ∧ pre.length ≤ c ∧ (pre.length = c ∨ ∀ y, rs.head? = some y → some5.any (· == y) = false) ∧ (lone = true → rs = [] → pre = []) ∧ v = .str (cat pre) t ∧ p' = p + (cat pre).length) s { s with heap := h', toks := tk } :=
    fun h' tk i' it' nv' v p' rs hK hr hi F' N' => ⟨h', tk, i', it', nv', v, p', rs, hK, hr, hi, rfl, hm.back F', N'⟩
  have hm0 := hm
  have hck := chain_eq hm
  refine law_litS (by conv => lhs; whnf) (by conv => lhs; whnf) ?_
  have F₁ := hm.fr F
  dsimp only [chainOf] at F₁
  clear F hm
  repeat ((fail_if_success (with_reducible show wpAny _ _ (call (Value.ref 86) _) _ _ _)); first | (k_unfold; (try dsimp only)) | walk1 | (dsimp only; walk1))
  refine gw_L (n := c) (P := fun z => some5.any (· == z)) (un_chain hm0 (by assumption)) X (by with_reducible assumption) T (EvAt.ofC rfl) hdx (Around.frames_deeper hA₀) ?hh ?d hD hi hr hg (by omega) (mem_strs hDs ho some5_ok ?u) ?u2 ?hQ ?hE
  case hh => exact hh₀
  case d => show A₀.depth + 1 + 20 < recursionLimit; omega
  case u => show A₀.units + 3 + 80 < cLine; omega
  case u2 => show A₀.units + 3 + 80 < cLine; omega
  case hQ =>
    intro pre rest h1 h2 h3 h4 h5 h' tk i' it' nv' rt F' N' R' b'
    rw [← hck] at F'
    dsimp only [chainOf] at F'
    clear N F₁
    k_steps
    all_goals first | exact True.intro | exact fin _ _ i' it' nv' _ _ _ ⟨pre, rt, h1, h2, h3, h4, h5, rfl, rfl⟩ R' b' (by assumption) (by assumption)
  case hE =>
    intro pre y h1 h2 h3 h4 h5 i' it' nv' R' b'
    exact RZ.of (K := KE lone D _) ⟨p + (cat pre).length, [y], R', b', pre, y, h1, h2, h3, h4, h5, rfl, rfl, rfl, rfl⟩ ⟨_, _, rfl⟩
theorem tb_3 {w : World} {loose : List Str} {mean : ExcName → Option Value} {mg mb : Str → Option Value} {A₀ : Around} {a : Addr} {cd : Value}
    {base : Heap} {L : Addr} {m : Str → Option Value} {s : Shared} {E : Value → Shared → Prop} {Q : Flow → Shared → Prop} {new : List (Addr × Obj)} {x dx : Addr} {k1 k2 k3 k4 k5 : Tok} {b lone : Bool} {gv : Value} {D : Str} {dt : Tok} {i : Nat} {it : Tok} {nv : Value} {p : Nat} {sgs : List Str} {et yt : Tok} {y m2 : Str}
    (F : Fr base L s.heap m) (X : (hd.heap_1 w.params).In base) (N : News base L s.heap ((x, instObj 133 dx) :: (dx, tokD w.params k1 k2 k3 k4 k5 b gv (.str D dt) (.int i it) nv) :: new)) (T : Top hd.view_39 loose mean mg mb base) (hA₀ : A₀.frames = some []) (hh₀ : A₀.handled = none) (hd' : A₀.depth + 30 < recursionLimit) (hu : A₀.units + 100 < cLine) (hdx : ∀ q ∈ new, q.1 ≠ dx)
    (hD : D.length ≤ 2000) (hi : i ≤ 3000) (hr : RdX lone D i nv p sgs) (hg : GivenIs b gv D) (hy1 : 1 ≤ y.length) (hy2 : y.length ≤ 2) (hw1 : WordsTo b (Str.ofString "missing " ++ Str.ofString "thing") (Str.ofString "missing thing")) (hw2 : WordsTo b (Str.ofString "missing " ++ y ++ Str.ofString ", unterminated name") m2) (hm2 : m2.length ≤ 20000)
    (hm : Has m [(Str.ofString "deed", .int 3 et), (Str.ofString "source", .ref x), (Str.ofString "sign", .str y yt)]) :
    wpAny (model PySem.Challenge.rw_kq0016_05.row.prog w) (A₀.deeper (lawEnv L a cd)) (execs tryB (lawEnv L a cd)) (fun f s' => f = .next ∧ NZ w.params base L m x dx k1 k2 k3 k4 k5 b lone gv D dt new (fun v p' rs => ∃ pre t, GetsX lone D y (Str.ofString "missing thing") m2 sgs p (.inl (cat pre)) p' rs ∧ v = .str (cat pre) t) s s') (RZ w.params base L m x dx k1 k2 k3 k4 k5 b gv D dt new (KE lone D (fun msg pos p' rs => GetsX lone D y (Str.ofString "missing thing") m2 sgs p (.inr (msg, pos)) p' rs)) s) s := by
  have fin : ∀ h' tk (i' : Nat) it' nv' v p' rs, (fun v p' rs => ∃ pre t, GetsX lone D y (Str.ofString "missing thing") m2 sgs p (.inl (cat pre)) p' rs ∧ v = .str (cat pre) t) v p' rs → RdX lone D i' nv' p' rs → i' ≤ 3000 → Fr base L h' (fun z9 => if z9 = Str.ofString "seen" then some v else chainOf [(Str.ofString "deed", .int 3 et), (Str.ofString "source", .ref x), (Str.ofString "sign", .str y yt)] m z9) → News base L h' ((x, instObj 133 dx) :: (dx, tokD w.params k1 k2 k3 k4 k5 b gv (.str D dt) (.int i' it') nv') :: new) → NZ w.params base L m x dx k1 k2 k3 k4 k5 b lone gv D dt new (fun v p' rs => ∃ pre t, GetsX lone D y (Str.ofString "missing thing") m2 sgs p (.inl (cat pre)) p' rs ∧ v = .str (cat pre) t) s { s with heap := h', toks := tk } :=
    fun h' tk i' it' nv' v p' rs hK hr hi F' N' => ⟨h', tk, i', it', nv', v, p', rs, hK, hr, hi, rfl, hm.back F', N'⟩
  have hm0 := hm
  have hck := chain_eq hm
  refine law_litS (by conv => lhs; whnf) (by conv => lhs; whnf) ?_
  have F₁ := hm.fr F
  dsimp only [chainOf] at F₁
  clear F hm
  repeat ((fail_if_success (with_reducible show wpAny _ _ (call (Value.ref 93) _) _ _ _)); first | (k_unfold; (try dsimp only)) | walk1 | (dsimp only; walk1))
  refine gu_L (un_chain hm0 (by assumption)) X (by with_reducible assumption) T (EvAt.ofC rfl) hdx (Around.frames_deeper hA₀) ?hh ?d hD hi hr (by omega) (by decide +kernel) hy1 hg hw1 hw2 (by decide +kernel) hm2 ?hQ ?hE
  case hh => exact hh₀
  case d => show A₀.depth + 1 + 20 < recursionLimit; omega
  case hQ =>
    intro pre p' rest G h' tk i' it' nv' rt F' N' R' b'
    rw [← hck] at F'
    dsimp only [chainOf] at F'
    clear N F₁
    k_steps
    all_goals first | exact True.intro | exact fin _ _ i' it' nv' _ _ _ ⟨pre, rt, G, rfl⟩ R' b' (by assumption) (by assumption)
  case hE =>
    intro msg pos p' rest G i' it' nv' R' b'
    exact RZ.of (K := KE lone D _) ⟨p', rest, R', b', G⟩ ⟨_, _, rfl⟩
theorem tb_4 {w : World} {loose : List Str} {mean : ExcName → Option Value} {mg mb : Str → Option Value} {A₀ : Around} {a : Addr} {cd : Value}
    {base : Heap} {L : Addr} {m : Str → Option Value} {s : Shared} {E : Value → Shared → Prop} {Q : Flow → Shared → Prop} {new : List (Addr × Obj)} {x dx : Addr} {k1 k2 k3 k4 k5 : Tok} {b lone : Bool} {gv : Value} {D : Str} {dt : Tok} {i : Nat} {it : Tok} {nv : Value} {p : Nat} {sgs : List Str} {et gt : Tok} {g nz : Nat} {P : Addr} {zs : List Value} {S : List Str}
    (F : Fr base L s.heap m) (X : (hd.heap_1 w.params).In base) (N : News base L s.heap ((x, instObj 133 dx) :: (dx, tokD w.params k1 k2 k3 k4 k5 b gv (.str D dt) (.int i it) nv) :: new)) (T : Top hd.view_39 loose mean mg mb base) (hA₀ : A₀.frames = some []) (hh₀ : A₀.handled = none) (hd' : A₀.depth + 30 < recursionLimit) (hu : A₀.units + 100 < cLine) (hdx : ∀ q ∈ new, q.1 ≠ dx)
    (hD : D.length ≤ 2000) (hi : i ≤ 3000) (hr : RdX lone D i nv p sgs) (hg : GivenIs b gv D) (hgl : g ≤ S.length) (hSl : S.length ≤ 100) (hP : (P, W.listOf zs.toArray nz) ∈ new) (hz : IntsAre zs (plcs S S.length)) (hs : SignsX lone D (pl5 S g) (S.drop g)) (hn : ¬ (S.drop g = [] ∧ lone = true)) (hpl : pl5 S g ≤ 3000)
    (hm : Has m [(Str.ofString "deed", .int 4 et), (Str.ofString "source", .ref x), (Str.ofString "goal", .int (g : Int) gt), (Str.ofString "places", .ref P)]) :
    wpAny (model PySem.Challenge.rw_kq0016_05.row.prog w) (A₀.deeper (lawEnv L a cd)) (execs tryB (lawEnv L a cd)) (fun f s' => f = .next ∧ NZ w.params base L m x dx k1 k2 k3 k4 k5 b lone gv D dt new (fun v p' rs => v = .none ∧ p' = pl5 S g ∧ rs = S.drop g) s s') (RZ w.params base L m x dx k1 k2 k3 k4 k5 b gv D dt new (KE lone D (fun _ _ _ _ => False)) s) s := by
  have fin : ∀ h' tk (i' : Nat) it' nv' v p' rs, (fun v p' rs => v = .none ∧ p' = pl5 S g ∧ rs = S.drop g) v p' rs → RdX lone D i' nv' p' rs → i' ≤ 3000 → Fr base L h' (fun z9 => if z9 = Str.ofString "seen" then some v else chainOf [(Str.ofString "deed", .int 4 et), (Str.ofString "source", .ref x), (Str.ofString "goal", .int (g : Int) gt), (Str.ofString "places", .ref P)] m z9) → News base L h' ((x, instObj 133 dx) :: (dx, tokD w.params k1 k2 k3 k4 k5 b gv (.str D dt) (.int i' it') nv') :: new) → NZ w.params base L m x dx k1 k2 k3 k4 k5 b lone gv D dt new (fun v p' rs => v = .none ∧ p' = pl5 S g ∧ rs = S.drop g) s { s with heap := h', toks := tk } :=
    fun h' tk i' it' nv' v p' rs hK hr hi F' N' => ⟨h', tk, i', it', nv', v, p', rs, hK, hr, hi, rfl, hm.back F', N'⟩
  have hm0 := hm
  have hck := chain_eq hm
  refine law_litS (by conv => lhs; whnf) (by conv => lhs; whnf) ?_
  have F₁ := hm.fr F
  dsimp only [chainOf] at F₁
  clear F hm
  have he : (plcs S S.length)[((g : Nat) : Int).toNat]? = some ((pl5 S g : Nat) : Int) := by
    have := plcs_at (S := S) (k := S.length) (i := (g : Int)) (by omega)
    rw [Int.toNat_natCast] at this ⊢; exact this
  have hP2 : (P, W.listOf zs.toArray nz) ∈ (x, instObj 133 dx) :: (dx, tokD w.params k1 k2 k3 k4 k5 b gv (.str D dt) (.int i it) nv) :: new := List.mem_cons_of_mem _ (List.mem_cons_of_mem _ hP)
  have hg0 : (0 : Int) ≤ (g : Int) := Int.natCast_nonneg g
  repeat ((fail_if_success (with_reducible show wpAny _ _ (call (Value.ref 115) _) _ _ _)); first | (k_unfold; (try dsimp only)) | walk1 | (dsimp only; walk1))
  refine sk_L (p := 0) (un_chain hm0 (by assumption)) X (by with_reducible assumption) T (EvAt.ofC rfl) hdx (Around.frames_deeper hA₀) ?hh ?d hD hpl hs hn hg ?hQ
  case hh => exact hh₀
  case d => show A₀.depth + 1 + 20 < recursionLimit; omega
  case hQ =>
    intro h' tk i' it' nv' F' N' R' b'
    rw [← hck] at F'
    dsimp only [chainOf] at F'
    clear N F₁
    k_steps
    all_goals first | exact True.intro | exact fin _ _ i' it' nv' _ _ _ ⟨rfl, rfl, rfl⟩ R' b' (by assumption) (by assumption)

theorem tb_5 {w : World} {loose : List Str} {mean : ExcName → Option Value} {mg mb : Str → Option Value} {A₀ : Around} {a : Addr} {cd : Value}
    {base : Heap} {L : Addr} {m : Str → Option Value} {s : Shared} {E : Value → Shared → Prop} {Q : Flow → Shared → Prop} {new : List (Addr × Obj)} {x dx : Addr} {k1 k2 k3 k4 k5 : Tok} {b lone : Bool} {gv : Value} {D : Str} {dt : Tok} {i : Nat} {it : Tok} {nv : Value} {p : Nat} {sgs : List Str} {et : Tok}
    (F : Fr base L s.heap m) (X : (hd.heap_1 w.params).In base) (N : News base L s.heap ((x, instObj 133 dx) :: (dx, tokD w.params k1 k2 k3 k4 k5 b gv (.str D dt) (.int i it) nv) :: new)) (T : Top hd.view_39 loose mean mg mb base) (hA₀ : A₀.frames = some []) (hh₀ : A₀.handled = none) (hd' : A₀.depth + 30 < recursionLimit) (hu : A₀.units + 100 < cLine) (hdx : ∀ q ∈ new, q.1 ≠ dx)
    (hD : D.length ≤ 2000) (hi : i ≤ 3000) (hr : RdX lone D i nv p sgs) (hg : GivenIs b gv D) (hs : SignsX lone D p sgs) (hn : ¬ (sgs = [] ∧ lone = true)) (hpl : p ≤ 3000)
    (hm : Has m [(Str.ofString "deed", .int 5 et), (Str.ofString "source", .ref x)]) :
    wpAny (model PySem.Challenge.rw_kq0016_05.row.prog w) (A₀.deeper (lawEnv L a cd)) (execs tryB (lawEnv L a cd)) (fun f s' => f = .next ∧ NZ w.params base L m x dx k1 k2 k3 k4 k5 b lone gv D dt new (fun v p' rs => v = .none ∧ p' = p ∧ rs = sgs) s s') (RZ w.params base L m x dx k1 k2 k3 k4 k5 b gv D dt new (KE lone D (fun _ _ _ _ => False)) s) s := by
  have fin : ∀ h' tk (i' : Nat) it' nv' v p' rs, (fun v p' rs => v = .none ∧ p' = p ∧ rs = sgs) v p' rs → RdX lone D i' nv' p' rs → i' ≤ 3000 → Fr base L h' (fun z9 => if z9 = Str.ofString "seen" then some v else chainOf [(Str.ofString "deed", .int 5 et), (Str.ofString "source", .ref x)] m z9) → News base L h' ((x, instObj 133 dx) :: (dx, tokD w.params k1 k2 k3 k4 k5 b gv (.str D dt) (.int i' it') nv') :: new) → NZ w.params base L m x dx k1 k2 k3 k4 k5 b lone gv D dt new (fun v p' rs => v = .none ∧ p' = p ∧ rs = sgs) s { s with heap := h', toks := tk } :=
    fun h' tk i' it' nv' v p' rs hK hr hi F' N' => ⟨h', tk, i', it', nv', v, p', rs, hK, hr, hi, rfl, hm.back F', N'⟩
  have hm0 := hm
  have hck := chain_eq hm
  refine law_litS (by conv => lhs; whnf) (by conv => lhs; whnf) ?_
  have F₁ := hm.fr F
  dsimp only [chainOf] at F₁
  clear F hm
  obtain ⟨ok1, ok2⟩ := hr.ok
  repeat ((fail_if_success (with_reducible show wpAny _ _ (call (Value.ref 115) _) _ _ _)); first | (k_unfold; (try dsimp only)) | walk1 | (dsimp only; walk1))
  rw [ok2]
  refine sk_L (p := 0) (un_chain hm0 (by assumption)) X (by with_reducible assumption) T (EvAt.ofC rfl) hdx (Around.frames_deeper hA₀) ?hh ?d hD hpl hs hn hg ?hQ
  case hh => exact hh₀
  case d => show A₀.depth + 1 + 20 < recursionLimit; omega
  case hQ =>
    intro h' tk i' it' nv' F' N' R' b'
    rw [← hck] at F'
    dsimp only [chainOf] at F'
    clear N F₁
    k_steps
    all_goals first | exact True.intro | exact fin _ _ i' it' nv' _ _ _ ⟨rfl, rfl, rfl⟩ R' b' (by assumption) (by assumption)

end Mine
end

section
open PySem PySem.W PySem.Calls PySem.Spec PyProof.Rows PySem.Builtin PySem.Builtin.Str
set_option maxRecDepth 100000
set_option maxHeartbeats 1000000
namespace Mine
abbrev badO5 (D : Str) : Out := .whole (Str.ofString "bad escape (end of pattern)") ((D.length : Int) - 1)
section
variable {lo : Bool} {S : List Str} {q top : Nat} {D : Str} {gv : Value} {l : List Nat}
theorem top_le (htop : top = top5 lo S) : top ≤ S.length := by rw [htop]; unfold top5; split <;> omega
/-- not yet where it can't go on: something is next, or the end is no lone backslash -/
theorem drop_ok (htop : top = top5 lo S) (hS1 : 1 ≤ S.length) (hq : q ≤ top) : ¬ (S.drop q = [] ∧ lo = true) := by
  rintro ⟨h1, rfl⟩
  have : top = S.length - 1 := htop
  have h2 := congrArg List.length h1
  rw [List.length_drop, List.length_nil] at h2
  omega
theorem last_of (htop : top = top5 true S) (hS1 : 1 ≤ S.length) : top = S.length - 1 := htop
theorem match0_n {o : Out} {q' p' : Nat} {v : Value} {rs : List Str} (htop : top = top5 lo S) (hS1 : 1 ≤ S.length) (hq : q ≤ top)
    (H : (∃ z, S[q]? = some z ∧ q < top ∧ o = .text z ∧ q' = q + 1) ∨ (q = top ∧ q' = q ∧ ((lo = true ∧ o = badO5 D) ∨ (lo = false ∧ o = .none))))
    (K : (S.drop q = [] ∧ v = .none ∧ p' = pl5 S q ∧ rs = []) ∨ ∃ y r t, S.drop q = y :: r ∧ ¬ (r = [] ∧ lo = true) ∧ v = .str y t ∧ p' = pl5 S q + y.length ∧ rs = r) :
    OutAt gv l [] v o ∧ p' = pl5 S q' ∧ rs = S.drop q' ∧ q' ≤ top := by
  rcases H with ⟨z, hz, hlt, rfl, rfl⟩ | ⟨hqt, rfl, H⟩
  · rcases K with ⟨h1, _⟩ | ⟨y, r, t, h1, h2, rfl, rfl, rfl⟩
    · have := congrArg List.length h1
      rw [List.length_drop, List.length_nil] at this
      have := top_le htop
      omega
    · obtain ⟨e1, e2, _⟩ := drop_cons5 h1
      rw [hz] at e1
      obtain rfl := Option.some.inj e1
      exact ⟨⟨t, rfl⟩, (pl5_succ hz).symm, e2, hlt⟩
  · rcases H with ⟨rfl, rfl⟩ | ⟨rfl, rfl⟩
    · rcases K with ⟨h1, _⟩ | ⟨y, r, t, h1, h2, _⟩
      · exact absurd ⟨h1, rfl⟩ (drop_ok htop hS1 hq)
      · have e1 := last_of htop hS1
        have := congrArg List.length h1
        rw [List.length_drop, List.length_cons] at this
        exact absurd ⟨List.length_eq_zero_iff.mp (by omega), rfl⟩ h2
    · have e1 : top = S.length := htop
      rcases K with ⟨h1, rfl, rfl, rfl⟩ | ⟨y, r, t, h1, _⟩
      · exact ⟨rfl, rfl, h1.symm, hq⟩
      · have := congrArg List.length h1
        rw [List.length_drop, List.length_cons] at this
        omega
theorem match0_e {o : Out} {q' p' : Nat} {rs : List Str} {msg : Str} {pos : Int} (htop : top = top5 lo S) (hS1 : 1 ≤ S.length) (hq : q ≤ top)
    (H : (∃ z, S[q]? = some z ∧ q < top ∧ o = .text z ∧ q' = q + 1) ∨ (q = top ∧ q' = q ∧ ((lo = true ∧ o = badO5 D) ∨ (lo = false ∧ o = .none))))
    (K : ∃ y, S.drop q = [y] ∧ lo = true ∧ msg = Str.ofString "bad escape (end of pattern)" ∧ pos = (D.length : Int) - 1 ∧ p' = pl5 S q ∧ rs = S.drop q) :
    o = .whole msg pos ∧ p' = pl5 S q' ∧ rs = S.drop q' ∧ q' ≤ top := by
  obtain ⟨y, h1, rfl, rfl, rfl, rfl, rfl⟩ := K
  have e1 := last_of htop hS1
  have h2 := congrArg List.length h1
  rw [List.length_drop, List.length_singleton] at h2
  rcases H with ⟨z, hz, hlt, _⟩ | ⟨hqt, rfl, H⟩
  · omega
  · rcases H with ⟨_, rfl⟩ | ⟨h, _⟩
    · exact ⟨rfl, rfl, rfl, hq⟩
    · cases h
theorem match1_n {o : Out} {q' p' : Nat} {v : Value} {rs : List Str} {y : Str} (htop : top = top5 lo S) (hS1 : 1 ≤ S.length) (hq : q ≤ top)
    (H : (S[q]? ≠ some y ∧ o = .bool false ∧ q' = q) ∨ (S[q]? = some y ∧ q < top ∧ o = .bool true ∧ q' = q + 1) ∨ (S[q]? = some y ∧ q = top ∧ lo = true ∧ o = badO5 D ∧ q' = q))
    (K : ((S.drop q).head? ≠ some y ∧ v = .bool false ∧ p' = pl5 S q ∧ rs = S.drop q) ∨ ∃ r, S.drop q = y :: r ∧ ¬ (r = [] ∧ lo = true) ∧ v = .bool true ∧ p' = pl5 S q + y.length ∧ rs = r) :
    OutAt gv l [] v o ∧ p' = pl5 S q' ∧ rs = S.drop q' ∧ q' ≤ top := by
  have hh : (S.drop q).head? = S[q]? := by rw [List.head?_drop]
  rcases H with ⟨h1, rfl, rfl⟩ | ⟨h1, h2, rfl, rfl⟩ | ⟨h1, h2, rfl, rfl, rfl⟩
  · rcases K with ⟨_, rfl, rfl, rfl⟩ | ⟨r, k1, _⟩
    · exact ⟨rfl, rfl, rfl, hq⟩
    · rw [← hh, k1] at h1; exact absurd rfl h1
  · rcases K with ⟨k1, _⟩ | ⟨r, k1, _, rfl, rfl, rfl⟩
    · rw [hh] at k1; exact absurd h1 k1
    · exact ⟨rfl, (pl5_succ h1).symm, (drop_cons5 k1).2.1, h2⟩
  · rcases K with ⟨k1, _⟩ | ⟨r, k1, k2, _⟩
    · rw [hh] at k1; exact absurd h1 k1
    · have e1 := last_of htop hS1
      have := congrArg List.length k1
      rw [List.length_drop, List.length_cons] at this
      exact absurd ⟨List.length_eq_zero_iff.mp (by (first | ((try clear H); (try clear H1); (try clear K); (try clear G); omega) | omega)), rfl⟩ k2
theorem match1_e {o : Out} {q' p' : Nat} {rs : List Str} {y msg : Str} {pos : Int} (htop : top = top5 lo S) (hS1 : 1 ≤ S.length) (hq : q ≤ top)
    (H : (S[q]? ≠ some y ∧ o = .bool false ∧ q' = q) ∨ (S[q]? = some y ∧ q < top ∧ o = .bool true ∧ q' = q + 1) ∨ (S[q]? = some y ∧ q = top ∧ lo = true ∧ o = badO5 D ∧ q' = q))
    (K : S.drop q = [y] ∧ lo = true ∧ msg = Str.ofString "bad escape (end of pattern)" ∧ pos = (D.length : Int) - 1 ∧ p' = pl5 S q ∧ rs = S.drop q) :
    o = .whole msg pos ∧ p' = pl5 S q' ∧ rs = S.drop q' ∧ q' ≤ top := by
  obtain ⟨h1, rfl, rfl, rfl, rfl, rfl⟩ := K
  have e1 := last_of htop hS1
  have h2 := congrArg List.length h1
  rw [List.length_drop, List.length_singleton] at h2
  have h3 := (drop_cons5 h1).1
  rcases H with ⟨k1, _⟩ | ⟨_, k2, _⟩ | ⟨_, _, _, rfl, rfl⟩
  · exact absurd h3 k1
  · (first | ((try clear H); (try clear H1); (try clear K); (try clear G); omega) | omega)
  · exact ⟨rfl, rfl, rfl, hq⟩
theorem head_at {S rest pre : List Str} {q : Nat} (h : S.drop q = pre ++ rest) : rest.head? = S[q + pre.length]? := by
  rw [(drop_split h).1, List.head?_drop]
theorem match2_n {P : Str → Bool} {o : Out} {q' p' c : Nat} {v : Value} {rs : List Str} (htop : top = top5 lo S) (hS1 : 1 ≤ S.length) (hq : q ≤ top)
    (H1 : Stop P S q (min top (q + c)) q') (H : (lo = true ∧ q' = top ∧ q' < q + c ∧ (∃ z, S[q']? = some z ∧ P z = true) ∧ o = badO5 D) ∨ (¬ (lo = true ∧ q' = top ∧ q' < q + c ∧ ∃ z, S[q']? = some z ∧ P z = true) ∧ o = .text (cat ((S.drop q).take (q' - q)))))
    (K : ∃ pre t, S.drop q = pre ++ rs ∧ (∀ y ∈ pre, P y = true) ∧ pre.length ≤ c ∧ (pre.length = c ∨ ∀ y, rs.head? = some y → P y = false) ∧ (lo = true → rs = [] → pre = []) ∧ v = .str (cat pre) t ∧ p' = pl5 S q + (cat pre).length) :
    OutAt gv l [] v o ∧ p' = pl5 S q' ∧ rs = S.drop q' ∧ q' ≤ top := by
  obtain ⟨pre, t, h, h1, h2, h3, h4, rfl, rfl⟩ := K
  obtain ⟨s1, s2, s3⟩ := drop_split h
  have hl := congrArg List.length h
  rw [List.length_drop, List.length_append] at hl
  have hqn := top_le htop
  have hle : q + pre.length ≤ top := by
    cases lo
    · have : top = S.length := htop
      (first | ((try clear H); (try clear H1); (try clear K); (try clear G); omega) | omega)
    · have e1 := last_of htop hS1
      have : rs ≠ [] := fun z => by
        have hp := h4 rfl z
        rw [hp, z] at h
        exact drop_ok htop hS1 hq ⟨h, rfl⟩
      have : 1 ≤ rs.length := List.length_pos_iff.mpr this
      (first | ((try clear H); (try clear H1); (try clear K); (try clear G); omega) | omega)
  have hstop : q + pre.length = min top (q + c) ∨ ∃ y, S[q + pre.length]? = some y ∧ P y = false := by
    rcases h3 with h3 | h3
    · exact .inl (by (first | ((try clear H); (try clear H1); (try clear K); (try clear G); omega) | omega))
    · by_cases hn : q + pre.length < S.length
      · refine .inr ⟨S[q + pre.length], List.getElem?_eq_getElem hn, h3 _ ?_⟩
        rw [head_at h, List.getElem?_eq_getElem hn]
      · exact .inl (by (first | ((try clear H); (try clear H1); (try clear K); (try clear G); omega) | omega))
  have hu := stop_uniq H1 h rfl h1 (by (first | ((try clear H); (try clear H1); (try clear K); (try clear G); omega) | omega)) hstop
  subst hu
  have hno : ¬ (lo = true ∧ q + pre.length = top ∧ q + pre.length < q + c ∧ ∃ z, S[q + pre.length]? = some z ∧ P z = true) := by
    rintro ⟨_, _, k3, z, k4, k5⟩
    rcases h3 with h3 | h3
    · (first | ((try clear H); (try clear H1); (try clear K); (try clear G); omega) | omega)
    · rw [h3 z (by rw [head_at h, k4])] at k5; cases k5
  rcases H with ⟨k1, k2, k3, k4, _⟩ | ⟨_, rfl⟩
  · exact absurd ⟨k1, k2, k3, k4⟩ hno
  · refine ⟨⟨t, ?_⟩, s3.symm, s1, hle⟩
    rw [Nat.add_sub_cancel_left, s2]
theorem match2_e {P : Str → Bool} {o : Out} {q' p' c : Nat} {rs : List Str} {msg : Str} {pos : Int} (htop : top = top5 lo S) (hS1 : 1 ≤ S.length) (_hq : q ≤ top)
    (H1 : Stop P S q (min top (q + c)) q') (H : (lo = true ∧ q' = top ∧ q' < q + c ∧ (∃ z, S[q']? = some z ∧ P z = true) ∧ o = badO5 D) ∨ (¬ (lo = true ∧ q' = top ∧ q' < q + c ∧ ∃ z, S[q']? = some z ∧ P z = true) ∧ o = .text (cat ((S.drop q).take (q' - q)))))
    (K : ∃ pre y, S.drop q = pre ++ [y] ∧ lo = true ∧ (∀ z ∈ pre, P z = true) ∧ P y = true ∧ pre.length < c ∧ msg = Str.ofString "bad escape (end of pattern)" ∧ pos = (D.length : Int) - 1 ∧ p' = pl5 S q + (cat pre).length ∧ rs = [y]) :
    o = .whole msg pos ∧ p' = pl5 S q' ∧ rs = S.drop q' ∧ q' ≤ top := by
  obtain ⟨pre, y, h, rfl, h1, h2, h3, rfl, rfl, rfl, rfl⟩ := K
  obtain ⟨s1, s2, s3⟩ := drop_split h
  have hl := congrArg List.length h
  rw [List.length_drop, List.length_append, List.length_singleton] at hl
  have e1 := last_of htop hS1
  have hle : q + pre.length = top := by (first | ((try clear H); (try clear H1); (try clear K); (try clear G); omega) | omega)
  have hu := stop_uniq H1 h rfl h1 (by (first | ((try clear H); (try clear H1); (try clear K); (try clear G); omega) | omega)) (.inl (by (first | ((try clear H); (try clear H1); (try clear K); (try clear G); omega) | omega)))
  subst hu
  have hy : S[q + pre.length]? = some y := by rw [← head_at h]; rfl
  rcases H with ⟨_, _, _, _, rfl⟩ | ⟨hno, _⟩
  · exact ⟨rfl, s3.symm, s1, by (first | ((try clear H); (try clear H1); (try clear K); (try clear G); omega) | omega)⟩
  · exact absurd ⟨rfl, hle, by (first | ((try clear H); (try clear H1); (try clear K); (try clear G); omega) | omega), y, hy, h2⟩ hno
def Want3 (lo : Bool) (S : List Str) (D : Str) (q top p q' : Nat) (m2 : Str) (o : Out) : Prop :=
  (p < top ∧ q' = p + 1 ∧ o = (if p = q then .whole (Str.ofString "missing thing") (((pl5 S (p + 1) : Nat) : Int) - 1) else .text (cat ((S.drop q).take (p - q))))) ∨ (p = top ∧ q' = p ∧ lo = true ∧ o = badO5 D) ∨ (p = top ∧ q' = p ∧ lo = false ∧ o = (if p = q then .whole (Str.ofString "missing thing") ((pl5 S S.length : Nat) : Int) else .whole m2 ((pl5 S q : Nat) : Int)))
theorem match3 {o : Out} {q' p p' : Nat} {rs : List Str} {y m2 : Str} {r : Str ⊕ (Str × Int)} (htop : top = top5 lo S) (hS1 : 1 ≤ S.length) (_hq : q ≤ top)
    (H1 : Stop (fun z => z != y) S q top p) (H : Want3 lo S D q top p q' m2 o) (G : GetsX lo D y (Str.ofString "missing thing") m2 (S.drop q) (pl5 S q) r p' rs) :
    ((∃ w, r = .inl w ∧ o = .text w) ∨ ∃ z, r = .inr z ∧ o = .whole z.1 z.2) ∧ p' = pl5 S q' ∧ rs = S.drop q' ∧ q' ≤ top := by
  have hqn := top_le htop
  have hpass : ∀ {pre : List Str}, y ∉ pre → ∀ z ∈ pre, (z != y) = true := fun hn z hz => by
    have : z ≠ y := fun e => hn (e ▸ hz)
    simpa using this
  rcases G with ⟨pre, h, h1, h2, h3, rfl, rfl⟩ | ⟨h, h2, rfl, rfl⟩ | ⟨rfl, h, rfl, rfl, rfl⟩ | ⟨rfl, h1, h2, rfl, rfl, rfl⟩ | ⟨rfl, pre, z, h, h1, rfl, rfl, rfl⟩
  · obtain ⟨s1, s2, s3⟩ := drop_split h
    have hl := congrArg List.length h
    rw [List.length_drop, List.length_append, List.length_cons] at hl
    have hy : S[q + pre.length]? = some y := by rw [← head_at h]; rfl
    have hlt : q + pre.length < top := by
      cases lo
      · have : top = S.length := htop
        (first | ((try clear H); (try clear H1); (try clear K); (try clear G); omega) | omega)
      · have e1 := last_of htop hS1
        have : rs ≠ [] := fun z => h2 ⟨z, rfl⟩
        have := List.length_pos_iff.mpr this
        (first | ((try clear H); (try clear H1); (try clear K); (try clear G); omega) | omega)
    have hu := stop_uniq H1 h rfl (hpass h1) (by (first | ((try clear H); (try clear H1); (try clear K); (try clear G); omega) | omega)) (.inr ⟨y, hy, by simp⟩)
    subst hu
    have hpl := List.length_pos_iff.mpr h3
    rcases H with ⟨_, rfl, rfl⟩ | ⟨k1, _⟩ | ⟨k1, _⟩
    · refine ⟨.inl ⟨cat pre, rfl, ?_⟩, ?_, ?_, hlt⟩
      · rw [if_neg (by (first | ((try clear H); (try clear H1); (try clear K); (try clear G); omega) | omega)), Nat.add_sub_cancel_left, s2]
      · rw [pl5_succ hy, s3]
      · exact (drop_cons5 s1.symm).2.1
    · (first | ((try clear H); (try clear H1); (try clear K); (try clear G); omega) | omega)
    · (first | ((try clear H); (try clear H1); (try clear K); (try clear G); omega) | omega)
  · have hy := (drop_cons5 h).1
    have hl := congrArg List.length h
    rw [List.length_drop, List.length_cons] at hl
    have hlt : q < top := by
      cases lo
      · have : top = S.length := htop
        (first | ((try clear H); (try clear H1); (try clear K); (try clear G); omega) | omega)
      · have e1 := last_of htop hS1
        have : rs ≠ [] := fun z => h2 ⟨z, rfl⟩
        have := List.length_pos_iff.mpr this
        (first | ((try clear H); (try clear H1); (try clear K); (try clear G); omega) | omega)
    have hu := stop_uniq H1 (pre := []) (rest := y :: rs) (q := q) h rfl (by simp) (by (first | ((try clear H); (try clear H1); (try clear K); (try clear G); omega) | omega)) (.inr ⟨y, hy, by simp⟩)
    subst hu
    rcases H with ⟨_, rfl, rfl⟩ | ⟨k1, _⟩ | ⟨k1, _⟩
    · refine ⟨.inr ⟨_, rfl, ?_⟩, (pl5_succ hy).symm, (drop_cons5 h).2.1, hlt⟩
      rw [if_pos rfl, pl5_succ hy]
      congr 1
    · (first | ((try clear H); (try clear H1); (try clear K); (try clear G); omega) | omega)
    · (first | ((try clear H); (try clear H1); (try clear K); (try clear G); omega) | omega)
  · have e1 : top = S.length := htop
    have hl := congrArg List.length h
    rw [List.length_drop, List.length_nil] at hl
    have hu := stop_uniq H1 (pre := []) (rest := []) (q := q) h rfl (by simp) (by (first | ((try clear H); (try clear H1); (try clear K); (try clear G); omega) | omega)) (.inl (by (first | ((try clear H); (try clear H1); (try clear K); (try clear G); omega) | omega)))
    subst hu
    rcases H with ⟨k1, _⟩ | ⟨_, _, k, _⟩ | ⟨k1, rfl, _, rfl⟩
    · (first | ((try clear H); (try clear H1); (try clear K); (try clear G); omega) | omega)
    · cases k
    · refine ⟨.inr ⟨_, rfl, ?_⟩, rfl, h.symm, by (first | ((try clear H); (try clear H1); (try clear K); (try clear G); omega) | omega)⟩
      rw [if_pos rfl]
      have : q' = S.length := by (first | ((try clear H); (try clear H1); (try clear K); (try clear G); omega) | omega)
      rw [this]
  · have e1 : top = S.length := htop
    have hl : (S.drop q).length = S.length - q := List.length_drop
    have hpos := List.length_pos_iff.mpr h2
    have hu := stop_uniq H1 (pre := S.drop q) (rest := []) (q := top) (by rw [List.append_nil]) (by (first | ((try clear H); (try clear H1); (try clear K); (try clear G); omega) | omega)) (hpass h1) (Nat.le_refl _) (.inl rfl)
    subst hu
    rcases H with ⟨k1, _⟩ | ⟨_, _, k, _⟩ | ⟨k1, rfl, _, rfl⟩
    · (first | ((try clear H); (try clear H1); (try clear K); (try clear G); omega) | omega)
    · cases k
    · refine ⟨.inr ⟨_, rfl, ?_⟩, ?_, ?_, Nat.le_refl _⟩
      · rw [if_neg (by (first | ((try clear H); (try clear H1); (try clear K); (try clear G); omega) | omega))]
      · have := pl5_add (S := S) (k := q) (j := q' - q)
        have e2 : q + (q' - q) = q' := by (first | ((try clear H); (try clear H1); (try clear K); (try clear G); omega) | omega)
        rw [e2, List.take_of_length_le (by (first | ((try clear H); (try clear H1); (try clear K); (try clear G); omega) | omega))] at this
        exact this.symm
      · rw [e1, List.drop_length]
  · obtain ⟨s1, s2, s3⟩ := drop_split h
    have e1 := last_of htop hS1
    have hl := congrArg List.length h
    rw [List.length_drop, List.length_append, List.length_singleton] at hl
    have hu := stop_uniq H1 h (q := top) (by (first | ((try clear H); (try clear H1); (try clear K); (try clear G); omega) | omega)) (hpass h1) (Nat.le_refl _) (.inl rfl)
    have e2 : q + pre.length = top := by (first | ((try clear H); (try clear H1); (try clear K); (try clear G); omega) | omega)
    subst hu
    rcases H with ⟨k1, _⟩ | ⟨_, rfl, _, rfl⟩ | ⟨_, _, k, _⟩
    · (first | ((try clear H); (try clear H1); (try clear K); (try clear G); omega) | omega)
    · exact ⟨.inr ⟨_, rfl, rfl⟩, by rw [← e2, s3], by rw [← e2]; exact s1, Nat.le_refl _⟩
    · cases k
end
end Mine
end

section
open PySem PySem.W PySem.Calls PySem.Spec PyProof.Rows PySem.Builtin PySem.Builtin.Str
set_option maxRecDepth 100000
set_option maxHeartbeats 1000000
namespace Mine
/-- a text whose codes are codes -/
def Codes (x : Str) : Prop := ∀ c ∈ x.cps.toList, c < 16 ^ 8
theorem codes_app {x y : Str} (h : Codes x) (k : Codes y) : Codes (x ++ y) := fun c hc => by
  rw [app_cps] at hc
  rcases List.mem_append.mp hc with hc | hc
  · exact h c hc
  · exact k c hc
theorem codes_str (s : String) : Codes (Str.ofString s) := fun c hc => by
  rw [Str.ofString_eq_toList] at hc
  simp only [List.mem_map] at hc
  obtain ⟨ch, _, rfl⟩ := hc
  have h1 : ch.toNat < 4294967296 := ch.val.toNat_lt
  exact Nat.lt_of_lt_of_le h1 (by decide)
theorem codes_small {x : Str} (h : ∀ c ∈ x.cps.toList, c < 256) : Codes x := fun c hc => Nat.lt_of_lt_of_le (h c hc) (by decide)
theorem log_small {i : Int} (h : IntFit i) : i.natAbs.log2 < 1920 := by
  obtain ⟨h1, h2⟩ := h
  by_cases h0 : i.natAbs = 0
  · rw [h0]; decide
  · refine (Nat.log2_lt h0).mpr (Nat.lt_of_le_of_lt (show i.natAbs ≤ 2 ^ 14 by omega) (Nat.pow_lt_pow_right (by decide) (by decide)))
theorem col_fit {D : Str} {p : Int} (hD : D.length ≤ 2000) (h0 : 0 ≤ p) (h1 : p ≤ D.length) : IntFit (peLine D.cps.toList p) ∧ IntFit (peCol D.cps.toList p) := by
  have e2 : D.cps.toList.length = D.length := by simp [Str.length]
  have a := lastIx_lt 10 (D.cps.toList.take p.toNat)
  have b := lastIx_ge 10 (D.cps.toList.take p.toNat)
  have c : (D.cps.toList.take p.toNat).length ≤ 2000 := by rw [List.length_take]; omega
  have d := List.count_le_length (a := 10) (l := D.cps.toList.take p.toNat)
  refine ⟨?_, ?_⟩
  · unfold peLine IntFit; omega
  · unfold peCol IntFit; omega
theorem whole_fit {gv : Value} {D msg : Str} {p : Int} (hm : msg.length ≤ 100) (hc : Codes msg) (hg : ShowsV gv) (hD : D.length ≤ 2000) (h0 : 0 ≤ p) (h1 : p ≤ D.length) : OutFit gv D.cps.toList (.whole msg p) := by
  obtain ⟨c1, c2⟩ := col_fit hD h0 h1
  have hp : IntFit p := by unfold IntFit; omega
  have l1 := int_text_len_1921 (log_small hp)
  have l2 := int_text_len_1921 (log_small c1)
  have l3 := int_text_len_1921 (log_small c2)
  have hhl : (peHead msg p).length ≤ 100 + 13 + 1921 := by
    unfold peHead
    rw [Str.length_append, Str.length_append]
    have : (Str.ofString " at position ").length = 13 := by decide +kernel
    omega
  have hhc : Codes (peHead msg p) := codes_app (codes_app hc (codes_str _)) (codes_str _)
  refine ⟨⟨by omega, hc⟩, hg, hp, c1, c2, ?_⟩
  unfold peWords
  split
  · refine ⟨?_, codes_app (codes_app (codes_app (codes_app (codes_app hhc (codes_str _)) (codes_str _)) (codes_str _)) (codes_str _)) (codes_str _)⟩
    simp only [Str.length_append]
    have : (Str.ofString " (line ").length = 7 := by decide +kernel
    have : (Str.ofString ", column ").length = 9 := by decide +kernel
    have : (Str.ofString ")").length = 1 := by decide +kernel
    omega
  · exact ⟨by omega, hhc⟩
theorem shows_given {b : Bool} {gv : Value} {D : Str} (h : GivenIs b gv D) (hD : D.length ≤ 2000) (h256 : ∀ c ∈ D.cps.toList, c < 256) : ShowsV gv := by
  rcases h with ⟨_, t, rfl⟩ | ⟨_, B, t, rfl, hB⟩
  · exact ⟨by omega, codes_small h256⟩
  · show B.size ≤ 30000
    have := congrArg List.length hB
    have e : (nums B).length = B.size := by unfold nums; simp
    rw [e] at this
    have e2 : D.cps.toList.length = D.length := by simp [Str.length]
    omega
end Mine
end

section
open PySem PySem.W PySem.Calls PySem.Spec PyProof.Rows
set_option maxRecDepth 100000
set_option maxHeartbeats 2000000
namespace Mine
open TI
theorem fillL5J (P : Params) : hd.heap_1 P = hd.heap_1 P ∧ PySem.Challenge.rw_kq0016_05 = PySem.Challenge.rw_kq0016_05 := by
  k_fill
  exact ⟨rfl, rfl⟩
abbrev mzX : List Str := [Str.ofString "want", Str.ofString "at", Str.ofString "mark", Str.ofString "seen", Str.ofString "e"]
theorem oth_mz {a b c : Str → Option Value} (h : Oth wantX b c) (k : ∀ z, z ≠ Str.ofString "seen" → z ≠ Str.ofString "e" → a z = b z) : Oth mzX a c := fun z hz => by
  have h1 : z ≠ Str.ofString "seen" := fun e => hz (by rw [e]; simp)
  have h2 : z ≠ Str.ofString "e" := fun e => hz (by rw [e]; simp)
  have h3 : z ∉ wantX := fun e => hz (by
    simp only [wantX, List.mem_cons, List.not_mem_nil, or_false] at e
    rcases e with e | e | e <;> rw [e] <;> simp)
  rw [k z h1 h2, h z h3]
theorem mem_rd {α : Type} {a b q : α} {n r : List α} (h : q ∈ a :: b :: (n ++ r)) : q ∈ n ++ (a :: b :: r) := by
  simp only [List.mem_cons, List.mem_append] at h ⊢
  rcases h with h | h | h | h
  · exact .inr (.inl h)
  · exact .inr (.inr (.inl h))
  · exact .inl h
  · exact .inr (.inr (.inr h))
theorem mem_rd2 {α : Type} {a b q : α} {k n r : List α} (h : q ∈ a :: b :: ((k ++ n) ++ r)) : q ∈ k ++ (a :: b :: (n ++ r)) := by
  simp only [List.mem_cons, List.mem_append] at h ⊢
  rcases h with h | h | (h | h) | h
  · exact .inr (.inl h)
  · exact .inr (.inr (.inl h))
  · exact .inl h
  · exact .inr (.inr (.inr (.inl h)))
  · exact .inr (.inr (.inr (.inr h)))
/-- a deed is done and what it should have given is known: what stands then -/
inductive MZ (Pm : Params) (base : Heap) (L : Addr) (m : Str → Option Value) (x dx : Addr) (k1 k2 k3 k4 k5 : Tok) (b lone : Bool) (gv gl : Value) (D : Str) (dt : Tok) (new : List (Addr × Obj)) (S : List Str) (top : Nat) (s s' : Shared) : Prop
  | mk (h' : Heap) (tk : Nat) (m' : Str → Option Value) (w' v' : Value) (o : Out) (q' i : Nat) (qt it : Tok) (nv : Value) (nw : List (Addr × Obj)) (hw : m' (Str.ofString "want") = some w') (hv : m' (Str.ofString "seen") = some v') (ha : m' (Str.ofString "at") = some (.int (q' : Int) qt)) (o1 : OutAt gl D.cps.toList (nw ++ new) w' o) (o2 : OutAt gv D.cps.toList (nw ++ new) v' o) (hf : OutFit gl D.cps.toList o)
      (hr : RdX lone D i nv (pl5 S q') (S.drop q')) (hq : q' ≤ top) (hi : i ≤ 3000) (hoth : Oth mzX m' m) (hs : s' = { s with heap := h', toks := tk }) (F : Fr base L h' m') (N : News base L h' ((x, instObj 133 dx) :: (dx, tokD Pm k1 k2 k3 k4 k5 b gv (.str D dt) (.int (i : Int) it) nv) :: (nw ++ new)))
theorem mid {w : World} {loose : List Str} {mean : ExcName → Option Value} {mg mb : Str → Option Value} {A₀ : Around} {a : Addr} {cd : Value}
    {base : Heap} {L : Addr} {m : Str → Option Value} {s : Shared} {E : Value → Shared → Prop} {Q : Flow → Shared → Prop} {new : List (Addr × Obj)} {x dx : Addr} {k1 k2 k3 k4 k5 : Tok} {b lone : Bool} {gv : Value} {D : Str} {dt : Tok} {i : Nat} {it : Tok} {nv : Value} {p : Nat} {sgs : List Str} {gl : Value} {S : List Str} {top : Nat} {SP : Out → Nat → Prop} {Kn : Value → Nat → List Str → Prop} {Ke : Str → Int → Nat → List Str → Prop}
    (X : (hd.heap_1 w.params).In base) (T : Top hd.view_39 loose mean mg mb base) (hA₀ : A₀.frames = some []) (hh₀ : A₀.handled = none) (hd' : A₀.depth + 30 < recursionLimit) (hu : A₀.units + 100 < cLine) (hdx : ∀ q ∈ new, q.1 ≠ dx) (hg : GivenIs b gv D)
    (hw : ∀ Q' : Flow → Shared → Prop, (∀ h' tk m' w' (q' : Nat) qt' o nw, SP o q' → m' (Str.ofString "want") = some w' → m' (Str.ofString "at") = some (.int (q' : Int) qt') → Oth wantX m' m → Fr base L h' m' → News base L h' (nw ++ ((x, instObj 133 dx) :: (dx, tokD w.params k1 k2 k3 k4 k5 b gv (.str D dt) (.int i it) nv) :: new)) → OutAt gl D.cps.toList (nw ++ new) w' o → (∀ z ∈ nw, z.1 ≠ dx) → Q' .next { s with heap := h', toks := tk }) → wpAny (model PySem.Challenge.rw_kq0016_05.row.prog w) (A₀.deeper (lawEnv L a cd)) (exec (tStmt 8) (lawEnv L a cd)) Q' E s)
    (ht : ∀ m1 h1 tk1 nw, Fr base L h1 m1 → News base L h1 ((x, instObj 133 dx) :: (dx, tokD w.params k1 k2 k3 k4 k5 b gv (.str D dt) (.int i it) nv) :: (nw ++ new)) → Oth wantX m1 m → (∀ q ∈ nw ++ new, q.1 ≠ dx) → wpAny (model PySem.Challenge.rw_kq0016_05.row.prog w) (A₀.deeper (lawEnv L a cd)) (execs tryB (lawEnv L a cd)) (fun f s' => f = .next ∧ NZ w.params base L m1 x dx k1 k2 k3 k4 k5 b lone gv D dt (nw ++ new) Kn { s with heap := h1, toks := tk1 } s') (RZ w.params base L m1 x dx k1 k2 k3 k4 k5 b gv D dt (nw ++ new) (KE lone D Ke) { s with heap := h1, toks := tk1 }) { s with heap := h1, toks := tk1 })
    (hn : ∀ o q', SP o q' → ∀ v p' rs, Kn v p' rs → OutAt gv D.cps.toList [] v o ∧ p' = pl5 S q' ∧ rs = S.drop q' ∧ q' ≤ top)
    (he : ∀ o q', SP o q' → ∀ msg pos p' rs, Ke msg pos p' rs → o = .whole msg pos ∧ p' = pl5 S q' ∧ rs = S.drop q' ∧ q' ≤ top)
    (hf : ∀ o q', SP o q' → OutFit gl D.cps.toList o) :
    wpAny (model PySem.Challenge.rw_kq0016_05.row.prog w) (A₀.deeper (lawEnv L a cd)) (execs [tStmt 8, tStmt 9] (lawEnv L a cd)) (fun f s' => f = .next ∧ MZ w.params base L m x dx k1 k2 k3 k4 k5 b lone gv gl D dt new S top s s') E s := by
  refine wpAny_execs_cons (hw _ fun h1 tk1 m1 w1 q1 qt1 o nw hsp hw1 ha1 ho1 F1 N1 out1 hnd => ?_)
  have hdx2 : ∀ q ∈ nw ++ new, q.1 ≠ dx := fun q hq => by
    rcases List.mem_append.mp hq with hq | hq
    · exact hnd q hq
    · exact hdx q hq
  refine wpAny_execs_cons (t_try5 (K := KE lone D Ke) X T hA₀ hh₀ hd' hu hg (ht m1 h1 tk1 nw F1 (fun q hq => N1 q (mem_rd hq)) ho1 hdx2) (fun s' hz => ?_) (fun msg pos i it nv hK h' tk m' v nw2 hv ho2 F' N' out2 => ?_))
  · obtain ⟨h', tk, i, it, nv, v, p, rs, hK, hr, hi, rfl, F', N'⟩ := hz
    obtain ⟨e1, rfl, rfl, hq⟩ := hn o q1 hsp v p rs hK
    exact wpAny_execs_nil ⟨rfl, h', tk, _, w1, v, o, q1, i, qt1, it, nv, nw, (if_neg (by decide)).trans hw1, if_pos rfl, (if_neg (by decide)).trans ha1, out1, e1.mono (fun q hq => nomatch hq), hf o q1 hsp, hr, hq, hi, oth_mz ho1 (fun z h1 _ => if_neg h1), rfl, F', N'⟩
  · obtain ⟨p, rs, hr, hi, hKe⟩ := hK
    obtain ⟨rfl, rfl, rfl, hq⟩ := he o q1 hsp msg pos p rs hKe
    exact wpAny_execs_nil ⟨rfl, h', tk, m', w1, v, _, q1, i, qt1, it, nv, nw2 ++ nw, (ho2 _ (by decide) (by decide)).trans hw1, hv, (ho2 _ (by decide) (by decide)).trans ha1, out1.mono (fun q hq => by rw [List.append_assoc]; exact List.mem_append_right _ hq), out2.mono (fun q hq => List.mem_append_left _ (List.mem_append_left _ hq)), hf _ q1 hsp, hr, hq, hi, oth_mz ho1 ho2, rfl, F', fun q hq => N' q (mem_rd2 hq)⟩
end Mine
end

section
open PySem PySem.W PySem.Calls PySem.Spec PyProof.Rows
set_option maxRecDepth 100000
set_option maxHeartbeats 2000000
namespace Mine
open TI
theorem fillL5K (P : Params) : hd.heap_1 P = hd.heap_1 P ∧ PySem.Challenge.rw_kq0016_05 = PySem.Challenge.rw_kq0016_05 := by
  k_fill
  exact ⟨rfl, rfl⟩
theorem out_drop {gl v : Value} {l : List Nat} {nw new : List (Addr × Obj)} {pa pb : Addr × Obj} {o : Out} (h : OutAt gl l (nw ++ (pa :: pb :: new)) v o) (ha : pa.2.cls ≠ .type "tuple") (hb : pb.2.cls ≠ .type "tuple") : OutAt gl l (nw ++ new) v o := by
  cases o with
  | whole m p =>
    obtain ⟨T, g, t1, t2, t3, t4, t5, h1, h2, h3⟩ := h
    refine ⟨T, g, t1, t2, t3, t4, t5, h1, h2, ?_⟩
    rcases List.mem_append.mp h3 with h3 | h3
    · exact List.mem_append_left _ h3
    rcases List.mem_cons.mp h3 with e | h3
    · exact absurd (congrArg (fun z : Addr × Obj => z.2.cls) e).symm ha
    rcases List.mem_cons.mp h3 with e | h3
    · exact absurd (congrArg (fun z : Addr × Obj => z.2.cls) e).symm hb
    · exact List.mem_append_right _ h3
  | none => exact h
  | bool b => exact h
  | text y => exact h
theorem dict_cls {es : List DictEntry} {n : Nat} : (dictOf es n).cls ≠ .type "tuple" := fun z => absurd (Value.type.inj z) (by decide)
theorem fit_text {S W : List Str} (hS : ∀ y ∈ S, IsSg y) (hW : ∀ y ∈ W, y ∈ S) (hl : W.length ≤ 100) : StrFit (cat W) := by
  have h1 : ∀ y ∈ W, IsSg y := fun y hy => hS y (hW y hy)
  refine ⟨?_, codes_small (sg_small h1)⟩
  rw [cat_len]
  have := sum_le (l := W) (k := 2) (fun y hy => (h1 y hy).len.2)
  omega
theorem fit_sg {y : Str} (h : IsSg y) : StrFit y := by
  have := fit_text (S := [y]) (W := [y]) (fun z hz => by rw [List.mem_singleton.mp hz]; exact h) (fun z hz => hz) (by simp)
  rwa [cat_one] at this
theorem fit_bad {gl : Value} {D : Str} (hg : ShowsV gl) (hD : D.length ≤ 2000) (h1 : 1 ≤ D.length) : OutFit gl D.cps.toList (badO D) :=
  whole_fit (by decide +kernel) (codes_str _) hg hD (by omega) (by omega)
theorem mark3_fit {b : Bool} {y : Str} (h : IsSg y) : (mark3 b y).length ≤ 4 ∧ Codes (mark3 b y) := by
  unfold mark3
  split
  · exact ⟨by decide +kernel, codes_str _⟩
  · exact ⟨by have := h.len.2; omega, (fit_sg h).2⟩
/-- the names of one turn, once its deed is chosen -/
abbrev nmT (d : Int) (y : Str) (c g q top : Nat) (S : List Str) (lone b : Bool) (Tw Dg Ds P x : Addr) (D : Str) (gl : Value) (et yt ct gt ht qt tt nt Dt : Tok) : List (Str × Value) := [(Str.ofString "deed", .int d et), (Str.ofString "sign", .str y yt), (Str.ofString "count", .int (c : Int) ct), (Str.ofString "goal", .int (g : Int) gt), (Str.ofString "here", .int (q : Int) ht), (Str.ofString "want", .none), (Str.ofString "at", .int (q : Int) qt), (Str.ofString "top", .int (top : Int) tt), (Str.ofString "n", .int (S.length : Int) nt), (Str.ofString "lone", .bool lone), (Str.ofString "stuck", .ref Tw), (Str.ofString "signs", .ref Dg), (Str.ofString "some", .ref Ds), (Str.ofString "places", .ref P), (Str.ofString "text", .str D Dt), (Str.ofString "given", gl), (Str.ofString "octets", .bool (!b)), (Str.ofString "source", .ref x)]
theorem deed_0 {w : World} {loose : List Str} {mean : ExcName → Option Value} {mg mb : Str → Option Value} {A₀ : Around} {a : Addr} {cd : Value}
    {base : Heap} {L : Addr} {m : Str → Option Value} {s : Shared} {E : Value → Shared → Prop} {Q : Flow → Shared → Prop} {new : List (Addr × Obj)} {x dx : Addr} {k1 k2 k3 k4 k5 : Tok} {b lone : Bool} {gv : Value} {D : Str} {dt : Tok} {i : Nat} {it : Tok} {nv : Value} {gl : Value} {S : List Str} {top c g nz ny no : Nat} {y : Str} {Tw Dg Ds P : Addr} {ys zs os : List Value} {et yt ct gt ht qt tt nt Dt u1 u2 u3 u4 u5 : Tok} {q : Nat}
    (F : Fr base L s.heap m) (X : (hd.heap_1 w.params).In base) (N : News base L s.heap ((x, instObj 133 dx) :: (dx, tokD w.params k1 k2 k3 k4 k5 b gv (.str D dt) (.int i it) nv) :: new)) (T : Top hd.view_39 loose mean mg mb base) (hA₀ : A₀.frames = some []) (hh₀ : A₀.handled = none) (hd' : A₀.depth + 30 < recursionLimit) (hu : A₀.units + 100 < cLine) (hdx : ∀ q ∈ new, q.1 ≠ dx)
    (hD : D.length ≤ 2000) (hcD : (cat S).length ≤ D.length) (hD1 : 1 ≤ D.length) (hi : i ≤ 3000) (hr : RdX lone D i nv (pl5 S q) (S.drop q)) (hg : GivenIs b gv D) (hsh : ShowsV gl) (hgl : SameV gl gl) (hsx : SignsX lone D 0 S)
    (hDg : (Dg, W.listOf ys.toArray ny) ∈ new) (hy : StrsAre ys S) (hSl : S.length ≤ 100) (hS1 : 1 ≤ S.length) (hS : ∀ z ∈ S, IsSg z) (htop : top = top5 lone S) (hq : q ≤ top) (hTw : (Tw, wholeO (Str.ofString "bad escape (end of pattern)") gl D.cps.toList ((D.length : Int) - 1) u1 u2 u3 u4 u5) ∈ new)
    (hDs : (Ds, W.listOf os.toArray no) ∈ new) (ho : StrsAre os some5) (hP : (P, W.listOf zs.toArray nz) ∈ new) (hz : IntsAre zs (plcs S S.length)) (hy0 : IsSg y) (hc : c ≤ 4) (hgt : g ≤ top)
    (hE : PassesOwn (model PySem.Challenge.rw_kq0016_05.row.prog w) (A₀.deeper (lawEnv L a cd)) (lawEnv L a cd) E)
    (hm : Has m (nmT 0 y c g q top S lone b Tw Dg Ds P x D gl et yt ct gt ht qt tt nt Dt)) :
    wpAny (model PySem.Challenge.rw_kq0016_05.row.prog w) (A₀.deeper (lawEnv L a cd)) (execs [tStmt 8, tStmt 9] (lawEnv L a cd)) (fun f s' => f = .next ∧ MZ w.params base L m x dx k1 k2 k3 k4 k5 b lone gv gl D dt new S top s s') E s := by
  have hh : (A₀.deeper (lawEnv L a cd)).handled = none := hh₀
  have hd4 : (A₀.deeper (lawEnv L a cd)).depth + 4 < recursionLimit := by show A₀.depth + 1 + 4 < recursionLimit; omega
  have up : ∀ {z A B : Addr × Obj}, z ∈ new → z ∈ A :: B :: new := fun h => List.mem_cons_of_mem _ (List.mem_cons_of_mem _ h)
  have hb10 : ∀ z ∈ S, 1 ≤ z.length ∧ z.length ≤ 10 := fun z hz => by have := (hS z hz).len; omega
  refine mid (i := i) (it := it) (nv := nv) (Q := Q) (sgs := []) (p := 0) (top := top) (S := S) (SP := fun o q' => ((∃ z, S[q]? = some z ∧ q < top ∧ o = .text z ∧ q' = q + 1) ∨ (q = top ∧ q' = q ∧ ((lone = true ∧ o = badO D) ∨ (lone = false ∧ o = .none))))) X T hA₀ hh₀ hd' hu hdx hg (fun Q' hQ' => ?hw) (fun m1 h1 tk1 nw F1 N1 ho1 hdx2 => ?ht) (fun o q' h v p' rs K => match0_n htop hS1 hq h K) (fun o q' h msg pos p' rs K => match0_e htop hS1 hq h K) (fun o q' h => ?hf)
  case hw =>
    exact want_0 F X N T (by repeat (with_reducible first | exact Has.nil | refine Has.consM hm (by repeat (with_reducible first | exact List.mem_cons_self | apply List.mem_cons_of_mem)) ?_)) (up hDg) hy (by omega) htop hq hS1 (up hTw) hgl (fun h' tk m' w' q' qt' o hsp hw ha ho' F' N' out => by
      exact hQ' h' tk m' w' q' qt' o [] hsp hw ha ho' F' N' (out_drop (nw := []) out (by intro z; cases z) dict_cls) (by simp))
  case ht =>
    exact tb_0 (Q := Q) (E := E) (s := { s with heap := h1, toks := tk1 }) F1 X N1 T hA₀ hh₀ hd' hu hdx2 hD hi hr hg (((by repeat (with_reducible first | exact Has.nil | refine Has.consM hm (by repeat (with_reducible first | exact List.mem_cons_self | apply List.mem_cons_of_mem)) ?_)) : Has m [(Str.ofString "deed", .int 0 et), (Str.ofString "source", .ref x)]).oth ho1 (by kernel_rfl))
  case hf =>
    rcases h with ⟨z, hz, _, rfl, _⟩ | ⟨_, _, ⟨_, rfl⟩ | ⟨_, rfl⟩⟩
    · exact fit_sg (hS z (List.mem_of_getElem? hz))
    · exact fit_bad hsh hD hD1
    · trivial
theorem deed_1 {w : World} {loose : List Str} {mean : ExcName → Option Value} {mg mb : Str → Option Value} {A₀ : Around} {a : Addr} {cd : Value}
    {base : Heap} {L : Addr} {m : Str → Option Value} {s : Shared} {E : Value → Shared → Prop} {Q : Flow → Shared → Prop} {new : List (Addr × Obj)} {x dx : Addr} {k1 k2 k3 k4 k5 : Tok} {b lone : Bool} {gv : Value} {D : Str} {dt : Tok} {i : Nat} {it : Tok} {nv : Value} {gl : Value} {S : List Str} {top c g nz ny no : Nat} {y : Str} {Tw Dg Ds P : Addr} {ys zs os : List Value} {et yt ct gt ht qt tt nt Dt u1 u2 u3 u4 u5 : Tok} {q : Nat}
    (F : Fr base L s.heap m) (X : (hd.heap_1 w.params).In base) (N : News base L s.heap ((x, instObj 133 dx) :: (dx, tokD w.params k1 k2 k3 k4 k5 b gv (.str D dt) (.int i it) nv) :: new)) (T : Top hd.view_39 loose mean mg mb base) (hA₀ : A₀.frames = some []) (hh₀ : A₀.handled = none) (hd' : A₀.depth + 30 < recursionLimit) (hu : A₀.units + 100 < cLine) (hdx : ∀ q ∈ new, q.1 ≠ dx)
    (hD : D.length ≤ 2000) (hcD : (cat S).length ≤ D.length) (hD1 : 1 ≤ D.length) (hi : i ≤ 3000) (hr : RdX lone D i nv (pl5 S q) (S.drop q)) (hg : GivenIs b gv D) (hsh : ShowsV gl) (hgl : SameV gl gl) (hsx : SignsX lone D 0 S)
    (hDg : (Dg, W.listOf ys.toArray ny) ∈ new) (hy : StrsAre ys S) (hSl : S.length ≤ 100) (hS1 : 1 ≤ S.length) (hS : ∀ z ∈ S, IsSg z) (htop : top = top5 lone S) (hq : q ≤ top) (hTw : (Tw, wholeO (Str.ofString "bad escape (end of pattern)") gl D.cps.toList ((D.length : Int) - 1) u1 u2 u3 u4 u5) ∈ new)
    (hDs : (Ds, W.listOf os.toArray no) ∈ new) (ho : StrsAre os some5) (hP : (P, W.listOf zs.toArray nz) ∈ new) (hz : IntsAre zs (plcs S S.length)) (hy0 : IsSg y) (hc : c ≤ 4) (hgt : g ≤ top)
    (hE : PassesOwn (model PySem.Challenge.rw_kq0016_05.row.prog w) (A₀.deeper (lawEnv L a cd)) (lawEnv L a cd) E)
    (hm : Has m (nmT 1 y c g q top S lone b Tw Dg Ds P x D gl et yt ct gt ht qt tt nt Dt)) :
    wpAny (model PySem.Challenge.rw_kq0016_05.row.prog w) (A₀.deeper (lawEnv L a cd)) (execs [tStmt 8, tStmt 9] (lawEnv L a cd)) (fun f s' => f = .next ∧ MZ w.params base L m x dx k1 k2 k3 k4 k5 b lone gv gl D dt new S top s s') E s := by
  have hh : (A₀.deeper (lawEnv L a cd)).handled = none := hh₀
  have hd4 : (A₀.deeper (lawEnv L a cd)).depth + 4 < recursionLimit := by show A₀.depth + 1 + 4 < recursionLimit; omega
  have up : ∀ {z A B : Addr × Obj}, z ∈ new → z ∈ A :: B :: new := fun h => List.mem_cons_of_mem _ (List.mem_cons_of_mem _ h)
  have hb10 : ∀ z ∈ S, 1 ≤ z.length ∧ z.length ≤ 10 := fun z hz => by have := (hS z hz).len; omega
  refine mid (i := i) (it := it) (nv := nv) (Q := Q) (sgs := []) (p := 0) (top := top) (S := S) (SP := fun o q' => ((S[q]? ≠ some y ∧ o = .bool false ∧ q' = q) ∨ (S[q]? = some y ∧ q < top ∧ o = .bool true ∧ q' = q + 1) ∨ (S[q]? = some y ∧ q = top ∧ lone = true ∧ o = badO D ∧ q' = q))) X T hA₀ hh₀ hd' hu hdx hg (fun Q' hQ' => ?hw) (fun m1 h1 tk1 nw F1 N1 ho1 hdx2 => ?ht) (fun o q' h v p' rs K => match1_n htop hS1 hq h K) (fun o q' h msg pos p' rs K => match1_e htop hS1 hq h K) (fun o q' h => ?hf)
  case hw =>
    exact want_1 F X N T (by repeat (with_reducible first | exact Has.nil | refine Has.consM hm (by repeat (with_reducible first | exact List.mem_cons_self | apply List.mem_cons_of_mem)) ?_)) (up hDg) hy (by omega) htop hq hS1 (up hTw) hgl (fun h' tk m' w' q' qt' o hsp hw ha ho' F' N' out => by
      exact hQ' h' tk m' w' q' qt' o [] hsp hw ha ho' F' N' (out_drop (nw := []) out (by intro z; cases z) dict_cls) (by simp))
  case ht =>
    exact tb_1 (Q := Q) (E := E) (s := { s with heap := h1, toks := tk1 }) F1 X N1 T hA₀ hh₀ hd' hu hdx2 hD hi hr hg (((by repeat (with_reducible first | exact Has.nil | refine Has.consM hm (by repeat (with_reducible first | exact List.mem_cons_self | apply List.mem_cons_of_mem)) ?_)) : Has m [(Str.ofString "deed", .int 1 et), (Str.ofString "source", .ref x), (Str.ofString "sign", .str y yt)]).oth ho1 (by kernel_rfl))
  case hf =>
    rcases h with ⟨_, rfl, _⟩ | ⟨_, _, rfl, _⟩ | ⟨_, _, _, rfl, _⟩
    · trivial
    · trivial
    · exact fit_bad hsh hD hD1
theorem deed_2 {w : World} {loose : List Str} {mean : ExcName → Option Value} {mg mb : Str → Option Value} {A₀ : Around} {a : Addr} {cd : Value}
    {base : Heap} {L : Addr} {m : Str → Option Value} {s : Shared} {E : Value → Shared → Prop} {Q : Flow → Shared → Prop} {new : List (Addr × Obj)} {x dx : Addr} {k1 k2 k3 k4 k5 : Tok} {b lone : Bool} {gv : Value} {D : Str} {dt : Tok} {i : Nat} {it : Tok} {nv : Value} {gl : Value} {S : List Str} {top c g nz ny no : Nat} {y : Str} {Tw Dg Ds P : Addr} {ys zs os : List Value} {et yt ct gt ht qt tt nt Dt u1 u2 u3 u4 u5 : Tok} {q : Nat}
    (F : Fr base L s.heap m) (X : (hd.heap_1 w.params).In base) (N : News base L s.heap ((x, instObj 133 dx) :: (dx, tokD w.params k1 k2 k3 k4 k5 b gv (.str D dt) (.int i it) nv) :: new)) (T : Top hd.view_39 loose mean mg mb base) (hA₀ : A₀.frames = some []) (hh₀ : A₀.handled = none) (hd' : A₀.depth + 30 < recursionLimit) (hu : A₀.units + 100 < cLine) (hdx : ∀ q ∈ new, q.1 ≠ dx)
    (hD : D.length ≤ 2000) (hcD : (cat S).length ≤ D.length) (hD1 : 1 ≤ D.length) (hi : i ≤ 3000) (hr : RdX lone D i nv (pl5 S q) (S.drop q)) (hg : GivenIs b gv D) (hsh : ShowsV gl) (hgl : SameV gl gl) (hsx : SignsX lone D 0 S)
    (hDg : (Dg, W.listOf ys.toArray ny) ∈ new) (hy : StrsAre ys S) (hSl : S.length ≤ 100) (hS1 : 1 ≤ S.length) (hS : ∀ z ∈ S, IsSg z) (htop : top = top5 lone S) (hq : q ≤ top) (hTw : (Tw, wholeO (Str.ofString "bad escape (end of pattern)") gl D.cps.toList ((D.length : Int) - 1) u1 u2 u3 u4 u5) ∈ new)
    (hDs : (Ds, W.listOf os.toArray no) ∈ new) (ho : StrsAre os some5) (hP : (P, W.listOf zs.toArray nz) ∈ new) (hz : IntsAre zs (plcs S S.length)) (hy0 : IsSg y) (hc : c ≤ 4) (hgt : g ≤ top)
    (hE : PassesOwn (model PySem.Challenge.rw_kq0016_05.row.prog w) (A₀.deeper (lawEnv L a cd)) (lawEnv L a cd) E)
    (hm : Has m (nmT 2 y c g q top S lone b Tw Dg Ds P x D gl et yt ct gt ht qt tt nt Dt)) :
    wpAny (model PySem.Challenge.rw_kq0016_05.row.prog w) (A₀.deeper (lawEnv L a cd)) (execs [tStmt 8, tStmt 9] (lawEnv L a cd)) (fun f s' => f = .next ∧ MZ w.params base L m x dx k1 k2 k3 k4 k5 b lone gv gl D dt new S top s s') E s := by
  have hh : (A₀.deeper (lawEnv L a cd)).handled = none := hh₀
  have hd4 : (A₀.deeper (lawEnv L a cd)).depth + 4 < recursionLimit := by show A₀.depth + 1 + 4 < recursionLimit; omega
  have up : ∀ {z A B : Addr × Obj}, z ∈ new → z ∈ A :: B :: new := fun h => List.mem_cons_of_mem _ (List.mem_cons_of_mem _ h)
  have hb10 : ∀ z ∈ S, 1 ≤ z.length ∧ z.length ≤ 10 := fun z hz => by have := (hS z hz).len; omega
  refine mid (i := i) (it := it) (nv := nv) (Q := Q) (sgs := []) (p := 0) (top := top) (S := S) (SP := fun o q' => Stop (fun z => some5.any (· == z)) S q (min top (q + c)) q' ∧ (((lone = true ∧ q' = top ∧ q' < q + c ∧ (∃ z, S[q']? = some z ∧ some5.any (· == z) = true) ∧ o = badO D) ∨ (¬ (lone = true ∧ q' = top ∧ q' < q + c ∧ ∃ z, S[q']? = some z ∧ some5.any (· == z) = true) ∧ o = .text (cat ((S.drop q).take (q' - q))))))) X T hA₀ hh₀ hd' hu hdx hg (fun Q' hQ' => ?hw) (fun m1 h1 tk1 nw F1 N1 ho1 hdx2 => ?ht) (fun o q' h v p' rs K => match2_n htop hS1 hq h.1 h.2 K) (fun o q' h msg pos p' rs K => match2_e htop hS1 hq h.1 h.2 K) (fun o q' h => ?hf)
  case hw =>
    exact want_2 F X N T hh (by repeat (with_reducible first | exact Has.nil | refine Has.consM hm (by repeat (with_reducible first | exact List.mem_cons_self | apply List.mem_cons_of_mem)) ?_)) (up hDg) hy hSl hS1 (fun z hz => (hb10 z hz).2) htop hq (up hDs) ho (up hTw) hgl hE (fun h' tk m' w' q' qt' o hst hsp hw ha ho' F' N' out => by
      exact hQ' h' tk m' w' q' qt' o [] ⟨hst, hsp⟩ hw ha ho' F' N' (out_drop (nw := []) out (by intro z; cases z) dict_cls) (by simp))
  case ht =>
    exact tb_2 (Q := Q) (E := E) (s := { s with heap := h1, toks := tk1 }) F1 X N1 T hA₀ hh₀ hd' hu hdx2 hD hi hr hg hc (List.mem_append_right _ hDs) ho (((by repeat (with_reducible first | exact Has.nil | refine Has.consM hm (by repeat (with_reducible first | exact List.mem_cons_self | apply List.mem_cons_of_mem)) ?_)) : Has m [(Str.ofString "deed", .int 2 et), (Str.ofString "source", .ref x), (Str.ofString "count", .int (c : Int) ct), (Str.ofString "some", .ref Ds)]).oth ho1 (by kernel_rfl))
  case hf =>
    rcases h.2 with ⟨_, _, _, _, rfl⟩ | ⟨_, rfl⟩
    · exact fit_bad hsh hD hD1
    · exact fit_text hS (fun z hz => List.mem_of_mem_drop (List.mem_of_mem_take hz)) (by rw [List.length_take, List.length_drop]; exact Nat.le_trans (Nat.min_le_right _ _) (Nat.le_trans (Nat.sub_le _ _) hSl))
theorem deed_3 {w : World} {loose : List Str} {mean : ExcName → Option Value} {mg mb : Str → Option Value} {A₀ : Around} {a : Addr} {cd : Value}
    {base : Heap} {L : Addr} {m : Str → Option Value} {s : Shared} {E : Value → Shared → Prop} {Q : Flow → Shared → Prop} {new : List (Addr × Obj)} {x dx : Addr} {k1 k2 k3 k4 k5 : Tok} {b lone : Bool} {gv : Value} {D : Str} {dt : Tok} {i : Nat} {it : Tok} {nv : Value} {gl : Value} {S : List Str} {top c g nz ny no : Nat} {y : Str} {Tw Dg Ds P : Addr} {ys zs os : List Value} {et yt ct gt ht qt tt nt Dt u1 u2 u3 u4 u5 : Tok} {q : Nat}
    (F : Fr base L s.heap m) (X : (hd.heap_1 w.params).In base) (N : News base L s.heap ((x, instObj 133 dx) :: (dx, tokD w.params k1 k2 k3 k4 k5 b gv (.str D dt) (.int i it) nv) :: new)) (T : Top hd.view_39 loose mean mg mb base) (hA₀ : A₀.frames = some []) (hh₀ : A₀.handled = none) (hd' : A₀.depth + 30 < recursionLimit) (hu : A₀.units + 100 < cLine) (hdx : ∀ q ∈ new, q.1 ≠ dx)
    (hD : D.length ≤ 2000) (hcD : (cat S).length ≤ D.length) (hD1 : 1 ≤ D.length) (hi : i ≤ 3000) (hr : RdX lone D i nv (pl5 S q) (S.drop q)) (hg : GivenIs b gv D) (hsh : ShowsV gl) (hgl : SameV gl gl) (hsx : SignsX lone D 0 S)
    (hDg : (Dg, W.listOf ys.toArray ny) ∈ new) (hy : StrsAre ys S) (hSl : S.length ≤ 100) (hS1 : 1 ≤ S.length) (hS : ∀ z ∈ S, IsSg z) (htop : top = top5 lone S) (hq : q ≤ top) (hTw : (Tw, wholeO (Str.ofString "bad escape (end of pattern)") gl D.cps.toList ((D.length : Int) - 1) u1 u2 u3 u4 u5) ∈ new)
    (hDs : (Ds, W.listOf os.toArray no) ∈ new) (ho : StrsAre os some5) (hP : (P, W.listOf zs.toArray nz) ∈ new) (hz : IntsAre zs (plcs S S.length)) (hy0 : IsSg y) (hc : c ≤ 4) (hgt : g ≤ top)
    (hE : PassesOwn (model PySem.Challenge.rw_kq0016_05.row.prog w) (A₀.deeper (lawEnv L a cd)) (lawEnv L a cd) E)
    (hw1 : WordsTo b (Str.ofString "missing " ++ Str.ofString "thing") (Str.ofString "missing thing")) (hw2 : WordsTo b (Str.ofString "missing " ++ y ++ Str.ofString ", unterminated name") (Str.ofString "missing " ++ mark3 b y ++ Str.ofString ", unterminated name")) (hm2 : (Str.ofString "missing " ++ mark3 b y ++ Str.ofString ", unterminated name").length ≤ 20000)
    (hm : Has m (nmT 3 y c g q top S lone b Tw Dg Ds P x D gl et yt ct gt ht qt tt nt Dt)) :
    wpAny (model PySem.Challenge.rw_kq0016_05.row.prog w) (A₀.deeper (lawEnv L a cd)) (execs [tStmt 8, tStmt 9] (lawEnv L a cd)) (fun f s' => f = .next ∧ MZ w.params base L m x dx k1 k2 k3 k4 k5 b lone gv gl D dt new S top s s') E s := by
  have hh : (A₀.deeper (lawEnv L a cd)).handled = none := hh₀
  have hd4 : (A₀.deeper (lawEnv L a cd)).depth + 4 < recursionLimit := by show A₀.depth + 1 + 4 < recursionLimit; omega
  have up : ∀ {z A B : Addr × Obj}, z ∈ new → z ∈ A :: B :: new := fun h => List.mem_cons_of_mem _ (List.mem_cons_of_mem _ h)
  have hb10 : ∀ z ∈ S, 1 ≤ z.length ∧ z.length ≤ 10 := fun z hz => by have := (hS z hz).len; omega
  refine mid (Kn := fun v p' rs => ∃ pre t, GetsX lone D y (Str.ofString "missing thing") (Str.ofString "missing " ++ mark3 b y ++ Str.ofString ", unterminated name") (S.drop q) (pl5 S q) (.inl (cat pre)) p' rs ∧ v = .str (cat pre) t) (Ke := fun msg pos p' rs => GetsX lone D y (Str.ofString "missing thing") (Str.ofString "missing " ++ mark3 b y ++ Str.ofString ", unterminated name") (S.drop q) (pl5 S q) (.inr (msg, pos)) p' rs) (i := i) (it := it) (nv := nv) (Q := Q) (sgs := []) (p := 0) (top := top) (S := S) (SP := fun o q' => ∃ p, Stop (fun z => z != y) S q top p ∧ Want3 lone S D q top p q' (Str.ofString "missing " ++ mark3 b y ++ Str.ofString ", unterminated name") o) X T hA₀ hh₀ hd' hu hdx hg (fun Q' hQ' => ?hw) (fun m1 h1 tk1 nw F1 N1 ho1 hdx2 => ?ht) (fun o q' h v p' rs K => by
    obtain ⟨p, h1, h2⟩ := h
    obtain ⟨pre, t, G, rfl⟩ := K
    obtain ⟨e, e2⟩ := match3 htop hS1 hq h1 h2 G
    rcases e with ⟨w1, e3, rfl⟩ | ⟨z, e3, _⟩
    · cases e3; exact ⟨⟨t, rfl⟩, e2⟩
    · cases e3) (fun o q' h msg pos p' rs K => by
    obtain ⟨p, h1, h2⟩ := h
    obtain ⟨e, e2⟩ := match3 htop hS1 hq h1 h2 K
    rcases e with ⟨w1, e3, rfl⟩ | ⟨z, e3, rfl⟩
    · cases e3
    · cases e3; exact ⟨rfl, e2⟩) (fun o q' h => ?hf)
  case hw =>
    exact want_3 F X N T hd4 (by repeat (with_reducible first | exact Has.nil | refine Has.consM hm (by repeat (with_reducible first | exact List.mem_cons_self | apply List.mem_cons_of_mem)) ?_)) (up hDg) hy hSl hS1 hb10 htop hq (up hP) hz hD hcD hy0.len.2 (up hTw) hgl hE (fun h' tk m' w' p q' qt' o nw hst hsp hw ha ho' F' N' out hfr => by
      exact hQ' h' tk m' w' q' qt' o nw ⟨p, hst, hsp⟩ hw ha ho' F' N' (out_drop out (by intro z; cases z) dict_cls) (fun z hz => Ne.symm (hfr z hz (dx, _) (List.mem_cons_of_mem _ List.mem_cons_self))))
  case ht =>
    exact tb_3 (Q := Q) (E := E) (s := { s with heap := h1, toks := tk1 }) F1 X N1 T hA₀ hh₀ hd' hu hdx2 hD hi hr hg hy0.len.1 hy0.len.2 hw1 hw2 hm2 (((by repeat (with_reducible first | exact Has.nil | refine Has.consM hm (by repeat (with_reducible first | exact List.mem_cons_self | apply List.mem_cons_of_mem)) ?_)) : Has m [(Str.ofString "deed", .int 3 et), (Str.ofString "source", .ref x), (Str.ofString "sign", .str y yt)]).oth ho1 (by kernel_rfl))
  case hf =>
    obtain ⟨p, h1, h2⟩ := h
    obtain ⟨f1, f2⟩ := mark3_fit (b := b) hy0
    have hle : ∀ k, pl5 S k ≤ D.length := fun k => Nat.le_trans (pl5_le S k) hcD
    have g1 : ∀ k : Int, 0 ≤ k → k ≤ D.length → OutFit gl D.cps.toList (.whole (Str.ofString "missing thing") k) := fun k a b => whole_fit (by decide +kernel) (codes_str _) hsh hD a b
    rcases h2 with ⟨hpt, _, rfl⟩ | ⟨_, _, _, rfl⟩ | ⟨_, _, _, rfl⟩
    · split
      · have hpS : p < S.length := by have := top_le htop; omega
        have h5 := pl5_succ (S := S) (k := p) (y := S[p]) (List.getElem?_eq_getElem hpS)
        have h6 := (hb10 S[p] (List.getElem_mem hpS)).1
        have h7 := hle (p + 1)
        exact g1 _ (by omega) (by omega)
      · exact fit_text hS (fun z hz => List.mem_of_mem_drop (List.mem_of_mem_take hz)) (by rw [List.length_take, List.length_drop]; exact Nat.le_trans (Nat.min_le_right _ _) (Nat.le_trans (Nat.sub_le _ _) hSl))
    · exact fit_bad hsh hD hD1
    · split
      · have h7 := hle S.length
        exact g1 _ (by omega) (by omega)
      · have h7 := hle q
        refine whole_fit ?_ (codes_app (codes_app (codes_str _) f2) (codes_str _)) hsh hD (by omega) (by omega)
        rw [Str.length_append, Str.length_append]
        have : (Str.ofString "missing ").length = 8 := by decide +kernel
        have : (Str.ofString ", unterminated name").length = 19 := by decide +kernel
        omega
theorem deed_4 {w : World} {loose : List Str} {mean : ExcName → Option Value} {mg mb : Str → Option Value} {A₀ : Around} {a : Addr} {cd : Value}
    {base : Heap} {L : Addr} {m : Str → Option Value} {s : Shared} {E : Value → Shared → Prop} {Q : Flow → Shared → Prop} {new : List (Addr × Obj)} {x dx : Addr} {k1 k2 k3 k4 k5 : Tok} {b lone : Bool} {gv : Value} {D : Str} {dt : Tok} {i : Nat} {it : Tok} {nv : Value} {gl : Value} {S : List Str} {top c g nz ny no : Nat} {y : Str} {Tw Dg Ds P : Addr} {ys zs os : List Value} {et yt ct gt ht qt tt nt Dt u1 u2 u3 u4 u5 : Tok} {q : Nat}
    (F : Fr base L s.heap m) (X : (hd.heap_1 w.params).In base) (N : News base L s.heap ((x, instObj 133 dx) :: (dx, tokD w.params k1 k2 k3 k4 k5 b gv (.str D dt) (.int i it) nv) :: new)) (T : Top hd.view_39 loose mean mg mb base) (hA₀ : A₀.frames = some []) (hh₀ : A₀.handled = none) (hd' : A₀.depth + 30 < recursionLimit) (hu : A₀.units + 100 < cLine) (hdx : ∀ q ∈ new, q.1 ≠ dx)
    (hD : D.length ≤ 2000) (hcD : (cat S).length ≤ D.length) (hD1 : 1 ≤ D.length) (hi : i ≤ 3000) (hr : RdX lone D i nv (pl5 S q) (S.drop q)) (hg : GivenIs b gv D) (hsh : ShowsV gl) (hgl : SameV gl gl) (hsx : SignsX lone D 0 S)
    (hDg : (Dg, W.listOf ys.toArray ny) ∈ new) (hy : StrsAre ys S) (hSl : S.length ≤ 100) (hS1 : 1 ≤ S.length) (hS : ∀ z ∈ S, IsSg z) (htop : top = top5 lone S) (hq : q ≤ top) (hTw : (Tw, wholeO (Str.ofString "bad escape (end of pattern)") gl D.cps.toList ((D.length : Int) - 1) u1 u2 u3 u4 u5) ∈ new)
    (hDs : (Ds, W.listOf os.toArray no) ∈ new) (ho : StrsAre os some5) (hP : (P, W.listOf zs.toArray nz) ∈ new) (hz : IntsAre zs (plcs S S.length)) (hy0 : IsSg y) (hc : c ≤ 4) (hgt : g ≤ top)
    (hE : PassesOwn (model PySem.Challenge.rw_kq0016_05.row.prog w) (A₀.deeper (lawEnv L a cd)) (lawEnv L a cd) E)
    (hm : Has m (nmT 4 y c g q top S lone b Tw Dg Ds P x D gl et yt ct gt ht qt tt nt Dt)) :
    wpAny (model PySem.Challenge.rw_kq0016_05.row.prog w) (A₀.deeper (lawEnv L a cd)) (execs [tStmt 8, tStmt 9] (lawEnv L a cd)) (fun f s' => f = .next ∧ MZ w.params base L m x dx k1 k2 k3 k4 k5 b lone gv gl D dt new S top s s') E s := by
  have hh : (A₀.deeper (lawEnv L a cd)).handled = none := hh₀
  have hd4 : (A₀.deeper (lawEnv L a cd)).depth + 4 < recursionLimit := by show A₀.depth + 1 + 4 < recursionLimit; omega
  have up : ∀ {z A B : Addr × Obj}, z ∈ new → z ∈ A :: B :: new := fun h => List.mem_cons_of_mem _ (List.mem_cons_of_mem _ h)
  have hb10 : ∀ z ∈ S, 1 ≤ z.length ∧ z.length ≤ 10 := fun z hz => by have := (hS z hz).len; omega
  refine mid (Kn := fun v p' rs => v = .none ∧ p' = pl5 S g ∧ rs = S.drop g) (Ke := fun _ _ _ _ => False) (i := i) (it := it) (nv := nv) (Q := Q) (sgs := []) (p := 0) (top := top) (S := S) (SP := fun o q' => (o = .none ∧ q' = g)) X T hA₀ hh₀ hd' hu hdx hg (fun Q' hQ' => ?hw) (fun m1 h1 tk1 nw F1 N1 ho1 hdx2 => ?ht) (fun o q' h v p' rs K => by
    obtain ⟨rfl, rfl⟩ := h
    obtain ⟨rfl, rfl, rfl⟩ := K
    exact ⟨rfl, rfl, rfl, hgt⟩) (fun o q' h msg pos p' rs K => K.elim) (fun o q' h => ?hf)
  case hw =>
    exact want_4 (g := g) F X N T (by repeat (with_reducible first | exact Has.nil | refine Has.consM hm (by repeat (with_reducible first | exact List.mem_cons_self | apply List.mem_cons_of_mem)) ?_)) (up hDg) hy (by omega) htop hq hS1 (up hTw) hgl (fun h' tk m' w' q' qt' o hsp hw ha ho' F' N' out => by
      exact hQ' h' tk m' w' q' qt' o [] hsp hw ha ho' F' N' (out_drop (nw := []) out (by intro z; cases z) dict_cls) (by simp))
  case ht =>
    have hgS : g ≤ S.length := Nat.le_trans hgt (top_le htop)
    have hpg : pl5 S g ≤ 3000 := by have := pl5_le S g; omega
    exact tb_4 (Q := Q) (E := E) (s := { s with heap := h1, toks := tk1 }) F1 X N1 T hA₀ hh₀ hd' hu hdx2 hD hi hr hg hgS hSl (List.mem_append_right _ hP) hz (drop5_at hsx g) (drop_ok htop hS1 hgt) hpg (((by repeat (with_reducible first | exact Has.nil | refine Has.consM hm (by repeat (with_reducible first | exact List.mem_cons_self | apply List.mem_cons_of_mem)) ?_)) : Has m [(Str.ofString "deed", .int 4 et), (Str.ofString "source", .ref x), (Str.ofString "goal", .int (g : Int) gt), (Str.ofString "places", .ref P)]).oth ho1 (by kernel_rfl))
  case hf =>
    obtain ⟨rfl, _⟩ := h
    trivial
theorem deed_5 {w : World} {loose : List Str} {mean : ExcName → Option Value} {mg mb : Str → Option Value} {A₀ : Around} {a : Addr} {cd : Value}
    {base : Heap} {L : Addr} {m : Str → Option Value} {s : Shared} {E : Value → Shared → Prop} {Q : Flow → Shared → Prop} {new : List (Addr × Obj)} {x dx : Addr} {k1 k2 k3 k4 k5 : Tok} {b lone : Bool} {gv : Value} {D : Str} {dt : Tok} {i : Nat} {it : Tok} {nv : Value} {gl : Value} {S : List Str} {top c g nz ny no : Nat} {y : Str} {Tw Dg Ds P : Addr} {ys zs os : List Value} {et yt ct gt ht qt tt nt Dt u1 u2 u3 u4 u5 : Tok} {q : Nat}
    (F : Fr base L s.heap m) (X : (hd.heap_1 w.params).In base) (N : News base L s.heap ((x, instObj 133 dx) :: (dx, tokD w.params k1 k2 k3 k4 k5 b gv (.str D dt) (.int i it) nv) :: new)) (T : Top hd.view_39 loose mean mg mb base) (hA₀ : A₀.frames = some []) (hh₀ : A₀.handled = none) (hd' : A₀.depth + 30 < recursionLimit) (hu : A₀.units + 100 < cLine) (hdx : ∀ q ∈ new, q.1 ≠ dx)
    (hD : D.length ≤ 2000) (hcD : (cat S).length ≤ D.length) (hD1 : 1 ≤ D.length) (hi : i ≤ 3000) (hr : RdX lone D i nv (pl5 S q) (S.drop q)) (hg : GivenIs b gv D) (hsh : ShowsV gl) (hgl : SameV gl gl) (hsx : SignsX lone D 0 S)
    (hDg : (Dg, W.listOf ys.toArray ny) ∈ new) (hy : StrsAre ys S) (hSl : S.length ≤ 100) (hS1 : 1 ≤ S.length) (hS : ∀ z ∈ S, IsSg z) (htop : top = top5 lone S) (hq : q ≤ top) (hTw : (Tw, wholeO (Str.ofString "bad escape (end of pattern)") gl D.cps.toList ((D.length : Int) - 1) u1 u2 u3 u4 u5) ∈ new)
    (hDs : (Ds, W.listOf os.toArray no) ∈ new) (ho : StrsAre os some5) (hP : (P, W.listOf zs.toArray nz) ∈ new) (hz : IntsAre zs (plcs S S.length)) (hy0 : IsSg y) (hc : c ≤ 4) (hgt : g ≤ top)
    (hE : PassesOwn (model PySem.Challenge.rw_kq0016_05.row.prog w) (A₀.deeper (lawEnv L a cd)) (lawEnv L a cd) E)
    (hm : Has m (nmT 5 y c g q top S lone b Tw Dg Ds P x D gl et yt ct gt ht qt tt nt Dt)) :
    wpAny (model PySem.Challenge.rw_kq0016_05.row.prog w) (A₀.deeper (lawEnv L a cd)) (execs [tStmt 8, tStmt 9] (lawEnv L a cd)) (fun f s' => f = .next ∧ MZ w.params base L m x dx k1 k2 k3 k4 k5 b lone gv gl D dt new S top s s') E s := by
  have hh : (A₀.deeper (lawEnv L a cd)).handled = none := hh₀
  have hd4 : (A₀.deeper (lawEnv L a cd)).depth + 4 < recursionLimit := by show A₀.depth + 1 + 4 < recursionLimit; omega
  have up : ∀ {z A B : Addr × Obj}, z ∈ new → z ∈ A :: B :: new := fun h => List.mem_cons_of_mem _ (List.mem_cons_of_mem _ h)
  have hb10 : ∀ z ∈ S, 1 ≤ z.length ∧ z.length ≤ 10 := fun z hz => by have := (hS z hz).len; omega
  refine mid (Kn := fun v p' rs => v = .none ∧ p' = pl5 S q ∧ rs = S.drop q) (Ke := fun _ _ _ _ => False) (i := i) (it := it) (nv := nv) (Q := Q) (sgs := []) (p := 0) (top := top) (S := S) (SP := fun o q' => (o = .none ∧ q' = q)) X T hA₀ hh₀ hd' hu hdx hg (fun Q' hQ' => ?hw) (fun m1 h1 tk1 nw F1 N1 ho1 hdx2 => ?ht) (fun o q' h v p' rs K => by
    obtain ⟨rfl, rfl⟩ := h
    obtain ⟨rfl, rfl, rfl⟩ := K
    exact ⟨rfl, rfl, rfl, hq⟩) (fun o q' h msg pos p' rs K => K.elim) (fun o q' h => ?hf)
  case hw =>
    exact want_5 (g := g) F X N T (by repeat (with_reducible first | exact Has.nil | refine Has.consM hm (by repeat (with_reducible first | exact List.mem_cons_self | apply List.mem_cons_of_mem)) ?_)) (up hDg) hy (by omega) htop hq hS1 (up hTw) hgl (fun h' tk m' w' q' qt' o hsp hw ha ho' F' N' out => by
      exact hQ' h' tk m' w' q' qt' o [] hsp hw ha ho' F' N' (out_drop (nw := []) out (by intro z; cases z) dict_cls) (by simp))
  case ht =>
    have hpg : pl5 S q ≤ 3000 := by have := pl5_le S q; omega
    exact tb_5 (Q := Q) (E := E) (s := { s with heap := h1, toks := tk1 }) F1 X N1 T hA₀ hh₀ hd' hu hdx2 hD hi hr hg (drop5_at hsx q) (drop_ok htop hS1 hq) hpg (((by repeat (with_reducible first | exact Has.nil | refine Has.consM hm (by repeat (with_reducible first | exact List.mem_cons_self | apply List.mem_cons_of_mem)) ?_)) : Has m [(Str.ofString "deed", .int 5 et), (Str.ofString "source", .ref x)]).oth ho1 (by kernel_rfl))
  case hf =>
    obtain ⟨rfl, _⟩ := h
    trivial
end Mine
end

section
open PySem PySem.W PySem.Calls PySem.Spec PyProof.Rows
set_option maxRecDepth 100000
set_option maxHeartbeats 2000000
namespace Mine
theorem anew19 : True := by
  w_top off
  exact True.intro
open TI
theorem fillL5L (P : Params) : hd.heap_1 P = hd.heap_1 P ∧ PySem.Challenge.rw_kq0016_05 = PySem.Challenge.rw_kq0016_05 := by
  k_fill
  exact ⟨rfl, rfl⟩
theorem same_trans {x y z : Value} (h : SameV x y) (k : SameV y z) : SameV x z := by
  unfold SameV at h
  split at h
  · subst h; cases z <;> first | exact k | exact k.elim
  · subst h; cases z <;> first | exact k | exact k.elim
  · subst h; cases z <;> first | exact k | exact k.elim
  · exact h.elim
theorem OutAt.same {g g' v : Value} {l : List Nat} {ts : List (Addr × Obj)} {o : Out} (h : OutAt g l ts v o) (k : SameV g g') : OutAt g' l ts v o := by
  cases o with
  | whole m p => obtain ⟨T, z, t1, t2, t3, t4, t5, h1, h2, h3⟩ := h; exact ⟨T, z, t1, t2, t3, t4, t5, h1, same_trans h2 k, h3⟩
  | _ => exact h
abbrev tripO (p q : Int) (v : Value) (t1 t2 : Tok) : Obj := { cls := .type "tuple", data := .seq #[.int p t1, .int q t2, v] }
def SameN (x y : Value) : Prop := (x = .none ∧ y = .none) ∨ SameV x y
theorem SameN.at {A : Around} {s : Shared} {x y : Value} (h : SameN x y) : SeqAt.EqAt A s x y true := by
  rcases h with ⟨rfl, rfl⟩ | h
  · exact SeqAt.EqAt.same _
  · exact h.eqg.at _ _
theorem ne_trip {prog : Program} {w : World} {A : Around} {E : Value → Shared → Prop} {s : Shared} {Q : Value → Shared → Prop} {h₀ : Heap} {L a b : Addr} {news : List (Addr × Obj)} {p q : Int} {x y : Value} {t1 t2 u1 u2 : Tok} (N : News h₀ L s.heap news) (ha : (a, tripO p q x t1 t2) ∈ news) (hb : (b, tripO p q y u1 u2) ∈ news) (hs : SameN x y) (hu : A.units < cLine) (h : Q (.bool false) s) :
    wpAny (model prog w) A (compareOp .NotEq (.ref a) (.ref b)) Q E s := by
  refine SeqAt.RcNeAt.tuples (e := fun _ => true) ⟨_, (N _ ha).1, rfl, 0, rfl⟩ ⟨_, (N _ hb).1, rfl, 0, rfl⟩ hu (fun j h1 h2 => ?_) prog w E Q ?_
  · match j, h1, h2 with
    | 0, _, _ => exact (SameV.int p t1 u1).eqg.at _ _
    | 1, _, _ => exact (SameV.int q t2 u2).eqg.at _ _
    | 2, _, _ => exact hs.at
    | j + 3, h1, _ => exact absurd h1 (by simp)
  · exact h
local macro_rules | `(tactic| walk_at "compareOp NotEq str str") => wl 1 "" "" `ne_str_same "_" "" "" "" []
local macro_rules | `(tactic| walk_at "call builtin:repr") => wl 3 "" "" `repr_out "______a_" ".1aU.2" "h' tk' t' F' N'" "" []
theorem d_cmp {w : World} {loose : List Str} {mean : ExcName → Option Value} {mg mb : Str → Option Value} {A : Around} {a : Addr} {cd : Value}
    {base : Heap} {L : Addr} {m : Str → Option Value} {s : Shared} {E : Value → Shared → Prop} {Q : Flow → Shared → Prop} {news tups : List (Addr × Obj)} {v1 v2 gl : Value} {l : List Nat} {o : Out}
    (F : Fr base L s.heap m) (X : (hd.heap_1 w.params).In base) (N : News base L s.heap news) (T : Top hd.view_39 loose mean mg mb base)
    (hm : Has m [(Str.ofString "seen", v1), (Str.ofString "want", v2)]) (o1 : OutAt gl l tups v1 o) (o2 : OutAt gl l tups v2 o) (ht : ∀ q ∈ tups, q ∈ news) (hf : OutFit gl l o) (hgu : A.guards = some []) (hu : A.units + 50 < cLine)
    (hQ : ∀ h' tk, Fr base L h' m → News base L h' news → Q .next { s with heap := h', toks := tk }) :
    wpAny (model PySem.Challenge.rw_kq0016_05.row.prog w) A (exec (tStmt 10) (lawEnv L a cd)) Q E s := by
  have fin : ∀ h' tk, Fr base L h' (chainOf [(Str.ofString "seen", v1), (Str.ofString "want", v2)] m) → News base L h' news → Q .next { s with heap := h', toks := tk } := by
    intro h' tk F' N'
    rw [chain_eq hm] at F'
    exact hQ h' tk F' N'
  refine law_lit (by conv => lhs; whnf) (by conv => lhs; whnf) ?_
  have F₁ := hm.fr F
  dsimp only [chainOf] at F₁
  clear F hQ hm
  k_steps
  exact fin _ _ (by assumption) (by assumption)
theorem pos_k {w : World} {loose : List Str} {mean : ExcName → Option Value} {mg mb : Str → Option Value} {A : Around}
    {base : Heap} {L : Addr} {m : Str → Option Value} {s : Shared} {R : Result → Shared → Prop} {rest : List (Addr × Obj)}
    {x dx : Addr} {k1 k2 k3 k4 k5 : Tok} {b : Bool} {sv dv : Value} {i : Int} {it : Tok} {nv : Value}
    (F : Fr base L s.heap m) (X : (hd.heap_1 w.params).In base) (N : News base L s.heap ((x, instObj 133 dx) :: (dx, tokD w.params k1 k2 k3 k4 k5 b sv dv (.int i it) nv) :: rest)) (T : Top hd.view_39 loose mean mg mb base)
    (hd' : A.depth + 3 < recursionLimit) (hn : NextOk nv)
    (hQ : ∀ h' tk t, Fr base L h' m → News base L h' ((x, instObj 133 dx) :: (dx, tokD w.params k1 k2 k3 k4 k5 b sv dv (.int i it) nv) :: rest) → R (.ok (.ret (.int (i - nlen nv) t))) { s with heap := h', toks := tk }) :
    codeAny (model PySem.Challenge.rw_kq0016_05.row.prog w) A (.call (.ref 100) ⟨[.ref x], []⟩) R s := by
  refine (enterM (cn := Str.ofString "") (cs := { kind := .function, names := [], isGenerator := false, isCoroutine := false }) (a := 0) (ccd := .none) (l := []) (frs := []) F X N T trivial rfl (by kernel_rfl) (by omega) (BindsTo.of_eq rfl) (locs rfl) (fun oL L' h₁ Cl Fs₁ F₁ N₁ hne hltL => ?_) rfl rfl rfl rfl (by decide))
  have N₂ : News base L' h₁ ((x, instObj 133 dx) :: (dx, tokD w.params k1 k2 k3 k4 k5 b sv dv (.int i it) nv) :: (L, oL) :: rest) := fun q hq => N₁ q (mem_i2 hq)
  have hLd : L ≠ dx := Ne.symm (hne (dx, tokD w.params k1 k2 k3 k4 k5 b sv dv (.int i it) nv) (List.mem_cons_of_mem _ List.mem_cons_self))
  have hLx : L ≠ x := Ne.symm (hne (x, instObj 133 dx) List.mem_cons_self)
  have hnL : ∀ q ∈ rest, q.1 ≠ L := fun q hq => hne q (List.mem_cons_of_mem _ (List.mem_cons_of_mem _ hq))
  clear N₁ Fs₁
  cases nv with
  | none =>
    k_steps
    obtain ⟨r1, r2⟩ := fin2 (sl := oL.slots) (new := []) Cl (by assumption) (by assumption) hLx hLd hnL
    exact hQ _ _ _ r1 r2
  | str y yt =>
    obtain ⟨hn1, hn2⟩ := hn
    k_steps
    · obtain ⟨r1, r2⟩ := fin2 (sl := oL.slots) (new := []) Cl (by assumption) (by assumption) hLx hLd hnL
      exact hQ _ _ _ r1 r2
    · omega
  | _ => exact hn.elim

local macro_rules | `(tactic| walk_at "call ref") => wl 3 "" "call Value.ref #108 @1 _ @2" `tell_c "____a__" ".1aO.2" "h' tk' t' F' N'" "S" []
theorem pos_a {w : World} {loose : List Str} {mean : ExcName → Option Value} {mg mb : Str → Option Value} {A : Around}
    {base : Heap} {L : Addr} {m : Str → Option Value} {s : Shared} {Q E : Value → Shared → Prop} {rest : List (Addr × Obj)}
    {x dx : Addr} {k1 k2 k3 k4 k5 : Tok} {b : Bool} {sv dv : Value} {i : Int} {it : Tok} {nv : Value}
    (F : Fr base L s.heap m) (X : (hd.heap_1 w.params).In base) (N : News base L s.heap ((x, instObj 133 dx) :: (dx, tokD w.params k1 k2 k3 k4 k5 b sv dv (.int i it) nv) :: rest)) (T : Top hd.view_39 loose mean mg mb base)
    (hd' : A.depth + 3 < recursionLimit) (hn : NextOk nv)
    (hQ : ∀ h' tk t, Fr base L h' m → News base L h' ((x, instObj 133 dx) :: (dx, tokD w.params k1 k2 k3 k4 k5 b sv dv (.int i it) nv) :: rest) → Q (.int (i - nlen nv) t) { s with heap := h', toks := tk }) :
    wpAny (model PySem.Challenge.rw_kq0016_05.row.prog w) A (getAttr (.ref x) (Str.ofString "pos") true) Q E s := by
  refine' get_prop ?k1 ?k2 ?k3 ?k4 ?k5 ?k6 ?k7 ?k8 ?k9 ?_
  (case k1 => k_asm); (case k2 => k_asm); (case k3 => k_inst); (case k4 => k_is); (case k5 => k_is); (case k6 => k_is); (case k7 => k_is); (case k8 => k_is); (case k9 => k_is)
  exact pos_k (A := A.in1) F X N T hd' hn (fun h' tk t F' N' => handed_on rfl (hQ h' tk t F' N'))
local macro_rules | `(tactic| walk_at "getAttr ref") => wl 3 "" "getAttr Value.ref _ @1 Str.ofString 'pos @1 _ @3" `pos_a "____a__" ".1aO.2" "h' tk' t' F' N'" "S" []
local macro_rules | `(tactic| walk_at "subscriptTail") => wl 3 "" "subscriptTail _ _ Value.ref _ @1 Value.int _ _ @2 @4" `int_itemE "abcdef_" "aab3cwfwdweo" "tk'" "" []
local macro_rules | `(tactic| walk_at "compareOp NotEq ref ref") => wl 3 "" "" `ne_trip "abcde_" "aab3c3d5eU" "" "" [".inr SameV.str _ _ _ @3 @1 | .inl rfl rfl <2 @1"]
theorem d_at {w : World} {loose : List Str} {mean : ExcName → Option Value} {mg mb : Str → Option Value} {A : Around} {a : Addr} {cd : Value}
    {base : Heap} {L : Addr} {m : Str → Option Value} {s : Shared} {E : Value → Shared → Prop} {Q : Flow → Shared → Prop} {new : List (Addr × Obj)} {x dx P Dg : Addr} {zs ys : List Value} {nz ny q i : Nat} {S : List Str} {k1 k2 k3 k4 k5 qt nt : Tok} {b lone : Bool} {gv : Value} {D : Str} {dt it : Tok} {nv : Value}
    (F : Fr base L s.heap m) (X : (hd.heap_1 w.params).In base) (N : News base L s.heap ((x, instObj 133 dx) :: (dx, tokD w.params k1 k2 k3 k4 k5 b gv (.str D dt) (.int i it) nv) :: new)) (T : Top hd.view_39 loose mean mg mb base) (hd' : A.depth + 29 < recursionLimit) (hu : A.units + 50 < cLine)
    (hm : Has m [(Str.ofString "source", .ref x), (Str.ofString "places", .ref P), (Str.ofString "at", .int (q : Int) qt), (Str.ofString "signs", .ref Dg), (Str.ofString "n", .int (S.length : Int) nt)]) (hP : (P, W.listOf zs.toArray nz) ∈ new) (hz : IntsAre zs (plcs S S.length)) (hDg : (Dg, W.listOf ys.toArray ny) ∈ new) (hy : StrsAre ys S) (hSl : S.length ≤ 100) (hq : q ≤ S.length) (hr : RdX lone D i nv (pl5 S q) (S.drop q))
    (hQ : ∀ h' tk, Fr base L h' m → News base L h' ((x, instObj 133 dx) :: (dx, tokD w.params k1 k2 k3 k4 k5 b gv (.str D dt) (.int i it) nv) :: new) → Q .next { s with heap := h', toks := tk }) :
    wpAny (model PySem.Challenge.rw_kq0016_05.row.prog w) A (exec (tStmt 11) (lawEnv L a cd)) Q E s := by
  have fin : ∀ h' tk, Fr base L h' (chainOf [(Str.ofString "source", .ref x), (Str.ofString "places", .ref P), (Str.ofString "at", .int (q : Int) qt), (Str.ofString "signs", .ref Dg), (Str.ofString "n", .int (S.length : Int) nt)] m) → News base L h' ((x, instObj 133 dx) :: (dx, tokD w.params k1 k2 k3 k4 k5 b gv (.str D dt) (.int i it) nv) :: new) → Q .next { s with heap := h', toks := tk } := by
    intro h' tk F' N'
    rw [chain_eq hm] at F'
    exact hQ h' tk F' N'
  obtain ⟨ok1, ok2⟩ := hr.ok
  have hq0 : (0 : Int) ≤ (q : Int) := Int.natCast_nonneg q
  have e1 : (plcs S S.length)[(q : Int).toNat]? = some ((i : Int) - nlen nv) := by rw [plcs_at (by omega), Int.toNat_natCast, ok2]
  refine law_lit (by conv => lhs; whnf) (by conv => lhs; whnf) ?_
  have F₁ := hm.fr F
  dsimp only [chainOf] at F₁
  clear F hQ hm
  by_cases h3 : q < S.length
  · have c3 : (q : Int) < (S.length : Int) := by omega
    obtain ⟨y, hy2, z, rfl⟩ : ∃ y, S.getD (q : Int).toNat Str.empty = y ∧ ∃ z, nv = .str y z := by
      rw [List.drop_eq_getElem_cons h3] at hr
      obtain ⟨z, hz, _⟩ := hr
      exact ⟨S[q], by rw [Int.toNat_natCast]; exact (List.getElem_eq_getD (h := h3) _).symm, z, hz⟩
    clear hr
    k_steps
    all_goals refine fin _ _ (by assumption) (fun z9 hz9 => ?_)
    all_goals exact (‹News base L _ (_ :: _ :: _ :: _ :: _)›) z9 (List.mem_cons_of_mem _ (List.mem_cons_of_mem _ hz9))
  · have c3 : ¬ (q : Int) < (S.length : Int) := by omega
    rw [List.drop_eq_nil_of_le (by omega)] at hr
    obtain ⟨_, rfl, _⟩ := hr
    k_steps
    all_goals refine fin _ _ (by assumption) (fun z9 hz9 => ?_)
    all_goals exact (‹News base L _ (_ :: _ :: _ :: _ :: _)›) z9 (List.mem_cons_of_mem _ (List.mem_cons_of_mem _ hz9))
end Mine
end

section
open PySem PySem.W PySem.Calls PySem.Spec PyProof.Rows
set_option maxRecDepth 100000
set_option maxHeartbeats 2000000
namespace Mine
open TI
theorem fillL5M (P : Params) : hd.heap_1 P = hd.heap_1 P ∧ PySem.Challenge.rw_kq0016_05 = PySem.Challenge.rw_kq0016_05 := by
  k_fill
  exact ⟨rfl, rfl⟩
theorem execs_app_wp {M : Model} {A : Around} {env : Env} {l₂ : List Stmt} {Q : Flow → Shared → Prop} {E : Value → Shared → Prop} {Γ : PySem.Ctx} (hΓ : Γ.In A) : ∀ (l₁ : List Stmt) (p : Pos) (s : Shared), Sem.wp M Γ (execs l₁ env) (fun f _ s' => match f with | .next => wpAny M A (execs l₂ env) Q E s' | f => Q f s') (fun e _ s' => E e s') p s → Sem.wp M Γ (execs (l₁ ++ l₂) env) (fun a _ s' => Q a s') (fun e _ s' => E e s') p s
  | [], p, s, h => (show wpAny M A (execs l₂ env) Q E s from h) Γ p hΓ
  | st :: r, p, s, h => by
    rw [List.cons_append, execs_cons, Sem.wp_bind']
    rw [execs_cons, Sem.wp_bind'] at h
    refine Sem.wp_mono M Γ _ (fun f p' s' h' => ?_) (fun _ _ _ h' => h') _ _ h
    cases f with
    | next => exact execs_app_wp hΓ r p' s' h'
    | _ => exact h'
theorem wpAny_execs_app {M : Model} {A : Around} {env : Env} {l₁ l₂ : List Stmt} {Q : Flow → Shared → Prop} {E : Value → Shared → Prop} {s : Shared} (h : wpAny M A (execs l₁ env) (fun f s' => match f with | .next => wpAny M A (execs l₂ env) Q E s' | f => Q f s') E s) : wpAny M A (execs (l₁ ++ l₂) env) Q E s :=
  fun Γ p hΓ => execs_app_wp hΓ l₁ p s (h Γ p hΓ)
/-- the names that the last loop keeps -/
abbrev nmR (top : Nat) (S : List Str) (lone b : Bool) (Tw Dg Ds P x : Addr) (D : Str) (gl : Value) (tt nt Dt : Tok) : List (Str × Value) := [(Str.ofString "top", .int (top : Int) tt), (Str.ofString "n", .int (S.length : Int) nt), (Str.ofString "lone", .bool lone), (Str.ofString "stuck", .ref Tw), (Str.ofString "signs", .ref Dg), (Str.ofString "some", .ref Ds), (Str.ofString "places", .ref P), (Str.ofString "text", .str D Dt), (Str.ofString "given", gl), (Str.ofString "octets", .bool (!b)), (Str.ofString "source", .ref x)]
/-- a turn is done -/
inductive TZ (Pm : Params) (base : Heap) (L : Addr) (x dx : Addr) (k1 k2 k3 k4 k5 : Tok) (b lone : Bool) (gv : Value) (D : Str) (dt : Tok) (new : List (Addr × Obj)) (S : List Str) (top : Nat) (nms : List (Str × Value)) (s s' : Shared) : Prop
  | mk (h' : Heap) (tk : Nat) (m' : Str → Option Value) (q' i : Nat) (qt it : Tok) (nv : Value) (hm : Has m' ((Str.ofString "at", .int (q' : Int) qt) :: nms)) (hr : RdX lone D i nv (pl5 S q') (S.drop q')) (hq : q' ≤ top) (hi : i ≤ 3000) (hs : s' = { s with heap := h', toks := tk }) (F : Fr base L h' m') (N : News base L h' ((x, instObj 133 dx) :: (dx, tokD Pm k1 k2 k3 k4 k5 b gv (.str D dt) (.int (i : Int) it) nv) :: new))
theorem six_of {d : Int} (h0 : 0 ≤ d) (h6 : d < 6) : d = 0 ∨ d = 1 ∨ d = 2 ∨ d = 3 ∨ d = 4 ∨ d = 5 := by
  obtain ⟨k, rfl⟩ := Int.eq_ofNat_of_zero_le h0
  have hk : k < 6 := Int.ofNat_lt.mp h6
  match k, hk with
  | 0, _ => exact .inl rfl
  | 1, _ => exact .inr (.inl rfl)
  | 2, _ => exact .inr (.inr (.inl rfl))
  | 3, _ => exact .inr (.inr (.inr (.inl rfl)))
  | 4, _ => exact .inr (.inr (.inr (.inr (.inl rfl))))
  | 5, _ => exact .inr (.inr (.inr (.inr (.inr rfl))))
theorem deed_any {w : World} {loose : List Str} {mean : ExcName → Option Value} {mg mb : Str → Option Value} {A₀ : Around} {a : Addr} {cd : Value}
    {base : Heap} {L : Addr} {m : Str → Option Value} {s : Shared} {E : Value → Shared → Prop} {Q : Flow → Shared → Prop} {new : List (Addr × Obj)} {x dx : Addr} {k1 k2 k3 k4 k5 : Tok} {b lone : Bool} {gv : Value} {D : Str} {dt : Tok} {i : Nat} {it : Tok} {nv : Value}{gl : Value} {S : List Str} {top nz ny no c g q : Nat} {Tw Dg Ds P : Addr} {ys zs os : List Value} {tt nt Dt u1 u2 u3 u4 u5 : Tok} {y : Str} {et yt ct gt ht qt : Tok} {d : Int}
    (F : Fr base L s.heap m) (X : (hd.heap_1 w.params).In base) (N : News base L s.heap ((x, instObj 133 dx) :: (dx, tokD w.params k1 k2 k3 k4 k5 b gv (.str D dt) (.int i it) nv) :: new)) (T : Top hd.view_39 loose mean mg mb base) (hdx : ∀ q ∈ new, q.1 ≠ dx)
    (hA₀ : A₀.frames = some []) (hh₀ : A₀.handled = none) (hd' : A₀.depth + 30 < recursionLimit) (hu : A₀.units + 100 < cLine)
        (hD : D.length ≤ 2000) (hcD : (cat S).length ≤ D.length) (hD1 : 1 ≤ D.length) (hg : GivenIs b gv D) (hsh : ShowsV gl) (hgl : SameV gl gl) (hsx : SignsX lone D 0 S)
        (hDg : (Dg, W.listOf ys.toArray ny) ∈ new) (hy : StrsAre ys S) (hSl : S.length ≤ 100) (hS1 : 1 ≤ S.length) (hS : ∀ z ∈ S, IsSg z) (htop : top = top5 lone S) (hTw : (Tw, wholeO (Str.ofString "bad escape (end of pattern)") gl D.cps.toList ((D.length : Int) - 1) u1 u2 u3 u4 u5) ∈ new)
        (hDs : (Ds, W.listOf os.toArray no) ∈ new) (ho : StrsAre os some5) (hP : (P, W.listOf zs.toArray nz) ∈ new) (hz : IntsAre zs (plcs S S.length))
        (hE : PassesOwn (model PySem.Challenge.rw_kq0016_05.row.prog w) (A₀.deeper (lawEnv L a cd)) (lawEnv L a cd) E)
    (hi : i ≤ 3000) (hr : RdX lone D i nv (pl5 S q) (S.drop q)) (hq : q ≤ top) (hy0 : IsSg y) (hcc : c ≤ 4) (hgt : g ≤ top) (hd0 : 0 ≤ d) (hd6 : d < 6) (hy3 : d = 3 → ∃ j, j < 8 ∧ y = tab8.getD j Str.empty)
    (hm : Has m (nmT d y c g q top S lone b Tw Dg Ds P x D gl et yt ct gt ht qt tt nt Dt)) :
    wpAny (model PySem.Challenge.rw_kq0016_05.row.prog w) (A₀.deeper (lawEnv L a cd)) (execs [tStmt 8, tStmt 9] (lawEnv L a cd)) (fun f s' => f = .next ∧ MZ w.params base L m x dx k1 k2 k3 k4 k5 b lone gv gl D dt new S top s s') E s := by
  have hdd : d = 0 ∨ d = 1 ∨ d = 2 ∨ d = 3 ∨ d = 4 ∨ d = 5 := six_of hd0 hd6
  rcases hdd with rfl | rfl | rfl | rfl | rfl | rfl
  · exact deed_0 (Q := fun _ _ => True) F X N T hA₀ hh₀ hd' hu hdx hD hcD hD1 hi hr hg hsh hgl hsx hDg hy hSl hS1 hS htop hq hTw hDs ho hP hz hy0 hcc hgt hE hm
  · exact deed_1 (Q := fun _ _ => True) F X N T hA₀ hh₀ hd' hu hdx hD hcD hD1 hi hr hg hsh hgl hsx hDg hy hSl hS1 hS htop hq hTw hDs ho hP hz hy0 hcc hgt hE hm
  · exact deed_2 (Q := fun _ _ => True) F X N T hA₀ hh₀ hd' hu hdx hD hcD hD1 hi hr hg hsh hgl hsx hDg hy hSl hS1 hS htop hq hTw hDs ho hP hz hy0 hcc hgt hE hm
  · obtain ⟨j, hj, rfl⟩ := hy3 rfl
    obtain ⟨f1, _⟩ := mark3_fit (b := b) hy0
    have hl : (Str.ofString "missing " ++ mark3 b (tab8.getD j Str.empty) ++ Str.ofString ", unterminated name").length ≤ 20000 := by
      rw [Str.length_append, Str.length_append]
      have : (Str.ofString "missing ").length = 8 := by decide +kernel
      have : (Str.ofString ", unterminated name").length = 19 := by decide +kernel
      omega
    exact deed_3 (Q := fun _ _ => True) F X N T hA₀ hh₀ hd' hu hdx hD hcD hD1 hi hr hg hsh hgl hsx hDg hy hSl hS1 hS htop hq hTw hDs ho hP hz hy0 hcc hgt hE (thing_words b) (mark_words5 b j hj) hl hm
  · exact deed_4 (Q := fun _ _ => True) F X N T hA₀ hh₀ hd' hu hdx hD hcD hD1 hi hr hg hsh hgl hsx hDg hy hSl hS1 hS htop hq hTw hDs ho hP hz hy0 hcc hgt hE hm
  · exact deed_5 (Q := fun _ _ => True) F X N T hA₀ hh₀ hd' hu hdx hD hcD hD1 hi hr hg hsh hgl hsx hDg hy hSl hS1 hS htop hq hTw hDs ho hP hz hy0 hcc hgt hE hm
theorem nat_of {z : Int} {k : Nat} (h0 : 0 ≤ z) (h1 : z ≤ (k : Int)) : ∃ c : Nat, z = (c : Int) ∧ c ≤ k := ⟨z.toNat, by omega, by omega⟩
theorem turn_5 {w : World} {loose : List Str} {mean : ExcName → Option Value} {mg mb : Str → Option Value} {A₀ : Around} {a : Addr} {cd : Value}
    {base : Heap} {L : Addr} {m : Str → Option Value} {s : Shared} {E : Value → Shared → Prop} {Q : Flow → Shared → Prop} {new : List (Addr × Obj)} {x dx : Addr} {k1 k2 k3 k4 k5 : Tok} {b lone : Bool} {gv : Value} {D : Str} {dt : Tok} {i : Nat} {it : Tok} {nv : Value}{gl : Value} {S : List Str} {top nz ny no n8 : Nat} {Tw Dg Ds P t2 : Addr} {oc : Obj} {ys zs os tv : List Value} {tt nt Dt u1 u2 u3 u4 u5 : Tok} {q k : Nat} {v : Int} {kt vt qt : Tok}
    (F : Fr base L s.heap m) (X : (hd.heap_1 w.params).In base) (N : News base L s.heap ((x, instObj 133 dx) :: (dx, tokD w.params k1 k2 k3 k4 k5 b gv (.str D dt) (.int i it) nv) :: new)) (T : Top hd.view_39 loose mean mg mb base) (hdx : ∀ q ∈ new, q.1 ≠ dx)
    (hA₀ : A₀.frames = some []) (hh₀ : A₀.handled = none) (hgu : A₀.guards = some []) (hd' : A₀.depth + 30 < recursionLimit) (hu : A₀.units + 100 < cLine)
    (hc : (L + 1, oc) ∈ new) (hoc : oc.data = .cell (some (.ref t2))) (ht2 : (t2, W.listOf tv.toArray n8) ∈ new) (htv : StrsAre tv tab8)
    (hD : D.length ≤ 2000) (hcD : (cat S).length ≤ D.length) (hD1 : 1 ≤ D.length) (hg : GivenIs b gv D) (hsh : ShowsV gl) (hgl : SameV gl gl) (hgg : SameV gv gl) (hsx : SignsX lone D 0 S)
    (hDg : (Dg, W.listOf ys.toArray ny) ∈ new) (hy : StrsAre ys S) (hSl : S.length ≤ 100) (hS1 : 1 ≤ S.length) (hS : ∀ z ∈ S, IsSg z) (htop : top = top5 lone S) (hTw : (Tw, wholeO (Str.ofString "bad escape (end of pattern)") gl D.cps.toList ((D.length : Int) - 1) u1 u2 u3 u4 u5) ∈ new)
    (hDs : (Ds, W.listOf os.toArray no) ∈ new) (ho : StrsAre os some5) (hP : (P, W.listOf zs.toArray nz) ∈ new) (hz : IntsAre zs (plcs S S.length))
    (hE : PassesOwn (model PySem.Challenge.rw_kq0016_05.row.prog w) (A₀.deeper (lawEnv L a cd)) (lawEnv L a cd) E)
    (hi : i ≤ 3000) (hr : RdX lone D i nv (pl5 S q) (S.drop q)) (hq : q ≤ top)
    (hm : Has m ((Str.ofString "k", .int (k : Int) kt) :: (Str.ofString "v", .int v vt) :: (Str.ofString "at", .int (q : Int) qt) :: nmR top S lone b Tw Dg Ds P x D gl tt nt Dt)) :
    wpAny (model PySem.Challenge.rw_kq0016_05.row.prog w) (A₀.deeper (lawEnv L a cd)) (execs turnBody (lawEnv L a cd)) (fun f s' => f = .next ∧ TZ w.params base L x dx k1 k2 k3 k4 k5 b lone gv D dt new S top (nmR top S lone b Tw Dg Ds P x D gl tt nt Dt) s s') E s := by
  have up : ∀ {z A B : Addr × Obj}, z ∈ new → z ∈ A :: B :: new := fun h => List.mem_cons_of_mem _ (List.mem_cons_of_mem _ h)
  have htl : top ≤ S.length := top_le htop
  rw [show turnBody = [tStmt 0, tStmt 1, tStmt 2] ++ (tStmt 3 :: ([tStmt 4, tStmt 5, tStmt 6, tStmt 7] ++ ([tStmt 8, tStmt 9] ++ (tStmt 10 :: [tStmt 11])))) from rfl]
  refine wpAny_execs_app (d_a (v := v) (k := k) F X N T (up hc) hoc (up ht2) htv (by repeat (with_reducible first | exact Has.nil | refine Has.consM hm (by repeat (with_reducible first | exact List.mem_cons_self | apply List.mem_cons_of_mem)) ?_)) (fun h1 tk1 et mt yt F1 N1 => ?_))
  obtain ⟨d, hd⟩ : ∃ d, (v + (k : Int)).fmod 6 = d := ⟨_, rfl⟩
  have hd0 : 0 ≤ d := hd ▸ Int.fmod_nonneg_of_pos _ (by decide)
  have hd6 : d < 6 := hd ▸ Int.fmod_lt_of_pos _ (by decide)
  obtain ⟨mo, hmo⟩ : ∃ mo, v.fdiv 6 + (k : Int) = mo := ⟨_, rfl⟩
  obtain ⟨y0, hy0⟩ : ∃ y0, tab8.getD (mo.fmod 8).toNat Str.empty = y0 := ⟨_, rfl⟩
  have hj8 : (mo.fmod 8).toNat < 8 := fmod_nat (k := 8) (by decide)
  rw [hmo, hd, hy0] at F1
  have H1 := ((hm.put (n := Str.ofString "deed") (v := .int d et) (by kernel_rfl)).put (n := Str.ofString "more") (v := .int mo mt) (by kernel_rfl)).put (n := Str.ofString "sign") (v := .str y0 yt) (by kernel_rfl)
  generalize setM (setM (setM m (Str.ofString "deed") (.int d et)) (Str.ofString "more") (.int mo mt)) (Str.ofString "sign") (.str y0 yt) = m1 at F1 H1
  refine wpAny_execs_cons (d_b (q := q) (S := S) (d := d) (mo := mo) (y0 := y0) F1 X N1 T (by repeat (with_reducible first | exact Has.nil | refine Has.consM H1 (by repeat (with_reducible first | exact List.mem_cons_self | apply List.mem_cons_of_mem)) ?_)) (up hDg) hy (by omega) (fun h2 tk2 m2 y t2' hy2 hs2 ho2 F2 N2 => ?_))
  have H2 : Has m2 ((Str.ofString "sign", .str y t2') :: (Str.ofString "deed", .int d et) :: (Str.ofString "more", .int mo mt) :: (Str.ofString "at", .int (q : Int) qt) :: nmR top S lone b Tw Dg Ds P x D gl tt nt Dt) := Has.cons hs2 (Has.oth (ex := [Str.ofString "sign"]) (l := (Str.ofString "deed", .int d et) :: (Str.ofString "more", .int mo mt) :: (Str.ofString "at", .int (q : Int) qt) :: nmR top S lone b Tw Dg Ds P x D gl tt nt Dt) (by repeat (with_reducible first | exact Has.nil | refine Has.consM H1 (by repeat (with_reducible first | exact List.mem_cons_self | apply List.mem_cons_of_mem)) ?_)) (fun z hz => ho2 z (fun e => hz (by rw [e]; exact List.mem_cons_self))) (by kernel_rfl))
  refine wpAny_execs_app (d_c (q := q) (top := top) (mo := mo) F2 X N2 T (by repeat (with_reducible first | exact Has.nil | refine Has.consM H2 (by repeat (with_reducible first | exact List.mem_cons_self | apply List.mem_cons_of_mem)) ?_)) (fun h3 tk3 ct gt F3 N3 => ?_))
  obtain ⟨c, hcc, hc4⟩ := nat_of (z := mo.fmod 5) (k := 4) (Int.fmod_nonneg_of_pos _ (by decide)) (by have := Int.fmod_lt_of_pos mo (show (0 : Int) < 5 by decide); omega)
  obtain ⟨g, hgg', hgt⟩ := nat_of (z := mo.fmod ((top : Int) + 1)) (k := top) (Int.fmod_nonneg_of_pos _ (by omega)) (by have := Int.fmod_lt_of_pos mo (show (0 : Int) < (top : Int) + 1 by omega); omega)
  rw [hcc, hgg'] at F3
  have H3 := (((H2.put (n := Str.ofString "count") (v := .int (c : Int) ct) (by kernel_rfl)).put (n := Str.ofString "goal") (v := .int (g : Int) gt) (by kernel_rfl)).put (n := Str.ofString "here") (v := .int (q : Int) qt) (by kernel_rfl)).put (n := Str.ofString "want") (v := .none) (by kernel_rfl)
  generalize setM (setM (setM (setM m2 (Str.ofString "count") (.int (c : Int) ct)) (Str.ofString "goal") (.int (g : Int) gt)) (Str.ofString "here") (.int (q : Int) qt)) (Str.ofString "want") .none = m3 at F3 H3
  have hsg0 : IsSg y0 := hy0 ▸ tab8_sg _ hj8
  have hsg : IsSg y := by
    rcases hy2 with rfl | ⟨_, e⟩
    · exact hsg0
    · exact hS y (List.mem_of_getElem? e)
  have hy3 : d = 3 → ∃ j, j < 8 ∧ y = tab8.getD j Str.empty := fun e => by
    rcases hy2 with rfl | ⟨e1, _⟩
    · exact ⟨_, hj8, hy0.symm⟩
    · omega
  refine wpAny_execs_app (wpAny_mono (deed_any (Q := fun _ _ => True) (s := { s with heap := h3, toks := tk3 }) (y := y) (d := d) F3 X N3 T hdx hA₀ hh₀ hd' hu hD hcD hD1 hg hsh hgl hsx hDg hy hSl hS1 hS htop hTw hDs ho hP hz hE hi hr hq hsg hc4 hgt hd0 hd6 hy3 (by repeat (with_reducible first | exact Has.nil | refine Has.consM H3 (by repeat (with_reducible first | exact List.mem_cons_self | apply List.mem_cons_of_mem)) ?_))) (fun f s4 h4 => ?_) fun _ _ z => z)
  obtain ⟨rfl, h4, tk4, m4, w4, v4, o, q', i', qt', it', nv', nw, hw, hv, ha, o1, o2, hf, hr', hq', hi', hoth, rfl, F4, N4⟩ := h4
  have o2' := OutAt.same o2 hgg
  have hsub : ∀ z ∈ nw ++ new, z ∈ (x, instObj 133 dx) :: (dx, tokD w.params k1 k2 k3 k4 k5 b gv (.str D dt) (.int i' it') nv') :: (nw ++ new) := fun z hz => List.mem_cons_of_mem _ (List.mem_cons_of_mem _ hz)
  have hu2 : (A₀.deeper (lawEnv L a cd)).units + 50 < cLine := by rw [units_deeper]; omega
  have upn : ∀ {z : Addr × Obj}, z ∈ new → z ∈ nw ++ new := fun h => List.mem_append_right _ h
  refine wpAny_execs_cons (d_cmp (A := A₀.deeper (lawEnv L a cd)) F4 X N4 T (Has.cons hv (Has.cons hw Has.nil)) o2' o1 hsub hf hgu hu2 (fun h5 tk5 F5 N5 => ?_))
  have H5 : Has m4 ((Str.ofString "at", .int (q' : Int) qt') :: nmR top S lone b Tw Dg Ds P x D gl tt nt Dt) := Has.cons ha (Has.oth (ex := mzX) (l := nmR top S lone b Tw Dg Ds P x D gl tt nt Dt) (by repeat (with_reducible first | exact Has.nil | refine Has.consM H3 (by repeat (with_reducible first | exact List.mem_cons_self | apply List.mem_cons_of_mem)) ?_)) hoth (by kernel_rfl))
  have hd2 : (A₀.deeper (lawEnv L a cd)).depth + 29 < recursionLimit := by show A₀.depth + 1 + 29 < recursionLimit; omega
  refine wpAny_execs_cons (d_at (A := A₀.deeper (lawEnv L a cd)) F5 X N5 T hd2 hu2 (by repeat (with_reducible first | exact Has.nil | refine Has.consM H5 (by repeat (with_reducible first | exact List.mem_cons_self | apply List.mem_cons_of_mem)) ?_)) (upn hP) hz (upn hDg) hy hSl (Nat.le_trans hq' htl) hr' (fun h6 tk6 F6 N6 => ?_))
  exact wpAny_execs_nil ⟨rfl, h6, tk6, m4, q', i', qt', it', nv', H5, hr', hq', hi', rfl, F6, fun z hz => N6 z (by
    rcases List.mem_cons.mp hz with rfl | hz
    · exact List.mem_cons_self
    rcases List.mem_cons.mp hz with rfl | hz
    · exact List.mem_cons_of_mem _ List.mem_cons_self
    · exact hsub z (upn hz))⟩
end Mine
end

section
open PySem PySem.W PySem.Calls PySem.Spec PyProof.Rows
set_option maxRecDepth 100000
set_option maxHeartbeats 2000000
namespace Mine
theorem anew20 : True := by
  w_top off
  exact True.intro
open TI
theorem fillL5N (P : Params) : hd.heap_1 P = hd.heap_1 P ∧ PySem.Challenge.rw_kq0016_05 = PySem.Challenge.rw_kq0016_05 := by
  k_fill
  exact ⟨rfl, rfl⟩
local macro_rules | `(tactic| walk_at "assign Tuple") => wl 3 "" "assign Expr.Tuple _ _ _ @3 _ Value.ref _ @1 @3" `unpackN_ "abcdef_" "aabacwdweRfR" "h' F' N'" "S" []
def forTarget : Stmt → PySem.Expr
  | .For t _ _ _ _ => t
  | _ => default
def enTarget : PySem.Expr := forTarget (lawStmt 16)
theorem te_assign {w : World} {loose : List Str} {mean : ExcName → Option Value} {mg mb : Str → Option Value} {A : Around} {a : Addr} {cd : Value}
    {base : Heap} {L : Addr} {m : Str → Option Value} {s : Shared} {E : Value → Shared → Prop} {Q : Unit → Shared → Prop} {news : List (Addr × Obj)} {Tt : Addr} {v : Value} {k : Nat} {t : Tok}
    (F : Fr base L s.heap m) (X : (hd.heap_1 w.params).In base) (N : News base L s.heap news) (T : Top hd.view_39 loose mean mg mb base) (hh : A.handled = none) (hT : IsTup s.heap Tt #[.int (k : Int) t, v])
    (hQ : ∀ h' tk, Fr base L h' (setM (setM m (Str.ofString "k") (.int (k : Int) t)) (Str.ofString "v") v) → News base L h' news → Q () { s with heap := h', toks := tk }) :
    wpAny (model PySem.Challenge.rw_kq0016_05.row.prog w) A (assign enTarget (lawEnv L a cd) (.ref Tt)) Q E s := by
  have lit : ∀ x y, enTarget = x → lawScope = y → wpAny (model PySem.Challenge.rw_kq0016_05.row.prog w) A (assign x (envOfC (Str.ofString "law") y L a cd) (.ref Tt)) Q E s → wpAny (model PySem.Challenge.rw_kq0016_05.row.prog w) A (assign enTarget (lawEnv L a cd) (.ref Tt)) Q E s := by
    intro x y h1 h2 h3
    unfold lawEnv
    rw [h1, h2]; exact h3
  refine lit _ _ (by conv => lhs; whnf) (by conv => lhs; whnf) ?_
  clear lit
  k_steps
  exact hQ _ _ (by assumption) (by assumption)
theorem mem_4 {α : Type} {a b e f q : α} {r : List α} (h : q ∈ a :: b :: e :: f :: r) : q ∈ e :: f :: a :: b :: r := by
  simp only [List.mem_cons] at h ⊢
  rcases h with h | h | h | h | h
  · exact .inr (.inr (.inl h))
  · exact .inr (.inr (.inr (.inl h)))
  · exact .inl h
  · exact .inr (.inl h)
  · exact .inr (.inr (.inr (.inr h)))
theorem mem_3 {α : Type} {a b c q : α} {r : List α} (h : q ∈ a :: b :: c :: r) : q ∈ c :: a :: b :: r := by
  simp only [List.mem_cons] at h ⊢
  rcases h with h | h | h | h
  · exact .inr (.inl h)
  · exact .inr (.inr (.inl h))
  · exact .inl h
  · exact .inr (.inr (.inr h))
/-- between two turns -/
inductive JL (Pm : Params) (x dx : Addr) (k1 k2 k3 k4 k5 : Tok) (b lone : Bool) (gv : Value) (D : Str) (dt : Tok) (new : List (Addr × Obj)) (S : List Str) (top : Nat) (nms : List (Str × Value)) (m' : Str → Option Value) (news : List (Addr × Obj)) : Prop
  | mk (q' i : Nat) (qt it : Tok) (nv : Value) (hm : Has m' ((Str.ofString "at", .int (q' : Int) qt) :: nms)) (hr : RdX lone D i nv (pl5 S q') (S.drop q')) (hq : q' ≤ top) (hi : i ≤ 3000) (N : news = (x, instObj 133 dx) :: (dx, tokD Pm k1 k2 k3 k4 k5 b gv (.str D dt) (.int (i : Int) it) nv) :: new)
local macro_rules | `(tactic| walk_at "binaryOp Add ref ref") => wl 3 "" "" `kmk_add_ints "abcdef_g" "aabac5d6ewf7gV" "D' us' h' F' N' l1 hus" "" ["News.isList !a !3 @2", "News.isList !a List.mem_cons_self @2", ".cons _ _ .nil @3"]
theorem l_loop {w : World} {loose : List Str} {mean : ExcName → Option Value} {mg mb : Str → Option Value} {A₀ : Around} {a : Addr} {cd : Value}
    {base : Heap} {L : Addr} {m : Str → Option Value} {s : Shared} {E : Value → Shared → Prop} {Q : Flow → Shared → Prop} {new : List (Addr × Obj)} {x dx : Addr} {k1 k2 k3 k4 k5 : Tok} {b lone : Bool} {gv : Value} {D : Str} {dt : Tok} {i : Nat} {it : Tok} {nv : Value}{gl : Value} {S : List Str} {top nz ny no n8 : Nat} {Tw Dg Ds P t2 : Addr} {oc : Obj} {ys zs os tv : List Value} {tt nt Dt u1 u2 u3 u4 u5 : Tok} {q : Nat} {qt : Tok} {De : Addr} {dv : List Value} {ds : List Int} {nd : Nat}
    (F : Fr base L s.heap m) (X : (hd.heap_1 w.params).In base) (N : News base L s.heap ((x, instObj 133 dx) :: (dx, tokD w.params k1 k2 k3 k4 k5 b gv (.str D dt) (.int i it) nv) :: new)) (T : Top hd.view_39 loose mean mg mb base) (hdx : ∀ q ∈ new, q.1 ≠ dx)
    (hA₀ : A₀.frames = some []) (hh₀ : A₀.handled = none) (hgu : A₀.guards = some []) (hd' : A₀.depth + 30 < recursionLimit) (hu : A₀.units + 100 < cLine)
    (hc : (L + 1, oc) ∈ new) (hoc : oc.data = .cell (some (.ref t2))) (ht2 : (t2, W.listOf tv.toArray n8) ∈ new) (htv : StrsAre tv tab8)
    (hD : D.length ≤ 2000) (hcD : (cat S).length ≤ D.length) (hD1 : 1 ≤ D.length) (hg : GivenIs b gv D) (hsh : ShowsV gl) (hgl : SameV gl gl) (hgg : SameV gv gl) (hsx : SignsX lone D 0 S)
    (hDg : (Dg, W.listOf ys.toArray ny) ∈ new) (hy : StrsAre ys S) (hSl : S.length ≤ 100) (hS1 : 1 ≤ S.length) (hS : ∀ z ∈ S, IsSg z) (htop : top = top5 lone S) (hTw : (Tw, wholeO (Str.ofString "bad escape (end of pattern)") gl D.cps.toList ((D.length : Int) - 1) u1 u2 u3 u4 u5) ∈ new)
    (hDs : (Ds, W.listOf os.toArray no) ∈ new) (ho : StrsAre os some5) (hP : (P, W.listOf zs.toArray nz) ∈ new) (hz : IntsAre zs (plcs S S.length))
    (hE : PassesOwn (model PySem.Challenge.rw_kq0016_05.row.prog w) (A₀.deeper (lawEnv L a cd)) (lawEnv L a cd) E)
    (hi : i ≤ 3000) (hr : RdX lone D i nv (pl5 S q) (S.drop q)) (hq : q ≤ top) (hDe : (De, W.listOf dv.toArray nd) ∈ new) (hdv : IntsAre dv ds) (hdl : ds.length ≤ 40)
    (hm : Has m ((Str.ofString "deeds", .ref De) :: (Str.ofString "at", .int (q : Int) qt) :: nmR top S lone b Tw Dg Ds P x D gl tt nt Dt))
    (hQ : ∀ h' tk m', Fr base L h' m' → Q .next { s with heap := h', toks := tk }) :
    wpAny (model PySem.Challenge.rw_kq0016_05.row.prog w) (A₀.deeper (lawEnv L a cd)) (exec (lawStmt 16) (lawEnv L a cd)) Q E s := by
  have hst' : lawStmt 16 = .For enTarget (forIter (lawStmt 16)) turnBody [] (forPos (lawStmt 16)) := rfl
  rw [hst']
  refine For_turns F ?_ (by intro _; rfl) hE
  have ev : ∀ (R : Value → Shared → Prop) x y, forIter (lawStmt 16) = x → lawScope = y → wpAny (model PySem.Challenge.rw_kq0016_05.row.prog w) (A₀.deeper (envOfC (Str.ofString "law") y L a cd)) (eval x (envOfC (Str.ofString "law") y L a cd)) R E s → wpAny (model PySem.Challenge.rw_kq0016_05.row.prog w) (A₀.deeper (lawEnv L a cd)) (eval (forIter (lawStmt 16)) (lawEnv L a cd)) R E s := by
    intro R x y h1 h2 h3
    unfold lawEnv
    rw [h1, h2]; exact h3
  refine ev _ _ _ (by conv => lhs; whnf) (by conv => lhs; whnf) ?_
  clear ev hst'
  have key : ∀ h₀ tk₀ Dl us kk, Fr base L h₀ m → News base L h₀ ((Dl, W.listOf (List.toArray us) 0) :: (x, instObj 133 dx) :: (dx, tokD w.params k1 k2 k3 k4 k5 b gv (.str D dt) (.int i it) nv) :: new) → (∀ p ∈ (x, instObj 133 dx) :: (dx, tokD w.params k1 k2 k3 k4 k5 b gv (.str D dt) (.int i it) nv) :: new, p.1 < Dl) → IntsAre us kk → wpAny (model PySem.Challenge.rw_kq0016_05.row.prog w) (A₀.deeper (lawEnv L a cd)) (call (.type "enumerate") [.ref Dl]) (fun xv s₁ => wpAny (model PySem.Challenge.rw_kq0016_05.row.prog w) (A₀.deeper (lawEnv L a cd)) (pyIter xv) (fun it s₂ => TurnsAt PySem.Challenge.rw_kq0016_05.row.prog w (A₀.deeper (lawEnv L a cd)) base (lawEnv L a cd) enTarget turnBody Q E it s₂) E s₁) E { s with heap := h₀, toks := tk₀ } := by
    intro h₀ tk₀ Dl us kk F N hlt hus
    obtain ⟨el, kk2, ps, hlt2⟩ : ∃ el k ps, enTarget = .Tuple el k ps := ⟨_, _, _, rfl⟩
    rw [hlt2]
    have hdx2 : ∀ z ∈ (Dl, W.listOf (List.toArray us) 0) :: new, z.1 ≠ dx := fun z hz => by
      rcases List.mem_cons.mp hz with rfl | hz
      · exact Ne.symm (Nat.ne_of_lt (hlt (dx, _) (List.mem_cons_of_mem _ List.mem_cons_self)))
      · exact hdx z hz
    have N' : News base L h₀ ((x, instObj 133 dx) :: (dx, tokD w.params k1 k2 k3 k4 k5 b gv (.str D dt) (.int i it) nv) :: (Dl, W.listOf (List.toArray us) 0) :: new) := fun z hz => N z (mem_3 hz)
    refine iter_enum (h₀ := base) (env := lawEnv L a cd) (fun j m₁ news₁ => JL w.params x dx k1 k2 k3 k4 k5 b lone gv D dt ((Dl, W.listOf (List.toArray us) 0) :: new) S top (nmR top S lone b Tw Dg Ds P x D gl tt nt Dt) m₁ news₁)
      hh₀ (List.mem_cons_of_mem _ (List.mem_cons_of_mem _ List.mem_cons_self)) F N' ⟨q, i, qt, it, nv, (by repeat (with_reducible first | exact Has.nil | refine Has.consM hm (by repeat (with_reducible first | exact List.mem_cons_self | apply List.mem_cons_of_mem)) ?_)), hr, hq, hi, rfl⟩ ?_ ?_
    · rintro j v t m₁ news₁ h tk e0 itr oe oi Tt hv hin ⟨q1, i1, qt1, it1, nv1, hm₁, hr1, hq1, hi1, rfl⟩ hoff hT F₁ N₁
      obtain ⟨z, tz, rfl⟩ : ∃ z tz, v = .int z tz := by
        have hjl : j < kk.length := by rw [← hus.length]; exact (List.getElem?_eq_some_iff.mp hv).1
        obtain ⟨tz, e⟩ := hus.get j kk[j] (List.getElem?_eq_getElem hjl)
        exact ⟨_, tz, Option.some.inj (hv.symm.trans e)⟩
      have o1 := hoff (dx, _) (List.mem_cons_of_mem _ List.mem_cons_self)
      have up : ∀ {q : Addr × Obj}, q ∈ new → q ∈ (e0, oe) :: (itr, oi) :: (Dl, W.listOf (List.toArray us) 0) :: new := fun h => List.mem_cons_of_mem _ (List.mem_cons_of_mem _ (List.mem_cons_of_mem _ h))
      rw [← hlt2]
      refine te_assign (s := { s with heap := h, toks := tk }) (news := (e0, oe) :: (itr, oi) :: _) F₁ X N₁ T hh₀ hT (fun h2 tk2 F2 N2 => ?_)
      have H2 := ((hm₁.put (n := Str.ofString "k") (v := .int (j : Int) t) (by kernel_rfl)).put (n := Str.ofString "v") (v := .int z tz) (by kernel_rfl))
      generalize setM (setM m₁ (Str.ofString "k") (.int (j : Int) t)) (Str.ofString "v") (.int z tz) = m2 at F2 H2
      refine wpAny_mono (turn_5 (Q := Q) (s := { s with heap := h2, toks := tk2 }) (new := (e0, oe) :: (itr, oi) :: (Dl, W.listOf (List.toArray us) 0) :: new) F2 X (fun q hq => N2 q (mem_4 hq)) T ?_ hA₀ hh₀ hgu hd' hu (up hc) hoc (up ht2) htv hD hcD hD1 hg hsh hgl hgg hsx (up hDg) hy hSl hS1 hS htop (up hTw) (up hDs) ho (up hP) hz hE hi1 hr1 hq1 (by repeat (with_reducible first | exact Has.nil | refine Has.consM H2 (by repeat (with_reducible first | exact List.mem_cons_self | apply List.mem_cons_of_mem)) ?_))) (fun f s₃ h₃ => ?_) fun _ _ z => z
      · intro q hq
        rcases List.mem_cons.mp hq with rfl | hq
        · exact Ne.symm o1.1
        rcases List.mem_cons.mp hq with rfl | hq
        · exact Ne.symm o1.2
        · exact hdx2 q hq
      obtain ⟨rfl, h', tk', m', q2, i2, qt2, it2, nv2, hm2, hr2, hq2, hi2, rfl, F', N3⟩ := h₃
      refine ⟨h', tk', m', _, rfl, F', fun q hq => N3 q (mem_4 hq), ?_, List.mem_cons_of_mem _ (List.mem_cons_of_mem _ List.mem_cons_self), q2, i2, qt2, it2, nv2, hm2, hr2, hq2, hi2, rfl⟩
      intro q hq
      rcases List.mem_cons.mp hq with rfl | hq
      · exact hoff (x, _) List.mem_cons_self
      rcases List.mem_cons.mp hq with rfl | hq
      · exact o1
      · exact hoff q (List.mem_cons_of_mem _ (List.mem_cons_of_mem _ hq))
    · rintro m₁ news₁ h tk - F₁ N₁
      exact hQ h tk m₁ F₁
  have hm0 : Has m [(Str.ofString "deeds", .ref De)] := (by repeat (with_reducible first | exact Has.nil | refine Has.consM hm (by repeat (with_reducible first | exact List.mem_cons_self | apply List.mem_cons_of_mem)) ?_))
  have F₁ := hm0.fr F
  dsimp only [chainOf] at F₁
  have hF : (fun y => if y = Str.ofString "deeds" then some (Value.ref De) else m y) = m := chain_eq hm0
  rw [← hF] at key
  have hvl : ((dv.toArray.size : Nat) : Int) = (ds.length : Int) := by rw [List.size_toArray, hdv.length]
  clear F hF hQ
  repeat ((fail_if_success (with_reducible show wpAny _ _ (call (Value.type "enumerate") _) _ _ _)); first | (k_unfold; (try dsimp only)) | walk1 | (dsimp only; walk1))
  rename_i D2 h2 F2 N2 l2 us3 h3 F3 N3 l3 hu3
  exact key _ _ _ _ _ F3 (fun z9 hz9 => ‹News base L _ (_ :: _ :: _ :: _)› z9 (by
    rcases List.mem_cons.mp hz9 with rfl | hz9
    · exact List.mem_cons_self
    · exact List.mem_cons_of_mem _ (List.mem_cons_of_mem _ hz9))) (fun z9 hz9 => l3 z9 (List.mem_cons_of_mem _ hz9)) hu3
end Mine
end

section
open PySem PySem.W PySem.Calls PySem.Spec PyProof.Rows
set_option maxRecDepth 100000
set_option maxHeartbeats 2000000
namespace Mine
theorem anew21 : True := by
  w_top off
  exact True.intro
open TI
theorem fillL5O (P : Params) : hd.heap_1 P = hd.heap_1 P ∧ PySem.Challenge.rw_kq0016_05 = PySem.Challenge.rw_kq0016_05 := by
  k_fill
  exact ⟨rfl, rfl⟩
theorem r_ret {w : World} {A₀ : Around} {a : Addr} {cd : Value} {L : Addr} {s : Shared} {E : Value → Shared → Prop} {Q : Flow → Shared → Prop} (hQ : ∀ tk, Q (.ret (.bool true)) { s with toks := tk }) :
    wpAny (model PySem.Challenge.rw_kq0016_05.row.prog w) (A₀.deeper (lawEnv L a cd)) (exec (lawStmt 17) (lawEnv L a cd)) Q E s := by
  refine law_lit2 (by conv => lhs; whnf) (by conv => lhs; whnf) ?_
  k_steps
  exact hQ _
/-- the law from its signs on -/
theorem law_mid {w : World} {loose : List Str} {mean : ExcName → Option Value} {mg mb : Str → Option Value} {A₀ : Around} {a : Addr} {cd : Value}
    {base : Heap} {L : Addr} {m : Str → Option Value} {s : Shared} {E : Value → Shared → Prop} {Q : Flow → Shared → Prop} {news : List (Addr × Obj)} {oc : Obj} {D Ds t2 : Addr} {ws tv os : List Value} {ns : List Int} {nt no : Nat} {o : Bool} {zt : Tok} {z : Int}
    (F : Fr base L s.heap m) (X : (hd.heap_1 w.params).In base) (N : News base L s.heap news) (T : Top hd.view_39 loose mean mg mb base)
    (hA₀ : A₀.frames = some []) (hh₀ : A₀.handled = none) (hgu : A₀.guards = some []) (hd' : A₀.depth + 30 < recursionLimit) (hu : A₀.units + 100 < cLine)
    (hm : Has m [(Str.ofString "script", .ref D), (Str.ofString "octets", .bool o), (Str.ofString "total", .int z zt), (Str.ofString "some", .ref Ds)])
    (hc : (L + 1, oc) ∈ news) (hoc : oc.data = .cell (some (.ref t2))) (ht2 : (t2, W.listOf tv.toArray nt) ∈ news) (htv : StrsAre tv tab8) (hDs : (Ds, W.listOf os.toArray no) ∈ news) (ho : StrsAre os some5)
    (hL : base.IsList D ws.toArray) (hI : IntsAre ws ns) (hlen : ns.length ≤ 63)
    (hE : PassesOwn (model PySem.Challenge.rw_kq0016_05.row.prog w) (A₀.deeper (lawEnv L a cd)) (lawEnv L a cd) E)
    (hQ : ∀ h' tk m', Fr base L h' m' → Q (.ret (.bool true)) { s with heap := h', toks := tk }) :
    wpAny (model PySem.Challenge.rw_kq0016_05.row.prog w) (A₀.deeper (lawEnv L a cd)) (execs (lawBody.drop 4) (lawEnv L a cd)) Q E s := by
  have hh : (A₀.deeper (lawEnv L a cd)).handled = none := hh₀
  obtain ⟨b, rfl⟩ : ∃ b : Bool, o = !b := ⟨!o, by simp⟩
  have hSg := signs5_sg ns
  obtain ⟨hS1, hSl, hSc⟩ := signs5_len ns
  rw [show lawBody.drop 4 = lawStmt 4 :: ([lawStmt 5, lawStmt 6] ++ (lawStmt 7 :: lawStmt 8 :: lawStmt 9 :: lawStmt 10 :: lawStmt 11 :: lawStmt 12 :: lawStmt 13 :: lawStmt 14 :: lawStmt 15 :: lawStmt 16 :: [lawStmt 17])) from rfl]
  refine wpAny_execs_cons (s_signs (ns := ns) F X N T hh hc hoc ht2 htv (by repeat (with_reducible first | exact Has.nil | refine Has.consM hm (by repeat (with_reducible first | exact List.mem_cons_self | apply List.mem_cons_of_mem)) ?_)) hL hI hlen (fun h1 tk1 Dg ys ny F1 N1 hy oDg => ?_))
  generalize signs5 ns = S at *
  have hb10 : ∀ y ∈ S, y.length ≤ 10 := fun y hy => by have := (hSg y hy).len.2; omega
  have H1 := hm.put (n := Str.ofString "signs") (v := .ref Dg) (by kernel_rfl)
  generalize setM m (Str.ofString "signs") (.ref Dg) = m1 at H1 F1
  refine wpAny_execs_app (s_n (S := S) F1 X N1 T (by repeat (with_reducible first | exact Has.nil | refine Has.consM H1 (by repeat (with_reducible first | exact List.mem_cons_self | apply List.mem_cons_of_mem)) ?_)) List.mem_cons_self hy (by omega) (fun h2 tk2 tn nP P t0 F2 N2 oP => ?_))
  have H2 := (H1.put (n := Str.ofString "n") (v := .int (S.length : Int) tn) (by kernel_rfl)).put (n := Str.ofString "places") (v := .ref P) (by kernel_rfl)
  generalize setM (setM m1 (Str.ofString "n") (.int (S.length : Int) tn)) (Str.ofString "places") (.ref P) = m2 at H2 F2
  refine wpAny_execs_cons (p_loop (S := S) F2 X N2 T hh oP (by repeat (with_reducible first | exact Has.nil | refine Has.consM H2 (by repeat (with_reducible first | exact List.mem_cons_self | apply List.mem_cons_of_mem)) ?_)) H2 (by kernel_rfl) List.mem_cons_self hy hb10 (by omega) hE (fun h3 tk3 m3 zs nz H3 F3 N3 hz => ?_))
  refine wpAny_execs_cons (s_lone F3 X N3 T (by repeat (with_reducible first | exact Has.nil | refine Has.consM H3 (by repeat (with_reducible first | exact List.mem_cons_self | apply List.mem_cons_of_mem)) ?_)) (fun h4 tk4 F4 N4 => ?_))
  generalize ((z.fdiv 2).fmod 3 == 0) = lone at F4
  have H4 := H3.put (n := Str.ofString "lone") (v := .bool lone) (by kernel_rfl)
  generalize setM m3 (Str.ofString "lone") (.bool lone) = m4 at H4 F4
  refine wpAny_execs_cons (s_text (S := S) (lo := lone) F4 X N4 T (by repeat (with_reducible first | exact Has.nil | refine Has.consM H4 (by repeat (with_reducible first | exact List.mem_cons_self | apply List.mem_cons_of_mem)) ?_)) (List.mem_cons_of_mem _ List.mem_cons_self) hy hb10 (by omega) (by omega) (fun h5 tk5 Dt F5 N5 => ?_))
  have hsx := text5_at (lone := lone) hSg
  have h256 := text5_small (lone := lone) hSg
  have hDl := text5_len lone S
  have hcS : 1 ≤ (cat S).length := by
    have h0 := (hSg S[0] (List.getElem_mem (by omega))).len.1
    have e1 := pl5_succ (S := S) (k := 0) (List.getElem?_eq_getElem (by omega))
    have e2 := pl5_le S (0 + 1)
    omega
  have hD2 : (cat S).length ≤ (text5 lone S).length ∧ (text5 lone S).length ≤ 60 := by
    rw [hDl]; split <;> omega
  clear hDl
  generalize text5 lone S = D5 at *
  have H5 := H4.put (n := Str.ofString "text") (v := .str D5 Dt) (by kernel_rfl)
  generalize setM m4 (Str.ofString "text") (.str D5 Dt) = m5 at H5 F5
  refine wpAny_execs_cons (r_given (b := b) (D := D5) F5 X N5 T hh (by repeat (with_reducible first | exact Has.nil | refine Has.consM H5 (by repeat (with_reducible first | exact List.mem_cons_self | apply List.mem_cons_of_mem)) ?_)) (by omega) h256 (fun h6 tk6 gl hg F6 N6 => ?_))
  have H6 := H5.put (n := Str.ofString "given") (v := gl) (by kernel_rfl)
  generalize setM m5 (Str.ofString "given") gl = m6 at H6 F6
  have hdp : (A₀.deeper (lawEnv L a cd)).depth + 4 < recursionLimit := by show A₀.depth + 1 + 4 < recursionLimit; omega
  refine wpAny_execs_cons (s_stuck (D := D5) F6 X N6 T hdp (by repeat (with_reducible first | exact Has.nil | refine Has.consM H6 (by repeat (with_reducible first | exact List.mem_cons_self | apply List.mem_cons_of_mem)) ?_)) (by omega) (by omega) (fun h7 tk7 Tw u1 u2 u3 u4 u5 F7 N7 oT => ?_))
  have H7 := H6.put (n := Str.ofString "stuck") (v := .ref Tw) (by kernel_rfl)
  generalize setM m6 (Str.ofString "stuck") (.ref Tw) = m7 at H7 F7
  refine wpAny_execs_cons (s_top (n := S.length) (lo := lone) F7 X N7 T hS1 (by repeat (with_reducible first | exact Has.nil | refine Has.consM H7 (by repeat (with_reducible first | exact List.mem_cons_self | apply List.mem_cons_of_mem)) ?_)) (fun h8 tk8 tt F8 N8 => ?_))
  obtain ⟨top, htop⟩ : ∃ top, top = top5 lone S := ⟨_, rfl⟩
  rw [show (if lone then S.length - 1 else S.length : Nat) = top from htop.symm] at F8
  have H8 := H7.put (n := Str.ofString "top") (v := .int (top : Int) tt) (by kernel_rfl)
  generalize setM m7 (Str.ofString "top") (.int (top : Int) tt) = m8 at H8 F8
  refine wpAny_execs_cons (r_source (b := b) (lo := lone) (sgs := S) F8 X N8 T hA₀ hh₀ hd' (by repeat (with_reducible first | exact Has.nil | refine Has.consM H8 (by repeat (with_reducible first | exact List.mem_cons_self | apply List.mem_cons_of_mem)) ?_)) (by omega) hsx (fun e => by rw [e] at hS1; simp at hS1) hg (fun h9 tk9 x dx k1 k2 k3 k4 k5 gv dt i it nv hg1 hsv F9 N9 R9 hi9 odx => ?_))
  have H9 := H8.put (n := Str.ofString "source") (v := .ref x) (by kernel_rfl)
  generalize setM m8 (Str.ofString "source") (.ref x) = m9 at H9 F9
  refine wpAny_execs_cons (s_at F9 X N9 T (fun h10 tk10 ta F10 N10 => ?_))
  have H10 := H9.put (n := Str.ofString "at") (v := .int ((0 : Nat) : Int) ta) (by kernel_rfl)
  have F10 : Fr base L h10 (setM m9 (Str.ofString "at") (.int ((0 : Nat) : Int) ta)) := F10
  generalize setM m9 (Str.ofString "at") (.int ((0 : Nat) : Int) ta) = m10 at H10 F10
  refine wpAny_execs_cons (s_deeds (ns := ns) F10 X N10 T hh (by repeat (with_reducible first | exact Has.nil | refine Has.consM H10 (by repeat (with_reducible first | exact List.mem_cons_self | apply List.mem_cons_of_mem)) ?_)) hL hI hlen (fun h11 tk11 De dv ds nd hdv hdl F11 N11 oDe => ?_))
  have H11 := H10.put (n := Str.ofString "deeds") (v := .ref De) (by kernel_rfl)
  generalize setM m10 (Str.ofString "deeds") (.ref De) = m11 at H11 F11
  have up : ∀ {q : Addr × Obj}, q ∈ news → q ∈ (De, W.listOf (List.toArray dv) nd) :: (Tw, wholeO (Str.ofString "bad escape (end of pattern)") gl D5.cps.toList ((D5.length : Int) - 1) u1 u2 u3 u4 u5) :: (P, W.listOf (List.toArray zs) nz) :: (Dg, W.listOf (List.toArray ys) ny) :: news := fun h => List.mem_cons_of_mem _ (List.mem_cons_of_mem _ (List.mem_cons_of_mem _ (List.mem_cons_of_mem _ h)))
  refine wpAny_execs_cons (l_loop (q := 0) (qt := ta) (i := i) (it := it) (nv := nv) (gl := gl) (top := top) (S := S) (ds := ds) (lone := lone) (b := b) (gv := gv) (D := D5) (new := (De, W.listOf (List.toArray dv) nd) :: (Tw, wholeO (Str.ofString "bad escape (end of pattern)") gl D5.cps.toList ((D5.length : Int) - 1) u1 u2 u3 u4 u5) :: (P, W.listOf (List.toArray zs) nz) :: (Dg, W.listOf (List.toArray ys) ny) :: news) F11 X (fun q hq => N11 q (mem_3 hq)) T ?_ hA₀ hh₀ hgu hd' hu (up hc) hoc (up ht2) htv (by omega) hD2.1 (by omega) hg1 (shows_given hg (by omega) h256) hg.same (hsv _ _ hg1.same hg.same) hsx (List.mem_cons_of_mem _ (List.mem_cons_of_mem _ (List.mem_cons_of_mem _ List.mem_cons_self))) hy (by omega) hS1 hSg htop (List.mem_cons_of_mem _ List.mem_cons_self) (up hDs) ho (List.mem_cons_of_mem _ (List.mem_cons_of_mem _ List.mem_cons_self)) hz hE hi9 R9 (Nat.zero_le _) List.mem_cons_self hdv hdl (by repeat (with_reducible first | exact Has.nil | refine Has.consM H11 (by repeat (with_reducible first | exact List.mem_cons_self | apply List.mem_cons_of_mem)) ?_)) (fun h12 tk12 m12 F12 => ?_))
  · intro q hq
    rcases List.mem_cons.mp hq with rfl | hq
    · exact Ne.symm (oDe (dx, _) (List.mem_cons_of_mem _ List.mem_cons_self))
    · exact odx q hq
  exact wpAny_execs_cons (r_ret fun tk => hQ h12 tk m12 F12)
end Mine
end

section
open PySem PySem.W PySem.Calls PySem.Spec PyProof.Rows
set_option maxRecDepth 100000
set_option maxHeartbeats 3000000
namespace Mine
theorem anew22 : True := by
  w_top off
  exact True.intro
open TI
local macro_rules | `(tactic| k_qdec) => `(tactic| decide +kernel)
theorem law5 : PySem.Challenge.rw_kq0016_05.Holds := hd (by
  w_strict (
    k_go0
    repeat ((fail_if_success (with_reducible show wpAny _ _ (execs (Stmt.Assign _ (Expr.BinOp _ _ _ _) _ :: Stmt.Assign _ (Expr.Call _ _ _ _) _ :: _) _) _ _ _)); first | (k_unfold; (try dsimp only)) | walk1 | (dsimp only; walk1))
    have KX₁ := ‹(hd.heap_1 _).In _›
    have T₁ := ‹Top hd.view_39 _ _ _ _ _›
    have F₁ := ‹Fr _ _ _ _›
    have N₁ := ‹News _ _ _ _›
    have hI₁ := ‹IntsAre _ _›
    refine law_mid (A₀ := callerA) F₁ KX₁ N₁ T₁ rfl rfl rfl (by decide) (by decide) (.cons (by rfl) (.cons (by rfl) (.cons (by rfl) (.cons (by rfl) .nil)))) (by repeat (first | exact List.mem_cons_self | apply List.mem_cons_of_mem)) (by assumption) (by repeat (first | exact List.mem_cons_self | apply List.mem_cons_of_mem)) (by repeat constructor) (by repeat (first | exact List.mem_cons_self | apply List.mem_cons_of_mem)) (by repeat constructor) (by assumption) hI₁ (by omega) ?hE ?hQ
    case hE =>
      show PassesOwn _ (callerA.deeper (envOfC _ _ _ _ _)) (envOfC _ _ _ _ _) _
      passes_own
    case hQ =>
      intro h' tk' m' F'
      k_steps))
end Mine
end

set_option maxRecDepth 100000 in
theorem PySem.Challenge.cw_kq0016_05_holds : PySem.Challenge.rw_kq0016_05.Holds := by
  exact Mine.law5
