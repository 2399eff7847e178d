import PyProof.Rows.All
import Wide.All
import OpenK.AllK
import Wide.FinOn
import PyProof.StrLawsOccR
import Wide.BytesRules
import KE.KSuper
import KE.KxIndex
import KE.KxTruthy
import KE.KTextTable
import KE.KFmtOwn
import KE.KTurns
import KE.KxText
import KE.LcTurns
import KE.KDictAny
import PyProof.Rows.FinIter
import KE.KSetDisp
import KE.KDictAnyTail
import KE.KxPercent
import KE.KxDecode
import KE.BytesMake
import KE.KLcTest
import ObjForm.LawKit
import KE.KIntText
import PyProof.Rows.StrClose3
import Lean
import PySem.Challenge.RW_kq0016_06
set_option Elab.async false
set_option compiler.extract_closed false
set_option linter.unusedVariables false
open PySem PySem.W PySem.Calls PySem.Spec PyProof.Rows

section
open PySem PySem.W PyProof.Rows
set_option maxRecDepth 100000
set_option maxHeartbeats 8000000
def hd.prog : Program := PySem.Challenge.rw_kq0016_06.row.toRowW.prog
/-- the text without what is loose in it -/
def hd.view_39 : Program := { hd.prog with main := { hd.prog.main with body := [0, 1, 4, 6, 7, 8, 9, 10].map (hd.prog.main.body.getD · default) } }
theorem hd.said : OpenLaw.wellSaid PySem.Challenge.rw_kq0016_06 = true := by kernel_rfl
local macro_rules | `(tactic| o_law) => `(tactic| refine holds_law hd.said fun said => ?_)
local macro_rules | `(tactic| o_head $H) => `(tactic| (refine holds_open (r := PySem.Challenge.rw_kq0016_06.row) (q := hd.view_39) (loose := [Str.ofString "PatternError", Str.ofString "error_constants", Str.ofString "Tokenizer"]) (Xt := fun s => xlAt hd.view_39 [] s && recOk (RowW.records PySem.Challenge.rw_kq0016_06.row.toRowW) s) (XP := XL hd.view_39 []) (Yf := Hook.obs $H) (Ya := Hook.val $H) (YP := Hook.says $H) (N := 4000) ?hl (Hook.of $H) (Hook.keeps $H) (fun s e => xl_of s (Bool.and_eq_true_iff.mp e).1) XL.keeps (by rfl) (by rfl) (by rfl) (fun s e => recFacts_of (Bool.and_eq_true_iff.mp e).2) (by rfl) (by first | assumption | decide +kernel) (by decide +kernel) ⟨rfl, rfl, rfl, rfl, rfl, by decide +kernel⟩ ?hw ?hc; (case hl => intro w; kernel_rfl)))
open_top hd for PySem.Challenge.rw_kq0016_06
end

section
open PySem PySem.W PySem.Calls PySem.Spec PyProof.Rows
set_option maxRecDepth 100000
set_option maxHeartbeats 4000000
namespace Mine
open TI

/-- an environment whose frame is L -/
structure EvAt (ev : Env) (L : Addr) : Prop where
  kind : ev.scope.kind = .function
  frame : ev.frame = some L
  globals : ev.globals = mainGlobals
  builtins : ev.builtins = builtinsNs
theorem EvAt.of {name : Str} {scope : Scope} {L a : Addr} {cd : Value} (h : scope.kind = .function) : EvAt (envOf name scope L a cd) L := ⟨h, rfl, rfl, rfl⟩
theorem EvAt.ofC {name : Str} {scope : Scope} {L a : Addr} {cd : Value} (h : scope.kind = .function) : EvAt (envOfC name scope L a cd) L := ⟨h, rfl, rfl, rfl⟩
section frames
variable {prog : Program} {w : World} {A : Around} {s : Shared} {K : Frag} {L : Addr} {base : Heap} {m mg mb : Str → Option Value} {news frs : List (Addr × Obj)} {p : Program} {loose : List Str} {mean : ExcName → Option Value} {l : List Env}
  {R : Result → Shared → Prop} {name qual : Str} {params : Arguments} {body : List Stmt} {scope : Scope} {dV kV doc pm cdv ct oc : Value} {an od : Option Addr} {osl : Array (Option Value)} {f : Addr} {args : Args} {binds : List (Str × Value)}
  {cn : Str} {cs : Scope} {a : Addr} {ccd : Value}

theorem caller_of {h : Heap} (F : Fr base L h m) : ∃ oL, h.get? L = some oL ∧ Caller base L m oL := by
  obtain ⟨oL, es, ep, hL, hLd, hLk, hLf⟩ := F.ns
  exact ⟨oL, hL, fun h' sl e => ⟨_, es, ep, e, hLd, hLk, hLf⟩, ⟨es, ep, hLd⟩, F.above⟩

/-- a call of a def of the text: its frame stands on the law's own ground, the caller's frame is a part of the ledger -/
theorem enterV {ev : Env} (F : Fr base L s.heap m) (X : K.In base) (N : News base L s.heap news) (T : Top p loose mean mg mb base) (Fs : Frs l frs)
    (ho : K.lookup f = some ⟨oc, od, .func (fnOf name qual params body scope dV kV doc pm an cdv ct), osl⟩) (hcd : codeIn K cdv qual = true) (hroom : A.depth < recursionLimit)
    (hbind : BindsTo s (fnOf name qual params body scope dV kV doc pm an cdv ct) args binds) (hloc : ∀ y ∈ binds, scope.names.lookup y.1 = some .local)
    (h : ∀ oL L' h₁, Caller base L m oL → Frs (ev :: l) ((L, oL) :: frs) → Fr base L' h₁ (fun y => binds.reverse.lookup y) → News base L' h₁ ((L, oL) :: news) → (∀ q ∈ news, q.1 ≠ L) → (∀ q ∈ (L, oL) :: news, q.1 < L') →
      wpAny (model prog w) (A.deeper (envOf qual scope L' f cdv)) (execs body (envOf qual scope L' f cdv))
        (fun fl s' => R (.ok (.ret (match fl with | .ret v => v | _ => .none))) s')
        (fun e s' => wpAny (model prog w) (A.deeper (envOf qual scope L' f cdv)) (leaving (envOf qual scope L' f cdv) e) (fun _ s'' => R (.error e) s'') (fun e' s'' => R (.error e') s'') s')
        { s with heap := h₁, toks := s.toks + binds.length })
    (hev : EvAt ev L) (hco : scope.isCoroutine = false) (hgen : scope.isGenerator = false) (hk : scope.kind = .function)
    (hcell : ∀ x ∈ scope.names, x.2 ≠ .cell) : codeAny (model prog w) A (.call (.ref f) args) R s := by
  have X' := X.keeps F.keep
  obtain ⟨oL, hL, C⟩ := caller_of F
  refine codeAny_call_def (fd := fnOf name qual params body scope dV kV doc pm an cdv ct) (body := body) (binds := binds) hroom (X' _ _ ho) rfl (T.nolimit.keeps F.keep) (codeRec_of X' hcd) rfl hbind hcell hloc (fun h₁ hns hk₁ => ?_) hco hgen hk
  have hkind : (ev).scope.kind ≠ .module := by
    rw [hev.kind]; decide
  have hlt : L < s.heap.objs.size := Heap.lt_size hL
  refine h oL s.heap.objs.size h₁ C ⟨hkind, hev.frame, C.dict, Fs⟩ ⟨hns, fun b o e => hk₁ b o (F.keep b o e), Nat.le_of_lt (Nat.lt_of_le_of_lt F.above hlt)⟩ ?_ (fun q hq => (N q hq).2.1) ?_
  · intro q hq
    rcases List.mem_cons.mp hq with rfl | hq
    · exact ⟨hk₁ _ _ hL, Nat.ne_of_lt hlt, Heap.get?_none_of_le F.above⟩
    · exact ⟨hk₁ _ _ (N q hq).1, Nat.ne_of_lt (Heap.lt_size (N q hq).1), (N q hq).2.2⟩
  · intro q hq
    rcases List.mem_cons.mp hq with rfl | hq
    · exact hlt
    · exact Heap.lt_size (N q hq).1

theorem enterM (F : Fr base L s.heap m) (X : K.In base) (N : News base L s.heap news) (T : Top p loose mean mg mb base) (Fs : Frs l frs)
    (ho : K.lookup f = some ⟨oc, od, .func (fnOf name qual params body scope dV kV doc pm an cdv ct), osl⟩) (hcd : codeIn K cdv qual = true) (hroom : A.depth < recursionLimit)
    (hbind : BindsTo s (fnOf name qual params body scope dV kV doc pm an cdv ct) args binds) (hloc : ∀ y ∈ binds, scope.names.lookup y.1 = some .local)
    (h : ∀ oL L' h₁, Caller base L m oL → Frs (envOf cn cs L a ccd :: l) ((L, oL) :: frs) → Fr base L' h₁ (fun y => binds.reverse.lookup y) → News base L' h₁ ((L, oL) :: news) → (∀ q ∈ news, q.1 ≠ L) → (∀ q ∈ (L, oL) :: news, q.1 < L') →
      wpAny (model prog w) (A.deeper (envOf qual scope L' f cdv)) (execs body (envOf qual scope L' f cdv))
        (fun fl s' => R (.ok (.ret (match fl with | .ret v => v | _ => .none))) s')
        (fun e s' => wpAny (model prog w) (A.deeper (envOf qual scope L' f cdv)) (leaving (envOf qual scope L' f cdv) e) (fun _ s'' => R (.error e) s'') (fun e' s'' => R (.error e') s'') s')
        { s with heap := h₁, toks := s.toks + binds.length })
    (hck : cs.kind = .function) (hco : scope.isCoroutine = false) (hgen : scope.isGenerator = false) (hk : scope.kind = .function)
    (hcell : ∀ x ∈ scope.names, x.2 ≠ .cell) : codeAny (model prog w) A (.call (.ref f) args) R s :=
  enterV F X N T Fs ho hcd hroom hbind hloc h (EvAt.of hck) hco hgen hk hcell

theorem backM {L' : Addr} {m' : Str → Option Value} {oL : Obj} {sl : Array (Option Value)} {h : Heap} {news' : List (Addr × Obj)} (C : Caller base L m oL) (F' : Fr base L' h m') (N' : News base L' h news') (hL : (L, { oL with slots := sl }) ∈ news') : Fr base L h m :=
  ⟨C.ns _ sl (N' _ hL).1, F'.keep, C.above⟩
theorem backN {L' : Addr} {h : Heap} {news' sub : List (Addr × Obj)} (N' : News base L' h news') (hs : ∀ q ∈ sub, q ∈ news') (hne : ∀ q ∈ sub, q.1 ≠ L) : News base L h sub :=
  fun q hq => ⟨(N' q (hs q hq)).1, hne q hq, (N' q (hs q hq)).2.2⟩
end frames

/-! an exception object in the ledger -/
structure ExcAt (oe oT : Obj) (cls : Value) (dct : Option Addr) (a0 c2 : Value) (T : Addr) (fl : Value) : Prop where
  cls : oe.cls = cls
  dict : oe.dict = dct
  data : ∃ vs, oe.data = .fields vs ∧ vs[0]? = some a0 ∧ vs[1]? = some (.ref T) ∧ vs[2]? = some c2
  tb : ∃ ts, oT.data = .fields ts ∧ ts[3]? = some fl

section exc
variable {prog : Program} {w : World} {M : Model} {A : Around} {E : Value → Shared → Prop} {s : Shared} {L a e T : Addr} {cls a0 c2 : Value} {dct : Option Addr} {base h : Heap} {m : Str → Option Value} {new frs : List (Addr × Obj)} {l : List Env} {name : Str} {scope : Scope} {cd : Value} {oe oT : Obj} {Q : Unit → Shared → Prop}

theorem sameUp_get {h h' : Heap} : ∀ {frs : List (Addr × Obj)}, (∀ q ∈ frs, h.get? q.1 = some q.2) → (∀ b o, h.get? b = some o → ∃ sl, h'.get? b = some { o with slots := sl }) → ∃ frs', SameUp frs frs' ∧ ∀ q ∈ frs', h'.get? q.1 = some q.2 :=
  fun h1 h2 => sameUp_of fun q hq => h2 _ _ (h1 q hq)

/-- the traceback's entry is made and the frames are looked at -/
theorem entryM {ev : Env} {head : Value} {hadNext : Bool} {vs : Array Value} (hA : A.frames = some (ev :: l)) (hk : EvAt ev L) (Fs : Frs l frs)
    (F : Fr base L s.heap m) (N : News base L s.heap ((e, oe) :: (new ++ frs))) (hap : ∀ q ∈ new, q.1 ≠ e ∧ q.1 ∉ frs.map (·.1)) (hef : e ∉ frs.map (·.1))
    (hd : oe.data = .fields vs) (hsz : 1 < vs.size)
    (k : ∀ h' frs' T oT, SameUp frs frs' → Frs l frs' → Fr base L h' m → News base L h' ((T, oT) :: (e, Obj.mapFields (·.setIfInBounds 1 (.ref T)) oe) :: (new ++ frs')) → (∀ q ∈ (e, oe) :: (new ++ frs), q.1 < T) →
      (∃ ts, oT.data = .fields ts ∧ ts[3]? = some (rawInt L)) → Q () { s with heap := h' }) :
    wpAny M A (do let f ← frameOf (ev); let pl ← entryPlaceOf L hadNext; let b ← EntryCells.newEntry head f .none (rawInt L) .none pl; setField (.ref e) 1 b) Q E s := by
  have hN : ∀ q ∈ frs, q ∈ (e, oe) :: (new ++ frs) := fun q hq => List.mem_cons_of_mem _ (List.mem_append_right _ hq)
  obtain ⟨oL, esL, epL, hL, hLd, hLk, hLf⟩ := F.ns
  have hkind : ev.scope.kind ≠ .module := by
    rw [hk.kind]; decide
  have hbL : base.get? L = none := Heap.get?_none_of_le F.above
  have hff : s.heap.FunFrames base (ev :: l) := Heap.FunFrames.cons hkind hk.frame ⟨oL, esL, epL, hL, hLd, hLk, hLf⟩ hbL (Fs.fun fun q hq => ⟨(N q (hN q hq)).1, (N q (hN q hq)).2.2⟩)
  have hfa : (ev :: l).filterMap (·.frame) = L :: frs.map (·.1) := by rw [List.filterMap_cons, hk.frame]; exact congrArg (List.cons L) (by have z := frames_are (name := Str.empty) (scope := default) (L := L) (a := 0) (cd := .none) Fs; exact (List.cons.inj z).2)
  refine wpAny_bind (wpAny_frameOf_fun hA hff hk.frame fun h₁ hs₁ => ?_)
  refine wpAny_bind (wpAny_entryPlaceOf fun pl hpl => ?_)
  unfold EntryCells.newEntry newFields
  refine wpAny_bind (wpAny_newObj_type ?_ (hpl.sizeOk5 _ _ _ _ _))
  obtain ⟨z1, z2, z3⟩ := hs₁
  rw [hfa] at z2
  have Nex := N _ (List.mem_cons_self)
  have heL : e ∉ L :: frs.map (·.1) := fun hm => by
    rcases List.mem_cons.mp hm with q | q
    · exact Nex.2.1 q
    · exact hef q
  have he₁ : h₁.get? e = some oe := (z2 e heL).trans Nex.1
  generalize hO : ({ cls := .type "traceback", dict := none, data := .fields ([head, .ref L, .none, rawInt L, .none] ++ (if pl.isEmpty then List.replicate 6 Value.none else pl)).toArray } : Obj) = O
  have hOf : O.isFreed = false := by rw [← hO]; rfl
  have he₂ := Heap.get?_push_of_some (h := h₁) O he₁
  refine wpAny_setField he₂ hd hsz ?_
  have hTe : h₁.objs.size ≠ e := Nat.ne_of_gt (Heap.lt_size he₁)
  have hd₃ := Obj.data_mapFields hd (·.setIfInBounds 1 (Value.ref h₁.objs.size))
  have he₃ := Heap.get?_update_self (Obj.mapFields (·.setIfInBounds 1 (Value.ref h₁.objs.size))) he₂ (Obj.isFreed_of_fields hd₃)
  have hT₃ := (Heap.get?_update_other (h₁.push O) (Obj.mapFields (·.setIfInBounds 1 (Value.ref h₁.objs.size))) (Ne.symm hTe)).trans (Heap.get?_push_size h₁ hOf)
  have keep : ∀ b o, b ≠ e → h₁.get? b = some o → ((h₁.push O).update e (Obj.mapFields (·.setIfInBounds 1 (Value.ref h₁.objs.size)))).get? b = some o := fun b o hbe hb => by
    rw [Heap.get?_update_other _ _ (Ne.symm hbe)]
    exact Heap.get?_push_of_some _ hb
  obtain ⟨frs', SU, hfr'⟩ := sameUp_get (h' := h₁) (fun q hq => (N q (hN q hq)).1) z3
  have keep0 : ∀ b o, b ∉ L :: frs.map (·.1) → b ≠ e → s.heap.get? b = some o → ((h₁.push O).update e (Obj.mapFields (·.setIfInBounds 1 (Value.ref h₁.objs.size)))).get? b = some o := fun b o hb hbe ho => keep b o hbe ((z2 b hb).trans ho)
  have hLe : L ≠ e := fun q => Nex.2.1 q.symm
  obtain ⟨slL, hsl⟩ := z3 L oL hL
  have hbase : ∀ b o, base.get? b = some o → b ∉ L :: frs.map (·.1) := fun b o eb hm => by
    rcases List.mem_cons.mp hm with rfl | hm
    · rw [hbL] at eb; cases eb
    · obtain ⟨q, hq, rfl⟩ := List.mem_map.mp hm
      rw [(N q (hN q hq)).2.2] at eb; cases eb
  refine k _ frs' h₁.objs.size O SU (Fs.up SU) ⟨⟨_, esL, epL, keep _ _ hLe hsl, hLd, hLk, hLf⟩, fun b o eb => keep0 b o (hbase b o eb) (fun q => by rw [q, Nex.2.2] at eb; cases eb) (F.keep b o eb), F.above⟩ ?_ ?_ ?_
  · intro q hq
    rcases List.mem_cons.mp hq with rfl | hq
    · refine ⟨hT₃, fun q => ?_, Heap.get?_none_of_le (by rw [z1]; exact Nat.le_of_lt (Nat.lt_of_le_of_lt F.above (Heap.lt_size hL)))⟩
      have := Heap.lt_size hL
      rw [← z1] at this
      exact absurd q (Nat.ne_of_gt this)
    · rcases List.mem_cons.mp hq with rfl | hq
      · exact ⟨he₃, Nex.2⟩
      · rcases List.mem_append.mp hq with hq | hq
        · have Nq := N q (List.mem_cons_of_mem _ (List.mem_append_left _ hq))
          exact ⟨keep0 _ _ (fun hm => by
            rcases List.mem_cons.mp hm with z | z
            · exact Nq.2.1 z
            · exact (hap q hq).2 z) (hap q hq).1 Nq.1, Nq.2⟩
        · obtain ⟨q', hq', eq'⟩ := SU.fwd q hq
          have Nq := N q' (hN q' hq')
          refine ⟨keep _ _ (fun z => ?_) (hfr' q hq), by rw [eq']; exact Nq.2.1, by rw [eq']; exact Nq.2.2⟩
          exact hef (by rw [← z, eq']; exact List.mem_map_of_mem hq')
  · intro q hq
    have := Heap.lt_size (N q hq).1
    rw [z1]; exact this
  · subst hO
    exact ⟨_, rfl, by rcases hpl with rfl | ⟨_, _, _, _, _, _, _, rfl⟩ <;> simp⟩

theorem mapFields_vs {vs : Array Value} {i : Nat} {x : Value} (hd : oe.data = .fields vs) : (Obj.mapFields (·.setIfInBounds i x) oe).data = .fields (vs.setIfInBounds i x) := Obj.data_mapFields hd _

theorem ExcAt.of_new {vs : Array Value} (hc : oe.cls = cls) (hdct : oe.dict = dct) (hd : oe.data = .fields vs) (h0 : vs[0]? = some a0) (h2 : vs[2]? = some c2) (hsz : 1 < vs.size) {fl : Value} (ht : ∃ ts, oT.data = .fields ts ∧ ts[3]? = some fl) :
    ExcAt (Obj.mapFields (·.setIfInBounds 1 (.ref T)) oe) oT cls dct a0 c2 T fl := by
  refine ⟨?_, ?_, ⟨_, mapFields_vs hd, ?_, ?_, ?_⟩, ht⟩
  · rw [← hc]; exact Obj.cls_mapFields _ _
  · rw [← hdct]; cases oe with | mk c d dt sl => cases dt <;> rfl
  · rw [Array.getElem?_setIfInBounds_ne (by decide)]; exact h0
  · simp [hsz]
  · rw [Array.getElem?_setIfInBounds_ne (by decide)]; exact h2

/-- the first frame that an exception passes -/
theorem noteE1 {ev : Env} {vs : Array Value} (hA : A.frames = some (ev :: l)) (hk : EvAt ev L) (Fs : Frs l frs)
    (F : Fr base L s.heap m) (N : News base L s.heap ((e, oe) :: (new ++ frs))) (hap : ∀ q ∈ new, q.1 ≠ e ∧ q.1 ∉ frs.map (·.1)) (hef : e ∉ frs.map (·.1))
    (hc : oe.cls = cls) (hdct : oe.dict = dct) (hd : oe.data = .fields vs) (h0 : vs[0]? = some a0) (h1 : vs[1]? = some .none) (h2 : vs[2]? = some c2)
    (k : ∀ h' frs' T oT oe', SameUp frs frs' → Frs l frs' → Fr base L h' m → News base L h' ((T, oT) :: (e, oe') :: (new ++ frs')) → (∀ q ∈ (e, oe) :: (new ++ frs), q.1 < T) → ExcAt oe' oT cls dct a0 c2 T (rawInt L) → Q () { s with heap := h' }) :
    wpAny M A (noteFrame (.ref e) (ev)) Q E s := by
  have hsz : 1 < vs.size := (Array.getElem?_eq_some_iff.mp h1).1
  unfold noteFrame
  simp only [hk.frame]
  refine wpAny_bind (wpAny_field (N _ List.mem_cons_self).1 hd h1 ?_)
  rw [if_neg (by decide)]
  exact entryM hA hk Fs F N hap hef hd hsz fun h' frs' T oT SU Fs' F' N' lt ht => k h' frs' T oT _ SU Fs' F' N' lt (ExcAt.of_new hc hdct hd h0 h2 hsz ht)

/-- a further frame -/
theorem noteE2 {ev : Env} (hA : A.frames = some (ev :: l)) (hk : EvAt ev L) (Fs : Frs l frs)
    (F : Fr base L s.heap m) (N : News base L s.heap ((T, oT) :: (e, oe) :: (new ++ frs))) (hap : ∀ q ∈ new, q.1 ≠ e ∧ q.1 ∉ frs.map (·.1)) (hef : e ∉ frs.map (·.1))
    (hTe : T ≠ e) (hTn : ∀ q ∈ new, q.1 ≠ T) (hTf : T ∉ frs.map (·.1)) (X : ExcAt oe oT cls dct a0 c2 T .none)
    (k : ∀ h' frs' T' oT' oe', SameUp frs frs' → Frs l frs' → Fr base L h' m → News base L h' ((T', oT') :: (e, oe') :: (new ++ frs')) → (∀ q ∈ (e, oe) :: (new ++ frs), q.1 < T') → ExcAt oe' oT' cls dct a0 c2 T' (rawInt L) → Q () { s with heap := h' }) :
    wpAny M A (noteFrame (.ref e) (ev)) Q E s := by
  obtain ⟨hc, hdct, ⟨vs, hd, h0, h1, h2⟩, ⟨ts, hts, h3⟩⟩ := X
  have hsz : 1 < vs.size := (Array.getElem?_eq_some_iff.mp h1).1
  have NT := N (T, oT) List.mem_cons_self
  unfold noteFrame
  simp only [hk.frame]
  refine wpAny_bind (wpAny_field (N _ (List.mem_cons_of_mem _ List.mem_cons_self)).1 hd h1 ?_)
  rw [if_pos (show (Value.ref T != Value.none) = true from by simp)]
  refine wpAny_bind (wpAny_field NT.1 hts h3 ?_)
  rw [if_neg (show ¬ ((Value.none == rawInt L) = true) from by simp [rawInt])]
  refine wpAny_bind (wpAny_setField NT.1 hts (Array.getElem?_eq_some_iff.mp h3).1 ?_)
  have other : ∀ b, b ≠ T → (s.heap.update T (Obj.mapFields (·.setIfInBounds 3 Value.none))).get? b = s.heap.get? b := fun b hb => Heap.get?_update_other _ _ (Ne.symm hb)
  obtain ⟨oL, esL, epL, hL, hLd, hLk, hLf⟩ := F.ns
  have F' : Fr base L (s.heap.update T (Obj.mapFields (·.setIfInBounds 3 Value.none))) m :=
    ⟨⟨oL, esL, epL, (other L (Ne.symm NT.2.1)).trans hL, hLd, hLk, hLf⟩, fun b o hb => (other b fun q => by rw [q, NT.2.2] at hb; cases hb).trans (F.keep b o hb), F.above⟩
  have N' : News base L (s.heap.update T (Obj.mapFields (·.setIfInBounds 3 Value.none))) ((e, oe) :: (new ++ frs)) := fun q hq => by
    have Nq := N q (List.mem_cons_of_mem _ hq)
    refine ⟨(other _ fun z => ?_).trans Nq.1, Nq.2⟩
    rcases List.mem_cons.mp hq with rfl | hq
    · exact hTe z.symm
    · rcases List.mem_append.mp hq with hq | hq
      · exact hTn q hq z
      · exact hTf (by rw [← z]; exact List.mem_map_of_mem hq)
  exact entryM (s := { s with heap := s.heap.update T (Obj.mapFields (·.setIfInBounds 3 Value.none)) }) hA hk Fs F' N' hap hef hd hsz fun h' frs' T' oT' SU Fs' F'' N'' lt ht => k h' frs' T' oT' _ SU Fs' F'' N'' lt (ExcAt.of_new hc hdct hd h0 h2 hsz ht)

theorem flightE {fl : Value} {led : List (Addr × Obj)} (F : Fr base L s.heap m) (N : News base L s.heap ((T, oT) :: (e, oe) :: led)) (hTe : T ≠ e) (hTl : ∀ q ∈ led, q.1 ≠ T) (X : ExcAt oe oT cls dct a0 c2 T fl)
    (k : ∀ h' oT', Fr base L h' m → News base L h' ((T, oT') :: (e, oe) :: led) → ExcAt oe oT' cls dct a0 c2 T .none → Q () { s with heap := h' }) : wpAny M A (setFlight (.ref e) none) Q E s := by
  obtain ⟨hc, hdct, ⟨vs, hd, h0, h1, h2⟩, ⟨ts, hts, h3⟩⟩ := X
  have NT := N (T, oT) List.mem_cons_self
  have hsz : 3 < ts.size := (Array.getElem?_eq_some_iff.mp h3).1
  have other : ∀ b, b ≠ T → (s.heap.update T (Obj.mapFields (·.setIfInBounds 3 Value.none))).get? b = s.heap.get? b := fun b hb => Heap.get?_update_other _ _ (Ne.symm hb)
  obtain ⟨oL, esL, epL, hL, hLd, hLk, hLf⟩ := F.ns
  refine wpAny_setFlight_none (N _ (List.mem_cons_of_mem _ List.mem_cons_self)).1 hd h1 NT.1 hts hsz (k _ (Obj.mapFields (·.setIfInBounds 3 Value.none) oT) ⟨⟨oL, esL, epL, (other L (Ne.symm NT.2.1)).trans hL, hLd, hLk, hLf⟩, fun b o hb => (other b fun q => by rw [q, NT.2.2] at hb; cases hb).trans (F.keep b o hb), F.above⟩ ?_ ⟨hc, hdct, ⟨vs, hd, h0, h1, h2⟩, ⟨_, Obj.data_mapFields hts _, by simp [hsz]⟩⟩)
  intro q hq
  rcases List.mem_cons.mp hq with rfl | hq
  · exact ⟨Heap.get?_update_self _ NT.1 (Obj.isFreed_of_fields (Obj.data_mapFields hts _)), NT.2⟩
  · have Nq := N q (List.mem_cons_of_mem _ hq)
    refine ⟨(other _ fun z => ?_).trans Nq.1, Nq.2⟩
    rcases List.mem_cons.mp hq with rfl | hq
    · exact hTe z.symm
    · exact hTl q hq z

theorem lt_apart {led : List (Addr × Obj)} {b : Addr} (h : ∀ q ∈ led, q.1 < b) : ∀ q ∈ led, q.1 ≠ b := fun q hq => Nat.ne_of_lt (h q hq)
theorem sameUp_map : ∀ {a b : List (Addr × Obj)}, SameUp a b → b.map (·.1) = a.map (·.1)
  | [], [], _ => rfl
  | p :: ps, q :: qs, h => by
    obtain ⟨h1, _, h2⟩ := h
    simp only [List.map_cons, h1, sameUp_map h2]
  | [], _ :: _, h => h.elim
  | _ :: _, [], h => h.elim

/-- an exception leaves the frame in which it was raised -/
theorem leaveE1 {vs : Array Value} (hA : A.frames = some (envOf name scope L a cd :: l)) (hk : scope.kind = .function) (Fs : Frs l frs)
    (F : Fr base L s.heap m) (N : News base L s.heap ((e, oe) :: (new ++ frs))) (hap : ∀ q ∈ new, q.1 ≠ e ∧ q.1 ∉ frs.map (·.1)) (hef : e ∉ frs.map (·.1))
    (hc : oe.cls = cls) (hdct : oe.dict = dct) (hd : oe.data = .fields vs) (h0 : vs[0]? = some a0) (h1 : vs[1]? = some .none) (h2 : vs[2]? = some c2)
    (k : ∀ h' frs' T oT oe', SameUp frs frs' → Frs l frs' → Fr base L h' m → News base L h' ((T, oT) :: (e, oe') :: (new ++ frs')) → (∀ q ∈ (e, oe) :: (new ++ frs), q.1 < T) → ExcAt oe' oT cls dct a0 c2 T .none → Q () { s with heap := h' }) :
    wpAny M A (leaving (envOf name scope L a cd) (.ref e)) Q E s := by
  unfold leaving
  refine wpAny_bind (noteE1 hA (EvAt.of hk) Fs F N hap hef hc hdct hd h0 h1 h2 fun h' frs' T oT oe' SU Fs' F' N' lt X => ?_)
  refine flightE (s := { s with heap := h' }) F' N' (Ne.symm (lt_apart lt _ List.mem_cons_self)) (fun q hq => ?_) X fun h'' oT' F'' N'' X' => k h'' frs' T oT' oe' SU Fs' F'' N'' lt X'
  rcases List.mem_append.mp hq with hq | hq
  · exact lt_apart lt _ (List.mem_cons_of_mem _ (List.mem_append_left _ hq))
  · obtain ⟨q', hq', eq'⟩ := SU.fwd q hq
    rw [eq']
    exact lt_apart lt _ (List.mem_cons_of_mem _ (List.mem_append_right _ hq'))

/-- an exception that a callee has raised leaves the frame -/
theorem leaveE2 (hA : A.frames = some (envOf name scope L a cd :: l)) (hk : scope.kind = .function) (Fs : Frs l frs)
    (F : Fr base L s.heap m) (N : News base L s.heap ((T, oT) :: (e, oe) :: (new ++ frs))) (hap : ∀ q ∈ new, q.1 ≠ e ∧ q.1 ∉ frs.map (·.1)) (hef : e ∉ frs.map (·.1))
    (hTe : T ≠ e) (hTn : ∀ q ∈ new, q.1 ≠ T) (hTf : T ∉ frs.map (·.1)) (X : ExcAt oe oT cls dct a0 c2 T .none)
    (k : ∀ h' frs' T oT oe', SameUp frs frs' → Frs l frs' → Fr base L h' m → News base L h' ((T, oT) :: (e, oe') :: (new ++ frs')) → (∀ q ∈ (e, oe) :: (new ++ frs), q.1 < T) → ExcAt oe' oT cls dct a0 c2 T .none → Q () { s with heap := h' }) :
    wpAny M A (leaving (envOf name scope L a cd) (.ref e)) Q E s := by
  unfold leaving
  refine wpAny_bind (noteE2 hA (EvAt.of hk) Fs F N hap hef hTe hTn hTf X fun h' frs' T oT oe' SU Fs' F' N' lt X => ?_)
  refine flightE (s := { s with heap := h' }) F' N' (Ne.symm (lt_apart lt _ List.mem_cons_self)) (fun q hq => ?_) X fun h'' oT' F'' N'' X' => k h'' frs' T oT' oe' SU Fs' F'' N'' lt X'
  rcases List.mem_append.mp hq with hq | hq
  · exact lt_apart lt _ (List.mem_cons_of_mem _ (List.mem_append_left _ hq))
  · obtain ⟨q', hq', eq'⟩ := SU.fwd q hq
    rw [eq']
    exact lt_apart lt _ (List.mem_cons_of_mem _ (List.mem_append_right _ hq'))
end exc

section caught
variable {prog : Program} {w : World} {A₀ : Around} {E : Value → Shared → Prop} {s' : Shared} {base h : Heap} {L a e : Addr} {m mg mb : Str → Option Value} {name : Str} {scope : Scope} {cd : Value} {new frs : List (Addr × Obj)} {l : List Env}
  {b₀ : Stmt} {suite : List Stmt} {pos np : Pos} {rest : List ExceptHandler} {Q : Flow → Shared → Prop} {K : Frag} {p : Program} {loose : List Str} {mean : ExcName → Option Value} {x : Str} {X T' : String}

/-- an exception of the interpreter's own, raised in this frame and taken by this frame's own clause -/
theorem caughtN (hx : Heap.NewExc h s'.heap e X) (hA : A₀.frames = some l) (Fs : Frs l frs) (F : Fr base L h m) (N : News base L h (new ++ frs)) (hap : ∀ q ∈ new, q.1 ∉ frs.map (·.1)) (KX : K.In base) (T : Top p loose mean mg mb base)
    (ex : nsIn K mainGlobals x = some none) (hv : bootBuiltins x = some (.type T')) (hn' : x ≠ "__name__")
    (hexc : isSubtype (.type T') (.type "BaseException") = pure true) (hnt : isSubtype (.type ((Manifest.find? T').elim "type" fun y => y.metatype)) (.type "tuple") = pure false) (hsub : isSubtype (.type X) (.type T') = pure true)
    (k : ∀ h' frs' Tb oT oe a0, SameUp frs frs' → Frs l frs' → Fr base L h' m → News base L h' ((Tb, oT) :: (e, oe) :: (new ++ frs')) → (∀ q ∈ new ++ frs, q.1 ≠ e) → (∀ q ∈ (e, oe) :: (new ++ frs), q.1 ≠ Tb) → ExcAt oe oT (.type X) oe.dict a0 .none Tb .none →
      wpAny (model prog w) ((A₀.deeper (envOf name scope L a cd)).mark (some (.ref e))) (execs (b₀ :: suite) (envOf name scope L a cd)) Q E { s' with heap := h' })
    (hk : scope.kind = .function := by rfl) (hx' : (envOf name scope L a cd).kindOf x = some .globalImplicit := by rfl) (hdb : (x == ("__debug__" : Str)) = false := by decide)
    (hE : PassesOwnAt (model prog w) ((A₀.deeper (envOf name scope L a cd)).mark (some (.ref e))) (A₀.deeper (envOf name scope L a cd)) (envOf name scope L a cd) E := by passes_own) :
    wpAny (model prog w) (A₀.deeper (envOf name scope L a cd)) (noteFrame (.ref e) (envOf name scope L a cd))
      (fun _ s₂ => wpAny (model prog w) (A₀.deeper (envOf name scope L a cd)) (setFlight (.ref e) none) (fun _ s₃ =>
        wpAny (model prog w) (A₀.deeper (envOf name scope L a cd)) (handleBy (.ref e) (envOf name scope L a cd) (.ExceptHandler (some (.Name x np)) none (b₀ :: suite) pos :: rest)) Q E s₃) E s₂) E s' := by
  obtain ⟨ob, tp, he, hcls, hd⟩ := hx.there
  have hne : ∀ q ∈ new ++ frs, q.1 ≠ e := fun q hq z => by have := (N q hq).1; rw [z, hx.new] at this; cases this
  have hLe : e ≠ L := fun z => by
    obtain ⟨oL, _, _, hL, _⟩ := F.ns
    rw [← z, hx.new] at hL; cases hL
  have hbe : base.get? e = none := none_of F.keep hx.new
  have N' : News base L s'.heap ((e, ob) :: (new ++ frs)) := fun q hq => by
    rcases List.mem_cons.mp hq with rfl | hq
    · exact ⟨he, hLe, hbe⟩
    · exact ⟨hx.keeps _ _ (N q hq).1, (N q hq).2⟩
  have F' : Fr base L s'.heap m := F.keeps hx.keeps
  have hef : e ∉ frs.map (·.1) := fun hm => by
    obtain ⟨q, hq, z⟩ := List.mem_map.mp hm
    exact hne q (List.mem_append_right _ hq) z
  refine noteE1 (Around.frames_deeper hA) (EvAt.of hk) Fs F' N' (fun q hq => ⟨hne q (List.mem_append_left _ hq), hap q hq⟩) hef hcls rfl hd rfl rfl rfl fun h₄ frs₄ Tb oT oe SU Fs₄ F₄ N₄ lt X₄ => ?_
  have ltT : ∀ q ∈ (new ++ frs₄), q.1 ≠ Tb := fun q hq => by
    rcases List.mem_append.mp hq with hq | hq
    · exact lt_apart lt _ (List.mem_cons_of_mem _ (List.mem_append_left _ hq))
    · obtain ⟨q', hq', eq'⟩ := SU.fwd q hq
      rw [eq']
      exact lt_apart lt _ (List.mem_cons_of_mem _ (List.mem_append_right _ hq'))
  have hTe : Tb ≠ e := Ne.symm (lt_apart lt _ List.mem_cons_self)
  refine flightE (s := { s' with heap := h₄ }) F₄ N₄ hTe ltT X₄ fun h₅ oT₅ F₅ N₅ X₅ => ?_
  refine wpAny_handleBy_builtin (X := X) (T := T') (b := true) hexc hnt hsub (wpAny_passesOwnAt hE (name_B F₅ KX (topRead_of T) ex hv hn' ⟨rfl, ⟨oe, (N₅ _ (List.mem_cons_of_mem _ List.mem_cons_self)).1, X₅.cls⟩, ?_⟩ hk hx' hdb))
  rw [if_pos rfl]
  refine flightE (s := { s' with heap := h₅ }) F₅ N₅ hTe ltT X₅ fun h₆ oT₆ F₆ N₆ X₆ => ?_
  exact wpAny_passesOwnAt hE (k h₆ frs₄ Tb oT₆ oe tp SU Fs₄ F₆ N₆ hne (fun q hq => by
    rcases List.mem_cons.mp hq with rfl | hq
    · exact Ne.symm hTe
    · exact lt_apart lt _ (List.mem_cons_of_mem _ hq)) ⟨X₆.cls, rfl, X₆.data, X₆.tb⟩)
end caught
end Mine
end

section
open PySem PySem.W PySem.Calls PySem.Spec PyProof.Rows
set_option maxRecDepth 100000
set_option maxHeartbeats 4000000
namespace Mine
open TI
/-- an exception object of an own class -/
abbrev peO (C dx : Addr) (a0 tb c2 c3 b4 c5 : Value) : Obj := { cls := .ref C, dict := some dx, data := .fields #[a0, tb, c2, c3, b4, c5] }

section
variable {prog : Program} {w : World} {A : Around} {E : Value → Shared → Prop} {s : Shared} {env : Env}
variable {nm q : Str} {C N : Addr} {bs bm : List Value} {hdct : Bool} {sn : List Str} {sub : List Value} {ab : Bool} {col : Option Bool} {dd : Option Addr} {k0 k1 k2 k3 k5 : Option Value} {newId : String}

theorem entry_unchain : entryFor table "proto.unchain" = some Builtin.«proto.unchain» := entryFor_of_tree (by kernel_rfl)

theorem unchain_end {ev : Value} {hh : Addr} {oh : Obj} {vsh : Array Value} {R : Result → Shared → Prop} (hg : s.heap.get? hh = some oh) (hd : oh.data = .fields vsh) (h2 : vsh[2]? = some .none) (hq : R (.ok (.ret .none)) s) :
    codeAny (model prog w) A (.builtin "proto.unchain" ⟨[ev, .ref hh, .ref hh, .bool false], []⟩) R s := by
  refine codeAny_builtin entry_unchain ?_
  unfold Builtin.«proto.unchain»
  refine wpAny_bind (wpAny_field hg hd h2 ?_)
  rw [if_pos (by decide)]
  wp_walk
  exact hq

theorem raise_from_none {hx : Addr} {oh : Obj} {vsh : Array Value} {x c : Sem Value} {Q : Flow → Shared → Prop} (hh : A.handled = some (.ref hx))
    (hcn : ∀ s Q', Q' Value.none s → wpAny (model prog w) A c Q' E s)
    (h : wpAny (model prog w) A x (fun v s₁ => ∃ e dx a0 c2 c3 b4 c5 nm q N bs bm hdct sn sub ab col dd k0 k1 k2 k3 k5 newId oh vsh, v = .ref e ∧ s₁.heap.get? C = some (excClassObj nm q C N bs bm hdct sn sub ab col dd k0 k1 k2 k3 k5 newId) ∧ bm.contains (.type "BaseException") = true ∧
      s₁.heap.get? e = some (peO C dx a0 .none c2 c3 b4 c5) ∧ s₁.heap.get? hx = some oh ∧ oh.data = .fields vsh ∧ vsh[2]? = some .none ∧ hx ≠ e ∧ e ≠ C ∧
      ∀ h', Heap.SameBut e s₁.heap h' → h'.get? e = some (peO C dx a0 .none (.ref hx) .none (.bool true) c5) → E (.ref e) { s₁ with heap := h' }) E s) :
    wpAny (model prog w) A (raiseStmt env (some x) (some c)) Q E s := by
  unfold raiseStmt
  refine wpAny_bind (wpAny_mono h (fun v s₁ h₁ => ?_) fun _ _ x => x)
  obtain ⟨e, dx, a0, c2, c3, b4, c5, nm, q, N, bs, bm, hdct, sn, sub, ab, col, dd, k0, k1, k2, k3, k5, newId, oh, vsh, rfl, hC, hbase, he, hg, hd, h2, hne, heC, hE⟩ := h₁
  have hcB : (Value.ref C :: bm).contains (.type "BaseException") = true := by rw [List.contains_cons, hbase, Bool.or_true]
  refine wpAny_bind (wpAny_holding (hcn _ _ (wpAny_bind (wpAny_pure ?_))))
  obtain ⟨hp, g, d, tk, os⟩ := s₁
  repeat (first | with_reducible refine wpAny_loadPart_at he ?_ | with_reducible refine wpAny_loadPart_at hC ?_ | (with_reducible refine wpAny_isSubtype_exc hC ?_; rw [hcB]) | wp_step)
  have g1 := Heap.get?_update_self (Obj.mapFields fun x => x.setIfInBounds 3 Value.none) he rfl
  have g2 := Heap.get?_update_self (Obj.mapFields fun x => x.setIfInBounds 4 (Value.bool true)) g1 rfl
  have gx : ((hp.update e (Obj.mapFields fun x => x.setIfInBounds 3 Value.none)).update e (Obj.mapFields fun x => x.setIfInBounds 4 (Value.bool true))).get? hx = some oh := by
    rw [Heap.get?_update_other _ _ (Ne.symm hne), Heap.get?_update_other _ _ (Ne.symm hne)]; exact hg
  unfold raiseNew
  refine wpAny_bind (wpAny_handled ?_)
  rw [hh]
  show wpAny _ _ (if (Value.ref hx != Value.ref e) = true then _ else _) _ _ _
  rw [if_pos (by simpa using hne)]
  refine wpAny_bind (wpAny_holding (wpAny_runValue (unchain_end gx hd h2 ?_)))
  refine wpAny_bind (wpAny_mono (wpAny_setField (Q := fun _ s' => E (.ref e) s') g2 rfl (by simp) ?_) (fun _ s' y => wpAny_throw y) fun _ _ y => y)
  refine hE _ ⟨?_, fun b hb => ?_⟩ (Heap.get?_update_self (Obj.mapFields fun x => x.setIfInBounds 2 (Value.ref hx)) g2 rfl)
  · simp only [Heap.size_after_update]
  · rw [Heap.get?_update_other _ _ (Ne.symm hb), Heap.get?_update_other _ _ (Ne.symm hb), Heap.get?_update_other _ _ (Ne.symm hb)]
end

theorem name_V {M : Model} {A : Around} {E : Value → Shared → Prop} {s : Shared} {K : Frag} {h₀ : Heap} {L : Addr} {ev : Env} {m mg mb : Str → Option Value} {p : Program} {loose : List Str}
    {x : Str} {pos : Pos} {v : Value} {Q : Value → Shared → Prop} (hev : EvAt ev L) (F : Fr h₀ L s.heap m) (X : K.In h₀) (T : TopRead p loose mg mb h₀) (e : nsIn K mainGlobals x = some (some v)) (h : Q v s)
    (hx : ev.kindOf x = some .globalImplicit := by rfl) (hd : (x == ("__debug__" : Str)) = false := by decide) : wpAny M A (eval (.Name x pos) ev) Q E s :=
  Calls.Name_function_global hev.kind hx (Calls.loadGlobal_global (by rw [hev.globals]; exact T.g.keeps F.keep) (mg_of X T.g e) h) hd
theorem name_goes_V {M : Model} {A : Around} {E : Value → Shared → Prop} {s : Shared} {h₀ : Heap} {ev : Env} {m : Str → Option Value} {news : List (Addr × Obj)} {n : Str} {pos : Pos} {Q : Unit → Shared → Prop} (hk : ev.scope.kind = .function) (F : Fr h₀ ev.locals s.heap m) (N : News h₀ ev.locals s.heap news)
    (h : ∀ h' v, Fr h₀ ev.locals h' (fun x => if x = n then v else m x) → News h₀ ev.locals h' news → Q () { s with heap := h', toks := s.toks + 1 })
    (hl : ev.kindOf n = some .local := by rfl) : wpAny M A (do bindName ev n .none; unbindBehindTheSuite ev n pos) Q E s :=
  wpAny_nameGoes_keeps hl F.ns (by rw [hk]; rfl) fun h' v hn hs => h h' v (F.set hn hs) (N.set hs)
section caughtP
variable {prog : Program} {w : World} {A₀ : Around} {E : Value → Shared → Prop} {s' : Shared} {base : Heap} {L a e T C : Addr} {m mg mb : Str → Option Value} {name : Str} {scope : Scope} {cd : Value} {new frs : List (Addr × Obj)} {l : List Env}
  {b₀ : Stmt} {suite : List Stmt} {pos np : Pos} {rest : List ExceptHandler} {Q : Flow → Shared → Prop} {K : Frag} {p : Program} {loose : List Str} {mean : ExcName → Option Value} {x n : Str} {oe oT : Obj} {dct : Option Addr} {a0 c2 : Value}

/-- an exception of an own class, raised by a callee, taken by this frame's clause «except C as n» -/
theorem caughtP_as {ev : Env} (hev : EvAt ev L) (hlc : ev.locals = L) (hA : A₀.frames = some l) (Fs : Frs l frs) (F : Fr base L s'.heap m) (N : News base L s'.heap ((T, oT) :: (e, oe) :: (new ++ frs))) (hap : ∀ q ∈ new, q.1 ≠ e ∧ q.1 ∉ frs.map (·.1)) (hef : e ∉ frs.map (·.1))
    (hTe : T ≠ e) (hTn : ∀ q ∈ new, q.1 ≠ T) (hTf : T ∉ frs.map (·.1)) (X : ExcAt oe oT (.ref C) dct a0 c2 T .none) (KX : K.In base) (TT : Top p loose mean mg mb base)
    (ex : nsIn K mainGlobals x = some (some (.ref C))) (q : ktsIn K C "BaseException" = true)
    (k : ∀ h' frs' T oT oe tk, SameUp frs frs' → Frs l frs' → Fr base L h' (fun y => if y = n then some (.ref e) else m y) → News base L h' ((T, oT) :: (e, oe) :: (new ++ frs')) → (∀ q ∈ (e, oe) :: (new ++ frs'), q.1 ≠ T) → ExcAt oe oT (.ref C) dct a0 c2 T .none →
      wpAny (model prog w) ((A₀.deeper (ev)).mark (some (.ref e))) (execs (b₀ :: suite) (ev))
        (fun f s₄ => wpAny (model prog w) (A₀.deeper (ev)) (do bindName (ev) n .none; unbindBehindTheSuite (ev) n pos) (fun _ s₅ => Q f s₅) E s₄)
        (AsSuiteRaised (model prog w) ((A₀.deeper (ev)).mark (some (.ref e))) (ev) n pos (notedBy (model prog w) ((A₀.deeper (ev)).mark (some (.ref e))) (ev) (cameBackBy (model prog w) (A₀.deeper (ev)) (ev) E)))
        { s' with heap := h', toks := tk })
    (hlo : ev.kindOf n = some .local := by rfl) (hx' : ev.kindOf x = some .globalImplicit := by rfl) (hdb : (x == ("__debug__" : Str)) = false := by decide) :
    wpAny (model prog w) (A₀.deeper (ev)) (noteFrame (.ref e) (ev))
      (fun _ s₂ => wpAny (model prog w) (A₀.deeper (ev)) (setFlight (.ref e) none) (fun _ s₃ =>
        wpAny (model prog w) (A₀.deeper (ev)) (handleBy (.ref e) (ev) (.ExceptHandler (some (.Name x np)) (some n) (b₀ :: suite) pos :: rest)) Q E s₃) E s₂) E s' := by
  refine noteE2 (Around.frames_deeper hA) hev Fs F N hap hef hTe hTn hTf X fun h₄ frs₄ T₄ oT₄ oe₄ SU Fs₄ F₄ N₄ lt X₄ => ?_
  have ltT : ∀ q ∈ (new ++ frs₄), q.1 ≠ T₄ := fun q hq => by
    rcases List.mem_append.mp hq with hq | hq
    · exact lt_apart lt _ (List.mem_cons_of_mem _ (List.mem_append_left _ hq))
    · obtain ⟨q', hq', eq'⟩ := SU.fwd q hq
      rw [eq']
      exact lt_apart lt _ (List.mem_cons_of_mem _ (List.mem_append_right _ hq'))
  have hTe' : T₄ ≠ e := Ne.symm (lt_apart lt _ List.mem_cons_self)
  refine flightE (s := { s' with heap := h₄ }) F₄ N₄ hTe' ltT X₄ fun h₅ oT₅ F₅ N₅ X₅ => ?_
  obtain ⟨nm, q', NC, bs, bm, hdct, sn, sub, ab, col, dd, k0, k1, k2, k3, k5, newId, hC, hbase, hbT⟩ := kts_cls KX q
  have hC₅ := F₅.keep _ _ hC
  refine wpAny_handleBy_cons (codeAny_handlers_test (name_V hev F₅ KX (topRead_of TT) ex ?_ hx' hdb)) (by intro q; cases q)
  refine wpAny_excMatches_sub_self hC₅ (N₅ _ (List.mem_cons_of_mem _ List.mem_cons_self)).1 X₅.cls hbase (codeAny_handlers_suite_as ?_)
  refine flightE (s := { s' with heap := h₅ }) F₅ N₅ hTe' ltT X₅ fun h₆ oT₆ F₆ N₆ X₆ => ?_
  subst hlc
  refine wpAny_storeName_local hlo F₆.ns (fun h₇ hn₇ hs₇ => ?_) (by rw [hev.kind]; rfl)
  have F₇ := F₆.set hn₇ hs₇
  have N₇ := N₆.set hs₇
  exact k h₇ frs₄ T₄ oT₆ oe₄ _ SU Fs₄ F₇ N₇ (fun q hq => by
    rcases List.mem_cons.mp hq with rfl | hq
    · exact Ne.symm hTe'
    · exact ltT q hq) X₆
end caughtP
end Mine
end

section
open PySem PySem.W PySem.Calls PySem.Spec PyProof.Rows
set_option maxRecDepth 100000
set_option maxHeartbeats 4000000
namespace Mine
open TI
section
variable {prog : Program} {w : World} {A : Around} {E : Value → Shared → Prop} {s : Shared} {K : Frag} {x C d L : Addr} {base : Heap} {m : Str → Option Value} {pre post news : List (Addr × Obj)} {ox : Obj} {od : Option Obj} {es es' : List DictEntry} {n n' : Nat} {nm : Str} {tk : Tok} {v : Value} {R : Result → Shared → Prop} {cd : ClassData}

theorem storeD {Q : Fin → Shared → Prop} (F : Fr base L s.heap m) (N : News base L s.heap (pre ++ (d, dictOf es n) :: post)) (h1 : ∀ p ∈ pre, p.1 ≠ d) (h2 : ∀ p ∈ post, p.1 ≠ d) (hl : (getL nm es).isSome = true)
    (e : (putL nm (PyData.keyHash w.params nm) (.str nm s.toks) v es, putN nm es n) = (es', n')) (hz : es'.length ≤ 1000)
    (h : ∀ h', Fr base L h' m → News base L h' (pre ++ (d, dictOf es' n') :: post) → Q (.done (.ret .none)) { s with heap := h', toks := s.toks + 1 }) :
    wpAny (model prog w) A (Builtin.ObjectAttr.storeInDict d (.str nm tk) nm v) Q E s := by
  obtain ⟨e1, e2⟩ := Prod.mk.inj e
  have ep : Obj.putName nm (PyData.keyHash w.params nm) (.str nm s.toks) v (dictOf es n) = dictOf es' n' := by rw [putName_dict, e1, e2]
  obtain ⟨U1, U2⟩ := news_upd (f := Obj.putName nm (PyData.keyHash w.params nm) (.str nm s.toks) v) F N h1 h2 ep rfl
  have D := (N (d, dictOf es n) (by simp)).1
  have D' := (U2 (d, dictOf es' n') (by simp)).1
  unfold Builtin.ObjectAttr.storeInDict
  refine wpAny_bind (wpAny_pure (wpAny_bind ?_))
  unfold nsSet
  refine wpAny_bind (wpAny_bind (wpAny_askSetting (wpAny_pure (wpAny_bind (wpAny_mkText (wpAny_bind (wpAny_loadPart D ?_)))))))
  have c : (!es.toArray.any (·.key.isStr nm) && es.toArray.any (·.refKey)) = false := by
    unfold getL at hl
    simp only [List.any_toArray]
    split at hl
    · rename_i en he
      rw [List.any_eq_true.mpr ⟨en, List.mem_of_find?_eq_some he, List.find?_some he⟩]; rfl
    · split at hl
      · cases hl
      · rename_i z; rw [Bool.not_eq_true] at z; rw [z, Bool.and_false]
  show wpAny _ _ (if aRefKeyMayBeTheName nm es.toArray = true then _ else _) _ _ _
  rw [aRefKeyMayBeTheName_at, c]
  refine wpAny_updatePart D ?_
  refine wpAny_bind (wpAny_lookBehind D' (pastItsLine_dict (by rw [List.size_toArray, sizeLine_eq]; omega)) ?_)
  exact wpAny_pure (h _ U1 U2)

/-- «o.name = v» where nothing between the class and object takes it -/
theorem osaG (X : K.In s.heap) (I : W.InstAt s.heap x ox C od) (hc : clsIn K C = some cd) (hob : cd.mro.contains (.type "object") = true) (hrf : ∀ self, refuseLoop self "__setattr__" cd.mro = pure ()) (ht : takerIn K C nm = some none)
    (h : ∀ b, wpAny (model prog w) A.in1 (Builtin.ObjectAttr.storeInOwnDict (.ref x) (.ref C) (.str nm tk) nm v b)
      (fun fin s' => match fin with | .done f => R (.ok f) s' | .again c' => c'.quiet = true ∧ codeAny (model prog w) A c' R s') (fun e s' => R (.error e) s') s) :
    codeAny (model prog w) A (.call (.builtin "object.__setattr__") ⟨[.ref x, .str nm tk, v], []⟩) R s := by
  have SF := PySem.F.store_object
  have sub : Looks (model prog w) s.heap (isInstance (.ref x) (.type "object")) true := I.type.andThen (looks_mroIn X (by
    unfold mroIn
    rw [hc, Option.bind_some, if_neg (by intro q; rw [List.isEmpty_iff] at q; rw [q] at hob; cases hob), hob]))
  refine codeAny_call_builtin SF.slot.plain SF.entry (@check_slot (model prog w) _ _ s "object.__setattr__" "object" "__setattr__" (.ref x) [.str nm tk, v] [] _ SF.kind SF.split sub (SF.args (.ref x) (.str nm tk) v) ?_)
  obtain ⟨attr, ha, hr⟩ := Option.bind_eq_some_iff.mp ht
  have hm : Looks (model prog w) s.heap (mroOf (.ref C)) cd.mro := (looks_clsIn X hc).andThen .now
  have L3 : Looks (model prog w) s.heap (Builtin.ObjectAttr.storeTaker? attr) none := by
    cases attr with
    | none => exact .now
    | some a =>
      obtain ⟨b, hb, q⟩ := Option.map_eq_some_iff.mp hr
      refine (looks_takesIn X hb).andThen ?_
      cases b with
      | true => cases q
      | false => exact .now
  rw [osa_eq, refuse_eq]
  refine wpAny_bind (wpAny_bind (I.type.here (wpAny_bind (hm.here ?_))))
  rw [hrf]
  refine wpAny_pure (wpAny_bind (I.type.here (wpAny_bind ((looks_findIn X ha).here (wpAny_bind (L3.here ?_))))))
  exact h _

theorem setE {Q : Unit → Shared → Prop} (F : Fr base L s.heap m) (X : K.In base) (N : News base L s.heap (pre ++ (d, dictOf es n) :: post)) (I : W.InstAt s.heap x ox C (some (dictOf es n))) (hd : ox.dict = some d)
    (hs : findIn K (.ref C) "__setattr__" = some (some (.builtin "object.__setattr__"))) (hc : clsIn K C = some cd) (hob : cd.mro.contains (.type "object") = true) (hhd : cd.hasDict = true) (hrf : ∀ self, refuseLoop self "__setattr__" cd.mro = pure ()) (ht : takerIn K C nm = some none)
    (h1 : ∀ p ∈ pre, p.1 ≠ d) (h2 : ∀ p ∈ post, p.1 ≠ d) (hl : (getL nm es).isSome = true)
    (e : (putL nm (PyData.keyHash w.params nm) (.str nm (s.toks + 1)) v es, putN nm es n) = (es', n')) (hz : es'.length ≤ 1000)
    (h : ∀ h', Fr base L h' m → News base L h' (pre ++ (d, dictOf es' n') :: post) → Q () { s with heap := h', toks := s.toks + 2 }) :
    wpAny (model prog w) A (setAttr (.ref x) nm v) Q E s := by
  refine set_plain (X.keeps F.keep) I hs (osaG (s := { s with toks := s.toks + 1 }) (X.keeps F.keep) I hc hob hrf ht fun b => ?_)
  obtain ⟨hx, hcl, hn, -⟩ := I
  obtain ⟨oc, odi, oda, osl⟩ := ox
  dsimp only at hcl hd
  subst hcl hd
  unfold Builtin.ObjectAttr.storeInOwnDict Builtin.ObjectAttr.ownDictForStores instanceDict
  refine wpAny_bind (wpAny_pure (wpAny_bind (wpAny_bind (wpAny_loadPart hx (wpAny_bind (looks_clsIn (X.keeps F.keep) hc _ _ _ _ (fun _ _ y => y) ?_))))))
  rw [hhd]
  refine wpAny_pure (a := some d) ?_
  exact storeD (s := { s with toks := s.toks + 1 }) F N h1 h2 hl e hz fun h' F' N' => h h' F' N'

theorem setE_new {Q : Unit → Shared → Prop} {flds : Array Value} (F : Fr base L s.heap m) (X : K.In base) (N : News base L s.heap ((x, ({ cls := .ref C, data := .fields flds } : Obj)) :: news)) (hap : ∀ p ∈ news, p.1 ≠ x)
    (hs : findIn K (.ref C) "__setattr__" = some (some (.builtin "object.__setattr__"))) (hc : clsIn K C = some cd) (hob : cd.mro.contains (.type "object") = true) (hhd : cd.hasDict = true) (hrf : ∀ self, refuseLoop self "__setattr__" cd.mro = pure ()) (ht : takerIn K C nm = some none)
    (h : ∀ h' d, Fr base L h' m → News base L h' ((d, dictOf [⟨PyData.keyHash w.params nm, .str nm (s.toks + 1), v⟩] 1) :: (x, ({ cls := .ref C, dict := some d, data := .fields flds } : Obj)) :: news) → (∀ q ∈ (x, ({ cls := .ref C, data := .fields flds } : Obj)) :: news, q.1 < d) → Q () { s with heap := h', toks := s.toks + 2 }) :
    wpAny (model prog w) A (setAttr (.ref x) nm v) Q E s := by
  have hx := (N _ List.mem_cons_self).1
  have I : W.InstAt s.heap x ({ cls := .ref C, data := .fields flds } : Obj) C none := ⟨hx, rfl, rfl, trivial⟩
  refine set_plain (X.keeps F.keep) I hs (osaG (s := { s with toks := s.toks + 1 }) (X.keeps F.keep) I hc hob hrf ht fun b => ?_)
  unfold Builtin.ObjectAttr.storeInOwnDict Builtin.ObjectAttr.ownDictForStores instanceDict
  refine wpAny_bind (wpAny_pure (wpAny_bind (wpAny_bind (wpAny_loadPart hx (wpAny_bind (looks_clsIn (X.keeps F.keep) hc _ _ _ _ (fun _ _ y => y) ?_))))))
  rw [hhd]
  refine wpAny_bind (wpAny_alloc ?_)
  have F₁ := F.push (dictOf [] 0)
  have N₁ := N.push F (dictOf [] 0) rfl
  have lt : ∀ q ∈ (x, ({ cls := .ref C, data := .fields flds } : Obj)) :: news, q.1 < s.heap.objs.size := fun q hq => Heap.lt_size (N q hq).1
  obtain ⟨F₂, N₂⟩ := news_upd (f := fun o => { o with dict := some s.heap.objs.size }) (pre := [(s.heap.objs.size, dictOf [] 0)]) (post := news) F₁ N₁ (fun p hp => by
    rcases List.mem_singleton.mp hp with rfl
    exact Ne.symm (Nat.ne_of_lt (lt _ List.mem_cons_self))) hap (o' := ({ cls := .ref C, dict := some s.heap.objs.size, data := .fields flds } : Obj)) rfl rfl
  refine wpAny_bind (wpAny_update (N₁ _ (List.mem_cons_of_mem _ List.mem_cons_self)).1 (wpAny_pure (a := some s.heap.objs.size) ?_))
  refine storeD (s := { s with heap := (s.heap.push (dictOf [] 0)).update x (fun o => { o with dict := some s.heap.objs.size }), toks := s.toks + 1 }) (pre := []) (es := []) (n := 0) F₂ N₂ (fun _ hp => nomatch hp) (fun p hp => ?_) rfl rfl (by simp [putL]) fun h' F' N' => h h' _ F' N' lt
  rcases List.mem_cons.mp hp with rfl | hp
  · exact Nat.ne_of_lt (show x < _ from lt (x, ({ cls := .ref C, data := .fields flds } : Obj)) List.mem_cons_self)
  · exact Nat.ne_of_lt (lt _ (List.mem_cons_of_mem _ hp))
end
end Mine
end

section
open PySem PySem.W PySem.Calls PySem.Spec PyProof.Rows
set_option maxRecDepth 100000
set_option maxHeartbeats 4000000
namespace Mine
open TI
section
variable {prog : Program} {w : World} {A : Around} {E : Value → Shared → Prop} {s : Shared} {K : Frag} {x C : Addr} {ox : Obj} {od : Option Obj} {name : Str} {expr : Bool} {v : Value}

theorem ga_code {tk : Tok} {R : Result → Shared → Prop} (X : K.In s.heap) (I : W.InstAt s.heap x ox C od) (hm : mroIn K C (.type "BaseException") = some true) (hf : findObj K C od name = some (.value v)) (h : R (.ok (.ret v)) s) :
    codeAny (model prog w) A (.call (.builtin "BaseException.__getattribute__") ⟨[.ref x, .str name tk], []⟩) R s := by
  have sub : Looks (model prog w) s.heap (isInstance (.ref x) (.type "BaseException")) true := I.type.andThen (looks_mroIn X hm)
  refine codeAny_call_builtin (by decide +kernel) F.entry_bexc_ga (@check_slot (model prog w) _ _ s "BaseException.__getattribute__" "BaseException" "__getattribute__" (.ref x) [.str name tk] [] _ (by decide +kernel) (by decide +kernel) sub (F.args_bexc_ga (.ref x) (.str name tk)) ?_)
  obtain ⟨hh', g, d, t, os⟩ := s
  have L0 := I.type (M := model prog w)
  have L1 := looks_find (M := model prog w) X I hf
  refine wpAny_bind (wpAny_pure (wpAny_bind (wpAny_pure (wpAny_bind (L0.at (wpAny_bind (L1.at ?_)))))))
  exact wpAny_pure h

theorem getE {Q : Value → Shared → Prop} (X : K.In s.heap) (I : W.InstAt s.heap x ox C od) (hga : findIn K (.ref C) "__getattribute__" = some (some (.builtin "BaseException.__getattribute__"))) (hgt : findIn K (.ref C) "__getattr__" = some none)
    (hm : mroIn K C (.type "BaseException") = some true) (hf : findObj K C od name = some (.value v)) (hh : handedIn v = true) (h : Q v { s with toks := s.toks + 1 }) : wpAny (model prog w) A (getAttr (.ref x) name expr) Q E s := by
  have X' := X
  have I' := I
  obtain ⟨hp, g, d, t, os⟩ := s
  have L0 := I.type (M := model prog w)
  have Lg := looks_findIn (M := model prog w) X hga
  have Lt := looks_findIn (M := model prog w) X hgt
  have hx0 : (expr && onTheHeap (Value.builtin "BaseException.__getattribute__")) = false := by cases expr <;> rfl
  have hx2 : (Value.builtin "BaseException.__getattribute__" == Value.builtin "object.__getattribute__") = false := by decide +kernel
  have hx1 : (onTheHeap (Value.ref C) && Value.builtin "BaseException.__getattribute__" == Value.builtin "object.__getattribute__") = false := by rw [hx2]; rfl
  have f3 : bindSpecial (.builtin "BaseException.__getattribute__") (.ref x) = pure (.builtin "BaseException.__getattribute__", [.ref x]) := PySem.F.attrBase_Exception.ga.bind _
  unfold getAttr
  repeat (any_goals (first | assumption | (with_reducible refine L0.at ?_) | (with_reducible refine Lg.at ?_) | (with_reducible refine Lt.at ?_) | wp_step))
  refine ga_code (s := ⟨hp, g, d, t + 1, os⟩) X I hm hf ?_
  show wpAny _ _ (handedOut v) _ _ _
  rw [handedOut_of hh]; exact wpAny_pure h
end
end Mine
end

section
open PySem PySem.W PySem.Calls PySem.Spec PyProof.Rows
set_option maxRecDepth 100000
set_option maxHeartbeats 4000000
namespace Mine
open TI
theorem slot_wd_get : Slot "wrapper_descriptor" "__get__" "wrapper_descriptor.__get__" := .of (owner := "wrapper_descriptor") (n := "__get__") (by rw [typeLookup_type, builtinLookup_eq_fast]; kernel_rfl) (by decide +kernel) (by decide +kernel) (by decide +kernel)
  (by first | exact .inl (by decide +kernel) | exact .inr (by decide +kernel)) (by rw [isSubtype_type]; kernel_rfl)
theorem entry_wd_get : entryFor table "wrapper_descriptor.__get__" = some Builtin.«wrapper_descriptor.__get__» := entryFor_of_tree (by kernel_rfl)
theorem args_wd_get (a b c : Value) : argsOk "wrapper_descriptor.__get__" ⟨[a, b, c], []⟩ := by unfold argsOk; kernel_rfl
theorem type_exc_init : typeOf (.builtin "Exception.__init__") = pure (.type "wrapper_descriptor") := by kernel_rfl

section
variable {prog : Program} {w : World} {A : Around} {E : Value → Shared → Prop} {h : Heap} {g : Array GenState} {d : Drawn} {t : Nat} {os : OsState}

theorem super_ga_init {so D x C : Addr} {l₀ l : List Value} {K : Frag} {tk : Tok} {Q : Fin → Shared → Prop}
    (hso : h.get? so = some { cls := .type "super", dict := none, data := .fields #[.ref D, .ref x, .ref C], slots := #[] }) (hno : Looks (model prog w) h (opaqueClassAbove (.ref C)) none)
    (hC : Looks (model prog w) h (mroOf (.ref C)) l₀) (hl : (l₀.dropWhile (· != .ref D)).drop 1 = l) (X : K.In h)
    (hf : alongIn K "__init__" l = some (some (.builtin "Exception.__init__"))) {ox : Obj} (hx : h.get? x = some ox) (hcl : ox.cls = .ref C) (hI : Looks (model prog w) h (isSubtype (.ref C) (.type "Exception")) true) (hxC : x ≠ C)
    (hq : Q (.done (.ret (.ref h.objs.size))) ⟨h.push { cls := .type "method-wrapper", data := .fields #[.builtin "Exception.__init__", .ref x] }, g, d, t, os⟩) :
    wpAny (model prog w) A (Builtin.«super.__getattribute__» ⟨[.ref so, .str "__init__" tk], []⟩) Q E ⟨h, g, d, t, os⟩ := by
  have hlk := slot_wd_get.lookup
  have hne : (Value.ref x == Value.ref C) = false := by simp [hxC]
  have hTf : (⟨h, g, d, t, os⟩ : Shared).TypeIs (.builtin "Exception.__init__") "wrapper_descriptor" := type_exc_init
  have hdt : ({ cls := .type "super", dict := none, data := .fields #[.ref D, .ref x, .ref C], slots := #[] } : Obj).data = .fields #[.ref D, .ref x, .ref C] := rfl
  have f0 : (#[.ref D, .ref x, .ref C] : Array Value)[0]? = some (.ref D) := rfl
  have f1 : (#[.ref D, .ref x, .ref C] : Array Value)[1]? = some (.ref x) := rfl
  have f2 : (#[.ref D, .ref x, .ref C] : Array Value)[2]? = some (.ref C) := rfl
  have how : ".".intercalate ("Exception.__init__".cutAt '.').dropLast = "Exception" := by decide +kernel
  have hn : (("__init__" : Str) == ("__class__" : Str)) = false := by decide
  unfold Builtin.«super.__getattribute__»
  repeat (first
    | (with_reducible refine wpAny_field hso hdt f0 ?_) | (with_reducible refine wpAny_field hso hdt f1 ?_) | (with_reducible refine wpAny_field hso hdt f2 ?_)
    | (with_reducible refine ks_wpAny_notOpaque hno ?_)
    | (with_reducible refine Looks.at hC ?_; rw [hl])
    | (refine ks_forIn_along X (fun _ _ => rfl) rfl ?_ hf)
    | (with_reducible refine wpAny_typeOf hTf ?_)
    | (with_reducible refine wpAny_call_entry slot_wd_get hTf entry_wd_get ?_ (args_wd_get _ _ _))
    | (with_reducible refine wpAny_loadPart_at hx ?_; rw [hcl])
    | (rw [how]; with_reducible refine Looks.at hI ?_)
    | (with_reducible refine ⟨_, rfl, ?_⟩)
    | (simp only [hn, hne, Bool.or_false, Bool.false_eq_true, if_false])
    | wp_step
    | dsimp only)
  all_goals exact hq

theorem super_getMethod_init {so D x C : Addr} {l₀ l : List Value} {K : Frag} {pl : Sem Bool} {Q : Value × List Value → Shared → Prop}
    (hso : h.get? so = some { cls := .type "super", dict := none, data := .fields #[.ref D, .ref x, .ref C], slots := #[] }) (hno : Looks (model prog w) h (opaqueClassAbove (.ref C)) none)
    (hC : Looks (model prog w) h (mroOf (.ref C)) l₀) (hl : (l₀.dropWhile (· != .ref D)).drop 1 = l) (X : K.In h)
    (hf : alongIn K "__init__" l = some (some (.builtin "Exception.__init__"))) {ox : Obj} (hx : h.get? x = some ox) (hcl : ox.cls = .ref C) (hI : Looks (model prog w) h (isSubtype (.ref C) (.type "Exception")) true) (hxC : x ≠ C)
    (hq : Q (.ref h.objs.size, []) ⟨h.push { cls := .type "method-wrapper", data := .fields #[.builtin "Exception.__init__", .ref x] }, g, d, t + 1, os⟩) :
    wpAny (model prog w) A (getMethod (.ref so) "__init__" pl) Q E ⟨h, g, d, t, os⟩ := by
  have hlk := F.ks_slot_super_ga.lookup
  have hT : ∀ t', (⟨h, g, d, t', os⟩ : Shared).TypeIs (.ref so) "super" := fun _ => ⟨_, hso, rfl⟩
  unfold getMethod
  refine wpAny_bind (wpAny_specialOf (hT _) hlk ?_)
  show wpAny _ _ (if (Manifest.canonical "super.__getattribute__" != "object.__getattribute__") = true then _ else _) _ _ _
  rw [if_pos F.ks_canon_super_ga]
  unfold getAttr getAttrBy
  refine wpAny_bind (wpAny_bind (wpAny_mkText (wpAny_holding (wpAny_bind (wpAny_typeOf (hT _) (wpAny_bind (wpAny_of_eq hlk ?_)))))))
  show wpAny _ _ (getAttrByItsOwn (.ref so) (.str "__init__" t) (.type "super") (.builtin "super.__getattribute__") true false) _ _ _
  unfold getAttrByItsOwn hookBefore callGetattribute boundAndCalled
  refine wpAny_bind (wpAny_of_eq (show (if onTheHeap (.type "super") then typeLookup (.type "super") "__getattr__" else pure none) = pure none from rfl) ?_)
  refine wpAny_bind (wpAny_attempt (wpAny_holding ?_))
  show wpAny _ _ (bindSpecial (.builtin "super.__getattribute__") (.ref so) >>= _) _ _ _
  refine wpAny_bind (wpAny_of_eq (F.ks_slot_super_ga.bind _) ?_)
  refine wpAny_mono (Q := fun v s' => v = .ref h.objs.size ∧ s' = ⟨h.push { cls := .type "method-wrapper", data := .fields #[.builtin "Exception.__init__", .ref x] }, g, d, t + 1, os⟩) (E := fun _ _ => False)
    (wpAny_call_entry F.ks_slot_super_ga (hT _) F.ks_entry_super_ga (super_ga_init hso hno hC hl X hf hx hcl hI hxC ⟨_, rfl, rfl, rfl⟩) (F.ks_gaArgs_super _ _)) (fun v s' hv => ?_) fun _ _ z => z.elim
  obtain ⟨rfl, rfl⟩ := hv
  exact wpAny_pure (wpAny_pure hq)

theorem init_body {x : Addr} {ox : Obj} {vs : Array Value} {mv : Value} {Q : Fin → Shared → Prop} (hx : h.get? x = some ox) (hd : ox.data = .fields vs) (h0 : 0 < vs.size) {a0 : Addr} (hv0 : vs[0]? = some (.ref a0))
    (hq : Q (.done (.ret .none)) ⟨(h.push { cls := .type "tuple", data := .seq #[mv] }).update x (Obj.mapFields (·.setIfInBounds 0 (.ref h.objs.size))), g, d, t, os⟩) :
    wpAny (model prog w) A (Builtin.«BaseException.__init__» ⟨[.ref x, mv], []⟩) Q E ⟨h, g, d, t, os⟩ := by
  unfold Builtin.«BaseException.__init__»
  have hx₁ := Heap.get?_push_of_some { cls := .type "tuple", data := .seq #[mv] } hx
  refine wpAny_bind (wpAny_newObj_type ?_ (by show (1 : Nat) ≤ sizeLine; decide))
  unfold Builtin.BaseException.bexcPut letGo
  refine wpAny_bind (wpAny_bind (wpAny_field hx₁ hd hv0 (wpAny_bind (wpAny_setField hx₁ hd h0 ?_))))
  repeat wp_step
  all_goals exact hq

theorem mw_call {b x C : Addr} {ox : Obj} {vs : Array Value} {mv : Value} {R : Result → Shared → Prop} {nm q : Str} {N : Addr} {bs : List Value} {hdct : Bool} {sn : List Str} {sub : List Value} {ab : Bool} {col : Option Bool} {dd : Option Addr} {k0 k1 k2 k3 k5 : Option Value}
    (hb : h.get? b = some { cls := .type "method-wrapper", dict := none, data := .fields #[.builtin "Exception.__init__", .ref x], slots := #[] })
    (hC : h.get? C = some (excClassObj nm q C N bs [.type "Exception", .type "BaseException", .type "object"] hdct sn sub ab col dd k0 k1 k2 k3 k5 "Exception.__new__")) (hx : h.get? x = some ox) (hcl : ox.cls = .ref C) (hd : ox.data = .fields vs) (h0 : 0 < vs.size) {a0 : Addr} (hv0 : vs[0]? = some (.ref a0))
    (hq : R (.ok (.ret .none)) ⟨(h.push { cls := .type "tuple", data := .seq #[mv] }).update x (Obj.mapFields (·.setIfInBounds 0 (.ref h.objs.size))), g, d, t, os⟩) :
    codeAny (model prog w) A (.call (.ref b) ⟨[mv], []⟩) R ⟨h, g, d, t, os⟩ := by
  have FE := F.excBase_Exception
  refine codeAny_of_tree ?_
  show wpAny _ A.in1 (callAny (.ref b) _) _ _ _
  unfold callAny
  refine wpAny_bind (wpAny_load hb ?_)
  show wpAny _ _ (checkBoundCall "Exception.__init__" ⟨[.ref x, mv], []⟩ >>= _) _ _ _
  refine wpAny_bind ?_
  unfold checkBoundCall
  have hshort := FE.noStar
  simp only [FE.initKind, FE.initRow]
  rw [if_pos (by decide)]
  have hcB : (Value.ref C :: [.type "Exception", .type "BaseException", .type "object"]).contains (.type "Exception") = true := by rw [List.contains_cons, FE.hasB, Bool.or_true]
  repeat (first | (with_reducible refine wpAny_loadPart_at hx ?_; rw [hcl]) | with_reducible refine wpAny_loadPart_at hC ?_ | (with_reducible refine wpAny_isSubtype_exc hC ?_; rw [hcB]) | wp_step)
  exact ⟨Code.quiet_builtin _ (by decide +kernel), codeAny_builtin FE.initEntry (init_body hx hd h0 hv0 hq)⟩
end
end Mine
end

section
open PySem PySem.W PySem.Calls PySem.Spec PyProof.Rows
set_option maxRecDepth 100000
set_option maxHeartbeats 4000000
namespace Mine
open TI
section
variable {prog : Program} {w : World} {A : Around} {E : Value → Shared → Prop} {s : Shared} {K : Frag} {x C d L : Addr} {base : Heap} {m : Str → Option Value} {news news' : List (Addr × Obj)} {ox : Obj} {es es' : List DictEntry} {n n' : Nat} {nm : Str} {v : Value} {cd : ClassData}

/-- the class takes plain stores: what «o.name = v» asks of it -/
def storesIn (K : Frag) (C : Addr) : Bool := findIn K (.ref C) "__setattr__" == some (some (.builtin "object.__setattr__")) && (clsIn K C).any fun cd => cd.hasDict && cd.mro.contains (.type "object") && cd.mro == [.ref C, .type "Exception", .type "BaseException", .type "object"]
theorem refuse_exc (self : Value) (C : Addr) : refuseLoop self "__setattr__" [.ref C, .type "Exception", .type "BaseException", .type "object"] = pure () := by
  rw [refuseLoop_ref]; kernel_rfl
theorem storesIn_of (h : storesIn K C = true) : findIn K (.ref C) "__setattr__" = some (some (.builtin "object.__setattr__")) ∧ ∃ cd, clsIn K C = some cd ∧ cd.mro.contains (.type "object") = true ∧ cd.hasDict = true ∧ ∀ self, refuseLoop self "__setattr__" cd.mro = pure () := by
  unfold storesIn at h
  rw [Bool.and_eq_true, beq_iff_eq] at h
  obtain ⟨h1, h2⟩ := h
  obtain ⟨cd, hc, h3⟩ := any_some h2
  simp only [Bool.and_eq_true, beq_iff_eq] at h3
  exact ⟨h1, cd, hc, h3.1.2, h3.1.1, fun self => by rw [h3.2]; exact refuse_exc self C⟩

theorem setEU {Q : Unit → Shared → Prop} (F : Fr base L s.heap m) (X : K.In base) (N : News base L s.heap news) (I : W.InstAt s.heap x ox C (some (dictOf es n))) (hd : ox.dict = some d)
    (hs : storesIn K C = true) (ht : takerIn K C nm = some none) (hl : (getL nm es).isSome = true)
    (e : (putL nm (PyData.keyHash w.params nm) (.str nm (s.toks + 1)) v es, putN nm es n) = (es', n')) (U : Upd d (dictOf es n) (dictOf es' n') news news') (hz : es'.length ≤ 1000)
    (h : ∀ h', Fr base L h' m → News base L h' news' → Q () { s with heap := h', toks := s.toks + 2 }) :
    wpAny (model prog w) A (setAttr (.ref x) nm v) Q E s := by
  obtain ⟨pre, post, rfl, rfl, a, b⟩ := U.split
  obtain ⟨h1, cd, hc, ho, hh, hr⟩ := storesIn_of hs
  exact setE F X N I hd h1 hc ho hh hr ht a b hl e hz h

theorem setEN {Q : Unit → Shared → Prop} {flds : Array Value} (F : Fr base L s.heap m) (X : K.In base) (N : News base L s.heap ((x, ({ cls := .ref C, data := .fields flds } : Obj)) :: news)) (hap : ∀ p ∈ news, p.1 ≠ x)
    (hs : storesIn K C = true) (ht : takerIn K C nm = some none)
    (h : ∀ h' d, Fr base L h' m → News base L h' ((d, dictOf [⟨PyData.keyHash w.params nm, .str nm (s.toks + 1), v⟩] 1) :: (x, ({ cls := .ref C, dict := some d, data := .fields flds } : Obj)) :: news) → (∀ q ∈ (x, ({ cls := .ref C, data := .fields flds } : Obj)) :: news, q.1 < d) → Q () { s with heap := h', toks := s.toks + 2 }) :
    wpAny (model prog w) A (setAttr (.ref x) nm v) Q E s := by
  obtain ⟨h1, cd, hc, ho, hh, hr⟩ := storesIn_of hs
  exact setE_new F X N hap h1 hc ho hh hr ht h

/-- the object is an exception's: class, dict and fields are known -/
theorem instE {L : Addr} {d : Addr} {flds : Array Value} {sl : Array (Option Value)} {od : Obj} (N : News base L s.heap news) (h1 : (x, (⟨.ref C, some d, .fields flds, sl⟩ : Obj)) ∈ news) (h2 : (d, od) ∈ news) : W.InstAt s.heap x ⟨.ref C, some d, .fields flds, sl⟩ C (some od) := ⟨(N _ h1).1, rfl, rfl, (N _ h2).1⟩

def readsE (K : Frag) (C : Addr) (nm : Str) : Bool := findIn K (.ref C) "__getattribute__" == some (some (.builtin "BaseException.__getattribute__")) && findIn K (.ref C) "__getattr__" == some none && mroIn K C (.type "BaseException") == some true && findIn K (.ref C) nm == some none && hasDictIn K C
theorem getEU {Q : Value → Shared → Prop} {expr : Bool} (F : Fr base L s.heap m) (X : K.In base) (I : W.InstAt s.heap x ox C (some (dictOf es n))) (hr : readsE K C nm = true) (hl : getL nm es = some (some v)) (hh : handedIn v = true) (h : Q v { s with toks := s.toks + 1 }) :
    wpAny (model prog w) A (getAttr (.ref x) nm expr) Q E s := by
  unfold readsE at hr
  simp only [Bool.and_eq_true, beq_iff_eq] at hr
  obtain ⟨⟨⟨⟨h1, h2⟩, h3⟩, h4⟩, h5⟩ := hr
  exact getE (X.keeps F.keep) I h1 h2 h3 (findObj_own h5 h4 rfl hl) hh h

variable {mg mb : Str → Option Value} {p : Program} {loose : List Str} {mean : ExcName → Option Value} {R : Result → Shared → Prop} {name qual : Str} {params : Arguments} {body : List Stmt} {scope : Scope} {dV kV doc pm cdv ct oc : Value} {an od : Option Addr} {osl : Array (Option Value)} {f cc : Addr} {args : Args} {binds : List (Str × Value)}

theorem enterS (F : Fr base L s.heap m) (X : K.In base) (N : News base L s.heap news) (T : Top p loose mean mg mb base)
    (ho : K.lookup f = some ⟨oc, od, .func (ksFn name qual params body scope dV kV doc pm an cdv ct cc), osl⟩) (hcd : codeIn K cdv qual = true) (hroom : A.depth < recursionLimit)
    (hbind : BindsTo s (ksFn name qual params body scope dV kV doc pm an cdv ct cc) args binds) (hloc : ∀ y ∈ binds, scope.names.lookup y.1 = some .local)
    (h : ∀ oL L' h₁, Caller base L m oL → Fr base L' h₁ (fun y => binds.reverse.lookup y) → News base L' h₁ ((L, oL) :: news) → (∀ q ∈ news, q.1 ≠ L) → (∀ q ∈ (L, oL) :: news, q.1 < L') →
      _root_.PySem.wpAt (model prog w) (A.deeper (ksEnv qual scope L' f cdv cc)) (.func body (ksEnv qual scope L' f cdv cc)) (execs body (ksEnv qual scope L' f cdv cc))
        (fun fl s' => R (.ok (.ret (match fl with | .ret v => v | _ => .none))) s')
        (fun e s' => wpAny (model prog w) (A.deeper (ksEnv qual scope L' f cdv cc)) (leaving (ksEnv qual scope L' f cdv cc) e) (fun _ s'' => R (.error e) s'') (fun e' s'' => R (.error e') s'') s')
        { s with heap := h₁, toks := s.toks + binds.length })
    (hco : scope.isCoroutine = false) (hgen : scope.isGenerator = false) (hk : scope.kind = .function)
    (hcell : ∀ x ∈ scope.names, x.2 ≠ .cell) : codeAny (model prog w) A (.call (.ref f) args) R s := by
  have X' := X.keeps F.keep
  obtain ⟨oL, hL, Cl⟩ := caller_of F
  refine ks_codeAny_call_defAt (fd := ksFn name qual params body scope dV kV doc pm an cdv ct cc) (body := body) (binds := binds) hroom (X' _ _ ho) rfl (T.nolimit.keeps F.keep) (codeRec_of X' hcd) rfl hbind hcell hloc (fun h₁ hns hk₁ => ?_) hco hgen hk
  have hlt : L < s.heap.objs.size := Heap.lt_size hL
  refine h oL s.heap.objs.size h₁ Cl ⟨hns, fun b o e => hk₁ b o (F.keep b o e), Nat.le_of_lt (Nat.lt_of_le_of_lt F.above hlt)⟩ ?_ (fun q hq => (N q hq).2.1) ?_
  · intro q hq
    rcases List.mem_cons.mp hq with rfl | hq
    · exact ⟨hk₁ _ _ hL, Nat.ne_of_lt hlt, Heap.get?_none_of_le F.above⟩
    · exact ⟨hk₁ _ _ (N q hq).1, Nat.ne_of_lt (Heap.lt_size (N q hq).1), (N q hq).2.2⟩
  · intro q hq
    rcases List.mem_cons.mp hq with rfl | hq
    · exact hlt
    · exact Heap.lt_size (N q hq).1
end
end Mine
end

section
open PySem PySem.W PySem.Calls PySem.Spec PyProof.Rows PySem.Builtin
set_option maxRecDepth 100000
set_option maxHeartbeats 4000000
namespace Mine
open Builtin.Str

theorem gives_count4 (x y : Str) (i j : Int) (t u v v' : Tok) : Gives («str.count» ⟨[.str x t, .str y u, .int i v, .int j v'], []⟩) (.int (occurrences x y (fromIndex x.length i) (min (fromIndex x.length j) x.length) (x.length + 1)).length) := by
  show Gives (retInt (occurrences x y (fromIndex x.length i) (min (fromIndex x.length j) x.length) (x.length + 1)).length) _
  exact .of_eq rfl
theorem gives_rfind4 (x y : Str) (i j : Int) (t u v v' : Tok) : Gives («str.rfind» ⟨[.str x t, .str y u, .int i v, .int j v'], []⟩) (.int (match lastOccurrence x y (fromIndex x.length i) (min (fromIndex x.length j) x.length) with | some k => (k : Int) | none => -1)) := by
  show Gives (match lastOccurrence x y (fromIndex x.length i) (min (fromIndex x.length j) x.length) with | some k => retInt k | none => (do rule "str.rfind.not-found"; retInt (-1))) _
  cases lastOccurrence x y (fromIndex x.length i) (min (fromIndex x.length j) x.length) with
  | none => exact .rule (.of_eq rfl)
  | some k => exact .of_eq rfl

section
variable {prog : Program} {w : World} {A : Around} {E : Value → Shared → Prop} {s : Shared} {x y : Str} {t u v v' : Tok} {i j : Int} {Q : Value → Shared → Prop}
/-- how often y stands in x between i and j, overlaps apart -/
def cnt4 (x y : Str) (i j : Int) : Int := (occurrences x y (fromIndex x.length i) (min (fromIndex x.length j) x.length) (x.length + 1)).length
def rfi4 (x y : Str) (i j : Int) : Int := match lastOccurrence x y (fromIndex x.length i) (min (fromIndex x.length j) x.length) with | some k => (k : Int) | none => -1
theorem count4 (hq : Q (.int (cnt4 x y i j) s.toks) { s with toks := s.toks + 1 }) : wpAny (model prog w) A (call (.builtin "str.count") [.str x t, .str y u, .int i v, .int j v']) Q E s :=
  call_gives F.slot_str_count (typeIs_str _ _ _) F.entry_str_count (F.args_str_count_4 _ _ _ _) (gives_count4 x y i j t u v v') hq
theorem rfind4 (hq : Q (.int (rfi4 x y i j) s.toks) { s with toks := s.toks + 1 }) : wpAny (model prog w) A (call (.builtin "str.rfind") [.str x t, .str y u, .int i v, .int j v']) Q E s :=
  call_gives F.slot_str_rfind (typeIs_str _ _ _) F.entry_str_rfind (F.args_str_rfind_4 _ _ _ _) (gives_rfind4 x y i j t u v v') hq
end

theorem slot_bytes_count : Slot "bytes" "count" "bytes.count" :=
  .of (owner := "bytes") (n := "count") (by rw [typeLookup_type, builtinLookup_eq_fast]; kernel_rfl) (by decide +kernel) (by decide +kernel) (by decide +kernel)
    (by first | exact .inl (by decide +kernel) | exact .inr (by decide +kernel)) (by rw [isSubtype_type]; kernel_rfl)
theorem type_bytes_count : typeOf (.builtin "bytes.count") = pure (.type "method_descriptor") := by show builtinType _ = _; rw [builtinType_eq_fast]; kernel_rfl
theorem entry_bytes_count : entryFor table "bytes.count" = some Builtin.«bytes.count» := entryFor_of_tree (by kernel_rfl)
theorem args_bytes_count_4 (a b c d : Value) : argsOk "bytes.count" ⟨[a, b, c, d], []⟩ := by
  unfold argsOk; rw [signature?_of (id := "bytes.count") (n := ['t', 'n', 'u', 'o', 'c']) (o := ['s', 'e', 't', 'y', 'b']) (by kernel_rfl) FB.owner_bytes]; kernel_rfl
theorem slot_bytes_rfind : Slot "bytes" "rfind" "bytes.rfind" :=
  .of (owner := "bytes") (n := "rfind") (by rw [typeLookup_type, builtinLookup_eq_fast]; kernel_rfl) (by decide +kernel) (by decide +kernel) (by decide +kernel)
    (by first | exact .inl (by decide +kernel) | exact .inr (by decide +kernel)) (by rw [isSubtype_type]; kernel_rfl)
theorem type_bytes_rfind : typeOf (.builtin "bytes.rfind") = pure (.type "method_descriptor") := by show builtinType _ = _; rw [builtinType_eq_fast]; kernel_rfl
theorem entry_bytes_rfind : entryFor table "bytes.rfind" = some Builtin.«bytes.rfind» := entryFor_of_tree (by kernel_rfl)
theorem args_bytes_rfind_4 (a b c d : Value) : argsOk "bytes.rfind" ⟨[a, b, c, d], []⟩ := by
  unfold argsOk; rw [signature?_of (id := "bytes.rfind") (n := ['d', 'n', 'i', 'f', 'r']) (o := ['s', 'e', 't', 'y', 'b']) (by kernel_rfl) FB.owner_bytes]; kernel_rfl

section
variable {b c : Array UInt8} {t u v v' : Tok} {j : Int} {M : Model} {A : Around} {E : Value → Shared → Prop} {s : Shared}
theorem bound_int {i : Int} {Q : Option Int → Shared → Prop} (h : Q (some i) s) : wpAny M A (Bytes.bound? (some (.int i v))) Q E s := by
  unfold Bytes.bound?
  refine wpAny_bind (wpAny_specialOf (typeIs_int s i v) F.slot_int_index.lookup ?_)
  show wpAny M A (asIndex (.int i v) >>= fun r => pure (some r)) Q E s
  rw [show asIndex (.int i v) = pure i from rfl]
  exact wpAny_pure h
theorem searchArgs_bytes {name : String} {i : Int} {Q : Array UInt8 × Array UInt8 × Option (Nat × Nat) → Shared → Prop}
    (h : Q (b, c, if (Bytes.window b.size (some i) (some j)).2 - (Bytes.window b.size (some i) (some j)).1 < c.size then none else some ((Bytes.window b.size (some i) (some j)).1.toNat, (Bytes.window b.size (some i) (some j)).2.toNat)) s) :
    wpAny M A (Bytes.searchArgs .bytes name ⟨[.bytes b t, .bytes c u, .int i v, .int j v'], []⟩) Q E s := by
  unfold Bytes.searchArgs
  show wpAny M A (Bytes.bound? (some (.int i v)) >>= fun _ => _) Q E s
  refine wpAny_bind (bound_int ?_)
  show wpAny M A (Bytes.bound? (some (.int j v')) >>= fun _ => _) Q E s
  refine wpAny_bind (bound_int ?_)
  show wpAny M A (Bytes.buffer? _ (.bytes c u) >>= fun _ => _) Q E s
  refine wpAny_bind (wpAny_of_eq KBy.buffer_eq ?_)
  exact wpAny_pure h
def bcnt (b c : Array UInt8) (i j : Int) : Int := if (Bytes.window b.size (some i) (some j)).2 - (Bytes.window b.size (some i) (some j)).1 < c.size then 0 else (Bytes.occurrences b c (Bytes.window b.size (some i) (some j)).1.toNat (Bytes.window b.size (some i) (some j)).2.toNat).length
def brfi (b c : Array UInt8) (i j : Int) : Int := if (Bytes.window b.size (some i) (some j)).2 - (Bytes.window b.size (some i) (some j)).1 < c.size then -1 else match Bytes.rfind? b c (Bytes.window b.size (some i) (some j)).1.toNat (Bytes.window b.size (some i) (some j)).2.toNat with | some k => k | none => -1
theorem gives_bcount {i : Int} (hc : c.isEmpty = false) : Gives («bytes.count» ⟨[.bytes b t, .bytes c u, .int i v, .int j v'], []⟩) (.int (bcnt b c i j)) := by
  refine .of_wp fun M A E s Q hq => ?_
  unfold Builtin.«bytes.count» Bytes.countM
  refine wpAny_bind (searchArgs_bytes ?_)
  unfold bcnt at hq
  dsimp only
  split at hq
  · next h => rw [if_pos h]; exact wpAny_bind (wpAny_mkInt (wpAny_pure ⟨_, rfl, hq⟩))
  · next h => 
    rw [if_neg h]
    dsimp only
    rw [if_neg (by rw [hc]; exact Bool.false_ne_true)]
    exact wpAny_bind (wpAny_mkInt (wpAny_pure ⟨_, rfl, hq⟩))
theorem gives_brfind {i : Int} : Gives («bytes.rfind» ⟨[.bytes b t, .bytes c u, .int i v, .int j v'], []⟩) (.int (brfi b c i j)) := by
  refine .of_wp fun M A E s Q hq => ?_
  unfold Builtin.«bytes.rfind» Bytes.searchM
  refine wpAny_bind (searchArgs_bytes ?_)
  unfold brfi at hq
  dsimp only
  split at hq
  · next h =>
    rw [if_pos h]
    dsimp only [Option.bind]
    exact wpAny_bind (wpAny_rule (wpAny_bind (wpAny_mkInt (wpAny_pure ⟨_, rfl, hq⟩))))
  · next h => 
    rw [if_neg h]
    dsimp only [Option.bind]
    rw [if_pos rfl]
    revert hq
    cases Bytes.rfind? b c (Bytes.window b.size (some i) (some j)).1.toNat (Bytes.window b.size (some i) (some j)).2.toNat with
    | none => intro hq; exact wpAny_bind (wpAny_rule (wpAny_bind (wpAny_mkInt (wpAny_pure ⟨_, rfl, hq⟩))))
    | some k => intro hq; exact wpAny_bind (wpAny_mkInt (wpAny_pure ⟨_, rfl, hq⟩))
end
section
variable {prog : Program} {w : World} {A : Around} {E : Value → Shared → Prop} {s : Shared} {b c : Array UInt8} {t u v v' : Tok} {i j : Int} {Q : Value → Shared → Prop}
theorem bcount4 (hc : c.isEmpty = false) (hq : Q (.int (bcnt b c i j) s.toks) { s with toks := s.toks + 1 }) : wpAny (model prog w) A (call (.builtin "bytes.count") [.bytes b t, .bytes c u, .int i v, .int j v']) Q E s :=
  call_gives slot_bytes_count (typeIs_bytes _ _ _) entry_bytes_count (args_bytes_count_4 _ _ _ _) (gives_bcount hc) hq
theorem brfind4 (hq : Q (.int (brfi b c i j) s.toks) { s with toks := s.toks + 1 }) : wpAny (model prog w) A (call (.builtin "bytes.rfind") [.bytes b t, .bytes c u, .int i v, .int j v']) Q E s :=
  call_gives slot_bytes_rfind (typeIs_bytes _ _ _) entry_bytes_rfind (args_bytes_rfind_4 _ _ _ _) gives_brfind hq
end
theorem noIndex_bytes : typeLookup (.type "bytes") "__index__" = pure none := by rw [typeLookup_type, builtinLookup_eq_fast]; kernel_rfl
theorem typeName_bytes : typeName (.type "bytes") = pure "bytes" := by kernel_rfl
section
variable {prog : Program} {w : World} {A : Around} {E : Value → Shared → Prop} {s : Shared} {b c : Array UInt8} {t u v v' : Tok} {j : Int} {Q : Value → Shared → Prop}
theorem cut_bytes {n : Nat} {Q : String → Shared → Prop} (h : Q "bytes" s) : wpAny (model prog w) A (typeNameOfCut n (.bytes b t)) Q E s := by
  unfold typeNameOfCut shownTypeOf
  refine wpAny_bind (wpAny_bind (wpAny_typeOf (typeIs_bytes _ b t) ?_))
  simp only [show (Value.type "bytes" == Value.type "builtin_function_or_method") = false by decide, Bool.false_eq_true, if_false]
  refine wpAny_pure ?_
  rw [show typeNameCut n (.type "bytes") = typeName (.type "bytes") from rfl, typeName_bytes]
  exact wpAny_pure h
theorem asIndex_bytes {Q : Int → Shared → Prop} (hh : A.handled = none) (h : ∀ h' tk e, Heap.NewExc s.heap h' e "TypeError" → E (.ref e) { s with heap := h', toks := tk }) : wpAny (model prog w) A (asIndex (.bytes b t)) Q E s := by
  unfold asIndex
  refine wpAny_bind (wpAny_of_eq (show asInt? (Value.bytes b t) = pure none from rfl) ?_)
  refine wpAny_bind (wpAny_callSpecial?_none (typeIs_bytes s b t) noIndex_bytes ?_)
  exact wpAny_bind (cut_bytes (wpAny_raiseTypeError hh h))
theorem bcount_method {pl : Sem Bool} {Q : Value × List Value → Shared → Prop} (h : Q (.builtin "bytes.count", [.bytes b t]) s) : wpAny (model prog w) A (getMethod (.bytes b t) "count" pl) Q E s := by
  with_reducible exact KBd.method_of (.bytes b t) (typeIs_bytes _ _ _) slot_bytes_count type_bytes_count KBd.noRef h
theorem brfind_method {pl : Sem Bool} {Q : Value × List Value → Shared → Prop} (h : Q (.builtin "bytes.rfind", [.bytes b t]) s) : wpAny (model prog w) A (getMethod (.bytes b t) "rfind" pl) Q E s := by
  with_reducible exact KBd.method_of (.bytes b t) (typeIs_bytes _ _ _) slot_bytes_rfind type_bytes_rfind KBd.noRef h
end
end Mine
end

section
open PySem PySem.Builtin PySem.Builtin.Str PySem.StrLaws
set_option maxRecDepth 10000
namespace Mine
/-- the text of one sign -/
def one (c : Nat) : Str := ⟨#[c]⟩
theorem subAt_one (x : Str) (c i : Nat) : subAt x (one c) i = (x.cps[i]? == some c) := by
  unfold subAt one Str.length
  show (x.cps.extract i (i + 1) == #[c]) = _
  by_cases h : i < x.cps.size
  · have e : x.cps.extract i (i + 1) = #[x.cps[i]] := by
      apply Array.ext
      · simp; omega
      · intro j h1 h2
        simp at h2
        subst h2
        simp
    rw [e, Array.getElem?_eq_getElem h]
    by_cases hc : x.cps[i] = c <;> simp [hc]
  · have e : x.cps.extract i (i + 1) = #[] := by
      apply Array.ext
      · simp; omega
      · intro j h1 h2; simp at h2
    rw [e, Array.getElem?_eq_none (by omega)]
    simp

theorem occ_one_loop (x : Str) (c hi lim : Nat) : ∀ (n a : Nat) (acc : Array Nat) (free : Nat), free ≤ a → acc.size + n ≤ lim →
    (forIn (List.range' a n) (acc, free) (occBody x (one c) hi lim)).run.fst.toList = acc.toList ++ (List.range' a n).filter fun i => decide (i < hi) && x.cps[i]? == some c
  | 0, a, acc, free, _, _ => by simp
  | n + 1, a, acc, free, hf, hl => by
    have h1 : (one c).length = 1 := rfl
    rw [List.range'_succ, List.forIn_cons]
    unfold occBody
    rw [subAt_one, h1]
    by_cases hc : a < hi ∧ (x.cps[a]? == some c) = true
    · rw [if_pos ⟨⟨⟨by show acc.size < lim; omega, hf⟩, by omega⟩, hc.2⟩]
      have := occ_one_loop x c hi lim n (a + 1) (acc.push a) (a + 1) (Nat.le_refl _) (by simp; omega)
      unfold occBody at this
      simp only [pure_bind, subAt_one, h1] at this ⊢
      rw [this]
      simp [hc]
    · rw [if_neg (by rintro ⟨⟨_, h⟩, h'⟩; exact hc ⟨by omega, h'⟩)]
      have := occ_one_loop x c hi lim n (a + 1) acc free (by omega) (by omega)
      unfold occBody at this
      simp only [pure_bind, subAt_one, h1] at this ⊢
      rw [this]
      congr 1
      rw [List.filter_cons]
      have : ¬ ((decide (a < hi) && x.cps[a]? == some c) = true) := by simpa using hc
      rw [if_neg this]

theorem occ_one (x : Str) (c hi lim : Nat) (hl : hi + 1 ≤ lim) : occurrences x (one c) 0 hi lim = (List.range' 0 (hi + 1)).filter fun i => decide (i < hi) && x.cps[i]? == some c := by
  rw [occ_eq]
  have := occ_one_loop x c hi lim (hi + 1 - 0) 0 #[] 0 (Nat.le_refl _) (by simp; omega)
  rw [this]; simp

theorem filter_count (l : List Nat) (c : Nat) : ∀ n, n ≤ l.length → ((List.range' 0 n).filter fun i => l[i]? == some c).length = (l.take n).count c := by
  intro n
  induction n with
  | zero => intro _; simp
  | succ n ih =>
    intro hn
    have hlt : n < l.length := hn
    have ht : l.take (n + 1) = l.take n ++ [l[n]] := by rw [List.take_add_one, List.getElem?_eq_getElem hlt]; rfl
    rw [List.range'_1_concat, List.filter_append, List.length_append, ih (by omega), ht, List.count_append]
    congr 1
    rw [Nat.zero_add, List.filter_cons, List.getElem?_eq_getElem hlt]
    by_cases h : l[n] = c <;> simp [h]

theorem filter_range_lt (p : Nat → Bool) (hi : Nat) : (List.range' 0 (hi + 1)).filter (fun i => decide (i < hi) && p i) = (List.range' 0 hi).filter p := by
  rw [List.range'_1_concat, List.filter_append]
  have : ([0 + hi].filter fun i => decide (i < hi) && p i) = [] := by simp
  rw [this, List.append_nil]
  apply List.filter_congr
  intro i hi'
  simp at hi'
  simp [hi']

theorem occ_one_count (x : Str) (c hi lim : Nat) (hl : hi + 1 ≤ lim) (hx : hi ≤ x.length) : (occurrences x (one c) 0 hi lim).length = (x.cps.toList.take hi).count c := by
  rw [occ_one x c hi lim hl, filter_range_lt (fun i => x.cps[i]? == some c)]
  rw [← filter_count x.cps.toList c hi (by simpa [Str.length] using hx)]
  congr 2
  funext i
  rw [Array.getElem?_toList]

/-- where c stands last in l, -1 if nowhere -/
def lastIx (c : Nat) (l : List Nat) : Int := (l.length : Int) - 1 - (l.reverse.takeWhile (· != c)).length

theorem lastIx_concat (c a : Nat) (l : List Nat) : lastIx c (l ++ [a]) = if a = c then (l.length : Int) else lastIx c l := by
  unfold lastIx
  by_cases h : a = c
  · simp [h]
  · simp [h]; omega
theorem lastIx_lt (c : Nat) (l : List Nat) : lastIx c l < l.length := by unfold lastIx; omega
theorem lastIx_ge (c : Nat) (l : List Nat) : -1 ≤ lastIx c l := by
  unfold lastIx
  have := (List.takeWhile_sublist (p := (· != c)) (l := l.reverse)).length_le
  simp at this
  omega

theorem last_loop (f : Nat → Bool) : ∀ (l : List Nat) (o : Option Nat), (forIn (m := Id) l o (fun i r => if f i = true then pure (ForInStep.yield (some i)) else pure (ForInStep.yield r))).run = ((l.filter f).getLast?).or o
  | [], o => by simp
  | a :: l, o => by
    rw [List.forIn_cons]
    by_cases h : f a = true
    · rw [if_pos h]
      simp only [pure_bind]
      rw [last_loop f l (some a), List.filter_cons_of_pos h, List.getLast?_cons]
      cases (l.filter f).getLast? <;> simp
    · rw [if_neg h]
      simp only [pure_bind]
      rw [last_loop f l o, List.filter_cons_of_neg h]

theorem last_eq (x sub : Str) (lo hi : Nat) : lastOccurrence x sub lo hi = ((List.range' lo (hi + 1 - lo)).filter fun i => decide (i + sub.length ≤ hi) && subAt x sub i).getLast? := by
  unfold lastOccurrence
  have := last_loop (fun i => decide (i + sub.length ≤ hi) && subAt x sub i) (List.range' lo (hi + 1 - lo)) none
  simp at this ⊢
  exact this

theorem filter_last (l : List Nat) (c : Nat) : ∀ n, n ≤ l.length → (match ((List.range' 0 n).filter fun i => l[i]? == some c).getLast? with | some k => (k : Int) | none => -1) = lastIx c (l.take n) := by
  intro n
  induction n with
  | zero => intro _; simp [lastIx]
  | succ n ih =>
    intro hn
    have hlt : n < l.length := hn
    have ht : l.take (n + 1) = l.take n ++ [l[n]] := by rw [List.take_add_one, List.getElem?_eq_getElem hlt]; rfl
    rw [ht, lastIx_concat, ← ih (by omega), List.range'_1_concat, List.filter_append, Nat.zero_add, List.filter_cons, List.getElem?_eq_getElem hlt]
    by_cases h : l[n] = c
    · simp [h]; omega
    · simp [h]

theorem last_one (x : Str) (c hi : Nat) (hx : hi ≤ x.length) : (match lastOccurrence x (one c) 0 hi with | some k => (k : Int) | none => -1) = lastIx c (x.cps.toList.take hi) := by
  rw [last_eq, ← filter_last x.cps.toList c hi (by simpa [Str.length] using hx)]
  have : (List.range' 0 (hi + 1 - 0)).filter (fun i => decide (i + (one c).length ≤ hi) && subAt x (one c) i) = (List.range' 0 hi).filter fun i => x.cps.toList[i]? == some c := by
    rw [← filter_range_lt (fun i => x.cps.toList[i]? == some c)]
    apply List.filter_congr
    intro i _
    rw [subAt_one]
    have : (one c).length = 1 := rfl
    rw [this, Array.getElem?_toList]
    rfl
  rw [this]
end Mine
end

section
open PySem PySem.Builtin PySem.Builtin.Str PySem.StrLaws
set_option maxRecDepth 10000
namespace Mine
theorem occ_lim_loop (x : Str) (c hi lim : Nat) : ∀ (n a : Nat) (acc : Array Nat) (free : Nat), free ≤ a →
    (forIn (List.range' a n) (acc, free) (occBody x (one c) hi lim)).run.fst.toList = acc.toList ++ ((List.range' a n).filter fun i => decide (i < hi) && x.cps[i]? == some c).take (lim - acc.size)
  | 0, a, acc, free, _ => by simp
  | n + 1, a, acc, free, hf => by
    have h1 : (one c).length = 1 := rfl
    rw [List.range'_succ, List.forIn_cons]
    unfold occBody
    rw [subAt_one, h1]
    by_cases hc : a < hi ∧ (x.cps[a]? == some c) = true
    · by_cases hs : acc.size < lim
      · rw [if_pos ⟨⟨⟨by show acc.size < lim; omega, hf⟩, by omega⟩, hc.2⟩]
        have := occ_lim_loop x c hi lim n (a + 1) (acc.push a) (a + 1) (Nat.le_refl _)
        unfold occBody at this
        simp only [pure_bind, subAt_one, h1] at this ⊢
        rw [this]
        have e : lim - acc.size = (lim - (acc.push a).size) + 1 := by simp; omega
        rw [e, List.filter_cons, if_pos (by simpa using hc)]
        simp
      · rw [if_neg (by rintro ⟨⟨⟨h, _⟩, _⟩, _⟩; exact hs h)]
        have := occ_lim_loop x c hi lim n (a + 1) acc free (by omega)
        unfold occBody at this
        simp only [pure_bind, subAt_one, h1] at this ⊢
        rw [this]
        have e : lim - acc.size = 0 := by omega
        rw [e]
        simp
    · rw [if_neg (by rintro ⟨⟨_, h⟩, h'⟩; exact hc ⟨by omega, h'⟩)]
      have := occ_lim_loop x c hi lim n (a + 1) acc free (by omega)
      unfold occBody at this
      simp only [pure_bind, subAt_one, h1] at this ⊢
      rw [this]
      congr 2
      rw [List.filter_cons]
      have : ¬ ((decide (a < hi) && x.cps[a]? == some c) = true) := by simpa using hc
      rw [if_neg this]

theorem occ_empty (x : Str) (c : Nat) : (occurrences x (one c) 0 x.length 1).isEmpty = !(x.cps.toList.contains c) := by
  rw [occ_eq]
  have := occ_lim_loop x c x.length 1 (x.length + 1 - 0) 0 #[] 0 (Nat.le_refl _)
  rw [this]
  have e : ∀ l : List Nat, (([] : List Nat) ++ l.take (1 - 0)).isEmpty = l.isEmpty := by intro l; cases l <;> simp
  show (([] : List Nat) ++ _).isEmpty = _
  rw [show (#[] : Array Nat).size = 0 from rfl, e, Nat.sub_zero, filter_range_lt (fun i => x.cps[i]? == some c)]
  have hc := filter_count x.cps.toList c x.length (by simp [Str.length])
  have : (List.range' 0 x.length).filter (fun i => x.cps[i]? == some c) = (List.range' 0 x.length).filter (fun i => x.cps.toList[i]? == some c) := by
    congr 1; funext i; rw [Array.getElem?_toList]
  rw [this]
  rw [List.take_of_length_le (by simp [Str.length])] at hc
  cases h : (List.range' 0 x.length).filter (fun i => x.cps.toList[i]? == some c) with
  | nil =>
    rw [h] at hc
    have : ¬ c ∈ x.cps.toList := fun m => by have := List.count_pos_iff.mpr m; rw [← hc] at this; exact absurd this (Nat.lt_irrefl 0)
    simp only [List.isEmpty_nil, Bool.true_eq, Bool.not_eq_true']
    simpa using this
  | cons a r =>
    rw [h] at hc
    have : c ∈ x.cps.toList := List.count_pos_iff.mp (by rw [← hc]; exact Nat.zero_lt_succ _)
    simp only [List.isEmpty_cons, Bool.false_eq, Bool.not_eq_false']
    simpa using this

/-! octets -/
theorem extract_one (b : Array UInt8) (c : UInt8) (i : Nat) : (b.extract i (i + 1) == #[c]) = (b[i]? == some c) := by
  by_cases h : i < b.size
  · have e : b.extract i (i + 1) = #[b[i]] := by
      apply Array.ext
      · simp; omega
      · intro j h1 h2
        simp at h2
        subst h2
        simp
    rw [e, Array.getElem?_eq_getElem h]
    by_cases hc : b[i] = c <;> simp [hc]
  · have e : b.extract i (i + 1) = #[] := by
      apply Array.ext
      · simp; omega
      · intro j h1 h2; simp at h2
    rw [e, Array.getElem?_eq_none (by omega)]
    simp
def stepB (b : Array UInt8) (c : UInt8) (acc : List Nat × Nat) (i : Nat) : List Nat × Nat := if i ≥ acc.2 && b.extract i (i + 1) == #[c] then (i :: acc.1, i + 1) else acc
theorem stepB_fold (b : Array UInt8) (c : UInt8) : ∀ n, ((List.range n).foldl (stepB b c) ([], 0)).2 ≤ n ∧ ((List.range n).foldl (stepB b c) ([], 0)).1.length = ((List.range n).filter fun i => b[i]? == some c).length := by
  intro n
  induction n with
  | zero => simp
  | succ n ih =>
    rw [List.range_succ, List.foldl_append, List.filter_append]
    generalize (List.range n).foldl (stepB b c) ([], 0) = z at ih
    obtain ⟨i1, i2⟩ := ih
    simp only [List.foldl_cons, List.foldl_nil, List.length_append, List.filter_cons, List.filter_nil]
    unfold stepB
    rw [extract_one]
    by_cases h : (b[n]? == some c) = true
    · rw [h]; simp [i1, i2]
    · have h' : (b[n]? == some c) = false := by simpa using h
      rw [h']; simp [i2]; omega
/-- the numbers of the octets -/
def nums (b : Array UInt8) : List Nat := b.toList.map (·.toNat)
theorem filter_nums (b : Array UInt8) (c : UInt8) (n : Nat) : (List.range n).filter (fun i => b[i]? == some c) = (List.range' 0 n).filter (fun i => (nums b)[i]? == some c.toNat) := by
  rw [List.range_eq_range']
  congr 1
  funext i
  unfold nums
  rw [List.getElem?_map, Array.getElem?_toList]
  cases h : b[i]? with
  | none => simp
  | some a =>
    simp only [Option.map_some]
    by_cases hc : a = c
    · simp [hc]
    · have : a.toNat ≠ c.toNat := fun e => hc (UInt8.toNat_inj.mp e)
      have e1 : (some a == some c) = false := by simpa using hc
      have e2 : (some a.toNat == some c.toNat) = false := by simpa using this
      rw [e1, e2]
theorem nums_len (b : Array UInt8) : (nums b).length = b.size := by simp [nums]
theorem occB_count (b : Array UInt8) (c : UInt8) (stop : Nat) (h : stop ≤ b.size) : (Bytes.occurrences b #[c] 0 stop).length = ((nums b).take stop).count c.toNat := by
  have : Bytes.occurrences b #[c] 0 stop = ((List.range stop).foldl (stepB b c) ([], 0)).1.reverse := by
    unfold Bytes.occurrences stepB
    have e : stop + 1 - (0 + (#[c] : Array UInt8).size) = stop := by show stop + 1 - (0 + 1) = stop; omega
    rw [e]
    simp only [Nat.add_zero, List.map_id']
    rfl
  rw [this, List.length_reverse, (stepB_fold b c stop).2, filter_nums, filter_count _ _ _ (by rw [nums_len]; exact h)]
theorem rfind_last (p : Nat → Bool) (n : Nat) : (List.range n).reverse.find? p = ((List.range n).filter p).getLast? := by
  rw [← List.head?_filter, List.filter_reverse, List.head?_reverse]
theorem rfindB (b : Array UInt8) (c : UInt8) (stop : Nat) (h : stop ≤ b.size) : (match Bytes.rfind? b #[c] 0 stop with | some k => (k : Int) | none => -1) = lastIx c.toNat ((nums b).take stop) := by
  have : Bytes.rfind? b #[c] 0 stop = ((List.range' 0 stop).filter fun i => (nums b)[i]? == some c.toNat).getLast? := by
    unfold Bytes.rfind?
    have e : stop + 1 - (0 + (#[c] : Array UInt8).size) = stop := by show stop + 1 - (0 + 1) = stop; omega
    rw [e]
    simp only [Nat.add_zero, List.map_id']
    rw [rfind_last, ← filter_nums]
    congr 2
    funext i
    exact extract_one b c i
  rw [this]
  exact filter_last _ _ _ (by rw [nums_len]; exact h)
theorem findB (b : Array UInt8) (c : UInt8) : (Bytes.find? b #[c] 0 b.size).isSome = (nums b).contains c.toNat := by
  unfold Bytes.find?
  have e : b.size + 1 - (0 + (#[c] : Array UInt8).size) = b.size := by show b.size + 1 - (0 + 1) = b.size; omega
  rw [e]
  simp only [Nat.add_zero, List.map_id']
  rw [Bool.eq_iff_iff, List.find?_isSome]
  simp only [List.contains_iff_mem, nums, List.mem_map]
  constructor
  · rintro ⟨i, hi, h⟩
    rw [show (b.extract i (i + (#[c] : Array UInt8).size) == #[c]) = (b[i]? == some c) from extract_one b c i] at h
    have hi' : i < b.size := by simpa using hi
    rw [Array.getElem?_eq_getElem hi'] at h
    refine ⟨b[i], by simp, ?_⟩
    have : b[i] = c := by simpa using h
    rw [this]
  · rintro ⟨a, ha, e⟩
    have : a = c := UInt8.toNat_inj.mp e
    subst this
    obtain ⟨i, hi, h⟩ := List.getElem_of_mem ha
    refine ⟨i, by simpa using hi, ?_⟩
    rw [show (b.extract i (i + (#[a] : Array UInt8).size) == #[a]) = (b[i]? == some a) from extract_one b a i]
    have hi' : i < b.size := by simpa using hi
    rw [Array.getElem?_eq_getElem hi']
    simpa using h
end Mine
end

section
open PySem PySem.W PySem.Calls PySem.Spec PyProof.Rows PySem.Builtin
set_option maxRecDepth 100000
set_option maxHeartbeats 1000000
namespace Mine
section
variable {prog : Program} {w : World} {A : Around} {E : Value → Shared → Prop} {s : Shared} {X T : PySem.Str} {t tm tp tq : Tok} {Q : Value → Shared → Prop} {b L : Addr} {n : Nat} {h₀ : Heap} {news : List (Addr × Obj)} {p q : Int}
end
open Builtin.Str
theorem nl_one : Str.ofString "\n" = one 10 := by decide +kernel
/-- what the error words and places are, for a pattern of the signs l -/
def peLine (l : List Nat) (p : Int) : Int := ((l.take p.toNat).count 10 : Nat) + 1
def peCol (l : List Nat) (p : Int) : Int := p - lastIx 10 (l.take p.toNat)
def peHead (msg : Str) (p : Int) : Str := msg ++ Str.ofString " at position " ++ Str.ofString (toString p)
def peWords (msg : Str) (l : List Nat) (p : Int) : Str :=
  if l.contains 10 then peHead msg p ++ Str.ofString " (line " ++ Str.ofString (toString (peLine l p)) ++ Str.ofString ", column " ++ Str.ofString (toString (peCol l p)) ++ Str.ofString ")" else peHead msg p
theorem from0 (n : Nat) : fromIndex n 0 = 0 := by unfold fromIndex; simp
theorem take_min (l : List Nat) (n : Nat) : l.take (min n l.length) = l.take n := by
  by_cases h : n ≤ l.length
  · rw [Nat.min_eq_left h]
  · rw [Nat.min_eq_right (by omega), List.take_of_length_le (Nat.le_refl _), List.take_of_length_le (by omega)]
theorem occ_nl (D : Str) : (occurrences D (Str.ofString "\n") 0 D.length 1).isEmpty = !(D.cps.toList.contains 10) := by rw [nl_one]; exact occ_empty D 10
theorem find_nl (b : Array UInt8) : (Bytes.find? b #[10] 0 b.size).isSome = (nums b).contains 10 := findB b 10
end Mine
end

section
open PySem PySem.W PySem.Calls PySem.Spec PyProof.Rows
set_option maxRecDepth 100000
set_option maxHeartbeats 1000000
namespace Mine
open TI
section
variable {prog : Program} {w : World} {A : Around} {E : Value → Shared → Prop} {s : Shared} {K : Frag} {so b x C D L : Addr} {base : Heap} {m : Str → Option Value} {news news' : List (Addr × Obj)} {od : Option Addr} {flds : Array Value} {sl : Array (Option Value)} {odx : Option Obj}

theorem super_init_K {pl : Sem Bool} {Q : Value × List Value → Shared → Prop} (F : Fr base L s.heap m) (X₀ : K.In base) (N : News base L s.heap news) (hso : (so, ks_superObj D x C) ∈ news) (I : W.InstAt s.heap x ⟨.ref C, od, .fields flds, sl⟩ C odx)
    (ho : nsIn K cStatics "thirdparty.any" = some none) (hm : ks_superIn K C D "__init__" = some (some (.builtin "Exception.__init__"))) (hsub : mroIn K C (.type "Exception") = some true)
    (h : ∀ b h', Fr base L h' m → News base L h' ((b, ({ cls := .type "method-wrapper", data := .fields #[.builtin "Exception.__init__", .ref x] } : Obj)) :: news) → (∀ p ∈ news, p.1 < b) → Q (.ref b, []) { s with heap := h', toks := s.toks + 1 }) :
    wpAny (model prog w) A (getMethod (.ref so) "__init__" pl) Q E s := by
  have X : K.In s.heap := X₀.keeps F.keep
  obtain ⟨hh, g, d, t, os⟩ := s
  cases hc : clsIn K C with
  | none => unfold ks_superIn at hm; rw [hc] at hm; cases hm
  | some cd =>
    unfold ks_superIn at hm
    rw [hc] at hm
    refine super_getMethod_init (N _ hso).1 (looks_opaque X ho) (l₀ := cd.mro) ?_ rfl X hm I.at_ rfl (looks_mroIn X hsub) (ks_ne X I hc) ?_
    · exact fun A Q E s k q => wpAny_bind ((looks_clsIn X hc) A _ E s k (wpAny_pure q))
    · exact h _ _ (F.push _) (N.push F _ rfl) (fun q hq => Heap.lt_size (N q hq).1)

theorem mw_call_U {mv : Value} {Q : Value → Shared → Prop} {nm q : Str} {Ns : Addr} {bs : List Value} {hdct : Bool} {sn : List Str} {sub : List Value} {ab : Bool} {col : Option Bool} {dd : Option Addr} {k0 k1 k2 k3 k5 : Option Value} {a0 d : Addr} {c2 c3 c5 : Value} {b4 : Value} {news' : Addr → List (Addr × Obj)}
    (F : Fr base L s.heap m) (X₀ : K.In base) (N : News base L s.heap news)
    (hb : (b, ({ cls := .type "method-wrapper", data := .fields #[.builtin "Exception.__init__", .ref x] } : Obj)) ∈ news)
    (U : ∀ t, Upd x ({ cls := .ref C, dict := some d, data := .fields #[.ref a0, c2, c3, c5, b4, .none] } : Obj) ({ cls := .ref C, dict := some d, data := .fields #[.ref t, c2, c3, c5, b4, .none] } : Obj) news (news' t))
    (hC : K.lookup C = some (excClassObj nm q C Ns bs [.type "Exception", .type "BaseException", .type "object"] hdct sn sub ab col dd k0 k1 k2 k3 k5 "Exception.__new__"))
    (h : ∀ h' t, Fr base L h' m → News base L h' ((t, ({ cls := .type "tuple", data := .seq #[mv] } : Obj)) :: news' t) → (∀ p ∈ news, p.1 < t) → Q .none { s with heap := h' }) :
    wpAny (model prog w) A (call (.ref b) [mv]) Q E s := by
  have X : K.In s.heap := X₀.keeps F.keep
  obtain ⟨hh, g, dr, t, os⟩ := s
  obtain ⟨pre, post, e1, e2, a, c⟩ := (U hh.objs.size).split
  have hx := (N (x, _) (by rw [e1]; exact List.mem_append_right _ List.mem_cons_self)).1
  have hlt : ∀ p ∈ news, p.1 < hh.objs.size := fun p hp => Heap.lt_size (N p hp).1
  have hlx : x < hh.objs.size := Heap.lt_size hx
  refine wpAny_call (mw_call (N _ hb).1 (X _ _ hC) hx rfl rfl (Nat.zero_lt_succ _) rfl ?_)
  have F₁ := F.push ({ cls := .type "tuple", data := .seq #[mv] } : Obj)
  have N₁ := N.push F ({ cls := .type "tuple", data := .seq #[mv] } : Obj) rfl
  rw [e1] at N₁ hlt
  obtain ⟨F₂, N₂⟩ := news_upd (f := Obj.mapFields (·.setIfInBounds 0 (.ref hh.objs.size))) (pre := (hh.objs.size, ({ cls := .type "tuple", data := .seq #[mv] } : Obj)) :: pre) (post := post) F₁ N₁ (fun p hp => by
    rcases List.mem_cons.mp hp with rfl | hp
    · exact Ne.symm (Nat.ne_of_lt hlx)
    · exact a p hp) c (o' := ({ cls := .ref C, dict := some d, data := .fields #[.ref hh.objs.size, c2, c3, c5, b4, .none] } : Obj)) rfl rfl
  exact h _ hh.objs.size F₂ (by rw [e2]; exact N₂) (by rw [e1]; exact hlt)
/-- the object at b is the method-wrapper of x's Exception.__init__ -/
def MwAt (b x : Addr) (h : Heap) : Prop := h.get? b = some ({ cls := .type "method-wrapper", data := .fields #[.builtin "Exception.__init__", .ref x] } : Obj)
theorem mwAt {h : Heap} (N : News base L h news) (hb : (b, ({ cls := .type "method-wrapper", data := .fields #[.builtin "Exception.__init__", .ref x] } : Obj)) ∈ news) : MwAt b x h := (N _ hb).1
theorem and_mw {h : Heap} {P : Prop} (N : News base L h news) (hb : (b, ({ cls := .type "method-wrapper", data := .fields #[.builtin "Exception.__init__", .ref x] } : Obj)) ∈ news) (p : P) : MwAt b x h ∧ P := ⟨mwAt N hb, p⟩
theorem keeps_mw {M : Model} (h : Heap) (X : MwAt b x h) : ∃ k, (k = Keeper.frame ∨ k = Keeper.machine ∨ k = Keeper.boundFrame) ∧ Looks M h (keeperOf (.ref b)) k :=
  ⟨_, .inr (.inl rfl), (Looks.ld (part := none) X).andThen .now⟩
theorem callWith_mw {pos : Pos} {env : Env} {e : Expr} {rest : List Expr} {Q : Value → Shared → Prop} (_N : News base L s.heap news) (_hb : (b, ({ cls := .type "method-wrapper", data := .fields #[.builtin "Exception.__init__", .ref x] } : Obj)) ∈ news)
    (h : wpAny (model prog w) A (spliced (backTo pos (starEach (e :: rest) env))) (fun vs s₁ => MwAt b x s₁.heap ∧ wpAny (model prog w) A (call (.ref b) vs) Q E s₁) E s)
    (he : starEach (e :: rest) env = (false, eval e env) :: starEach rest env := by rfl) (hplain : (backTo pos (starEach rest env)).any (·.1) = false := by rfl) :
    wpAny (model prog w) A (callWith pos (.ref b) [] (backTo pos (starEach (e :: rest) env)) []) Q E s := by
  rw [he] at h ⊢
  exact callWith_of (by show ((false || (backTo pos (starEach rest env)).any (·.1)) || false) = false; rw [hplain]; rfl) keeps_mw (evalArgs_plain h)
theorem back3 {L' : Addr} {h : Heap} {m' : Str → Option Value} {oL : Obj} {sub news' : List (Addr × Obj)} {a b c : Addr} {oa ob oc : Obj} (C : Caller base L m oL) (F' : Fr base L' h m') (N' : News base L' h news') (hL : (L, { oL with slots := oL.slots }) ∈ news')
    (h1 : (a, oa) ∈ news') (h2 : (b, ob) ∈ news') (h3 : (c, oc) ∈ news') (hs : ∀ q ∈ sub, q ∈ news') (n1 : a ≠ L) (n2 : b ≠ L) (n3 : c ≠ L) (hn : ∀ q ∈ sub, q.1 ≠ L) : Fr base L h m ∧ News base L h ((a, oa) :: (b, ob) :: (c, oc) :: sub) :=
  ⟨backM C F' N' hL, backN N' (fun q hq => by
    rcases List.mem_cons.mp hq with rfl | hq
    · exact h1
    rcases List.mem_cons.mp hq with rfl | hq
    · exact h2
    rcases List.mem_cons.mp hq with rfl | hq
    · exact h3
    exact hs q hq) (fun q hq => by
    rcases List.mem_cons.mp hq with rfl | hq
    · exact n1
    rcases List.mem_cons.mp hq with rfl | hq
    · exact n2
    rcases List.mem_cons.mp hq with rfl | hq
    · exact n3
    exact hn q hq)⟩
/-- the dict of a PatternError -/
abbrev peD (P : Params) (k1 k2 k3 k4 k5 : Tok) (msg pat pos line col : Value) : Obj :=
  dictOf [⟨PyData.keyHash P (Str.ofString "msg"), .str (Str.ofString "msg") k1, msg⟩, ⟨PyData.keyHash P (Str.ofString "pattern"), .str (Str.ofString "pattern") k2, pat⟩, ⟨PyData.keyHash P (Str.ofString "pos"), .str (Str.ofString "pos") k3, pos⟩,
    ⟨PyData.keyHash P (Str.ofString "lineno"), .str (Str.ofString "lineno") k4, line⟩, ⟨PyData.keyHash P (Str.ofString "colno"), .str (Str.ofString "colno") k5, col⟩] 5
end
end Mine
end

section
open PySem PySem.W PySem.Calls PySem.Spec PyProof.Rows PySem.Builtin
set_option maxRecDepth 100000
set_option maxHeartbeats 1000000
namespace Mine
open TI
section
variable {prog : Program} {w : World} {A : Around} {E : Value → Shared → Prop} {s : Shared} {value slice : PySem.Expr} {x : PySem.Str} {t u : Tok} {n : Nat} {i : Int} {Q : Value → Shared → Prop}
theorem inst_ne {base : Heap} {L dx C y : Addr} {h : Heap} {news : List (Addr × Obj)} {es : List DictEntry} {n : Nat} (N : News base L h news) (h1 : (y, instObj C dx) ∈ news) (h2 : (dx, dictOf es n) ∈ news) : y ≠ dx := fun z => by
  have a := (N _ h1).1
  have b := (N _ h2).1
  subst z
  have := Option.some.inj (a.symm.trans b)
  exact absurd (congrArg Obj.cls this) (by intro q; cases q)
end
section
variable {prog : Program} {w : World} {A : Around} {E : Value → Shared → Prop} {s : Shared} {value slice : PySem.Expr} {x y z : PySem.Str} {t u : Tok} {n : Nat} {i : Int} {Q : Value → Shared → Prop}
theorem eq_strR {r : Bool} (e : (x == y) = r) (h : Q (.bool r) s) : wpAny (model prog w) A (compareOp .Eq (.str x t) (.str y u)) Q E s := PyProof.Rows.eq_str (by rw [e]; exact h)
theorem iadd_str1 (hx : 1 ≤ x.length) (hy : 1 ≤ y.length) (hsz : x.length + y.length ≤ 16777216) (h : Q (.str (x ++ y) s.toks) { s with toks := s.toks + 1 }) : wpAny (model prog w) A (inplaceOp .Add (.str x t) (.str y u)) Q E s := by
  refine P.iadd_str ?_
  rw [if_neg (by simp; omega), if_neg (by simp; omega)]
  refine ⟨?_, h⟩
  rw [Str.length_append, sizeLine_eq]; omega
end
theorem one_len (c : Nat) : (one c).length = 1 := rfl
theorem one_beq (c d : Nat) : (one c == one d) = (c == d) := by
  rw [Bool.eq_iff_iff]
  simp [one]
theorem bs_one : Str.ofString "\\" = one 92 := by decide +kernel
section
variable {α : Type} {a b c d q : α} {n f r : List α}
theorem mem_i1 (h : q ∈ a :: b :: (n ++ c :: f)) : q ∈ c :: a :: b :: (n ++ f) := by
  simp only [List.mem_cons, List.mem_append] at h ⊢; grind
theorem mem_i2 (h : q ∈ a :: b :: c :: r) : q ∈ c :: a :: b :: r := by
  simp only [List.mem_cons] at h ⊢; grind
end
theorem fin2 {base : Heap} {L L' x dx : Addr} {h : Heap} {m m' : Str → Option Value} {oL ox od : Obj} {sl : Array (Option Value)} {new frs : List (Addr × Obj)} (C : Caller base L m oL) (F' : Fr base L' h m')
    (N' : News base L' h ((x, ox) :: (dx, od) :: (new ++ ((L, { oL with slots := sl }) :: frs)))) (n1 : L ≠ x) (n2 : L ≠ dx) (n3 : ∀ q ∈ new ++ frs, q.1 ≠ L) : Fr base L h m ∧ News base L h ((x, ox) :: (dx, od) :: (new ++ frs)) :=
  ⟨backM (sl := sl) C F' N' (by simp), backN N' (fun q hq => by simp only [List.mem_cons, List.mem_append] at hq ⊢; grind) (fun q hq => by
    rcases List.mem_cons.mp hq with rfl | hq
    · exact n1.symm
    rcases List.mem_cons.mp hq with rfl | hq
    · exact n2.symm
    exact n3 q hq)⟩
theorem sameUp_cons {p : Addr × Obj} {frs frs' : List (Addr × Obj)} (h : SameUp (p :: frs) frs') : ∃ sl qs, frs' = (p.1, { p.2 with slots := sl }) :: qs ∧ SameUp frs qs := by
  cases frs' with
  | nil => exact False.elim h
  | cons q qs =>
    obtain ⟨a, ⟨sl, b⟩, c⟩ := h
    exact ⟨sl, qs, by rw [← a, ← b], c⟩
theorem up_ne {a : Addr} {new frs frs' : List (Addr × Obj)} (h : ∀ q ∈ new ++ frs, q.1 ≠ a) (S : SameUp frs frs') : ∀ q ∈ new ++ frs', q.1 ≠ a := fun q hq => by
  rcases List.mem_append.mp hq with hq | hq
  · exact h q (List.mem_append_left _ hq)
  · obtain ⟨r, hr, e⟩ := S.fwd q hq
    rw [e]; exact h r (List.mem_append_right _ hr)
/-- the three objects of a PatternError: itself, its dict, its words -/
def IsPe (P : Params) (C : Addr) (msg : Str) (pat : Value) (l : List Nat) (pos : Int) (e d t : Addr) (o3 : List (Addr × Obj)) : Prop :=
  ∃ k1 k2 k3 k4 k5 tm tp tl tc tw, o3 = [(e, peO C d (.ref t) .none .none .none (.bool false) .none), (d, peD P k1 k2 k3 k4 k5 (.str msg tm) pat (.int pos tp) (.int (peLine l pos) tl) (.int (peCol l pos) tc)), (t, ({ cls := .type "tuple", data := .seq #[.str (peWords msg l pos) tw] } : Obj))]
/-- «msg.encode('ascii', 'backslashreplace')» gives bs -/
def EncTo (msg : Str) (bs : Array UInt8) : Prop := ∀ (prog : Program) (w : World) (A : Around) (E : Value → Shared → Prop) (s : Shared) (Q : Value → Shared → Prop) (t t1 t2 : Tok),
  (∀ t' k, Q (.bytes bs t') { s with toks := k }) → wpAny (model prog w) A (call (.builtin "str.encode") [.str msg t, .str (Str.ofString "ascii") t1, .str (Str.ofString "backslashreplace") t2]) Q E s
/-- «bs.decode('ascii')» gives msg -/
def DecTo (bs : Array UInt8) (msg : Str) : Prop := ∀ (prog : Program) (w : World) (A : Around) (E : Value → Shared → Prop) (s : Shared) (Q : Value → Shared → Prop) (t t1 : Tok),
  (∀ t' k, Q (.str msg t') { s with toks := k }) → wpAny (model prog w) A (call (.builtin "bytes.decode") [.bytes bs t, .str (Str.ofString "ascii") t1]) Q E s
theorem enc_go {prog : Program} {w : World} {A : Around} {E : Value → Shared → Prop} {s : Shared} {Q : Value → Shared → Prop} {m : Str} {bs : Array UInt8} {t t1 t2 : Tok} (x : EncTo m bs) (h : ∀ t' k, Q (.bytes bs t') { s with toks := k }) : wpAny (model prog w) A (call (.builtin "str.encode") [.str m t, .str (Str.ofString "ascii") t1, .str (Str.ofString "backslashreplace") t2]) Q E s := x _ _ _ _ _ _ _ _ _ h
theorem dec_go {prog : Program} {w : World} {A : Around} {E : Value → Shared → Prop} {s : Shared} {Q : Value → Shared → Prop} {m : Str} {bs : Array UInt8} {t t1 : Tok} (x : DecTo bs m) (h : ∀ t' k, Q (.str m t') { s with toks := k }) : wpAny (model prog w) A (call (.builtin "bytes.decode") [.bytes bs t, .str (Str.ofString "ascii") t1]) Q E s := x _ _ _ _ _ _ _ _ h
theorem encode_method {M : Model} {A : Around} {E : Value → Shared → Prop} {s : Shared} {x : Str} {t : Tok} {pl : Sem Bool} {Q : Value × List Value → Shared → Prop} (h : Q (.builtin "str.encode", [.str x t]) s) : wpAny M A (getMethod (.str x t) "encode" pl) Q E s := by
  with_reducible exact GM.of (.str x t) (typeIs_str _ _ _) F.slot_str_encode F.type_str_encode GM.noRef h
end Mine
end

section
open PySem PySem.W PySem.Calls PySem.Spec PyProof.Rows PySem.Builtin
set_option maxRecDepth 100000
namespace Mine
open TI
/-- how long the sign that is next is -/
def nlen : Value → Int
  | .str y _ => y.length
  | _ => 0
/-- what can be next -/
def NextOk : Value → Prop
  | .none => True
  | .str y _ => 1 ≤ y.length ∧ y.length ≤ 2
  | _ => False

/-- the texts one behind the other -/
def cat : List Str → Str
  | l => l.foldl (· ++ ·) (Str.ofString "")
theorem cat_snoc (l : List Str) (y : Str) : cat (l ++ [y]) = cat l ++ y := by unfold cat; rw [List.foldl_append]; rfl
theorem cat_nil : cat [] = Str.ofString "" := rfl
theorem foldl_len : ∀ (l : List Str) (a : Str), (l.foldl (· ++ ·) a).length = a.length + (l.map Str.length).sum
  | [], a => by simp
  | y :: l, a => by
    rw [List.foldl_cons, foldl_len l, Str.length_append]
    simp only [List.map_cons, List.sum_cons]; omega
theorem cat_len (l : List Str) : (cat l).length = (l.map Str.length).sum := by
  unfold cat
  rw [foldl_len]
  have : (Str.ofString "").length = 0 := by decide +kernel
  omega

/-- the signs of D from i on -/
def Signs (D : Str) : Nat → List Str → Prop
  | i, [] => D.cps.toList[i]? = none
  | i, y :: r => (∃ c, D.cps.toList[i]? = some c ∧ c ≠ 92 ∧ y = one c ∧ Signs D (i + 1) r) ∨ (∃ c, D.cps.toList[i]? = some 92 ∧ D.cps.toList[i + 1]? = some c ∧ y = one 92 ++ one c ∧ Signs D (i + 2) r)
/-- a reader at index i whose next is nv: the sign that is next begins at p, and sgs are the signs from there -/
def RdAt (D : Str) (i : Nat) (nv : Value) (p : Nat) : List Str → Prop
  | [] => nv = .none ∧ i = p ∧ D.cps.toList[p]? = none
  | y :: r => ∃ t, nv = .str y t ∧ i = p + y.length ∧ 1 ≤ y.length ∧ y.length ≤ 2 ∧ i ≤ D.length ∧ Signs D i r
section
variable {prog : Program} {w : World} {A : Around} {E : Value → Shared → Prop} {s : Shared} {x y : PySem.Str} {t u : Tok} {n : Nat} {Q : Value → Shared → Prop}
theorem truthyR {b : Bool} {Q : Bool → Shared → Prop} (e : ((x.length : Int) != 0) = b) (hl : x.length ≤ 16777216) (h : ∀ k, Q b { s with toks := k }) : wpAny (model prog w) A (PySem.truthy (.str x t)) Q E s := KXt.truthy e hl h
theorem iadd_any (hsz : x.length + y.length ≤ 16777216) (h : ∀ t' k, Q (.str (x ++ y) t') { s with toks := k }) : wpAny (model prog w) A (inplaceOp .Add (.str x t) (.str y u)) Q E s := SB.iadd h (by rw [sizeLine_eq]; omega)
theorem add_any (hsz : x.length + y.length ≤ 16777216) (h : ∀ t' k, Q (.str (x ++ y) t') { s with toks := k }) : wpAny (model prog w) A (binaryOp .Add (.str x t) (.str y u)) Q E s := SB.add h (by rw [sizeLine_eq]; omega)
end
end Mine
end

section
open PySem PySem.W PySem.Calls PySem.Spec PyProof.Rows PySem.Builtin
set_option maxRecDepth 100000
set_option maxHeartbeats 1000000
namespace Mine
section
variable {prog : Program} {w : World} {A : Around} {E : Value → Shared → Prop} {s : Shared} {X : PySem.Str} {t u : Tok} {Q : Value → Shared → Prop}
end
end Mine
end

section
open PySem PySem.W PySem.Calls PySem.Spec PyProof.Rows PySem.Builtin
set_option maxRecDepth 100000
set_option maxHeartbeats 1000000
namespace Mine
open TI
/-- v is a new exception of the class C, and what follows takes it -/
def RaisesPe (C : Addr) (E : Value → Shared → Prop) (v : Value) (s₁ : Shared) : Prop := ∃ e dx a0 c2 c3 b4 c5 nm q N bs bm hdct sn sub ab col dd k0 k1 k2 k3 k5 newId, v = .ref e ∧ s₁.heap.get? C = some (excClassObj nm q C N bs bm hdct sn sub ab col dd k0 k1 k2 k3 k5 newId) ∧ bm.contains (.type "BaseException") = true ∧
      s₁.heap.get? e = some (peO C dx a0 .none c2 c3 b4 c5) ∧ E (.ref e) s₁
/-- the dict and the words of a PatternError -/
def IsPe2 (P : Params) (msg : Str) (pat : Value) (l : List Nat) (pos : Int) (d t : Addr) (o2 : List (Addr × Obj)) : Prop :=
  ∃ k1 k2 k3 k4 k5 tm tp tl tc tw, o2 = [(d, peD P k1 k2 k3 k4 k5 (.str msg tm) pat (.int pos tp) (.int (peLine l pos) tl) (.int (peCol l pos) tc)), (t, ({ cls := .type "tuple", data := .seq #[.str (peWords msg l pos) tw] } : Obj))]
theorem IsPe.split {P : Params} {C : Addr} {msg : Str} {pat : Value} {l : List Nat} {pos : Int} {e d t : Addr} {o3 : List (Addr × Obj)} (h : IsPe P C msg pat l pos e d t o3) : ∃ o2, IsPe2 P msg pat l pos d t o2 ∧ o3 = (e, peO C d (.ref t) .none .none .none (.bool false) .none) :: o2 ∧ (∀ q ∈ o2, q.1 = d ∨ q.1 = t) := by
  obtain ⟨k1, k2, k3, k4, k5, tm, tp, tl, tc, tw, rfl⟩ := h
  refine ⟨_, ⟨k1, k2, k3, k4, k5, tm, tp, tl, tc, tw, rfl⟩, rfl, fun q hq => ?_⟩
  simp only [List.mem_cons, List.not_mem_nil, or_false] at hq
  rcases hq with rfl | rfl
  · exact .inl rfl
  · exact .inr rfl
section
variable {prog : Program} {w : World} {A : Around} {E E1 : Value → Shared → Prop} {s : Shared} {env : Env} {C e d t L L' a : Addr} {base : Heap} {m m' : Str → Option Value}
end
theorem ff {x dx L : Addr} {oL : Obj} {new frs frs' : List (Addr × Obj)} (hdx : ∀ q ∈ new ++ frs, q.1 ≠ dx) (hxf : ∀ q ∈ frs, q.1 ≠ x) (hap : ∀ q ∈ new, q.1 ∉ frs.map (·.1)) (hLd : L ≠ dx) (hLx : L ≠ x) (hnL : ∀ q ∈ new ++ frs, q.1 ≠ L) (SU : SameUp frs frs') :
    (∀ q ∈ new ++ ((L, oL) :: frs'), q.1 ≠ dx) ∧ (∀ q ∈ (L, oL) :: frs', q.1 ≠ x) ∧ (∀ q ∈ new, q.1 ∉ ((L, oL) :: frs').map (·.1)) := by
  refine ⟨fun q hq => ?_, fun q hq => ?_, fun q hq hm => ?_⟩
  · rcases List.mem_append.mp hq with hq | hq
    · exact hdx q (List.mem_append_left _ hq)
    rcases List.mem_cons.mp hq with rfl | hq
    · exact hLd
    obtain ⟨r, hr, z⟩ := SU.fwd q hq
    rw [z]; exact hdx r (List.mem_append_right _ hr)
  · rcases List.mem_cons.mp hq with rfl | hq
    · exact hLx
    obtain ⟨r, hr, z⟩ := SU.fwd q hq
    rw [z]; exact hxf r hr
  · obtain ⟨r, hr, z⟩ := List.mem_map.mp hm
    rcases List.mem_cons.mp hr with rfl | hr
    · exact hnL q (List.mem_append_left _ hq) z.symm
    obtain ⟨r', hr', z'⟩ := SU.fwd r hr
    exact hap q hq (by rw [← z, z']; exact List.mem_map_of_mem hr')
theorem ffmid {x dx L : Addr} {oL ox od : Obj} {new frs' : List (Addr × Obj)} (h1 : ∀ q ∈ new ++ ((L, oL) :: frs'), q.1 ≠ dx) (h2 : ∀ q ∈ (L, oL) :: frs', q.1 ≠ x) (h3 : ∀ q ∈ new, q.1 ∉ ((L, oL) :: frs').map (·.1)) :
    ∀ q ∈ (x, ox) :: (dx, od) :: new, q.1 ∉ ((L, oL) :: frs').map (·.1) := by
  intro q hq hm
  obtain ⟨r, hr, z⟩ := List.mem_map.mp hm
  rcases List.mem_cons.mp hq with rfl | hq
  · exact h2 r hr z
  rcases List.mem_cons.mp hq with rfl | hq
  · exact h1 r (List.mem_append_right _ hr) z
  exact h3 q hq hm
theorem ffL {x dx L : Addr} {ox od : Obj} {new frs frs' : List (Addr × Obj)} (hLd : L ≠ dx) (hLx : L ≠ x) (hnL : ∀ q ∈ new ++ frs, q.1 ≠ L) (SU : SameUp frs frs') : ∀ q ∈ ((x, ox) :: (dx, od) :: new) ++ frs', q.1 ≠ L := by
  intro q hq
  rcases List.mem_append.mp hq with hq | hq
  · rcases List.mem_cons.mp hq with rfl | hq
    · exact hLx.symm
    rcases List.mem_cons.mp hq with rfl | hq
    · exact hLd.symm
    exact hnL q (List.mem_append_left _ hq)
  · obtain ⟨r, hr, z⟩ := SU.fwd q hq
    rw [z]; exact hnL r (List.mem_append_right _ hr)
/-- «str(b, 'latin1')» gives D -/
def LatTo (b : Array UInt8) (D : Str) : Prop := ∀ (prog : Program) (w : World) (A : Around) (E : Value → Shared → Prop) (s : Shared) (Q : Value → Shared → Prop) (t t1 : Tok),
  (∀ t' k, Q (.str D t') { s with toks := k }) → wpAny (model prog w) A (call (.type "str") [.bytes b t, .str (Str.ofString "latin1") t1]) Q E s
theorem lat_go {prog : Program} {w : World} {A : Around} {E : Value → Shared → Prop} {s : Shared} {Q : Value → Shared → Prop} {D : Str} {b : Array UInt8} {t t1 : Tok} (x : LatTo b D) (h : ∀ t' k, Q (.str D t') { s with toks := k }) : wpAny (model prog w) A (call (.type "str") [.bytes b t, .str (Str.ofString "latin1") t1]) Q E s := x _ _ _ _ _ _ _ _ h
end Mine
end

section
open PySem PySem.W PySem.Calls PySem.Spec PyProof.Rows PySem.Builtin
set_option maxRecDepth 100000
set_option maxHeartbeats 1000000
namespace Mine
/-- how a turn of a loop over a list of the ledger ends: the ledger may have grown -/
def TurnG (h₀ : Heap) (L I : Addr) (oI : Obj) (p₀ : Addr × Obj) (Jn : (Str → Option Value) → List (Addr × Obj) → Prop) (s₁ : Shared) (Q : Flow → Shared → Prop) (f : Flow) (s₂ : Shared) : Prop :=
  match f with
  | .ret v => Q (.ret v) s₂
  | .brk => Q .next s₂
  | _ => ∃ h' tk m₂ news₂, s₂ = { s₁ with heap := h', toks := tk } ∧ Fr h₀ L h' m₂ ∧ News h₀ L h' ((I, oI) :: news₂) ∧ (∀ p ∈ news₂, p.1 ≠ I) ∧ p₀ ∈ news₂ ∧ Jn m₂ news₂
section
variable {prog : Program} {w : World} {A : Around} {s : Shared} {env : Env} {h₀ : Heap} {E : Value → Shared → Prop} {Q : Flow → Shared → Prop} {x : Str} {body : List Stmt}
theorem iter_grow {l : Addr} {vs : List Value} {nn : Nat} {m₀ : Str → Option Value} {news : List (Addr × Obj)} (J : Nat → (Str → Option Value) → List (Addr × Obj) → Prop)
    (hh : A.handled = none) (hl : (l, W.listOf vs.toArray nn) ∈ news) (F : Fr h₀ env.locals s.heap m₀) (N : News h₀ env.locals s.heap news) (hj : J 0 m₀ news)
    (turn : ∀ i v m₁ news₁ h tk I oI, vs[i]? = some v → (l, W.listOf vs.toArray nn) ∈ news₁ → J i m₁ news₁ → (∀ p ∈ news₁, p.1 ≠ I) → Fr h₀ env.locals h (fun y => if y = x then some v else m₁ y) → News h₀ env.locals h ((I, oI) :: news₁) →
      wpAny (model prog w) A (execs body env) (TurnG h₀ env.locals I oI (l, W.listOf vs.toArray nn) (J (i + 1)) { s with heap := h, toks := tk } Q) E { s with heap := h, toks := tk })
    (done : ∀ m₁ news₁ h tk, J vs.length m₁ news₁ → Fr h₀ env.locals h m₁ → News h₀ env.locals h news₁ → Q .next { s with heap := h, toks := tk }) :
    wpAny (model prog w) A (pyIter (.ref l)) (fun it s₂ => LoopAtV prog w A h₀ env x body Q E it s₂) E s := by
  have hol : s.heap.get? l = some (W.listOf vs.toArray nn) := (N _ hl).1
  have hls : s.heap.IsList l vs.toArray := ⟨_, hol, rfl, nn, rfl⟩
  have hne : l ≠ s.heap.objs.size := Nat.ne_of_lt (Heap.lt_size hol)
  refine wpAny_pyIter_list hls ?_
  have Wk := Walks.list (prog := prog) (w := w) hh s.heap.objs.size l hne vs.toArray
  have hlen : vs.toArray.size = vs.length := by simp
  rw [hlen] at Wk
  refine ⟨_, _, _, vs.length, _, _, m₀, news, (fun i m nx => (l, W.listOf vs.toArray nn) ∈ nx ∧ J i m nx), rfl, Wk, ?_, ?_, ?_, ⟨⟨_, Heap.get?_push_size _ rfl, rfl, rfl⟩, hls.at fun o e => Heap.get?_push_of_some _ e⟩, F.push _, (fun p hp => ⟨Heap.get?_push_of_some _ (N p hp).1, (N p hp).2⟩), ⟨hl, hj⟩, ?_, ?_⟩
  · intro hm
    rcases List.mem_cons.mp hm with e | hm
    · exact absurd F.ns.lt (e ▸ Nat.lt_irrefl _)
    · exact (N _ hl).2.1 (List.mem_singleton.mp hm).symm
  · intro b hb
    rw [List.mem_singleton.mp hb]
    exact next_is_new F
  · intro p hp hI
    exact absurd (Heap.lt_size (N p hp).1) ((List.mem_singleton.mp hI) ▸ Nat.lt_irrefl _)
  · rintro i v m₁ news₁ s₁ own ⟨hh', tk', rfl⟩ hin hP ⟨hlm, hJ⟩ hoff hown hget hall hst F₁ N₁
    have hv : vs[i]? = some v := by simpa using hP
    obtain ⟨oI, hoI, _⟩ := hst.1
    have hIb : h₀.get? s.heap.objs.size = none := next_is_new F
    have hIown := hall s.heap.objs.size (by simp) hIb oI hoI
    have NI : News h₀ env.locals hh' ((s.heap.objs.size, oI) :: news₁) := fun p hp => by
      rcases List.mem_cons.mp hp with rfl | hp
      · exact N₁ _ (List.mem_append_left _ hIown)
      · exact N₁ _ (List.mem_append_right _ hp)
    have hoff' : ∀ p ∈ news₁, p.1 ≠ s.heap.objs.size := fun p hp e => hoff p hp (by rw [e]; exact List.mem_singleton_self _)
    refine wpAny_mono (turn i v m₁ news₁ hh' tk' s.heap.objs.size oI hv hlm hJ hoff' F₁ NI) (fun f s₂ p => ?_) fun _ _ e => e
    have fin : (∃ h' tk m₂ news₂, s₂ = { ({ s with heap := hh', toks := tk' } : Shared) with heap := h', toks := tk } ∧ Fr h₀ env.locals h' m₂ ∧ News h₀ env.locals h' ((s.heap.objs.size, oI) :: news₂) ∧ (∀ p ∈ news₂, p.1 ≠ s.heap.objs.size) ∧ (l, W.listOf vs.toArray nn) ∈ news₂ ∧ J (i + 1) m₂ news₂) →
        LoopStepU h₀ env.locals [s.heap.objs.size] own (fun m nx => (l, W.listOf vs.toArray nn) ∈ nx ∧ J (i + 1) m nx) { s with heap := hh', toks := tk' } .next s₂ := by
      rintro ⟨h', tk, m₂, news₂, rfl, F₂, N₂, ho, hm, hJ₂⟩
      refine ⟨rfl, h', tk, m₂, news₂, rfl, F₂, fun q hq => ?_, fun q hq hb => ho q hq (List.mem_singleton.mp hb), hm, hJ₂⟩
      rcases List.mem_append.mp hq with hq | hq
      · rcases List.mem_cons.mp (hown q hq) with h1 | h1
        · have h2 := hget q hq
          rw [h1] at h2
          have h3 : q.2 = oI := by
            have : (some q.2) = some oI := h2.symm.trans hoI
            exact Option.some.inj this
          have : q = (s.heap.objs.size, oI) := Prod.ext h1 h3
          rw [this]; exact N₂ _ List.mem_cons_self
        · have h1 := List.mem_singleton.mp h1
          have h2 := hget q hq
          rw [h1] at h2
          have h4 := (N₁ _ (List.mem_append_right _ hlm)).1
          have h3 : q.2 = W.listOf vs.toArray nn := Option.some.inj (h2.symm.trans h4)
          have : q = (l, W.listOf vs.toArray nn) := Prod.ext h1 h3
          rw [this]; exact N₂ _ (List.mem_cons_of_mem _ hm)
      · exact N₂ _ (List.mem_cons_of_mem _ hq)
    cases f with
    | ret v => exact p
    | brk => exact p
    | next => exact fin p
    | cont => exact fin p
  · intro h' tk m' news' F' N' hoff ⟨_, hJ⟩
    exact done m' news' h' tk hJ F' N'
end
end Mine
end

section
open PySem PySem.W PySem.Calls PySem.Spec PyProof.Rows PySem.Builtin
set_option maxRecDepth 100000
set_option maxHeartbeats 1000000
namespace Mine
section
variable {prog : Program} {w : World} {A : Around} {E : Value → Shared → Prop} {s : Shared} {value slice : PySem.Expr} {l L : Addr} {h₀ : Heap} {news : List (Addr × Obj)} {vs : List Value} {ws : List Str} {n : Nat} {i z k : Int} {u : Tok} {Q : Value → Shared → Prop}
theorem len_at {its : Array Value} (N : News h₀ L s.heap news) (hm : (l, W.listOf its n) ∈ news) (hsz : its.size ≤ 16777216) (h : ∀ t k, Q (.int its.size t) { s with toks := k }) : wpAny (model prog w) A (call (.builtin "len") [.ref l]) Q E s :=
  call_len_list ⟨_, (N _ hm).1, rfl, n, rfl⟩ (by omega) (h _ _)
end
end Mine
end

section
open PySem PySem.W PySem.Calls PySem.Spec PyProof.Rows PySem.Builtin
set_option maxRecDepth 100000
set_option maxHeartbeats 1000000
namespace Mine
/-- the numbers of a text's signs -/
def codes (x : Str) : List Int := x.cps.toList.map Int.ofNat
section
variable {prog : Program} {w : World} {A : Around} {E : Value → Shared → Prop} {s : Shared} {h₀ : Heap} {L : Addr} {m mg mb : Str → Option Value} {env : Env} {K : Frag} {p : Program} {loose : List Str} {mean : ExcName → Option Value} {news : List (Addr × Obj)}
/-- a list comprehension over the signs of a text -/
theorem comp_text {elt iter : Expr} {x : Str} {px : Pos} {scope : Scope} {cl : List (Str × Addr)} {pos : Pos} {Q : Value → Shared → Prop} {X : Str} {t : Tok}
    (_F₀ : Fr h₀ L s.heap m) (hclos : closureFor scope env = pure cl) (hcell : ∀ y ∈ scope.names, y.2 ≠ .cell) (hkind : scope.kind = .function)
    (hnames : ∀ y ∈ scope.names, y.2 = .local → scope.names.lookup y.1 = some .local) (hx : scope.names.lookup x = some .local)
    (hh : A.handled = none) (hsz : X.cps.size ≤ sizeLine)
    (h : wpAny (model prog w) A (eval iter env) (fun v s₁ => v = .str X t ∧ Fr h₀ L s₁.heap m ∧ News h₀ L s₁.heap news ∧
      ∀ s₂ : Shared, (∃ h, s₂ = { s₁ with heap := h }) → LCg.CompRest prog w A h₀ L m env elt x scope cl s₂ (fun _ => True) (SignAt X) (LCg.FinE h₀ L m s₂ Q) X.cps.size 0 [] news) E s)
    (hs : ∀ x, foldedSetIterable iter env x = pure x := by intro _; rfl) :
    wpAny (model prog w) A (eval (.ListComp elt [⟨.Name x px, iter, [], 0⟩] scope pos) env) Q E s := by
  rw [eval_ListComp]
  refine wpAny_comprehension_free (use := none) rfl hs hclos hkind hnames (wpAny_mono h (fun xv s₁ h₁ => ?_) fun _ _ e => e)
  obtain ⟨rfl, F, N, R⟩ := h₁
  have st1 : ∀ {T : String} i (h h' : Heap) (o : Obj) (nw : List (Addr × Obj)), h.IsStrIter s₁.heap.objs.size T X t i → h.get? s₁.heap.objs.size = some o → h'.get? s₁.heap.objs.size = some o → (∀ b o, h₀.get? b = some o → h'.get? b = some o) → News h₀ L h' nw → True → h'.IsStrIter s₁.heap.objs.size T X t i :=
    fun i h h' o nw st e e' _ _ _ => by obtain ⟨o', q, r⟩ := st; rw [e] at q; cases q; exact ⟨o, e', r⟩
  cases ha : X.cps.all (· < 128)
  · refine wpAny_pyIter_wide ha ?_
    refine LCg.block_U (Walks.strWide hh s₁.heap.objs.size X t) hsz (fun i h st => by obtain ⟨o, e, _⟩ := st; exact ⟨o, e⟩) st1 hcell hkind hx ⟨_, Heap.get?_push_size _ rfl, rfl, rfl⟩ (fun b hb => ?_)
      (F.keeps fun _ _ e => Heap.get?_push_of_some _ e) (N.grown fun _ _ e => Heap.get?_push_of_some _ e) (Nat.ne_of_lt F.ns.lt) (next_is_new F) (fun p hp => Nat.ne_of_lt (Heap.lt_size (N p hp).1)) trivial (R _ ⟨_, rfl⟩) ?_
    · rw [List.mem_singleton.mp hb]
      show s₁.heap.objs.size < (s₁.heap.push _).objs.size
      rw [Heap.size_push]; exact Nat.lt_succ_self _
    · intro D C h' tk m' ys news' F' N' o1 hn hC₀ hD₀ hCL hDL hCD offC fin
      refine ⟨m', hn, fun h'' hs'' => fin D h'' tk (F'.change hs'' hCL hC₀) (fun p hp => ?_) o1⟩
      refine ⟨hs''.extBut _ _ ?_ (N' p hp).1, (N' p hp).2⟩
      rcases List.mem_cons.mp hp with rfl | hp
      · exact Ne.symm hCD
      · exact offC p hp
  · refine wpAny_pyIter_ascii ha ?_
    refine LCg.block_U (Walks.strAscii hh s₁.heap.objs.size X t) hsz (fun i h st => by obtain ⟨o, e, _⟩ := st; exact ⟨o, e⟩) st1 hcell hkind hx ⟨_, Heap.get?_push_size _ rfl, rfl, rfl⟩ (fun b hb => ?_)
      (F.keeps fun _ _ e => Heap.get?_push_of_some _ e) (N.grown fun _ _ e => Heap.get?_push_of_some _ e) (Nat.ne_of_lt F.ns.lt) (next_is_new F) (fun p hp => Nat.ne_of_lt (Heap.lt_size (N p hp).1)) trivial (R _ ⟨_, rfl⟩) ?_
    · rw [List.mem_singleton.mp hb]
      show s₁.heap.objs.size < (s₁.heap.push _).objs.size
      rw [Heap.size_push]; exact Nat.lt_succ_self _
    · intro D C h' tk m' ys news' F' N' o1 hn hC₀ hD₀ hCL hDL hCD offC fin
      refine ⟨m', hn, fun h'' hs'' => fin D h'' tk (F'.change hs'' hCL hC₀) (fun p hp => ?_) o1⟩
      refine ⟨hs''.extBut _ _ ?_ (N' p hp).1, (N' p hp).2⟩
      rcases List.mem_cons.mp hp with rfl | hp
      · exact Ne.symm hCD
      · exact offC p hp
end
end Mine
end

section
open PySem PySem.W PySem.Calls PySem.Spec PyProof.Rows PySem.Builtin
set_option maxRecDepth 100000
set_option maxHeartbeats 1000000
namespace Mine
end Mine
end

section
open PySem PySem.W PySem.Calls PySem.Spec PyProof.Rows
set_option maxRecDepth 100000
set_option maxHeartbeats 1000000
namespace Mine
section
variable {prog : Program} {w : World} {A : Around} {E : Value → Shared → Prop} {s : Shared} {h₀ : Heap} {L l : Addr} {m : Str → Option Value} {news : List (Addr × Obj)} {x y : Str} {t u : Tok} {Q : Value → Shared → Prop} {value slice : PySem.Expr} {p n : Nat}
theorem len_atE {its : Array Value} {z : Int} (N : News h₀ L s.heap news) (hm : (l, W.listOf its n) ∈ news) (hz : (its.size : Int) = z) (hsz : z ≤ 16777216) (h : ∀ t k, Q (.int z t) { s with toks := k }) : wpAny (model prog w) A (call (.builtin "len") [.ref l]) Q E s :=
  len_at N hm (by omega) (by rw [hz]; exact h)
end
end Mine
end

section
open PySem PySem.W PySem.Calls PySem.Spec PyProof.Rows
set_option maxRecDepth 100000
set_option maxHeartbeats 1000000
namespace Mine
section
variable {prog : Program} {w : World} {A : Around} {E : Value → Shared → Prop} {s : Shared} {K : Frag}
theorem slot_bexc_str : Slot "BaseException" "__str__" "BaseException.__str__" :=
  .of (owner := "BaseException") (n := "__str__") (by rw [typeLookup_type, builtinLookup_eq_fast]; kernel_rfl) (by decide +kernel) (by decide +kernel) (by decide +kernel)
    (by first | exact .inl (by decide +kernel) | exact .inr (by decide +kernel)) (by rw [isSubtype_type]; kernel_rfl)
open Builtin Builtin.BaseException in
/-- «str(e)» of an exception of an own class with one word -/
theorem pe_str {e C t0 : Addr} {oe : Obj} {od : Option Obj} {vs : Array Value} {m : Str} {tk : Tok} {Q : Value → Shared → Prop} (hu : A.in1.in1.units < cLine) (X : K.In s.heap) (I : W.InstAt s.heap e oe C od)
    (hd : oe.data = .fields vs) (h0 : vs[0]? = some (.ref t0)) (ht : s.heap.get? t0 = some ({ cls := .type "tuple", data := .seq #[.str m tk] } : Obj))
    (hs : findIn K (.ref C) "__str__" = some (some (.builtin "BaseException.__str__"))) (hm : mroIn K C (.type "BaseException") = some true) (hq : Q (.str m tk) s) :
    wpAny (model prog w) A (call (.type "str") [.ref e]) Q E s := by
  refine callType_codes (T := "str") (Bi := Builtin.«object.__init__») (Q₁ := fun r s₁ => ∃ y u, r = .str y u ∧ Q r s₁) PySem.F.called_str (PySem.F.typeCall_str_1 _) PySem.F.entry_object_init ?_ ?_
  · refine codeAny_of_tree ?_
    show wpAny _ A.in1.in1 (do checkBuiltinCall "str.__new__" ⟨[.type "str", .ref e], []⟩; again (.builtin "str.__new__" ⟨[.type "str", .ref e], []⟩)) _ _ s
    refine wpAny_bind (wpAny_of_eq (PySem.F.newCall_str_1 _) (wpAny_pure ⟨plainId_quiet (by decide +kernel) _, codeAny_builtin PySem.F.entry_str_new ?_⟩))
    rw [Around.under_plainId (by decide +kernel) _]
    rw [PySem.str_new_tree]
    refine wpAny_bind (wpAny_pure ?_)
    refine wpAny_bind (wpAny_of_eq isSubtype_str_str ?_)
    have body : codeAny (model prog w) A.in1.in1 (.call (.builtin "BaseException.__str__") ⟨[.ref e], []⟩) (fun r s₁ => r = .ok (.ret (.str m tk)) ∧ s₁ = s) s := by
      refine codeAny_call_builtin slot_bexc_str.plain PySem.F.entry_bexc_str (check_slot (i := "BaseException.__str__") (owner := "BaseException") (n := "__str__") (by decide +kernel) (by decide +kernel) (I.type.andThen (looks_mroIn X hm)) (PySem.F.args_bexc_str _) ?_)
      have htd : ({ cls := .type "tuple", data := .seq #[.str m tk] } : Obj).data = .seq #[.str m tk] 0 := rfl
      have ba : ∀ (A' : Around) (Q : Value × List Value → Shared → Prop) (E : Value → Shared → Prop), Q (.ref t0, [.str m tk]) s → wpAny (model prog w) A' (bexcArgs (.ref e)) Q E s := by
        intro A' Q E hq
        unfold bexcArgs
        refine wpAny_bind (wpAny_field I.at_ hd h0 (wpAny_bind (wpAny_seqItems ht rfl ?_)))
        exact wpAny_pure hq
      unfold Builtin.«BaseException.__str__»
      repeat (first | with_reducible refine ba _ _ _ ?_ | wp_step)
      exact ⟨rfl, rfl⟩
    have key : wpAny (model prog w) A.in1.in1 (PySem.Builtin.Str.strOf (.ref e)) (fun r s₁ => ∃ y u, r = .str y u ∧ Q r s₁) E s := by
      unfold PySem.Builtin.Str.strOf
      rw [show PySem.Builtin.Str.isExactStr (.ref e) = false from rfl]
      refine wpAny_bind (m := cRoomFor _ _) (wpAny_cRoomFor hu ?_)
      refine wpAny_bind (m := callSpecial? (.ref e) (Str.ofString "__str__")) (kfo_special X I hs slot_bexc_str.bind (wpAny_call (codeAny_mono body fun r s₁ h => ?_)))
      obtain ⟨rfl, rfl⟩ := h
      exact wpAny_pure ⟨_, _, rfl, hq⟩
    exact wpAny_bind (wpAny_mono key (fun r s₁ hr => wpAny_pure hr) fun _ _ y => y)
  · rintro obj s₁ ⟨y, u, rfl, hq⟩
    exact ⟨typeIs_str _ _ _, PySem.F.args_object_init_2 _ _, object_init_meets PySem.F.called_str.init.lookup PySem.F.called_str.made (by decide) prog w A.in1 _ s₁ ⟨typeIs_str _ _ _, rfl, hq⟩⟩
end
theorem eqg_bytes (b c : Array UInt8) (t u : Tok) : MeetsSeq.EqGives (.bytes b t) (.bytes c u) (b.toList == c.toList) := by
  intro prog w A E s Q h
  unfold eqBool
  refine wpAny_holding ?_
  refine wpAny_ite_split (fun hab => ?_) (fun hab => ?_)
  · have e : b = c := by have := eq_of_beq hab; injection this
    subst e
    exact wpAny_bind (wpAny_rule (wpAny_pure (by simpa using h)))
  · exact wpAny_bind (PySem.richCompare_gives (typeIs_bytes s b t) (typeIs_bytes s c u) FB.slot_bytes_eq FB.entry_bytes_eq (FB.args_bytes_eq_2 _ _) (gives_bytes_eq b c t u) (by simp [Made.takes]) (wpAny_truthy_bool h))
/-- the same datum, whatever its token -/
def SameV : Value → Value → Prop
  | .str x _, .str y _ => x = y
  | .int i _, .int j _ => i = j
  | .bytes b _, .bytes c _ => b = c
  | _, _ => False
theorem SameV.eqg {x y : Value} (h : SameV x y) : MeetsSeq.EqGives x y true := by
  unfold SameV at h
  split at h
  · subst h
    intro prog w A E s Q hq
    exact SeqRoads2.EqGives.str _ _ _ _ prog w A E s Q (by rw [beq_self_eq_true]; exact hq)
  · subst h
    intro prog w A E s Q hq
    exact MeetsSeq.EqGives.int _ _ _ _ prog w A E s Q (by rw [beq_self_eq_true]; exact hq)
  · subst h
    intro prog w A E s Q hq
    exact eqg_bytes _ _ _ _ prog w A E s Q (by rw [beq_self_eq_true]; exact hq)
  · exact h.elim
theorem SameV.str (x : Str) (t u : Tok) : SameV (.str x t) (.str x u) := rfl
theorem SameV.int (i : Int) (t u : Tok) : SameV (.int i t) (.int i u) := rfl
theorem SameV.bytes (b : Array UInt8) (t u : Tok) : SameV (.bytes b t) (.bytes b u) := rfl
inductive AllSame : List Value → List Value → Prop
  | nil : AllSame [] []
  | cons {x y : Value} {xs ys : List Value} : SameV x y → AllSame xs ys → AllSame (x :: xs) (y :: ys)
section
variable {prog : Program} {w : World} {A : Around} {E : Value → Shared → Prop} {s : Shared} {h₀ : Heap} {L a b : Addr} {news : List (Addr × Obj)} {xs ys : List Value} {Q : Value → Shared → Prop}
end
/-- how a turn of a loop over enumerate ends -/
def EnumEnd (h₀ : Heap) (L e it : Addr) (oe oi : Obj) (p₀ : Addr × Obj) (Jn : (Str → Option Value) → List (Addr × Obj) → Prop) (s₀ : Shared) (Q : Flow → Shared → Prop) (f : Flow) (s₂ : Shared) : Prop :=
  match f with
  | .ret v => Q (.ret v) s₂
  | .brk => Q .next s₂
  | _ => ∃ h' tk m₂ news₂, s₂ = { s₀ with heap := h', toks := tk } ∧ Fr h₀ L h' m₂ ∧ News h₀ L h' ((e, oe) :: (it, oi) :: news₂) ∧ (∀ p ∈ news₂, p.1 ≠ e ∧ p.1 ≠ it) ∧ p₀ ∈ news₂ ∧ Jn m₂ news₂
section
variable {prog : Program} {w : World} {A : Around} {s : Shared} {env : Env} {h₀ : Heap} {E : Value → Shared → Prop} {Q : Flow → Shared → Prop} {body : List Stmt}
end
end Mine
end

section
open PySem PySem.W PySem.Calls PySem.Spec PyProof.Rows
set_option maxRecDepth 100000
set_option maxHeartbeats 1000000
namespace Mine
/-- the frame's names: what these are -/
def Has (m : Str → Option Value) (l : List (Str × Value)) : Prop := ∀ p ∈ l, m p.1 = some p.2
abbrev setM (m : Str → Option Value) (n : Str) (v : Value) : Str → Option Value := fun y => if y = n then some v else m y
def chainOf : List (Str × Value) → (Str → Option Value) → Str → Option Value
  | [], m => m
  | p :: l, m => fun y => if y = p.1 then some p.2 else chainOf l m y
theorem chain_eq {m : Str → Option Value} : ∀ {l : List (Str × Value)}, Has m l → chainOf l m = m
  | [], _ => rfl
  | p :: l, h => by
    have ih := chain_eq (l := l) (fun q hq => h q (List.mem_cons_of_mem _ hq))
    funext y
    show (if y = p.1 then some p.2 else chainOf l m y) = m y
    rw [ih]
    by_cases hy : y = p.1
    · rw [if_pos hy, hy]; exact (h p List.mem_cons_self).symm
    · rw [if_neg hy]
theorem Has.fr {m : Str → Option Value} {l : List (Str × Value)} (h : Has m l) {base hp : Heap} {L : Addr} (F : Fr base L hp m) : Fr base L hp (chainOf l m) := by rw [chain_eq h]; exact F
theorem Has.back {m : Str → Option Value} {l : List (Str × Value)} (h : Has m l) {base hp : Heap} {L : Addr} {n : Str} {v : Value} (F : Fr base L hp (fun y => if y = n then some v else chainOf l m y)) : Fr base L hp (setM m n v) := by rw [chain_eq h] at F; exact F
theorem Has.back2 {m : Str → Option Value} {l : List (Str × Value)} (h : Has m l) {base hp : Heap} {L : Addr} {n n' : Str} {v v' : Value} (F : Fr base L hp (fun y => if y = n then some v else if y = n' then some v' else chainOf l m y)) : Fr base L hp (setM (setM m n' v') n v) := by rw [chain_eq h] at F; exact F
theorem Has.nil {m : Str → Option Value} : Has m [] := fun _ h => nomatch h
theorem Has.cons {m : Str → Option Value} {l : List (Str × Value)} {n : Str} {v : Value} (h1 : m n = some v) (h : Has m l) : Has m ((n, v) :: l) := fun p hp => by
  rcases List.mem_cons.mp hp with rfl | hp
  · exact h1
  · exact h p hp
theorem Has.set {m : Str → Option Value} {l : List (Str × Value)} (h : Has m l) {n : Str} {v : Value} (hn : l.all (fun p => p.1 != n) = true) : Has (setM m n v) l := fun p hp => by
  have : p.1 ≠ n := by have := List.all_eq_true.mp hn p hp; simpa using this
  show (if p.1 = n then some v else m p.1) = _
  rw [if_neg this]; exact h p hp
theorem Has.put {m : Str → Option Value} {l : List (Str × Value)} (h : Has m l) {n : Str} {v : Value} (hn : l.all (fun p => p.1 != n) = true) : Has (setM m n v) ((n, v) :: l) := Has.cons (by show (if n = n then some v else m n) = _; rw [if_pos rfl]) (h.set hn)
/-- a text of at most n signs -/
def Sh (n : Nat) (x : Str) : Prop := x.length ≤ n
section
variable {prog : Program} {w : World} {A : Around} {E : Value → Shared → Prop} {s : Shared} {x y : Str} {t u : Tok} {Q : Value → Shared → Prop} {i j : Nat}
end
/-- what _law_whole gives -/
abbrev wholeO (msg : Str) (given : Value) (l : List Nat) (pos : Int) (tm tp tl tc tw : Tok) : Obj := { cls := .type "tuple", data := .seq #[.str msg tm, given, .int pos tp, .int (peLine l pos) tl, .int (peCol l pos) tc, .str (peWords msg l pos) tw] }
/-- a result: a name, or a refusal's words and place -/
def ResAt (gv : Value) (l : List Nat) (news : List (Addr × Obj)) (v : Value) : Str ⊕ (Str × Int) → Prop
  | .inl y => ∃ t, v = .str y t
  | .inr r => ∃ T g t1 t2 t3 t4 t5, v = .ref T ∧ SameV g gv ∧ (T, wholeO r.1 g l r.2 t1 t2 t3 t4 t5) ∈ news
end Mine
end

section
open PySem PySem.W PySem.Calls PySem.Spec PyProof.Rows
set_option maxRecDepth 100000
set_option maxHeartbeats 1000000
namespace Mine
section
variable {prog : Program} {w : World} {A : Around} {E : Value → Shared → Prop} {h₀ : Heap} {L : Addr} {m : Str → Option Value} {env : Env} {elt : Expr} {x : Str} {scope : Scope} {cl : List (Str × Addr)} {s : Shared} {S : List (Addr × Obj) → Prop} {P : Nat → Value → Prop} {Fin : List Value → List (Addr × Obj) → Prop} {news : List (Addr × Obj)}
/-- how one element of a comprehension of ints ends -/
def ElInt (h₀ : Heap) (L : Addr) (m : Str → Option Value) (s₁ : Shared) (r : Int) (all : List (Addr × Obj)) (y : Value) (s₂ : Shared) : Prop := ∃ h' tk t, y = .int r t ∧ s₂ = { s₁ with heap := h', toks := tk } ∧ Fr h₀ L h' m ∧ News h₀ L h' all
theorem comp_ints {n : Nat} (g : Nat → Int) (hS : S news)
    (turn : ∀ i v I oI C oC D m₂ ys h tk (E' : Value → Shared → Prop), i < n → P i v → LCg.NsObj oC m₂ → m₂ x = some v → Fr h₀ L h m → News h₀ L h ((I, oI) :: (C, oC) :: (D, LCg.lst ys) :: news) →
      wpAny (model prog w) A (eval elt (compEnvC scope cl C env)) (ElInt h₀ L m { s with heap := h, toks := tk } (g i) ((I, oI) :: (C, oC) :: (D, LCg.lst ys) :: news)) E' { s with heap := h, toks := tk })
    (fin : ∀ ys, IntsAre ys ((List.range n).map g) → Fin ys news) : LCg.CompRest prog w A h₀ L m env elt x scope cl s S P Fin n 0 [] news := by
  have key : ∀ (j i : Nat) (ys : List Value), i + j = n → IntsAre ys ((List.range i).map g) → LCg.CompRest prog w A h₀ L m env elt x scope cl s S P Fin j i ys news := by
    intro j
    induction j with
    | zero =>
      intro i ys hi hy
      have e : i = n := by omega
      subst e
      exact LCg.CompRest.zero (fin ys hy)
    | succ j ih =>
      intro i ys hi hy
      refine LCg.CompRest.succ ?_
      intro v I oI C oC D m₂ h tk E' hv hC hx F N off ne
      refine wpAny_mono (turn i v I oI C oC D m₂ ys h tk E' (by omega) hv hC hx F N) (fun y s₂ hq => ?_) fun _ _ e => e
      obtain ⟨h', tk', t', rfl, rfl, F', N'⟩ := hq
      refine ⟨h', tk', news, rfl, F', N', off, hS, ih (i + 1) _ (by omega) ?_⟩
      rw [List.range_succ, List.map_append]
      exact IntsAre.append hy (.cons (g i) t' .nil)
  exact key n 0 [] (by omega) .nil
theorem range_codes (X : Str) : (List.range X.cps.size).map (fun i => ((X.cps.getD i 0 : Nat) : Int)) = codes X := by
  apply List.ext_getElem
  · simp [codes]
  · intro i h1 h2
    have hi : i < X.cps.size := by simpa using h1
    simp [codes, Array.getD, hi]
end
/-- the octets of the numbers of a text whose signs are below 256 -/
theorem codes_in {D : Str} (h : ∀ c ∈ D.cps.toList, c < 256) : ∀ n ∈ codes D, 0 ≤ n ∧ n < 256 := by
  intro n hn
  obtain ⟨c, hc, rfl⟩ := List.mem_map.mp hn
  have := h c hc
  constructor
  · exact Int.natCast_nonneg c
  · show ((c : Nat) : Int) < 256; omega
theorem nums_codes {D : Str} (h : ∀ c ∈ D.cps.toList, c < 256) : nums (byteArr (codes D)) = D.cps.toList := by
  unfold nums byteArr codes
  simp only [List.map_map]
  have : ∀ l : List Nat, (∀ c ∈ l, c < 256) → l.map ((fun x : UInt8 => x.toNat) ∘ (fun n : Int => n.toNat.toUInt8) ∘ Int.ofNat) = l := by
    intro l hl
    refine (List.map_congr_left (g := _root_.id) fun c hc => ?_).trans (List.map_id _)
    have := hl c hc
    show (c.toUInt8).toNat = c
    simp [Nat.toUInt8]
    omega
  exact this _ h
end Mine
end

section
open PySem PySem.W PySem.Calls PySem.Spec PyProof.Rows PySem.Builtin
set_option maxRecDepth 100000
set_option maxHeartbeats 1000000
namespace Mine
section
variable {prog : Program} {w : World} {A : Around} {E : Value → Shared → Prop} {s : Shared}
theorem raiseNewH {α : Type} {hx e : Addr} {oh oe : Obj} {vsh vs : Array Value} {Q : α → Shared → Prop} (hh : A.handled = some (.ref hx)) (hg : s.heap.get? hx = some oh) (hd : oh.data = .fields vsh) (h2 : vsh[2]? = some .none)
    (he : s.heap.get? e = some oe) (hde : oe.data = .fields vs) (h3 : 2 < vs.size) (hne : hx ≠ e)
    (h : ∀ h', (∀ a o, a ≠ e → s.heap.get? a = some o → h'.get? a = some o) → E (.ref e) { s with heap := h' }) : wpAny (model prog w) A (raiseNew (.ref e) : Sem α) Q E s := by
  unfold raiseNew
  refine wpAny_bind (wpAny_handled ?_)
  rw [hh]
  show wpAny _ _ (if (Value.ref hx != Value.ref e) = true then _ else _) _ _ _
  rw [if_pos (by simpa using hne)]
  refine wpAny_bind (wpAny_holding (wpAny_runValue (unchain_end hg hd h2 ?_)))
  refine wpAny_bind (wpAny_mono (wpAny_setField (Q := fun _ s' => E (.ref e) s') he hde h3 ?_) (fun _ s' y => wpAny_throw y) fun _ _ y => y)
  refine h _ fun a o ha ho => ?_
  rw [Heap.get?_update_other _ _ (Ne.symm ha)]; exact ho
/-- a TypeError raised while an exception is handled -/
theorem raiseTypeErrorH {α : Type} {msg : String} {hx : Addr} {oh : Obj} {vsh : Array Value} {Q : α → Shared → Prop} (hh : A.handled = some (.ref hx)) (hg : s.heap.get? hx = some oh) (hd : oh.data = .fields vsh) (h2 : vsh[2]? = some .none)
    (h : ∀ h' tk e, (∀ a o, s.heap.get? a = some o → h'.get? a = some o) → E (.ref e) { s with heap := h', toks := tk }) (hm : (msg : Str).length ≤ sizeLine := by size_fits) :
    wpAny (model prog w) A (raiseError "TypeError" msg : Sem α) Q E s := by
  unfold raiseErrorMade
  refine wpAny_bind (wpAny_mkStr (wpAny_bind ?_) hm)
  unfold newExc newTuple
  refine wpAny_bind (wpAny_newObj_type ?_)
  refine wpAny_bind (m := firstArgMember _ _) (wpAny_of_eq (a := Value.none) (by simp only [firstArgMember, typeError_no_first]; rfl) ?_)
  rw [ownMembersOf_TypeError]
  refine wpAny_newObj_type ?_
  dsimp only
  generalize hH : s.heap.push _ = H
  have up : ∀ a o, s.heap.get? a = some o → H.get? a = some o := fun a o ho => by rw [← hH]; exact Heap.get?_push_of_some _ ho
  refine raiseNewH hh (Heap.get?_push_of_some _ (up _ _ hg)) hd h2 (Heap.get?_push_size H rfl) rfl (by simp) (Nat.ne_of_lt (Heap.lt_size (up _ _ hg))) fun h' hk => ?_
  exact h h' _ _ fun a o ho => hk a o (Nat.ne_of_lt (Heap.lt_size (up _ _ ho))) (Heap.get?_push_of_some _ (up _ _ ho))
variable {b c : Array UInt8} {t u : Tok}
/-- nothing is handled, or an exception of the ledger that has no context of its own -/
def HdOk (A : Around) (news : List (Addr × Obj)) : Prop := A.handled = none ∨ ∃ hx oh vsh, A.handled = some (.ref hx) ∧ (hx, oh) ∈ news ∧ oh.data = .fields vsh ∧ vsh[2]? = some .none
theorem asIndex_bytesH {news : List (Addr × Obj)} {base : Heap} {L : Addr} {Q : Int → Shared → Prop} (hh : HdOk A news) (N : News base L s.heap news) (h : ∀ h' tk e, (∀ a o, s.heap.get? a = some o → h'.get? a = some o) → E (.ref e) { s with heap := h', toks := tk }) : wpAny (model prog w) A (asIndex (.bytes b t)) Q E s := by
  rcases hh with hh | ⟨hx, oh, vsh, hh, hm, hd, h2⟩
  · exact asIndex_bytes hh fun h' tk e X => h h' tk e X.keeps
  · unfold asIndex
    refine wpAny_bind (wpAny_of_eq (show asInt? (Value.bytes b t) = pure none from rfl) ?_)
    refine wpAny_bind (wpAny_callSpecial?_none (typeIs_bytes s b t) noIndex_bytes ?_)
    exact wpAny_bind (cut_bytes (raiseTypeErrorH hh (N _ hm).1 hd h2 h))
theorem bytes_contains_meetsH {base : Heap} {L : Addr} : Meets («bytes.__contains__» ⟨[.bytes b t, .bytes c u], []⟩) (fun A R s => (∃ news, HdOk A news ∧ News base L s.heap news) ∧ ∀ h' tk, (∀ a o, s.heap.get? a = some o → h'.get? a = some o) → R (.ok (.ret (.bool (Bytes.find? b c 0 b.size).isSome))) { s with heap := h', toks := tk }) := by
  refine .of_wp fun prog w A R s h => ?_
  obtain ⟨⟨news, hh, N⟩, h⟩ := h
  unfold Builtin.«bytes.__contains__»
  show wpAny _ _ (Bytes.containsIn "bytes.__contains__" (.bytes b t) (.bytes c u) >>= fun _ => _) _ _ s
  refine wpAny_bind ?_
  unfold Bytes.containsIn
  refine wpAny_bind (wpAny_attempt (asIndex_bytesH (A := A.in1) hh N fun h' tk e X => ?_))
  refine wpAny_bind (wpAny_of_eq KBy.buffer_eq ?_)
  show wpAny _ _ (Bytes.buffer? _ (.bytes c u) >>= fun _ => _) _ _ _
  refine wpAny_bind (wpAny_of_eq KBy.buffer_eq ?_)
  refine wpAny_bind (wpAny_rule (wpAny_pure (wpAny_pure ⟨_, rfl, ?_⟩)))
  exact h h' tk X
theorem in_bytesH {base : Heap} {L : Addr} {m : Str → Option Value} {news : List (Addr × Obj)} {Q : Value → Shared → Prop} (F : Fr base L s.heap m) (N : News base L s.heap news) (hh : HdOk A news)
    (h : ∀ h' tk, Fr base L h' m → News base L h' news → Q (.bool (Bytes.find? b c 0 b.size).isSome) { s with heap := h', toks := tk }) : wpAny (model prog w) A (compareOp .In (.bytes c u) (.bytes b t)) Q E s := by
  show wpAny _ _ (do return .bool (← contains (.bytes b t) (.bytes c u))) Q E s
  refine wpAny_bind (wpAny_contains_slot (typeIs_bytes _ _ _) FB.slot_bytes_contains ?_)
  refine call_meets FB.slot_bytes_contains (typeIs_bytes _ _ _) FB.entry_bytes_contains (FB.args_bytes_contains_2 _ _) (bytes_contains_meetsH (base := base) (L := L)) ⟨⟨news, hh, N⟩, fun h' tk k => ?_⟩
  exact wpAny_pure (wpAny_pure (h h' tk (F.keeps k) fun q hq => ⟨k _ _ (N q hq).1, (N q hq).2⟩))
theorem HdOk.mono {news news' : List (Addr × Obj)} {A' : Around} (h : HdOk A news) (hs : ∀ q ∈ news, q ∈ news') (e : A'.handled = A.handled := by rfl) : HdOk A' news' := by
  rcases h with h | ⟨hx, oh, vsh, h, hm, hd, h2⟩
  · exact .inl (e.trans h)
  · exact .inr ⟨hx, oh, vsh, e.trans h, hs _ hm, hd, h2⟩
end
end Mine
end

section
open PySem PySem.W PySem.Calls PySem.Spec PyProof.Rows
set_option maxRecDepth 100000
set_option maxHeartbeats 1000000
namespace Mine
open TI
/-- what the reader was given: the text, or the octets of its numbers -/
def GivenIs (b : Bool) (gv : Value) (D : Str) : Prop := (b = true ∧ ∃ t, gv = .str D t) ∨ (b = false ∧ ∃ B t, gv = .bytes B t ∧ nums B = D.cps.toList)
/-- what a refusal's words become: for octets what is past 127 is escaped -/
def WordsTo (b : Bool) (m m' : Str) : Prop := (b = true ∧ m' = m) ∨ (b = false ∧ ∃ bs, EncTo m bs ∧ DecTo bs m')
theorem GivenIs.same {b : Bool} {gv : Value} {D : Str} (h : GivenIs b gv D) : SameV gv gv := by
  rcases h with ⟨_, t, rfl⟩ | ⟨_, B, t, rfl, _⟩
  · exact SameV.str _ _ _
  · exact SameV.bytes _ _ _
theorem GivenIs.handed {b : Bool} {gv : Value} {D : Str} (h : GivenIs b gv D) : handedIn gv = true := by
  rcases h with ⟨_, t, rfl⟩ | ⟨_, B, t, rfl, _⟩ <;> rfl
theorem sameUp_nil {frs' : List (Addr × Obj)} (h : SameUp [] frs') : frs' = [] := by
  cases frs' with
  | nil => rfl
  | cons _ _ => exact h.elim
/-- a refusal has left the callee: what stands then, in the caller's words -/
def RaisedE (P : Params) (base : Heap) (L : Addr) (m : Str → Option Value) (l : List Env) (mid frs : List (Addr × Obj)) (msg : Str) (gv : Value) (lst : List Nat) (pos : Int) (E : Value → Shared → Prop) (s : Shared) : Prop :=
  ∀ h' frs' tk e d t T oT oe o2 c2, SameUp frs frs' → Frs l frs' → Fr base L h' m → News base L h' ((T, oT) :: (e, oe) :: ((o2 ++ mid) ++ frs')) → IsPe2 P msg gv lst pos d t o2 → ExcAt oe oT (.ref 41) (some d) (.ref t) c2 T .none →
    (∀ q ∈ (o2 ++ mid) ++ frs', q.1 ≠ e ∧ q.1 ≠ T) → T ≠ e → (∀ q ∈ o2, q.1 = d ∨ q.1 = t) → (∀ q ∈ mid ++ frs', q.1 ≠ d ∧ q.1 ≠ t) → E (.ref e) { s with heap := h', toks := tk }
theorem RaisedE.up {P : Params} {base : Heap} {L : Addr} {m : Str → Option Value} {l : List Env} {mid frs qs : List (Addr × Obj)} {msg : Str} {gv : Value} {lst : List Nat} {pos : Int} {E : Value → Shared → Prop} {s : Shared} {h₁ : Heap} {k₁ : Nat} (h : RaisedE P base L m l mid frs msg gv lst pos E s) (SU : SameUp frs qs) : RaisedE P base L m l mid qs msg gv lst pos E { s with heap := h₁, toks := k₁ } :=
  fun h' frs' tk e d t T oT oe o2 c2 SU' => h h' frs' tk e d t T oT oe o2 c2 (SU.trans SU')
section
variable {prog : Program} {w : World} {A : Around} {E1 : Value → Shared → Prop} {s : Shared} {L L' a : Addr} {base : Heap} {m m' : Str → Option Value}
theorem pass_raised {P : Params} {msg : Str} {gv : Value} {lst : List Nat} {pos : Int} {mid frs : List (Addr × Obj)} {l : List Env} {ev : Env} {name : Str} {scope : Scope} {cd : Value} {oL : Obj} {sl : Array (Option Value)} {Ee : Value → Value → Shared → Prop}
    (Cl : Caller base L m oL) (hA : A.frames = some (envOf name scope L' a cd :: ev :: l)) (hk : scope.kind = .function)
    (hmid : ∀ q ∈ mid, q.1 ∉ ((L, { oL with slots := sl }) :: frs).map (·.1)) (hLf : ∀ q ∈ mid ++ frs, q.1 ≠ L)
    (h : RaisedE P base L m l mid frs msg gv lst pos E1 s) :
    RaisedE P base L' m' (ev :: l) mid ((L, { oL with slots := sl }) :: frs) msg gv lst pos (fun e s' => wpAny (model prog w) A (leaving (envOf name scope L' a cd) e) (fun _ s'' => E1 e s'') (Ee e) s') s := by
  intro h₁ frs₁ tk e d t T oT oe o2 c2 SU Fs F N p2 XA l1 l2 l3 l4
  have up : ∀ q ∈ frs₁, ∃ r ∈ (L, { oL with slots := sl }) :: frs, q.1 = r.1 := SU.fwd
  have hmap : frs₁.map (·.1) = ((L, { oL with slots := sl }) :: frs).map (·.1) := sameUp_map SU
  have hap : ∀ q ∈ o2 ++ mid, q.1 ≠ e ∧ q.1 ∉ frs₁.map (·.1) := fun q hq => by
    refine ⟨(l1 q (List.mem_append_left _ hq)).1, fun hm => ?_⟩
    rcases List.mem_append.mp hq with hq | hq
    · obtain ⟨r, hr, z⟩ := List.mem_map.mp hm
      have := l4 r (List.mem_append_right _ hr)
      rcases l3 q hq with h | h
      · exact this.1 (z.trans h)
      · exact this.2 (z.trans h)
    · exact hmid q hq (hmap ▸ hm)
  have hef : e ∉ frs₁.map (·.1) := fun hm => by
    obtain ⟨r, hr, z⟩ := List.mem_map.mp hm
    exact (l1 r (List.mem_append_right _ hr)).1 z
  have hTf : T ∉ frs₁.map (·.1) := fun hm => by
    obtain ⟨r, hr, z⟩ := List.mem_map.mp hm
    exact (l1 r (List.mem_append_right _ hr)).2 z
  refine leaveE2 (s := { s with heap := h₁, toks := tk }) hA hk Fs F N hap hef l2 (fun q hq => (l1 q (List.mem_append_left _ hq)).2) hTf XA fun h₂ frs₂ T₂ oT₂ oe₂ SU₂ Fs₂ F₂ N₂ lt X₂ => ?_
  obtain ⟨sl', qs, rfl, SU'⟩ := sameUp_cons (SU.trans SU₂)
  have ltE : ∀ q ∈ (o2 ++ mid) ++ frs₁, q.1 ≠ T₂ := fun q hq => lt_apart lt q (List.mem_cons_of_mem _ hq)
  have hTe : T₂ ≠ e := Ne.symm (lt_apart lt _ List.mem_cons_self)
  have hLfr : ∃ r ∈ frs₁, r.1 = L := by
    have : L ∈ frs₁.map (·.1) := by rw [hmap]; exact List.mem_cons_self
    obtain ⟨r, hr, z⟩ := List.mem_map.mp this
    exact ⟨r, hr, z⟩
  obtain ⟨rL, hrL, zL⟩ := hLfr
  have hTL : T₂ ≠ L := fun z => ltE rL (List.mem_append_right _ hrL) (zL.trans z.symm)
  have heL : e ≠ L := fun z => (l1 rL (List.mem_append_right _ hrL)).1 (zL.trans z.symm)
  have hdL : L ≠ d ∧ L ≠ t := by have := l4 rL (List.mem_append_right _ hrL); rw [zL] at this; exact this
  have upq : ∀ q ∈ qs, ∃ r ∈ frs, q.1 = r.1 := SU'.fwd
  have frq : ∀ q ∈ qs, ∃ r ∈ frs₁, q.1 = r.1 := fun q hq => SU₂.fwd q (List.mem_cons_of_mem _ hq)
  have := h h₂ qs tk e d t T₂ oT₂ oe₂ o2 c2 SU' Fs₂.2.2.2 (backM (sl := sl') Cl F₂ N₂ (by simp)) (backN N₂ (fun q hq => ?_) (fun q hq => ?_)) p2 X₂ (fun q hq => ?_) hTe l3 (fun q hq => ?_)
  · exact this
  · simp only [List.mem_cons, List.mem_append] at hq ⊢; grind
  · rcases List.mem_cons.mp hq with rfl | hq
    · exact hTL
    rcases List.mem_cons.mp hq with rfl | hq
    · exact heL
    rcases List.mem_append.mp hq with hq | hq
    · rcases List.mem_append.mp hq with hq | hq
      · rcases l3 q hq with z | z
        · rw [z]; exact hdL.1.symm
        · rw [z]; exact hdL.2.symm
      · exact hLf q (List.mem_append_left _ hq)
    · obtain ⟨r, hr, z⟩ := upq q hq
      rw [z]; exact hLf r (List.mem_append_right _ hr)
  · rcases List.mem_append.mp hq with hq | hq
    · exact ⟨(hap q hq).1, ltE q (List.mem_append_left _ hq)⟩
    · obtain ⟨r, hr, z⟩ := frq q hq
      rw [z]
      exact ⟨(l1 r (List.mem_append_right _ hr)).1, ltE r (List.mem_append_right _ hr)⟩
  · rcases List.mem_append.mp hq with hq | hq
    · exact l4 q (List.mem_append_left _ hq)
    · obtain ⟨r, hr, z⟩ := frq q hq
      rw [z]; exact l4 r (List.mem_append_right _ hr)
end
end Mine
end

section
open PySem PySem.W PySem.Calls PySem.Spec PyProof.Rows PySem.Builtin
set_option maxRecDepth 100000
set_option maxHeartbeats 1000000
namespace Mine
open TI
/-- the sign at a place, from behind if the place is negative -/
def chAt (D : Str) (j : Int) : Option Nat := (seqIndex? j D.length).bind fun k => D.cps.toList[k]?
theorem chAt_some {D : Str} {j : Int} {c : Nat} (h : chAt D j = some c) : -(D.length : Int) ≤ j ∧ j < D.length := by
  unfold chAt seqIndex? at h
  by_cases h0 : j < 0
  · simp only [h0, if_true] at h
    by_cases h1 : 0 ≤ j + (D.length : Int)
    · omega
    · simp [h1] at h
  · simp only [h0, if_false] at h
    by_cases h1 : j < (D.length : Int)
    · omega
    · simp [h1] at h
theorem chAt_none {D : Str} {j : Int} (h : chAt D j = none) : (seqIndex? j D.length).bind (D.cps[·]?) = none := by
  unfold chAt at h
  cases hs : seqIndex? j D.length with
  | none => rfl
  | some k => rw [hs] at h; show D.cps[k]? = none; rw [← Array.getElem?_toList]; exact h
theorem item_z {D : Str} {j : Int} {c : Nat} (h : chAt D j = some c) : Txt.item D j = one c := by
  unfold chAt at h
  unfold Txt.item Txt.charAt
  cases hs : seqIndex? j D.length with
  | none => rw [hs] at h; cases h
  | some k =>
    rw [hs] at h
    have hc : D.cps[k]? = some c := by rw [← Array.getElem?_toList]; exact h
    show (⟨#[((D.cps[k]?).getD 0)]⟩ : Str) = one c
    rw [hc]
    rfl
section
variable {prog : Program} {w : World} {A : Around} {E : Value → Shared → Prop} {s : Shared} {value slice : PySem.Expr} {x : PySem.Str} {t u : Tok} {n : Nat} {i : Int} {Q : Value → Shared → Prop}
theorem str_outZ (e : chAt x i = none) (hh : A.handled = none) (h0 : -1000000 ≤ i) (h1 : i ≤ 1000000) (h : ∀ h' tk e, Heap.NewExc s.heap h' e "IndexError" → E (.ref e) { s with heap := h', toks := tk })
    (hs : subscripted slice false (.str x t) (.int i u) = operate [.str x t, .int i u] (getItem (.str x t) (.int i u)) := by with_unfolding_all rfl)
    (ht : ∀ r, letTemporaryGo value (.str x t) r = pure () := by intro _; with_unfolding_all rfl) :
    wpAny (model prog w) A (subscriptTail value slice (.str x t) (.int i u)) Q E s := by
  refine tail_of_ItemOn ⟨"str", _, F.slot_str_getitem.lookup, typeIs_str _ _ _, getItem_meets (typeIs_str _ _ _) (by decide) F.slot_str_getitem F.entry_str_getitem (F.args_str_getitem_2 _ _) (raises_str_getitem x i t u ?_ ?_) ⟨hh, h⟩⟩ hs ht
  · simp only [Bool.or_eq_false_iff, decide_eq_false_iff_not]; omega
  · exact chAt_none e
theorem str_inZ {c : Nat} (e : chAt x i = some c) (hn : x.length ≤ 16777216) (h : Q (.str (one c) s.toks) { s with toks := s.toks + 1 })
    (hs : subscripted slice false (.str x t) (.int i u) = operate [.str x t, .int i u] (getItem (.str x t) (.int i u)) := by with_unfolding_all rfl)
    (ht : ∀ r, letTemporaryGo value (.str x t) r = pure () := by intro _; with_unfolding_all rfl) :
    wpAny (model prog w) A (subscriptTail value slice (.str x t) (.int i u)) Q E s :=
  KXi.item rfl (chAt_some e).1 (chAt_some e).2 hn (fun _ => by rw [item_z e]; exact h) hs ht
end
/-- one step of the reader at place i: where it then stands and its next sign; or nothing if a lone backslash would have to be read -/
def stepZ (D : Str) (i : Int) : Option (Int × Option Str) :=
  match chAt D i with
  | none => some (i, none)
  | some c => if c = 92 then (match chAt D (i + 1) with | none => none | some d => some (i + 2, some (one 92 ++ one d))) else some (i + 1, some (one c))
/-- a value that is the next sign -/
def NvIs (v : Value) (o : Option Str) : Prop := match o with | none => v = .none | some y => ∃ t, v = .str y t
/-- a place that can come -/
def Bz (D : Str) (i : Int) : Prop := -(D.length : Int) - 1 ≤ i ∧ i ≤ D.length + 1
theorem stepZ_bz {D : Str} {i i' : Int} {o : Option Str} (h : stepZ D i = some (i', o)) (hb : Bz D i) : Bz D i' := by
  unfold stepZ at h
  unfold Bz at hb ⊢
  split at h
  · cases h; exact hb
  · rename_i c hc
    have := chAt_some hc
    split at h
    · split at h
      · cases h
      · rename_i d hd
        have := chAt_some hd
        cases h; omega
    · cases h; omega
theorem stepZ_len {D : Str} {i i' : Int} {y : Str} (h : stepZ D i = some (i', some y)) : 1 ≤ y.length ∧ y.length ≤ 2 := by
  unfold stepZ at h
  split at h
  · cases h
  · split at h
    · split at h
      · cases h
      · cases h; rw [Str.length_append]; exact ⟨(by decide : 1 ≤ 1 + 1), (by decide : 1 + 1 ≤ 2)⟩
    · cases h; exact ⟨(by decide : 1 ≤ 1), (by decide : 1 ≤ 2)⟩
end Mine
end

section
open PySem PySem.W PySem.Calls PySem.Spec PyProof.Rows PySem.Builtin
set_option maxRecDepth 100000
set_option maxHeartbeats 1000000
namespace Mine
theorem toString_neg {n : Int} (h : n < 0) : PySem.Str.ofString (toString n) = PySem.Str.ofString "-" ++ PySem.Str.ofString (toString ((n.natAbs : Nat) : Int)) := by
  obtain ⟨k, rfl⟩ : ∃ k, n = Int.negSucc k := ⟨(-n - 1).toNat, by omega⟩
  have e : toString (Int.negSucc k) = "-" ++ toString (((Int.negSucc k).natAbs : Nat) : Int) := rfl
  rw [e]
  have key : ∀ a b : String, (PySem.Str.ofString (a ++ b)).cps = (PySem.Str.ofString a ++ PySem.Str.ofString b).cps := fun a b => by
    rw [PySem.Str.cps_append]
    apply Array.ext'
    rw [Array.toList_append]
    show cpsOfBytes 0 0 (a ++ b).toByteArray.data.toList = cpsOfBytes 0 0 a.toByteArray.data.toList ++ cpsOfBytes 0 0 b.toByteArray.data.toList
    rw [cpsOfBytes_string, cpsOfBytes_string, cpsOfBytes_string, String.toList_append, List.map_append]
  exact congrArg PySem.Str.mk (key _ _)
section
open KPc Builtin.Str
variable {M : Model} {A : Around} {E : Value → Shared → Prop} {s : Shared} {l : List Nat} {p : List Value} {r : List Nat}
  {f : Nat → List Value × Builtin.Str.Writer × List Nat → Sem (ForInStep (List Value × Builtin.Str.Writer × List Nat))} {Q : List Value × Builtin.Str.Writer × List Nat → Shared → Prop}
  {w : Builtin.Str.Writer} {T x y : PySem.Str} {N K : Nat} {o : Option Value}
theorem toString_lenZ {n : Int} (hn : -100000 ≤ n) (hm : n ≤ 100000) : (PySem.Str.ofString (toString n)).length ≤ 11 := by
  by_cases h : n < 0
  · rw [toString_neg h, PySem.Str.length_append]
    have := toString_length_le (v := ((n.natAbs : Nat) : Int)) (by omega) (k := 10) (by decide) (by omega)
    have : (PySem.Str.ofString "-").length = 1 := by decide +kernel
    omega
  · have := toString_length_le (v := n) (by omega) (k := 10) (by decide) (by omega)
    omega
theorem after_intZ {c : Percent} {n : Int} {d : List Nat} (g : KPc.Good w T N) (h1 : c.alt = false) (h2 : c.type = 100 ∨ c.type = 105 ∨ c.type = 117) (h3 : c.prec = none) (hn : -100000 ≤ n) (hm : n ≤ 100000)
    (hd : d = (PySem.Str.ofString (toString ((n.natAbs : Nat) : Int))).cps.toList) (ho : o = none) (h : ∀ w', KPc.Good w' (T ++ PySem.Str.ofString (toString n)) (N + 11) → wpAny M A (forIn l (p, w', r) f) Q E s) :
    wpAny M A (forIn l (p, w.add ⟨(percentInt c (decide (n < 0)) d).toArray⟩ o, r) f) Q E s := by
  have e : percentInt c (decide (n < 0)) d = (PySem.Str.ofString (toString n)).cps.toList := by
    by_cases h0 : n < 0
    · have e1 : percentInt c (decide (n < 0)) d = 45 :: d := by
        unfold percentInt
        rcases h2 with h2 | h2 | h2 <;> simp [h1, h2, h3, h0]
      rw [e1, toString_neg h0, PySem.Str.cps_append, Array.toList_append, hd]
      rfl
    · have en : ((n.natAbs : Nat) : Int) = n := Int.natAbs_of_nonneg (by omega)
      rw [KPc.int_text c h1 h2 h3 (by omega), hd, en]
  rw [e]
  exact KPc.after_str g (toString_lenZ hn hm) (KPc.obj_none ho) h
end
section
variable {prog : Program} {w : World} {A : Around} {E : Value → Shared → Prop} {s : Shared} {X T : PySem.Str} {t tm tp tq : Tok} {Q : Value → Shared → Prop} {b L : Addr} {n : Nat} {h₀ : Heap} {news : List (Addr × Obj)} {p q : Int}
local macro_rules | `(tactic| kpt_piece) => `(tactic| (refine after_intZ (by kpc_g) rfl (by kpc_kind) rfl (by omega) (by omega) rfl (by kpc_none) ?_; intro _ _))
theorem mod1Z (N : News h₀ L s.heap news) (hb : (b, ({ cls := .type "tuple", data := .seq #[.str X tm, .int p tp] } : Obj)) ∈ news) (hX : X.length ≤ 20000) (h0 : -100000 ≤ p) (h1 : p ≤ 100000)
    (h : ∀ t' k, Q (.str (X ++ Str.ofString " at position " ++ Str.ofString (toString p)) t') { s with toks := k }) : wpAny (model prog w) A (binaryOp .Mod (.str (Str.ofString "%s at position %d") t) (.ref b)) Q E s := by
  refine' KPt.mod_tuple N hb ?kptF ?kptm ?_
  case kptF => kpt_eq
  case kptm => kpt_run
  intro t k
  exact h t k
theorem mod2Z (N : News h₀ L s.heap news) (hb : (b, ({ cls := .type "tuple", data := .seq #[.str X tm, .int p tp, .int q tq] } : Obj)) ∈ news) (hX : X.length ≤ 40000) (h0 : -100000 ≤ p) (h1 : p ≤ 100000) (h2 : -100000 ≤ q) (h3 : q ≤ 100000)
    (h : ∀ t' k, Q (.str (X ++ Str.ofString " (line " ++ Str.ofString (toString p) ++ Str.ofString ", column " ++ Str.ofString (toString q) ++ Str.ofString ")") t') { s with toks := k }) : wpAny (model prog w) A (binaryOp .Mod (.str (Str.ofString "%s (line %d, column %d)") t) (.ref b)) Q E s := by
  refine' KPt.mod_tuple N hb ?kptF ?kptm ?_
  case kptF => kpt_eq
  case kptm => kpt_run
  intro t k
  exact h t k
end
open Builtin.Str
/-- where a place ends a text of n signs: from behind if it is negative -/
def clipZ (n : Nat) (p : Int) : Nat := if p < 0 then (p + n).toNat else p.toNat
def lineZ (l : List Nat) (p : Int) : Int := ((l.take (clipZ l.length p)).count 10 : Nat) + 1
def colZ (l : List Nat) (p : Int) : Int := p - lastIx 10 (l.take (clipZ l.length p))
def wordsZ (msg : Str) (l : List Nat) (p : Int) : Str :=
  if l.contains 10 then peHead msg p ++ Str.ofString " (line " ++ Str.ofString (toString (lineZ l p)) ++ Str.ofString ", column " ++ Str.ofString (toString (colZ l p)) ++ Str.ofString ")" else peHead msg p
theorem clip_pos {n : Nat} {p : Int} (h : 0 ≤ p) : clipZ n p = p.toNat := by unfold clipZ; rw [if_neg (by omega)]
theorem line_pos {l : List Nat} {p : Int} (h : 0 ≤ p) : lineZ l p = peLine l p := by unfold lineZ peLine; rw [clip_pos h]
theorem col_pos {l : List Nat} {p : Int} (h : 0 ≤ p) : colZ l p = peCol l p := by unfold colZ peCol; rw [clip_pos h]
theorem words_pos {msg : Str} {l : List Nat} {p : Int} (h : 0 ≤ p) : wordsZ msg l p = peWords msg l p := by unfold wordsZ peWords; rw [line_pos h, col_pos h]
theorem from_clip (n : Nat) (p : Int) : fromIndex n p = clipZ n p := by unfold fromIndex clipZ; split <;> omega
theorem cnt4_eqZ (D : Str) (p : Int) : cnt4 D (Str.ofString "\n") 0 p + 1 = lineZ D.cps.toList p := by
  unfold cnt4 lineZ
  rw [nl_one, from0, from_clip, occ_one_count D 10 _ _ (by omega) (Nat.min_le_right _ _), show D.length = D.cps.toList.length from by simp [Str.length], take_min]
theorem rfi4_eqZ (D : Str) (p : Int) : p - rfi4 D (Str.ofString "\n") 0 p = colZ D.cps.toList p := by
  unfold rfi4 colZ
  rw [nl_one, from0, from_clip]
  congr 1
  refine (last_one D 10 _ (Nat.min_le_right _ _)).trans ?_
  rw [show D.length = D.cps.toList.length from by simp [Str.length], take_min]
theorem line_bound (l : List Nat) (p : Int) : 0 ≤ lineZ l p ∧ lineZ l p ≤ l.length + 1 := by
  unfold lineZ
  have := List.count_le_length (l := l.take (clipZ l.length p)) (a := 10)
  simp only [List.length_take] at this
  omega
theorem col_bound (l : List Nat) (p : Int) : p - l.length ≤ colZ l p ∧ colZ l p ≤ p + 1 := by
  unfold colZ
  have h1 := lastIx_lt 10 (l.take (clipZ l.length p))
  have h2 := lastIx_ge 10 (l.take (clipZ l.length p))
  simp only [List.length_take] at h1
  omega
theorem peHead_lenZ {msg : Str} {p : Int} (hm : msg.length ≤ 20000) (h0 : -10000 ≤ p) (h1 : p ≤ 10000) : (peHead msg p).length ≤ 40000 := by
  unfold peHead
  rw [PySem.Str.length_append, PySem.Str.length_append]
  have := toString_lenZ (n := p) (by omega) (by omega)
  have e : (Str.ofString " at position ").length = 13 := by decide +kernel
  omega
theorem windowZ (n : Nat) (p : Int) : Bytes.window n (some 0) (some p) = (0, ((min n (clipZ n p) : Nat) : Int)) := by
  unfold Bytes.window clipZ
  simp only [Option.getD_some]
  by_cases h : p < 0
  · rw [if_pos h, if_pos h, if_neg (by omega)]
    congr 1
    omega
  · rw [if_neg h, if_neg h, if_neg (by omega)]
    congr 1
    omega
theorem bcnt_eqZ (b : Array UInt8) (p : Int) : bcnt b #[10] 0 p + 1 = lineZ (nums b) p := by
  unfold bcnt lineZ
  rw [windowZ]
  have e : ((#[10] : Array UInt8).size : Int) = 1 := rfl
  rw [e]
  dsimp only
  rw [← take_min, nums_len]
  generalize clipZ b.size p = c
  by_cases hz : ((min b.size c : Nat) : Int) - 0 < 1
  · rw [if_pos hz, show min c b.size = 0 from by omega]
    simp
  · rw [if_neg hz]
    have := occB_count b 10 (min c b.size) (Nat.min_le_right _ _)
    rw [show ((min b.size c : Nat) : Int).toNat = min c b.size from by omega, show (0 : Int).toNat = 0 from rfl, this]
    rfl
theorem brfi_eqZ (b : Array UInt8) (p : Int) : p - brfi b #[10] 0 p = colZ (nums b) p := by
  unfold brfi colZ
  rw [windowZ]
  have e : ((#[10] : Array UInt8).size : Int) = 1 := rfl
  rw [e]
  dsimp only
  rw [← take_min, nums_len]
  congr 1
  generalize clipZ b.size p = c
  by_cases hz : ((min b.size c : Nat) : Int) - 0 < 1
  · rw [if_pos hz, show min c b.size = 0 from by omega]
    simp [lastIx]
  · rw [if_neg hz]
    have := rfindB b 10 (min c b.size) (Nat.min_le_right _ _)
    rw [show ((min b.size c : Nat) : Int).toNat = min c b.size from by omega, show (0 : Int).toNat = 0 from rfl]
    exact this
end Mine
end

section
open PySem PySem.W PySem.Calls PySem.Spec PyProof.Rows
set_option maxRecDepth 100000
set_option maxHeartbeats 1000000
namespace Mine
open TI
section
variable {prog : Program} {w : World} {A : Around} {E E1 : Value → Shared → Prop} {s : Shared} {env : Env} {C e d t L L' a hx : Addr} {base : Heap} {m m' : Str → Option Value}
/-- v is a new exception of the class C, raised out of the handling of hx, and what follows takes it -/
def RaisesFrom (C hx : Addr) (E : Value → Shared → Prop) (v : Value) (s₁ : Shared) : Prop := ∃ e dx a0 c2 c3 b4 c5 nm q N bs bm hdct sn sub ab col dd k0 k1 k2 k3 k5 newId oh vsh, v = .ref e ∧ s₁.heap.get? C = some (excClassObj nm q C N bs bm hdct sn sub ab col dd k0 k1 k2 k3 k5 newId) ∧ bm.contains (.type "BaseException") = true ∧
      s₁.heap.get? e = some (peO C dx a0 .none c2 c3 b4 c5) ∧ s₁.heap.get? hx = some oh ∧ oh.data = .fields vsh ∧ vsh[2]? = some .none ∧ hx ≠ e ∧ e ≠ C ∧
      ∀ h', Heap.SameBut e s₁.heap h' → h'.get? e = some (peO C dx a0 .none (.ref hx) .none (.bool true) c5) → E (.ref e) { s₁ with heap := h' }
theorem exec_raise_from {exc : Expr} {pos kp : Pos} {k : Nat} {Q : Flow → Shared → Prop} (hh : A.handled = some (.ref hx)) (h : wpAny (model prog w) A (eval exc env) (RaisesFrom C hx E) E s) : wpAny (model prog w) A (exec (.Raise (some exc) (some (.Constant .none k kp)) pos) env) Q E s := by
  rw [arm_exec_Raise]
  refine wpAny_bind (wpAny_standAt ?_)
  refine raise_from_none (C := C) (oh := default) (vsh := #[]) hh ?_ (wpAny_bind (wpAny_mono h (fun v s₁ h₁ => wpAny_bind (wpAny_standAt (wpAny_pure h₁))) fun _ _ z => z))
  intro s Q' hq
  exact wpAny_bind (wpAny_pure (wpAny_bind (wpAny_standAt (wpAny_pure hq))))
theorem raise_out2 {P : Params} {msg : Str} {pat : Value} {lst : List Nat} {pos : Int} {o3 mid frs : List (Addr × Obj)} {l : List Env} {ev : Env} {name : Str} {scope : Scope} {cd : Value} {oL oh : Obj} {vsh : Array Value} {sl : Array (Option Value)} {Ee : Value → Value → Shared → Prop} {K : Frag} {nm q : Str} {Ns : Addr} {bs : List Value} {hdct : Bool} {sn : List Str} {sub : List Value} {ab : Bool} {col : Option Bool} {dd : Option Addr} {k0 k1 k2 k3 k5 : Option Value}
    (hC : K.lookup 41 = some (excClassObj nm q 41 Ns bs [.type "Exception", .type "BaseException", .type "object"] hdct sn sub ab col dd k0 k1 k2 k3 k5 "Exception.__new__")) (X : K.In base)
    (pe : IsPe P 41 msg pat lst pos e d t o3) (F : Fr base L' s.heap m') (N : News base L' s.heap (o3 ++ ((hx, oh) :: (mid ++ ((L, { oL with slots := sl }) :: frs))))) (Cl : Caller base L m oL)
    (hd : oh.data = .fields vsh) (h2 : vsh[2]? = some .none)
    (l1 : ∀ q ∈ (hx, oh) :: (mid ++ ((L, { oL with slots := sl }) :: frs)), q.1 ≠ e ∧ q.1 ≠ d ∧ q.1 ≠ t) (l2 : e ≠ d) (l3 : e ≠ t) (l4 : d ≠ t)
    (hA : A.frames = some (envOf name scope L' a cd :: ev :: l)) (hk : scope.kind = .function) (Fs : Frs (ev :: l) ((L, { oL with slots := sl }) :: frs))
    (hmid : ∀ q ∈ mid, q.1 ∉ ((L, { oL with slots := sl }) :: frs).map (·.1)) (hLf : ∀ q ∈ mid ++ frs, q.1 ≠ L)
    (hE : RaisedE P base L m l mid frs msg pat lst pos E1 s) :
    RaisesFrom 41 hx (fun e s' => wpAny (model prog w) A (leaving (envOf name scope L' a cd) e) (fun _ s'' => E1 e s'') (Ee e) s') (.ref e) s := by
  obtain ⟨o2, p2, rfl, ho2⟩ := pe.split
  have Nexc := N (e, peO 41 d (.ref t) .none .none .none (.bool false) .none) (by simp)
  have Nhx := N (hx, oh) (by simp)
  have hC' := X.keeps F.keep _ _ hC
  have heC : e ≠ 41 := fun z => by
    have h1 := X _ _ hC
    have h2 := Nexc.2.2
    rw [z, h1] at h2; cases h2
  refine ⟨e, d, .ref t, .none, .none, .bool false, .none, nm, q, Ns, bs, _, hdct, sn, sub, ab, col, dd, k0, k1, k2, k3, k5, _, oh, vsh, rfl, hC', by decide, Nexc.1, Nhx.1, hd, h2, (l1 _ List.mem_cons_self).1, heC, ?_⟩
  intro h' hs he'
  have l5 : ∀ q ∈ o2, ∀ r ∈ mid ++ ((L, { oL with slots := sl }) :: frs), q.1 ≠ r.1 := fun q hq r hr z => by
    rcases ho2 q hq with h | h
    · exact (l1 r (List.mem_cons_of_mem _ hr)).2.1 (by rw [← z, h])
    · exact (l1 r (List.mem_cons_of_mem _ hr)).2.2 (by rw [← z, h])
  have l6 : ∀ q ∈ o2, q.1 ≠ e := fun q hq z => by
    rcases ho2 q hq with h | h
    · exact l2 (by rw [← z, h])
    · exact l3 (by rw [← z, h])
  have F' : Fr base L' h' m' := F.change hs Nexc.2.1 Nexc.2.2
  have N' : News base L' h' ((e, peO 41 d (.ref t) .none (.ref hx) .none (.bool true) .none) :: ((o2 ++ mid) ++ ((L, { oL with slots := sl }) :: frs))) := fun q hq => by
    rcases List.mem_cons.mp hq with rfl | hq
    · exact ⟨he', Nexc.2⟩
    · have hq2 : q ∈ ((e, peO 41 d (.ref t) .none .none .none (.bool false) .none) :: o2) ++ ((hx, oh) :: (mid ++ ((L, { oL with slots := sl }) :: frs))) := by simp only [List.mem_cons, List.mem_append, List.cons_append] at hq ⊢; grind
      have z := N q hq2
      refine ⟨hs.extBut _ _ ?_ z.1, z.2⟩
      rcases List.mem_append.mp hq with hq | hq
      · rcases List.mem_append.mp hq with hq | hq
        · exact l6 q hq
        · exact (l1 q (List.mem_cons_of_mem _ (List.mem_append_left _ hq))).1
      · exact (l1 q (List.mem_cons_of_mem _ (List.mem_append_right _ hq))).1
  have hap : ∀ q ∈ o2 ++ mid, q.1 ≠ e ∧ q.1 ∉ ((L, { oL with slots := sl }) :: frs).map (·.1) := fun q hq => by
    rcases List.mem_append.mp hq with hq | hq
    · refine ⟨l6 q hq, fun hm => ?_⟩
      obtain ⟨r, hr, z⟩ := List.mem_map.mp hm
      exact l5 q hq r (List.mem_append_right _ hr) z.symm
    · exact ⟨(l1 q (List.mem_cons_of_mem _ (List.mem_append_left _ hq))).1, hmid q hq⟩
  have hef : e ∉ ((L, { oL with slots := sl }) :: frs).map (·.1) := fun hm => by
    obtain ⟨r, hr, z⟩ := List.mem_map.mp hm
    exact (l1 r (List.mem_cons_of_mem _ (List.mem_append_right _ hr))).1 z
  have hLe : L ≠ e ∧ L ≠ d ∧ L ≠ t := l1 (L, { oL with slots := sl }) (List.mem_cons_of_mem _ (List.mem_append_right _ List.mem_cons_self))
  refine leaveE1 (s := { s with heap := h' }) hA hk Fs F' N' hap hef rfl rfl rfl rfl rfl rfl fun h₂ frs' T oT oe' SU Fs' F₂ N₂ lt X' => ?_
  obtain ⟨sl', qs, rfl, SU'⟩ := sameUp_cons SU
  have ltE : ∀ q ∈ (o2 ++ mid) ++ ((L, { oL with slots := sl }) :: frs), q.1 ≠ T := fun q hq => lt_apart lt q (List.mem_cons_of_mem _ hq)
  have hTe : T ≠ e := Ne.symm (lt_apart lt _ List.mem_cons_self)
  have hTL : T ≠ L := Ne.symm (ltE (L, { oL with slots := sl }) (List.mem_append_right _ List.mem_cons_self))
  have up : ∀ q ∈ qs, ∃ r ∈ frs, q.1 = r.1 := SU'.fwd
  refine hE h₂ qs _ e d t T oT oe' o2 _ SU' Fs'.2.2.2 (backM (sl := sl') Cl F₂ N₂ ?_) (backN N₂ ?_ ?_) p2 X' ?_ hTe ho2 ?_
  · simp
  · intro q hq; simp only [List.mem_cons, List.mem_append] at hq ⊢; grind
  · intro q hq
    rcases List.mem_cons.mp hq with rfl | hq
    · exact hTL
    rcases List.mem_cons.mp hq with rfl | hq
    · exact hLe.1.symm
    rcases List.mem_append.mp hq with hq | hq
    · rcases List.mem_append.mp hq with hq | hq
      · exact l5 q hq (L, { oL with slots := sl }) (List.mem_append_right _ List.mem_cons_self)
      · exact hLf q (List.mem_append_left _ hq)
    · obtain ⟨r, hr, z⟩ := up q hq
      rw [z]; exact hLf r (List.mem_append_right _ hr)
  · intro q hq
    rcases List.mem_append.mp hq with hq | hq
    · exact ⟨(hap q hq).1, ltE q (List.mem_append_left _ hq)⟩
    · obtain ⟨r, hr, z⟩ := up q hq
      rw [z]
      exact ⟨(l1 r (List.mem_cons_of_mem _ (List.mem_append_right _ (List.mem_cons_of_mem _ hr)))).1, ltE r (List.mem_append_right _ (List.mem_cons_of_mem _ hr))⟩
  · intro q hq
    rcases List.mem_append.mp hq with hq | hq
    · exact (l1 q (List.mem_cons_of_mem _ (List.mem_append_left _ hq))).2
    · obtain ⟨r, hr, z⟩ := up q hq
      rw [z]
      exact (l1 r (List.mem_cons_of_mem _ (List.mem_append_right _ (List.mem_cons_of_mem _ hr)))).2
theorem len_given {b : Bool} {gv : Value} {D : Str} {Q : Value → Shared → Prop} (hg : GivenIs b gv D) (hD : D.length ≤ 10000) (h : ∀ t' k, Q (.int D.length t') { s with toks := k }) : wpAny (model prog w) A (call (.builtin "len") [gv]) Q E s := by
  rcases hg with ⟨rfl, t, rfl⟩ | ⟨rfl, B, t, rfl, hB⟩
  · exact PySem.P.len_str (by omega) (h _ _)
  · have e : B.size = D.length := by rw [← nums_len, hB]; simp [Str.length]
    rw [← e] at h
    exact PySem.W.len_bytes (by omega) (h _ _)
end
end Mine
end

open Mine TI
local macro_rules | `(tactic| walk_at "z4") => `(tactic| (refine' instE ?N ?h1 ?h2; (case N => k_asm); (case h1 => k_mem); (case h2 => k_mem)))
local macro_rules | `(tactic| k_all) => `(tactic| first | assumption | exact allLt_ne (by assumption))
section
open PySem PySem.W PySem.Calls PySem.Spec PyProof.Rows
set_option maxRecDepth 100000
set_option maxHeartbeats 1000000
namespace Mine
theorem anew1 : True := by
  w_top off
  exact True.intro
open TI
theorem fillPZ6 (P : Params) : hd.heap_1 P = hd.heap_1 P ∧ PySem.Challenge.rw_kq0016_06 = PySem.Challenge.rw_kq0016_06 := by
  k_fill
  exact ⟨rfl, rfl⟩
theorem st41 (P : Params) : storesIn (hd.heap_1 P) 41 = true := by kernel_rfl
theorem rd_msg (P : Params) : readsE (hd.heap_1 P) 41 "msg" = true := by kernel_rfl
theorem cls41 (P : Params) : ∃ nm q N bs hdct sn sub ab col dd k0 k1 k2 k3 k5, List.lookup 41 (hd.heap_1 P) = some (excClassObj nm q 41 N bs [.type "Exception", .type "BaseException", .type "object"] hdct sn sub ab col dd k0 k1 k2 k3 k5 "Exception.__new__") ∧ N = 40 := ⟨_, _, _, _, _, _, _, _, _, _, _, _, _, _, _, rfl, rfl⟩
theorem ns40 {P : Params} {h : Heap} (X : (hd.heap_1 P).In h) : ∃ mN, h.Ns 40 mN ∧ mN "__init__" = some (.ref 38) := by
  refine ⟨_, ⟨_, _, _, X 40 _ rfl, rfl, ?_, fun _ => rfl⟩, ?_⟩
  · intro e he
    simp only [List.mem_toArray, List.mem_cons, List.not_mem_nil, or_false] at he
    rcases he with rfl | rfl | rfl | rfl | rfl | rfl <;> exact ⟨_, _, rfl⟩
  · kernel_rfl
theorem allLt_ne {b : Addr} : ∀ {l : List (Addr × Obj)}, AllLt b l → ∀ q ∈ l, q.1 ≠ b
  | [], _, _, h => nomatch h
  | _ :: _, h, q, hq => by
    rcases List.mem_cons.mp hq with rfl | hq
    · exact Nat.ne_of_lt h.1
    · exact allLt_ne h.2 q hq
local macro_rules | `(tactic| walk_at "setAttr ref") => `(tactic| (k_here; k_dflt (refine' setEN ?F ?X ?N ?ap ?s ?t ?_; (case F => k_asm); (case X => k_asm); (case N => k_asm); (case ap => k_all); (case s => exact st41 _); (case t => k_is); k_whole); intro h' d' F' N' l1; (try k_lt l1); (repeat (obtain ⟨_, l1⟩ := l1)); (try k_sweep); (try dsimp only)))
local macro_rules | `(tactic| walk_at "setAttr ref") => `(tactic| (k_here; k_dflt (refine' setEU ?F ?X ?N ?I ?d ?s ?t ?l ?e ?U ?z ?_; (case F => k_asm); (case X => k_asm); (case N => k_asm); (case I => walk_at "z4"); (case d => exact rfl); (case s => exact st41 _); (case t => k_is); (case l => rfl); (case e => k_put); (case U => k_upd); (case z => exact Nat.le_of_ble_eq_true rfl); k_whole); intro h' F' N'; (try k_sweep); (try dsimp only)))

local macro_rules | `(tactic| walk_at "call builtin:str.count") => `(tactic| with_reducible refine count4 ?_)
local macro_rules | `(tactic| walk_at "call builtin:str.rfind") => `(tactic| with_reducible refine rfind4 ?_)
local macro_rules | `(tactic| walk_at "getMethod bytes") => `(tactic| first | with_reducible refine bcount_method ?_ | with_reducible refine brfind_method ?_)
local macro_rules | `(tactic| walk_at "call builtin:bytes.count") => `(tactic| with_reducible refine bcount4 rfl ?_)
local macro_rules | `(tactic| walk_at "call builtin:bytes.rfind") => `(tactic| with_reducible refine brfind4 ?_)
local macro_rules | `(tactic| walk_at "getAttr ref") => `(tactic| (k_here; k_dflt (refine' getEU ?F ?X ?I ?r ?l ?h ?_; (case F => k_asm); (case X => k_asm); (case I => walk_at "z4"); (case r => exact rd_msg _); (case l => rfl); (case h => rfl)); (try dsimp only)))
local macro_rules | `(tactic| walk_at "wpAt") => `(tactic| (ks_step "attributeBase Call"; k_here; k_dflt (refine' ks_node ?a1 ?a2 ?a3 ?a4 ?a5 ?a6 ?a7 ?I ?a8 ?a9 ?a10 ?a11 ?a12 ?a13 ?a14 ?a15 ?a16 ?a17 ?a18 ?a19 ?a20 ?a21 ?_; (case I => walk_at "z4"); (case a1 => k_asm); (case a2 => k_asm); (case a3 => k_asm); (case a4 => k_asm); (case a5 => k_is); (case a6 => rfl); (case a7 => rfl); (case a8 => k_is); (case a9 => rfl); (case a10 => first | rfl | decide +kernel); (case a11 => k_is); (case a12 => k_is); (case a13 => k_is); (case a14 => k_is); (case a15 => decide); (case a16 => rfl); (case a17 => rfl); (case a18 => rfl); (case a19 => rfl); (case a20 => decide +kernel); (case a21 => first | boot_by_name | rfl | kernel_rfl); intro so' h' F' N' l1; (try k_lt l1))))
local macro_rules | `(tactic| walk_at "binaryOp Mod str ref") => `(tactic| (k_here; (with_reducible show wpAny _ _ (binaryOp Operator.Mod (Value.str (Str.ofString "%s (line %d, column %d)") _) (Value.ref _)) _ _ _); k_dflt (refine' mod2Z ?N ?b ?x ?p0 ?p1 ?q0 ?q1 ?_; (case N => k_asm); (case b => k_mem); (case x => (first | assumption | k_dflt size_fits)); (case p0 => omega); (case p1 => omega); (case q0 => omega); (case q1 => omega)); intro _ _; (try dsimp only)))
local macro_rules | `(tactic| walk_at "binaryOp Mod str ref") => `(tactic| (k_here; (with_reducible show wpAny _ _ (binaryOp Operator.Mod (Value.str (Str.ofString "%s at position %d") _) (Value.ref _)) _ _ _); k_dflt (refine' mod1Z ?N ?b ?x ?p0 ?p1 ?_; (case N => k_asm); (case b => k_mem); (case x => assumption); (case p0 => omega); (case p1 => omega)); intro _ _; (try dsimp only)))
local macro_rules | `(tactic| walk_at "wpAt") => `(tactic| dsimp only)
local macro_rules | `(tactic| walk_at "wpAt") => `(tactic| (ks_step "exec Expr"; k_dflt (refine ks_wpAt_Expr_any ?_ (by rfl) (by rfl))))
local macro_rules | `(tactic| walk_at "wpAt") => `(tactic| (ks_step "eval Call"; k_dflt (refine ks_wpAt_MethodCall ?_)))
local macro_rules | `(tactic| walk_at "getMethod ref") => `(tactic| (k_here; (with_reducible show wpAny _ _ (getMethod _ (Str.ofString "__init__") _) _ _ _); k_dflt (refine' super_init_K ?F ?X ?N ?so ?I ?o ?m ?sub ?_; (case F => k_asm); (case X => k_asm); (case N => k_asm); (case so => k_mem); (case I => walk_at "z4"); (case o => k_is); (case m => ks_is); (case sub => k_is)); intro b' h' F' N' l1; (try k_lt l1); (repeat (obtain ⟨_, l1⟩ := l1)); (try dsimp only)))
local macro_rules | `(tactic| walk_at "call ref") => `(tactic| (k_here; k_dflt (refine' mw_call_U ?F ?X ?N ?b ?U (by assumption) ?_; (case F => k_asm); (case X => k_asm); (case N => k_asm); (case b => k_mem); (case U => intro t; k_upd)); intro h' t' F' N' l1; (try k_lt l1); (repeat (obtain ⟨_, l1⟩ := l1)); (try k_sweep); (try dsimp only)))
local macro_rules | `(tactic| walk_at "callWith ref") => `(tactic| (k_here; k_dflt (refine' callWith_mw ?N ?b ?_; (case N => k_asm); (case b => k_mem))))
local macro_rules | `(tactic| walk_at "And") => `(tactic| ((with_reducible show MwAt _ _ _ ∧ _); refine' ⟨mwAt ?N ?b, ?_⟩; (case N => k_asm); (case b => k_mem)))
local macro_rules | `(tactic| walk_at "MwAt") => `(tactic| (refine' mwAt ?N ?b; (case N => k_asm); (case b => k_mem)))
local macro_rules | `(tactic| walk_at "compareOp In bytes bytes") => `(tactic| (k_here; k_dflt (refine' in_bytesH ?F ?N ?h ?_; (case F => k_asm); (case N => k_asm); (case h => exact HdOk.mono (by assumption) (by (intro q hq; (repeat (first | exact hq | refine List.mem_cons_of_mem _ ?_)))) (by rfl))); intro h' tk F' N'; (try k_sweep); (try dsimp only)))
/-- a PatternError of any words and places -/
def IsPeZ (P : Params) (msg : Str) (pat : Value) (pos ln co : Int) (wd : Str) (e d t : Addr) (o3 : List (Addr × Obj)) : Prop :=
  ∃ k1 k2 k3 k4 k5 tm tp tl tc tw, o3 = [(e, peO 41 d (.ref t) .none .none .none (.bool false) .none), (d, peD P k1 k2 k3 k4 k5 (.str msg tm) pat (.int pos tp) (.int ln tl) (.int co tc)), (t, ({ cls := .type "tuple", data := .seq #[.str wd tw] } : Obj))]
/-- how «if newline in pattern: msg = ..» ends -/
inductive PeJ (base : Heap) (L : Addr) (M : Str → Option Value) (news : List (Addr × Obj)) (y : Str) (s : Shared) (f : Flow) (s' : Shared) : Prop
  | mk (t : Tok) (tk : Nat) (h' : Heap) (h : f = .next) (e : s' = { s with heap := h', toks := tk }) (hF : Fr base L h' (fun z => if z = Str.ofString "msg" then some (.str y t) else M z)) (hN : News base L h' news)
theorem join_If {Mo : Model} {A : Around} {E : Value → Shared → Prop} {s : Shared} {st : Stmt} {env : Env} {Q : Flow → Shared → Prop} {base : Heap} {L : Addr} {m : Str → Option Value} {news : List (Addr × Obj)} (y : Str) (F : Fr base L s.heap m) (N : News base L s.heap news) {co : Code} (h1 : PySem.wpAt Mo A co (exec st env) (PeJ base L m news y s) E s)
    (h2 : ∀ t tk h', Fr base L h' (fun z => if z = Str.ofString "msg" then some (.str y t) else m z) → News base L h' news → Q .next { s with heap := h', toks := tk }) : PySem.wpAt Mo A co (exec st env) Q E s :=
  ks_wpAt_mono h1 (fun _ _ ⟨t, tk, h', a, b, c, d⟩ => by subst a; subst b; exact h2 t tk h' c d) (fun _ _ z => z)
theorem msg_same {base h : Heap} {L : Addr} {m : Str → Option Value} {y : Str} {t : Tok} (F : Fr base L h m) (e : m (Str.ofString "msg") = some (.str y t)) : Fr base L h (fun z => if z = Str.ofString "msg" then some (.str y t) else m z) := by
  have : (fun z => if z = Str.ofString "msg" then some (.str y t) else m z) = m := funext fun z => by
    by_cases h : z = Str.ofString "msg"
    · rw [if_pos h, h, e]
    · rw [if_neg h]
  rw [this]; exact F
theorem pe_newS {w : World} {loose : List Str} {mean : ExcName → Option Value} {mg mb : Str → Option Value} {A : Around}
    {base : Heap} {L : Addr} {m : Str → Option Value} {s : Shared} {Q E : Value → Shared → Prop} {news : List (Addr × Obj)} {msg : Str} {D : Str} {tm dt tp : Tok} {pos : Int}
    (F : Fr base L s.heap m) (X : (hd.heap_1 w.params).In base) (N : News base L s.heap news) (T : Top hd.view_39 loose mean mg mb base) (hd' : A.depth + 6 < recursionLimit) (hD : (D.cps.toList).length ≤ 2000) (hm : msg.length ≤ 20000) (hp0 : -10000 ≤ pos) (hp1 : pos ≤ 10000)
    (hQ : ∀ h' k e d t k1 k2 k3 k4 k5 tl tc tw, Fr base L h' m ∧ News base L h' ((e, peO 41 d (.ref t) .none .none .none (.bool false) .none) :: (d, peD w.params k1 k2 k3 k4 k5 (.str msg tm) (.str D dt) (.int pos tp) (.int (lineZ (D.cps.toList) pos) tl) (.int (colZ (D.cps.toList) pos) tc)) ::
        (t, ({ cls := .type "tuple", data := .seq #[.str (wordsZ msg (D.cps.toList) pos) tw] } : Obj)) :: news) → (∀ q ∈ news, q.1 ≠ e ∧ q.1 ≠ d ∧ q.1 ≠ t) → e ≠ d → e ≠ t → d ≠ t → Q (.ref e) { s with heap := h', toks := k }) :
    wpAny (model PySem.Challenge.rw_kq0016_06.row.prog w) A (call (.ref 41) [.str msg tm, .str D dt, .int pos tp]) Q E s := by
  obtain ⟨hp, g, d, t, os⟩ := s
  obtain ⟨nm, q, NC, bs, hdct, sn, sub, ab, col, dd, k0, k1, k2, k3, k5, hC, rfl⟩ := cls41 w.params
  obtain ⟨mN, hN, hi⟩ := ns40 (X.keeps F.keep)
  refine wpAny_call_exc_init PySem.F.excBase_Exception (X.keeps F.keep _ _ hC) hN hi (X.keeps F.keep 38 _ rfl) rfl (fun h' e Md => ?_) (by show (3 : Nat) ≤ sizeLine; decide)
  obtain ⟨t0, he, ht0n, ht0⟩ := Md.there
  have hne0 : ∀ q ∈ news, q.1 ≠ e := fun q hq z => by have := (N q hq).1; rw [z, Md.new] at this; cases this
  have hnt : ∀ q ∈ news, q.1 ≠ t0 := fun q hq z => by have := (N q hq).1; rw [z, ht0n] at this; cases this
  have N1 : News base L h' ((e, ({ cls := .ref 41, data := .fields #[.ref t0, .none, .none, .none, .bool false, .none] } : Obj)) :: (t0, ({ cls := .type "tuple", data := .seq #[.str msg tm, .str D dt, .int pos tp] } : Obj)) :: news) := by
    have hLe : e ≠ L := fun z => by
      obtain ⟨oL, _, _, hL, _⟩ := F.ns
      have := Md.new
      rw [z] at this
      rw [this] at hL; cases hL
    have hLt : t0 ≠ L := fun z => by
      obtain ⟨oL, _, _, hL, _⟩ := F.ns
      rw [← z] at hL
      rw [ht0n] at hL; cases hL
    intro q hq
    rcases List.mem_cons.mp hq with rfl | hq
    · exact ⟨he, hLe, none_of F.keep Md.new⟩
    · rcases List.mem_cons.mp hq with rfl | hq
      · exact ⟨ht0, hLt, none_of F.keep ht0n⟩
      · exact ⟨Md.keeps _ _ (N q hq).1, (N q hq).2⟩
  have hte : t0 ≠ e := fun z => by rw [z, he] at ht0; cases ht0
  refine wpAny_call (enterS (F.keeps Md.keeps) X N1 T rfl (by kernel_rfl) (by simp only [depth_under_make]; omega) (binds_K (X.keeps (F.keeps Md.keeps).keep) rfl (by k_is) rfl rfl rfl) (locs rfl) (fun oL L' h₁ Cl F₁ N₁ hne hltL => ?_) rfl rfl rfl (by decide))
  have hLe : L ≠ e := fun z => hne _ List.mem_cons_self z.symm
  have hLn : ∀ q ∈ news, q.1 ≠ L := fun q hq => hne q (List.mem_cons_of_mem _ (List.mem_cons_of_mem _ hq))
  have N₂ : News base L' h₁ ((e, ({ cls := .ref 41, data := .fields #[.ref t0, .none, .none, .none, .bool false, .none] } : Obj)) :: (t0, ({ cls := .type "tuple", data := .seq #[.str msg tm, .str D dt, .int pos tp] } : Obj)) :: (L, oL) :: news) := fun q hq => N₁ q (mem_i2 hq)
  clear N₁
  have hcb := line_bound (D.cps.toList) pos
  have hrb := col_bound (D.cps.toList) pos
  have hpl := peHead_lenZ hm hp0 hp1
  unfold peHead at hpl
  rw [← cnt4_eqZ D pos, ← rfi4_eqZ D pos] at hQ
  rw [← cnt4_eqZ D pos] at hcb
  rw [← rfi4_eqZ D pos] at hrb
  have hwv : wordsZ msg (D.cps.toList) pos = wordsZ msg (D.cps.toList) pos := rfl
  conv at hwv => lhs; unfold wordsZ peHead; rw [← cnt4_eqZ D pos, ← rfi4_eqZ D pos]
  have hnl := occ_nl D
  repeat ((fail_if_success (with_reducible show PySem.wpAt _ _ _ (exec (Stmt.If _ _ _ _) _) _ _ _)); first | (k_unfold; (try dsimp only)) | walk1 | (dsimp only; walk1))
  first | (k_unfold; (try dsimp only)) | walk1 | (dsimp only; walk1)
  repeat ((fail_if_success (with_reducible show PySem.wpAt _ _ _ (exec (Stmt.If _ _ _ _) _) _ _ _)); first | (k_unfold; (try dsimp only)) | walk1 | (dsimp only; walk1))
  first | (k_unfold; (try dsimp only)) | walk1 | (dsimp only; walk1)
  repeat ((fail_if_success (with_reducible show PySem.wpAt _ _ _ (exec (Stmt.If _ _ _ _) _) _ _ _)); first | (k_unfold; (try dsimp only)) | walk1 | (dsimp only; walk1))
  refine join_If (wordsZ msg (D.cps.toList) pos) (by assumption) (by assumption) ?ev ?go
  case ev =>
    clear hQ
    k_steps
    all_goals (
      first
        | (rw [show (Builtin.Str.occurrences D (Str.ofString "\n") 0 D.length 1).isEmpty = true from by assumption] at hnl)
        | (rw [show (Builtin.Str.occurrences D (Str.ofString "\n") 0 D.length 1).isEmpty = false from by assumption] at hnl)
        | (rw [show (Builtin.Str.occurrences D (Str.ofString "\n") 0 D.length 1).isEmpty = false from by simpa using ‹¬ (Builtin.Str.occurrences D (Str.ofString "\n") 0 D.length 1).isEmpty = true›] at hnl)
      first
        | (have hc : (D.cps.toList).contains 10 = false := by simpa using hnl.symm)
        | (have hc : (D.cps.toList).contains 10 = true := by simpa using hnl.symm)
      rw [hc] at hwv
      simp only [Bool.false_eq_true, if_false, if_true] at hwv
      rw [← hwv]
      first
        | exact ⟨_, _, _, rfl, rfl, by assumption, by assumption⟩
        | exact ⟨_, _, _, rfl, rfl, by assumption, fun q hq => (by assumption : News base L' _ _) q (List.mem_cons_of_mem _ hq)⟩
        | exact ⟨_, _, _, rfl, rfl, msg_same (by assumption) ((if_neg (by decide)).trans (if_pos rfl)), by assumption⟩)
  case go =>
    intro t5 k5 h5 F5 N5
    clear hwv hnl
    dsimp only at F5
    k_steps
    rename_i lt
    refine' hQ _ _ e _ _ _ _ _ _ _ _ _ _ (back3 (by assumption) (by assumption) (by assumption) ?m ?m1 ?m2 ?m3 ?ms ?n1 ?n2 ?n3 hLn) ?a1 ?a2 ?a3 ?a4
    case m => k_mem
    case m1 => k_mem
    case m2 => k_mem
    case m3 => k_mem
    case ms => intro q hq; (repeat (refine List.mem_cons_of_mem _ ?_)); exact hq
    case n1 => exact hLe.symm
    case n2 => exact Ne.symm (Nat.ne_of_lt (by assumption))
    case n3 => exact Ne.symm (Nat.ne_of_lt (by assumption))
    case a1 => exact fun q hq => ⟨hne0 q hq, allLt_ne (by assumption) q hq, allLt_ne (by assumption) q hq⟩
    case a2 => exact Nat.ne_of_lt (by assumption)
    case a3 => exact Nat.ne_of_lt (by assumption)
    case a4 => exact Nat.ne_of_lt (by assumption)

theorem pe_S {w : World} {loose : List Str} {mean : ExcName → Option Value} {mg mb : Str → Option Value} {A : Around}
    {base : Heap} {L : Addr} {m : Str → Option Value} {s : Shared} {Q E : Value → Shared → Prop} {news : List (Addr × Obj)} {msg : Str} {D : Str} {tm dt tp : Tok} {pos : Int}
    (F : Fr base L s.heap m) (X : (hd.heap_1 w.params).In base) (N : News base L s.heap news) (T : Top hd.view_39 loose mean mg mb base) (hd' : A.depth + 6 < recursionLimit) (hD : (D.cps.toList).length ≤ 2000) (hm : msg.length ≤ 20000) (hp0 : -10000 ≤ pos) (hp1 : pos ≤ 10000)
    (hQ : ∀ h' k e d t o3, IsPeZ w.params msg (.str D dt) pos (lineZ (D.cps.toList) pos) (colZ (D.cps.toList) pos) (wordsZ msg (D.cps.toList) pos) e d t o3 → Fr base L h' m → News base L h' (o3 ++ news) → (∀ q ∈ news, q.1 ≠ e ∧ q.1 ≠ d ∧ q.1 ≠ t) → e ≠ d → e ≠ t → d ≠ t → Q (.ref e) { s with heap := h', toks := k }) :
    wpAny (model PySem.Challenge.rw_kq0016_06.row.prog w) A (call (.ref 41) [.str msg tm, .str D dt, .int pos tp]) Q E s :=
  pe_newS F X N T  hd' hD hm hp0 hp1 fun h' k e d t k1 k2 k3 k4 k5 tl tc tw r a1 a2 a3 a4 => hQ h' k e d t _ ⟨k1, k2, k3, k4, k5, tm, tp, tl, tc, tw, rfl⟩ r.1 r.2 a1 a2 a3 a4
theorem pe_newB {w : World} {loose : List Str} {mean : ExcName → Option Value} {mg mb : Str → Option Value} {A : Around}
    {base : Heap} {L : Addr} {m : Str → Option Value} {s : Shared} {Q E : Value → Shared → Prop} {news : List (Addr × Obj)} {msg : Str} {D : Array UInt8} {tm dt tp : Tok} {pos : Int}
    (F : Fr base L s.heap m) (X : (hd.heap_1 w.params).In base) (N : News base L s.heap news) (T : Top hd.view_39 loose mean mg mb base) (hh : HdOk A news) (hd' : A.depth + 6 < recursionLimit) (hD : (nums D).length ≤ 2000) (hm : msg.length ≤ 20000) (hp0 : -10000 ≤ pos) (hp1 : pos ≤ 10000)
    (hQ : ∀ h' k e d t k1 k2 k3 k4 k5 tl tc tw, Fr base L h' m ∧ News base L h' ((e, peO 41 d (.ref t) .none .none .none (.bool false) .none) :: (d, peD w.params k1 k2 k3 k4 k5 (.str msg tm) (.bytes D dt) (.int pos tp) (.int (lineZ (nums D) pos) tl) (.int (colZ (nums D) pos) tc)) ::
        (t, ({ cls := .type "tuple", data := .seq #[.str (wordsZ msg (nums D) pos) tw] } : Obj)) :: news) → (∀ q ∈ news, q.1 ≠ e ∧ q.1 ≠ d ∧ q.1 ≠ t) → e ≠ d → e ≠ t → d ≠ t → Q (.ref e) { s with heap := h', toks := k }) :
    wpAny (model PySem.Challenge.rw_kq0016_06.row.prog w) A (call (.ref 41) [.str msg tm, .bytes D dt, .int pos tp]) Q E s := by
  obtain ⟨hp, g, d, t, os⟩ := s
  obtain ⟨nm, q, NC, bs, hdct, sn, sub, ab, col, dd, k0, k1, k2, k3, k5, hC, rfl⟩ := cls41 w.params
  obtain ⟨mN, hN, hi⟩ := ns40 (X.keeps F.keep)
  refine wpAny_call_exc_init PySem.F.excBase_Exception (X.keeps F.keep _ _ hC) hN hi (X.keeps F.keep 38 _ rfl) rfl (fun h' e Md => ?_) (by show (3 : Nat) ≤ sizeLine; decide)
  obtain ⟨t0, he, ht0n, ht0⟩ := Md.there
  have hne0 : ∀ q ∈ news, q.1 ≠ e := fun q hq z => by have := (N q hq).1; rw [z, Md.new] at this; cases this
  have hnt : ∀ q ∈ news, q.1 ≠ t0 := fun q hq z => by have := (N q hq).1; rw [z, ht0n] at this; cases this
  have N1 : News base L h' ((e, ({ cls := .ref 41, data := .fields #[.ref t0, .none, .none, .none, .bool false, .none] } : Obj)) :: (t0, ({ cls := .type "tuple", data := .seq #[.str msg tm, .bytes D dt, .int pos tp] } : Obj)) :: news) := by
    have hLe : e ≠ L := fun z => by
      obtain ⟨oL, _, _, hL, _⟩ := F.ns
      have := Md.new
      rw [z] at this
      rw [this] at hL; cases hL
    have hLt : t0 ≠ L := fun z => by
      obtain ⟨oL, _, _, hL, _⟩ := F.ns
      rw [← z] at hL
      rw [ht0n] at hL; cases hL
    intro q hq
    rcases List.mem_cons.mp hq with rfl | hq
    · exact ⟨he, hLe, none_of F.keep Md.new⟩
    · rcases List.mem_cons.mp hq with rfl | hq
      · exact ⟨ht0, hLt, none_of F.keep ht0n⟩
      · exact ⟨Md.keeps _ _ (N q hq).1, (N q hq).2⟩
  have hte : t0 ≠ e := fun z => by rw [z, he] at ht0; cases ht0
  refine wpAny_call (enterS (F.keeps Md.keeps) X N1 T rfl (by kernel_rfl) (by simp only [depth_under_make]; omega) (binds_K (X.keeps (F.keeps Md.keeps).keep) rfl (by k_is) rfl rfl rfl) (locs rfl) (fun oL L' h₁ Cl F₁ N₁ hne hltL => ?_) rfl rfl rfl (by decide))
  have hLe : L ≠ e := fun z => hne _ List.mem_cons_self z.symm
  have hLn : ∀ q ∈ news, q.1 ≠ L := fun q hq => hne q (List.mem_cons_of_mem _ (List.mem_cons_of_mem _ hq))
  have N₂ : News base L' h₁ ((e, ({ cls := .ref 41, data := .fields #[.ref t0, .none, .none, .none, .bool false, .none] } : Obj)) :: (t0, ({ cls := .type "tuple", data := .seq #[.str msg tm, .bytes D dt, .int pos tp] } : Obj)) :: (L, oL) :: news) := fun q hq => N₁ q (mem_i2 hq)
  clear N₁
  have hcb := line_bound (nums D) pos
  have hrb := col_bound (nums D) pos
  have hpl := peHead_lenZ hm hp0 hp1
  unfold peHead at hpl
  rw [← bcnt_eqZ D pos, ← brfi_eqZ D pos] at hQ
  rw [← bcnt_eqZ D pos] at hcb
  rw [← brfi_eqZ D pos] at hrb
  have hwv : wordsZ msg (nums D) pos = wordsZ msg (nums D) pos := rfl
  conv at hwv => lhs; unfold wordsZ peHead; rw [← bcnt_eqZ D pos, ← brfi_eqZ D pos]
  have hnl := find_nl D
  repeat ((fail_if_success (with_reducible show PySem.wpAt _ _ _ (exec (Stmt.If _ _ _ _) _) _ _ _)); first | (k_unfold; (try dsimp only)) | walk1 | (dsimp only; walk1))
  first | (k_unfold; (try dsimp only)) | walk1 | (dsimp only; walk1)
  repeat ((fail_if_success (with_reducible show PySem.wpAt _ _ _ (exec (Stmt.If _ _ _ _) _) _ _ _)); first | (k_unfold; (try dsimp only)) | walk1 | (dsimp only; walk1))
  first | (k_unfold; (try dsimp only)) | walk1 | (dsimp only; walk1)
  repeat ((fail_if_success (with_reducible show PySem.wpAt _ _ _ (exec (Stmt.If _ _ _ _) _) _ _ _)); first | (k_unfold; (try dsimp only)) | walk1 | (dsimp only; walk1))
  refine join_If (wordsZ msg (nums D) pos) (by assumption) (by assumption) ?ev ?go
  case ev =>
    clear hQ
    k_steps
    all_goals (
      first
        | (rw [show (Builtin.Bytes.find? D #[10] 0 D.size).isSome = true from by assumption] at hnl)
        | (rw [show (Builtin.Bytes.find? D #[10] 0 D.size).isSome = false from by assumption] at hnl)
        | (rw [show (Builtin.Bytes.find? D #[10] 0 D.size).isSome = false from by simpa using ‹¬ (Builtin.Bytes.find? D #[10] 0 D.size).isSome = true›] at hnl)
      first
        | (have hc : (nums D).contains 10 = false := by simpa using hnl.symm)
        | (have hc : (nums D).contains 10 = true := by simpa using hnl.symm)
      rw [hc] at hwv
      simp only [Bool.false_eq_true, if_false, if_true] at hwv
      rw [← hwv]
      first
        | exact ⟨_, _, _, rfl, rfl, by assumption, by assumption⟩
        | exact ⟨_, _, _, rfl, rfl, by assumption, fun q hq => (by assumption : News base L' _ _) q (List.mem_cons_of_mem _ hq)⟩
        | exact ⟨_, _, _, rfl, rfl, msg_same (by assumption) ((if_neg (by decide)).trans (if_pos rfl)), by assumption⟩)
  case go =>
    intro t5 k5 h5 F5 N5
    clear hwv hnl
    dsimp only at F5
    k_steps
    rename_i lt
    refine' hQ _ _ e _ _ _ _ _ _ _ _ _ _ (back3 (by assumption) (by assumption) (by assumption) ?m ?m1 ?m2 ?m3 ?ms ?n1 ?n2 ?n3 hLn) ?a1 ?a2 ?a3 ?a4
    case m => k_mem
    case m1 => k_mem
    case m2 => k_mem
    case m3 => k_mem
    case ms => intro q hq; (repeat (refine List.mem_cons_of_mem _ ?_)); exact hq
    case n1 => exact hLe.symm
    case n2 => exact Ne.symm (Nat.ne_of_lt (by assumption))
    case n3 => exact Ne.symm (Nat.ne_of_lt (by assumption))
    case a1 => exact fun q hq => ⟨hne0 q hq, allLt_ne (by assumption) q hq, allLt_ne (by assumption) q hq⟩
    case a2 => exact Nat.ne_of_lt (by assumption)
    case a3 => exact Nat.ne_of_lt (by assumption)
    case a4 => exact Nat.ne_of_lt (by assumption)

theorem pe_B {w : World} {loose : List Str} {mean : ExcName → Option Value} {mg mb : Str → Option Value} {A : Around}
    {base : Heap} {L : Addr} {m : Str → Option Value} {s : Shared} {Q E : Value → Shared → Prop} {news : List (Addr × Obj)} {msg : Str} {D : Array UInt8} {tm dt tp : Tok} {pos : Int}
    (F : Fr base L s.heap m) (X : (hd.heap_1 w.params).In base) (N : News base L s.heap news) (T : Top hd.view_39 loose mean mg mb base) (hh : HdOk A news) (hd' : A.depth + 6 < recursionLimit) (hD : (nums D).length ≤ 2000) (hm : msg.length ≤ 20000) (hp0 : -10000 ≤ pos) (hp1 : pos ≤ 10000)
    (hQ : ∀ h' k e d t o3, IsPeZ w.params msg (.bytes D dt) pos (lineZ (nums D) pos) (colZ (nums D) pos) (wordsZ msg (nums D) pos) e d t o3 → Fr base L h' m → News base L h' (o3 ++ news) → (∀ q ∈ news, q.1 ≠ e ∧ q.1 ≠ d ∧ q.1 ≠ t) → e ≠ d → e ≠ t → d ≠ t → Q (.ref e) { s with heap := h', toks := k }) :
    wpAny (model PySem.Challenge.rw_kq0016_06.row.prog w) A (call (.ref 41) [.str msg tm, .bytes D dt, .int pos tp]) Q E s :=
  pe_newB F X N T hh hd' hD hm hp0 hp1 fun h' k e d t k1 k2 k3 k4 k5 tl tc tw r a1 a2 a3 a4 => hQ h' k e d t _ ⟨k1, k2, k3, k4, k5, tm, tp, tl, tc, tw, rfl⟩ r.1 r.2 a1 a2 a3 a4

/-- PatternError(msg, given, pos) -/
theorem pe_z {w : World} {loose : List Str} {mean : ExcName → Option Value} {mg mb : Str → Option Value} {A : Around}
    {base : Heap} {L : Addr} {m : Str → Option Value} {s : Shared} {Q E : Value → Shared → Prop} {news : List (Addr × Obj)} {msg : Str} {D : Str} {b : Bool} {gv : Value} {tm tp : Tok} {pos : Int}
    (F : Fr base L s.heap m) (X : (hd.heap_1 w.params).In base) (N : News base L s.heap news) (T : Top hd.view_39 loose mean mg mb base) (hh : HdOk A news) (hd' : A.depth + 6 < recursionLimit) (hg : GivenIs b gv D) (hD : D.length ≤ 2000) (hm : msg.length ≤ 20000) (hp0 : -10000 ≤ pos) (hp1 : pos ≤ 10000)
    (hQ : ∀ h' k e d t o3, IsPeZ w.params msg gv pos (lineZ D.cps.toList pos) (colZ D.cps.toList pos) (wordsZ msg D.cps.toList pos) e d t o3 → Fr base L h' m → News base L h' (o3 ++ news) → (∀ q ∈ news, q.1 ≠ e ∧ q.1 ≠ d ∧ q.1 ≠ t) → e ≠ d → e ≠ t → d ≠ t → Q (.ref e) { s with heap := h', toks := k }) :
    wpAny (model PySem.Challenge.rw_kq0016_06.row.prog w) A (call (.ref 41) [.str msg tm, gv, .int pos tp]) Q E s := by
  have hD' : D.cps.toList.length ≤ 2000 := by simpa [Str.length] using hD
  rcases hg with ⟨rfl, t, rfl⟩ | ⟨rfl, B, t, rfl, hB⟩
  · exact pe_S F X N T hd' hD' hm hp0 hp1 hQ
  · rw [← hB] at hQ hD'
    exact pe_B F X N T hh hd' hD' hm hp0 hp1 hQ
/-- PatternError(msg, given, pos) -/
theorem pe_c {w : World} {loose : List Str} {mean : ExcName → Option Value} {mg mb : Str → Option Value} {A : Around}
    {base : Heap} {L : Addr} {m : Str → Option Value} {s : Shared} {Q E : Value → Shared → Prop} {news : List (Addr × Obj)} {msg : Str} {D : Str} {b : Bool} {gv : Value} {tm tp : Tok} {pos : Int}
    (F : Fr base L s.heap m) (X : (hd.heap_1 w.params).In base) (N : News base L s.heap news) (T : Top hd.view_39 loose mean mg mb base) (hh : HdOk A news) (hd' : A.depth + 6 < recursionLimit) (hg : GivenIs b gv D) (hD : D.length ≤ 2000) (hm : msg.length ≤ 20000) (hp0 : 0 ≤ pos) (hp1 : pos ≤ 10000)
    (hQ : ∀ h' k e d t o3, IsPe w.params 41 msg gv D.cps.toList pos e d t o3 → Fr base L h' m → News base L h' (o3 ++ news) → (∀ q ∈ news, q.1 ≠ e ∧ q.1 ≠ d ∧ q.1 ≠ t) → e ≠ d → e ≠ t → d ≠ t → Q (.ref e) { s with heap := h', toks := k }) :
    wpAny (model PySem.Challenge.rw_kq0016_06.row.prog w) A (call (.ref 41) [.str msg tm, gv, .int pos tp]) Q E s := by
  refine pe_z F X N T hh hd' hg hD hm (by omega) hp1 fun h' k e d t o3 pe => hQ h' k e d t o3 ?_
  rw [line_pos hp0, col_pos hp0, words_pos hp0] at pe
  exact pe
end Mine
end

local macro_rules | `(tactic| walk_at "compareOp Eq str str") => `(tactic| (refine eq_strR (by with_reducible assumption) ?_))
local macro_rules | `(tactic| walk_at "call builtin:len") => `(tactic| (k_here; k_dflt (refine len_given (by with_reducible assumption) (by omega) ?_); intro t' k'))
section
open PySem PySem.W PySem.Calls PySem.Spec PyProof.Rows
set_option maxRecDepth 100000
set_option maxHeartbeats 2000000
namespace Mine
theorem anew2 : True := by
  w_top off
  exact True.intro
open TI
theorem fillNZ6 (P : Params) : hd.heap_1 P = hd.heap_1 P ∧ PySem.Challenge.rw_kq0016_06 = PySem.Challenge.rw_kq0016_06 := by
  k_fill
  exact ⟨rfl, rfl⟩
/-- one entry of an instance's dict -/
abbrev ent (P : Params) (k : Str) (t : Tok) (v : Value) : DictEntry := ⟨PyData.keyHash P k, .str k t, v⟩
/-- the tokenizer's dict -/
abbrev tokD (P : Params) (k1 k2 k3 k4 k5 : Tok) (b : Bool) (sv dv iv nv : Value) : Obj :=
  dictOf [ent P (Str.ofString "istext") k1 (.bool b), ent P (Str.ofString "string") k2 sv, ent P (Str.ofString "decoded_string") k3 dv, ent P (Str.ofString "index") k4 iv, ent P (Str.ofString "next") k5 nv] 5

local macro_rules | `(tactic| walk_at "subscriptTail") => `(tactic| (k_here; (with_reducible show wpAny _ _ (subscriptTail _ _ (Value.str _ _) (Value.int _ _)) _ _ _); (refine str_outZ (by with_reducible assumption) (by k_dflt assumption) (by omega) (by omega) ?_); intro h' tk' e' X'))
local macro_rules | `(tactic| walk_at "subscriptTail") => `(tactic| (k_here; (with_reducible show wpAny _ _ (subscriptTail _ _ (Value.str _ _) (Value.int _ _)) _ _ _); (refine str_inZ (by with_reducible assumption) (by omega) ?_)))
local macro_rules | `(tactic| walk_at "inplaceOp Add str str") => `(tactic| (refine iadd_str1 (by omega) (by omega) (by omega) ?_))
theorem next_c {w : World} {loose : List Str} {mean : ExcName → Option Value} {mg mb : Str → Option Value} {A : Around} {l : List Env} {ce : Env}
    {base : Heap} {L : Addr} {m : Str → Option Value} {s : Shared} {Q E : Value → Shared → Prop} {new frs : List (Addr × Obj)}
    {x dx : Addr} {k1 k2 k3 k4 k5 : Tok} {b : Bool} {sv : Value} {D : Str} {dt : Tok} {i : Int} {it : Tok} {nv : Value}
    (F : Fr base L s.heap m) (X : (hd.heap_1 w.params).In base) (N : News base L s.heap ((x, instObj 133 dx) :: (dx, tokD w.params k1 k2 k3 k4 k5 b sv (.str D dt) (.int i it) nv) :: (new ++ frs))) (T : Top hd.view_39 loose mean mg mb base)
    (Fs : Frs l frs) (hcs : EvAt ce L) (hdx : ∀ q ∈ new ++ frs, q.1 ≠ dx) (hxf : ∀ q ∈ frs, q.1 ≠ x) (hap : ∀ q ∈ new, q.1 ∉ frs.map (·.1)) (hA : A.frames = some (ce :: l)) (hh : A.handled = none) (hd' : A.depth + 6 < recursionLimit)
    (hD : D.length ≤ 2000) (hi0 : -3000 ≤ i) (hi : i ≤ 3000)
    (hl : ¬ (chAt D i = some 92 ∧ chAt D (i + 1) = none))
    (hE : chAt D i = none → ∀ h' frs' tk, SameUp frs frs' → Frs l frs' → Fr base L h' m → News base L h' ((x, instObj 133 dx) :: (dx, tokD w.params k1 k2 k3 k4 k5 b sv (.str D dt) (.int i it) .none) :: (new ++ frs')) → Q .none { s with heap := h', toks := tk })
    (h1 : ∀ c, chAt D i = some c → c ≠ 92 → ∀ h' tk it' nt, Fr base L h' m → News base L h' ((x, instObj 133 dx) :: (dx, tokD w.params k1 k2 k3 k4 k5 b sv (.str D dt) (.int (i + 1) it') (.str (one c) nt)) :: (new ++ frs)) → Q .none { s with heap := h', toks := tk })
    (h2 : ∀ c, chAt D i = some 92 → chAt D (i + 1) = some c → ∀ h' tk it' nt, Fr base L h' m → News base L h' ((x, instObj 133 dx) :: (dx, tokD w.params k1 k2 k3 k4 k5 b sv (.str D dt) (.int (i + 1 + 1) it') (.str (one 92 ++ one c) nt)) :: (new ++ frs)) → Q .none { s with heap := h', toks := tk }) :
    wpAny (model PySem.Challenge.rw_kq0016_06.row.prog w) A (call (.ref 65) [.ref x]) Q E s := by
  have hxd : x ≠ dx := inst_ne N List.mem_cons_self (List.mem_cons_of_mem _ List.mem_cons_self)
  refine wpAny_call (enterV (ev := ce) F X N T Fs rfl (by kernel_rfl) (by omega) (BindsTo.of_eq rfl) (locs rfl) (fun oL L' h₁ Cl Fs₁ F₁ N₁ hne hltL => ?_) hcs rfl rfl rfl (by decide))
  have N₂ : News base L' h₁ ((x, instObj 133 dx) :: (dx, tokD w.params k1 k2 k3 k4 k5 b sv (.str D dt) (.int i it) nv) :: (new ++ ((L, oL) :: frs))) := fun q hq => N₁ q (mem_i1 hq)
  have hLd : L ≠ dx := Ne.symm (hne (dx, tokD w.params k1 k2 k3 k4 k5 b sv (.str D dt) (.int i it) nv) (List.mem_cons_of_mem _ List.mem_cons_self))
  have hLx : L ≠ x := Ne.symm (hne (x, instObj 133 dx) List.mem_cons_self)
  have hrd : ∀ q ∈ new ++ ((L, oL) :: frs), q.1 ≠ dx := fun q hq => by
    simp only [List.mem_cons, List.mem_append] at hq
    rcases hq with hq | rfl | hq
    · exact hdx q (List.mem_append_left _ hq)
    · exact hLd
    · exact hdx q (List.mem_append_right _ hq)
  clear N₁
  have hnL : ∀ q ∈ new ++ frs, q.1 ≠ L := fun q hq => hne q (List.mem_cons_of_mem _ (List.mem_cons_of_mem _ hq))
  cases hg : chAt D i with
  | none =>
    k_steps
    rename_i e' X'
    have hfe : ∀ q ∈ (x, instObj 133 dx) :: (dx, tokD w.params k1 k2 k3 k4 k5 b sv (.str D dt) (.int i it) nv) :: new, q.1 ∉ ((L, oL) :: frs).map (·.1) := fun q hq hm => by
      rcases List.mem_map.mp hm with ⟨r, hr, hqr⟩
      rcases List.mem_cons.mp hr with rfl | hr
      · simp only [List.mem_cons] at hq
        rcases hq with rfl | rfl | hq
        · exact hLx hqr
        · exact hLd hqr
        · exact hne q (List.mem_cons_of_mem _ (List.mem_cons_of_mem _ (List.mem_append_left _ hq))) hqr.symm
      · simp only [List.mem_cons] at hq
        rcases hq with rfl | rfl | hq
        · exact hxf r hr hqr
        · exact hdx r (List.mem_append_right _ hr) hqr
        · exact hap q hq (hqr ▸ List.mem_map_of_mem hr)
    refine caughtN (A₀ := A) (X := "IndexError") (T' := "IndexError") (x := Str.ofString "IndexError") X' hA Fs₁ (by assumption) (new := (x, instObj 133 dx) :: (dx, tokD w.params k1 k2 k3 k4 k5 b sv (.str D dt) (.int i it) nv) :: new) (by assumption) hfe X T (by k_is) (by kernel_rfl) (by decide) (by rw [isSubtype_type]; kernel_rfl) (by rw [isSubtype_type]; kernel_rfl) (by rw [isSubtype_type]; kernel_rfl) ?_
    intro h' frs' Tb oT oe a0 SU Fs' F' N' ne1 ne2 XA
    obtain ⟨sl, qs, rfl, SU'⟩ := sameUp_cons SU
    have N3 : News base L' h' ((x, instObj 133 dx) :: (dx, tokD w.params k1 k2 k3 k4 k5 b sv (.str D dt) (.int i it) nv) :: (new ++ ((L, { oL with slots := sl }) :: qs))) := fun q hq => N' q (by simp only [List.mem_cons, List.mem_append, List.cons_append] at hq ⊢; grind)
    have hrd' := up_ne hrd SU
    clear N' hrd
    k_steps
    obtain ⟨r1, r2⟩ := fin2 Cl (by assumption) (by assumption) hLx hLd (up_ne hnL SU')
    exact hE hg _ _ _ SU' Fs'.2.2.2 r1 r2
  | some c =>
    have o1 := one_len c
    by_cases hc : c = 92
    · subst hc
      cases hg2 : chAt D (i + 1) with
      | none => exact absurd ⟨hg, hg2⟩ hl
      | some c2 =>
        have o2 := one_len c2
        have q1 : (one 92 == Str.ofString "\\") = true := by rw [bs_one, one_beq]; rfl
        k_steps
        obtain ⟨r1, r2⟩ := fin2 (sl := oL.slots) Cl (by assumption) (by assumption) hLx hLd hnL
        exact h2 c2 hg hg2 _ _ _ _ r1 r2
    · have q1 : (one c == Str.ofString "\\") = false := by rw [bs_one, one_beq]; simpa using hc
      k_steps
      obtain ⟨r1, r2⟩ := fin2 (sl := oL.slots) Cl (by assumption) (by assumption) hLx hLd hnL
      exact h1 c hg hc _ _ _ _ r1 r2
theorem exc_ctx {oe oT : Obj} {cls a0 : Value} {dct : Option Addr} {T : Addr} {fl : Value} (X : ExcAt oe oT cls dct a0 .none T fl) : ∃ vs, oe.data = .fields vs ∧ vs[2]? = some .none := by
  obtain ⟨vs, hd, _, _, h2⟩ := X.data
  exact ⟨vs, hd, h2⟩
/-- «self.__next()» where a lone backslash would have to be read -/
theorem next_lone {w : World} {loose : List Str} {mean : ExcName → Option Value} {mg mb : Str → Option Value} {A : Around} {l : List Env} {ce : Env}
    {base : Heap} {L : Addr} {m : Str → Option Value} {s : Shared} {Q E : Value → Shared → Prop} {new frs : List (Addr × Obj)}
    {x dx : Addr} {k1 k2 k3 k4 k5 : Tok} {b : Bool} {gv : Value} {D : Str} {dt : Tok} {i : Int} {it : Tok} {nv : Value}
    (F : Fr base L s.heap m) (X : (hd.heap_1 w.params).In base) (N : News base L s.heap ((x, instObj 133 dx) :: (dx, tokD w.params k1 k2 k3 k4 k5 b gv (.str D dt) (.int i it) nv) :: (new ++ frs))) (T : Top hd.view_39 loose mean mg mb base)
    (Fs : Frs l frs) (hcs : EvAt ce L) (hdx : ∀ q ∈ new ++ frs, q.1 ≠ dx) (hxf : ∀ q ∈ frs, q.1 ≠ x) (hap : ∀ q ∈ new, q.1 ∉ frs.map (·.1)) (hA : A.frames = some (ce :: l)) (hh : A.handled = none) (hd' : A.depth + 16 < recursionLimit)
    (hD : D.length ≤ 2000) (hi0 : -3000 ≤ i) (hi : i ≤ 3000) (hg : GivenIs b gv D)
    (hl : chAt D i = some 92 ∧ chAt D (i + 1) = none) (hD1 : 1 ≤ D.length)
    (hE : RaisedE w.params base L m l ((x, instObj 133 dx) :: (dx, tokD w.params k1 k2 k3 k4 k5 b gv (.str D dt) (.int i it) nv) :: new) frs (Str.ofString "bad escape (end of pattern)") gv D.cps.toList ((D.length : Int) - 1) E s) :
    wpAny (model PySem.Challenge.rw_kq0016_06.row.prog w) A (call (.ref 65) [.ref x]) Q E s := by
  have hxd : x ≠ dx := inst_ne N List.mem_cons_self (List.mem_cons_of_mem _ List.mem_cons_self)
  refine wpAny_call (enterV (ev := ce) F X N T Fs rfl (by kernel_rfl) (by omega) (BindsTo.of_eq rfl) (locs rfl) (fun oL L' h₁ Cl Fs₁ F₁ N₁ hne hltL => ?_) hcs rfl rfl rfl (by decide))
  have N₂ : News base L' h₁ ((x, instObj 133 dx) :: (dx, tokD w.params k1 k2 k3 k4 k5 b gv (.str D dt) (.int i it) nv) :: (new ++ ((L, oL) :: frs))) := fun q hq => N₁ q (mem_i1 hq)
  have hLd : L ≠ dx := Ne.symm (hne (dx, tokD w.params k1 k2 k3 k4 k5 b gv (.str D dt) (.int i it) nv) (List.mem_cons_of_mem _ List.mem_cons_self))
  have hLx : L ≠ x := Ne.symm (hne (x, instObj 133 dx) List.mem_cons_self)
  have hrd : ∀ q ∈ new ++ ((L, oL) :: frs), q.1 ≠ dx := fun q hq => by
    simp only [List.mem_cons, List.mem_append] at hq
    rcases hq with hq | rfl | hq
    · exact hdx q (List.mem_append_left _ hq)
    · exact hLd
    · exact hdx q (List.mem_append_right _ hq)
  clear N₁
  have hnL : ∀ q ∈ new ++ frs, q.1 ≠ L := fun q hq => hne q (List.mem_cons_of_mem _ (List.mem_cons_of_mem _ hq))
  obtain ⟨hl1, hl2⟩ := hl
  have o1 := one_len 92
  have q1 : (one 92 == Str.ofString "\\") = true := by rw [bs_one, one_beq]; rfl
  have hfe : ∀ q ∈ (x, instObj 133 dx) :: (dx, tokD w.params k1 k2 k3 k4 k5 b gv (.str D dt) (.int i it) nv) :: new, q.1 ∉ ((L, oL) :: frs).map (·.1) := fun q hq hm => by
    rcases List.mem_map.mp hm with ⟨r, hr, hqr⟩
    rcases List.mem_cons.mp hr with rfl | hr
    · simp only [List.mem_cons] at hq
      rcases hq with rfl | rfl | hq
      · exact hLx hqr
      · exact hLd hqr
      · exact hne q (List.mem_cons_of_mem _ (List.mem_cons_of_mem _ (List.mem_append_left _ hq))) hqr.symm
    · simp only [List.mem_cons] at hq
      rcases hq with rfl | rfl | hq
      · exact hxf r hr hqr
      · exact hdx r (List.mem_append_right _ hr) hqr
      · exact hap q hq (hqr ▸ List.mem_map_of_mem hr)
  k_steps
  rename_i e' X'
  refine caughtN (A₀ := A) (X := "IndexError") (T' := "IndexError") (x := Str.ofString "IndexError") X' hA Fs₁ (by assumption) (new := (x, instObj 133 dx) :: (dx, tokD w.params k1 k2 k3 k4 k5 b gv (.str D dt) (.int i it) nv) :: new) (by assumption) hfe X T (by k_is) (by kernel_rfl) (by decide) (by rw [isSubtype_type]; kernel_rfl) (by rw [isSubtype_type]; kernel_rfl) (by rw [isSubtype_type]; kernel_rfl) ?_
  intro h' frs' Tb oT oe a0 SU Fs' F' N' ne1 ne2 XA
  obtain ⟨sl, qs, rfl, SU'⟩ := sameUp_cons SU
  obtain ⟨vse, hde, hce⟩ := exc_ctx XA
  have N3 : News base L' h' ((e', oe) :: (x, instObj 133 dx) :: (dx, tokD w.params k1 k2 k3 k4 k5 b gv (.str D dt) (.int i it) nv) :: (new ++ ((L, { oL with slots := sl }) :: qs))) := fun q hq => N' q (by simp only [List.mem_cons, List.mem_append, List.cons_append] at hq ⊢; grind)
  have hHd : ∀ (A' : Around) rest, A'.handled = some (.ref e') → HdOk A' ((e', oe) :: rest) := fun A' rest h => .inr ⟨e', oe, vse, h, List.mem_cons_self, hde, hce⟩
  have ne3 : ∀ q ∈ (x, instObj 133 dx) :: (dx, tokD w.params k1 k2 k3 k4 k5 b gv (.str D dt) (.int i it) nv) :: (new ++ ((L, { oL with slots := sl }) :: qs)), q.1 ≠ e' := fun q hq => by
    have up : ∀ r ∈ (L, { oL with slots := sl }) :: qs, ∃ r' ∈ (L, oL) :: frs, r.1 = r'.1 := SU.fwd
    simp only [List.mem_cons, List.mem_append] at hq
    rcases hq with rfl | rfl | hq | hq
    · exact ne1 (x, _) (by simp)
    · exact ne1 (dx, _) (by simp)
    · exact ne1 q (by simp [hq])
    · obtain ⟨r', hr', z⟩ := up q (by simpa using hq)
      rw [z]; exact ne1 r' (List.mem_append_right _ hr')
  clear N' hrd hfe; (try clear N); (try clear N₂)
  have hg' := hg
  rcases hg with ⟨rfl, gt, rfl⟩ | ⟨rfl, gB, gt, rfl, gh⟩
  all_goals (
    repeat ((fail_if_success (with_reducible show wpAny _ _ (exec (Stmt.Raise _ _ _) _) _ _ _)); first | (k_unfold; (try dsimp only)) | walk1 | (dsimp only; walk1))
    refine exec_raise_from (C := 41) (hx := e') (by rfl) ?_
    k_steps
    refine pe_c (D := D) (by k_asm) X (by with_reducible assumption) T (hHd _ _ rfl) ?dd hg' hD ?hm (by omega) (by omega) ?_
    case dd => show A.depth + 1 + 6 < recursionLimit; omega
    case hm => decide +kernel
    intro h'' k'' e2 d t o3 pe F5 N5 l1 l2 l3 l4
    obtain ⟨nm', q', NC, bs, hdct, sn, sub, ab, col, dd, c0, c1, c2, c3, c5, hC, rfl⟩ := cls41 w.params
    have SUt := ‹SameUp frs qs›
    refine raise_out2 (mid := (x, instObj 133 dx) :: (dx, _) :: new) hC X pe F5 N5 Cl hde hce l1 l2 l3 l4 (Around.frames_deeper hA) rfl (by assumption) ?hmid ?hLf (hE.up SUt)
    case hmid => exact ffmid (ff hdx hxf hap hLd hLx hnL SUt).1 (ff hdx hxf hap hLd hLx hnL SUt).2.1 (ff hdx hxf hap hLd hLx hnL SUt).2.2
    case hLf => exact ffL hLd hLx hnL SUt)
end Mine
end

section
open PySem PySem.W PySem.Calls PySem.Spec PyProof.Rows
set_option maxRecDepth 100000
namespace Mine
/-- what a row asks of the reader: its name, its end, where it begins and what is behind -/
structure RowAsk (D : Str) (ns : List Str) (e : Str) (bh : Int) (p : Nat) (sgs : List Str) (p' : Nat) (rest : List Str) : Prop where
  pos : ∀ z ∈ ns, 1 ≤ z.length
  off : e ∉ ns
  way : (sgs = ns ++ e :: rest ∧ p' = p + (cat ns).length + e.length ∧ bh = (p' : Int)) ∨ (sgs = ns ∧ rest = [] ∧ bh = -1 ∧ p' = p + (cat ns).length ∧ p' = D.length)
end Mine
end

section
open PySem PySem.W PySem.Calls PySem.Spec PyProof.Rows
set_option maxRecDepth 100000
namespace Mine
/-- the signs of D from i on; behind them the end, or a backslash alone -/
def SignsX (lone : Bool) (D : Str) : Nat → List Str → Prop
  | i, [] => if lone then D.cps.toList[i]? = some 92 ∧ D.cps.toList[i + 1]? = none else D.cps.toList[i]? = none
  | i, y :: r => (∃ c, D.cps.toList[i]? = some c ∧ c ≠ 92 ∧ y = one c ∧ SignsX lone D (i + 1) r) ∨ (∃ c, D.cps.toList[i]? = some 92 ∧ D.cps.toList[i + 1]? = some c ∧ y = one 92 ++ one c ∧ SignsX lone D (i + 2) r)
/-- a reader at index i whose next is nv: the sign that is next begins at p, and sgs are the signs from there -/
def RdX (lone : Bool) (D : Str) (i : Nat) (nv : Value) (p : Nat) : List Str → Prop
  | [] => lone = false ∧ nv = .none ∧ i = p ∧ D.cps.toList[p]? = none
  | y :: r => ∃ t, nv = .str y t ∧ i = p + y.length ∧ 1 ≤ y.length ∧ y.length ≤ 2 ∧ i ≤ D.length ∧ SignsX lone D i r
/-- what getuntil gives, and where the reader stands then -/
def GetsX (lone : Bool) (D tv m1 m2 : Str) (sgs : List Str) (p : Nat) (r : Str ⊕ (Str × Int)) (p' : Nat) (rest : List Str) : Prop :=
  (∃ pre, sgs = pre ++ tv :: rest ∧ tv ∉ pre ∧ ¬ (rest = [] ∧ lone = true) ∧ pre ≠ [] ∧ r = .inl (cat pre) ∧ p' = p + (cat pre).length + tv.length) ∨
  (sgs = tv :: rest ∧ ¬ (rest = [] ∧ lone = true) ∧ r = .inr (m1, (p : Int) + tv.length - 1) ∧ p' = p + tv.length) ∨
  (lone = false ∧ sgs = [] ∧ rest = [] ∧ r = .inr (m1, (p : Int)) ∧ p' = p) ∨
  (lone = false ∧ tv ∉ sgs ∧ sgs ≠ [] ∧ rest = [] ∧ r = .inr (m2, (p : Int)) ∧ p' = p + (cat sgs).length) ∨
  (lone = true ∧ ∃ pre y, sgs = pre ++ [y] ∧ tv ∉ pre ∧ rest = [y] ∧ r = .inr (Str.ofString "bad escape (end of pattern)", (D.length : Int) - 1) ∧ p' = p + (cat pre).length)
theorem same_text {D : Str} {t t' : Tok} : ∀ u v, SameV u (.str D t') → SameV v (.str D t) → SameV u v := by
  intro u v h1 h2
  cases u <;> cases v <;> simp_all [SameV]
theorem same_octets {B : Array UInt8} {t t' : Tok} : ∀ u v, SameV u (.bytes B t') → SameV v (.bytes B t) → SameV u v := by
  intro u v h1 h2
  cases u <;> cases v <;> simp_all [SameV]
end Mine
end

local macro_rules | `(tactic| walk_at "z1") => `(tactic| first | ((with_reducible show Fr _ _ _ _); k_asm) | ((with_reducible show News _ _ _ _); k_asm) | ((with_reducible show Frag.In _ _); k_asm) | ((with_reducible show Top _ _ _ _ _ _); k_asm) | ((with_reducible show Around.frames _ = _); exact Around.frames_deeper (by assumption)))
local macro_rules | `(tactic| walk_at "z2") => `(tactic| ((with_reducible show (_ : Prop)); first | with_reducible assumption | ((with_reducible show Around.handled _ = none); assumption) | ((with_reducible show EvAt _ _); first | exact EvAt.of rfl | exact EvAt.ofC rfl) | ((with_reducible show _ = ScopeKind.function); rfl) | ((with_reducible show _ < recursionLimit); (show _ + 1 + _ < _); omega) | ((with_reducible show _ < recursionLimit); (show _ + 1 + 1 + _ < _); omega) | ((with_reducible show _ ≤ _); omega)))
section
open PySem PySem.W PySem.Calls PySem.Spec PyProof.Rows
set_option maxRecDepth 100000
set_option maxHeartbeats 2000000
namespace Mine
theorem anew3 : True := by
  w_top off
  exact True.intro
open TI
theorem fillTZ6 (P : Params) : hd.heap_1 P = hd.heap_1 P ∧ PySem.Challenge.rw_kq0016_06 = PySem.Challenge.rw_kq0016_06 := by
  k_fill
  exact ⟨rfl, rfl⟩

theorem IsPeZ.ne {P : Params} {msg : Str} {pat : Value} {pos ln co : Int} {wd : Str} {e d t : Addr} {o3 : List (Addr × Obj)} (h : IsPeZ P msg pat pos ln co wd e d t o3) {L : Addr} (a : L ≠ e) (b : L ≠ d) (c : L ≠ t) : ∀ q ∈ o3, q.1 ≠ L := by
  obtain ⟨k1, k2, k3, k4, k5, tm, tp, tl, tc, tw, rfl⟩ := h
  intro q hq
  simp only [List.mem_cons, List.not_mem_nil, or_false] at hq
  rcases hq with rfl | rfl | rfl
  · exact a.symm
  · exact b.symm
  · exact c.symm
theorem tell_c {w : World} {loose : List Str} {mean : ExcName → Option Value} {mg mb : Str → Option Value} {A : Around}
    {base : Heap} {L : Addr} {m : Str → Option Value} {s : Shared} {Q E : Value → Shared → Prop} {rest : List (Addr × Obj)}
    {x dx : Addr} {k1 k2 k3 k4 k5 : Tok} {b : Bool} {sv dv : Value} {i : Int} {it : Tok} {nv : Value}
    (F : Fr base L s.heap m) (X : (hd.heap_1 w.params).In base) (N : News base L s.heap ((x, instObj 133 dx) :: (dx, tokD w.params k1 k2 k3 k4 k5 b sv dv (.int i it) nv) :: rest)) (T : Top hd.view_39 loose mean mg mb base)
    (hd' : A.depth + 3 < recursionLimit) (hn : NextOk nv)
    (hQ : ∀ h' tk t, Fr base L h' m → News base L h' ((x, instObj 133 dx) :: (dx, tokD w.params k1 k2 k3 k4 k5 b sv dv (.int i it) nv) :: rest) → Q (.int (i - nlen nv) t) { s with heap := h', toks := tk }) :
    wpAny (model PySem.Challenge.rw_kq0016_06.row.prog w) A (call (.ref 108) [.ref x]) Q E s := by
  refine wpAny_call (enterM (cn := Str.ofString "") (cs := { kind := .function, names := [], isGenerator := false, isCoroutine := false }) (a := 0) (ccd := .none) (l := []) (frs := []) F X N T trivial rfl (by kernel_rfl) (by omega) (BindsTo.of_eq rfl) (locs rfl) (fun oL L' h₁ Cl Fs₁ F₁ N₁ hne hltL => ?_) rfl rfl rfl rfl (by decide))
  have N₂ : News base L' h₁ ((x, instObj 133 dx) :: (dx, tokD w.params k1 k2 k3 k4 k5 b sv dv (.int i it) nv) :: (L, oL) :: rest) := fun q hq => N₁ q (mem_i2 hq)
  have hLd : L ≠ dx := Ne.symm (hne (dx, tokD w.params k1 k2 k3 k4 k5 b sv dv (.int i it) nv) (List.mem_cons_of_mem _ List.mem_cons_self))
  have hLx : L ≠ x := Ne.symm (hne (x, instObj 133 dx) List.mem_cons_self)
  have hnL : ∀ q ∈ rest, q.1 ≠ L := fun q hq => hne q (List.mem_cons_of_mem _ (List.mem_cons_of_mem _ hq))
  clear N₁ Fs₁
  cases nv with
  | none =>
    k_steps
    obtain ⟨r1, r2⟩ := fin2 (sl := oL.slots) (new := []) Cl (by assumption) (by assumption) hLx hLd hnL
    exact hQ _ _ _ r1 r2
  | str y yt =>
    obtain ⟨hn1, hn2⟩ := hn
    k_steps
    · obtain ⟨r1, r2⟩ := fin2 (sl := oL.slots) (new := []) Cl (by assumption) (by assumption) hLx hLd hnL
      exact hQ _ _ _ r1 r2
    · omega
  | _ => exact hn.elim

local macro_rules | `(tactic| walk_at "call ref") => `(tactic| (k_here; (with_reducible show wpAny _ _ (call (Value.ref 108) _) _ _ _); k_dflt (refine' tell_c ?_ ?_ ?_ ?_ ?_ ?n ?_; (all_goals (try walk_at "z1")); (case n => assumption); (all_goals (try walk_at "z2"))); intro h' tk' t' F' N'; (try k_sweep); (try dsimp only)))
local macro_rules | `(tactic| walk_at "call ref") => `(tactic| (k_here; (with_reducible show wpAny _ _ (call (Value.ref 41) _) _ _ _); k_dflt (refine' pe_S ?_ ?_ ?_ ?_ ?_ ?hD ?hm ?_ ?h1 ?_; (all_goals (try walk_at "z1")); (case hD => assumption); (case hm => assumption); (case h1 => omega); (all_goals (try walk_at "z2"))); intro h' k' e' d' t' o3 pe rF rN l1 l2 l3 l4))

theorem error_cS {w : World} {loose : List Str} {mean : ExcName → Option Value} {mg mb : Str → Option Value} {A : Around}
    {base : Heap} {L : Addr} {m : Str → Option Value} {s : Shared} {Q E : Value → Shared → Prop} {rest : List (Addr × Obj)}
    {x dx : Addr} {k1 k2 k3 k4 k5 : Tok} {dv : Value} {D : Str} {dt tm : Tok} {i : Int} {it : Tok} {nv : Value} {msg : Str} {off : Int} {ot : Tok} {vals : List Value}
    (hvals : vals = [.ref x, .str msg tm, .int off ot])
    (F : Fr base L s.heap m) (X : (hd.heap_1 w.params).In base) (N : News base L s.heap ((x, instObj 133 dx) :: (dx, tokD w.params k1 k2 k3 k4 k5 true (.str D dt) dv (.int i it) nv) :: rest)) (T : Top hd.view_39 loose mean mg mb base)
    (hd' : A.depth + 12 < recursionLimit) (hn : NextOk nv) (hD : D.cps.toList.length ≤ 2000) (hm : msg.length ≤ 20000) (hp0 : -10000 ≤ i - nlen nv - off) (hp1 : i - nlen nv - off ≤ 10000)
    (hQ : ∀ h' k e d t o3, IsPeZ w.params msg (.str D dt) (i - nlen nv - off) (lineZ D.cps.toList (i - nlen nv - off)) (colZ D.cps.toList (i - nlen nv - off)) (wordsZ msg D.cps.toList (i - nlen nv - off)) e d t o3 → Fr base L h' m → News base L h' (o3 ++ ((x, instObj 133 dx) :: (dx, tokD w.params k1 k2 k3 k4 k5 true (.str D dt) dv (.int i it) nv) :: rest)) →
      (∀ q ∈ (x, instObj 133 dx) :: (dx, tokD w.params k1 k2 k3 k4 k5 true (.str D dt) dv (.int i it) nv) :: rest, q.1 ≠ e ∧ q.1 ≠ d ∧ q.1 ≠ t) → e ≠ d → e ≠ t → d ≠ t → Q (.ref e) { s with heap := h', toks := k }) :
    wpAny (model PySem.Challenge.rw_kq0016_06.row.prog w) A (call (.ref 123) vals) Q E s := by
  subst hvals
  all_goals (
    refine wpAny_call (enterM (cn := Str.ofString "") (cs := { kind := .function, names := [], isGenerator := false, isCoroutine := false }) (a := 0) (ccd := .none) (l := []) (frs := []) F X N T trivial rfl (by kernel_rfl) (by omega) (binds_K (X.keeps F.keep) rfl (by k_is) rfl rfl rfl) (locs rfl) (fun oL L' h₁ Cl Fs₁ F₁ N₁ hne hltL => ?_) rfl rfl rfl rfl (by decide))
    have N₂ : News base L' h₁ ((x, instObj 133 dx) :: (dx, tokD w.params k1 k2 k3 k4 k5 true (.str D dt) dv (.int i it) nv) :: (L, oL) :: rest) := fun q hq => N₁ q (mem_i2 hq)
    clear N₁ Fs₁
    k_steps
    rename_i e' d' t' o3 pe rF rN l1 l2 l3 l4
    have hL3 : L ≠ e' ∧ L ≠ d' ∧ L ≠ t' := l1 (L, oL) (by simp)
    refine hQ _ _ e' d' t' o3 pe (backM (sl := oL.slots) Cl rF rN (by simp)) (backN rN ?ha ?hb) ?hc l2 l3 l4
    case ha => intro q hq; simp only [List.mem_cons, List.mem_append] at hq ⊢; grind
    case hb =>
      intro q hq
      rcases List.mem_append.mp hq with hq | hq
      · exact pe.ne hL3.1 hL3.2.1 hL3.2.2 q hq
      · exact hne q hq
    case hc =>
      intro q hq
      refine l1 q ?_
      simp only [List.mem_cons] at hq ⊢
      rcases hq with hq | hq | hq
      · exact .inl hq
      · exact .inr (.inl hq)
      · exact .inr (.inr (.inr hq)))
local macro_rules | `(tactic| walk_at "call ref") => `(tactic| (k_here; (with_reducible show wpAny _ _ (call (Value.ref 41) _) _ _ _); k_dflt (refine' pe_B ?_ ?_ ?_ ?_ ?hh ?_ ?hD ?hm ?_ ?h1 ?_; (all_goals (try walk_at "z1")); (case hh => exact .inl (by assumption)); (case hD => assumption); (case hm => assumption); (case h1 => omega); (all_goals (try walk_at "z2"))); intro h' k' e' d' t' o3 pe rF rN l1 l2 l3 l4))
local macro_rules | `(tactic| walk_at "getMethod str") => `(tactic| with_reducible refine encode_method ?_)
local macro_rules | `(tactic| walk_at "call builtin:str.encode") => `(tactic| ((with_reducible rename EncTo _ _ => xE); refine xE _ _ _ _ _ _ _ _ _ ?_; intro t' k'))
local macro_rules | `(tactic| walk_at "call builtin:bytes.decode") => `(tactic| ((with_reducible rename DecTo _ _ => xE); refine xE _ _ _ _ _ _ _ _ ?_; intro t' k'))

theorem error_cB {w : World} {loose : List Str} {mean : ExcName → Option Value} {mg mb : Str → Option Value} {A : Around}
    {base : Heap} {L : Addr} {m : Str → Option Value} {s : Shared} {Q E : Value → Shared → Prop} {rest : List (Addr × Obj)}
    {x dx : Addr} {k1 k2 k3 k4 k5 : Tok} {dv : Value} {D : Array UInt8} {dt tm : Tok} {i : Int} {it : Tok} {nv : Value} {msg msg' : Str} {bs : Array UInt8} {off : Int} {ot : Tok} {vals : List Value}
    (hvals : vals = [.ref x, .str msg tm, .int off ot])
    (F : Fr base L s.heap m) (X : (hd.heap_1 w.params).In base) (N : News base L s.heap ((x, instObj 133 dx) :: (dx, tokD w.params k1 k2 k3 k4 k5 false (.bytes D dt) dv (.int i it) nv) :: rest)) (T : Top hd.view_39 loose mean mg mb base)
    (hh : A.handled = none) (he : EncTo msg bs) (hdec : DecTo bs msg') (hd' : A.depth + 12 < recursionLimit) (hn : NextOk nv) (hD : (nums D).length ≤ 2000) (hm : msg'.length ≤ 20000) (hp0 : -10000 ≤ i - nlen nv - off) (hp1 : i - nlen nv - off ≤ 10000)
    (hQ : ∀ h' k e d t o3, IsPeZ w.params msg' (.bytes D dt) (i - nlen nv - off) (lineZ (nums D) (i - nlen nv - off)) (colZ (nums D) (i - nlen nv - off)) (wordsZ msg' (nums D) (i - nlen nv - off)) e d t o3 → Fr base L h' m → News base L h' (o3 ++ ((x, instObj 133 dx) :: (dx, tokD w.params k1 k2 k3 k4 k5 false (.bytes D dt) dv (.int i it) nv) :: rest)) →
      (∀ q ∈ (x, instObj 133 dx) :: (dx, tokD w.params k1 k2 k3 k4 k5 false (.bytes D dt) dv (.int i it) nv) :: rest, q.1 ≠ e ∧ q.1 ≠ d ∧ q.1 ≠ t) → e ≠ d → e ≠ t → d ≠ t → Q (.ref e) { s with heap := h', toks := k }) :
    wpAny (model PySem.Challenge.rw_kq0016_06.row.prog w) A (call (.ref 123) vals) Q E s := by
  subst hvals
  all_goals (
    refine wpAny_call (enterM (cn := Str.ofString "") (cs := { kind := .function, names := [], isGenerator := false, isCoroutine := false }) (a := 0) (ccd := .none) (l := []) (frs := []) F X N T trivial rfl (by kernel_rfl) (by omega) (binds_K (X.keeps F.keep) rfl (by k_is) rfl rfl rfl) (locs rfl) (fun oL L' h₁ Cl Fs₁ F₁ N₁ hne hltL => ?_) rfl rfl rfl rfl (by decide))
    have N₂ : News base L' h₁ ((x, instObj 133 dx) :: (dx, tokD w.params k1 k2 k3 k4 k5 false (.bytes D dt) dv (.int i it) nv) :: (L, oL) :: rest) := fun q hq => N₁ q (mem_i2 hq)
    clear N₁ Fs₁
    k_steps
    rename_i e' d' t' o3 pe rF rN l1 l2 l3 l4
    have hL3 : L ≠ e' ∧ L ≠ d' ∧ L ≠ t' := l1 (L, oL) (by simp)
    refine hQ _ _ e' d' t' o3 pe (backM (sl := oL.slots) Cl rF rN (by simp)) (backN rN ?ha ?hb) ?hc l2 l3 l4
    case ha => intro q hq; simp only [List.mem_cons, List.mem_append] at hq ⊢; grind
    case hb =>
      intro q hq
      rcases List.mem_append.mp hq with hq | hq
      · exact pe.ne hL3.1 hL3.2.1 hL3.2.2 q hq
      · exact hne q hq
    case hc =>
      intro q hq
      refine l1 q ?_
      simp only [List.mem_cons] at hq ⊢
      rcases hq with hq | hq | hq
      · exact .inl hq
      · exact .inr (.inl hq)
      · exact .inr (.inr (.inr hq)))
/-- self.error(words, offset) -/
theorem error_c {w : World} {loose : List Str} {mean : ExcName → Option Value} {mg mb : Str → Option Value} {A : Around}
    {base : Heap} {L : Addr} {m : Str → Option Value} {s : Shared} {Q E : Value → Shared → Prop} {rest : List (Addr × Obj)}
    {x dx : Addr} {k1 k2 k3 k4 k5 : Tok} {b : Bool} {gv dv : Value} {D : Str} {tm : Tok} {i : Int} {it : Tok} {nv : Value} {msg msg' : Str} {off : Int} {ot : Tok} {vals : List Value}
    (hvals : vals = [.ref x, .str msg tm, .int off ot])
    (F : Fr base L s.heap m) (X : (hd.heap_1 w.params).In base) (N : News base L s.heap ((x, instObj 133 dx) :: (dx, tokD w.params k1 k2 k3 k4 k5 b gv dv (.int i it) nv) :: rest)) (T : Top hd.view_39 loose mean mg mb base)
    (hh : A.handled = none) (hg : GivenIs b gv D) (hw : WordsTo b msg msg') (hd' : A.depth + 12 < recursionLimit) (hn : NextOk nv) (hD : D.length ≤ 2000) (hm : msg'.length ≤ 20000) (hp0 : -10000 ≤ i - nlen nv - off) (hp1 : i - nlen nv - off ≤ 10000)
    (hQ : ∀ h' k e d t o3, IsPeZ w.params msg' gv (i - nlen nv - off) (lineZ D.cps.toList (i - nlen nv - off)) (colZ D.cps.toList (i - nlen nv - off)) (wordsZ msg' D.cps.toList (i - nlen nv - off)) e d t o3 → Fr base L h' m → News base L h' (o3 ++ ((x, instObj 133 dx) :: (dx, tokD w.params k1 k2 k3 k4 k5 b gv dv (.int i it) nv) :: rest)) →
      (∀ q ∈ (x, instObj 133 dx) :: (dx, tokD w.params k1 k2 k3 k4 k5 b gv dv (.int i it) nv) :: rest, q.1 ≠ e ∧ q.1 ≠ d ∧ q.1 ≠ t) → e ≠ d → e ≠ t → d ≠ t → Q (.ref e) { s with heap := h', toks := k }) :
    wpAny (model PySem.Challenge.rw_kq0016_06.row.prog w) A (call (.ref 123) vals) Q E s := by
  have hD' : D.cps.toList.length ≤ 2000 := by simpa [Str.length] using hD
  rcases hg with ⟨rfl, t, rfl⟩ | ⟨rfl, B, t, rfl, hB⟩
  · obtain rfl : msg' = _ := hw.elim (fun z => z.2) (fun z => absurd z.1 (by decide))
    exact error_cS hvals F X N T hd' hn hD' hm hp0 hp1 hQ
  · obtain ⟨bs, he, hdc⟩ : ∃ bs, EncTo msg bs ∧ DecTo bs msg' := hw.elim (fun z => absurd z.1 (by decide)) (fun z => z.2)
    rw [← hB] at hQ hD'
    exact error_cB hvals F X N T hh he hdc hd' hn hD' hm hp0 hp1 hQ
end Mine
end

local macro_rules | `(tactic| walk_at "z3") => `(tactic| (repeat (first | with_reducible exact List.mem_cons_self | with_reducible assumption | apply List.mem_cons_of_mem | apply List.mem_append_right)))
section
open PySem PySem.W PySem.Calls PySem.Spec PyProof.Rows
set_option maxRecDepth 100000
set_option maxHeartbeats 2000000
namespace Mine
theorem anew4 : True := by
  w_top off
  exact True.intro
open TI
theorem fillTD6 (P : Params) : hd.heap_1 P = hd.heap_1 P ∧ PySem.Challenge.rw_kq0016_06 = PySem.Challenge.rw_kq0016_06 := by
  k_fill
  exact ⟨rfl, rfl⟩
/-- an error object: its class, its dict, its words -/
structure ErrIs (oe : Obj) (d t : Addr) : Prop where
  cls : oe.cls = .ref 41
  dict : oe.dict = some d
  data : ∃ vs, oe.data = .fields vs ∧ vs[0]? = some (.ref t)
theorem errInst {base h : Heap} {L e d t : Addr} {news : List (Addr × Obj)} {oe od : Obj} (N : News base L h news) (h1 : (e, oe) ∈ news) (h2 : (d, od) ∈ news) (XA : ErrIs oe d t) : W.InstAt h e oe 41 (some od) :=
  ⟨(N _ h1).1, XA.cls, by obtain ⟨vs, hd, _⟩ := XA.data; unfold notCls; rw [hd], by rw [XA.dict]; exact (N _ h2).1⟩
theorem rd_pattern (P : Params) : readsE (hd.heap_1 P) 41 "pattern" = true := by kernel_rfl
theorem rd_pos (P : Params) : readsE (hd.heap_1 P) 41 "pos" = true := by kernel_rfl
theorem rd_lineno (P : Params) : readsE (hd.heap_1 P) 41 "lineno" = true := by kernel_rfl
theorem rd_colno (P : Params) : readsE (hd.heap_1 P) 41 "colno" = true := by kernel_rfl
theorem str41 (P : Params) : findIn (hd.heap_1 P) (.ref 41) "__str__" = some (some (.builtin "BaseException.__str__")) := by kernel_rfl
theorem kts41 (P : Params) : ktsIn (hd.heap_1 P) 41 "BaseException" = true := by kernel_rfl
theorem mro41 (P : Params) : mroIn (hd.heap_1 P) 41 (.type "BaseException") = some true := by kernel_rfl
theorem pe_strZ {prog : Program} {w : World} {A : Around} {E : Value → Shared → Prop} {s : Shared} {K : Frag} {base : Heap} {L e d t0 : Addr} {news : List (Addr × Obj)} {oe od : Obj} {m : Str} {tk : Tok} {mm : Str → Option Value} {Q : Value → Shared → Prop}
    (hu : A.in1.in1.units < cLine) (F : Fr base L s.heap mm) (X : K.In base) (N : News base L s.heap news) (h1 : (e, oe) ∈ news) (h2 : (d, od) ∈ news) (h3 : (t0, ({ cls := .type "tuple", data := .seq #[.str m tk] } : Obj)) ∈ news) (XA : ErrIs oe d t0)
    (hs : findIn K (.ref 41) "__str__" = some (some (.builtin "BaseException.__str__"))) (hm : mroIn K 41 (.type "BaseException") = some true) (hq : Q (.str m tk) s) : wpAny (model prog w) A (call (.type "str") [.ref e]) Q E s := by
  obtain ⟨vs, hd, h0⟩ := XA.data
  exact pe_str hu (X.keeps F.keep) (errInst N h1 h2 XA) hd h0 (N _ h3).1 hs hm hq
local macro_rules | `(tactic| walk_at "getAttr ref") => `(tactic| (k_here; k_dflt (refine' getEU ?F ?X ?I ?r ?l ?h ?_; (case F => k_asm); (case X => k_asm); (case I => (refine' errInst ?N ?h1 ?h2 ?XA; (case XA => with_reducible assumption); (case N => k_asm); (case h1 => walk_at "z3"); (case h2 => walk_at "z3"))); (case r => with_reducible first | exact rd_msg _ | exact rd_pattern _ | exact rd_pos _ | exact rd_lineno _ | exact rd_colno _); (case l => rfl); (case h => first | rfl | with_reducible assumption)); (try dsimp only)))
local macro_rules | `(tactic| walk_at "call type:str") => `(tactic| (k_here; (with_reducible show wpAny _ _ (call (Value.type "str") [Value.ref _]) _ _ _); k_dflt (refine' pe_strZ ?u ?F ?X ?N ?h1 ?h2 ?h3 ?XA ?s ?m ?_; (case XA => with_reducible assumption); (case F => k_asm); (case X => k_asm); (case N => k_asm); (case h1 => walk_at "z3"); (case h2 => walk_at "z3"); (case h3 => walk_at "z3"); (case s => exact str41 _); (case m => exact mro41 _); (case u => ((try simp only [units_in1, units_deeper, Around.mark_units]); omega)))))
theorem allLt_lt {b : Addr} : ∀ {l : List (Addr × Obj)}, AllLt b l → ∀ q ∈ l, q.1 < b
  | [], _, _, h => nomatch h
  | _ :: _, h, q, hq => by
    rcases List.mem_cons.mp hq with rfl | hq
    · exact h.1
    · exact allLt_lt h.2 q hq
/-- the six things that are told of an error -/
abbrev toldL (msg : Str) (gv : Value) (pos ln co : Int) (wd : Str) (tm tp tl tc tw : Tok) : List Value := [.str msg tm, gv, .int pos tp, .int ln tl, .int co tc, .str wd tw]
/-- _law_told(e) -/
theorem told_c {w : World} {loose : List Str} {mean : ExcName → Option Value} {mg mb : Str → Option Value} {A : Around}
    {base : Heap} {L : Addr} {m : Str → Option Value} {s : Shared} {Q E : Value → Shared → Prop} {news : List (Addr × Obj)} {e d t : Addr} {oe : Obj} {k1 k2 k3 k4 k5 tm tp tl tc tw : Tok} {msg wd : Str} {gv : Value} {pos ln co : Int}
    (F : Fr base L s.heap m) (X : (hd.heap_1 w.params).In base) (N : News base L s.heap (news)) (T : Top hd.view_39 loose mean mg mb base) (hd' : A.depth + 3 < recursionLimit) (hu : A.units + 20 < cLine)
    (h1 : (e, oe) ∈ news) (h2 : (d, peD w.params k1 k2 k3 k4 k5 (.str msg tm) gv (.int pos tp) (.int ln tl) (.int co tc)) ∈ news) (h3 : (t, ({ cls := .type "tuple", data := .seq #[.str wd tw] } : Obj)) ∈ news) (XA : ErrIs oe d t) (hgv : handedIn gv = true)
    (hQ : ∀ h' tk R, Fr base L h' m → News base L h' ((R, W.listOf (List.toArray (toldL msg gv pos ln co wd tm tp tl tc tw)) 0) :: news) → (∀ q ∈ news, q.1 < R) → Q (.ref R) { s with heap := h', toks := tk }) :
    wpAny (model PySem.Challenge.rw_kq0016_06.row.prog w) A (call (.ref 144) [.ref e]) Q E s := by
  refine wpAny_call (enterM (cn := Str.ofString "") (cs := { kind := .function, names := [], isGenerator := false, isCoroutine := false }) (a := 0) (ccd := .none) (l := []) (frs := []) F X N T trivial rfl (by kernel_rfl) (by omega) (BindsTo.of_eq rfl) (locs rfl) (fun oL L' h₁ Cl Fs₁ F₁ N₁ hne hltL => ?_) rfl rfl rfl rfl (by decide))
  clear Fs₁
  k_steps
  have rF := ‹Fr base L' _ _›
  have rN := ‹News base L' _ _›
  have p9 := (by assumption : @LT.lt Nat _ L _ ∧ AllLt _ news)
  exact hQ _ _ _ (backM (sl := oL.slots) Cl rF rN (by simp)) (backN rN (fun q hq => by
    rcases List.mem_cons.mp hq with rfl | hq
    · exact List.mem_cons_self
    · exact List.mem_cons_of_mem _ (List.mem_cons_of_mem _ hq)) (fun q hq => by
    rcases List.mem_cons.mp hq with rfl | hq
    · exact Ne.symm (Nat.ne_of_lt p9.1)
    · exact hne q hq)) (allLt_lt p9.2)
end Mine
end

section
open PySem PySem.W PySem.Calls PySem.Spec PyProof.Rows PySem.Builtin
set_option maxRecDepth 100000
namespace Mine
abbrev tabS : List Str := [Str.ofString "a", Str.ofString "b", Str.ofString "0", Str.ofString "\n", Str.ofString ">", Str.ofString ")", Str.ofString "\\>", Str.ofString "\\\\", Str.ofString "é"]
abbrev endS : List Str := [Str.ofString ">", Str.ofString ")", Str.ofString "\\>", Str.ofString "é", Str.ofString "\n"]
/-- what the law has built so far -/
structure Bst where
  text : Str
  name : Str
  e : Str
  rows : List (Str × Str × Nat)
/-- the sign of a number -/
def sgn (v : Int) (e : Str) : Str := if v.fmod 12 < 9 then tabS.getD (v.fmod 12).toNat Str.empty else e
def bstep (st : Bst) (v : Int) : Bst :=
  if sgn v st.e == st.e then ⟨st.text ++ sgn v st.e, Str.ofString "", endS.getD ((v.fdiv 12 + ((st.rows.length + 1 : Nat) : Int)).fmod 5).toNat Str.empty, st.rows ++ [(st.name, st.e, (st.text ++ sgn v st.e).length)]⟩
  else ⟨st.text ++ sgn v st.e, st.name ++ sgn v st.e, st.e, st.rows⟩
def bst0 (z : Int) : Bst := ⟨Str.ofString "", Str.ofString "", endS.getD ((z.fdiv 2).fmod 5).toNat Str.empty, []⟩
def built (ns : List Int) (z : Int) : Bst := ns.foldl bstep (bst0 z)
/-- one row as a tuple of the ledger -/
def RowAt (tups : List (Addr × Obj)) (r : Value) (row : Str × Str × Int) : Prop := ∃ T t1 t2 t3, r = .ref T ∧ (T, ({ cls := .type "tuple", data := .seq #[.str row.1 t1, .str row.2.1 t2, .int row.2.2 t3] } : Obj)) ∈ tups
def RowsAt (tups : List (Addr × Obj)) : List Value → List (Str × Str × Int) → Prop
  | [], [] => True
  | r :: rs, row :: rows => RowAt tups r row ∧ RowsAt tups rs rows
  | _, _ => False
def iRows (l : List (Str × Str × Nat)) : List (Str × Str × Int) := l.map fun r => (r.1, r.2.1, (r.2.2 : Int))
section
variable {a b c d e f : Str} {va vb vc vd ve vf va' vc' vd' ve' vf' : Option Value} {M : Str → Option Value}
/-- the local names in the loop that builds -/
abbrev lM (a b c d e f : Str) (va vb vc vd ve vf : Option Value) (M : Str → Option Value) : Str → Option Value := fun y => if y = a then va else if y = b then vb else if y = c then vc else if y = d then vd else if y = e then ve else if y = f then vf else M y
end
def Bnd (n : Nat) (st : Bst) : Prop := st.text.length ≤ 2 * n ∧ st.name.length ≤ 2 * n ∧ st.e.length ≤ 2 ∧ st.rows.length ≤ n
end Mine
end

section
open PySem PySem.W PySem.Calls PySem.Spec PyProof.Rows
set_option maxRecDepth 100000
namespace Mine
/-- a sign of a text: one of a backslash with what follows it, or any other -/
def IsSign (y : Str) : Prop := (∃ c, c ≠ 92 ∧ c < 256 ∧ y = one c) ∨ (∃ c, c < 256 ∧ y = one 92 ++ one c)
def sg (l : List Str) : List Nat := (l.map fun y => y.cps.toList).flatten
theorem app_cps (a b : Str) : (a ++ b).cps.toList = a.cps.toList ++ b.cps.toList := by rw [Str.cps_append]; simp
theorem empty_cps : (Str.ofString "").cps.toList = [] := by decide +kernel
theorem cat_cps (l : List Str) : (cat l).cps.toList = sg l := by
  have : ∀ (l : List Str) (a : Str), (l.foldl (· ++ ·) a).cps.toList = a.cps.toList ++ sg l := by
    intro l
    induction l with
    | nil => intro a; simp [sg]
    | cons y r ih => intro a; rw [List.foldl_cons, ih, app_cps]; simp [sg]
  unfold cat
  rw [this, empty_cps, List.nil_append]
theorem str_ext {a b : Str} (h : a.cps.toList = b.cps.toList) : a = b := Str.ext' (Array.toList_inj.mp h)
theorem sg_app (a b : List Str) : sg (a ++ b) = sg a ++ sg b := by simp [sg]
theorem cat_app (a b : List Str) : cat (a ++ b) = cat a ++ cat b := str_ext (by rw [app_cps, cat_cps, cat_cps, cat_cps, sg_app])
/-- the signs of rows that are ended -/
def flat (done : List (List Str × Str)) : List Str := (done.map fun r => r.1 ++ [r.2]).flatten
def rowsOf : Nat → List (List Str × Str) → List (Str × Str × Nat)
  | _, [] => []
  | p, r :: rest => (cat r.1, r.2, p + (cat (r.1 ++ [r.2])).length) :: rowsOf (p + (cat (r.1 ++ [r.2])).length) rest
/-- what holds of the built text between the turns -/
structure BInv (st : Bst) (done : List (List Str × Str)) (cur : List Str) (ke : Nat) : Prop where
  name : st.name = cat cur
  off : st.e ∉ cur
  kb : ke < 5
  e : st.e = endS.getD ke Str.empty
  text : st.text = cat (flat done ++ cur)
  rows : st.rows = rowsOf 0 done
  ends : ∀ r ∈ done, r.2 ∉ r.1 ∧ ∃ k < 5, r.2 = endS.getD k Str.empty
  signs : ∀ y ∈ flat done ++ cur, IsSign y
end Mine
end

section
open PySem PySem.W PySem.Calls PySem.Spec PyProof.Rows PySem.Builtin
set_option maxRecDepth 100000
set_option maxHeartbeats 1000000
namespace Mine
theorem Has.consM {m : Str → Option Value} {l l' : List (Str × Value)} {n : Str} {v : Value} (h : Has m l) (hm : (n, v) ∈ l) (r : Has m l') : Has m ((n, v) :: l') := Has.cons (h _ hm) r
/-- how a turn of a loop ends: the ledger may have grown -/
def TurnV (h₀ : Heap) (L I : Addr) (oI : Obj) (Jn : (Str → Option Value) → List (Addr × Obj) → Prop) (s₁ : Shared) (Q : Flow → Shared → Prop) (f : Flow) (s₂ : Shared) : Prop :=
  match f with
  | .ret v => Q (.ret v) s₂
  | .brk => Q .next s₂
  | _ => ∃ h' tk m₂ news₂, s₂ = { s₁ with heap := h', toks := tk } ∧ Fr h₀ L h' m₂ ∧ News h₀ L h' ((I, oI) :: news₂) ∧ (∀ p ∈ news₂, p.1 ≠ I) ∧ Jn m₂ news₂
section
variable {prog : Program} {w : World} {A : Around} {s : Shared} {env : Env} {h₀ : Heap} {E : Value → Shared → Prop} {Q : Flow → Shared → Prop} {x : Str} {body : List Stmt}
/-- an iterator of a range -/
def rgIt (x left c : Int) : Obj := { cls := .type "range_iterator", data := .fields #[rawInt x, rawInt left, rawInt c] }
/-- a loop over a range of the ledger, the ledger growing from turn to turn -/
theorem iter_rangeV {r : Addr} {a₀ b₀ c : Int} {t₀ u₀ v₀ : Tok} {n : Nat} {m₀ : Str → Option Value} {news : List (Addr × Obj)} (J : Nat → (Str → Option Value) → List (Addr × Obj) → Prop)
    (hh : A.handled = none) (hr : IsRange s.heap r a₀ b₀ c t₀ u₀ v₀) (hsmall : Builtin.Range.small a₀ b₀ c = true) (hn : Builtin.Range.rangeSize a₀ b₀ c = (n : Int)) (F : Fr h₀ env.locals s.heap m₀) (N : News h₀ env.locals s.heap news) (hj : J 0 m₀ news)
    (turn : ∀ i t m₁ news₁ h tk I oI, i < n → J i m₁ news₁ → (∀ p ∈ news₁, p.1 ≠ I) → Fr h₀ env.locals h (fun y => if y = x then some (.int (a₀ + (i : Int) * c) t) else m₁ y) → News h₀ env.locals h ((I, oI) :: news₁) →
      wpAny (model prog w) A (execs body env) (TurnV h₀ env.locals I oI (J (i + 1)) { s with heap := h, toks := tk } Q) E { s with heap := h, toks := tk })
    (done : ∀ m₁ news₁ h tk, J n m₁ news₁ → Fr h₀ env.locals h m₁ → News h₀ env.locals h news₁ → Q .next { s with heap := h, toks := tk }) :
    wpAny (model prog w) A (pyIter (.ref r)) (fun it s₂ => LoopAtV prog w A h₀ env x body Q E it s₂) E s := by
  refine wpAny_pyIter_range hr hsmall ?_
  have Wk : Walks prog w A s.heap.objs.size [s.heap.objs.size] [s.heap.objs.size] n (fun i v => i < n ∧ ∃ t, v = .int (a₀ + i * c) t)
      (fun i h => IsRangeIter h s.heap.objs.size (a₀ + (i : Nat) * c) ((n : Int) - (i : Nat)) c) := (Walks.range hh _ a₀ c n).bound
  have hnew := next_is_new F
  refine ⟨_, _, _, n, _, _, m₀, news, J, rfl, Wk, ?_, ?_, ?_, (by show IsRangeIter _ _ _ _ _; rw [hn]; simpa using Heap.get?_push_size _ rfl), F.push _, (fun p hp => ⟨Heap.get?_push_of_some _ (N p hp).1, (N p hp).2⟩), hj, ?_, ?_⟩
  · intro hm
    exact absurd F.ns.lt ((List.mem_singleton.mp hm) ▸ Nat.lt_irrefl _)
  · intro b hb
    rw [List.mem_singleton.mp hb]
    exact hnew
  · intro p hp hI
    exact absurd (Heap.lt_size (N p hp).1) ((List.mem_singleton.mp hI) ▸ Nat.lt_irrefl _)
  · rintro i v m₁ news₁ s₁ own ⟨hh', tk', rfl⟩ hin ⟨_, t, rfl⟩ hJ hoff hown hget hall hst F₁ N₁
    have hst' : hh'.get? s.heap.objs.size = some (rgIt (a₀ + ((i + 1 : Nat) : Int) * c) ((n : Int) - ((i + 1 : Nat) : Int)) c) := hst
    have hmem := hall s.heap.objs.size (List.mem_singleton.mpr rfl) hnew _ hst'
    have N₂ : News h₀ env.locals hh' ((s.heap.objs.size, (rgIt (a₀ + ((i + 1 : Nat) : Int) * c) ((n : Int) - ((i + 1 : Nat) : Int)) c)) :: news₁) := fun p hp => by
      rcases List.mem_cons.mp hp with rfl | hp
      · exact N₁ _ (List.mem_append_left _ hmem)
      · exact N₁ _ (List.mem_append_right _ hp)
    have hoff' : ∀ p ∈ news₁, p.1 ≠ s.heap.objs.size := fun p hp e => hoff p hp (by rw [e]; exact List.mem_singleton_self _)
    refine wpAny_mono (turn i t m₁ news₁ hh' tk' s.heap.objs.size (rgIt (a₀ + ((i + 1 : Nat) : Int) * c) ((n : Int) - ((i + 1 : Nat) : Int)) c) hin hJ hoff' F₁ N₂) (fun f s₂ p => ?_) fun _ _ e => e
    have fin : (∃ h' tk m₂ news₂, s₂ = { ({ s with heap := hh', toks := tk' } : Shared) with heap := h', toks := tk } ∧ Fr h₀ env.locals h' m₂ ∧ News h₀ env.locals h' ((s.heap.objs.size, (rgIt (a₀ + ((i + 1 : Nat) : Int) * c) ((n : Int) - ((i + 1 : Nat) : Int)) c)) :: news₂) ∧ (∀ p ∈ news₂, p.1 ≠ s.heap.objs.size) ∧ J (i + 1) m₂ news₂) →
        LoopStepU h₀ env.locals [s.heap.objs.size] own (J (i + 1)) { s with heap := hh', toks := tk' } .next s₂ := by
      rintro ⟨h', tk, m', news', e, F', N', ho, r⟩
      refine ⟨rfl, h', tk, m', news', e, F', fun p hp => ?_, fun p hp hI => ho p hp (List.mem_singleton.mp hI), r⟩
      rcases List.mem_append.mp hp with hp | hp
      · have h1 : p.1 = s.heap.objs.size := List.mem_singleton.mp (hown p hp)
        have h2 : hh'.get? p.1 = some p.2 := hget p hp
        have h3 : p = (s.heap.objs.size, (rgIt (a₀ + ((i + 1 : Nat) : Int) * c) ((n : Int) - ((i + 1 : Nat) : Int)) c)) := by
          rw [h1, hst'] at h2
          exact Prod.ext h1 (Option.some.inj h2).symm
        rw [h3]; exact N' _ (List.mem_cons_self ..)
      · exact N' _ (List.mem_cons_of_mem _ hp)
    cases f with
    | ret v => exact p
    | brk => exact p
    | next => exact fin p
    | cont => exact fin p
  · rintro h' tk m' news' F' N' _ hJ
    exact done m' news' h' tk hJ F' N'
end
section
variable {prog : Program} {w : World} {A : Around} {E : Value → Shared → Prop} {h₀ : Heap} {L : Addr} {m : Str → Option Value} {env : Env} {elt : Expr} {x : Str} {scope : Scope} {cl : List (Str × Addr)} {s : Shared} {S : List (Addr × Obj) → Prop} {P : Nat → Value → Prop} {Fin : List Value → List (Addr × Obj) → Prop} {news : List (Addr × Obj)}
/-- how one element of a comprehension of texts ends -/
def ElStr (h₀ : Heap) (L : Addr) (m : Str → Option Value) (s₁ : Shared) (r : Str) (all : List (Addr × Obj)) (y : Value) (s₂ : Shared) : Prop := ∃ h' tk t, y = .str r t ∧ s₂ = { s₁ with heap := h', toks := tk } ∧ Fr h₀ L h' m ∧ News h₀ L h' all
theorem strs_snoc {y : Str} {t : Tok} : ∀ {vs : List Value} {ys : List Str}, StrsAre vs ys → StrsAre (vs ++ [.str y t]) (ys ++ [y])
  | _, _, .nil => .cons y t .nil
  | _, _, .cons z u r => .cons z u (strs_snoc r)
theorem comp_strs {n : Nat} (g : Nat → Str) (hS : S news)
    (turn : ∀ i v I oI C oC D m₂ ys h tk (E' : Value → Shared → Prop), i < n → P i v → LCg.NsObj oC m₂ → m₂ x = some v → Fr h₀ L h m → News h₀ L h ((I, oI) :: (C, oC) :: (D, LCg.lst ys) :: news) →
      wpAny (model prog w) A (eval elt (compEnvC scope cl C env)) (ElStr h₀ L m { s with heap := h, toks := tk } (g i) ((I, oI) :: (C, oC) :: (D, LCg.lst ys) :: news)) E' { s with heap := h, toks := tk })
    (fin : ∀ ys, StrsAre ys ((List.range n).map g) → Fin ys news) : LCg.CompRest prog w A h₀ L m env elt x scope cl s S P Fin n 0 [] news := by
  have key : ∀ (j i : Nat) (ys : List Value), i + j = n → StrsAre ys ((List.range i).map g) → LCg.CompRest prog w A h₀ L m env elt x scope cl s S P Fin j i ys news := by
    intro j
    induction j with
    | zero =>
      intro i ys hi hy
      have e : i = n := by omega
      subst e
      exact LCg.CompRest.zero (fin ys hy)
    | succ j ih =>
      intro i ys hi hy
      refine LCg.CompRest.succ ?_
      intro v I oI C oC D m₂ h tk E' hv hC hx F N off ne
      refine wpAny_mono (turn i v I oI C oC D m₂ ys h tk E' (by omega) hv hC hx F N) (fun y s₂ hq => ?_) fun _ _ e => e
      obtain ⟨h', tk', t', rfl, rfl, F', N'⟩ := hq
      refine ⟨h', tk', news, rfl, F', N', off, hS, ih (i + 1) _ (by omega) ?_⟩
      rw [List.range_succ, List.map_append]
      exact strs_snoc hy
  exact key n 0 [] (by omega) .nil
end
theorem join_cat (xs : List Str) : PySem.Txt.join (Str.ofString "") xs = cat xs := by
  show Builtin.Str.glued (Str.ofString "") xs = _
  rw [StrLaws.glued_eq_join]
  have key : ∀ (n : Nat) (l : List Str), l.length = n → Str.join (Str.ofString "") l = cat l := by
    intro n
    induction n with
    | zero => intro l hl; obtain rfl := List.eq_nil_of_length_eq_zero hl; rfl
    | succ n ih =>
      intro l hl
      have hne : l ≠ [] := by intro z; subst z; cases hl
      obtain ⟨r, a, rfl⟩ : ∃ r a, l = r ++ [a] := ⟨l.dropLast, l.getLast hne, (List.dropLast_concat_getLast hne).symm⟩
      have hr : r.length = n := by simpa using hl
      rw [FinIter.join_snoc, ih r hr, cat_snoc]
      split
      · subst_vars
        exact str_ext (by rw [app_cps, cat_nil]; rfl)
      · exact str_ext (by rw [app_cps, app_cps, app_cps]; simp [show (Str.ofString "").cps.toList = [] from rfl])
  exact key _ xs rfl
section
variable {prog : Program} {w : World} {A : Around} {E : Value → Shared → Prop} {s : Shared} {t : Tok} {Q : Value → Shared → Prop} {D : Addr} {ys : List Value} {xs : List Str} {n : Nat} {h₀ : Heap} {L : Addr} {news : List (Addr × Obj)}
theorem join_strs (N : News h₀ L s.heap news) (hm : (D, W.listOf ys.toArray n) ∈ news) (hw : StrsAre ys xs) (hB : ∀ a ∈ xs, a.length ≤ 10) (hn : xs.length ≤ 1000) (h : ∀ t' k, Q (.str (cat xs) t') { s with toks := k }) :
    wpAny (model prog w) A (call (.builtin "str.join") [.str (Str.ofString "") t, .ref D]) Q E s := by
  refine KT.join_B (α := Str) (g := _root_.id) (l := xs) 10 ⟨_, (N _ hm).1, rfl, n, rfl⟩ (by simpa using hw.carried) hB (by omega) (by decide) ?_
  intro t' k
  rw [List.map_id, join_cat]
  exact h t' k
end
section
variable {K : Type} [DecidableEq K]
end
end Mine
end

section
open PySem PySem.W PySem.Calls PySem.Spec PyProof.Rows
set_option maxRecDepth 100000
set_option maxHeartbeats 1000000
namespace Mine
section
variable {prog : Program} {w : World} {A : Around} {s : Shared} {env : Env} {h₀ : Heap} {E : Value → Shared → Prop} {Q : Flow → Shared → Prop} {x : Str} {body : List Stmt}
/-- a loop over the signs of a text -/
theorem iter_strV {xt : Str} {tx : Tok} {m₀ : Str → Option Value} {news : List (Addr × Obj)} (J : Nat → (Str → Option Value) → List (Addr × Obj) → Prop)
    (hh : A.handled = none) (F : Fr h₀ env.locals s.heap m₀) (N : News h₀ env.locals s.heap news) (hj : J 0 m₀ news)
    (turn : ∀ i c t m₁ news₁ h tk I oI, xt.cps[i]? = some c → J i m₁ news₁ → (∀ p ∈ news₁, p.1 ≠ I) → Fr h₀ env.locals h (fun y => if y = x then some (.str ⟨#[c]⟩ t) else m₁ y) → News h₀ env.locals h ((I, oI) :: news₁) →
      wpAny (model prog w) A (execs body env) (TurnV h₀ env.locals I oI (J (i + 1)) { s with heap := h, toks := tk } Q) E { s with heap := h, toks := tk })
    (done : ∀ m₁ news₁ h tk, J xt.cps.size m₁ news₁ → Fr h₀ env.locals h m₁ → News h₀ env.locals h news₁ → Q .next { s with heap := h, toks := tk }) :
    wpAny (model prog w) A (pyIter (.str xt tx)) (fun it s₂ => LoopAtV prog w A h₀ env x body Q E it s₂) E s := by
  have key : ∀ (o : Obj) (ty : String), Walks prog w A s.heap.objs.size [s.heap.objs.size] [s.heap.objs.size] xt.cps.size (SignAt xt) (fun i h => h.IsStrIter s.heap.objs.size ty xt tx i) → (s.heap.push o).IsStrIter s.heap.objs.size ty xt tx 0 →
      LoopAtV prog w A h₀ env x body Q E (.ref s.heap.objs.size) { s with heap := s.heap.push o } := by
    intro o ty Wk h0
    have hnew := next_is_new F
    refine ⟨_, _, _, xt.cps.size, _, _, m₀, news, J, rfl, Wk, ?_, ?_, ?_, h0, F.push _, (fun p hp => ⟨Heap.get?_push_of_some _ (N p hp).1, (N p hp).2⟩), hj, ?_, ?_⟩
    · intro hm
      exact absurd F.ns.lt ((List.mem_singleton.mp hm) ▸ Nat.lt_irrefl _)
    · intro b hb
      rw [List.mem_singleton.mp hb]
      exact hnew
    · intro p hp hI
      exact absurd (Heap.lt_size (N p hp).1) ((List.mem_singleton.mp hI) ▸ Nat.lt_irrefl _)
    · rintro i v m₁ news₁ s₁ own ⟨hh', tk', rfl⟩ hin ⟨c, t, hc, rfl⟩ hJ hoff hown hget hall hst F₁ N₁
      obtain ⟨oI, hst', _⟩ := hst
      have hmem := hall s.heap.objs.size (List.mem_singleton.mpr rfl) hnew _ hst'
      have N₂ : News h₀ env.locals hh' ((s.heap.objs.size, oI) :: news₁) := fun p hp => by
        rcases List.mem_cons.mp hp with rfl | hp
        · exact N₁ _ (List.mem_append_left _ hmem)
        · exact N₁ _ (List.mem_append_right _ hp)
      have hoff' : ∀ p ∈ news₁, p.1 ≠ s.heap.objs.size := fun p hp e => hoff p hp (by rw [e]; exact List.mem_singleton_self _)
      refine wpAny_mono (turn i c t m₁ news₁ hh' tk' s.heap.objs.size oI hc hJ hoff' F₁ N₂) (fun f s₂ p => ?_) fun _ _ e => e
      have fin : (∃ h' tk m₂ news₂, s₂ = { ({ s with heap := hh', toks := tk' } : Shared) with heap := h', toks := tk } ∧ Fr h₀ env.locals h' m₂ ∧ News h₀ env.locals h' ((s.heap.objs.size, oI) :: news₂) ∧ (∀ p ∈ news₂, p.1 ≠ s.heap.objs.size) ∧ J (i + 1) m₂ news₂) →
          LoopStepU h₀ env.locals [s.heap.objs.size] own (J (i + 1)) { s with heap := hh', toks := tk' } .next s₂ := by
        rintro ⟨h', tk, m', news', e, F', N', ho, r⟩
        refine ⟨rfl, h', tk, m', news', e, F', fun p hp => ?_, fun p hp hI => ho p hp (List.mem_singleton.mp hI), r⟩
        rcases List.mem_append.mp hp with hp | hp
        · have h1 : p.1 = s.heap.objs.size := List.mem_singleton.mp (hown p hp)
          have h2 : hh'.get? p.1 = some p.2 := hget p hp
          have h3 : p = (s.heap.objs.size, oI) := by
            rw [h1, hst'] at h2
            exact Prod.ext h1 (Option.some.inj h2).symm
          rw [h3]; exact N' _ (List.mem_cons_self ..)
        · exact N' _ (List.mem_cons_of_mem _ hp)
      cases f with
      | ret v => exact p
      | brk => exact p
      | next => exact fin p
      | cont => exact fin p
    · rintro h' tk m' news' F' N' _ hJ
      exact done m' news' h' tk hJ F' N'
  cases ha : xt.cps.all (· < 128)
  · exact wpAny_pyIter_wide ha (key _ _ (Walks.strWide hh _ xt tx) ⟨_, Heap.get?_push_size _ rfl, rfl, rfl⟩)
  · exact wpAny_pyIter_ascii ha (key _ _ (Walks.strAscii hh _ xt tx) ⟨_, Heap.get?_push_size _ rfl, rfl, rfl⟩)
end
end Mine
end

local macro_rules | `(tactic| walk_at "call ref") => `(tactic| (k_here; (with_reducible show wpAny _ _ (call (Value.ref 65) _) _ _ _); k_dflt (refine' next_lone ?_ ?_ ?_ ?_ ?_ ?_ ?_ ?_ ?_ ?_ ?_ ?_ ?_ ?_ ?_ ?_ ?_ ?h1 ?_; (all_goals (try walk_at "z1")); (case h1 => with_reducible assumption); (all_goals (try walk_at "z2")))))
section
open PySem PySem.W PySem.Calls PySem.Spec PyProof.Rows
set_option maxRecDepth 100000
set_option maxHeartbeats 2000000
namespace Mine
theorem anew5 : True := by
  w_top off
  exact True.intro
local macro_rules | `(tactic| walk_at "pad") => `(tactic| fail)
local macro_rules | `(tactic| walk_at "pad") => `(tactic| fail)
open TI
theorem fillMZ6 (P : Params) : hd.heap_1 P = hd.heap_1 P ∧ PySem.Challenge.rw_kq0016_06 = PySem.Challenge.rw_kq0016_06 := by
  k_fill
  exact ⟨rfl, rfl⟩
theorem step_ok {w : World} {loose : List Str} {mean : ExcName → Option Value} {mg mb : Str → Option Value} {A : Around} {l : List Env} {ev : Env} {ce : Env}
    {base : Heap} {L Lc : Addr} {oL : Obj} {sl : Array (Option Value)} {m : Str → Option Value} {s : Shared} {Q E : Value → Shared → Prop} {new frs : List (Addr × Obj)}
    {x dx : Addr} {k1 k2 k3 k4 k5 : Tok} {b : Bool} {gv : Value} {D : Str} {dt : Tok} {i i1 : Int} {o1 : Option Str} {it : Tok} {nv : Value}
    (F : Fr base L s.heap m) (X : (hd.heap_1 w.params).In base) (N : News base L s.heap ((x, instObj 133 dx) :: (dx, tokD w.params k1 k2 k3 k4 k5 b gv (.str D dt) (.int i it) nv) :: (new ++ ((Lc, { oL with slots := sl }) :: frs)))) (T : Top hd.view_39 loose mean mg mb base)
    (Fs : Frs (ev :: l) ((Lc, { oL with slots := sl }) :: frs)) (hcs : EvAt ce L) (hdx : ∀ q ∈ new ++ ((Lc, { oL with slots := sl }) :: frs), q.1 ≠ dx) (hxf : ∀ q ∈ (Lc, { oL with slots := sl }) :: frs, q.1 ≠ x) (hap : ∀ q ∈ new, q.1 ∉ ((Lc, { oL with slots := sl }) :: frs).map (·.1)) (hA : A.frames = some (ce :: ev :: l)) (hh : A.handled = none) (hd' : A.depth + 6 < recursionLimit)
    (hD : D.length ≤ 2000) (hi0 : -3000 ≤ i) (hi : i ≤ 3000) (hs : stepZ D i = some (i1, o1))
    (hQ : ∀ h' sl' qs tk it' nv', NvIs nv' o1 → SameUp frs qs → Frs (ev :: l) ((Lc, { oL with slots := sl' }) :: qs) → Fr base L h' m → News base L h' ((x, instObj 133 dx) :: (dx, tokD w.params k1 k2 k3 k4 k5 b gv (.str D dt) (.int i1 it') nv') :: (new ++ ((Lc, { oL with slots := sl' }) :: qs))) → Q .none { s with heap := h', toks := tk }) :
    wpAny (model PySem.Challenge.rw_kq0016_06.row.prog w) A (call (.ref 65) [.ref x]) Q E s := by
  unfold stepZ at hs
  cases hc : chAt D i with
  | none =>
    rw [hc] at hs; cases hs
    refine next_c F X N T Fs hcs hdx hxf hap hA hh hd' hD hi0 hi (fun z => by rw [hc] at z; cases z.1) (fun z h' frs' tk SU Fs' F' N' => ?_) (fun c z => by rw [hc] at z; cases z) (fun c z => by rw [hc] at z; cases z)
    obtain ⟨sl', qs, rfl, SU'⟩ := sameUp_cons SU
    exact hQ h' sl' qs tk it .none rfl SU' Fs' F' N'
  | some c =>
    rw [hc] at hs
    by_cases h9 : c = 92
    · subst h9
      cases hc2 : chAt D (i + 1) with
      | none => rw [hc2] at hs; cases hs
      | some d =>
        rw [hc2] at hs; cases hs
        refine next_c F X N T Fs hcs hdx hxf hap hA hh hd' hD hi0 hi (fun z => by rw [hc2] at z; cases z.2) (fun z => by rw [hc] at z; cases z) (fun c z zn => by rw [hc] at z; cases z; exact absurd rfl zn) (fun c z z2 h' tk it' nt F' N' => ?_)
        rw [hc2] at z2; cases z2
        rw [show i + 1 + 1 = i + 2 from by omega] at N'
        exact hQ h' sl frs tk it' _ ⟨nt, rfl⟩ (SameUp.refl _) Fs F' N'
    · simp only [if_neg h9] at hs
      cases hs
      refine next_c F X N T Fs hcs hdx hxf hap hA hh hd' hD hi0 hi (fun z => by rw [hc] at z; exact h9 (Option.some.inj z.1)) (fun z => by rw [hc] at z; cases z) (fun c' z zn h' tk it' nt F' N' => ?_) (fun c' z => by rw [hc] at z; exact absurd (Option.some.inj z) h9)
      rw [hc] at z; cases z
      exact hQ h' sl frs tk it' _ ⟨nt, rfl⟩ (SameUp.refl _) Fs F' N'
theorem stepZ_none {D : Str} {i : Int} (h : stepZ D i = none) : chAt D i = some 92 ∧ chAt D (i + 1) = none := by
  unfold stepZ at h
  split at h
  · cases h
  · rename_i c hc
    split at h
    · rename_i h9
      subst h9
      split at h
      · rename_i h2; exact ⟨hc, h2⟩
      · cases h
    · cases h
local macro_rules | `(tactic| walk_at "call ref") => `(tactic| (k_here; (with_reducible show wpAny _ _ (call (Value.ref 65) _) _ _ _); k_dflt (refine' step_ok ?_ ?_ ?_ ?_ ?_ ?_ ?_ ?_ ?_ ?_ ?_ ?_ ?_ ?_ ?_ ?_ ?_; (all_goals (try walk_at "z1")); (all_goals (try walk_at "z2"))); intro h' sl' qs' tk' it' nv' NI' SU' Fs' F' N'; (try dsimp only)))
/-- get() -/
theorem get_z {w : World} {loose : List Str} {mean : ExcName → Option Value} {mg mb : Str → Option Value} {A : Around} {l : List Env} {ce : Env}
    {base : Heap} {L : Addr} {m : Str → Option Value} {s : Shared} {Q E : Value → Shared → Prop} {new frs : List (Addr × Obj)}
    {x dx : Addr} {k1 k2 k3 k4 k5 : Tok} {b : Bool} {gv : Value} {D : Str} {dt : Tok} {i : Int} {it : Tok} {nv : Value}
    (F : Fr base L s.heap m) (X : (hd.heap_1 w.params).In base) (N : News base L s.heap ((x, instObj 133 dx) :: (dx, tokD w.params k1 k2 k3 k4 k5 b gv (.str D dt) (.int i it) nv) :: (new ++ frs))) (T : Top hd.view_39 loose mean mg mb base)
    (Fs : Frs l frs) (hcs : EvAt ce L) (hdx : ∀ q ∈ new ++ frs, q.1 ≠ dx) (hxf : ∀ q ∈ frs, q.1 ≠ x) (hap : ∀ q ∈ new, q.1 ∉ frs.map (·.1)) (hA : A.frames = some (ce :: l)) (hh : A.handled = none) (hd' : A.depth + 20 < recursionLimit)
    (hD : D.length ≤ 2000) (hD1 : 1 ≤ D.length) (hb : Bz D i) (hg : GivenIs b gv D) (hnv : ∃ o, NvIs nv o)
    (hQ : ∀ i' o', stepZ D i = some (i', o') → ∀ h' frs' tk it' nv', NvIs nv' o' → SameUp frs frs' → Frs l frs' → Fr base L h' m → News base L h' ((x, instObj 133 dx) :: (dx, tokD w.params k1 k2 k3 k4 k5 b gv (.str D dt) (.int i' it') nv') :: (new ++ frs')) → Q nv { s with heap := h', toks := tk })
    (hE : stepZ D i = none → RaisedE w.params base L m l ((x, instObj 133 dx) :: (dx, tokD w.params k1 k2 k3 k4 k5 b gv (.str D dt) (.int i it) nv) :: new) frs (Str.ofString "bad escape (end of pattern)") gv D.cps.toList ((D.length : Int) - 1) E s) :
    wpAny (model PySem.Challenge.rw_kq0016_06.row.prog w) A (call (.ref 79) [.ref x]) Q E s := by
  refine wpAny_call (enterV (ev := ce) F X N T Fs rfl (by kernel_rfl) (by omega) (BindsTo.of_eq rfl) (locs rfl) (fun oL L' h₁ Cl Fs₁ F₁ N₁ hne hltL => ?_) hcs rfl rfl rfl (by decide))
  have N₂ : News base L' h₁ ((x, instObj 133 dx) :: (dx, tokD w.params k1 k2 k3 k4 k5 b gv (.str D dt) (.int i it) nv) :: (new ++ ((L, { oL with slots := oL.slots }) :: frs))) := fun q hq => N₁ q (mem_i1 hq)
  have hLd : L ≠ dx := Ne.symm (hne (dx, _) (List.mem_cons_of_mem _ List.mem_cons_self))
  have hLx : L ≠ x := Ne.symm (hne (x, instObj 133 dx) List.mem_cons_self)
  have hnL : ∀ q ∈ new ++ frs, q.1 ≠ L := fun q hq => hne q (List.mem_cons_of_mem _ (List.mem_cons_of_mem _ hq))
  obtain ⟨hdx', hxf', hap'⟩ := ff (oL := { oL with slots := oL.slots }) hdx hxf hap hLd hLx hnL (SameUp.refl frs)
  have Fs₂ : Frs (ce :: l) ((L, { oL with slots := oL.slots }) :: frs) := Fs₁
  have hi0 : -3000 ≤ i ∧ i ≤ 3000 := by unfold Bz at hb; omega
  obtain ⟨hi1, hi2⟩ := hi0
  clear N₁ Fs₁
  have SU0 := SameUp.refl frs
  obtain ⟨o, hnv⟩ := hnv
  cases hs : stepZ D i with
  | none =>
    have hE := hE hs
    have hl := stepZ_none hs
    clear hQ hs
    cases o with
    | none =>
      obtain rfl : nv = .none := hnv
      k_steps
      exact pass_raised Cl (Around.frames_deeper hA) rfl (ffmid (ff hdx hxf hap hLd hLx hnL SU0).1 (ff hdx hxf hap hLd hLx hnL SU0).2.1 (ff hdx hxf hap hLd hLx hnL SU0).2.2) (ffL hLd hLx hnL SU0) (hE.up SU0)
    | some y =>
      obtain ⟨yt, rfl⟩ := hnv
      k_steps
      exact pass_raised Cl (Around.frames_deeper hA) rfl (ffmid (ff hdx hxf hap hLd hLx hnL SU0).1 (ff hdx hxf hap hLd hLx hnL SU0).2.1 (ff hdx hxf hap hLd hLx hnL SU0).2.2) (ffL hLd hLx hnL SU0) (hE.up SU0)
  | some r =>
    obtain ⟨i', o'⟩ := r
    have hQ := hQ i' o' hs
    clear hE
    cases o with
    | none =>
      obtain rfl : nv = .none := hnv
      k_steps
      have SUt := ‹SameUp frs _›
      obtain ⟨r1, r2⟩ := fin2 (new := new) Cl (by assumption) (by assumption) hLx hLd (up_ne hnL SUt)
      exact hQ _ _ _ _ _ (by assumption) SUt (Fs.up SUt) r1 r2
    | some y =>
      obtain ⟨yt, rfl⟩ := hnv
      k_steps
      have SUt := ‹SameUp frs _›
      obtain ⟨r1, r2⟩ := fin2 (new := new) Cl (by assumption) (by assumption) hLx hLd (up_ne hnL SUt)
      exact hQ _ _ _ _ _ (by assumption) SUt (Fs.up SUt) r1 r2
/-- match(what is next) -/
theorem match_z {w : World} {loose : List Str} {mean : ExcName → Option Value} {mg mb : Str → Option Value} {A : Around} {l : List Env} {ce : Env}
    {base : Heap} {L : Addr} {m : Str → Option Value} {s : Shared} {Q E : Value → Shared → Prop} {new frs : List (Addr × Obj)}
    {x dx : Addr} {k1 k2 k3 k4 k5 : Tok} {b : Bool} {gv : Value} {D : Str} {dt : Tok} {i : Int} {it : Tok} {nv : Value} {cv : Value} {o : Option Str}
    (F : Fr base L s.heap m) (X : (hd.heap_1 w.params).In base) (N : News base L s.heap ((x, instObj 133 dx) :: (dx, tokD w.params k1 k2 k3 k4 k5 b gv (.str D dt) (.int i it) nv) :: (new ++ frs))) (T : Top hd.view_39 loose mean mg mb base)
    (Fs : Frs l frs) (hcs : EvAt ce L) (hdx : ∀ q ∈ new ++ frs, q.1 ≠ dx) (hxf : ∀ q ∈ frs, q.1 ≠ x) (hap : ∀ q ∈ new, q.1 ∉ frs.map (·.1)) (hA : A.frames = some (ce :: l)) (hh : A.handled = none) (hd' : A.depth + 20 < recursionLimit)
    (hD : D.length ≤ 2000) (hD1 : 1 ≤ D.length) (hb : Bz D i) (hg : GivenIs b gv D) (hnv : NvIs nv o) (hcv : NvIs cv o)
    (hQ : ∀ i' o', stepZ D i = some (i', o') → ∀ h' frs' tk it' nv', NvIs nv' o' → SameUp frs frs' → Frs l frs' → Fr base L h' m → News base L h' ((x, instObj 133 dx) :: (dx, tokD w.params k1 k2 k3 k4 k5 b gv (.str D dt) (.int i' it') nv') :: (new ++ frs')) → Q (.bool true) { s with heap := h', toks := tk })
    (hE : stepZ D i = none → RaisedE w.params base L m l ((x, instObj 133 dx) :: (dx, tokD w.params k1 k2 k3 k4 k5 b gv (.str D dt) (.int i it) nv) :: new) frs (Str.ofString "bad escape (end of pattern)") gv D.cps.toList ((D.length : Int) - 1) E s) :
    wpAny (model PySem.Challenge.rw_kq0016_06.row.prog w) A (call (.ref 72) [.ref x, cv]) Q E s := by
  refine wpAny_call (enterV (ev := ce) F X N T Fs rfl (by kernel_rfl) (by omega) (BindsTo.of_eq rfl) (locs rfl) (fun oL L' h₁ Cl Fs₁ F₁ N₁ hne hltL => ?_) hcs rfl rfl rfl (by decide))
  have N₂ : News base L' h₁ ((x, instObj 133 dx) :: (dx, tokD w.params k1 k2 k3 k4 k5 b gv (.str D dt) (.int i it) nv) :: (new ++ ((L, { oL with slots := oL.slots }) :: frs))) := fun q hq => N₁ q (mem_i1 hq)
  have hLd : L ≠ dx := Ne.symm (hne (dx, _) (List.mem_cons_of_mem _ List.mem_cons_self))
  have hLx : L ≠ x := Ne.symm (hne (x, instObj 133 dx) List.mem_cons_self)
  have hnL : ∀ q ∈ new ++ frs, q.1 ≠ L := fun q hq => hne q (List.mem_cons_of_mem _ (List.mem_cons_of_mem _ hq))
  obtain ⟨hdx', hxf', hap'⟩ := ff (oL := { oL with slots := oL.slots }) hdx hxf hap hLd hLx hnL (SameUp.refl frs)
  have Fs₂ : Frs (ce :: l) ((L, { oL with slots := oL.slots }) :: frs) := Fs₁
  have hi0 : -3000 ≤ i ∧ i ≤ 3000 := by unfold Bz at hb; omega
  obtain ⟨hi1, hi2⟩ := hi0
  clear N₁ Fs₁
  have SU0 := SameUp.refl frs
  cases hs : stepZ D i with
  | none =>
    have hE := hE hs
    have hl := stepZ_none hs
    clear hQ hs
    cases o with
    | none =>
      obtain rfl : nv = .none := hnv
      obtain rfl : cv = .none := hcv
      k_steps
      exact pass_raised Cl (Around.frames_deeper hA) rfl (ffmid (ff hdx hxf hap hLd hLx hnL SU0).1 (ff hdx hxf hap hLd hLx hnL SU0).2.1 (ff hdx hxf hap hLd hLx hnL SU0).2.2) (ffL hLd hLx hnL SU0) (hE.up SU0)
    | some y =>
      obtain ⟨yt, rfl⟩ := hnv
      obtain ⟨zt, rfl⟩ := hcv
      have qy : (y == y) = true := beq_self_eq_true y
      k_steps
      exact pass_raised Cl (Around.frames_deeper hA) rfl (ffmid (ff hdx hxf hap hLd hLx hnL SU0).1 (ff hdx hxf hap hLd hLx hnL SU0).2.1 (ff hdx hxf hap hLd hLx hnL SU0).2.2) (ffL hLd hLx hnL SU0) (hE.up SU0)
  | some r =>
    obtain ⟨i', o'⟩ := r
    have hQ := hQ i' o' hs
    clear hE
    cases o with
    | none =>
      obtain rfl : nv = .none := hnv
      obtain rfl : cv = .none := hcv
      k_steps
      have SUt := ‹SameUp frs _›
      obtain ⟨r1, r2⟩ := fin2 (new := new) Cl (by assumption) (by assumption) hLx hLd (up_ne hnL SUt)
      exact hQ _ _ _ _ _ (by assumption) SUt (Fs.up SUt) r1 r2
    | some y =>
      obtain ⟨yt, rfl⟩ := hnv
      obtain ⟨zt, rfl⟩ := hcv
      have qy : (y == y) = true := beq_self_eq_true y
      k_steps
      have SUt := ‹SameUp frs _›
      obtain ⟨r1, r2⟩ := fin2 (new := new) Cl (by assumption) (by assumption) hLx hLd (up_ne hnL SUt)
      exact hQ _ _ _ _ _ (by assumption) SUt (Fs.up SUt) r1 r2
/-- seek(i) -/
theorem seek_z {w : World} {loose : List Str} {mean : ExcName → Option Value} {mg mb : Str → Option Value} {A : Around} {l : List Env} {ce : Env}
    {base : Heap} {L : Addr} {m : Str → Option Value} {s : Shared} {Q E : Value → Shared → Prop} {new frs : List (Addr × Obj)}
    {x dx : Addr} {k1 k2 k3 k4 k5 : Tok} {b : Bool} {gv : Value} {D : Str} {dt : Tok} {i : Int} {it : Tok} {nv : Value} {i0 : Int} {it0 : Tok}
    (F : Fr base L s.heap m) (X : (hd.heap_1 w.params).In base) (N : News base L s.heap ((x, instObj 133 dx) :: (dx, tokD w.params k1 k2 k3 k4 k5 b gv (.str D dt) (.int i0 it0) nv) :: (new ++ frs))) (T : Top hd.view_39 loose mean mg mb base)
    (Fs : Frs l frs) (hcs : EvAt ce L) (hdx : ∀ q ∈ new ++ frs, q.1 ≠ dx) (hxf : ∀ q ∈ frs, q.1 ≠ x) (hap : ∀ q ∈ new, q.1 ∉ frs.map (·.1)) (hA : A.frames = some (ce :: l)) (hh : A.handled = none) (hd' : A.depth + 20 < recursionLimit)
    (hD : D.length ≤ 2000) (hD1 : 1 ≤ D.length) (hb : Bz D i) (hg : GivenIs b gv D)
    (hQ : ∀ i' o', stepZ D i = some (i', o') → ∀ h' frs' tk it' nv', NvIs nv' o' → SameUp frs frs' → Frs l frs' → Fr base L h' m → News base L h' ((x, instObj 133 dx) :: (dx, tokD w.params k1 k2 k3 k4 k5 b gv (.str D dt) (.int i' it') nv') :: (new ++ frs')) → Q .none { s with heap := h', toks := tk })
    (hE : stepZ D i = none → RaisedE w.params base L m l ((x, instObj 133 dx) :: (dx, tokD w.params k1 k2 k3 k4 k5 b gv (.str D dt) (.int i it) nv) :: new) frs (Str.ofString "bad escape (end of pattern)") gv D.cps.toList ((D.length : Int) - 1) E s) :
    wpAny (model PySem.Challenge.rw_kq0016_06.row.prog w) A (call (.ref 115) [.ref x, .int i it]) Q E s := by
  have hxd : x ≠ dx := inst_ne N List.mem_cons_self (List.mem_cons_of_mem _ List.mem_cons_self)
  refine wpAny_call (enterV (ev := ce) F X N T Fs rfl (by kernel_rfl) (by omega) (BindsTo.of_eq rfl) (locs rfl) (fun oL L' h₁ Cl Fs₁ F₁ N₁ hne hltL => ?_) hcs rfl rfl rfl (by decide))
  have N₂ : News base L' h₁ ((x, instObj 133 dx) :: (dx, tokD w.params k1 k2 k3 k4 k5 b gv (.str D dt) (.int i0 it0) nv) :: (new ++ ((L, { oL with slots := oL.slots }) :: frs))) := fun q hq => N₁ q (mem_i1 hq)
  have hLd : L ≠ dx := Ne.symm (hne (dx, _) (List.mem_cons_of_mem _ List.mem_cons_self))
  have hLx : L ≠ x := Ne.symm (hne (x, instObj 133 dx) List.mem_cons_self)
  have hnL : ∀ q ∈ new ++ frs, q.1 ≠ L := fun q hq => hne q (List.mem_cons_of_mem _ (List.mem_cons_of_mem _ hq))
  obtain ⟨hdx', hxf', hap'⟩ := ff (oL := { oL with slots := oL.slots }) hdx hxf hap hLd hLx hnL (SameUp.refl frs)
  have Fs₂ : Frs (ce :: l) ((L, { oL with slots := oL.slots }) :: frs) := Fs₁
  have hi0 : -3000 ≤ i ∧ i ≤ 3000 := by unfold Bz at hb; omega
  obtain ⟨hi1, hi2⟩ := hi0
  clear N₁ Fs₁
  have SU0 := SameUp.refl frs
  cases hs : stepZ D i with
  | none =>
    have hE := hE hs
    have hl := stepZ_none hs
    clear hQ hs
    k_steps
    exact pass_raised Cl (Around.frames_deeper hA) rfl (ffmid (ff hdx hxf hap hLd hLx hnL SU0).1 (ff hdx hxf hap hLd hLx hnL SU0).2.1 (ff hdx hxf hap hLd hLx hnL SU0).2.2) (ffL hLd hLx hnL SU0) (hE.up SU0)
  | some r =>
    obtain ⟨i', o'⟩ := r
    have hQ := hQ i' o' hs
    clear hE
    k_steps
    have SUt := ‹SameUp frs _›
    obtain ⟨r1, r2⟩ := fin2 (new := new) Cl (by assumption) (by assumption) hLx hLd (up_ne hnL SUt)
    exact hQ _ _ _ _ _ (by assumption) SUt (Fs.up SUt) r1 r2
end Mine
end

section
open PySem PySem.W PySem.Calls PySem.Spec PyProof.Rows PySem.Builtin
set_option maxRecDepth 100000
set_option maxHeartbeats 1000000
namespace Mine
open TI
section
variable {prog : Program} {w : World} {A : Around} {E : Value → Shared → Prop} {s : Shared}
theorem pyHash_none {Q : Int → Shared → Prop} (h : Q 0xFCA86420 { s with toks := s.toks + 1 }) : wpAny (model prog w) A (pyHash .none) Q E s := by
  unfold pyHash pyHashByItsType
  have hv : [Value.none].any Value.onHeap = false := rfl
  refine wpAny_bind ?_
  rw [cRoomFor, if_neg (by rw [hv]; exact Bool.false_ne_true)]; refine wpAny_pure ?_
  refine wpAny_bind (wpAny_specialOf (T := "NoneType") rfl F.slot_NoneType_hash.lookup ?_)
  show wpAny _ _ (if (some (Value.builtin "NoneType.__hash__") == some Value.none) = true then _ else _) Q E s
  rw [if_neg (by rw [beq_builtin_none]; exact Bool.false_ne_true)]
  refine wpAny_bind (wpAny_specialOf (T := "NoneType") rfl F.slot_NoneType_hash.lookup ?_)
  show wpAny _ _ (callSpecialIfBoundUnlessNone? .none "__hash__" _ >>= _) Q E s
  refine wpAny_bind (wpAny_callSpecialIfBoundUnlessNone?_slot (T := "NoneType") rfl F.slot_NoneType_hash
    (wpAny_call_entry (T := "NoneType") F.slot_NoneType_hash rfl F.entry_NoneType_hash
      (show wpAny _ _ (do ret (← mkInt 0xFCA86420)) _ _ s from wpAny_ret_mkInt ?_) (F.args_NoneType_hash_1 _)))
  exact wpAny_pure h
end
def isOpt : Option Str → Value → Bool
  | none, .none => true
  | some y, .str x _ => x == y
  | _, _ => false
theorem isOpt_none {v : Value} (h : isOpt none v = true) : v = .none := by cases v <;> simp_all [isOpt]
theorem isOpt_some {y : Str} {v : Value} (h : isOpt (some y) v = true) : ∃ t, v = .str y t := by cases v <;> simp_all [isOpt]
/-- keys that are a text or None -/
def optKind (prog : Program) (w : World) : KeyKind prog w (Option Str) where
  is := isOpt
  hash := fun o => match o with | none => 0xFCA86420 | some y => hashStr w y
  inj := fun v a b ha hb => by
    cases a with
    | none =>
      have := isOpt_none ha
      subst this
      cases b with
      | none => rfl
      | some y => obtain ⟨t, e⟩ := isOpt_some hb; cases e
    | some x =>
      obtain ⟨t, rfl⟩ := isOpt_some ha
      cases b with
      | none => cases isOpt_none hb
      | some y => obtain ⟨t, e⟩ := isOpt_some hb; cases e; rfl
  byValue := fun k v h => by
    cases k with
    | none => rw [isOpt_none h]; rfl
    | some y => obtain ⟨t, rfl⟩ := isOpt_some h; rfl
  pyHash := fun {A E s k v Q} hv h => by
    cases k with
    | none => rw [isOpt_none hv]; exact pyHash_none h
    | some y => obtain ⟨t, rfl⟩ := isOpt_some hv; exact wpAny_pyHash_str h
  eqBool := fun {A E s a b u v Q} hu hv h => by
    cases a with
    | none =>
      rw [isOpt_none hu]
      cases b with
      | none => rw [isOpt_none hv]; exact SeqAt.EqAt.same _ _ _ _ _ (by simpa using h)
      | some y => obtain ⟨t, rfl⟩ := isOpt_some hv; exact SeqAt.EqAt.none_str _ _ _ _ _ _ (by simpa using h)
    | some x =>
      obtain ⟨t, rfl⟩ := isOpt_some hu
      cases b with
      | none => rw [isOpt_none hv]; exact SeqAt.EqAt.str_none _ _ _ _ _ _ (by simpa using h)
      | some y => obtain ⟨t', rfl⟩ := isOpt_some hv; exact wpAny_eqBool_str (by simpa using h)
  «strs» := fun k x t v h => by
    cases k with
    | none => cases isOpt_none h
    | some y =>
      obtain ⟨u, e⟩ := isOpt_some h
      cases e
      cases v <;> simp [isOpt, Value.isStr]
def optSet (S : Str → Bool) : Option Str → Bool
  | none => false
  | some y => S y
theorem set_opt {prog : Program} {w : World} {so : Obj} {S : Str → Bool} {n : Nat} (h : so.SetObjOf (PySem.strKind prog w) S n) : so.SetObjOf (optKind prog w) (optSet S) n := by
  obtain ⟨hex, es, ep, t, hd, hel, hmem, hn, hf⟩ := h
  refine ⟨hex, es, ep, t, hd, ?_, ?_, hn, hf⟩
  · intro e he
    obtain ⟨⟨k, hk, hh⟩, hs⟩ := hel e he
    obtain ⟨u, hu⟩ := Value.isStrOf_shape hk
    refine ⟨⟨some k, ?_, hh⟩, hs⟩
    show isOpt (some k) e.2 = true
    rw [hu]; exact beq_self_eq_true k
  · intro k
    cases k with
    | none =>
      constructor
      · intro h; cases h
      · rintro ⟨e, he, h1⟩
        obtain ⟨⟨k, hk, _⟩, _⟩ := hel e he
        obtain ⟨u, hu⟩ := Value.isStrOf_shape hk
        have h2 := isOpt_none h1
        rw [hu] at h2; cases h2
    | some y =>
      refine (hmem y).trans ⟨?_, ?_⟩
      · rintro ⟨e, he, h1⟩
        obtain ⟨u, hu⟩ := Value.isStrOf_shape h1
        exact ⟨e, he, by show isOpt (some y) e.2 = true; rw [hu]; exact beq_self_eq_true y⟩
      · rintro ⟨e, he, h1⟩
        obtain ⟨u, hu⟩ := isOpt_some h1
        exact ⟨e, he, by show Value.isStrOf y e.2 = true; rw [hu]; exact beq_self_eq_true y⟩
/-- «c not in charset» for the next sign or None -/
theorem notin_z {prog : Program} {w : World} {A : Around} {E : Value → Shared → Prop} {s : Shared} {h₀ : Heap} {L sa : Addr} {news : List (Addr × Obj)} {so : Obj} {S : Str → Bool} {n : Nat} {v : Value} {o : Option Str} {r : Bool} {Q : Value → Shared → Prop}
    (N : News h₀ L s.heap news) (hm : (sa, so) ∈ news) (hso : so.SetObjOf (PySem.strKind prog w) S n) (hb : n < scanBound) (hv : NvIs v o) (e : optSet S o = r) (h : Q (.bool (!r)) { s with toks := s.toks + 1 }) : wpAny (model prog w) A (compareOp .NotIn v (.ref sa)) Q E s := by
  subst e
  have hs : s.heap.SetOf (optKind prog w) sa (optSet S) n := (set_opt hso).setOf (N _ hm).1 hb
  refine wpAny_notInSet_of (knd := optKind prog w) (k := o) ?_ ?_ hs h
  · cases o with
    | none => rw [show v = .none from hv]; rfl
    | some y => obtain ⟨t, rfl⟩ := hv; exact beq_self_eq_true y
  · cases o with
    | none => rw [show v = .none from hv]; rfl
    | some y => obtain ⟨t, rfl⟩ := hv; rfl
end Mine
end

local macro_rules | `(tactic| walk_at "inplaceOp Add str str") => `(tactic| (refine iadd_any (by omega) ?_; intro t' k'))
section
open PySem PySem.W PySem.Calls PySem.Spec PyProof.Rows
set_option maxRecDepth 100000
set_option maxHeartbeats 2000000
namespace Mine
theorem anew6 : True := by
  w_top off
  exact True.intro
open TI
theorem fillMW6 (P : Params) : hd.heap_1 P = hd.heap_1 P ∧ PySem.Challenge.rw_kq0016_06 = PySem.Challenge.rw_kq0016_06 := by
  k_fill
  exact ⟨rfl, rfl⟩
local macro_rules | `(tactic| walk_at "call ref") => `(tactic| (k_here; (with_reducible show wpAny _ _ (call (Value.ref 65) _) _ _ _); k_dflt (refine' step_ok ?_ ?_ ?_ ?_ ?_ ?_ ?_ ?_ ?_ ?_ ?_ ?_ ?_ ?_ ?_ ?_ ?_; (all_goals (try walk_at "z1")); (all_goals (try walk_at "z2"))); intro h' sl' qs' tk' it' nv' NI' SU' Fs' F' N'; (try dsimp only)))
theorem mem_ti {α : Type} {a b c q : α} {n r : List α} (h : q ∈ c :: a :: b :: (n ++ r)) : q ∈ a :: b :: ((c :: n) ++ r) := by
  rcases List.mem_cons.mp h with rfl | h
  · exact List.mem_cons_of_mem _ (List.mem_cons_of_mem _ List.mem_cons_self)
  rcases List.mem_cons.mp h with rfl | h
  · exact List.mem_cons_self
  rcases List.mem_cons.mp h with rfl | h
  · exact List.mem_cons_of_mem _ List.mem_cons_self
  · exact List.mem_cons_of_mem _ (List.mem_cons_of_mem _ (List.mem_cons_of_mem _ h))
theorem mem_it {α : Type} {a b c q : α} {n r : List α} (h : q ∈ a :: b :: ((c :: n) ++ r)) : q ∈ c :: a :: b :: (n ++ r) := by
  rcases List.mem_cons.mp h with rfl | h
  · exact List.mem_cons_of_mem _ List.mem_cons_self
  rcases List.mem_cons.mp h with rfl | h
  · exact List.mem_cons_of_mem _ (List.mem_cons_of_mem _ List.mem_cons_self)
  rcases List.mem_cons.mp h with rfl | h
  · exact List.mem_cons_self
  · exact List.mem_cons_of_mem _ (List.mem_cons_of_mem _ (List.mem_cons_of_mem _ h))
theorem mem_sub2 {α : Type} {a b q : α} {n n' r : List α} (hs : ∀ q ∈ n, q ∈ n') (h : q ∈ a :: b :: (n ++ r)) : q ∈ a :: b :: (n' ++ r) := by
  rcases List.mem_cons.mp h with rfl | h
  · exact List.mem_cons_self
  rcases List.mem_cons.mp h with rfl | h
  · exact List.mem_cons_of_mem _ List.mem_cons_self
  rcases List.mem_append.mp h with h | h
  · exact List.mem_cons_of_mem _ (List.mem_cons_of_mem _ (List.mem_append_left _ (hs q h)))
  · exact List.mem_cons_of_mem _ (List.mem_cons_of_mem _ (List.mem_append_right _ h))
theorem un_chain {m : Str → Option Value} {l : List (Str × Value)} (h : Has m l) {base hp : Heap} {L : Addr} (F : Fr base L hp (chainOf l m)) : Fr base L hp m := by rw [chain_eq h] at F; exact F
theorem small_up {n : Nat} (hn : n ≤ 1000) : Builtin.Range.small 0 (n : Int) 1 = true ∧ Builtin.Range.rangeSize 0 (n : Int) 1 = (n : Int) := by
  have e : Builtin.Range.rangeSize 0 (n : Int) 1 = (n : Int) := rangeSize_nat 0 n
  exact ⟨small_one (by omega) (by omega) (by omega) (by omega), e⟩
theorem RaisedE.sub {P : Params} {base : Heap} {L : Addr} {m : Str → Option Value} {l : List Env} {mid mid' frs : List (Addr × Obj)} {msg : Str} {gv : Value} {lst : List Nat} {pos : Int} {E : Value → Shared → Prop} {s : Shared} (h : RaisedE P base L m l mid frs msg gv lst pos E s) (hs : ∀ q ∈ mid, q ∈ mid') : RaisedE P base L m l mid' frs msg gv lst pos E s := by
  intro h' frs' tk e d t T oT oe o2 c2 SU Fs F N p2 XA l1 l2 l3 l4
  refine h h' frs' tk e d t T oT oe o2 c2 SU Fs F (fun q hq => N q ?_) p2 XA (fun q hq => l1 q ?_) l2 l3 (fun q hq => l4 q ?_)
  · simp only [List.mem_cons, List.mem_append] at hq ⊢
    rcases hq with hq | hq | (hq | hq) | hq
    · exact .inl hq
    · exact .inr (.inl hq)
    · exact .inr (.inr (.inl (.inl hq)))
    · exact .inr (.inr (.inl (.inr (hs q hq))))
    · exact .inr (.inr (.inr hq))
  · simp only [List.mem_append] at hq ⊢
    rcases hq with (hq | hq) | hq
    · exact .inl (.inl hq)
    · exact .inl (.inr (hs q hq))
    · exact .inr hq
  · simp only [List.mem_append] at hq ⊢
    rcases hq with hq | hq
    · exact .inl (hs q hq)
    · exact .inr hq
/-- how getwhile ends -/
inductive GwOut
  | done (r : Str) (i : Int) (o : Option Str) | bad (i : Int) (o : Option Str)
def gwZ (D : Str) (P : Str → Bool) : Nat → Int → Option Str → Str → GwOut
  | 0, i, o, r => .done r i o
  | _ + 1, i, none, r => .done r i none
  | k + 1, i, some c, r => if P c then (match stepZ D i with | none => .bad i (some c) | some p => gwZ D P k p.1 p.2 (r ++ c)) else .done r i (some c)
def OkO (o : Option Str) : Prop := ∀ y, o = some y → 1 ≤ y.length ∧ y.length ≤ 2
theorem okO_step {D : Str} {i i' : Int} {o : Option Str} (h : stepZ D i = some (i', o)) : OkO o := fun y e => by subst e; exact stepZ_len h
inductive GwJ (Pm : Params) (b : Bool) (gv : Value) (D : Str) (dt k1 k2 k3 k4 k5 : Tok) (x dx L : Addr) (oL : Obj) (l : List Env) (frs new : List (Addr × Obj)) (sa : Addr) (n : Nat) (out : GwOut) (P : Str → Bool) (j : Nat) (m₁ : Str → Option Value) (news₁ : List (Addr × Obj)) : Prop
  | mk (i : Int) (it : Tok) (nv : Value) (o : Option Str) (r : Str) (sl : Array (Option Value)) (frs' : List (Addr × Obj)) (rt : Tok) (h1 : gwZ D P (n - j) i o r = out) (h2 : NvIs nv o) (h3 : r.length ≤ 2 * j) (h4 : Bz D i) (h5 : OkO o) (h7 : SameUp frs frs') (h8 : Frs l frs') (h9 : Has m₁ [(Str.ofString "self", .ref x), (Str.ofString "charset", .ref sa), (Str.ofString "result", .str r rt)])
      (h10 : news₁ = (x, instObj 133 dx) :: (dx, tokD Pm k1 k2 k3 k4 k5 b gv (.str D dt) (.int i it) nv) :: (new ++ ((L, { oL with slots := sl }) :: frs')))
inductive GwE (Pm : Params) (b : Bool) (gv : Value) (D : Str) (dt k1 k2 k3 k4 k5 : Tok) (x dx L : Addr) (oL : Obj) (l : List Env) (frs new : List (Addr × Obj)) (out : GwOut) (base : Heap) (L' : Addr) (s s' : Shared) : Prop
  | mk (i : Int) (it : Tok) (nv : Value) (o : Option Str) (r : Str) (h' : Heap) (frs' : List (Addr × Obj)) (tk : Nat) (sl : Array (Option Value)) (rt : Tok) (m' : Str → Option Value) (h0 : s' = { s with heap := h', toks := tk }) (h1 : out = .done r i o) (h2 : NvIs nv o) (h6 : SameUp frs frs') (h7 : Frs l frs') (h8 : Fr base L' h' m') (h9 : Has m' [(Str.ofString "result", .str r rt)])
      (h10 : News base L' h' ((x, instObj 133 dx) :: (dx, tokD Pm k1 k2 k3 k4 k5 b gv (.str D dt) (.int i it) nv) :: (new ++ ((L, { oL with slots := sl }) :: frs'))))
/-- getwhile(n, charset) -/
theorem getwhile_z {w : World} {loose : List Str} {mean : ExcName → Option Value} {mg mb : Str → Option Value} {A : Around} {l : List Env} {ce : Env}
    {base : Heap} {L : Addr} {m : Str → Option Value} {s : Shared} {Q E : Value → Shared → Prop} {new frs : List (Addr × Obj)}
    {x dx : Addr} {k1 k2 k3 k4 k5 : Tok} {b : Bool} {gv : Value} {D : Str} {dt : Tok} {i : Int} {it : Tok} {nv : Value} {o : Option Str} {n ns : Nat} {nt : Tok} {sa : Addr} {so : Obj} {S : Str → Bool}
    (F : Fr base L s.heap m) (X : (hd.heap_1 w.params).In base) (N : News base L s.heap ((x, instObj 133 dx) :: (dx, tokD w.params k1 k2 k3 k4 k5 b gv (.str D dt) (.int i it) nv) :: (new ++ frs))) (T : Top hd.view_39 loose mean mg mb base)
    (Fs : Frs l frs) (hcs : EvAt ce L) (hdx : ∀ q ∈ new ++ frs, q.1 ≠ dx) (hxf : ∀ q ∈ frs, q.1 ≠ x) (hap : ∀ q ∈ new, q.1 ∉ frs.map (·.1)) (hA : A.frames = some (ce :: l)) (hh : A.handled = none) (hd' : A.depth + 20 < recursionLimit)
    (hD : D.length ≤ 2000) (hD1 : 1 ≤ D.length) (hb : Bz D i) (hg : GivenIs b gv D) (hnv : NvIs nv o) (hok : OkO o) (hn : n ≤ 1000) (hsa : (sa, so) ∈ new) (hso : so.SetObjOf (PySem.strKind PySem.Challenge.rw_kq0016_06.row.prog w) S ns) (hns : ns < scanBound)
    (hQ : ∀ r i' o' rt, gwZ D S n i o (Str.ofString "") = .done r i' o' → ∀ h' frs' tk it' nv', NvIs nv' o' → SameUp frs frs' → Frs l frs' → Fr base L h' m → News base L h' ((x, instObj 133 dx) :: (dx, tokD w.params k1 k2 k3 k4 k5 b gv (.str D dt) (.int i' it') nv') :: (new ++ frs')) → Q (.str r rt) { s with heap := h', toks := tk })
    (hE : ∀ i' o', gwZ D S n i o (Str.ofString "") = .bad i' o' → ∀ it' nv', NvIs nv' o' → RaisedE w.params base L m l ((x, instObj 133 dx) :: (dx, tokD w.params k1 k2 k3 k4 k5 b gv (.str D dt) (.int i' it') nv') :: new) frs (Str.ofString "bad escape (end of pattern)") gv D.cps.toList ((D.length : Int) - 1) E s) :
    wpAny (model PySem.Challenge.rw_kq0016_06.row.prog w) A (call (.ref 86) [.ref x, .int (n : Int) nt, .ref sa]) Q E s := by
  refine wpAny_call (enterV (ev := ce) F X N T Fs rfl (by kernel_rfl) (by omega) (BindsTo.of_eq rfl) (locs rfl) (fun oL L' h₁ Cl Fs₁ F₁ N₁ hne hltL => ?_) hcs rfl rfl rfl (by decide))
  have N₂ : News base L' h₁ ((x, instObj 133 dx) :: (dx, tokD w.params k1 k2 k3 k4 k5 b gv (.str D dt) (.int i it) nv) :: (new ++ ((L, { oL with slots := oL.slots }) :: frs))) := fun q hq => N₁ q (mem_i1 hq)
  have hLd : L ≠ dx := Ne.symm (hne (dx, _) (List.mem_cons_of_mem _ List.mem_cons_self))
  have hLx : L ≠ x := Ne.symm (hne (x, instObj 133 dx) List.mem_cons_self)
  have hnL : ∀ q ∈ new ++ frs, q.1 ≠ L := fun q hq => hne q (List.mem_cons_of_mem _ (List.mem_cons_of_mem _ hq))
  obtain ⟨hdx', hxf', hap'⟩ := ff (oL := { oL with slots := oL.slots }) hdx hxf hap hLd hLx hnL (SameUp.refl frs)
  have Fs₂ : Frs (ce :: l) ((L, { oL with slots := oL.slots }) :: frs) := Fs₁
  have hi0 : -3000 ≤ i ∧ i ≤ 3000 := by unfold Bz at hb; omega
  obtain ⟨hi1, hi2⟩ := hi0
  clear N₁ Fs₁
  have SU0 := SameUp.refl frs
  generalize (s.toks + List.length _) = u0
  obtain ⟨M0, H0, F₀⟩ : ∃ M0, Has M0 [(Str.ofString "self", .ref x), (Str.ofString "n", .int (n : Int) nt), (Str.ofString "charset", .ref sa)] ∧ Fr base L' h₁ M0 := ⟨_, Has.cons (by kernel_rfl) (Has.cons (by kernel_rfl) (Has.cons (by kernel_rfl) Has.nil)), F₁⟩
  clear F₁
  have F₁ := H0.fr F₀
  dsimp only [chainOf] at F₁
  clear F₀
  repeat ((fail_if_success (with_reducible show wpAny _ _ (exec (Stmt.For _ _ _ _ _) _) _ _ _)); first | (k_unfold; (try dsimp only)) | walk1 | (dsimp only; walk1))
  rename_i h₂ F₂ N₃
  have HM := (H0.put (n := Str.ofString "result") (v := .str (Str.ofString "") u0) (by kernel_rfl))
  have F₃ := H0.back F₂
  generalize setM M0 (Str.ofString "result") (.str (Str.ofString "") u0) = M at HM F₃
  clear F₂ F N
  obtain ⟨out, hout⟩ : ∃ out, gwZ D S n i o (Str.ofString "") = out := ⟨_, rfl⟩
  rw [hout] at hQ hE
  have J0 : GwJ w.params b gv D dt k1 k2 k3 k4 k5 x dx L oL l frs new sa n out S 0 M ((x, instObj 133 dx) :: (dx, tokD w.params k1 k2 k3 k4 k5 b gv (.str D dt) (.int i it) nv) :: (new ++ ((L, { oL with slots := oL.slots }) :: frs))) :=
    ⟨i, it, nv, o, _, _, _, u0, hout, hnv, by decide +kernel, hb, hok, SU0, Fs, (by repeat (with_reducible first | exact Has.nil | refine Has.consM HM (by repeat (with_reducible first | exact List.mem_cons_self | apply List.mem_cons_of_mem)) ?_)), rfl⟩
  refine wpAny_mono (Q := fun f s' => f = .next ∧ GwE w.params b gv D dt k1 k2 k3 k4 k5 x dx L oL l frs new out base L' s s') ?loop ?cont (fun _ _ z => z)
  case cont =>
    rintro f s' ⟨rfl, i', it', nv', o', r', h', frs', tk, sl, rt', m', rfl, ho, hnv', SU, Fs', F', Hm, N'⟩
    have F₁ := Hm.fr F'
    dsimp only [chainOf] at F₁
    clear F' F₃ N₃ J0
    k_steps
    obtain ⟨r1, r2⟩ := fin2 (new := new) Cl (by assumption) (by assumption) hLx hLd (up_ne hnL SU)
    exact hQ r' i' o' rt' ho _ _ _ _ _ hnv' SU Fs' r1 r2
  case loop =>
    refine For_invVF F₃ (by rfl) (by rfl) ?_ (by intro _; rfl) ?_
    · generalize hR : (fun xv s₁ => wpAny (model PySem.Challenge.rw_kq0016_06.row.prog w) _ (pyIter xv) _ _ s₁) = R
      have F₁ := HM.fr F₃
      dsimp only [chainOf] at F₁
      have N₁ := N₃
      clear N₃
      repeat ((fail_if_success (with_reducible (show R _ _))); first | (k_unfold; (try dsimp only)) | walk1 | dsimp only)
      subst hR
      have F₄ := ‹Fr base L' _ _›
      have N₄ := ‹News base L' _ _›
      have hsm := small_up (n := n) hn
      have F₅ := un_chain HM F₄
      refine iter_rangeV (n := n) (GwJ w.params b gv D dt k1 k2 k3 k4 k5 x dx L oL l frs new sa n out S) hh (by assumption) hsm.1 hsm.2 F₅ N₄ J0 ?turn ?done
      case done =>
        rintro m₁ news₁ h₁ tk₁ ⟨i, it, nv, o, r, sl, frs', rt, hgw, hnv, hrl, hbz, hok, SU, Fs', Hm, rfl⟩ F' N'
        rw [Nat.sub_self] at hgw
        exact ⟨rfl, i, it, nv, o, r, h₁, frs', tk₁, sl, rt, m₁, rfl, hgw.symm, hnv, SU, Fs', F', (by repeat (with_reducible first | exact Has.nil | refine Has.consM Hm (by repeat (with_reducible first | exact List.mem_cons_self | apply List.mem_cons_of_mem)) ?_)), N'⟩
      case turn =>
        clear F₃ F₄ F₅ N₄ J0 HM hout hnv hok hb hi1 hi2
        rintro j t m₁ news₁ h₁ tk₁ I oI hj ⟨i, it, nv, o, r, sl, frs', rt, hgw, hnv, hrl, hbz, hok, SU, Fs', Hm, rfl⟩ hoff F' N'
        have H1 : Has (fun y => if y = Str.ofString "_" then some (Value.int (0 + (j : Int) * 1) t) else m₁ y) [(Str.ofString "self", .ref x), (Str.ofString "charset", .ref sa), (Str.ofString "result", .str r rt)] := Hm.set (by kernel_rfl)
        generalize (fun y => if y = Str.ofString "_" then some (Value.int (0 + (j : Int) * 1) t) else m₁ y) = M1 at F' H1
        clear Hm
        obtain ⟨k, hk⟩ : ∃ k, n - j = k + 1 := ⟨n - j - 1, by omega⟩
        have hk2 : n - (j + 1) = k := by omega
        rw [hk] at hgw
        obtain ⟨nw, hnw⟩ : ∃ nw, nw = (I, oI) :: new := ⟨_, rfl⟩
        have hin : ∀ q ∈ new, q ∈ nw := fun q hq => by subst hnw; exact List.mem_cons_of_mem _ hq
        have N₁ : News base L' h₁ ((x, instObj 133 dx) :: (dx, tokD w.params k1 k2 k3 k4 k5 b gv (.str D dt) (.int i it) nv) :: (nw ++ ((L, { oL with slots := sl }) :: frs'))) := fun q hq => N' q (by subst hnw; exact mem_it hq)
        have hIL : ∀ (A B : Addr × Obj) (R : List (Addr × Obj)), (∀ q ∈ A :: B :: R, q.1 ≠ I) → I ≠ B.1 ∧ (∀ q ∈ R, I ≠ q.1) := fun A B R h => ⟨(h B (List.mem_cons_of_mem _ List.mem_cons_self)).symm, fun q hq => (h q (List.mem_cons_of_mem _ (List.mem_cons_of_mem _ hq))).symm⟩
        obtain ⟨oI1, oI2⟩ := hIL _ _ _ hoff
        have hIf : I ∉ frs.map (·.1) := fun hz => by
          rw [← sameUp_map SU] at hz
          obtain ⟨q, hq, e⟩ := List.mem_map.mp hz
          exact oI2 q (List.mem_append_right _ (List.mem_cons_of_mem _ hq)) e.symm
        have hdxn : ∀ q ∈ nw ++ frs, q.1 ≠ dx := fun q hq => by
          subst hnw
          rcases List.mem_cons.mp hq with rfl | hq
          · exact oI1
          · exact hdx q hq
        have hapn : ∀ q ∈ nw, q.1 ∉ frs.map (·.1) := fun q hq => by
          subst hnw
          rcases List.mem_cons.mp hq with rfl | hq
          · exact hIf
          · exact hap q hq
        have hnLn : ∀ q ∈ nw ++ frs, q.1 ≠ L := fun q hq => by
          subst hnw
          rcases List.mem_cons.mp hq with rfl | hq
          · exact oI2 (L, _) (List.mem_append_right _ List.mem_cons_self)
          · exact hnL q hq
        obtain ⟨hdx₁, hxf₁, hap₁⟩ := ff (oL := { oL with slots := sl }) hdxn hxf hapn hLd hLx hnLn SU
        have Fs₁ : Frs (ce :: l) ((L, { oL with slots := sl }) :: frs') := ⟨by rw [hcs.kind]; decide, hcs.frame, Cl.dict, Fs'⟩
        have hi1 : -3000 ≤ i := by unfold Bz at hbz; omega
        have hi2 : i ≤ 3000 := by unfold Bz at hbz; omega
        have hrl2 : r.length ≤ 2000 := by omega
        have F₁ := H1.fr F'
        dsimp only [chainOf] at F₁
        clear F' N' hdx' hxf' hap' Fs₂ hIL hne hltL hj
        have hsa2 : ∀ (A B : Addr × Obj) (R : List (Addr × Obj)), (sa, so) ∈ A :: B :: (nw ++ R) := fun A B R => List.mem_cons_of_mem _ (List.mem_cons_of_mem _ (List.mem_append_left _ (hin _ hsa)))
        have brk : ∀ h2 tk2 v, Fr base L' h2 (fun y => if y = Str.ofString "c" then some v else chainOf [(Str.ofString "self", .ref x), (Str.ofString "charset", .ref sa), (Str.ofString "result", .str r rt)] M1 y) → News base L' h2 ((x, instObj 133 dx) :: (dx, tokD w.params k1 k2 k3 k4 k5 b gv (.str D dt) (.int i it) nv) :: (nw ++ ((L, { oL with slots := sl }) :: frs'))) → out = .done r i o →
            GwE w.params b gv D dt k1 k2 k3 k4 k5 x dx L oL l frs new out base L' s { s with heap := h2, toks := tk2 } := by
          intro h2 tk2 v F2 N2 ho
          have H2 : Has (setM M1 (Str.ofString "c") v) [(Str.ofString "self", .ref x), (Str.ofString "charset", .ref sa), (Str.ofString "result", .str r rt)] := H1.set (by kernel_rfl)
          exact ⟨i, it, nv, o, r, h2, frs', tk2, sl, rt, _, rfl, ho, hnv, SU, Fs', H1.back F2, (by repeat (with_reducible first | exact Has.nil | refine Has.consM H2 (by repeat (with_reducible first | exact List.mem_cons_self | apply List.mem_cons_of_mem)) ?_)), fun q hq => N2 q (mem_sub2 hin hq)⟩
        cases o with
        | none =>
          obtain rfl : nv = .none := hnv
          have ho : out = .done r i none := hgw.symm
          repeat ((fail_if_success (with_reducible show wpAny _ _ (compareOp CmpOp.NotIn _ _) _ _ _)); first | (k_unfold; (try dsimp only)) | walk1 | (dsimp only; walk1))
          refine notin_z (o := none) (by k_asm) (hsa2 _ _ _) hso hns rfl (r := false) rfl ?_
          k_steps
          exact ⟨rfl, brk _ _ _ (by assumption) (by assumption) ho⟩
        | some y =>
          obtain ⟨yt, rfl⟩ := hnv
          have hy := hok y rfl
          repeat ((fail_if_success (with_reducible show wpAny _ _ (compareOp CmpOp.NotIn _ _) _ _ _)); first | (k_unfold; (try dsimp only)) | walk1 | (dsimp only; walk1))
          refine notin_z (o := some y) (by k_asm) (hsa2 _ _ _) hso hns ⟨yt, rfl⟩ (r := S y) rfl ?_
          cases hP : S y with
          | true =>
            have hgw2 : (match stepZ D i with | none => GwOut.bad i (some y) | some p => gwZ D S k p.1 p.2 (r ++ y)) = out := by
              rw [← hgw]; show _ = (if S y then _ else _); rw [hP]; rfl
            cases hs : stepZ D i with
            | none =>
              rw [hs] at hgw2
              have hl := stepZ_none hs
              clear brk hs
              k_steps
              exact pass_raised Cl (Around.frames_deeper hA) rfl (ffmid hdx₁ hxf₁ hap₁) (ffL hLd hLx hnLn SU) (((hE i (some y) hgw2.symm it _ ⟨yt, rfl⟩).sub (fun q hq => by
                have := mem_sub2 (r := []) hin (by simpa using hq)
                simpa using this)).up SU)
            | some p =>
              obtain ⟨i', o'⟩ := p
              rw [hs] at hgw2
              clear brk
              k_steps
              have SUt := ‹SameUp frs' _›
              have H2 : Has (setM M1 (Str.ofString "c") (.str y yt)) [(Str.ofString "self", .ref x), (Str.ofString "charset", .ref sa), (Str.ofString "result", .str r rt)] := H1.set (by kernel_rfl)
              have H3 : ∀ t, Has (setM (setM M1 (Str.ofString "c") (.str y yt)) (Str.ofString "result") (.str (r ++ y) t)) [(Str.ofString "self", .ref x), (Str.ofString "charset", .ref sa), (Str.ofString "result", .str (r ++ y) t)] := fun t => by
                have H4 : Has (setM M1 (Str.ofString "c") (.str y yt)) [(Str.ofString "self", .ref x), (Str.ofString "charset", .ref sa)] := (by repeat (with_reducible first | exact Has.nil | refine Has.consM H2 (by repeat (with_reducible first | exact List.mem_cons_self | apply List.mem_cons_of_mem)) ?_))
                have H5 := H4.put (n := Str.ofString "result") (v := .str (r ++ y) t) (by kernel_rfl)
                exact (by repeat (with_reducible first | exact Has.nil | refine Has.consM H5 (by repeat (with_reducible first | exact List.mem_cons_self | apply List.mem_cons_of_mem)) ?_))
              refine ⟨_, _, _, _, rfl, H1.back2 (by assumption), fun q hq => (by assumption : News base L' _ ((x, _) :: (dx, _) :: (nw ++ ((L, _) :: _)))) q (by rw [hnw]; exact mem_ti hq), ?_, i', _, _, o', r ++ y, _, _, _, by rw [hk2]; exact hgw2, by assumption, by rw [Str.length_append]; omega, stepZ_bz hs hbz, okO_step hs, SU.trans SUt, (by assumption : Frs (ce :: l) ((L, _) :: _)).2.2.2, H3 _, rfl⟩
              intro q hq
              rcases List.mem_cons.mp hq with rfl | hq
              · exact hoff (x, instObj 133 dx) List.mem_cons_self
              rcases List.mem_cons.mp hq with rfl | hq
              · exact oI1.symm
              rcases List.mem_append.mp hq with hq | hq
              · exact (oI2 q (List.mem_append_left _ hq)).symm
              rcases List.mem_cons.mp hq with rfl | hq
              · exact (oI2 (L, _) (List.mem_append_right _ List.mem_cons_self)).symm
              obtain ⟨z, hz, e⟩ := SUt.fwd q hq
              rw [e]
              exact (oI2 z (List.mem_append_right _ (List.mem_cons_of_mem _ hz))).symm
          | false =>
            have ho : out = .done r i (some y) := by
              rw [← hgw]; show (if S y then _ else _) = _; rw [hP]; rfl
            k_steps
            exact ⟨rfl, brk _ _ _ (by assumption) (by assumption) ho⟩
    · passes_own
end Mine
end

section
open PySem PySem.W PySem.Calls PySem.Spec PyProof.Rows
set_option maxRecDepth 100000
set_option maxHeartbeats 1000000
namespace Mine
/-- a dict of three texts by numbers, asked for one of them -/
theorem dict_z {prog : Program} {w : World} {A : Around} {E : Value → Shared → Prop} {s : Shared} {h₀ : Heap} {L D : Addr} {news : List (Addr × Obj)} {o : Obj} {Q : Value → Shared → Prop} {value slice : PySem.Expr} {x u y lz : Str} {a b c t : Tok} {W : Int}
    (N : News h₀ L s.heap news) (hp : (D, o) ∈ news) (hd : o.IsDictOf (PySem.intKind prog w) [(2, .str x a), (4, .str u b), (8, .str y c)]) (hW : (W = 2 ∧ x = lz) ∨ (W = 4 ∧ u = lz) ∨ (W = 8 ∧ y = lz))
    (h : ∀ t k, Q (.str lz t) { s with toks := k })
    (hs : subscripted slice false (.ref D) (.int W t) = operate [.ref D, .int W t] (getItem (.ref D) (.int W t)) := by with_unfolding_all rfl) : wpAny (model prog w) A (subscriptTail value slice (.ref D) (.int W t)) Q E s := by
  refine kdt_tail (knd := PySem.intKind prog w) N hp hd ?_ hs
  rcases hW with ⟨rfl, rfl⟩ | ⟨rfl, rfl⟩ | ⟨rfl, rfl⟩
  · exact kdt_getItem (knd := PySem.intKind prog w) N hp hd (intKind_is _ _ _ _) (by rfl) (h _ _)
  · exact kdt_getItem (knd := PySem.intKind prog w) N hp hd (intKind_is _ _ _ _) (by rfl) (h _ _)
  · exact kdt_getItem (knd := PySem.intKind prog w) N hp hd (intKind_is _ _ _ _) (by rfl) (h _ _)
end Mine
end

section
open PySem PySem.W PySem.Calls PySem.Spec PyProof.Rows
set_option maxRecDepth 100000
set_option maxHeartbeats 20000000
namespace Mine
theorem anew7 : True := by
  w_top off
  exact True.intro
open TI
theorem fillTN6 (P : Params) : hd.heap_1 P = hd.heap_1 P ∧ PySem.Challenge.rw_kq0016_06 = PySem.Challenge.rw_kq0016_06 := by
  k_fill
  exact ⟨rfl, rfl⟩
theorem ord_c {prog : Program} {w : World} {A : Around} {E : Value → Shared → Prop} {s : Shared} {Q : Value → Shared → Prop} {c : Nat} {t : Tok} (h : ∀ t k, Q (.int (c : Int) t) { s with toks := k }) : wpAny (model prog w) A (call (.builtin "ord") [.str ⟨#[c]⟩ t]) Q E s := ord_of_one rfl (h _ _)
def figZ : Str := Str.ofString "0123456789abcdef"
theorem figZ_len : (Str.ofString "0123456789abcdef").length = 16 := by decide +kernel
/-- the figures of n, the last k, ahead of acc -/
def hexC : Nat → Int → Str → Str
  | 0, _, acc => acc
  | k + 1, n, acc => hexC k (n.fdiv 16) (Txt.item figZ (n.fmod 16) ++ acc)
def widZ (c : Nat) : Nat := if c < 256 then 2 else if c < 65536 then 4 else 8
def letZ (n : Nat) : Str := if n = 2 then Str.ofString "x" else if n = 4 then Str.ofString "u" else Str.ofString "U"
theorem widZ_is (c : Nat) : widZ c = 2 ∨ widZ c = 4 ∨ widZ c = 8 := by unfold widZ; split; exact .inl rfl; split; exact .inr (.inl rfl); exact .inr (.inr rfl)
/-- one sign, written with ASCII alone -/
def narC (c : Nat) : Str := if c < 128 then one c else (Str.ofString "\\" ++ letZ (widZ c)) ++ hexC (widZ c) c (Str.ofString "")
def narL (l : List Nat) : Str := cat (l.map narC)
theorem hexC_len : ∀ (k : Nat) (n : Int) (acc : Str), (hexC k n acc).length = k + acc.length
  | 0, _, acc => by simp [hexC]
  | k + 1, n, acc => by
    rw [hexC, hexC_len k, Str.length_append]
    have : (Txt.item figZ (n.fmod 16)).length = 1 := rfl
    omega
theorem letZ_len (n : Nat) : (letZ n).length = 1 := by unfold letZ; split; rfl; split <;> rfl
theorem narC_len (c : Nat) : (narC c).length ≤ 10 := by
  unfold narC
  split
  · show (1 : Nat) ≤ 10; decide
  · rw [Str.length_append, Str.length_append, hexC_len, letZ_len]
    have h1 : (Str.ofString "\\").length = 1 := rfl
    have h2 : (Str.ofString "").length = 0 := rfl
    rcases widZ_is c with h | h | h <;> rw [h, h1, h2] <;> decide
theorem narL_snoc {l : List Nat} {i c : Nat} (h : l[i]? = some c) : narL (l.take (i + 1)) = narL (l.take i) ++ narC c := by
  unfold narL
  rw [List.take_add_one, h]
  simp only [Option.toList_some, List.map_append, List.map_cons, List.map_nil]
  rw [cat_snoc]
/-- a value found, the ledger as it was -/
inductive EvZ (base : Heap) (L : Addr) (m : Str → Option Value) (news : List (Addr × Obj)) (y : Int) (s : Shared) (x : Value) (s' : Shared) : Prop
  | mk (t : Tok) (tk : Nat) (h' : Heap) (h : x = .int y t) (e : s' = { s with heap := h', toks := tk }) (hF : Fr base L h' m) (hN : News base L h' news)
inductive EvH (base : Heap) (L : Addr) (m : Str → Option Value) (news : List (Addr × Obj)) (y : Str) (s : Shared) (x : Value) (s' : Shared) : Prop
  | mk (t : Tok) (tk : Nat) (h' : Heap) (news' : List (Addr × Obj)) (h : x = .str y t) (e : s' = { s with heap := h', toks := tk }) (hF : Fr base L h' m) (hN : News base L h' news') (hs : ∀ q ∈ news, q ∈ news')
inductive NaE (base : Heap) (L : Addr) (y : Str) (n : Str) (news : List (Addr × Obj)) (s : Shared) (f : Flow) (s' : Shared) : Prop
  | mk (t : Tok) (tk : Nat) (h' : Heap) (m' : Str → Option Value) (news' : List (Addr × Obj)) (h : f = .next) (e : s' = { s with heap := h', toks := tk }) (hF : Fr base L h' m') (hm : Has m' [(n, .str y t)]) (hN : News base L h' news') (hs : ∀ q ∈ news, q ∈ news')
inductive NaJ (l : List Nat) (news : List (Addr × Obj)) (i : Nat) (m₁ : Str → Option Value) (news₁ : List (Addr × Obj)) : Prop
  | mk (o : Str) (ot : Tok) (h : o = narL (l.take i)) (hl : o.length ≤ 10 * i) (hm : Has m₁ [(Str.ofString "out", .str o ot)]) (hs : ∀ q ∈ news, q ∈ news₁)
inductive FiE (base : Heap) (L : Addr) (R o : Str) (ot : Tok) (W : Int) (news : List (Addr × Obj)) (s : Shared) (f : Flow) (s' : Shared) : Prop
  | mk (t wt : Tok) (tk : Nat) (h' : Heap) (m' : Str → Option Value) (news' : List (Addr × Obj)) (h : f = .next) (e : s' = { s with heap := h', toks := tk }) (hF : Fr base L h' m') (hm : Has m' [(Str.ofString "out", .str o ot), (Str.ofString "width", .int W wt), (Str.ofString "figures", .str R t)]) (hN : News base L h' news') (hs : ∀ q ∈ news, q ∈ news')
inductive FiJ (R o : Str) (ot : Tok) (W : Int) (wd : Nat) (news : List (Addr × Obj)) (j : Nat) (m₁ : Str → Option Value) (news₁ : List (Addr × Obj)) : Prop
  | mk (z : Int) (zt : Tok) (acc : Str) (at' wt : Tok) (h : hexC (wd - j) z acc = R) (hz : 0 ≤ z) (hz2 : z ≤ 2000000) (hl : acc.length ≤ j) (hm : Has m₁ [(Str.ofString "out", .str o ot), (Str.ofString "n", .int z zt), (Str.ofString "width", .int W wt), (Str.ofString "figures", .str acc at')]) (hs : ∀ q ∈ news, q ∈ news₁)
local macro_rules | `(tactic| walk_at "call builtin:ord") => `(tactic| (k_here; (with_reducible show wpAny _ _ (call (Value.builtin "ord") [Value.str _ _]) _ _ _); (refine ord_c ?_); intro t' k'))
local macro_rules | `(tactic| walk_at "binaryOp Add str str") => `(tactic| (refine add_any (by omega) ?_; intro t' k'))
/-- _law_narrow(words) -/
theorem narrow_c {w : World} {loose : List Str} {mean : ExcName → Option Value} {mg mb : Str → Option Value} {A : Around}
    {base : Heap} {L : Addr} {m : Str → Option Value} {s : Shared} {Q E : Value → Shared → Prop} {news : List (Addr × Obj)} {msg : Str} {tm : Tok}
    (F : Fr base L s.heap m) (X : (hd.heap_1 w.params).In base) (N : News base L s.heap (news)) (T : Top hd.view_39 loose mean mg mb base) (hh : A.handled = none) (hd' : A.depth + 3 < recursionLimit) (hl : msg.length ≤ 4000) (hv : ∀ c ∈ msg.cps.toList, c < 1114112)
    (hQ : ∀ h' tk t, Fr base L h' m → News base L h' news → Q (.str (narL msg.cps.toList) t) { s with heap := h', toks := tk }) :
    wpAny (model PySem.Challenge.rw_kq0016_06.row.prog w) A (call (.ref 151) [.str msg tm]) Q E s := by
  refine wpAny_call (enterM (cn := Str.ofString "") (cs := { kind := .function, names := [], isGenerator := false, isCoroutine := false }) (a := 0) (ccd := .none) (l := []) (frs := []) F X N T trivial rfl (by kernel_rfl) (by omega) (BindsTo.of_eq rfl) (locs rfl) (fun oL L' h₁ Cl Fs₁ F₁ N₁ hne hltL => ?_) rfl rfl rfl rfl (by decide))
  clear Fs₁
  generalize (s.toks + List.length _) = u0
  obtain ⟨M0, H0, F₀⟩ : ∃ M0, Has M0 [(Str.ofString "words", .str msg tm)] ∧ Fr base L' h₁ M0 := ⟨_, Has.cons (by kernel_rfl) Has.nil, F₁⟩
  clear F₁
  have F₁ := H0.fr F₀
  dsimp only [chainOf] at F₁
  clear F₀ F N
  repeat ((fail_if_success (with_reducible show wpAny _ _ (exec (Stmt.For _ _ _ _ _) _) _ _ _)); first | (k_unfold; (try dsimp only)) | walk1 | (dsimp only; walk1))
  have F₂ := ‹Fr base L' _ _›
  have N₂ := ‹News base L' _ _›
  obtain ⟨ot, F₃⟩ : ∃ ot, Fr base L' _ (setM M0 (Str.ofString "out") (.str (Str.ofString "") ot)) := ⟨_, H0.back F₂⟩
  have HM : Has (setM M0 (Str.ofString "out") (.str (Str.ofString "") ot)) [(Str.ofString "words", .str msg tm), (Str.ofString "out", .str (Str.ofString "") ot)] := Has.consM (H0.set (by kernel_rfl)) List.mem_cons_self (Has.cons (by kernel_rfl) Has.nil)
  generalize (setM M0 (Str.ofString "out") (.str (Str.ofString "") ot)) = M at HM F₃
  clear F₂ H0
  refine wpAny_mono (Q := NaE base L' (narL msg.cps.toList) (Str.ofString "out") ((L, oL) :: news) s) ?loop ?cont (fun _ _ z => z)
  case cont =>
    rintro f s' ⟨ot', tk, h', m', news', rfl, rfl, F', Hm, N', hs⟩
    have F₁ := Hm.fr F'
    dsimp only [chainOf] at F₁
    clear F' F₃ N₂
    k_steps
    have rF := ‹Fr base L' _ _›
    exact hQ _ _ _ (backM (sl := oL.slots) Cl rF N' (hs _ List.mem_cons_self)) (backN N' (fun q hq => hs q (List.mem_cons_of_mem _ hq)) (fun q hq => hne q hq))
  case loop =>
    refine For_invVF F₃ (by rfl) (by rfl) ?_ (by intro _; rfl) ?_
    · generalize hR : (fun xv s₁ => wpAny (model PySem.Challenge.rw_kq0016_06.row.prog w) _ (pyIter xv) _ _ s₁) = R
      have F₁ := HM.fr F₃
      dsimp only [chainOf] at F₁
      repeat ((fail_if_success (with_reducible (show R _ _))); first | (k_unfold; (try dsimp only)) | walk1 | dsimp only)
      subst hR
      have F₄ := ‹Fr base L' _ (fun y => _)›
      have F₅ := un_chain HM F₄
      refine iter_strV (NaJ msg.cps.toList ((L, oL) :: news)) hh F₅ (by assumption) ⟨Str.ofString "", _, rfl, by decide, (by repeat (with_reducible first | exact Has.nil | refine Has.consM HM (by repeat (with_reducible first | exact List.mem_cons_self | apply List.mem_cons_of_mem)) ?_)), fun q hq => hq⟩ ?turn ?done
      case done =>
        rintro m₁ news₁ h₁ tk₁ ⟨o, ot, ho, hl, Hm, hs⟩ F' N'
        rw [show msg.cps.size = msg.cps.toList.length from rfl, List.take_length] at ho
        exact ⟨ot, tk₁, h₁, m₁, news₁, rfl, rfl, F', ho ▸ Hm, N', hs⟩
      case turn =>
        rintro j c ct m₁ news₁ h₁ tk₁ I oI hj ⟨o, ot, ho, hol, Hm, hs⟩ hoff F' N'
        have H1 : Has (fun y => if y = Str.ofString "c" then some (Value.str ⟨#[c]⟩ ct) else m₁ y) [(Str.ofString "out", .str o ot), (Str.ofString "c", .str ⟨#[c]⟩ ct)] := Has.consM (Hm.set (by kernel_rfl)) List.mem_cons_self (Has.cons (by kernel_rfl) Has.nil)
        generalize (fun y => if y = Str.ofString "c" then some (Value.str ⟨#[c]⟩ ct) else m₁ y) = M1 at F' H1
        clear Hm
        have hlt : j < msg.cps.size := (Array.getElem?_eq_some_iff.mp hj).1
        have hlen : msg.cps.size = msg.length := rfl
        have hol2 : o.length ≤ 40000 := by omega
        have hsn : narL (msg.cps.toList.take (j + 1)) = o ++ narC c := by rw [ho]; exact narL_snoc (by rw [Array.getElem?_toList]; exact hj)
        have hcv : c < 1114112 := hv c (by rw [← Array.getElem?_toList] at hj; exact List.mem_of_getElem? hj)
        have F₁ := H1.fr F'
        dsimp only [chainOf] at F₁
        have fin : ∀ h2 tk2 M2 nw t, Fr base L' h2 M2 → News base L' h2 ((I, oI) :: nw) → (∀ p ∈ nw, p.1 ≠ I) → (∀ q ∈ news₁, q ∈ nw) → Has M2 [(Str.ofString "out", .str (o ++ narC c) t)] → TurnV base L' I oI (NaJ msg.cps.toList ((L, oL) :: news) (j + 1)) { s with heap := h₁, toks := tk₁ } (NaE base L' (narL msg.cps.toList) (Str.ofString "out") ((L, oL) :: news) s) .next { s with heap := h2, toks := tk2 } := fun h2 tk2 M2 nw t F2 N2 hof hsb H2 =>
          ⟨h2, tk2, M2, nw, rfl, F2, N2, hof, o ++ narC c, t, hsn.symm, by rw [Str.length_append]; have := narC_len c; omega, H2, fun q hq => hsb q (hs q hq)⟩
        clear F' F₃ F₄ F₅ hj ho HM
        by_cases hc : c < 128
        · have hcz : (c : Int) < 128 := by omega
          have hna : narC c = one c := by unfold narC; rw [if_pos hc]
          rw [hna] at fin
          k_steps
          obtain ⟨nt, n2, F8⟩ : ∃ nt n2, Fr base L' _ (fun y => if y = Str.ofString "out" then some (Value.str (o ++ one c) nt) else if y = Str.ofString "n" then some (Value.int (c : Int) n2) else if y = Str.ofString "out" then some (Value.str o ot) else if y = Str.ofString "c" then some (Value.str ⟨#[c]⟩ ct) else M1 y) := ⟨_, _, by assumption⟩
          exact fin _ _ _ _ nt F8 (by assumption) hoff (fun q hq => hq) (Has.cons (by kernel_rfl) Has.nil)
        · have hcz : ¬ (c : Int) < 128 := by omega
          have hna : narC c = (Str.ofString "\\" ++ letZ (widZ c)) ++ hexC (widZ c) c (Str.ofString "") := by unfold narC; rw [if_neg hc]
          repeat ((fail_if_success (with_reducible show wpAny _ _ (eval (PySem.Expr.IfExp _ _ _ _) _) _ _ _)); first | (k_unfold; (try dsimp only)) | walk1 | (dsimp only; walk1))
          have hcz2 : 0 ≤ (c : Int) := by omega
          obtain ⟨n2, F8⟩ : ∃ n2, Fr base L' _ (fun y => if y = Str.ofString "n" then some (Value.int (c : Int) n2) else if y = Str.ofString "out" then some (Value.str o ot) else if y = Str.ofString "c" then some (Value.str ⟨#[c]⟩ ct) else M1 y) := ⟨_, by assumption⟩
          have H2 : Has (fun y => if y = Str.ofString "n" then some (Value.int (c : Int) n2) else if y = Str.ofString "out" then some (Value.str o ot) else if y = Str.ofString "c" then some (Value.str ⟨#[c]⟩ ct) else M1 y) [(Str.ofString "n", .int (c : Int) n2), (Str.ofString "out", .str o ot)] := Has.cons (by kernel_rfl) (Has.cons (by kernel_rfl) Has.nil)
          generalize (fun y => if y = Str.ofString "n" then some (Value.int (c : Int) n2) else if y = Str.ofString "out" then some (Value.str o ot) else if y = Str.ofString "c" then some (Value.str ⟨#[c]⟩ ct) else M1 y) = M2 at F8 H2
          clear F₁ N' H1
          have F₁ := H2.fr F8
          dsimp only [chainOf] at F₁
          obtain ⟨W, hW⟩ : ∃ W : Int, W = (widZ c : Int) := ⟨_, rfl⟩
          refine wpAny_mono (Q := EvZ base L' M2 ((I, oI) :: news₁) W s) ?ev ?go (fun _ _ z => z)
          case ev =>
            clear F8 hna fin
            have done : ∀ t tk h' y, y = W → Fr base L' h' (chainOf [(Str.ofString "n", .int (c : Int) n2), (Str.ofString "out", .str o ot)] M2) → News base L' h' ((I, oI) :: news₁) → EvZ base L' M2 ((I, oI) :: news₁) W s (.int y t) { s with heap := h', toks := tk } := fun t tk h' y e F N => ⟨t, tk, h', by rw [e], rfl, un_chain H2 F, N⟩
            dsimp only [chainOf] at done
            by_cases h1 : (c : Int) < 256
            · have hw : (2 : Int) = W := by rw [hW]; unfold widZ; rw [if_pos (by omega)]; rfl
              k_steps
              exact done _ _ _ _ hw (by assumption) (by assumption)
            · by_cases h2 : (c : Int) < 65536
              · have hw : (4 : Int) = W := by rw [hW]; unfold widZ; rw [if_neg (by omega), if_pos (by omega)]; rfl
                k_steps
                exact done _ _ _ _ hw (by assumption) (by assumption)
              · have hw : (8 : Int) = W := by rw [hW]; unfold widZ; rw [if_neg (by omega), if_neg (by omega)]; rfl
                k_steps
                exact done _ _ _ _ hw (by assumption) (by assumption)
          case go =>
            rintro v s' ⟨wt, tk, h', rfl, rfl, F9, N9⟩
            clear F₁ F8
            have F₁ := H2.fr F9
            dsimp only [chainOf] at F₁
            repeat ((fail_if_success (with_reducible show wpAny _ _ (exec (Stmt.For _ _ _ _ _) _) _ _ _)); first | (k_unfold; (try dsimp only)) | walk1 | (dsimp only; walk1))
            have G9 := ‹Fr base L' _ (fun y => if y = Str.ofString "figures" then _ else _)›
            obtain ⟨ft, G8⟩ : ∃ ft, Fr base L' _ (fun y => if y = Str.ofString "figures" then some (Value.str (Str.ofString "") ft) else if y = Str.ofString "width" then some (Value.int W wt) else if y = Str.ofString "n" then some (Value.int (c : Int) n2) else if y = Str.ofString "out" then some (Value.str o ot) else M2 y) := ⟨_, G9⟩
            have H3 : Has (fun y => if y = Str.ofString "figures" then some (Value.str (Str.ofString "") ft) else if y = Str.ofString "width" then some (Value.int W wt) else if y = Str.ofString "n" then some (Value.int (c : Int) n2) else if y = Str.ofString "out" then some (Value.str o ot) else M2 y) [(Str.ofString "out", .str o ot), (Str.ofString "n", .int (c : Int) n2), (Str.ofString "width", .int W wt), (Str.ofString "figures", .str (Str.ofString "") ft)] := Has.cons (by kernel_rfl) (Has.cons (by kernel_rfl) (Has.cons (by kernel_rfl) (Has.cons (by kernel_rfl) Has.nil)))
            generalize (fun y => if y = Str.ofString "figures" then some (Value.str (Str.ofString "") ft) else if y = Str.ofString "width" then some (Value.int W wt) else if y = Str.ofString "n" then some (Value.int (c : Int) n2) else if y = Str.ofString "out" then some (Value.str o ot) else M2 y) = M3 at G8 H3
            clear G9 H2
            obtain ⟨R, hR⟩ : ∃ R, hexC (widZ c) c (Str.ofString "") = R := ⟨_, rfl⟩
            have hRl : R.length ≤ 8 := by rw [← hR, hexC_len]; have : (Str.ofString "").length = 0 := rfl; rcases widZ_is c with h | h | h <;> omega
            rw [hR] at hna
            refine wpAny_mono (Q := FiE base L' R o ot W ((I, oI) :: news₁) s) ?loop2 ?cont2 (fun _ _ z => z)
            case loop2 =>
              clear fin hna
              refine For_invVF G8 (by rfl) (by rfl) ?_ (by intro _; rfl) ?_
              · generalize hS : (fun xv s₁ => wpAny (model PySem.Challenge.rw_kq0016_06.row.prog w) _ (pyIter xv) _ _ s₁) = S
                have F₁ := H3.fr G8
                dsimp only [chainOf] at F₁
                repeat ((fail_if_success (with_reducible (show S _ _))); first | (k_unfold; (try dsimp only)) | walk1 | dsimp only)
                subst hS
                have F₄ := ‹Fr base L' _ (fun y => _)›
                have N₄ := ‹News base L' _ _›
                have hsm : Builtin.Range.small 0 W 1 = true ∧ Builtin.Range.rangeSize 0 W 1 = (widZ c : Int) := by rw [hW]; exact small_up (by rcases widZ_is c with h | h | h <;> omega)
                have F₅ := un_chain H3 F₄
                refine iter_rangeV (n := widZ c) (FiJ R o ot W (widZ c) ((I, oI) :: news₁)) hh (by assumption) hsm.1 hsm.2 F₅ N₄ ⟨c, n2, Str.ofString "", ft, wt, by rw [Nat.sub_zero]; exact hR, hcz2, by omega, by decide, H3, fun q hq => hq⟩ ?turn2 ?done2
                case done2 =>
                  rintro m₂ news₂ h₂ tk₂ ⟨z, zt, acc, at', wt2, ha, hz, hz2, hl2, Hm, hs2⟩ F' N'
                  rw [Nat.sub_self] at ha
                  obtain rfl : acc = R := ha
                  exact ⟨at', wt2, tk₂, h₂, m₂, news₂, rfl, rfl, F', (by repeat (with_reducible first | exact Has.nil | refine Has.consM Hm (by repeat (with_reducible first | exact List.mem_cons_self | apply List.mem_cons_of_mem)) ?_)), N', hs2⟩
                case turn2 =>
                  clear F₄ F₅ G8 H3
                  rintro j2 jt m₂ news₂ h₂ tk₂ I2 oI2 hj2 ⟨z, zt, acc, at', wt2, ha, hz, hz2, hl2, Hm, hs2⟩ hoff2 F' N'
                  have H4 : Has (fun y => if y = Str.ofString "_" then some (Value.int (0 + (j2 : Int) * 1) jt) else m₂ y) [(Str.ofString "out", .str o ot), (Str.ofString "n", .int z zt), (Str.ofString "width", .int W wt2), (Str.ofString "figures", .str acc at')] := Hm.set (by kernel_rfl)
                  generalize (fun y => if y = Str.ofString "_" then some (Value.int (0 + (j2 : Int) * 1) jt) else m₂ y) = M4 at F' H4
                  clear Hm
                  have hj8 : j2 ≤ 8 := by rcases widZ_is c with h | h | h <;> omega
                  obtain ⟨k, hk⟩ : ∃ k, widZ c - j2 = k + 1 := ⟨widZ c - j2 - 1, by omega⟩
                  have hk2 : widZ c - (j2 + 1) = k := by omega
                  rw [hk, hexC] at ha
                  have hf1 := figZ_len
                  have hd0 : 0 ≤ z.fdiv 16 := Int.fdiv_nonneg hz (by decide)
                  have hd1 : z.fdiv 16 ≤ 2000000 := by have := Int.fdiv_eq_ediv_of_nonneg z (b := 16) (by decide); omega
                  have hm0 := Int.fmod_nonneg_of_pos z (b := 16) (by decide)
                  have hm1 := Int.fmod_lt_of_pos z (b := 16) (by decide)
                  have hac : acc.length ≤ 8 := by omega
                  have fin2 : ∀ h3 tk3 M5 t1 t2, Fr base L' h3 M5 → News base L' h3 ((I2, oI2) :: news₂) → Has M5 [(Str.ofString "out", .str o ot), (Str.ofString "n", .int (z.fdiv 16) t1), (Str.ofString "width", .int W wt2), (Str.ofString "figures", .str (Txt.item figZ (z.fmod 16) ++ acc) t2)] → TurnV base L' I2 oI2 (FiJ R o ot W (widZ c) ((I, oI) :: news₁) (j2 + 1)) { s with heap := h₂, toks := tk₂ } (FiE base L' R o ot W ((I, oI) :: news₁) s) .next { s with heap := h3, toks := tk3 } := fun h3 tk3 M5 t1 t2 F3 N3 Hn =>
                    ⟨h3, tk3, M5, news₂, rfl, F3, N3, hoff2, _, _, _, _, _, by rw [hk2]; exact ha, hd0, hd1, by rw [Str.length_append, show (Txt.item figZ (z.fmod 16)).length = 1 from rfl]; omega, Hn, hs2⟩
                  have F₁ := H4.fr F'
                  dsimp only [chainOf] at F₁
                  clear F' hk hk2 ha
                  k_steps
                  obtain ⟨t1, t2, G8⟩ : ∃ t1 t2, Fr base L' _ (fun y => if y = Str.ofString "n" then some (Value.int (z.fdiv 16) t1) else if y = Str.ofString "figures" then some (Value.str (Txt.item figZ (z.fmod 16) ++ acc) t2) else if y = Str.ofString "out" then some (Value.str o ot) else if y = Str.ofString "n" then some (Value.int z zt) else if y = Str.ofString "width" then some (Value.int W wt2) else if y = Str.ofString "figures" then some (Value.str acc at') else M4 y) := ⟨_, _, by assumption⟩
                  exact fin2 _ _ _ t1 t2 G8 (by assumption) (Has.cons (by kernel_rfl) (Has.cons (by kernel_rfl) (Has.cons (by kernel_rfl) (Has.cons (by kernel_rfl) Has.nil))))
              · passes_own
            case cont2 =>
              rintro f s' ⟨t1, t2, tk3, h3, m3, news3, rfl, rfl, F3, H4, N3, hs3⟩
              have N4 : News base L' h3 ((I, oI) :: news₁) := fun q hq => N3 q (hs3 q hq)
              have F₁ := H4.fr F3
              dsimp only [chainOf] at F₁
              clear N3 hs3
              repeat ((fail_if_success (with_reducible show wpAny _ _ (eval (PySem.Expr.Subscript _ _ _) _) _ _ _)); first | (k_unfold; (try dsimp only)) | walk1 | (dsimp only; walk1))
              refine wpAny_mono (Q := EvH base L' m3 ((I, oI) :: news₁) (letZ (widZ c)) s) ?ev2 ?go2 (fun _ _ z => z)
              case ev2 =>
                clear fin hna hR hRl
                have done2 : ∀ y t tk h' nw, y = letZ (widZ c) → Fr base L' h' (chainOf [(Str.ofString "out", .str o ot), (Str.ofString "width", .int W t2), (Str.ofString "figures", .str R t1)] m3) → News base L' h' nw → (∀ q ∈ (I, oI) :: news₁, q ∈ nw) → EvH base L' m3 ((I, oI) :: news₁) (letZ (widZ c)) s (.str y t) { s with heap := h', toks := tk } := fun y t tk h' nw e F N hs => ⟨t, tk, h', nw, by rw [e], rfl, un_chain H4 F, N, hs⟩
                dsimp only [chainOf] at done2
                have hW3 : (W = 2 ∧ Str.ofString "x" = letZ (widZ c)) ∨ (W = 4 ∧ Str.ofString "u" = letZ (widZ c)) ∨ (W = 8 ∧ Str.ofString "U" = letZ (widZ c)) := by
                  rcases widZ_is c with h | h | h <;> rw [h] at hW ⊢
                  · exact .inl ⟨hW, rfl⟩
                  · exact .inr (.inl ⟨hW, rfl⟩)
                  · exact .inr (.inr ⟨hW, rfl⟩)
                clear hW
                generalize letZ (widZ c) = lz at done2 hW3 ⊢
                repeat ((fail_if_success (with_reducible show wpAny _ _ (subscriptTail _ _ _ _) _ _ _)); first | (k_unfold; (try dsimp only)) | walk1 | (dsimp only; walk1))
                refine dict_z (by assumption) List.mem_cons_self ‹Obj.IsDictOf _ _ _› hW3 ?_
                intro tq kq
                exact done2 _ _ _ _ _ rfl (by assumption) (by assumption) (fun q hq => List.mem_cons_of_mem _ hq)
              case go2 =>
                rintro v s' ⟨lt, tk4, h4, nw4, rfl, rfl, F5, N5, hs5⟩
                have N6 : News base L' h4 ((I, oI) :: news₁) := fun q hq => N5 q (hs5 q hq)
                have F₁ := H4.fr F5
                dsimp only [chainOf] at F₁
                clear N5 hs5 F5 N4
                have hlz := letZ_len (widZ c)
                rw [hna] at fin
                generalize letZ (widZ c) = lz at hlz F₁ fin ⊢
                have hbs : (Str.ofString "\\").length = 1 := rfl
                k_steps
                obtain ⟨nt, G8⟩ : ∃ nt, Fr base L' _ (fun y => if y = Str.ofString "out" then some (Value.str (o ++ (Str.ofString "\\" ++ lz ++ R)) nt) else if y = Str.ofString "out" then some (Value.str o ot) else if y = Str.ofString "width" then some (Value.int W t2) else if y = Str.ofString "figures" then some (Value.str R t1) else m3 y) := ⟨_, by assumption⟩
                exact fin _ _ _ _ nt G8 (by assumption) hoff (fun q hq => hq) (Has.cons (by kernel_rfl) Has.nil)
    · passes_own
end Mine
end

section
open PySem PySem.W PySem.Calls PySem.Spec PyProof.Rows
set_option maxRecDepth 100000
set_option maxHeartbeats 2000000
namespace Mine
theorem anew8 : True := by
  w_top off
  exact True.intro
open TI
theorem fillAT6 (P : Params) : hd.heap_1 P = hd.heap_1 P ∧ PySem.Challenge.rw_kq0016_06 = PySem.Challenge.rw_kq0016_06 := by
  k_fill
  exact ⟨rfl, rfl⟩
/-- t.string -/
theorem attr_s {w : World} {loose : List Str} {mean : ExcName → Option Value} {mg mb : Str → Option Value} {A : Around}
    {base : Heap} {L : Addr} {m : Str → Option Value} {s : Shared} {Q E : Value → Shared → Prop} {rest : List (Addr × Obj)}
    {x dx : Addr} {k1 k2 k3 k4 k5 : Tok} {b : Bool} {gv : Value} {D : Str} {dt : Tok} {i : Int} {it : Tok} {nv : Value}
    (F : Fr base L s.heap m) (X : (hd.heap_1 w.params).In base) (N : News base L s.heap ((x, instObj 133 dx) :: (dx, tokD w.params k1 k2 k3 k4 k5 b gv (.str D dt) (.int i it) nv) :: rest)) (T : Top hd.view_39 loose mean mg mb base) (hg : GivenIs b gv D)
    (hQ : ∀ h' tk, Fr base L h' m → News base L h' ((x, instObj 133 dx) :: (dx, tokD w.params k1 k2 k3 k4 k5 b gv (.str D dt) (.int i it) nv) :: rest) → Q gv { s with heap := h', toks := tk }) : wpAny (model PySem.Challenge.rw_kq0016_06.row.prog w) A (getAttr (.ref x) (Str.ofString "string") true) Q E s := by
  rcases hg with ⟨_, t, rfl⟩ | ⟨_, B, t, rfl, _⟩
  · k_steps
    exact hQ _ _ (by assumption) (by assumption)
  · k_steps
    exact hQ _ _ (by assumption) (by assumption)
/-- t.next -/
theorem attr_n {w : World} {loose : List Str} {mean : ExcName → Option Value} {mg mb : Str → Option Value} {A : Around}
    {base : Heap} {L : Addr} {m : Str → Option Value} {s : Shared} {Q E : Value → Shared → Prop} {rest : List (Addr × Obj)}
    {x dx : Addr} {k1 k2 k3 k4 k5 : Tok} {b : Bool} {gv : Value} {D : Str} {dt : Tok} {i : Int} {it : Tok} {nv : Value} {o : Option Str}
    (F : Fr base L s.heap m) (X : (hd.heap_1 w.params).In base) (N : News base L s.heap ((x, instObj 133 dx) :: (dx, tokD w.params k1 k2 k3 k4 k5 b gv (.str D dt) (.int i it) nv) :: rest)) (T : Top hd.view_39 loose mean mg mb base) (hn : NvIs nv o)
    (hQ : ∀ h' tk, Fr base L h' m → News base L h' ((x, instObj 133 dx) :: (dx, tokD w.params k1 k2 k3 k4 k5 b gv (.str D dt) (.int i it) nv) :: rest) → Q nv { s with heap := h', toks := tk }) : wpAny (model PySem.Challenge.rw_kq0016_06.row.prog w) A (getAttr (.ref x) (Str.ofString "next") true) Q E s := by
  cases o with
  | none =>
    obtain rfl : nv = .none := hn
    k_steps
    exact hQ _ _ (by assumption) (by assumption)
  | some y =>
    obtain ⟨t, rfl⟩ := hn
    k_steps
    exact hQ _ _ (by assumption) (by assumption)
end Mine
end

section
open PySem PySem.W PySem.Calls PySem.Spec PyProof.Rows PySem.Builtin PySem.Builtin.Str
set_option maxRecDepth 100000
set_option maxHeartbeats 1000000
namespace Mine
section
variable {M : Model} {A : Around} {E : Value → Shared → Prop} {s : Shared}
open _codecs
/-- a decoder that takes one octet a sign -/
theorem run_dec {d : Decoder} {b : Array UInt8} {f : Nat → Nat} {id : String} {errors : Option Str} {held : List Value} {Q : Array Nat × Nat → Shared → Prop} (hf : ∀ p, p < b.size → d.find true b p = .text [f p] (p + 1)) (hsz : b.size ≤ sizeLine)
    (hq : Q (((List.range b.size).map f).toArray, b.size) s) : wpAny M A (runDecoder id d errors true b 0 held) Q E s := by
  unfold runDecoder
  dsimp only
  rw [KPc.range_list]
  refine wpAny_bind (wpAny_forIn_list _ (fun l (c : Nat × Array Nat × Faults) s' => s' = s ∧ ∃ i, i ≤ b.size ∧ l = List.range' i (b.size - i) ∧ c.1 = i ∧ c.2.1 = ((List.range i).map f).toArray) _ ?_ ?_ _ _ ⟨rfl, 0, Nat.zero_le _, by simp, rfl, by simp⟩)
  · rintro x rest ⟨p, out, st⟩ s' ⟨rfl, i, hi, hl, rfl, hout⟩
    have hlt : p < b.size := by
      rcases Nat.lt_or_ge p b.size with h | h
      · exact h
      · rw [show b.size - p = 0 from by omega] at hl; cases hl
    obtain ⟨k, hk⟩ : ∃ k, b.size - p = k + 1 := ⟨b.size - p - 1, by omega⟩
    rw [hk, List.range'_succ] at hl
    obtain ⟨rfl, rfl⟩ := List.cons.inj hl
    dsimp only at hout ⊢
    subst hout
    rw [if_neg (by simp; omega)]
    rw [if_neg (by omega), hf _ hlt]
    refine wpAny_pure ⟨rfl, x + 1, hlt, by congr 1; omega, rfl, ?_⟩
    simp [List.range_succ]
  · rintro ⟨p, out, st⟩ s' ⟨rfl, i, hi, hl, rfl, hout⟩
    have : p = b.size := by
      rcases Nat.lt_or_ge p b.size with h | h
      · obtain ⟨k, hk⟩ : ∃ k, b.size - p = k + 1 := ⟨b.size - p - 1, by omega⟩
        rw [hk, List.range'_succ] at hl; cases hl
      · exact Nat.le_antisymm hi h
    dsimp only at this hout ⊢
    subst this hout
    exact wpAny_pure hq
theorem range_nums (b : Array UInt8) : (List.range b.size).map (fun p => (b.getD p 0).toNat) = nums b := by
  apply List.ext_getElem
  · simp [nums]
  · intro i h1 h2
    have hi : i < b.size := by simpa using h1
    simp [nums, Array.getD, hi]
end
theorem typeCall_str_2 (a b : Value) : checkTypeCall "str" ⟨[a, b], []⟩ = pure () := by kernel_rfl
theorem newCall_str_2 (a b : Value) : checkBuiltinCall "str.__new__" ⟨[.type "str", a, b], []⟩ = pure () := by kernel_rfl
section
variable {prog : Program} {w : World} {A : Around} {E : Value → Shared → Prop} {s : Shared} {b : Array UInt8} {t t1 : Tok} {D : Str}
theorem str_new_lat {Q : Fin → Shared → Prop} (hb : ∀ (Q : Value → Shared → Prop) (E : Value → Shared → Prop) (s : Shared) t1, (∀ t' k, Q (.str D t') { s with toks := k }) → wpAny (model prog w) A (call (.builtin "bytes.decode") [.bytes b t] [(Str.ofString "encoding", .str (Str.ofString "latin1") t1)]) Q E s)
   (h : ∀ t' k, Q (.done (.ret (.str D t'))) { s with toks := k }) : wpAny (model prog w) A («str.__new__» ⟨[.type "str", .bytes b t, .str (Str.ofString "latin1") t1], []⟩) Q E s := by
  unfold «str.__new__»
  refine wpAny_bind (wpAny_pure ?_)
  refine wpAny_bind (wpAny_of_eq isSubtype_str_str ?_)
  (try dsimp only)
  refine wpAny_bind (wpAny_of_eq (show _ = pure [some (.bytes b t), some (.str (Str.ofString "latin1") t1), none] from by kernel_rfl) ?_)
  (try dsimp only)
  refine wpAny_bind (wpAny_of_eq (show _ = pure (some (Str.ofString "latin1")) from by kernel_rfl) ?_)
  refine wpAny_bind (wpAny_of_eq (show _ = pure none from by kernel_rfl) ?_)
  (try dsimp only)
  rw [if_neg (by decide)]
  refine wpAny_bind ?_
  show wpAny _ _ ((mkStr (Str.ofString "latin1") >>= _) >>= _) _ _ _
  refine wpAny_bind (wpAny_bind (wpAny_mkStr (wpAny_pure ?_) (by decide)))
  refine wpAny_bind (wpAny_pure ?_)
  dsimp only
  refine wpAny_bind (wpAny_isInstance (T := "bytes") (b := true) (typeIs_bytes _ _ _) PySem.F.bm_sub ?_)
  rw [if_pos rfl]
  refine wpAny_bind (wpAny_rule (hb _ _ _ _ fun t' k => ?_))
  rw [if_pos (by decide)]
  exact wpAny_pure (h t' k)
theorem dec_kw {c : UInt8} {cs : List UInt8} : «bytes.decode» ⟨[.bytes (c :: cs).toArray t], [(Str.ofString "encoding", .str (Str.ofString "latin1") t1)]⟩ = (mkStr (Str.ofString "utf-8") >>= fun _ => mkStr (Str.ofString "latin1") >>= fun e => mkStr (Str.ofString "bytes.decode") >>= fun d =>
    call (.builtin "_codecs.decode.text") [.bytes (c :: cs).toArray t, e, .none, d] >>= fun v => ret v) := by kernel_rfl
theorem dec_kw0 : «bytes.decode» ⟨[.bytes ([] : List UInt8).toArray t], [(Str.ofString "encoding", .str (Str.ofString "latin1") t1)]⟩ = (rule "bytes.decode.empty" >>= fun _ => retStr Str.empty) := by kernel_rfl
theorem dec_pos {c : UInt8} {cs : List UInt8} : «bytes.decode» ⟨[.bytes (c :: cs).toArray t, .str (Str.ofString "ascii") t1], []⟩ = (mkStr (Str.ofString "utf-8") >>= fun _ => mkStr (Str.ofString "ascii") >>= fun e => mkStr (Str.ofString "bytes.decode") >>= fun d =>
    call (.builtin "_codecs.decode.text") [.bytes (c :: cs).toArray t, e, .none, d] >>= fun v => ret v) := by kernel_rfl
theorem args_dec_kw {a v : Value} : argsOk "bytes.decode" ⟨[a], [(Str.ofString "encoding", v)]⟩ := by
  unfold argsOk; rw [signature?_of (id := "bytes.decode") (n := ['e', 'd', 'o', 'c', 'e', 'd']) (o := ['s', 'e', 't', 'y', 'b']) (by kernel_rfl) FB.owner_bytes]; kernel_rfl
theorem args_dec_2 {a v : Value} : argsOk "bytes.decode" ⟨[a, v], []⟩ := by
  unfold argsOk; rw [signature?_of (id := "bytes.decode") (n := ['e', 'd', 'o', 'c', 'e', 'd']) (o := ['s', 'e', 't', 'y', 'b']) (by kernel_rfl) FB.owner_bytes]; kernel_rfl
theorem road_lat {id : String} : _codecs.decodeRoad id b (Str.ofString "latin1") none [] = (_codecs.runDecoder id _codecs.latin1Decoder none true b 0 [] >>= fun r => mkStr ⟨r.1⟩) := by kernel_rfl
theorem road_asc {id : String} : _codecs.decodeRoad id b (Str.ofString "ascii") none [] = (_codecs.runDecoder id _codecs.asciiDecoder none true b 0 [] >>= fun r => mkStr ⟨r.1⟩) := by kernel_rfl
theorem meets_lat {t1 t2 : Tok} {d : PySem.Str} (hD : nums b = D.cps.toList) :
    Meets («_codecs.decode.text» ⟨[.bytes b t, .str (Str.ofString "latin1") t1, .none, .str d t2], []⟩) (fun _ R s => D.length ≤ sizeLine ∧ R (.ok (.ret (.str D s.toks))) { s with toks := s.toks + 1 }) := by
  refine .of_wp fun prog w A R s hS => ?_
  obtain ⟨hsz, h⟩ := hS
  have hbs : b.size = D.length := by rw [← nums_len, hD]; simp [Str.length]
  show wpAny _ _ (Bytes.bytesLike _ (.bytes b t) >>= fun r => _) _ _ s
  refine wpAny_bind (wpAny_of_eq KBd.like_eq ?_)
  refine wpAny_bind (wpAny_of_eq KBd.held_eq ?_)
  show wpAny _ _ (_codecs.decodeRoad _ b (PySem.Str.ofString "latin1") none [] >>= fun v => _) _ _ s
  rw [road_lat]
  refine wpAny_bind (wpAny_bind (run_dec (f := fun p => (b.getD p 0).toNat) (fun p _ => rfl) (by rw [hbs]; exact hsz) ?_))
  have e : (⟨((List.range b.size).map fun p => (b.getD p 0).toNat).toArray⟩ : Str) = D := by
    rw [range_nums, hD]
  dsimp only
  rw [e]
  exact wpAny_mkStr (wpAny_pure ⟨_, rfl, h⟩) hsz
theorem meets_asc {t1 t2 : Tok} {d : PySem.Str} (hD : nums b = D.cps.toList) (ha : ∀ c ∈ nums b, c < 128) :
    Meets («_codecs.decode.text» ⟨[.bytes b t, .str (Str.ofString "ascii") t1, .none, .str d t2], []⟩) (fun _ R s => D.length ≤ sizeLine ∧ R (.ok (.ret (.str D s.toks))) { s with toks := s.toks + 1 }) := by
  refine .of_wp fun prog w A R s hS => ?_
  obtain ⟨hsz, h⟩ := hS
  have hbs : b.size = D.length := by rw [← nums_len, hD]; simp [Str.length]
  show wpAny _ _ (Bytes.bytesLike _ (.bytes b t) >>= fun r => _) _ _ s
  refine wpAny_bind (wpAny_of_eq KBd.like_eq ?_)
  refine wpAny_bind (wpAny_of_eq KBd.held_eq ?_)
  show wpAny _ _ (_codecs.decodeRoad _ b (PySem.Str.ofString "ascii") none [] >>= fun v => _) _ _ s
  rw [road_asc]
  refine wpAny_bind (wpAny_bind (run_dec (f := fun p => (b.getD p 0).toNat) (fun p hp => ?_) (by rw [hbs]; exact hsz) ?_))
  · have : (b.getD p 0).toNat < 128 := by
      refine ha _ ?_
      rw [← range_nums]
      exact List.mem_map.mpr ⟨p, List.mem_range.mpr hp, rfl⟩
    show (if (b.getD p 0).toNat < 128 then _ else _) = _
    rw [if_pos this]; rfl
  have e : (⟨((List.range b.size).map fun p => (b.getD p 0).toNat).toArray⟩ : Str) = D := by
    rw [range_nums, hD]
  dsimp only
  rw [e]
  exact wpAny_mkStr (wpAny_pure ⟨_, rfl, h⟩) hsz
theorem decode_lat (hD : nums b = D.cps.toList) (hsz : D.length ≤ 16777216) {Q : Value → Shared → Prop} (h : ∀ t' k, Q (.str D t') { s with toks := k }) :
    wpAny (model prog w) A (call (.builtin "bytes.decode") [.bytes b t] [(Str.ofString "encoding", .str (Str.ofString "latin1") t1)]) Q E s := by
  refine wpAny_call_entry_kw FB.slot_bytes_decode (typeIs_bytes _ _ _) FB.entry_bytes_decode ?_ args_dec_kw
  obtain ⟨l⟩ := b
  cases l with
  | nil =>
    have e : D = Str.empty := by
      apply Str.ext'
      have : D.cps.toList = [] := hD.symm
      show D.cps = #[]
      exact Array.toList_inj.mp this
    show wpAny _ _ («bytes.decode» ⟨[.bytes ([] : List UInt8).toArray t], _⟩) _ _ _
    rw [dec_kw0]
    subst e
    exact wpAny_bind (wpAny_rule (wpAny_bind (wpAny_mkStr (wpAny_pure ⟨_, rfl, h _ _⟩) (by decide))))
  | cons c cs =>
    show wpAny _ _ («bytes.decode» ⟨[.bytes (c :: cs).toArray t], _⟩) _ _ _
    rw [dec_kw]
    refine wpAny_bind (wpAny_mkStr ?_ (by decide))
    refine wpAny_bind (wpAny_mkStr ?_ (by decide))
    refine wpAny_bind (wpAny_mkStr ?_ (by decide))
    exact wpAny_bind (call_function_meets KBd.kind_text KBd.plain_text KBd.entry_text (KBd.args_text _ _ _ _) (meets_lat hD) ⟨by rw [sizeLine_eq]; exact hsz, wpAny_pure ⟨_, rfl, h _ _⟩⟩)
end
/-- «str(b, 'latin1')»: the text of the octets' numbers -/
theorem lat_to {b : Array UInt8} {D : Str} (hD : nums b = D.cps.toList) (hsz : D.length ≤ 16777216) : LatTo b D := by
  intro prog w A E s Q t t1 h
  refine callType_codes (T := "str") (Bi := Builtin.«object.__init__») (Q₁ := fun r s₁ => ∃ u, r = .str D u ∧ Q r s₁) PySem.F.called_str (typeCall_str_2 _ _) PySem.F.entry_object_init ?_ ?_
  · refine codeAny_of_tree ?_
    show wpAny _ A.in1.in1 (do checkBuiltinCall "str.__new__" ⟨[.type "str", .bytes b t, .str (Str.ofString "latin1") t1], []⟩; again (.builtin "str.__new__" ⟨[.type "str", .bytes b t, .str (Str.ofString "latin1") t1], []⟩)) _ _ s
    refine wpAny_bind (wpAny_of_eq (newCall_str_2 _ _) (wpAny_pure ⟨plainId_quiet (by decide +kernel) _, codeAny_builtin PySem.F.entry_str_new ?_⟩))
    rw [Around.under_plainId (by decide +kernel) _]
    exact str_new_lat (fun Q E s t1 hq => decode_lat hD hsz hq) fun t' k => ⟨_, rfl, h t' k⟩
  · rintro obj s₁ ⟨u, rfl, hq⟩
    exact ⟨typeIs_str _ _ _, PySem.F.args_object_init_3 _ _ _, object_init_meets PySem.F.called_str.init.lookup PySem.F.called_str.made (by decide) prog w A.in1 _ s₁ ⟨typeIs_str _ _ _, rfl, hq⟩⟩
/-- «bs.decode('ascii')» -/
theorem dec_to {b : Array UInt8} {D : Str} (hD : nums b = D.cps.toList) (ha : ∀ c ∈ nums b, c < 128) (hn : 0 < b.size) (hsz : D.length ≤ 16777216) : DecTo b D := by
  intro prog w A E s Q t t1 h
  refine wpAny_call_entry FB.slot_bytes_decode (typeIs_bytes _ _ _) FB.entry_bytes_decode ?_ args_dec_2
  obtain ⟨l⟩ := b
  cases l with
  | nil => exact absurd hn (by decide)
  | cons c cs =>
    show wpAny _ _ («bytes.decode» ⟨[.bytes (c :: cs).toArray t, _], _⟩) _ _ _
    rw [dec_pos]
    refine wpAny_bind (wpAny_mkStr ?_ (by decide))
    refine wpAny_bind (wpAny_mkStr ?_ (by decide))
    refine wpAny_bind (wpAny_mkStr ?_ (by decide))
    exact wpAny_bind (call_function_meets KBd.kind_text KBd.plain_text KBd.entry_text (KBd.args_text _ _ _ _) (meets_asc hD ha) ⟨by rw [sizeLine_eq]; exact hsz, wpAny_pure ⟨_, rfl, h _ _⟩⟩)
theorem enc_entry {m : Str} {t t1 t2 : Tok} : «str.encode» ⟨[.str m t, .str (Str.ofString "ascii") t1, .str (Str.ofString "backslashreplace") t2], []⟩ = ((_codecs.encodeNarrow "str.encode" _codecs.asciiCodec (some (Str.ofString "backslashreplace")) (.str m t) m >>= fun b => mkBytes b) >>= fun v => ret v) := by kernel_rfl
/-- the octets of a text of signs below 128 -/
def ascB (t : String) : Array UInt8 := (t.toList.map fun c => c.toNat.toUInt8).toArray
/-- what the encoder makes of m: with or without a note of a fault -/
def EncN (m : Str) (bs : Array UInt8) : Prop := ∀ v, _codecs.encodeNarrow "str.encode" _codecs.asciiCodec (some (Str.ofString "backslashreplace")) v m = pure bs ∨ _codecs.encodeNarrow "str.encode" _codecs.asciiCodec (some (Str.ofString "backslashreplace")) v m = (rule "str.encode.fault.backslashreplace" >>= fun _ => pure bs)
theorem enc_to {m : Str} {bs : Array UInt8} (he : EncN m bs) (hz : bs.size ≤ 16777216) : EncTo m bs := by
  intro prog w A E s Q t t1 t2 h
  refine wpAny_call_entry F.slot_str_encode (typeIs_str _ _ _) F.entry_str_encode ?_ (F.args_str_encode_3 _ _ _)
  rw [enc_entry]
  have fin : ∀ s' : Shared, s' = s → wpAny (model prog w) A.in1 (mkBytes bs) (fun v s₁ => wpAny (model prog w) A.in1 (ret v) (fun fin s' => ∃ v, fin = .done (.ret v) ∧ Q v s') E s₁) E s' := by
    rintro s' rfl
    refine wpAny_mkBytes (wpAny_pure ⟨_, rfl, h _ _⟩) (by rw [sizeLine_eq]; exact hz)
  rcases he (.str m t) with e | e
  · rw [e]
    exact wpAny_bind (wpAny_bind (wpAny_pure (fin _ rfl)))
  · rw [e]
    exact wpAny_bind (wpAny_bind (wpAny_bind (wpAny_rule (wpAny_pure (fin _ rfl)))))
/-- encoded and decoded again: words below 128 -/
theorem recode {m m' : Str} {t : String} (he : EncN m (ascB t)) (h1 : nums (ascB t) = m'.cps.toList) (h2 : ∀ c ∈ nums (ascB t), c < 128) (h3 : 0 < (ascB t).size) (h4 : m'.length ≤ 10000) : ∃ bs, EncTo m bs ∧ DecTo bs m' := by
  have hz : (ascB t).size = m'.length := by rw [← nums_len, h1]; simp [Str.length]
  exact ⟨_, enc_to he (by omega), dec_to h1 h2 h3 (by omega)⟩
end Mine
end

section
open PySem PySem.W PySem.Calls PySem.Spec PyProof.Rows
set_option maxRecDepth 100000
set_option maxHeartbeats 2000000
namespace Mine
theorem anew9 : True := by
  w_top off
  exact True.intro
open TI
theorem fillTG6 (P : Params) : hd.heap_1 P = hd.heap_1 P ∧ PySem.Challenge.rw_kq0016_06 = PySem.Challenge.rw_kq0016_06 := by
  k_fill
  exact ⟨rfl, rfl⟩
/-- what a deed gives -/
inductive GotV
  | opt (o : Option Str) | tt | no | txt (r : Str)
def GotV.Is : GotV → Value → Prop
  | .opt o, v => NvIs v o
  | .tt, v => v = .bool true
  | .no, v => v = .none
  | .txt r, v => ∃ t, v = .str r t
inductive Got
  | val (k : Str) (v : GotV) (i : Int) (o : Option Str) | told (k msg : Str) (pos : Int) (i : Int) (o : Option Str)
def Got.i : Got → Int
  | .val _ _ i _ => i
  | .told _ _ _ i _ => i
def Got.o : Got → Option Str
  | .val _ _ _ o => o
  | .told _ _ _ _ o => o
def badZ : Str := Str.ofString "bad escape (end of pattern)"
def msgZ : Str := Str.ofString "é not €😀"
def narB (b : Bool) (m : Str) : Str := if b then m else narL m.cps.toList
def setZ (ya : Str) (num : Int) : Str → Bool := fun k' => false || decide (k' = ya) || decide (k' = { cps := #[((num.fdiv 4).fmod 256).toNat] })
def olen (o : Option Str) : Int := match o with | none => 0 | some y => y.length
def Got.of (k : Str) (v : GotV) (r : Option (Int × Option Str)) (D : Str) (i : Int) (o : Option Str) : Got := match r with
  | none => .told (Str.ofString "refused") badZ ((D.length : Int) - 1) i o
  | some p => .val k v p.1 p.2
def gotZ (D : Str) (i : Int) (o : Option Str) (dn num : Int) : Got :=
  if dn = 0 then .of (Str.ofString "get") (.opt o) (stepZ D i) D i o
  else if dn = 1 then .of (Str.ofString "match") .tt (stepZ D i) D i o
  else if dn = 2 then .of (Str.ofString "seek") .no (stepZ D (num.fmod (2 * (D.length : Int) + 3) - D.length - 1)) D (num.fmod (2 * (D.length : Int) + 3) - D.length - 1) o
  else if dn = 3 then (match gwZ D (setZ (o.getD (Str.ofString "a")) num) (num.fmod 4).toNat i o (Str.ofString "") with
    | .done r i' o' => .val (Str.ofString "getwhile") (.txt r) i' o'
    | .bad i' o' => .told (Str.ofString "refused") badZ ((D.length : Int) - 1) i' o')
  else .told (Str.ofString "error") (Txt.slice msgZ (some (num.fmod 8)) none) (i - olen o - ((num.fdiv 8).fmod 7 - 3)) i o
/-- the list that is given back -/
def GotIs (b : Bool) (gv : Value) (D : Str) : Got → Obj → Prop
  | .val k v _ _, ob => ∃ t u, v.Is u ∧ ob = W.listOf (List.toArray [.str k t, u]) 0
  | .told k msg pos _ _, ob => ∃ t tm tp tl tc tw, ob = W.listOf (List.toArray (.str k t :: toldL (narB b msg) gv pos (lineZ D.cps.toList pos) (colZ D.cps.toList pos) (wordsZ (narB b msg) D.cps.toList pos) tm tp tl tc tw)) 0
inductive GBad (Pm : Params) (base : Heap) (L' : Addr) (M : Str → Option Value) (l : List Env) (new frs : List (Addr × Obj)) (x dx : Addr) (k1 k2 k3 k4 k5 : Tok) (b : Bool) (gv : Value) (D : Str) (dt : Tok) (out : Got) (s : Shared) (e' : Value) (s' : Shared) : Prop
  | mk (i : Int) (o : Option Str) (it : Tok) (nv : Value) (hout : out = .told (Str.ofString "refused") badZ ((D.length : Int) - 1) i o) (hnv : NvIs nv o) (h' : Heap) (frs' : List (Addr × Obj)) (tk : Nat) (e d t T : Addr) (oT oe : Obj) (o2 : List (Addr × Obj)) (c2 : Value) (he : e' = .ref e) (hs : s' = { s with heap := h', toks := tk }) (SU : SameUp frs frs') (Fs : Frs l frs') (F : Fr base L' h' M)
      (N : News base L' h' ((T, oT) :: (e, oe) :: ((o2 ++ ((x, instObj 133 dx) :: (dx, tokD Pm k1 k2 k3 k4 k5 b gv (.str D dt) (.int i it) nv) :: new)) ++ frs'))) (p2 : IsPe2 Pm badZ gv D.cps.toList ((D.length : Int) - 1) d t o2) (XA : ExcAt oe oT (.ref 41) (some d) (.ref t) c2 T .none)
      (l1 : ∀ q ∈ (o2 ++ ((x, instObj 133 dx) :: (dx, tokD Pm k1 k2 k3 k4 k5 b gv (.str D dt) (.int i it) nv) :: new)) ++ frs', q.1 ≠ e ∧ q.1 ≠ T) (l2 : T ≠ e) (l3 : ∀ q ∈ o2, q.1 = d ∨ q.1 = t) (l4 : ∀ q ∈ ((x, instObj 133 dx) :: (dx, tokD Pm k1 k2 k3 k4 k5 b gv (.str D dt) (.int i it) nv) :: new) ++ frs', q.1 ≠ d ∧ q.1 ≠ t)
theorem GBad.of {Pm : Params} {base : Heap} {L' : Addr} {M : Str → Option Value} {l : List Env} {new frs : List (Addr × Obj)} {x dx : Addr} {k1 k2 k3 k4 k5 : Tok} {b : Bool} {gv : Value} {D : Str} {dt : Tok} {out : Got} {s : Shared} {h₁ : Heap} {t₁ : Nat} {i : Int} {o : Option Str} {it : Tok} {nv : Value} (hout : out = .told (Str.ofString "refused") badZ ((D.length : Int) - 1) i o) (hnv : NvIs nv o) :
    RaisedE Pm base L' M l ((x, instObj 133 dx) :: (dx, tokD Pm k1 k2 k3 k4 k5 b gv (.str D dt) (.int i it) nv) :: new) frs (Str.ofString "bad escape (end of pattern)") gv D.cps.toList ((D.length : Int) - 1) (GBad Pm base L' M l new frs x dx k1 k2 k3 k4 k5 b gv D dt out s) { s with heap := h₁, toks := t₁ } :=
  fun h' frs' tk e d t T oT oe o2 c2 SU Fs F N p2 XA l1 l2 l3 l4 => ⟨i, o, it, nv, hout, hnv, h', frs', tk, e, d, t, T, oT, oe, o2, c2, rfl, rfl, SU, Fs, F, N, p2, XA, l1, l2, l3, l4⟩
/-- an expression's two ways joined: a text is found, the ledger as it was -/
inductive EvJ (base : Heap) (L : Addr) (m : Str → Option Value) (news : List (Addr × Obj)) (y : Str) (s : Shared) (x : Value) (s' : Shared) : Prop
  | mk (t : Tok) (tk : Nat) (h' : Heap) (h : x = .str y t) (e : s' = { s with heap := h', toks := tk }) (hF : Fr base L h' m) (hN : News base L h' news)
theorem join_ev {M : Model} {A : Around} {E : Value → Shared → Prop} {s : Shared} {c : Sem Value} {Q : Value → Shared → Prop} {base : Heap} {L : Addr} {m : Str → Option Value} {news : List (Addr × Obj)} (y : Str) (F : Fr base L s.heap m) (N : News base L s.heap news) (h1 : wpAny M A c (EvJ base L m news y s) E s)
    (h2 : ∀ t tk h', Fr base L h' m → News base L h' news → Q (.str y t) { s with heap := h', toks := tk }) : wpAny M A c Q E s :=
  wpAny_mono h1 (fun _ _ ⟨t, tk, h', a, b, c, d⟩ => by subst a; subst b; exact h2 t tk h' c d) (fun _ _ z => z)
theorem mem_cab {α : Type} {a b c q : α} {r : List α} (h : q ∈ a :: b :: c :: r) : q ∈ c :: a :: b :: r := by
  simp only [List.mem_cons] at h ⊢
  rcases h with h | h | h | h
  · exact .inr (.inl h)
  · exact .inr (.inr (.inl h))
  · exact .inl h
  · exact .inr (.inr (.inr h))
theorem mem_g1 {α : Type} {a r e d t x y l q : α} {R : List α} (h : q ∈ a :: x :: y :: R) : q ∈ a :: r :: e :: d :: t :: x :: y :: l :: R := by
  simp only [List.mem_cons] at h ⊢
  rcases h with h | h | h | h
  · exact .inl h
  · exact .inr (.inr (.inr (.inr (.inr (.inl h)))))
  · exact .inr (.inr (.inr (.inr (.inr (.inr (.inl h))))))
  · exact .inr (.inr (.inr (.inr (.inr (.inr (.inr (.inr h)))))))
theorem mem_g2 {α : Type} {a r l T e d t x y q : α} {R : List α} (h : q ∈ a :: x :: y :: R) : q ∈ a :: r :: l :: T :: e :: d :: t :: x :: y :: R := by
  simp only [List.mem_cons] at h ⊢
  rcases h with h | h | h | h
  · exact .inl h
  · exact .inr (.inr (.inr (.inr (.inr (.inr (.inr (.inl h)))))))
  · exact .inr (.inr (.inr (.inr (.inr (.inr (.inr (.inr (.inl h))))))))
  · exact .inr (.inr (.inr (.inr (.inr (.inr (.inr (.inr (.inr h))))))))
theorem nlen_z {nv : Value} {o : Option Str} (h : NvIs nv o) : nlen nv = olen o := by
  cases o with
  | none => rw [show nv = .none from h]; rfl
  | some y => obtain ⟨t, rfl⟩ := h; rfl
theorem olen_z {o : Option Str} (h : OkO o) : 0 ≤ olen o ∧ olen o ≤ 2 := by
  cases o with
  | none => exact ⟨Int.le_refl _, by decide⟩
  | some y => have := h y rfl; show 0 ≤ (y.length : Int) ∧ (y.length : Int) ≤ 2; omega
theorem nextOk_z {nv : Value} {o : Option Str} (h : NvIs nv o) (k : OkO o) : NextOk nv := by
  cases o with
  | none => rw [show nv = .none from h]; trivial
  | some y => obtain ⟨t, rfl⟩ := h; have := k y rfl; exact this
theorem narB_bad (b : Bool) : narB b badZ = badZ := by cases b <;> decide +kernel
theorem enc_to2 {m : Str} {bs : Array UInt8} (he : ∀ v, Builtin._codecs.encodeNarrow "str.encode" Builtin._codecs.asciiCodec (some (Str.ofString "backslashreplace")) v m = (rule "str.encode.fault.backslashreplace" >>= fun _ => rule "str.encode.fault.backslashreplace" >>= fun _ => pure bs)) (hz : bs.size ≤ 16777216) : EncTo m bs := by
  intro prog w A E s Q t t1 t2 h
  refine wpAny_call_entry PySem.F.slot_str_encode (typeIs_str _ _ _) PySem.F.entry_str_encode ?_ (PySem.F.args_str_encode_3 _ _ _)
  rw [enc_entry, he (.str m t)]
  refine wpAny_bind (wpAny_bind (wpAny_bind (wpAny_rule (wpAny_bind (wpAny_rule (wpAny_pure ?_))))))
  exact wpAny_mkBytes (wpAny_pure ⟨_, rfl, h _ _⟩) (by rw [sizeLine_eq]; exact hz)
theorem words_cut0 : ∃ bs, EncTo (Txt.slice msgZ (some 0) none) bs ∧ DecTo bs (narB false (Txt.slice msgZ (some 0) none)) := ⟨_, enc_to2 (bs := ascB "\\xe9 not \\u20ac\\U0001f600") (fun _ => by kernel_rfl) (by decide +kernel), dec_to (by decide +kernel) (by decide +kernel) (by decide +kernel) (by decide +kernel)⟩
theorem words_cut1 : ∃ bs, EncTo (Txt.slice msgZ (some 1) none) bs ∧ DecTo bs (narB false (Txt.slice msgZ (some 1) none)) := recode (t := " not \\u20ac\\U0001f600") (fun _ => .inr (by kernel_rfl)) (by decide +kernel) (by decide +kernel) (by decide +kernel) (by decide +kernel)
theorem words_cut2 : ∃ bs, EncTo (Txt.slice msgZ (some 2) none) bs ∧ DecTo bs (narB false (Txt.slice msgZ (some 2) none)) := recode (t := "not \\u20ac\\U0001f600") (fun _ => .inr (by kernel_rfl)) (by decide +kernel) (by decide +kernel) (by decide +kernel) (by decide +kernel)
theorem words_cut3 : ∃ bs, EncTo (Txt.slice msgZ (some 3) none) bs ∧ DecTo bs (narB false (Txt.slice msgZ (some 3) none)) := recode (t := "ot \\u20ac\\U0001f600") (fun _ => .inr (by kernel_rfl)) (by decide +kernel) (by decide +kernel) (by decide +kernel) (by decide +kernel)
theorem words_cut4 : ∃ bs, EncTo (Txt.slice msgZ (some 4) none) bs ∧ DecTo bs (narB false (Txt.slice msgZ (some 4) none)) := recode (t := "t \\u20ac\\U0001f600") (fun _ => .inr (by kernel_rfl)) (by decide +kernel) (by decide +kernel) (by decide +kernel) (by decide +kernel)
theorem words_cut5 : ∃ bs, EncTo (Txt.slice msgZ (some 5) none) bs ∧ DecTo bs (narB false (Txt.slice msgZ (some 5) none)) := recode (t := " \\u20ac\\U0001f600") (fun _ => .inr (by kernel_rfl)) (by decide +kernel) (by decide +kernel) (by decide +kernel) (by decide +kernel)
theorem words_cut6 : ∃ bs, EncTo (Txt.slice msgZ (some 6) none) bs ∧ DecTo bs (narB false (Txt.slice msgZ (some 6) none)) := recode (t := "\\u20ac\\U0001f600") (fun _ => .inr (by kernel_rfl)) (by decide +kernel) (by decide +kernel) (by decide +kernel) (by decide +kernel)
theorem words_cut7 : ∃ bs, EncTo (Txt.slice msgZ (some 7) none) bs ∧ DecTo bs (narB false (Txt.slice msgZ (some 7) none)) := recode (t := "\\U0001f600") (fun _ => .inr (by kernel_rfl)) (by decide +kernel) (by decide +kernel) (by decide +kernel) (by decide +kernel)
theorem words_cut (b : Bool) {k : Int} (h0 : 0 ≤ k) (h1 : k < 8) : WordsTo b (Txt.slice msgZ (some k) none) (narB b (Txt.slice msgZ (some k) none)) ∧ (narB b (Txt.slice msgZ (some k) none)).length ≤ 100 := by
  have h : k = 0 ∨ k = 1 ∨ k = 2 ∨ k = 3 ∨ k = 4 ∨ k = 5 ∨ k = 6 ∨ k = 7 := by omega
  rcases h with rfl | rfl | rfl | rfl | rfl | rfl | rfl | rfl <;> cases b
  · exact ⟨.inr ⟨rfl, words_cut0⟩, by decide +kernel⟩
  · exact ⟨.inl ⟨rfl, rfl⟩, by decide +kernel⟩
  · exact ⟨.inr ⟨rfl, words_cut1⟩, by decide +kernel⟩
  · exact ⟨.inl ⟨rfl, rfl⟩, by decide +kernel⟩
  · exact ⟨.inr ⟨rfl, words_cut2⟩, by decide +kernel⟩
  · exact ⟨.inl ⟨rfl, rfl⟩, by decide +kernel⟩
  · exact ⟨.inr ⟨rfl, words_cut3⟩, by decide +kernel⟩
  · exact ⟨.inl ⟨rfl, rfl⟩, by decide +kernel⟩
  · exact ⟨.inr ⟨rfl, words_cut4⟩, by decide +kernel⟩
  · exact ⟨.inl ⟨rfl, rfl⟩, by decide +kernel⟩
  · exact ⟨.inr ⟨rfl, words_cut5⟩, by decide +kernel⟩
  · exact ⟨.inl ⟨rfl, rfl⟩, by decide +kernel⟩
  · exact ⟨.inr ⟨rfl, words_cut6⟩, by decide +kernel⟩
  · exact ⟨.inl ⟨rfl, rfl⟩, by decide +kernel⟩
  · exact ⟨.inr ⟨rfl, words_cut7⟩, by decide +kernel⟩
  · exact ⟨.inl ⟨rfl, rfl⟩, by decide +kernel⟩
local macro_rules | `(tactic| walk_at "bind") => `(tactic| (k_here; (with_reducible show wpAny _ _ (do bindName (envOfC _ _ _ _ _) _ Value.none; unbindBehindTheSuite (envOfC _ _ _ _ _) _ _) _ _ _); k_dflt (refine' name_goes_V ?k ?F ?N ?_; (case k => rfl); (case F => k_asm); (case N => k_asm)); intro _ _ _ _))
local macro_rules | `(tactic| walk_at "getAttr ref") => `(tactic| (k_here; (with_reducible show wpAny _ _ (getAttr (Value.ref _) (Str.ofString "string") _) _ _ _); k_dflt (refine' attr_s ?_ ?_ ?_ ?_ ?_ ?_; (all_goals (try walk_at "z1")); (all_goals (try walk_at "z2"))); intro h' tk' F' N'; (try k_sweep)))
local macro_rules | `(tactic| walk_at "truthy str") => `(tactic| (refine truthyR (by with_reducible assumption) (by omega) ?_; intro k'))
local macro_rules | `(tactic| walk_at "call ref") => `(tactic| (k_here; (with_reducible show wpAny _ _ (call (Value.ref 144) _) _ _ _); k_dflt (refine' told_c ?_ ?_ ?_ ?_ ?_ ?u ?h1 ?h2 ?h3 ?_ ?_ ?_; (all_goals (try walk_at "z1")); (case u => ((try simp only [units_in1, units_deeper, Around.mark_units]); omega)); (case h1 => walk_at "z3"); (case h2 => walk_at "z3"); (case h3 => walk_at "z3"); (all_goals (try walk_at "z2"))); intro h' tk' R' F' N' l1))
/-- _law_got(t, deed, thing, number) -/
theorem got_c {w : World} {loose : List Str} {mean : ExcName → Option Value} {mg mb : Str → Option Value} {A : Around} {l : List Env} {ce : Env}
    {base : Heap} {L : Addr} {m : Str → Option Value} {s : Shared} {Q E : Value → Shared → Prop} {new frs : List (Addr × Obj)}
    {x dx : Addr} {k1 k2 k3 k4 k5 : Tok} {b : Bool} {gv : Value} {D : Str} {dt : Tok} {i : Int} {it : Tok} {nv : Value} {o : Option Str} {dn num : Int} {dt0 nt : Tok} {cv : Value}
    (F : Fr base L s.heap m) (X : (hd.heap_1 w.params).In base) (N : News base L s.heap ((x, instObj 133 dx) :: (dx, tokD w.params k1 k2 k3 k4 k5 b gv (.str D dt) (.int i it) nv) :: (new ++ frs))) (T : Top hd.view_39 loose mean mg mb base)
    (Fs : Frs l frs) (hcs : EvAt ce L) (hdx : ∀ q ∈ new ++ frs, q.1 ≠ dx) (hxf : ∀ q ∈ frs, q.1 ≠ x) (hap : ∀ q ∈ new, q.1 ∉ frs.map (·.1)) (hA : A.frames = some (ce :: l)) (hh : A.handled = none) (hd' : A.depth + 40 < recursionLimit)
    (hD : D.length ≤ 2000) (hD1 : 1 ≤ D.length) (hb : Bz D i) (hg : GivenIs b gv D) (hu : A.units + 100 < cLine) (hnv : NvIs nv o) (hok : OkO o) (hcv : NvIs cv o) (hn0 : 0 ≤ dn) (hn4 : dn ≤ 4)
    (hQ : ∀ out, gotZ D i o dn num = out → ∀ h' frs' tk it' nv' R ob, NvIs nv' out.o → GotIs b gv D out ob → SameUp frs frs' → Frs l frs' → Fr base L h' m → News base L h' ((x, instObj 133 dx) :: (dx, tokD w.params k1 k2 k3 k4 k5 b gv (.str D dt) (.int out.i it') nv') :: (((R, ob) :: new) ++ frs')) → (∀ q ∈ (x, instObj 133 dx) :: (dx, tokD w.params k1 k2 k3 k4 k5 b gv (.str D dt) (.int out.i it') nv') :: (new ++ frs'), q.1 ≠ R) → Q (.ref R) { s with heap := h', toks := tk }) :
    wpAny (model PySem.Challenge.rw_kq0016_06.row.prog w) A (call (.ref 158) [.ref x, .int dn dt0, cv, .int num nt]) Q E s := by
  refine wpAny_call (enterV (ev := ce) F X N T Fs rfl (by kernel_rfl) (by omega) (BindsTo.of_eq rfl) (locs rfl) (fun oL L' h₁ Cl Fs₁ F₁ N₁ hne hltL => ?_) hcs rfl rfl rfl (by decide))
  have N₂ : News base L' h₁ ((x, instObj 133 dx) :: (dx, tokD w.params k1 k2 k3 k4 k5 b gv (.str D dt) (.int i it) nv) :: (new ++ ((L, { oL with slots := oL.slots }) :: frs))) := fun q hq => N₁ q (mem_i1 hq)
  have hLd : L ≠ dx := Ne.symm (hne (dx, _) (List.mem_cons_of_mem _ List.mem_cons_self))
  have hLx : L ≠ x := Ne.symm (hne (x, instObj 133 dx) List.mem_cons_self)
  have hnL : ∀ q ∈ new ++ frs, q.1 ≠ L := fun q hq => hne q (List.mem_cons_of_mem _ (List.mem_cons_of_mem _ hq))
  obtain ⟨hdx', hxf', hap'⟩ := ff (oL := { oL with slots := oL.slots }) hdx hxf hap hLd hLx hnL (SameUp.refl frs)
  have Fs₂ : Frs (ce :: l) ((L, { oL with slots := oL.slots }) :: frs) := Fs₁
  have hi0 : -3000 ≤ i ∧ i ≤ 3000 := by unfold Bz at hb; omega
  obtain ⟨hi1, hi2⟩ := hi0
  clear N₁ Fs₁
  have SU0 := SameUp.refl frs
  generalize (s.toks + List.length _) = u0
  obtain ⟨M0, H0, F₀⟩ : ∃ M0, Has M0 [(Str.ofString "t", .ref x), (Str.ofString "deed", .int dn dt0), (Str.ofString "thing", cv), (Str.ofString "number", .int num nt)] ∧ Fr base L' h₁ M0 := ⟨_, Has.cons (by kernel_rfl) (Has.cons (by kernel_rfl) (Has.cons (by kernel_rfl) (Has.cons (by kernel_rfl) Has.nil))), F₁⟩
  clear F₁
  have F₁ := H0.fr F₀
  dsimp only [chainOf] at F₁
  clear F N
  obtain ⟨out, hout⟩ : ∃ out, gotZ D i o dn num = out := ⟨_, rfl⟩
  have fin := hQ out hout
  clear hQ
  have fin3 : ∀ {h' sl qs tk it' nv' R ob m'}, SameUp frs qs → Frs (ce :: l) ((L, { oL with slots := sl }) :: qs) → Fr base L' h' m' → News base L' h' ((R, ob) :: (x, instObj 133 dx) :: (dx, tokD w.params k1 k2 k3 k4 k5 b gv (.str D dt) (.int out.i it') nv') :: (new ++ ((L, { oL with slots := sl }) :: qs))) → (∀ q ∈ (x, instObj 133 dx) :: (dx, tokD w.params k1 k2 k3 k4 k5 b gv (.str D dt) (.int out.i it') nv') :: (new ++ ((L, { oL with slots := sl }) :: qs)), q.1 < R) → NvIs nv' out.o → GotIs b gv D out ob → Q (.ref R) { s with heap := h', toks := tk } := by
    intro h' sl qs tk it' nv' R ob m' SU Fs9 F9 N9 lt hn9 hG
    have hRL : L ≠ R := Nat.ne_of_lt (lt (L, _) (List.mem_cons_of_mem _ (List.mem_cons_of_mem _ (List.mem_append_right _ List.mem_cons_self))))
    obtain ⟨r1, r2⟩ := fin2 (new := (R, ob) :: new) (frs := qs) Cl F9 (fun q hq => N9 q (mem_it hq)) hLx hLd (fun q hq => by
      rcases List.mem_cons.mp hq with rfl | hq
      · exact hRL.symm
      · exact up_ne hnL SU q hq)
    exact fin h' qs tk it' nv' R ob hn9 hG SU Fs9.2.2.2 r1 r2 (fun q hq => Nat.ne_of_lt (lt q (by
      rcases List.mem_cons.mp hq with rfl | hq
      · exact List.mem_cons_self
      rcases List.mem_cons.mp hq with rfl | hq
      · exact List.mem_cons_of_mem _ List.mem_cons_self
      rcases List.mem_append.mp hq with hq | hq
      · exact List.mem_cons_of_mem _ (List.mem_cons_of_mem _ (List.mem_append_left _ hq))
      · exact List.mem_cons_of_mem _ (List.mem_cons_of_mem _ (List.mem_append_right _ (List.mem_cons_of_mem _ hq))))))
  clear fin
  repeat ((fail_if_success (with_reducible show wpAny _ _ (exec (Stmt.Try _ _ _ _ _) _) _ _ _)); first | (k_unfold; (try dsimp only)) | walk1 | (dsimp only; walk1))
  refine wpAny_Try_except ?_
  refine wpAny_mono (E := GBad w.params base L' (chainOf [(Str.ofString "t", .ref x), (Str.ofString "deed", .int dn dt0), (Str.ofString "thing", cv), (Str.ofString "number", .int num nt)] M0) (ce :: l) new ((L, { oL with slots := oL.slots }) :: frs) x dx k1 k2 k3 k4 k5 b gv D dt out s) ?body (fun _ _ z => z) ?bad
  case bad =>
    rintro e' s' ⟨i1, o1, it1, nv1, hout1, hnv1, h', frs', tk, e, d, t, Tb, oT, oe, o2, c2, rfl, rfl, SU, Fs', F', N', p2, XA, l1, l2, l3, l4⟩
    obtain ⟨sl2, qs, rfl, SU2⟩ := sameUp_cons SU
    have hmap := sameUp_map SU
    have hmid := ffmid (ox := instObj 133 dx) (od := tokD w.params k1 k2 k3 k4 k5 b gv (.str D dt) (.int i1 it1) nv1) hdx' hxf' hap'
    have F2 := un_chain H0 F'
    have F3 := H0.fr F2
    refine caughtP_as (EvAt.of rfl) rfl (A₀ := A) (l := ce :: l) (frs := (L, { oL with slots := sl2 }) :: qs) (C := 41) (dct := some d) (a0 := .ref t) (c2 := c2) (K := hd.heap_1 w.params) (new := o2 ++ ((x, instObj 133 dx) :: (dx, tokD w.params k1 k2 k3 k4 k5 b gv (.str D dt) (.int i1 it1) nv1) :: new)) hA Fs' F3 N' (fun q hq => ⟨(l1 q (List.mem_append_left _ hq)).1, fun hm => ?_⟩) (fun hm => ?_) l2 (fun q hq => (l1 q (List.mem_append_left _ hq)).2) (fun hm => ?_) XA X T (by k_is) (kts41 _) ?_
    · rcases List.mem_append.mp hq with hq | hq
      · obtain ⟨r, hr, z⟩ := List.mem_map.mp hm
        have h9 := l4 r (List.mem_append_right _ hr)
        rcases l3 q hq with h | h
        · exact h9.1 (z.trans h)
        · exact h9.2 (z.trans h)
      · exact hmid q hq (hmap ▸ hm)
    · obtain ⟨r, hr, z⟩ := List.mem_map.mp hm
      exact (l1 r (List.mem_append_right _ hr)).1 z
    · obtain ⟨r, hr, z⟩ := List.mem_map.mp hm
      exact (l1 r (List.mem_append_right _ hr)).2 z
    intro h₂ frs₂ T₂ oT₂ oe₂ tk₂ SU₂ Fs₃ F₂ N₃ ne₃ XA₂
    obtain ⟨sl3, qs3, rfl, SU3⟩ := sameUp_cons SU₂
    obtain ⟨c1, c2', c3, c4, c5, tm, tp, tl, tc, tw, rfl⟩ := p2
    have h0 : 0 ≤ (D.length : Int) - 1 := by omega
    have XA₃ : ErrIs oe₂ d t := ⟨XA₂.cls, XA₂.dict, by obtain ⟨vs, a1, a2, _⟩ := XA₂.data; exact ⟨vs, a1, a2⟩⟩
    have hgh := hg.handed
    rw [← line_pos h0, ← col_pos h0, ← words_pos h0] at N₃
    simp only [List.cons_append, List.nil_append] at N₃
    dsimp only [chainOf] at F₂
    clear N' F' F2 F3 XA SU F₁ F₀
    k_steps
    rename_i lZ hZ lZ1 hT tT RT lT DT hD9 FD ND lD hU vU FU NU
    obtain ⟨_, _, _, _, _, _, px, pd, pn⟩ := (lD : @LT.lt Nat _ RT DT ∧ @LT.lt Nat _ lZ DT ∧ @LT.lt Nat _ T₂ DT ∧ @LT.lt Nat _ e DT ∧ @LT.lt Nat _ d DT ∧ @LT.lt Nat _ t DT ∧ @LT.lt Nat _ x DT ∧ @LT.lt Nat _ dx DT ∧ AllLt DT _)
    subst hout1
    exact fin3 (SU2.trans SU3) Fs₃ FU (fun q hq => NU q (mem_g2 hq)) (allLt_lt (l := (x, instObj 133 dx) :: (dx, _) :: _) ⟨px, pd, pn⟩) hnv1 ⟨_, _, _, _, _, _, by rw [narB_bad]⟩
  case body =>
    have hR : ∀ {i o it nv h₁ t₁}, out = .told (Str.ofString "refused") badZ ((D.length : Int) - 1) i o → NvIs nv o → RaisedE w.params base L' (chainOf [(Str.ofString "t", .ref x), (Str.ofString "deed", .int dn dt0), (Str.ofString "thing", cv), (Str.ofString "number", .int num nt)] M0) (ce :: l) ((x, instObj 133 dx) :: (dx, tokD w.params k1 k2 k3 k4 k5 b gv (.str D dt) (.int i it) nv) :: new) ((L, { oL with slots := oL.slots }) :: frs) (Str.ofString "bad escape (end of pattern)") gv D.cps.toList ((D.length : Int) - 1) (GBad w.params base L' (chainOf [(Str.ofString "t", .ref x), (Str.ofString "deed", .int dn dt0), (Str.ofString "thing", cv), (Str.ofString "number", .int num nt)] M0) (ce :: l) new ((L, { oL with slots := oL.slots }) :: frs) x dx k1 k2 k3 k4 k5 b gv D dt out s) { s with heap := h₁, toks := t₁ } := fun a c => GBad.of a c
    dsimp only [chainOf] at hR
    have hd5 : dn = 0 ∨ dn = 1 ∨ dn = 2 ∨ dn = 3 ∨ dn = 4 := by omega
    rcases hd5 with rfl | rfl | rfl | rfl | rfl
    · repeat ((fail_if_success (with_reducible show wpAny _ _ (call (Value.ref 79) _) _ _ _)); first | (k_unfold; (try dsimp only)) | walk1 | (dsimp only; walk1))
      refine get_z (new := new) (frs := (L, { oL with slots := oL.slots }) :: frs) (by assumption) X (by assumption) T Fs₂ (EvAt.of rfl) hdx' hxf' hap' (Around.frames_deeper hA) hh (by show _ + 1 + 20 < recursionLimit; omega) hD hD1 hb hg ⟨o, hnv⟩ ?_ ?_
      · intro i' o' hs h' frs' tk it' nv' hnv2 SU Fs3 F3 N3
        obtain ⟨sl2, qs, rfl, SU2⟩ := sameUp_cons SU
        have ho : out = .val (Str.ofString "get") (.opt o) i' o' := by rw [← hout]; unfold gotZ; rw [if_pos rfl, hs]; rfl
        clear hout hR
        subst ho
        clear F₁
        k_steps
        have p9 := (by assumption : @LT.lt Nat _ x _ ∧ @LT.lt Nat _ dx _ ∧ AllLt _ _)
        exact fin3 SU2 Fs3 (by assumption) (by assumption) (allLt_lt (l := (x, instObj 133 dx) :: (dx, _) :: _) p9) hnv2 ⟨_, _, hnv, rfl⟩
      · intro hs
        exact hR (by rw [← hout]; unfold gotZ; rw [if_pos rfl, hs]; rfl) hnv
    · repeat ((fail_if_success (with_reducible show wpAny _ _ (call (Value.ref 72) _) _ _ _)); first | (k_unfold; (try dsimp only)) | walk1 | (dsimp only; walk1))
      refine match_z (new := new) (frs := (L, { oL with slots := oL.slots }) :: frs) (by assumption) X (by assumption) T Fs₂ (EvAt.of rfl) hdx' hxf' hap' (Around.frames_deeper hA) hh (by show _ + 1 + 20 < recursionLimit; omega) hD hD1 hb hg hnv hcv ?_ ?_
      · intro i' o' hs h' frs' tk it' nv' hnv2 SU Fs3 F3 N3
        obtain ⟨sl2, qs, rfl, SU2⟩ := sameUp_cons SU
        have ho : out = .val (Str.ofString "match") .tt i' o' := by rw [← hout]; unfold gotZ; rw [if_neg (by decide), if_pos rfl, hs]; rfl
        clear hout hR
        subst ho
        clear F₁
        k_steps
        have p9 := (by assumption : @LT.lt Nat _ x _ ∧ @LT.lt Nat _ dx _ ∧ AllLt _ _)
        exact fin3 SU2 Fs3 (by assumption) (by assumption) (allLt_lt (l := (x, instObj 133 dx) :: (dx, _) :: _) p9) hnv2 ⟨_, _, rfl, rfl⟩
      · intro hs
        exact hR (by rw [← hout]; unfold gotZ; rw [if_neg (by decide), if_pos rfl, hs]; rfl) hnv
    · have hp0 := Int.fmod_nonneg_of_pos num (b := 2 * (D.length : Int) + 3) (by omega)
      have hp1 := Int.fmod_lt_of_pos num (b := 2 * (D.length : Int) + 3) (by omega)
      repeat ((fail_if_success (with_reducible show wpAny _ _ (call (Value.ref 115) _) _ _ _)); first | (k_unfold; (try dsimp only)) | walk1 | (dsimp only; walk1))
      refine seek_z (new := new) (frs := (L, { oL with slots := oL.slots }) :: frs) (by assumption) X (by assumption) T Fs₂ (EvAt.of rfl) hdx' hxf' hap' (Around.frames_deeper hA) hh (by show _ + 1 + 20 < recursionLimit; omega) hD hD1 (by unfold Bz; omega) hg ?_ ?_
      · intro i' o' hs h' frs' tk it' nv' hnv2 SU Fs3 F3 N3
        obtain ⟨sl2, qs, rfl, SU2⟩ := sameUp_cons SU
        have ho : out = .val (Str.ofString "seek") .no i' o' := by rw [← hout]; unfold gotZ; rw [if_neg (by decide), if_neg (by decide), if_pos rfl, hs]; rfl
        clear hout hR
        subst ho
        k_steps
        have p9 := (by assumption : @LT.lt Nat _ x _ ∧ @LT.lt Nat _ dx _ ∧ AllLt _ _)
        exact fin3 SU2 Fs3 (by assumption) (by assumption) (allLt_lt (l := (x, instObj 133 dx) :: (dx, _) :: _) p9) hnv2 ⟨_, _, rfl, rfl⟩
      · intro hs
        exact hR (by rw [← hout]; unfold gotZ; rw [if_neg (by decide), if_neg (by decide), if_pos rfl, hs]; rfl) hnv
    · have hq0 := Int.fmod_nonneg_of_pos num (b := 4) (by decide)
      have hq1 := Int.fmod_lt_of_pos num (b := 4) (by decide)
      have hr0 := Int.fmod_nonneg_of_pos (num.fdiv 4) (b := 256) (by decide)
      have hr1 := Int.fmod_lt_of_pos (num.fdiv 4) (b := 256) (by decide)
      repeat ((fail_if_success (with_reducible show wpAny _ _ (eval (PySem.Expr.BoolOp _ _ _) _) _ _ _)); first | (k_unfold; (try dsimp only)) | walk1 | (dsimp only; walk1))
      refine join_ev (o.getD (Str.ofString "a")) (by assumption) (by assumption) ?ev ?go
      case ev =>
        clear hR fin3 hout
        cases o with
        | none =>
          obtain rfl : cv = .none := hcv
          k_steps
          exact ⟨_, _, _, rfl, rfl, by assumption, by assumption⟩
        | some y =>
          obtain ⟨yt, rfl⟩ := hcv
          have hy := hok y rfl
          have htr : ((y.length : Int) != 0) = true := by simp; omega
          k_steps
          exact ⟨_, _, _, rfl, rfl, by assumption, by assumption⟩
      case go =>
        intro t9 tk9 h9 F9 N9
        generalize hya : o.getD (Str.ofString "a") = ya
        repeat ((fail_if_success (with_reducible show wpAny _ _ (call (Value.ref 86) _) _ _ _)); first | (k_unfold; (try dsimp only)) | walk1 | (dsimp only; walk1))
        rename_i dA _ _ _ _ _ _ lA _ _ _ _ _ hC oC FC NC sC
        obtain ⟨kn, hkn⟩ : ∃ kn : Nat, num.fmod 4 = (kn : Int) := ⟨(num.fmod 4).toNat, by omega⟩
        have hkn2 : (num.fmod 4).toNat = kn := by omega
        rw [hkn]
        clear F9 N9
        have lA2 := allLt_lt (l := (x, instObj 133 dx) :: (dx, tokD w.params k1 k2 k3 k4 k5 b gv (.str D dt) (.int i it) nv) :: (new ++ ((L, { oL with slots := oL.slots }) :: frs))) lA
        have hdA : ∀ q ∈ new ++ ((L, { oL with slots := oL.slots }) :: frs), q.1 ≠ dA := fun q hq => Nat.ne_of_lt (lA2 q (List.mem_cons_of_mem _ (List.mem_cons_of_mem _ hq)))
        have hgz : gotZ D i o 3 num = (match gwZ D (setZ ya num) kn i o (Str.ofString "") with
          | .done r i' o' => .val (Str.ofString "getwhile") (.txt r) i' o'
          | .bad i' o' => .told (Str.ofString "refused") badZ ((D.length : Int) - 1) i' o') := by
          unfold gotZ; rw [if_neg (by decide), if_neg (by decide), if_neg (by decide), if_pos rfl, hkn2, hya]
        refine getwhile_z (n := kn) (S := setZ ya num) (new := (dA, oC) :: new) (frs := (L, { oL with slots := oL.slots }) :: frs) FC X (fun q hq => NC q (mem_it hq)) T Fs₂ (EvAt.of rfl) ?hdx hxf' ?hap (Around.frames_deeper hA) hh (by show _ + 1 + 20 < recursionLimit; omega) hD hD1 hb hg hnv hok (by omega) List.mem_cons_self sC (by split <;> decide) ?_ ?_
        case hdx =>
          intro q hq
          rcases List.mem_cons.mp hq with rfl | hq
          · exact Ne.symm (Nat.ne_of_lt (lA2 _ (List.mem_cons_of_mem _ List.mem_cons_self)))
          · exact hdx' q hq
        case hap =>
          intro q hq
          rcases List.mem_cons.mp hq with rfl | hq
          · intro hm
            obtain ⟨z, hz, e⟩ := List.mem_map.mp hm
            exact hdA z (List.mem_append_right _ hz) e
          · exact hap' q hq
        · intro r i' o' rt hs h' frs' tk it' nv' hnv2 SU Fs3 F3 N3
          obtain ⟨sl2, qs, rfl, SU2⟩ := sameUp_cons SU
          have ho : out = .val (Str.ofString "getwhile") (.txt r) i' o' := by rw [← hout, hgz, hs]
          clear hout hR hgz
          subst ho
          have N6 : News base L' h' ((x, instObj 133 dx) :: (dx, tokD w.params k1 k2 k3 k4 k5 b gv (.str D dt) (.int i' it') nv') :: (new ++ ((L, { oL with slots := sl2 }) :: qs))) := fun q hq => N3 q (mem_sub2 (fun q hq => List.mem_cons_of_mem _ hq) hq)
          clear N3 FC NC sC
          k_steps
          have p9 := (by assumption : @LT.lt Nat _ x _ ∧ @LT.lt Nat _ dx _ ∧ AllLt _ _)
          exact fin3 SU2 Fs3 (by assumption) (by assumption) (allLt_lt (l := (x, instObj 133 dx) :: (dx, _) :: _) p9) hnv2 ⟨_, _, ⟨_, rfl⟩, rfl⟩
        · intro i' o' hs it' nv' hnv2
          refine RaisedE.sub (hR (it := it') (by rw [← hout, hgz, hs]) hnv2) (fun q hq => ?_)
          rcases List.mem_cons.mp hq with rfl | hq
          · exact List.mem_cons_self
          rcases List.mem_cons.mp hq with rfl | hq
          · exact List.mem_cons_of_mem _ List.mem_cons_self
          · exact List.mem_cons_of_mem _ (List.mem_cons_of_mem _ (List.mem_cons_of_mem _ hq))
    · have hq0 := Int.fmod_nonneg_of_pos num (b := 8) (by decide)
      have hq1 := Int.fmod_lt_of_pos num (b := 8) (by decide)
      have hr0 := Int.fmod_nonneg_of_pos (num.fdiv 8) (b := 7) (by decide)
      have hr1 := Int.fmod_lt_of_pos (num.fdiv 8) (b := 7) (by decide)
      repeat ((fail_if_success (with_reducible show wpAny _ _ (call (Value.ref 123) _) _ _ _)); first | (k_unfold; (try dsimp only)) | walk1 | (dsimp only; walk1))
      rename_i lE hE1 FE1 NE1 lE1 hE tE kE FE NE
      have hol := olen_z hok
      have hnz := nlen_z hnv
      have hpos : i - nlen nv - ((num.fdiv 8).fmod 7 - 3) = i - olen o - ((num.fdiv 8).fmod 7 - 3) := by rw [hnz]
      have hbz := hb
      unfold Bz at hbz
      obtain ⟨hw, hwl⟩ := words_cut b hq0 hq1
      have ho : out = .told (Str.ofString "error") (Txt.slice msgZ (some (num.fmod 8)) none) (i - olen o - ((num.fdiv 8).fmod 7 - 3)) i o := by rw [← hout]; unfold gotZ; rw [if_neg (by decide), if_neg (by decide), if_neg (by decide), if_neg (by decide)]
      refine error_c (rest := (lE, W.listOf (List.toArray [.str (Str.ofString "error") _]) 0) :: (new ++ ((L, { oL with slots := oL.slots }) :: frs))) (off := (num.fdiv 8).fmod 7 - 3) rfl FE X (fun q hq => NE q (mem_cab hq)) T hh hg hw (by show _ + 1 + 12 < recursionLimit; omega) (nextOk_z hnv hok) hD (by omega) (by rw [hnz]; omega) (by rw [hnz]; omega) ?_
      intro h' k e d t o3 pe F3 N3 q1 q2 q3 q4
      rw [hpos] at pe
      subst ho
      clear hout hR FE NE FE1 NE1
      generalize hmsg : narB b (Txt.slice msgZ (some (num.fmod 8)) none) = msg at pe hw hwl
      obtain ⟨c1, c2, c3, c4, c5, tm, tp, tl, tc, tw, rfl⟩ := pe
      simp only [List.cons_append, List.nil_append] at N3
      have XA : ErrIs (peO 41 d (.ref t) .none .none .none (.bool false) .none) d t := ⟨rfl, rfl, _, rfl, rfl⟩
      have hgh := hg.handed
      k_steps
      rename_i hB tB R9 l9 D9 hD9 FD ND lD
      obtain ⟨_, _, _, _, px, pd, _, pn⟩ := (lD : @LT.lt Nat _ R9 D9 ∧ @LT.lt Nat _ e D9 ∧ @LT.lt Nat _ d D9 ∧ @LT.lt Nat _ t D9 ∧ @LT.lt Nat _ x D9 ∧ @LT.lt Nat _ dx D9 ∧ @LT.lt Nat _ lE D9 ∧ AllLt D9 _)
      exact fin3 (SameUp.refl frs) Fs₂ FD (fun q hq => ND q (mem_g1 hq)) (allLt_lt (l := (x, instObj 133 dx) :: (dx, _) :: _) ⟨px, pd, pn⟩) hnv ⟨_, _, _, _, _, _, by rw [hmsg]⟩
end Mine
end

section
open PySem PySem.W PySem.Calls PySem.Spec PyProof.Rows
set_option maxRecDepth 100000
set_option maxHeartbeats 2000000
namespace Mine
theorem anew10 : True := by
  w_top off
  exact True.intro
open TI
theorem fillPO6 (P : Params) : hd.heap_1 P = hd.heap_1 P ∧ PySem.Challenge.rw_kq0016_06 = PySem.Challenge.rw_kq0016_06 := by
  k_fill
  exact ⟨rfl, rfl⟩
theorem pos_k {w : World} {loose : List Str} {mean : ExcName → Option Value} {mg mb : Str → Option Value} {A : Around}
    {base : Heap} {L : Addr} {m : Str → Option Value} {s : Shared} {R : Result → Shared → Prop} {rest : List (Addr × Obj)}
    {x dx : Addr} {k1 k2 k3 k4 k5 : Tok} {b : Bool} {sv dv : Value} {i : Int} {it : Tok} {nv : Value}
    (F : Fr base L s.heap m) (X : (hd.heap_1 w.params).In base) (N : News base L s.heap ((x, instObj 133 dx) :: (dx, tokD w.params k1 k2 k3 k4 k5 b sv dv (.int i it) nv) :: rest)) (T : Top hd.view_39 loose mean mg mb base)
    (hd' : A.depth + 3 < recursionLimit) (hn : NextOk nv)
    (hQ : ∀ h' tk t, Fr base L h' m → News base L h' ((x, instObj 133 dx) :: (dx, tokD w.params k1 k2 k3 k4 k5 b sv dv (.int i it) nv) :: rest) → R (.ok (.ret (.int (i - nlen nv) t))) { s with heap := h', toks := tk }) :
    codeAny (model PySem.Challenge.rw_kq0016_06.row.prog w) A (.call (.ref 100) ⟨[.ref x], []⟩) R s := by
  refine (enterM (cn := Str.ofString "") (cs := { kind := .function, names := [], isGenerator := false, isCoroutine := false }) (a := 0) (ccd := .none) (l := []) (frs := []) F X N T trivial rfl (by kernel_rfl) (by omega) (BindsTo.of_eq rfl) (locs rfl) (fun oL L' h₁ Cl Fs₁ F₁ N₁ hne hltL => ?_) rfl rfl rfl rfl (by decide))
  have N₂ : News base L' h₁ ((x, instObj 133 dx) :: (dx, tokD w.params k1 k2 k3 k4 k5 b sv dv (.int i it) nv) :: (L, oL) :: rest) := fun q hq => N₁ q (mem_i2 hq)
  have hLd : L ≠ dx := Ne.symm (hne (dx, tokD w.params k1 k2 k3 k4 k5 b sv dv (.int i it) nv) (List.mem_cons_of_mem _ List.mem_cons_self))
  have hLx : L ≠ x := Ne.symm (hne (x, instObj 133 dx) List.mem_cons_self)
  have hnL : ∀ q ∈ rest, q.1 ≠ L := fun q hq => hne q (List.mem_cons_of_mem _ (List.mem_cons_of_mem _ hq))
  clear N₁ Fs₁
  cases nv with
  | none =>
    k_steps
    obtain ⟨r1, r2⟩ := fin2 (sl := oL.slots) (new := []) Cl (by assumption) (by assumption) hLx hLd hnL
    exact hQ _ _ _ r1 r2
  | str y yt =>
    obtain ⟨hn1, hn2⟩ := hn
    k_steps
    · obtain ⟨r1, r2⟩ := fin2 (sl := oL.slots) (new := []) Cl (by assumption) (by assumption) hLx hLd hnL
      exact hQ _ _ _ r1 r2
    · omega
  | _ => exact hn.elim

theorem pos_a {w : World} {loose : List Str} {mean : ExcName → Option Value} {mg mb : Str → Option Value} {A : Around}
    {base : Heap} {L : Addr} {m : Str → Option Value} {s : Shared} {Q E : Value → Shared → Prop} {rest : List (Addr × Obj)}
    {x dx : Addr} {k1 k2 k3 k4 k5 : Tok} {b : Bool} {sv dv : Value} {i : Int} {it : Tok} {nv : Value}
    (F : Fr base L s.heap m) (X : (hd.heap_1 w.params).In base) (N : News base L s.heap ((x, instObj 133 dx) :: (dx, tokD w.params k1 k2 k3 k4 k5 b sv dv (.int i it) nv) :: rest)) (T : Top hd.view_39 loose mean mg mb base)
    (hd' : A.depth + 3 < recursionLimit) (hn : NextOk nv)
    (hQ : ∀ h' tk t, Fr base L h' m → News base L h' ((x, instObj 133 dx) :: (dx, tokD w.params k1 k2 k3 k4 k5 b sv dv (.int i it) nv) :: rest) → Q (.int (i - nlen nv) t) { s with heap := h', toks := tk }) :
    wpAny (model PySem.Challenge.rw_kq0016_06.row.prog w) A (getAttr (.ref x) (Str.ofString "pos") true) Q E s := by
  refine' get_prop ?k1 ?k2 ?k3 ?k4 ?k5 ?k6 ?k7 ?k8 ?k9 ?_
  (case k1 => k_asm); (case k2 => k_asm); (case k3 => k_inst); (case k4 => k_is); (case k5 => k_is); (case k6 => k_is); (case k7 => k_is); (case k8 => k_is); (case k9 => k_is)
  exact pos_k (A := A.in1) F X N T hd' hn (fun h' tk t F' N' => handed_on rfl (hQ h' tk t F' N'))
theorem two_up {base h : Heap} {L : Addr} {news : List (Addr × Obj)} {p q : Addr × Obj} (N : News base L h news) (h1 : p ∈ news) (h2 : q ∈ news) : News base L h (p :: q :: news) := fun z hz => by
  rcases List.mem_cons.mp hz with rfl | hz
  · exact N _ h1
  rcases List.mem_cons.mp hz with rfl | hz
  · exact N _ h2
  · exact N z hz
theorem two_down {base h : Heap} {L : Addr} {news : List (Addr × Obj)} {p q : Addr × Obj} (N : News base L h (p :: q :: news)) : News base L h news := fun z hz => N z (List.mem_cons_of_mem _ (List.mem_cons_of_mem _ hz))
theorem attr_sm {w : World} {loose : List Str} {mean : ExcName → Option Value} {mg mb : Str → Option Value} {A : Around}
    {base : Heap} {L : Addr} {m : Str → Option Value} {s : Shared} {Q E : Value → Shared → Prop} {news : List (Addr × Obj)}
    {x dx : Addr} {k1 k2 k3 k4 k5 : Tok} {b : Bool} {gv : Value} {D : Str} {dt : Tok} {i : Int} {it : Tok} {nv : Value}
    (F : Fr base L s.heap m) (X : (hd.heap_1 w.params).In base) (N : News base L s.heap (news)) (T : Top hd.view_39 loose mean mg mb base) (hx : (x, instObj 133 dx) ∈ news) (hd : (dx, tokD w.params k1 k2 k3 k4 k5 b gv (.str D dt) (.int i it) nv) ∈ news) (hg : GivenIs b gv D) (hQ : ∀ h' tk, Fr base L h' m → News base L h' news → Q gv { s with heap := h', toks := tk }) : wpAny (model PySem.Challenge.rw_kq0016_06.row.prog w) A (getAttr (.ref x) (Str.ofString "string") true) Q E s :=
  attr_s F X (two_up N hx hd) T hg fun h' tk F' N' => hQ h' tk F' (two_down N')
theorem attr_nm {w : World} {loose : List Str} {mean : ExcName → Option Value} {mg mb : Str → Option Value} {A : Around}
    {base : Heap} {L : Addr} {m : Str → Option Value} {s : Shared} {Q E : Value → Shared → Prop} {news : List (Addr × Obj)}
    {x dx : Addr} {k1 k2 k3 k4 k5 : Tok} {b : Bool} {gv : Value} {D : Str} {dt : Tok} {i : Int} {it : Tok} {nv : Value} {o : Option Str}
    (F : Fr base L s.heap m) (X : (hd.heap_1 w.params).In base) (N : News base L s.heap (news)) (T : Top hd.view_39 loose mean mg mb base) (hx : (x, instObj 133 dx) ∈ news) (hd : (dx, tokD w.params k1 k2 k3 k4 k5 b gv (.str D dt) (.int i it) nv) ∈ news) (hn : NvIs nv o) (hQ : ∀ h' tk, Fr base L h' m → News base L h' news → Q nv { s with heap := h', toks := tk }) : wpAny (model PySem.Challenge.rw_kq0016_06.row.prog w) A (getAttr (.ref x) (Str.ofString "next") true) Q E s :=
  attr_n F X (two_up N hx hd) T hn fun h' tk F' N' => hQ h' tk F' (two_down N')
theorem pos_m {w : World} {loose : List Str} {mean : ExcName → Option Value} {mg mb : Str → Option Value} {A : Around}
    {base : Heap} {L : Addr} {m : Str → Option Value} {s : Shared} {Q E : Value → Shared → Prop} {news : List (Addr × Obj)}
    {x dx : Addr} {k1 k2 k3 k4 k5 : Tok} {b : Bool} {gv : Value} {D : Str} {dt : Tok} {i : Int} {it : Tok} {nv : Value}
    (F : Fr base L s.heap m) (X : (hd.heap_1 w.params).In base) (N : News base L s.heap (news)) (T : Top hd.view_39 loose mean mg mb base) (hx : (x, instObj 133 dx) ∈ news) (hd : (dx, tokD w.params k1 k2 k3 k4 k5 b gv (.str D dt) (.int i it) nv) ∈ news) (hd' : A.depth + 3 < recursionLimit) (hn : NextOk nv) (hQ : ∀ h' tk t, Fr base L h' m → News base L h' news → Q (.int (i - nlen nv) t) { s with heap := h', toks := tk }) : wpAny (model PySem.Challenge.rw_kq0016_06.row.prog w) A (getAttr (.ref x) (Str.ofString "pos") true) Q E s :=
  pos_a F X (two_up N hx hd) T hd' hn fun h' tk t F' N' => hQ h' tk t F' (two_down N')
theorem tell_m {w : World} {loose : List Str} {mean : ExcName → Option Value} {mg mb : Str → Option Value} {A : Around}
    {base : Heap} {L : Addr} {m : Str → Option Value} {s : Shared} {Q E : Value → Shared → Prop} {news : List (Addr × Obj)}
    {x dx : Addr} {k1 k2 k3 k4 k5 : Tok} {b : Bool} {gv : Value} {D : Str} {dt : Tok} {i : Int} {it : Tok} {nv : Value}
    (F : Fr base L s.heap m) (X : (hd.heap_1 w.params).In base) (N : News base L s.heap (news)) (T : Top hd.view_39 loose mean mg mb base) (hx : (x, instObj 133 dx) ∈ news) (hd : (dx, tokD w.params k1 k2 k3 k4 k5 b gv (.str D dt) (.int i it) nv) ∈ news) (hd' : A.depth + 3 < recursionLimit) (hn : NextOk nv) (hQ : ∀ h' tk t, Fr base L h' m → News base L h' news → Q (.int (i - nlen nv) t) { s with heap := h', toks := tk }) : wpAny (model PySem.Challenge.rw_kq0016_06.row.prog w) A (call (.ref 108) [.ref x]) Q E s :=
  tell_c F X (two_up N hx hd) T hd' hn fun h' tk t F' N' => hQ h' tk t F' (two_down N')
/-- _law_got in the law's own frame -/
theorem got_L {w : World} {loose : List Str} {mean : ExcName → Option Value} {mg mb : Str → Option Value} {A : Around} {ce : Env}
    {base : Heap} {L : Addr} {m : Str → Option Value} {s : Shared} {Q E : Value → Shared → Prop} {new : List (Addr × Obj)}
    {x dx : Addr} {k1 k2 k3 k4 k5 : Tok} {b : Bool} {gv : Value} {D : Str} {dt : Tok} {i : Int} {it : Tok} {nv : Value} {o : Option Str} {dn num : Int} {dt0 nt : Tok} {cv : Value}
    (F : Fr base L s.heap m) (X : (hd.heap_1 w.params).In base) (N : News base L s.heap ((x, instObj 133 dx) :: (dx, tokD w.params k1 k2 k3 k4 k5 b gv (.str D dt) (.int i it) nv) :: new)) (T : Top hd.view_39 loose mean mg mb base)
    (hcs : EvAt ce L) (hdx : ∀ q ∈ new, q.1 ≠ dx) (hA : A.frames = some [ce]) (hh : A.handled = none) (hd' : A.depth + 40 < recursionLimit)
    (hD : D.length ≤ 2000) (hD1 : 1 ≤ D.length) (hb : Bz D i) (hg : GivenIs b gv D) (hu : A.units + 100 < cLine) (hnv : NvIs nv o) (hok : OkO o) (hcv : NvIs cv o) (hn0 : 0 ≤ dn) (hn4 : dn ≤ 4)
    (hQ : ∀ out, gotZ D i o dn num = out → ∀ h' tk it' nv' R ob, NvIs nv' out.o → GotIs b gv D out ob → Fr base L h' m → News base L h' ((x, instObj 133 dx) :: (dx, tokD w.params k1 k2 k3 k4 k5 b gv (.str D dt) (.int out.i it') nv') :: (R, ob) :: new) → (∀ q ∈ (x, instObj 133 dx) :: (dx, tokD w.params k1 k2 k3 k4 k5 b gv (.str D dt) (.int out.i it') nv') :: new, q.1 ≠ R) → Q (.ref R) { s with heap := h', toks := tk }) :
    wpAny (model PySem.Challenge.rw_kq0016_06.row.prog w) A (call (.ref 158) [.ref x, .int dn dt0, cv, .int num nt]) Q E s := by
  have en : new ++ [] = new := List.append_nil new
  refine got_c (frs := []) (l := []) (new := new) F X (by rw [en]; exact N) T trivial hcs (by rw [en]; exact hdx) (by simp) (by simp) hA hh hd' hD hD1 hb hg hu hnv hok hcv hn0 hn4 ?_
  intro out ho h' frs' tk it' nv' R ob h1 h2 SU Fs' F' N' hR
  obtain rfl := sameUp_nil SU
  rw [List.append_nil] at N'
  rw [en] at hR
  exact hQ out ho h' tk it' nv' R ob h1 h2 F' N' hR
end Mine
end

section
open PySem PySem.W PySem.Calls PySem.Spec PyProof.Rows
set_option maxRecDepth 100000
set_option maxHeartbeats 3000000
namespace Mine
/-- the law's own text, out of the row -/
def defBody : Stmt → List Stmt
  | .FunctionDef _ _ b _ _ _ _ _ _ _ => b
  | _ => []
def defScope : Stmt → Scope
  | .FunctionDef _ _ _ _ _ _ s _ _ _ => s
  | _ => default
def forBody : Stmt → List Stmt
  | .For _ _ b _ _ => b
  | _ => []
def lastDef (k : Nat) : Stmt := PySem.Challenge.rw_kq0016_06.row.prog.main.body.reverse.getD k default
def lawBody : List Stmt := defBody (lastDef 0)
def lawScope : Scope := defScope (lastDef 0)
def lawTurn : List Stmt := forBody (lawBody.getD 16 default)
end Mine
end

section
open PySem PySem.W PySem.Calls PySem.Spec PyProof.Rows PySem.Builtin
set_option maxRecDepth 100000
set_option maxHeartbeats 1000000
namespace Mine
section
variable {prog : Program} {w : World} {A : Around} {s : Shared} {env : Env} {h₀ : Heap} {E : Value → Shared → Prop} {Q : Flow → Shared → Prop} {body : List Stmt}
end
/-- two lists, item by item -/
def All2 {α β : Type} (R : α → β → Prop) : List α → List β → Prop
  | [], [] => True
  | a :: l, b :: r => R a b ∧ All2 R l r
  | _, _ => False
section
variable {α β : Type} {R S : α → β → Prop}
end
end Mine
end

section
open PySem PySem.W PySem.Calls PySem.Spec PyProof.Rows PySem.Builtin
set_option maxRecDepth 100000
set_option maxHeartbeats 1000000
namespace Mine
/-- what «c not in charset» gives, where the ledger holds the set -/
def MemTo (prog : Program) (w : World) (A : Around) (new : List (Addr × Obj)) (cs : Value) (P : Str → Bool) : Prop :=
  ∀ (A' : Around) (E : Value → Shared → Prop) (Q : Value → Shared → Prop) (s' : Shared), A'.units ≤ A.units + 4 → (∀ q ∈ new, s'.heap.get? q.1 = some q.2) →
    (∀ (y : Str) t, 1 ≤ y.length → y.length ≤ 2 → (∀ k, Q (.bool (!P y)) { s' with toks := k }) → wpAny (model prog w) A' (compareOp .NotIn (.str y t) cs) Q E s') ∧
    ((∀ k, Q (.bool true) { s' with toks := k }) → wpAny (model prog w) A' (compareOp .NotIn .none cs) Q E s')
section
variable {prog : Program} {w : World} {A : Around} {E : Value → Shared → Prop} {h₀ : Heap} {L : Addr} {m : Str → Option Value} {env : Env} {ct elt : Expr} {x : Str} {scope : Scope} {cl : List (Str × Addr)} {s : Shared} {S : List (Addr × Obj) → Prop} {P : Nat → Value → Prop} {Fin : List Value → List (Addr × Obj) → Prop} {news : List (Addr × Obj)}
end
end Mine
end

section
open PySem PySem.W PySem.Calls PySem.Spec PyProof.Rows
set_option maxRecDepth 100000
namespace Mine
/-- what comes up from a place: the end, nothing, a lone backslash, or a sign that a lone backslash follows -/
inductive How
  | none | lone | stuck | fin
def How.str : How → Str
  | .none => Str.ofString "none"
  | .lone => Str.ofString "lone"
  | .stuck => Str.ofString "stuck"
  | .fin => Str.ofString "end"
def howOf (lone : Bool) (e : Str) : Nat → List Str → How × Nat
  | p, [] => if lone then (.lone, p) else (.none, p)
  | p, y :: r => if r.isEmpty && lone then (.stuck, p) else if y = e then (.fin, p) else howOf lone e (p + y.length) r
/-- the signs from p on, and what comes up there -/
def HowAt (D e : Str) (p : Nat) (h : How) (q : Nat) : Prop := ∃ lone sgs, SignsX lone D p sgs ∧ howOf lone e p sgs = (h, q)
/-- the sign at a place: one code, or a backslash and what follows it -/
def SignAtP (D : Str) (p : Nat) (y : Str) : Prop := (∃ c, D.cps.toList[p]? = some c ∧ c ≠ 92 ∧ y = one c) ∨ (∃ c, D.cps.toList[p]? = some 92 ∧ D.cps.toList[p + 1]? = some c ∧ y = one 92 ++ one c)
/-- the text from p to q -/
def cutS (D : Str) (p q : Nat) : Str := Txt.slice D (some (p : Int)) (some (q : Int))
/-- what the law asks of a place -/
def wantR (m1 m2 D e : Str) (p : Nat) (h : How) (q : Nat) : Str ⊕ (Str × Int) :=
  match h with
  | .stuck => .inr (Str.ofString "bad escape (end of pattern)", (D.length : Int) - 1)
  | .fin => if q = p then .inr (m1, (q : Int) + e.length - 1) else .inl (cutS D p q)
  | _ => if p = D.length then .inr (m1, (D.length : Int)) else .inr (m2, (p : Int))
def behindR (e : Str) (h : How) (q : Nat) : Nat := match h with | .fin => q + e.length | _ => q
end Mine
end

local macro_rules | `(tactic| walk_at "call builtin:sum") => `(tactic| (k_here; (with_reducible show wpAny _ _ (call (Value.builtin "sum") [Value.ref _]) _ _ _); k_dflt (refine' sumK ?k0 ?k1 ?k2 ?k3 ?k4 ?_; (case k0 => assumption); (case k1 => k_asm); (case k2 => k_asm); (case k3 => is_list); (case k4 => with_reducible assumption)); intro h' tk' t' F' N'))
section
open PySem PySem.W PySem.Calls PySem.Spec PyProof.Rows
set_option maxRecDepth 100000
set_option maxHeartbeats 2000000
namespace Mine
theorem anew11 : True := by
  w_top off
  exact True.intro
open TI
theorem fillL6A (P : Params) : hd.heap_1 P = hd.heap_1 P ∧ PySem.Challenge.rw_kq0016_06 = PySem.Challenge.rw_kq0016_06 := by
  k_fill
  exact ⟨rfl, rfl⟩
def lawStmt (k : Nat) : Stmt := lawBody.getD k default
def lawEnv (L a : Addr) (cd : Value) : Env := envOf (Str.ofString "law") lawScope L a cd
theorem law_lit {w : World} {A : Around} {L a : Addr} {cd : Value} {s : Shared} {E : Value → Shared → Prop} {Q : Flow → Shared → Prop} {st x : Stmt} {y : Scope} (h1 : st = x) (h2 : lawScope = y)
    (h3 : wpAny (model PySem.Challenge.rw_kq0016_06.row.prog w) A (exec x (envOf (Str.ofString "law") y L a cd)) Q E s) : wpAny (model PySem.Challenge.rw_kq0016_06.row.prog w) A (exec st (lawEnv L a cd)) Q E s := by
  unfold lawEnv
  rw [h1, h2]; exact h3
theorem law_lit2 {w : World} {A₀ : Around} {L a : Addr} {cd : Value} {s : Shared} {E : Value → Shared → Prop} {Q : Flow → Shared → Prop} {st x : Stmt} {y : Scope} (h1 : st = x) (h2 : lawScope = y)
    (h3 : wpAny (model PySem.Challenge.rw_kq0016_06.row.prog w) (A₀.deeper (envOf (Str.ofString "law") y L a cd)) (exec x (envOf (Str.ofString "law") y L a cd)) Q E s) : wpAny (model PySem.Challenge.rw_kq0016_06.row.prog w) (A₀.deeper (lawEnv L a cd)) (exec st (lawEnv L a cd)) Q E s := by
  unfold lawEnv
  rw [h1, h2]; exact h3
theorem range_map {α : Type} (l : List Int) (g : Int → α) : (List.range l.length).map (fun i => g (l.getD i 0)) = l.map g := by
  apply List.ext_getElem
  · simp
  · intro i h1 h2
    have hi : i < l.length := by simpa using h1
    simp [hi]
local macro_rules | `(tactic| walk_at "call builtin:str.join") => `(tactic| (k_here; k_dflt (refine' join_strs ?N ?m ?w ?b ?n ?_; (case N => k_asm); (case m => walk_at "z3"); (case w => with_reducible assumption); (case b => with_reducible assumption); (case n => with_reducible assumption)); intro t' k'))
theorem tup_z {prog : Program} {w : World} {A : Around} {E : Value → Shared → Prop} {s : Shared} {h₀ : Heap} {L l : Addr} {news : List (Addr × Obj)} {vs : List Value} {ws : List Str} {i : Int} {u : Tok} {Xs : Str} {Q : Value → Shared → Prop} {value slice : PySem.Expr} (N : News h₀ L s.heap news) (hp : (l, ({ cls := .type "tuple", data := .seq vs.toArray } : Obj)) ∈ news) (hw : StrsAre vs ws) (h0 : 0 ≤ i) (h1 : i < (ws.length : Int)) (e : ws.getD i.toNat Str.empty = Xs) (h : ∀ t', Q (.str Xs t') s) (hb : ws.length ≤ 1000)
    (hs : subscripted slice false (.ref l) (.int i u) = operate [.ref l, .int i u] (getItem (.ref l) (.int i u)) := by with_unfolding_all rfl) : wpAny (model prog w) A (subscriptTail value slice (.ref l) (.int i u)) Q E s :=
  KTb.item_tup ⟨_, (N _ hp).1, rfl, _, rfl⟩ hw h0 h1 (by omega) (fun t' _ => by rw [e]; exact h t') hs
/-- one sign of the script -/
def pc6 (n : Int) : Str := [Str.ofString "\\", Str.ofString "\n", ⟨#[((n.fdiv 3).fmod 256).toNat]⟩].getD (n.fmod 3).toNat Str.empty
theorem pc6_is (n : Int) : pc6 n = Str.ofString "\\" ∨ pc6 n = Str.ofString "\n" ∨ pc6 n = one ((n.fdiv 3).fmod 256).toNat := by
  have hf0 := Int.fmod_nonneg_of_pos n (b := 3) (by decide)
  have hf1 := Int.fmod_lt_of_pos n (b := 3) (by decide)
  unfold pc6
  have h : (n.fmod 3).toNat = 0 ∨ (n.fmod 3).toNat = 1 ∨ (n.fmod 3).toNat = 2 := by omega
  rcases h with h | h | h <;> rw [h]
  · exact .inl rfl
  · exact .inr (.inl rfl)
  · exact .inr (.inr rfl)
theorem pc6_len (n : Int) : 1 ≤ (pc6 n).length ∧ (pc6 n).length ≤ 1 := by
  rcases pc6_is n with h | h | h <;> rw [h]
  · decide
  · decide
  · exact ⟨Nat.le_refl 1, Nat.le_refl 1⟩
theorem s_text6 {w : World} {loose : List Str} {mean : ExcName → Option Value} {mg mb : Str → Option Value} {A : Around} {a : Addr} {cd : Value}
    {base : Heap} {L : Addr} {m : Str → Option Value} {s : Shared} {E : Value → Shared → Prop} {Q : Flow → Shared → Prop} {news : List (Addr × Obj)} {D : Addr} {ws : List Value} {ns : List Int}
    (F : Fr base L s.heap m) (X : (hd.heap_1 w.params).In base) (N : News base L s.heap news) (T : Top hd.view_39 loose mean mg mb base) (hh : A.handled = none)
    (hm : Has m [(Str.ofString "script", .ref D)]) (hL : base.IsList D ws.toArray) (hI : IntsAre ws ns) (hlen : ns.length ≤ 63)
    (hQ : ∀ h' tk t, Fr base L h' (setM m (Str.ofString "text") (.str (cat ((ns.take 16).map pc6)) t)) → News base L h' news → Q .next { s with heap := h', toks := tk }) :
    wpAny (model PySem.Challenge.rw_kq0016_06.row.prog w) A (exec (lawStmt 0) (lawEnv L a cd)) Q E s := by
  have fin : ∀ h' tk t, Fr base L h' (fun y => if y = Str.ofString "text" then some (.str (cat ((ns.take 16).map pc6)) t) else chainOf [(Str.ofString "script", .ref D)] m y) → News base L h' news → Q .next { s with heap := h', toks := tk } :=
    fun h' tk t F' N' => hQ h' tk t (hm.back F') N'
  refine law_lit (by conv => lhs; whnf) (by conv => lhs; whnf) ?_
  have F₁ := hm.fr F
  dsimp only [chainOf] at F₁
  clear F hQ hm
  repeat ((fail_if_success (with_reducible show wpAny _ _ (eval (Expr.ListComp _ _ _ _) _) _ _ _)); first | (k_unfold; (try dsimp only)) | walk1 | (dsimp only; walk1))
  refine LCg.ListComp_U (F₀ := by k_asm) (by with_unfolding_all rfl) (by decide) (by rfl) (by decide) (by rfl) ?_
  generalize hR : LCg.CompSrc _ _ _ _ _ _ _ _ _ _ _ _ = R
  repeat ((fail_if_success (with_reducible (show R _ _))); first | (k_unfold; (try dsimp only)) | walk1 | dsimp only)
  subst hR
  rename_i D' ws' h₁ F₁ N₁ l1 hI' hC' hL'
  have hwl : ws'.length = (ns.take 16).length := hI'.length
  refine LCg.CompSrc.ledger hh F₁ N₁ List.mem_cons_self (by simp only [List.size_toArray, PySem.sizeLine_eq]; omega) ?_
  intro g'
  refine comp_strs (fun i => pc6 ((ns.take 16).getD i 0)) (.inr ⟨_, List.mem_cons_self, rfl, _, rfl⟩) ?turn ?fin
  case turn =>
    intro i v I oI C oC D'' m₂ ys h tk E' hi hv hC hx F' N'
    have hv' : ws'[i]? = some v := by simpa using hv
    have hi' : i < (ns.take 16).length := by rw [← hwl]; exact (List.getElem?_eq_some_iff.mp hv').1
    obtain ⟨t, ht⟩ := hI'.get i (ns.take 16)[i] (List.getElem?_eq_getElem hi')
    rw [hv'] at ht
    obtain rfl := Option.some.inj ht
    have hg : (ns.take 16).getD i 0 = (ns.take 16)[i] := (List.getElem_eq_getD (h := hi') 0).symm
    rw [hg]
    generalize (ns.take 16)[i] = k at hx hv ht
    clear fin hg hI' hC' hL' hwl hv' hi' l1 N₁ F₁ hI hL
    have hf0 := Int.fmod_nonneg_of_pos k (b := 3) (by decide)
    have hf1 := Int.fmod_lt_of_pos k (b := 3) (by decide)
    have hr0 := Int.fmod_nonneg_of_pos (k.fdiv 3) (b := 256) (by decide)
    have hr1 := Int.fmod_lt_of_pos (k.fdiv 3) (b := 256) (by decide)
    repeat ((fail_if_success (with_reducible show wpAny _ _ (subscriptTail _ _ _ _) _ _ _)); first | (k_unfold; (try dsimp only)) | walk1 | (dsimp only; walk1))
    refine tup_z (by assumption) List.mem_cons_self (.cons _ _ (.cons _ _ (.cons _ _ .nil))) hf0 hf1 rfl ?_ (Nat.le_of_ble_eq_true rfl)
    intro t9
    exact ⟨_, _, _, rfl, rfl, by assumption, fun q hq => (by assumption : News base L _ (_ :: _ :: _ :: _ :: _ :: news)) q (List.mem_cons_of_mem _ hq)⟩
  case fin =>
    intro ys hy
    have he : (List.range ws'.toArray.size).map (fun i => pc6 ((ns.take 16).getD i 0)) = (ns.take 16).map pc6 := by
      rw [List.size_toArray, hwl]
      exact range_map (ns.take 16) pc6
    rw [he] at hy
    unfold LCg.FinE
    intro D3 h3 tk3 F3 N3 o3
    have hB : ∀ a ∈ (ns.take 16).map pc6, a.length ≤ 10 := fun a ha => by
      obtain ⟨n, _, rfl⟩ := List.mem_map.mp ha
      exact Nat.le_trans (pc6_len n).2 (by decide)
    have hn : ((ns.take 16).map pc6).length ≤ 1000 := by rw [List.length_map, List.length_take]; omega
    clear N₁ F₁
    k_steps
    exact fin _ _ _ (by assumption) (fun q hq => (by assumption : News base L _ (_ :: _ :: news)) q (List.mem_cons_of_mem _ (List.mem_cons_of_mem _ hq)))
local macro_rules | `(tactic| walk_at "call builtin:len") => `(tactic| (k_here; (with_reducible show wpAny _ _ (call (Value.builtin "len") [Value.ref _]) _ _ _); k_dflt (refine' len_atE ?N ?m ?e ?z ?_; (case N => k_asm); (case m => with_reducible assumption); (case e => with_reducible assumption); (case z => omega)); intro t' k'))
def lst6 (ns : List Int) : Str := if (ns.length : Int).fmod 2 = 0 then one (ns.sum.fmod 92).toNat else Str.ofString "\\"
theorem s_last6 {w : World} {loose : List Str} {mean : ExcName → Option Value} {mg mb : Str → Option Value} {A : Around} {a : Addr} {cd : Value}
    {base : Heap} {L : Addr} {m : Str → Option Value} {s : Shared} {E : Value → Shared → Prop} {Q : Flow → Shared → Prop} {news : List (Addr × Obj)} {D : Addr} {ws : List Value} {ns : List Int} {S : Str} {st : Tok}
    (F : Fr base L s.heap m) (X : (hd.heap_1 w.params).In base) (N : News base L s.heap news) (T : Top hd.view_39 loose mean mg mb base) (hh : A.handled = none)
    (hm : Has m [(Str.ofString "script", .ref D), (Str.ofString "text", .str S st)]) (hL : base.IsList D ws.toArray) (hI : IntsAre ws ns) (hlen : ns.length ≤ 63) (hS : S.length ≤ 100)
    (hQ : ∀ h' tk t, Fr base L h' (setM m (Str.ofString "text") (.str (S ++ lst6 ns) t)) → News base L h' news → Q .next { s with heap := h', toks := tk }) :
    wpAny (model PySem.Challenge.rw_kq0016_06.row.prog w) A (exec (lawStmt 1) (lawEnv L a cd)) Q E s := by
  have fin : ∀ h' tk t y, y = S ++ lst6 ns → Fr base L h' (fun z => if z = Str.ofString "text" then some (.str y t) else chainOf [(Str.ofString "script", .ref D), (Str.ofString "text", .str S st)] m z) → News base L h' news → Q .next { s with heap := h', toks := tk } :=
    fun h' tk t y e F' N' => by subst e; exact hQ h' tk t (hm.back F') N'
  refine law_lit (by conv => lhs; whnf) (by conv => lhs; whnf) ?_
  have F₁ := hm.fr F
  dsimp only [chainOf] at F₁
  clear F hQ hm
  k_steps
  · exact fin _ _ _ _ (by unfold lst6; rw [if_neg (by assumption)]) (by assumption) (by assumption)
  · exact fin _ _ _ _ (by unfold lst6; rw [if_pos (by assumption)]) (by assumption) (by assumption)
local macro_rules | `(tactic| walk_at "call type:bytes") => `(tactic| (k_here; (with_reducible show wpAny _ _ (call (Value.type "bytes") [Value.ref _]) _ _ _); k_dflt (refine' KBa.make_K ?_ ?_ ?_ ?hl ?_ ?hr ?_ ?_; (all_goals (try walk_at "z1")); (case hl => exact ⟨_, (by assumption : News _ _ _ ((_, LCg.lst _) :: _)).get List.mem_cons_self, rfl, _, rfl⟩); (case hr => assumption); (all_goals (try walk_at "z2"))); intro h' t' k' F' N' hin'))
local macro_rules | `(tactic| walk_at "call builtin:ord") => `(tactic| (k_here; (with_reducible show wpAny _ _ (call (Value.builtin "ord") [Value.str _ _]) _ _ _); (refine ord_of_one (by rfl) ?_)))
theorem s_oct6 {w : World} {loose : List Str} {mean : ExcName → Option Value} {mg mb : Str → Option Value} {A : Around} {a : Addr} {cd : Value}
    {base : Heap} {L : Addr} {m : Str → Option Value} {s : Shared} {E : Value → Shared → Prop} {Q : Flow → Shared → Prop} {news : List (Addr × Obj)} {D : Str} {Dt : Tok}
    (F : Fr base L s.heap m) (X : (hd.heap_1 w.params).In base) (N : News base L s.heap news) (T : Top hd.view_39 loose mean mg mb base) (hh : A.handled = none)
    (hm : Has m [(Str.ofString "text", .str D Dt)]) (hD : D.length ≤ 2000) (h256 : ∀ c ∈ D.cps.toList, c < 256)
    (hQ : ∀ h' tk B t, nums B = D.cps.toList → Fr base L h' (setM m (Str.ofString "octets") (.bytes B t)) → News base L h' news → Q .next { s with heap := h', toks := tk }) :
    wpAny (model PySem.Challenge.rw_kq0016_06.row.prog w) A (exec (lawStmt 2) (lawEnv L a cd)) Q E s := by
  have fin : ∀ h' tk B t, nums B = D.cps.toList → Fr base L h' (fun y => if y = Str.ofString "octets" then some (.bytes B t) else chainOf [(Str.ofString "text", .str D Dt)] m y) → News base L h' news → Q .next { s with heap := h', toks := tk } :=
    fun h' tk B t g F' N' => hQ h' tk B t g (hm.back F') N'
  refine law_lit (by conv => lhs; whnf) (by conv => lhs; whnf) ?_
  have F₁ := hm.fr F
  dsimp only [chainOf] at F₁
  clear F hQ hm
  have hsz : D.cps.size ≤ 2000 := hD
  repeat ((fail_if_success (with_reducible show wpAny _ _ (eval (Expr.ListComp _ _ _ _) _) _ _ _)); first | (k_unfold; (try dsimp only)) | walk1 | (dsimp only; walk1))
  refine comp_text (X := D) (t := Dt) (cl := []) (news := news) (by assumption) (by rfl) (by decide) (by rfl) (by decide) (by rfl) hh (by rw [sizeLine_eq]; omega) ?_
  k_steps
  · assumption
  · assumption
  · rename_i s₂ hs₂
    obtain ⟨h2, rfl⟩ := hs₂
    refine comp_ints (fun i => ((D.cps.getD i 0 : Nat) : Int)) trivial ?turn ?fin
    case turn =>
      intro i v I oI C oC D' m₂ ys h tk E' hi hv hC hx F' N'
      obtain ⟨c, u, hc, rfl⟩ := hv
      have hcv : D.cps.getD i 0 = c := by
        unfold Array.getD
        have : D.cps[i] = c := by rw [Array.getElem?_eq_getElem hi] at hc; exact Option.some.inj hc
        simp [hi, this]
      rw [hcv]
      k_steps
      exact ⟨_, _, _, rfl, rfl, by assumption, by assumption⟩
    case fin =>
      intro ys hI
      rw [range_codes] at hI
      unfold LCg.FinE
      intro D' h' tk' F' N' o1
      have hin := codes_in h256
      have hcl : (codes D).length ≤ 16777216 := by have : (codes D).length = D.cps.size := by simp [codes]
                                                   omega
      k_steps
      exact fin _ _ _ _ (nums_codes h256) (by assumption) (fun q hq => (by assumption : News base L _ ((_, LCg.lst ys) :: news)) q (List.mem_cons_of_mem _ hq))
end Mine
end

section
open PySem PySem.W PySem.Calls PySem.Spec PyProof.Rows
set_option maxRecDepth 100000
set_option maxHeartbeats 1000000
namespace Mine
/-! narrowed words -/
theorem narL_app (a b : List Nat) : narL (a ++ b) = narL a ++ narL b := by unfold narL; rw [List.map_append, cat_app]
theorem narL_asc : ∀ {l : List Nat}, (∀ c ∈ l, c < 128) → (narL l).cps.toList = l
  | [], _ => by decide +kernel
  | c :: l, h => by
    have e : narL (c :: l) = narL [c] ++ narL l := narL_app [c] l
    have h1 : narL [c] = one c := by
      have : narC c = one c := by unfold narC; rw [if_pos (h c List.mem_cons_self)]
      show cat [narC c] = one c
      rw [this]
      exact str_ext (by rw [cat_cps]; simp [sg])
    rw [e, app_cps, h1, narL_asc fun z hz => h z (List.mem_cons_of_mem _ hz)]
    rfl
theorem narS_asc {x : Str} (h : ∀ c ∈ x.cps.toList, c < 128) : narL x.cps.toList = x := str_ext (narL_asc h)
theorem asc_nat (m : Nat) : ∀ c ∈ (Str.ofString (toString ((m : Nat) : Int))).cps.toList, c < 128 := by
  intro c hc
  rw [KIN.signs_num] at hc
  obtain ⟨d, hd, rfl⟩ := List.mem_map.mp hc
  have := Nat.isDigit_of_mem_toDigits (b := 10) (by decide) (by decide) hd
  simp only [Char.isDigit, Bool.and_eq_true, decide_eq_true_eq] at this
  have h2 : d.toNat ≤ 57 := this.2
  omega
theorem asc_int (n : Int) : ∀ c ∈ (Str.ofString (toString n)).cps.toList, c < 128 := by
  by_cases h : n < 0
  · rw [toString_neg h, app_cps]
    intro c hc
    rcases List.mem_append.mp hc with hc | hc
    · have : ∀ c ∈ (Str.ofString "-").cps.toList, c < 128 := by decide +kernel
      exact this c hc
    · exact asc_nat _ c hc
  · obtain ⟨m, rfl⟩ := Int.eq_ofNat_of_zero_le (Int.not_lt.mp h)
    exact asc_nat m
theorem nar_head (msg : Str) (p : Int) : narL (peHead msg p).cps.toList = peHead (narL msg.cps.toList) p := by
  unfold peHead
  rw [app_cps, app_cps, narL_app, narL_app, narS_asc (asc_int p), narS_asc (x := Str.ofString " at position ") (by decide +kernel)]
theorem nar_words (msg : Str) (l : List Nat) (p : Int) : narL (wordsZ msg l p).cps.toList = wordsZ (narL msg.cps.toList) l p := by
  unfold wordsZ
  split
  · rw [app_cps, app_cps, app_cps, app_cps, app_cps, narL_app, narL_app, narL_app, narL_app, narL_app, nar_head, narS_asc (asc_int _), narS_asc (asc_int _), narS_asc (x := Str.ofString " (line ") (by decide +kernel), narS_asc (x := Str.ofString ", column ") (by decide +kernel), narS_asc (x := Str.ofString ")") (by decide +kernel)]
  · exact nar_head msg p
/-! what a deed leaves -/
theorem gwZ_ok {D : Str} {P : Str → Bool} : ∀ (k : Nat) {i : Int} {o : Option Str} {r : Str}, Bz D i → OkO o → match gwZ D P k i o r with | .done _ i' o' => Bz D i' ∧ OkO o' | .bad i' o' => Bz D i' ∧ OkO o'
  | 0, i, o, r, h1, h2 => ⟨h1, h2⟩
  | k + 1, i, none, r, h1, h2 => ⟨h1, h2⟩
  | k + 1, i, some c, r, h1, h2 => by
    unfold gwZ
    by_cases hp : P c = true
    · rw [if_pos hp]
      cases hs : stepZ D i with
      | none => exact ⟨h1, h2⟩
      | some p => exact gwZ_ok k (stepZ_bz hs h1) (okO_step hs)
    · rw [if_neg hp]; exact ⟨h1, h2⟩
theorem of_ok {k : Str} {v : GotV} {D : Str} {i j : Int} {o : Option Str} (h1 : Bz D j) (h2 : OkO o) : Bz D (Got.of k v (stepZ D j) D j o).i ∧ OkO (Got.of k v (stepZ D j) D j o).o := by
  cases hs : stepZ D j with
  | none => exact ⟨h1, h2⟩
  | some p => exact ⟨stepZ_bz hs h1, okO_step hs⟩
theorem gotZ_ok {D : Str} {i : Int} {o : Option Str} {dn num : Int} (h1 : Bz D i) (h2 : OkO o) : Bz D (gotZ D i o dn num).i ∧ OkO (gotZ D i o dn num).o := by
  unfold gotZ
  split
  · exact of_ok (i := i) h1 h2
  split
  · exact of_ok (i := i) h1 h2
  split
  · have a := Int.fmod_nonneg_of_pos num (b := 2 * (D.length : Int) + 3) (by omega)
    have b := Int.fmod_lt_of_pos num (b := 2 * (D.length : Int) + 3) (by omega)
    exact of_ok (i := i) (by unfold Bz; omega) h2
  split
  · have := gwZ_ok (D := D) (P := setZ (o.getD (Str.ofString "a")) num) (num.fmod 4).toNat (r := Str.ofString "") h1 h2
    split <;> rename_i e <;> rw [e] at this <;> exact this
  · exact ⟨h1, h2⟩
/-- what is told is short, of signs that there are -/
def GFit (out : Got) : Prop := match out with
  | .told k msg pos _ _ => msg.length ≤ 100 ∧ (∀ c ∈ msg.cps.toList, c < 1114112) ∧ -10000 ≤ pos ∧ pos ≤ 10000
  | _ => True
theorem bad_fit {D : Str} {k : Str} {i : Int} {o : Option Str} (hD : D.length ≤ 2000) : GFit (.told k badZ ((D.length : Int) - 1) i o) := ⟨by decide +kernel, by decide +kernel, by omega, by omega⟩
theorem gotZ_fit {D : Str} {i : Int} {o : Option Str} {dn num : Int} (hD : D.length ≤ 2000) (h1 : Bz D i) (h2 : OkO o) : GFit (gotZ D i o dn num) := by
  have of_fit : ∀ {k v j o}, GFit (Got.of k v (stepZ D j) D j o) := fun {k v j o} => by
    cases stepZ D j with
    | none => exact bad_fit hD
    | some p => trivial
  unfold gotZ
  split
  · exact of_fit
  split
  · exact of_fit
  split
  · exact of_fit
  split
  · split
    · trivial
    · exact bad_fit hD
  · have a := Int.fmod_nonneg_of_pos num (b := 8) (by decide)
    have b := Int.fmod_lt_of_pos num (b := 8) (by decide)
    have c := Int.fmod_nonneg_of_pos (num.fdiv 8) (b := 7) (by decide)
    have d := Int.fmod_lt_of_pos (num.fdiv 8) (b := 7) (by decide)
    have e := olen_z h2
    unfold Bz at h1
    have key : ∀ k : Int, 0 ≤ k → k < 8 → (Txt.slice msgZ (some k) none).length ≤ 100 ∧ ∀ c ∈ (Txt.slice msgZ (some k) none).cps.toList, c < 1114112 := by
      intro k h0 h8
      obtain ⟨n, rfl⟩ := Int.eq_ofNat_of_zero_le h0
      have hn : n < 8 := Int.ofNat_lt.mp h8
      match n, hn with
      | 0, _ => exact ⟨by decide +kernel, by decide +kernel⟩
      | 1, _ => exact ⟨by decide +kernel, by decide +kernel⟩
      | 2, _ => exact ⟨by decide +kernel, by decide +kernel⟩
      | 3, _ => exact ⟨by decide +kernel, by decide +kernel⟩
      | 4, _ => exact ⟨by decide +kernel, by decide +kernel⟩
      | 5, _ => exact ⟨by decide +kernel, by decide +kernel⟩
      | 6, _ => exact ⟨by decide +kernel, by decide +kernel⟩
      | 7, _ => exact ⟨by decide +kernel, by decide +kernel⟩
    exact ⟨(key _ a b).1, (key _ a b).2, by omega, by omega⟩
end Mine
end

section
open PySem PySem.W PySem.Calls PySem.Spec PyProof.Rows
set_option maxRecDepth 100000
set_option maxHeartbeats 1000000
namespace Mine
/-- the law's text -/
def D6 (ns : List Int) : Str := cat ((ns.take 16).map pc6) ++ lst6 ns
theorem lst6_len (ns : List Int) : (lst6 ns).length = 1 := by unfold lst6; split <;> rfl
theorem cat_ones : ∀ {l : List Str}, (∀ a ∈ l, a.length = 1) → (cat l).length = l.length
  | [], _ => by decide +kernel
  | a :: l, h => by
    rw [show a :: l = [a] ++ l from rfl, cat_app, Str.length_append, cat_ones fun z hz => h z (List.mem_cons_of_mem _ hz), List.length_append]
    have : (cat [a]).length = a.length := by rw [cat_len]; simp
    rw [this, h a List.mem_cons_self, List.length_singleton]
theorem s6_len (ns : List Int) : (cat ((ns.take 16).map pc6)).length = min 16 ns.length := by
  rw [cat_ones (fun a ha => by
    obtain ⟨n, _, rfl⟩ := List.mem_map.mp ha
    exact Nat.le_antisymm (pc6_len n).2 (pc6_len n).1), List.length_map, List.length_take]
theorem d6_len (ns : List Int) : (D6 ns).length = min 16 ns.length + 1 := by unfold D6; rw [Str.length_append, s6_len, lst6_len]
theorem one_small {k : Int} (h0 : 0 ≤ k) (h1 : k < 256) : ∀ c ∈ (one k.toNat).cps.toList, c < 256 := by
  intro c hc
  have : c = k.toNat := by simpa [one] using hc
  omega
theorem pc6_small (n : Int) : ∀ c ∈ (pc6 n).cps.toList, c < 256 := by
  rcases pc6_is n with h | h | h <;> rw [h]
  · decide +kernel
  · decide +kernel
  · exact one_small (Int.fmod_nonneg_of_pos _ (by decide)) (Int.fmod_lt_of_pos _ (by decide))
theorem lst6_small (ns : List Int) : ∀ c ∈ (lst6 ns).cps.toList, c < 256 := by
  unfold lst6
  split
  · exact one_small (Int.fmod_nonneg_of_pos _ (by decide)) (Int.lt_trans (Int.fmod_lt_of_pos _ (b := 92) (by decide)) (by decide))
  · decide +kernel
theorem d6_small (ns : List Int) : ∀ c ∈ (D6 ns).cps.toList, c < 256 := by
  unfold D6
  rw [app_cps, cat_cps]
  intro c hc
  rcases List.mem_append.mp hc with hc | hc
  · obtain ⟨l, hl, h⟩ := List.mem_flatten.mp hc
    obtain ⟨y, hy, rfl⟩ := List.mem_map.mp hl
    obtain ⟨n, _, rfl⟩ := List.mem_map.mp hy
    exact pc6_small n c h
  · exact lst6_small ns c hc
theorem chAt_nat {D : Str} {k : Nat} (h : k < D.length) : chAt D (k : Int) = D.cps.toList[k]? := by
  unfold chAt seqIndex?
  have h1 : ¬ ((k : Int) < 0) := by omega
  simp only [h1, if_false]
  have h2 : (decide (0 ≤ (k : Int)) && decide ((k : Int) < (D.length : Int))) = true := by simp; omega
  rw [if_pos h2]
  rfl
theorem slice2 {D : Str} (h : 2 ≤ D.length) : Txt.slice D none (some 2) = ⟨((D.cps.toList.drop 0).take 2).toArray⟩ := by
  exact StrLaws.sliceText_to ⟨by decide, by simp [Str.length] at h ⊢; omega⟩
/-- how the readers stand at the start -/
def First6 (D : Str) (i1 : Int) (y : Str) : Prop := stepZ D 0 = some (i1, some y) ∧ i1 = y.length ∧ ∃ c, Txt.item D 0 = one c ∧ ((c = 92 ∧ y = Txt.slice D none (some 2)) ∨ (c ≠ 92 ∧ y = one c))
theorem d6_first (ns : List Int) : ∃ i1 y, First6 (D6 ns) i1 y := by
  have hl := d6_len ns
  have hsz : (D6 ns).cps.toList.length = (D6 ns).length := by simp [Str.length]
  obtain ⟨c, r, hc⟩ : ∃ c r, (D6 ns).cps.toList = c :: r := by
    cases h : (D6 ns).cps.toList with
    | nil => rw [h] at hsz; simp at hsz; omega
    | cons c r => exact ⟨c, r, rfl⟩
  have h0 : chAt (D6 ns) 0 = some c := by
    rw [show (0 : Int) = ((0 : Nat) : Int) from rfl, chAt_nat (by omega)]
    show (D6 ns).cps.toList[0]? = _
    rw [hc]; rfl
  by_cases h9 : c = 92
  · subst h9
    have h2 : 2 ≤ (D6 ns).length := by
      rcases Nat.lt_or_ge (D6 ns).length 2 with h | h
      · have hn : ns = [] := List.eq_nil_of_length_eq_zero (by omega)
        subst hn
        have : (D6 []).cps.toList = [0] := by decide +kernel
        rw [this] at hc; cases hc
      · exact h
    obtain ⟨d, r, rfl⟩ : ∃ d r', r = d :: r' := by
      cases r with
      | nil => rw [hc] at hsz; simp at hsz; omega
      | cons d r => exact ⟨d, r, rfl⟩
    have h1 : chAt (D6 ns) (0 + 1) = some d := by
      rw [show (0 + 1 : Int) = ((1 : Nat) : Int) from rfl, chAt_nat (by omega)]
      show (D6 ns).cps.toList[1]? = _
      rw [hc]; rfl
    refine ⟨2, one 92 ++ one d, ?_, by rw [Str.length_append]; rfl, 92, item_z h0, .inl ⟨rfl, ?_⟩⟩
    · unfold stepZ; rw [h0]; dsimp only; rw [if_pos rfl, h1]; rfl
    · rw [slice2 h2]
      refine str_ext ?_
      show _ = ((D6 ns).cps.toList.drop 0).take 2
      rw [hc, app_cps]; rfl
  · refine ⟨1, one c, ?_, rfl, c, item_z h0, .inr ⟨h9, rfl⟩⟩
    unfold stepZ; rw [h0]; dsimp only; rw [if_neg h9]; rfl
end Mine
end

section
open PySem PySem.W PySem.Calls PySem.Spec PyProof.Rows
set_option maxRecDepth 100000
set_option maxHeartbeats 1000000
namespace Mine
/-- two values that are equal and flat, or both None, or the same truth value -/
def SameO (x y : Value) : Prop := (x = .none ∧ y = .none) ∨ (∃ b, x = .bool b ∧ y = .bool b) ∨ SameV x y
theorem SameO.at {A : Around} {s : Shared} {x y : Value} (h : SameO x y) : SeqAt.EqAt A s x y true := by
  rcases h with ⟨rfl, rfl⟩ | ⟨b, rfl, rfl⟩ | h
  · exact SeqAt.EqAt.same _
  · exact SeqAt.EqAt.same _
  · exact h.eqg.at _ _
inductive AllO : List Value → List Value → Prop
  | nil : AllO [] []
  | cons {x y : Value} {xs ys : List Value} (h : SameO x y) (t : AllO xs ys) : AllO (x :: xs) (y :: ys)
theorem AllO.len : ∀ {xs ys : List Value}, AllO xs ys → xs.length = ys.length
  | _, _, .nil => rfl
  | _, _, .cons _ t => by simp [t.len]
theorem AllO.at : ∀ {xs ys : List Value}, AllO xs ys → ∀ j (h1 : j < xs.length) (h2 : j < ys.length), SameO xs[j] ys[j]
  | _, _, .nil, j, h1, _ => absurd h1 (Nat.not_lt_zero _)
  | _, _, .cons h _, 0, _, _ => h
  | _, _, .cons _ t, j + 1, h1, h2 => t.at j (Nat.lt_of_succ_lt_succ h1) (Nat.lt_of_succ_lt_succ h2)
abbrev tupO (vs : List Value) : Obj := { cls := .type "tuple", data := .seq vs.toArray }
section
variable {prog : Program} {w : World} {A : Around} {E : Value → Shared → Prop} {s : Shared} {Q : Value → Shared → Prop} {h₀ : Heap} {L a b : Addr} {news : List (Addr × Obj)} {vs ws : List Value} {n1 n2 : Nat}
theorem all_true (n : Nat) : (List.range n).all (fun _ => true) = true := by simp
theorem ne_tups (N : News h₀ L s.heap news) (ha : (a, tupO vs) ∈ news) (hb : (b, tupO ws) ∈ news) (hs : AllO vs ws) (hu : A.units < cLine) (h : Q (.bool false) s) : wpAny (model prog w) A (compareOp .NotEq (.ref a) (.ref b)) Q E s := by
  refine SeqAt.RcNeAt.tuples (e := fun _ => true) ⟨_, (N _ ha).1, rfl, 0, rfl⟩ ⟨_, (N _ hb).1, rfl, 0, rfl⟩ hu (fun j h1 h2 => ?_) prog w E Q ?_
  · exact (hs.at j (by simpa using h1) (by simpa using h2)).at
  · rw [all_true, List.size_toArray, List.size_toArray, hs.len, beq_self_eq_true]
    exact h
theorem eq_tups (N : News h₀ L s.heap news) (ha : (a, tupO vs) ∈ news) (hb : (b, tupO ws) ∈ news) (hs : AllO vs ws) (hu : A.units < cLine) (h : Q (.bool true) s) : wpAny (model prog w) A (compareOp .Eq (.ref a) (.ref b)) Q E s := by
  refine SeqAt.eq_tupleAt (e := fun _ => true) ⟨_, (N _ ha).1, rfl, 0, rfl⟩ ⟨_, (N _ hb).1, rfl, 0, rfl⟩ hu (fun j h1 h2 => ?_) ?_
  · exact (hs.at j (by simpa using h1) (by simpa using h2)).at
  · rw [all_true, List.size_toArray, List.size_toArray, hs.len, beq_self_eq_true]
    exact h
theorem ne_lsts (N : News h₀ L s.heap news) (ha : (a, W.listOf vs.toArray n1) ∈ news) (hb : (b, W.listOf ws.toArray n2) ∈ news) (hs : AllO vs ws) (hu : A.units < cLine) (h : Q (.bool false) s) : wpAny (model prog w) A (compareOp .NotEq (.ref a) (.ref b)) Q E s := by
  refine SeqAt.RcNeAt.lists (e := fun _ => true) ⟨_, (N _ ha).1, rfl, _, rfl⟩ ⟨_, (N _ hb).1, rfl, _, rfl⟩ (by simp [hs.len]) hu (fun j h1 h2 => ?_) prog w E Q ?_
  · exact (hs.at j (by simpa using h1) (by simpa using h2)).at
  · rw [all_true]
    exact h
end
theorem nvIs_same {u v : Value} {o : Option Str} (h1 : NvIs u o) (h2 : NvIs v o) : SameO u v := by
  cases o with
  | none => exact .inl ⟨h1, h2⟩
  | some y => obtain ⟨t, rfl⟩ := h1; obtain ⟨t', rfl⟩ := h2; exact .inr (.inr (SameV.str _ _ _))
theorem gotV_same {v : GotV} {x y : Value} (h1 : v.Is x) (h2 : v.Is y) : SameO x y := by
  cases v with
  | opt o => exact nvIs_same h1 h2
  | tt => exact .inr (.inl ⟨true, h1, h2⟩)
  | no => exact .inl ⟨h1, h2⟩
  | txt r => obtain ⟨t, rfl⟩ := h1; obtain ⟨t', rfl⟩ := h2; exact .inr (.inr (SameV.str _ _ _))
end Mine
end

section
open PySem PySem.W PySem.Calls PySem.Spec PyProof.Rows
set_option maxRecDepth 100000
set_option maxHeartbeats 2000000
namespace Mine
theorem anew12 : True := by
  w_top off
  exact True.intro
open TI
theorem fillNW6 (P : Params) : hd.heap_1 P = hd.heap_1 P ∧ PySem.Challenge.rw_kq0016_06 = PySem.Challenge.rw_kq0016_06 := by
  k_fill
  exact ⟨rfl, rfl⟩
local macro_rules | `(tactic| walk_at "call ref") => `(tactic| (k_here; (with_reducible show wpAny _ _ (call (Value.ref 65) _) _ _ _); k_dflt (refine' step_ok (i := 0) ?_ ?_ ?_ ?_ ?_ ?_ ?_ ?_ ?_ ?_ ?_ ?_ ?_ ?hi0 ?hi ?_ ?_; (all_goals (try walk_at "z1")); (case hi0 => decide); (case hi => decide); (all_goals (try walk_at "z2"))); intro h' sl' qs' tk' it' nv' NI' SU' Fs' F' N'; (try dsimp only)))
theorem new_xS {w : World} {loose : List Str} {mean : ExcName → Option Value} {mg mb : Str → Option Value} {A : Around} {ce : Env}
    {base : Heap} {L : Addr} {m : Str → Option Value} {s : Shared} {Q E : Value → Shared → Prop} {new : List (Addr × Obj)} {D : Str} {dt : Tok} {i1 : Int} {o1 : Option Str}
    (F : Fr base L s.heap m) (X : (hd.heap_1 w.params).In base) (N : News base L s.heap (new ++ [])) (T : Top hd.view_39 loose mean mg mb base)
    (hcs : EvAt ce L) (hA : A.frames = some [ce]) (hh : A.handled = none) (hd' : A.depth + 20 < recursionLimit)
    (hD : D.length ≤ 2000) (hs : stepZ D 0 = some (i1, o1))
    (hQ : ∀ h' tk x dx k1 k2 k3 k4 k5 st dt' it' nv', Fr base L h' m → News base L h' ((x, instObj 133 dx) :: (dx, tokD w.params k1 k2 k3 k4 k5 true (.str D st) (.str D dt') (.int i1 it') nv') :: (new ++ [])) → NvIs nv' o1 → (∀ q ∈ new ++ [], q.1 ≠ dx) → (∀ q ∈ new ++ [], q.1 ≠ x) → Q (.ref x) { s with heap := h', toks := tk }) :
    wpAny (model PySem.Challenge.rw_kq0016_06.row.prog w) A (call (.ref 133) [.str D dt]) Q E s := by
  k_dflt (refine' call_cls ?k1 ?k2 ?k3 ?k4 ?k5 ?k6 ?_; (case k1 => k_asm); (case k2 => k_asm); (case k3 => k_asm); (case k4 => k_is); (case k5 => k_is); (case k6 => k_is))
  intro x d h' F' N' l1 l2
  have Fs : Frs [] [] := trivial
  have hap : ∀ q ∈ new, q.1 ∉ ([] : List (Addr × Obj)).map (·.1) := by simp
  have hxd : x ≠ d := Ne.symm (Nat.ne_of_lt l2)
  refine enterV (ev := ce) F' X N' T Fs rfl (by kernel_rfl) (by show A.depth + 1 < recursionLimit; omega) (BindsTo.of_eq rfl) (locs rfl) (fun oL L' h₁ Cl Fs₁ F₁ N₁ hne hltL => ?_) hcs rfl rfl rfl (by decide)
  have N₂ : News base L' h₁ ((x, instObj 133 d) :: (d, dictOf [] 0) :: (new ++ ((L, { oL with slots := oL.slots }) :: []))) := fun q hq => N₁ q (mem_i1 hq)
  have hLd : L ≠ d := Ne.symm (hne (d, dictOf [] 0) (List.mem_cons_of_mem _ List.mem_cons_self))
  have hLx : L ≠ x := Ne.symm (hne (x, instObj 133 d) List.mem_cons_self)
  have hnL : ∀ q ∈ new ++ [], q.1 ≠ L := fun q hq => hne q (List.mem_cons_of_mem _ (List.mem_cons_of_mem _ hq))
  have hdx : ∀ q ∈ new ++ [], q.1 ≠ d := fun q hq => Nat.ne_of_lt (l1 q hq)
  have hxn : ∀ q ∈ new ++ [], q.1 ≠ x := fun q hq => Nat.ne_of_lt (Nat.lt_trans (l1 q hq) l2)
  have hxf : ∀ q ∈ ([] : List (Addr × Obj)), q.1 ≠ x := fun q hq => hxn q (List.mem_append_right _ hq)
  obtain ⟨hdx', hxf', hap'⟩ := ff (oL := { oL with slots := oL.slots }) hdx hxf hap hLd hLx hnL (SameUp.refl [])
  have Fs₂ : Frs (ce :: []) ((L, { oL with slots := oL.slots }) :: []) := Fs₁
  clear N₁ Fs₁
  k_steps
  have SU := ‹SameUp [] _›
  obtain rfl := sameUp_nil SU
  obtain ⟨r1, r2⟩ := fin2 (new := new) Cl (by assumption) (by assumption) hLx hLd hnL
  refine ⟨rfl, ?_⟩
  exact hQ _ _ x d _ _ _ _ _ _ _ _ _ r1 r2 (by assumption) hdx hxn
local macro_rules | `(tactic| walk_at "call type:str") => `(tactic| ((with_reducible rename LatTo _ _ => xE); refine xE _ _ _ _ _ _ _ _ ?_; intro t' k'))
theorem new_xB {w : World} {loose : List Str} {mean : ExcName → Option Value} {mg mb : Str → Option Value} {A : Around} {ce : Env}
    {base : Heap} {L : Addr} {m : Str → Option Value} {s : Shared} {Q E : Value → Shared → Prop} {new : List (Addr × Obj)} {D : Str} {B : Array UInt8} {dt : Tok} {i1 : Int} {o1 : Option Str}
    (F : Fr base L s.heap m) (X : (hd.heap_1 w.params).In base) (N : News base L s.heap (new ++ [])) (T : Top hd.view_39 loose mean mg mb base)
    (hcs : EvAt ce L) (hA : A.frames = some [ce]) (hh : A.handled = none) (hd' : A.depth + 20 < recursionLimit)
    (hD : D.length ≤ 2000) (hs : stepZ D 0 = some (i1, o1)) (hB : nums B = D.cps.toList) (hlat : LatTo B D)
    (hQ : ∀ h' tk x dx k1 k2 k3 k4 k5 st dt' it' nv', Fr base L h' m → News base L h' ((x, instObj 133 dx) :: (dx, tokD w.params k1 k2 k3 k4 k5 false (.bytes B st) (.str D dt') (.int i1 it') nv') :: (new ++ [])) → NvIs nv' o1 → (∀ q ∈ new ++ [], q.1 ≠ dx) → (∀ q ∈ new ++ [], q.1 ≠ x) → Q (.ref x) { s with heap := h', toks := tk }) :
    wpAny (model PySem.Challenge.rw_kq0016_06.row.prog w) A (call (.ref 133) [.bytes B dt]) Q E s := by
  k_dflt (refine' call_cls ?k1 ?k2 ?k3 ?k4 ?k5 ?k6 ?_; (case k1 => k_asm); (case k2 => k_asm); (case k3 => k_asm); (case k4 => k_is); (case k5 => k_is); (case k6 => k_is))
  intro x d h' F' N' l1 l2
  have Fs : Frs [] [] := trivial
  have hap : ∀ q ∈ new, q.1 ∉ ([] : List (Addr × Obj)).map (·.1) := by simp
  have hxd : x ≠ d := Ne.symm (Nat.ne_of_lt l2)
  refine enterV (ev := ce) F' X N' T Fs rfl (by kernel_rfl) (by show A.depth + 1 < recursionLimit; omega) (BindsTo.of_eq rfl) (locs rfl) (fun oL L' h₁ Cl Fs₁ F₁ N₁ hne hltL => ?_) hcs rfl rfl rfl (by decide)
  have N₂ : News base L' h₁ ((x, instObj 133 d) :: (d, dictOf [] 0) :: (new ++ ((L, { oL with slots := oL.slots }) :: []))) := fun q hq => N₁ q (mem_i1 hq)
  have hLd : L ≠ d := Ne.symm (hne (d, dictOf [] 0) (List.mem_cons_of_mem _ List.mem_cons_self))
  have hLx : L ≠ x := Ne.symm (hne (x, instObj 133 d) List.mem_cons_self)
  have hnL : ∀ q ∈ new ++ [], q.1 ≠ L := fun q hq => hne q (List.mem_cons_of_mem _ (List.mem_cons_of_mem _ hq))
  have hdx : ∀ q ∈ new ++ [], q.1 ≠ d := fun q hq => Nat.ne_of_lt (l1 q hq)
  have hxn : ∀ q ∈ new ++ [], q.1 ≠ x := fun q hq => Nat.ne_of_lt (Nat.lt_trans (l1 q hq) l2)
  have hxf : ∀ q ∈ ([] : List (Addr × Obj)), q.1 ≠ x := fun q hq => hxn q (List.mem_append_right _ hq)
  obtain ⟨hdx', hxf', hap'⟩ := ff (oL := { oL with slots := oL.slots }) hdx hxf hap hLd hLx hnL (SameUp.refl [])
  have Fs₂ : Frs (ce :: []) ((L, { oL with slots := oL.slots }) :: []) := Fs₁
  clear N₁ Fs₁
  k_steps
  have SU := ‹SameUp [] _›
  obtain rfl := sameUp_nil SU
  obtain ⟨r1, r2⟩ := fin2 (new := new) Cl (by assumption) (by assumption) hLx hLd hnL
  refine ⟨rfl, ?_⟩
  exact hQ _ _ x d _ _ _ _ _ _ _ _ _ r1 r2 (by assumption) hdx hxn
/-- Tokenizer(given) at the law's level -/
theorem new_c {w : World} {loose : List Str} {mean : ExcName → Option Value} {mg mb : Str → Option Value} {A : Around} {ce : Env}
    {base : Heap} {L : Addr} {m : Str → Option Value} {s : Shared} {Q E : Value → Shared → Prop} {new : List (Addr × Obj)} {b : Bool} {gv : Value} {D : Str} {i1 : Int} {o1 : Option Str}
    (F : Fr base L s.heap m) (X : (hd.heap_1 w.params).In base) (N : News base L s.heap new) (T : Top hd.view_39 loose mean mg mb base)
    (hcs : EvAt ce L) (hA : A.frames = some [ce]) (hh : A.handled = none) (hd' : A.depth + 20 < recursionLimit) (hD : D.length ≤ 2000) (hs : stepZ D 0 = some (i1, o1)) (hg : GivenIs b gv D)
    (hQ : ∀ h' tk x dx k1 k2 k3 k4 k5 gv' dt' it' nv', GivenIs b gv' D → (∀ u v, SameV u gv' → SameV v gv → SameV u v) → Fr base L h' m → News base L h' ((x, instObj 133 dx) :: (dx, tokD w.params k1 k2 k3 k4 k5 b gv' (.str D dt') (.int i1 it') nv') :: new) → NvIs nv' o1 → (∀ q ∈ new, q.1 ≠ dx) → Q (.ref x) { s with heap := h', toks := tk }) :
    wpAny (model PySem.Challenge.rw_kq0016_06.row.prog w) A (call (.ref 133) [gv]) Q E s := by
  have en : new ++ [] = new := List.append_nil new
  rcases hg with ⟨rfl, t, rfl⟩ | ⟨rfl, B, t, rfl, hB⟩
  · refine new_xS F X (by rw [en]; exact N) T hcs hA hh hd' hD hs ?_
    · intro h' tk x dx k1 k2 k3 k4 k5 st dt' it' nv' F' N' R' q1 q2
      rw [en] at N' q1
      exact hQ h' tk x dx k1 k2 k3 k4 k5 _ dt' it' nv' (.inl ⟨rfl, _, rfl⟩) same_text F' N' R' q1
  · refine new_xB F X (by rw [en]; exact N) T hcs hA hh hd' hD hs hB (lat_to hB (by omega)) ?_
    · intro h' tk x dx k1 k2 k3 k4 k5 st dt' it' nv' F' N' R' q1 q2
      rw [en] at N' q1
      exact hQ h' tk x dx k1 k2 k3 k4 k5 _ dt' it' nv' (.inr ⟨rfl, _, _, rfl, hB⟩) same_octets F' N' R' q1
end Mine
end

local macro_rules | `(tactic| walk_at "getAttr ref") => `(tactic| (k_here; (with_reducible show wpAny _ _ (getAttr (Value.ref _) (Str.ofString "string") _) _ _ _); k_dflt (refine' attr_sm ?_ ?_ ?_ ?_ ?hx ?hd ?_ ?_; (all_goals (try walk_at "z1")); (case hx => walk_at "z3"); (case hd => walk_at "z3"); (all_goals (try walk_at "z2"))); intro h' tk' F' N'; (try k_sweep)))
local macro_rules | `(tactic| walk_at "getAttr ref") => `(tactic| (k_here; (with_reducible show wpAny _ _ (getAttr (Value.ref _) (Str.ofString "next") _) _ _ _); k_dflt (refine' attr_nm ?_ ?_ ?_ ?_ ?hx ?hd ?_ ?_; (all_goals (try walk_at "z1")); (case hx => walk_at "z3"); (case hd => walk_at "z3"); (all_goals (try walk_at "z2"))); intro h' tk' F' N'; (try k_sweep)))
local macro_rules | `(tactic| walk_at "getAttr ref") => `(tactic| (k_here; (with_reducible show wpAny _ _ (getAttr (Value.ref _) (Str.ofString "pos") _) _ _ _); k_dflt (refine' pos_m ?_ ?_ ?_ ?_ ?hx ?hd ?_ ?_ ?_; (all_goals (try walk_at "z1")); (case hx => walk_at "z3"); (case hd => walk_at "z3"); (all_goals (try walk_at "z2"))); intro h' tk' t' F' N'; (try k_sweep)))
local macro_rules | `(tactic| walk_at "call ref") => `(tactic| (k_here; (with_reducible show wpAny _ _ (call (Value.ref 108) _) _ _ _); k_dflt (refine' tell_m ?_ ?_ ?_ ?_ ?hx ?hd ?_ ?_ ?_; (all_goals (try walk_at "z1")); (case hx => walk_at "z3"); (case hd => walk_at "z3"); (all_goals (try walk_at "z2"))); intro h' tk' t' F' N'; (try k_sweep)))
local macro_rules | `(tactic| walk_at "compareOp NotEq ref ref") => `(tactic| (k_here; k_dflt (refine' ne_tups ?N ?a ?b ?s ?u ?_; (case N => k_asm); (case a => walk_at "z3"); (case b => walk_at "z3"); (case s => with_reducible assumption); (case u => ((try simp only [units_in1, units_deeper, Around.mark_units]); omega)))))
section
open PySem PySem.W PySem.Calls PySem.Spec PyProof.Rows
set_option maxRecDepth 100000
set_option maxHeartbeats 2000000
namespace Mine
theorem anew13 : True := by
  w_top off
  exact True.intro
open TI
theorem fillL6B (P : Params) : hd.heap_1 P = hd.heap_1 P ∧ PySem.Challenge.rw_kq0016_06 = PySem.Challenge.rw_kq0016_06 := by
  k_fill
  exact ⟨rfl, rfl⟩
theorem s_tok3 {w : World} {loose : List Str} {mean : ExcName → Option Value} {mg mb : Str → Option Value} {A₀ : Around} {a : Addr} {cd : Value}
    {base : Heap} {L : Addr} {m : Str → Option Value} {s : Shared} {E : Value → Shared → Prop} {Q : Flow → Shared → Prop} {news : List (Addr × Obj)} {D : Str} {gv : Value} {i : Int} {o : Option Str}
    (F : Fr base L s.heap m) (X : (hd.heap_1 w.params).In base) (N : News base L s.heap (news)) (T : Top hd.view_39 loose mean mg mb base) (hA₀ : A₀.frames = some []) (hh₀ : A₀.handled = none) (hd' : A₀.depth + 50 < recursionLimit)
    (hm : Has m [(Str.ofString "text", gv)]) (hD : D.length ≤ 2000) (hs : stepZ D 0 = some (i, o)) (hg : GivenIs true gv D)
    (hQ : ∀ h' tk x dx k1 k2 k3 k4 k5 g st it nv, GivenIs true g D → SameV g gv → NvIs nv o → Fr base L h' (setM m (Str.ofString "t") (.ref x)) → News base L h' ((x, instObj 133 dx) :: (dx, tokD w.params k1 k2 k3 k4 k5 true g (.str D st) (.int i it) nv) :: news) → (∀ q ∈ news, q.1 ≠ dx) → Q .next { s with heap := h', toks := tk }) :
    wpAny (model PySem.Challenge.rw_kq0016_06.row.prog w) (A₀.deeper (lawEnv L a cd)) (exec (lawStmt 3) (lawEnv L a cd)) Q E s := by
  have fin : ∀ h' tk x dx k1 k2 k3 k4 k5 g st it nv, GivenIs true g D → SameV g gv → NvIs nv o → Fr base L h' (fun y => if y = Str.ofString "t" then some (.ref x) else chainOf [(Str.ofString "text", gv)] m y) → News base L h' ((x, instObj 133 dx) :: (dx, tokD w.params k1 k2 k3 k4 k5 true g (.str D st) (.int i it) nv) :: news) → (∀ q ∈ news, q.1 ≠ dx) → Q .next { s with heap := h', toks := tk } :=
    fun h' tk x dx k1 k2 k3 k4 k5 g st it nv g1 g2 g3 F' N' o1 => hQ h' tk x dx k1 k2 k3 k4 k5 g st it nv g1 g2 g3 (hm.back F') N' o1
  refine law_lit2 (by conv => lhs; whnf) (by conv => lhs; whnf) ?_
  have F₁ := hm.fr F
  dsimp only [chainOf] at F₁
  clear F hQ hm
  k_steps
  refine new_c (by k_asm) X (by with_reducible assumption) T (EvAt.of rfl) (Around.frames_deeper hA₀) hh₀ (by show A₀.depth + 1 + 20 < recursionLimit; omega) hD hs hg ?_
  intro h' tk x dx k1 k2 k3 k4 k5 gv' dt' it' nv' g1 g2 F' N' R' o1
  clear N
  k_steps
  exact fin _ _ x dx k1 k2 k3 k4 k5 gv' dt' it' nv' g1 (g2 _ _ g1.same hg.same) R' (by assumption) (by assumption) o1
theorem s_tok4 {w : World} {loose : List Str} {mean : ExcName → Option Value} {mg mb : Str → Option Value} {A₀ : Around} {a : Addr} {cd : Value}
    {base : Heap} {L : Addr} {m : Str → Option Value} {s : Shared} {E : Value → Shared → Prop} {Q : Flow → Shared → Prop} {news : List (Addr × Obj)} {D : Str} {gv : Value} {i : Int} {o : Option Str}
    (F : Fr base L s.heap m) (X : (hd.heap_1 w.params).In base) (N : News base L s.heap (news)) (T : Top hd.view_39 loose mean mg mb base) (hA₀ : A₀.frames = some []) (hh₀ : A₀.handled = none) (hd' : A₀.depth + 50 < recursionLimit)
    (hm : Has m [(Str.ofString "octets", gv)]) (hD : D.length ≤ 2000) (hs : stepZ D 0 = some (i, o)) (hg : GivenIs false gv D)
    (hQ : ∀ h' tk x dx k1 k2 k3 k4 k5 g st it nv, GivenIs false g D → SameV g gv → NvIs nv o → Fr base L h' (setM m (Str.ofString "u") (.ref x)) → News base L h' ((x, instObj 133 dx) :: (dx, tokD w.params k1 k2 k3 k4 k5 false g (.str D st) (.int i it) nv) :: news) → (∀ q ∈ news, q.1 ≠ dx) → Q .next { s with heap := h', toks := tk }) :
    wpAny (model PySem.Challenge.rw_kq0016_06.row.prog w) (A₀.deeper (lawEnv L a cd)) (exec (lawStmt 4) (lawEnv L a cd)) Q E s := by
  have fin : ∀ h' tk x dx k1 k2 k3 k4 k5 g st it nv, GivenIs false g D → SameV g gv → NvIs nv o → Fr base L h' (fun y => if y = Str.ofString "u" then some (.ref x) else chainOf [(Str.ofString "octets", gv)] m y) → News base L h' ((x, instObj 133 dx) :: (dx, tokD w.params k1 k2 k3 k4 k5 false g (.str D st) (.int i it) nv) :: news) → (∀ q ∈ news, q.1 ≠ dx) → Q .next { s with heap := h', toks := tk } :=
    fun h' tk x dx k1 k2 k3 k4 k5 g st it nv g1 g2 g3 F' N' o1 => hQ h' tk x dx k1 k2 k3 k4 k5 g st it nv g1 g2 g3 (hm.back F') N' o1
  refine law_lit2 (by conv => lhs; whnf) (by conv => lhs; whnf) ?_
  have F₁ := hm.fr F
  dsimp only [chainOf] at F₁
  clear F hQ hm
  k_steps
  refine new_c (by k_asm) X (by with_reducible assumption) T (EvAt.of rfl) (Around.frames_deeper hA₀) hh₀ (by show A₀.depth + 1 + 20 < recursionLimit; omega) hD hs hg ?_
  intro h' tk x dx k1 k2 k3 k4 k5 gv' dt' it' nv' g1 g2 F' N' R' o1
  clear N
  k_steps
  exact fin _ _ x dx k1 k2 k3 k4 k5 gv' dt' it' nv' g1 (g2 _ _ g1.same hg.same) R' (by assumption) (by assumption) o1
theorem s_is6 {w : World} {loose : List Str} {mean : ExcName → Option Value} {mg mb : Str → Option Value} {A₀ : Around} {a : Addr} {cd : Value}
    {base : Heap} {L : Addr} {m : Str → Option Value} {s : Shared} {E : Value → Shared → Prop} {Q : Flow → Shared → Prop} {rest : List (Addr × Obj)} {D : Str} {i : Int} {xt dt : Addr} {k1t k2t k3t k4t k5t st itt : Tok} {gt nvt : Value} {xu du : Addr} {k1u k2u k3u k4u k5u su itu : Tok} {gu nvu : Value}
    (F : Fr base L s.heap m) (X : (hd.heap_1 w.params).In base) (N : News base L s.heap ((xu, instObj 133 du) :: (du, tokD w.params k1u k2u k3u k4u k5u false gu (.str D su) (.int i itu) nvu) :: (xt, instObj 133 dt) :: (dt, tokD w.params k1t k2t k3t k4t k5t true gt (.str D st) (.int i itt) nvt) :: rest)) (T : Top hd.view_39 loose mean mg mb base) (hd' : A₀.depth + 50 < recursionLimit) (hm : Has m [(Str.ofString "t", .ref xt), (Str.ofString "u", .ref xu)])
    (hQ : ∀ h' tk, Fr base L h' m → News base L h' ((xu, instObj 133 du) :: (du, tokD w.params k1u k2u k3u k4u k5u false gu (.str D su) (.int i itu) nvu) :: (xt, instObj 133 dt) :: (dt, tokD w.params k1t k2t k3t k4t k5t true gt (.str D st) (.int i itt) nvt) :: rest) → Q .next { s with heap := h', toks := tk }) :
    wpAny (model PySem.Challenge.rw_kq0016_06.row.prog w) (A₀.deeper (lawEnv L a cd)) (exec (lawStmt 5) (lawEnv L a cd)) Q E s := by
  have fin : ∀ h' tk, Fr base L h' (chainOf [(Str.ofString "t", .ref xt), (Str.ofString "u", .ref xu)] m) → News base L h' ((xu, instObj 133 du) :: (du, tokD w.params k1u k2u k3u k4u k5u false gu (.str D su) (.int i itu) nvu) :: (xt, instObj 133 dt) :: (dt, tokD w.params k1t k2t k3t k4t k5t true gt (.str D st) (.int i itt) nvt) :: rest) → Q .next { s with heap := h', toks := tk } :=
    fun h' tk F' N' => hQ h' tk (un_chain hm F') N'
  refine law_lit2 (by conv => lhs; whnf) (by conv => lhs; whnf) ?_
  have F₁ := hm.fr F
  dsimp only [chainOf] at F₁
  clear F hQ hm
  k_steps
  all_goals exact fin _ _ (by assumption) (by assumption)
theorem one_bs {c : Nat} (h : one c = Str.ofString "\\") : c = 92 := by
  have h1 := congrArg (fun z : Str => z.cps.toList) h
  have h2 : (Str.ofString "\\").cps.toList = [92] := by decide +kernel
  rw [h2] at h1
  simpa [one] using h1
theorem s_first6 {w : World} {loose : List Str} {mean : ExcName → Option Value} {mg mb : Str → Option Value} {A₀ : Around} {a : Addr} {cd : Value}
    {base : Heap} {L : Addr} {m : Str → Option Value} {s : Shared} {E : Value → Shared → Prop} {Q : Flow → Shared → Prop} {rest : List (Addr × Obj)} {D y : Str} {i : Int} {Dt : Tok} {xt dt : Addr} {k1t k2t k3t k4t k5t st itt : Tok} {gt nvt : Value}
    (F : Fr base L s.heap m) (X : (hd.heap_1 w.params).In base) (N : News base L s.heap ((xt, instObj 133 dt) :: (dt, tokD w.params k1t k2t k3t k4t k5t true gt (.str D st) (.int i itt) nvt) :: rest)) (T : Top hd.view_39 loose mean mg mb base) (hd' : A₀.depth + 50 < recursionLimit) (hu : A₀.units + 100 < cLine) (hm : Has m [(Str.ofString "t", .ref xt), (Str.ofString "text", .str D Dt)]) (hf : First6 D i y) (hnv : NvIs nvt (some y)) (hD : D.length ≤ 2000) (hD1 : 1 ≤ D.length)
    (hQ : ∀ h' tk, Fr base L h' m → News base L h' ((xt, instObj 133 dt) :: (dt, tokD w.params k1t k2t k3t k4t k5t true gt (.str D st) (.int i itt) nvt) :: rest) → Q .next { s with heap := h', toks := tk }) :
    wpAny (model PySem.Challenge.rw_kq0016_06.row.prog w) (A₀.deeper (lawEnv L a cd)) (exec (lawStmt 6) (lawEnv L a cd)) Q E s := by
  have fin : ∀ h' tk, Fr base L h' (chainOf [(Str.ofString "t", .ref xt), (Str.ofString "text", .str D Dt)] m) → News base L h' ((xt, instObj 133 dt) :: (dt, tokD w.params k1t k2t k3t k4t k5t true gt (.str D st) (.int i itt) nvt) :: rest) → Q .next { s with heap := h', toks := tk } :=
    fun h' tk F' N' => hQ h' tk (un_chain hm F') N'
  obtain ⟨hs, hi, c, hc, hcc⟩ := hf
  obtain ⟨yt, rfl⟩ := hnv
  have hok : NextOk (.str y yt) := stepZ_len hs
  have hy2 : NvIs (.str y yt) (some y) := ⟨yt, rfl⟩
  have hz : i - nlen (.str y yt) = 0 := by show i - (y.length : Int) = 0; omega
  refine law_lit2 (by conv => lhs; whnf) (by conv => lhs; whnf) ?_
  have F₁ := hm.fr F
  dsimp only [chainOf] at F₁
  clear F hQ hm
  k_steps
  · have he : Txt.item D 0 = Str.ofString "\\" := by simpa using ‹(Txt.item D 0 == Str.ofString "\\") = true›
    rcases hcc with ⟨_, rfl⟩ | ⟨h9, _⟩
    · refine ne_tups (by assumption) (List.mem_cons_of_mem _ List.mem_cons_self) List.mem_cons_self (.cons (.inr (.inr (by rw [hz]; exact SameV.int _ _ _))) (.cons (.inr (.inr (SameV.str _ _ _))) .nil)) (by show A₀.units + 3 < cLine; omega) ?_
      k_steps
      exact fin _ _ (by assumption) (fun q hq => (by assumption : News base L _ (_ :: _ :: (xt, _) :: _)) q (List.mem_cons_of_mem _ (List.mem_cons_of_mem _ hq)))
    · exact absurd (one_bs (hc.symm.trans he)) h9
  · have he : ¬ Txt.item D 0 = Str.ofString "\\" := by simpa using ‹(Txt.item D 0 == Str.ofString "\\") = false›
    rcases hcc with ⟨rfl, _⟩ | ⟨h9, rfl⟩
    · exact absurd (hc.trans (by decide +kernel)) he
    · refine ne_tups (by assumption) (List.mem_cons_of_mem _ List.mem_cons_self) List.mem_cons_self (.cons (.inr (.inr (by rw [hz]; exact SameV.int _ _ _))) (.cons (.inr (.inr (by rw [hc]; exact SameV.str _ _ _))) .nil)) (by show A₀.units + 3 < cLine; omega) ?_
      k_steps
      exact fin _ _ (by assumption) (fun q hq => (by assumption : News base L _ (_ :: _ :: (xt, _) :: _)) q (List.mem_cons_of_mem _ (List.mem_cons_of_mem _ hq)))
theorem s_ret6 {w : World} {loose : List Str} {mean : ExcName → Option Value} {mg mb : Str → Option Value} {A₀ : Around} {a : Addr} {cd : Value}
    {base : Heap} {L : Addr} {m : Str → Option Value} {s : Shared} {E : Value → Shared → Prop} {Q : Flow → Shared → Prop} {rest : List (Addr × Obj)} {D : Str} {B : Array UInt8} {Dt Bt : Tok} {i : Int} {xt dt : Addr} {k1t k2t k3t k4t k5t st itt : Tok} {gt nvt : Value} {xu du : Addr} {k1u k2u k3u k4u k5u su itu : Tok} {gu nvu : Value}
    (F : Fr base L s.heap m) (X : (hd.heap_1 w.params).In base) (N : News base L s.heap ((xu, instObj 133 du) :: (du, tokD w.params k1u k2u k3u k4u k5u false gu (.str D su) (.int i itu) nvu) :: (xt, instObj 133 dt) :: (dt, tokD w.params k1t k2t k3t k4t k5t true gt (.str D st) (.int i itt) nvt) :: rest)) (T : Top hd.view_39 loose mean mg mb base) (hd' : A₀.depth + 50 < recursionLimit) (hu : A₀.units + 100 < cLine) (hm : Has m [(Str.ofString "t", .ref xt), (Str.ofString "u", .ref xu), (Str.ofString "text", .str D Dt), (Str.ofString "octets", .bytes B Bt)]) (hgt : GivenIs true gt D) (hgu : GivenIs false gu D) (hst : SameV gt (.str D Dt)) (hsu : SameV gu (.bytes B Bt))
    (hQ : ∀ h' tk, Fr base L h' m → Q (.ret (.bool true)) { s with heap := h', toks := tk }) :
    wpAny (model PySem.Challenge.rw_kq0016_06.row.prog w) (A₀.deeper (lawEnv L a cd)) (exec (lawStmt 8) (lawEnv L a cd)) Q E s := by
  have fin : ∀ h' tk, Fr base L h' (chainOf [(Str.ofString "t", .ref xt), (Str.ofString "u", .ref xu), (Str.ofString "text", .str D Dt), (Str.ofString "octets", .bytes B Bt)] m) → Q (.ret (.bool true)) { s with heap := h', toks := tk } :=
    fun h' tk F' => hQ h' tk (un_chain hm F')
  refine law_lit2 (by conv => lhs; whnf) (by conv => lhs; whnf) ?_
  have F₁ := hm.fr F
  dsimp only [chainOf] at F₁
  clear F hQ hm
  repeat ((fail_if_success (with_reducible show wpAny _ _ (compareOp _ _ _) _ _ _)); first | (k_unfold; (try dsimp only)) | walk1 | (dsimp only; walk1))
  refine eq_tups (by assumption) (List.mem_cons_of_mem _ List.mem_cons_self) List.mem_cons_self (.cons (.inr (.inr hst)) (.cons (.inr (.inr (SameV.str _ _ _))) (.cons (.inr (.inr hsu)) (.cons (.inr (.inr (SameV.str _ _ _))) .nil)))) (by show A₀.units + 3 < cLine; omega) ?_
  k_steps
  exact fin _ _ (by assumption)
end Mine
end

section
open PySem PySem.W PySem.Calls PySem.Spec PyProof.Rows
set_option maxRecDepth 100000
set_option maxHeartbeats 2000000
namespace Mine
theorem anew14 : True := by
  w_top off
  exact True.intro
open TI
theorem fillL6C (P : Params) : hd.heap_1 P = hd.heap_1 P ∧ PySem.Challenge.rw_kq0016_06 = PySem.Challenge.rw_kq0016_06 := by
  k_fill
  exact ⟨rfl, rfl⟩
def tSt (k : Nat) : Stmt := (forBody (lawStmt 7)).getD k default
theorem t_num6 {w : World} {loose : List Str} {mean : ExcName → Option Value} {mg mb : Str → Option Value} {A : Around} {a : Addr} {cd : Value}
    {base : Heap} {L : Addr} {m : Str → Option Value} {s : Shared} {E : Value → Shared → Prop} {Q : Flow → Shared → Prop} {news : List (Addr × Obj)} {n : Int} {nt : Tok}
    (F : Fr base L s.heap m) (X : (hd.heap_1 w.params).In base) (N : News base L s.heap (news)) (T : Top hd.view_39 loose mean mg mb base) (hm : Has m [(Str.ofString "n", .int n nt)])
    (hQ : ∀ h' tk t, Fr base L h' (setM m (Str.ofString "number") (.int (n.fdiv 15) t)) → News base L h' news → Q .next { s with heap := h', toks := tk }) :
    wpAny (model PySem.Challenge.rw_kq0016_06.row.prog w) A (exec (tSt 0) (lawEnv L a cd)) Q E s := by
  have fin : ∀ h' tk t, Fr base L h' (fun y => if y = Str.ofString "number" then some (.int (n.fdiv 15) t) else chainOf [(Str.ofString "n", .int n nt)] m y) → News base L h' news → Q .next { s with heap := h', toks := tk } :=
    fun h' tk t F' N' => hQ h' tk t (hm.back F') N'
  refine law_lit (by conv => lhs; whnf) (by conv => lhs; whnf) ?_
  have F₁ := hm.fr F
  dsimp only [chainOf] at F₁
  clear F hQ hm
  k_steps
  exact fin _ _ _ (by assumption) (by assumption)
theorem t_gott {w : World} {loose : List Str} {mean : ExcName → Option Value} {mg mb : Str → Option Value} {A₀ : Around} {a : Addr} {cd : Value}
    {base : Heap} {L : Addr} {m : Str → Option Value} {s : Shared} {E : Value → Shared → Prop} {Q : Flow → Shared → Prop} {new : List (Addr × Obj)} {D : Str} {i n : Int} {o : Option Str} {nt nt2 : Tok} {xt dt : Addr} {k1t k2t k3t k4t k5t st itt : Tok} {gt nvt : Value}
    (F : Fr base L s.heap m) (X : (hd.heap_1 w.params).In base) (N : News base L s.heap ((xt, instObj 133 dt) :: (dt, tokD w.params k1t k2t k3t k4t k5t true gt (.str D st) (.int i itt) nvt) :: new)) (T : Top hd.view_39 loose mean mg mb base) (hA₀ : A₀.frames = some []) (hh₀ : A₀.handled = none) (hd' : A₀.depth + 50 < recursionLimit) (hu : A₀.units + 200 < cLine)
    (hm : Has m [(Str.ofString "t", .ref xt), (Str.ofString "n", .int n nt), (Str.ofString "number", .int (n.fdiv 15) nt2)]) (hdx : ∀ q ∈ new, q.1 ≠ dt) (hD : D.length ≤ 2000) (hD1 : 1 ≤ D.length) (hb : Bz D i) (hg : GivenIs true gt D) (hn : NvIs nvt o) (hok : OkO o)
    (hQ : ∀ h' tk it' nv' R ob, NvIs nv' (gotZ D i o ((n.fdiv 3).fmod 5) (n.fdiv 15)).o → GotIs true gt D (gotZ D i o ((n.fdiv 3).fmod 5) (n.fdiv 15)) ob → Fr base L h' (setM m (Str.ofString "a") (.ref R)) → News base L h' ((xt, instObj 133 dt) :: (dt, tokD w.params k1t k2t k3t k4t k5t true gt (.str D st) (.int (gotZ D i o ((n.fdiv 3).fmod 5) (n.fdiv 15)).i it') nv') :: (R, ob) :: new) → (∀ q ∈ (xt, instObj 133 dt) :: (dt, tokD w.params k1t k2t k3t k4t k5t true gt (.str D st) (.int (gotZ D i o ((n.fdiv 3).fmod 5) (n.fdiv 15)).i it') nv') :: new, q.1 ≠ R) → Q .next { s with heap := h', toks := tk }) :
    wpAny (model PySem.Challenge.rw_kq0016_06.row.prog w) (A₀.deeper (lawEnv L a cd)) (exec (tSt 1) (lawEnv L a cd)) Q E s := by
  have fin : ∀ h' tk it' nv' R ob, NvIs nv' (gotZ D i o ((n.fdiv 3).fmod 5) (n.fdiv 15)).o → GotIs true gt D (gotZ D i o ((n.fdiv 3).fmod 5) (n.fdiv 15)) ob → Fr base L h' (fun y => if y = Str.ofString "a" then some (.ref R) else chainOf [(Str.ofString "t", .ref xt), (Str.ofString "n", .int n nt), (Str.ofString "number", .int (n.fdiv 15) nt2)] m y) → News base L h' ((xt, instObj 133 dt) :: (dt, tokD w.params k1t k2t k3t k4t k5t true gt (.str D st) (.int (gotZ D i o ((n.fdiv 3).fmod 5) (n.fdiv 15)).i it') nv') :: (R, ob) :: new) → (∀ q ∈ (xt, instObj 133 dt) :: (dt, tokD w.params k1t k2t k3t k4t k5t true gt (.str D st) (.int (gotZ D i o ((n.fdiv 3).fmod 5) (n.fdiv 15)).i it') nv') :: new, q.1 ≠ R) → Q .next { s with heap := h', toks := tk } :=
    fun h' tk it' nv' R ob h1 h2 F' N' h3 => hQ h' tk it' nv' R ob h1 h2 (hm.back F') N' h3
  refine law_lit2 (by conv => lhs; whnf) (by conv => lhs; whnf) ?_
  have F₁ := hm.fr F
  dsimp only [chainOf] at F₁
  clear F hQ hm
  repeat ((fail_if_success (with_reducible show wpAny _ _ (call (Value.ref 158) _) _ _ _)); first | (k_unfold; (try dsimp only)) | walk1 | (dsimp only; walk1))
  refine got_L (by k_asm) X (by with_reducible assumption) T (EvAt.of rfl) hdx (Around.frames_deeper hA₀) hh₀ (by show A₀.depth + 1 + 40 < recursionLimit; omega) hD hD1 hb hg (by rw [units_deeper]; omega) hn hok hn (Int.fmod_nonneg_of_pos _ (by decide)) (Int.le_of_lt_add_one (Int.fmod_lt_of_pos _ (by decide))) ?_
  intro out ho h' tk it' nv' R ob h1 h2 F' N' h3
  subst ho
  k_steps
  exact fin _ _ it' nv' R ob h1 h2 (by assumption) (by assumption) h3
theorem t_gotu {w : World} {loose : List Str} {mean : ExcName → Option Value} {mg mb : Str → Option Value} {A₀ : Around} {a : Addr} {cd : Value}
    {base : Heap} {L : Addr} {m : Str → Option Value} {s : Shared} {E : Value → Shared → Prop} {Q : Flow → Shared → Prop} {new : List (Addr × Obj)} {D : Str} {i n : Int} {o : Option Str} {nt nt2 : Tok} {xu du : Addr} {k1u k2u k3u k4u k5u su itu : Tok} {gu nvu : Value}
    (F : Fr base L s.heap m) (X : (hd.heap_1 w.params).In base) (N : News base L s.heap ((xu, instObj 133 du) :: (du, tokD w.params k1u k2u k3u k4u k5u false gu (.str D su) (.int i itu) nvu) :: new)) (T : Top hd.view_39 loose mean mg mb base) (hA₀ : A₀.frames = some []) (hh₀ : A₀.handled = none) (hd' : A₀.depth + 50 < recursionLimit) (hu : A₀.units + 200 < cLine)
    (hm : Has m [(Str.ofString "u", .ref xu), (Str.ofString "n", .int n nt), (Str.ofString "number", .int (n.fdiv 15) nt2)]) (hdx : ∀ q ∈ new, q.1 ≠ du) (hD : D.length ≤ 2000) (hD1 : 1 ≤ D.length) (hb : Bz D i) (hg : GivenIs false gu D) (hn : NvIs nvu o) (hok : OkO o)
    (hQ : ∀ h' tk it' nv' R ob, NvIs nv' (gotZ D i o ((n.fdiv 3).fmod 5) (n.fdiv 15)).o → GotIs false gu D (gotZ D i o ((n.fdiv 3).fmod 5) (n.fdiv 15)) ob → Fr base L h' (setM m (Str.ofString "b") (.ref R)) → News base L h' ((xu, instObj 133 du) :: (du, tokD w.params k1u k2u k3u k4u k5u false gu (.str D su) (.int (gotZ D i o ((n.fdiv 3).fmod 5) (n.fdiv 15)).i it') nv') :: (R, ob) :: new) → (∀ q ∈ (xu, instObj 133 du) :: (du, tokD w.params k1u k2u k3u k4u k5u false gu (.str D su) (.int (gotZ D i o ((n.fdiv 3).fmod 5) (n.fdiv 15)).i it') nv') :: new, q.1 ≠ R) → Q .next { s with heap := h', toks := tk }) :
    wpAny (model PySem.Challenge.rw_kq0016_06.row.prog w) (A₀.deeper (lawEnv L a cd)) (exec (tSt 2) (lawEnv L a cd)) Q E s := by
  have fin : ∀ h' tk it' nv' R ob, NvIs nv' (gotZ D i o ((n.fdiv 3).fmod 5) (n.fdiv 15)).o → GotIs false gu D (gotZ D i o ((n.fdiv 3).fmod 5) (n.fdiv 15)) ob → Fr base L h' (fun y => if y = Str.ofString "b" then some (.ref R) else chainOf [(Str.ofString "u", .ref xu), (Str.ofString "n", .int n nt), (Str.ofString "number", .int (n.fdiv 15) nt2)] m y) → News base L h' ((xu, instObj 133 du) :: (du, tokD w.params k1u k2u k3u k4u k5u false gu (.str D su) (.int (gotZ D i o ((n.fdiv 3).fmod 5) (n.fdiv 15)).i it') nv') :: (R, ob) :: new) → (∀ q ∈ (xu, instObj 133 du) :: (du, tokD w.params k1u k2u k3u k4u k5u false gu (.str D su) (.int (gotZ D i o ((n.fdiv 3).fmod 5) (n.fdiv 15)).i it') nv') :: new, q.1 ≠ R) → Q .next { s with heap := h', toks := tk } :=
    fun h' tk it' nv' R ob h1 h2 F' N' h3 => hQ h' tk it' nv' R ob h1 h2 (hm.back F') N' h3
  refine law_lit2 (by conv => lhs; whnf) (by conv => lhs; whnf) ?_
  have F₁ := hm.fr F
  dsimp only [chainOf] at F₁
  clear F hQ hm
  repeat ((fail_if_success (with_reducible show wpAny _ _ (call (Value.ref 158) _) _ _ _)); first | (k_unfold; (try dsimp only)) | walk1 | (dsimp only; walk1))
  refine got_L (by k_asm) X (by with_reducible assumption) T (EvAt.of rfl) hdx (Around.frames_deeper hA₀) hh₀ (by show A₀.depth + 1 + 40 < recursionLimit; omega) hD hD1 hb hg (by rw [units_deeper]; omega) hn hok hn (Int.fmod_nonneg_of_pos _ (by decide)) (Int.le_of_lt_add_one (Int.fmod_lt_of_pos _ (by decide))) ?_
  intro out ho h' tk it' nv' R ob h1 h2 F' N' h3
  subst ho
  k_steps
  exact fin _ _ it' nv' R ob h1 h2 (by assumption) (by assumption) h3
theorem t_same6 {w : World} {loose : List Str} {mean : ExcName → Option Value} {mg mb : Str → Option Value} {A₀ : Around} {a : Addr} {cd : Value}
    {base : Heap} {L : Addr} {m : Str → Option Value} {s : Shared} {E : Value → Shared → Prop} {Q : Flow → Shared → Prop} {rest : List (Addr × Obj)} {D : Str} {i : Int} {o : Option Str} {xt dt : Addr} {k1t k2t k3t k4t k5t st itt : Tok} {gt nvt : Value} {xu du : Addr} {k1u k2u k3u k4u k5u su itu : Tok} {gu nvu : Value}
    (F : Fr base L s.heap m) (X : (hd.heap_1 w.params).In base) (N : News base L s.heap ((xu, instObj 133 du) :: (du, tokD w.params k1u k2u k3u k4u k5u false gu (.str D su) (.int i itu) nvu) :: (xt, instObj 133 dt) :: (dt, tokD w.params k1t k2t k3t k4t k5t true gt (.str D st) (.int i itt) nvt) :: rest)) (T : Top hd.view_39 loose mean mg mb base) (hd' : A₀.depth + 50 < recursionLimit) (hu : A₀.units + 200 < cLine) (hm : Has m [(Str.ofString "t", .ref xt), (Str.ofString "u", .ref xu)]) (hnt : NvIs nvt o) (hnu : NvIs nvu o) (hok : OkO o)
    (hQ : ∀ h' tk, Fr base L h' m → News base L h' ((xu, instObj 133 du) :: (du, tokD w.params k1u k2u k3u k4u k5u false gu (.str D su) (.int i itu) nvu) :: (xt, instObj 133 dt) :: (dt, tokD w.params k1t k2t k3t k4t k5t true gt (.str D st) (.int i itt) nvt) :: rest) → Q .next { s with heap := h', toks := tk }) :
    wpAny (model PySem.Challenge.rw_kq0016_06.row.prog w) (A₀.deeper (lawEnv L a cd)) (exec (tSt 4) (lawEnv L a cd)) Q E s := by
  have fin : ∀ h' tk, Fr base L h' (chainOf [(Str.ofString "t", .ref xt), (Str.ofString "u", .ref xu)] m) → News base L h' ((xu, instObj 133 du) :: (du, tokD w.params k1u k2u k3u k4u k5u false gu (.str D su) (.int i itu) nvu) :: (xt, instObj 133 dt) :: (dt, tokD w.params k1t k2t k3t k4t k5t true gt (.str D st) (.int i itt) nvt) :: rest) → Q .next { s with heap := h', toks := tk } :=
    fun h' tk F' N' => hQ h' tk (un_chain hm F') N'
  have ot := nextOk_z hnt hok
  have ou := nextOk_z hnu hok
  have e1 := nlen_z hnt
  have e2 := nlen_z hnu
  have hsm := nvIs_same hnt hnu
  refine law_lit2 (by conv => lhs; whnf) (by conv => lhs; whnf) ?_
  have F₁ := hm.fr F
  dsimp only [chainOf] at F₁
  clear F hQ hm
  repeat ((fail_if_success (with_reducible show wpAny _ _ (compareOp _ _ _) _ _ _)); first | (k_unfold; (try dsimp only)) | walk1 | (dsimp only; walk1))
  refine ne_tups (by assumption) (List.mem_cons_of_mem _ List.mem_cons_self) List.mem_cons_self (.cons (.inr (.inr (by rw [e1, e2]; exact SameV.int _ _ _))) (.cons (.inr (.inr (by rw [e1, e2]; exact SameV.int _ _ _))) (.cons (.inr (.inr (SameV.int _ _ _))) (.cons hsm .nil)))) (by show A₀.units + 3 < cLine; omega) ?_
  k_steps
  exact fin _ _ (by assumption) (fun q hq => (by assumption : News base L _ (_ :: _ :: (xu, _) :: _)) q (List.mem_cons_of_mem _ (List.mem_cons_of_mem _ hq)))
end Mine
end

section
open PySem PySem.W PySem.Calls PySem.Spec PyProof.Rows
set_option maxRecDepth 100000
set_option maxHeartbeats 2000000
namespace Mine
theorem anew15 : True := by
  w_top off
  exact True.intro
open TI
theorem fillL6D (P : Params) : hd.heap_1 P = hd.heap_1 P ∧ PySem.Challenge.rw_kq0016_06 = PySem.Challenge.rw_kq0016_06 := by
  k_fill
  exact ⟨rfl, rfl⟩
theorem words_len {msg : Str} {l : List Nat} {p : Int} (hm : msg.length ≤ 200) (hl : l.length ≤ 2000) (h0 : -10000 ≤ p) (h1 : p ≤ 10000) : (wordsZ msg l p).length ≤ 4000 := by
  have a := toString_lenZ (n := p) (by omega) (by omega)
  have b1 := line_bound l p
  have b2 := col_bound l p
  have b := toString_lenZ (n := lineZ l p) (by omega) (by omega)
  have c := toString_lenZ (n := colZ l p) (by omega) (by omega)
  have e1 : (Str.ofString " at position ").length = 13 := by decide +kernel
  have e2 : (Str.ofString " (line ").length = 7 := by decide +kernel
  have e3 : (Str.ofString ", column ").length = 9 := by decide +kernel
  have e4 : (Str.ofString ")").length = 1 := by decide +kernel
  have hh : (peHead msg p).length ≤ 300 := by
    unfold peHead
    rw [Str.length_append, Str.length_append]
    omega
  unfold wordsZ
  split
  · rw [Str.length_append, Str.length_append, Str.length_append, Str.length_append, Str.length_append]
    omega
  · omega
theorem app_all {P : Nat → Prop} {a b : Str} (h1 : ∀ c ∈ a.cps.toList, P c) (h2 : ∀ c ∈ b.cps.toList, P c) : ∀ c ∈ (a ++ b).cps.toList, P c := by
  intro c hc
  rw [app_cps] at hc
  rcases List.mem_append.mp hc with hc | hc
  · exact h1 c hc
  · exact h2 c hc
theorem words_all {msg : Str} {l : List Nat} {p : Int} (hm : ∀ c ∈ msg.cps.toList, c < 1114112) : ∀ c ∈ (wordsZ msg l p).cps.toList, c < 1114112 := by
  have up : ∀ {x : Str}, (∀ c ∈ x.cps.toList, c < 128) → ∀ c ∈ x.cps.toList, c < 1114112 := fun h c hc => Nat.lt_trans (h c hc) (by decide)
  have hh : ∀ c ∈ (peHead msg p).cps.toList, c < 1114112 := by
    unfold peHead
    exact app_all (app_all hm (up (by decide +kernel))) (up (asc_int _))
  unfold wordsZ
  split
  · exact app_all (app_all (app_all (app_all (app_all hh (up (by decide +kernel))) (up (asc_int _))) (up (by decide +kernel))) (up (asc_int _))) (up (by decide +kernel))
  · exact hh
theorem item_lit {prog : Program} {w : World} {A : Around} {E : Value → Shared → Prop} {s : Shared} {h₀ : Heap} {L l : Addr} {news : List (Addr × Obj)} {vs : List Value} {n : Nat} {i : Int} {u : Tok} {v : Value} {Q : Value → Shared → Prop} {value slice : PySem.Expr} (N : News h₀ L s.heap news) (hm : (l, W.listOf vs.toArray n) ∈ news) (h0 : 0 ≤ i) (h1 : i < 100) (e : vs[i.toNat]? = some v) (h : Q v s)
    (hs : subscripted slice false (.ref l) (.int i u) = operate [.ref l, .int i u] (getItem (.ref l) (.int i u)) := by with_unfolding_all rfl) : wpAny (model prog w) A (subscriptTail value slice (.ref l) (.int i u)) Q E s := by
  have hl : s.heap.IsList l vs.toArray := ⟨_, (N _ hm).1, rfl, n, rfl⟩
  exact tail_any hl.typeIs slot_list_getitem.lookup (wpAny_getItem_list hl h0 (by omega) (by simpa using e) h) hs
local macro_rules | `(tactic| walk_at "subscriptTail") => `(tactic| (k_here; (with_reducible show wpAny _ _ (subscriptTail _ _ (Value.ref _) (Value.int _ _)) _ _ _); k_dflt (refine' item_lit ?N ?m ?h0 ?h1 ?e ?_; (case N => k_asm); (case m => with_reducible assumption); (case h0 => decide); (case h1 => decide); (case e => rfl)); (try dsimp only)))
local macro_rules | `(tactic| walk_at "call ref") => `(tactic| (k_here; (with_reducible show wpAny _ _ (call (Value.ref 151) _) _ _ _); k_dflt (refine' narrow_c ?_ ?_ ?_ ?_ ?_ ?_ ?_ ?_ ?_; (all_goals (try walk_at "z1")); (all_goals (try walk_at "z2"))); intro h' tk' t' F' N'; (try k_sweep)))
local macro_rules | `(tactic| walk_at "call builtin:len") => `(tactic| (k_here; (with_reducible show wpAny _ _ (call (Value.builtin "len") [Value.ref _]) _ _ _); k_dflt (refine' len_atE ?N ?m ?e ?z ?_; (case N => k_asm); (case m => walk_at "z3"); (case e => with_reducible assumption); (case z => omega)); intro t' k'))
local macro_rules | `(tactic| walk_at "compareOp NotEq str str") => `(tactic| (k_here; (refine ne_str_same ?_)))
theorem t_cmp6 {w : World} {loose : List Str} {mean : ExcName → Option Value} {mg mb : Str → Option Value} {A₀ : Around} {a : Addr} {cd : Value}
    {base : Heap} {L : Addr} {m : Str → Option Value} {s : Shared} {E : Value → Shared → Prop} {Q : Flow → Shared → Prop} {news : List (Addr × Obj)} {D : Str} {B : Array UInt8} {Dt Bt : Tok} {Ra Rb : Addr} {oa ob : Obj} {gt gu : Value} {out : Got}
    (F : Fr base L s.heap m) (X : (hd.heap_1 w.params).In base) (N : News base L s.heap (news)) (T : Top hd.view_39 loose mean mg mb base) (hh₀ : A₀.handled = none) (hd' : A₀.depth + 50 < recursionLimit) (hu : A₀.units + 200 < cLine)
    (hm : Has m [(Str.ofString "a", .ref Ra), (Str.ofString "b", .ref Rb), (Str.ofString "text", .str D Dt), (Str.ofString "octets", .bytes B Bt)]) (ha : (Ra, oa) ∈ news) (hb : (Rb, ob) ∈ news) (hga : GotIs true gt D out oa) (hgb : GotIs false gu D out ob) (hgt : GivenIs true gt D) (hgu : GivenIs false gu D) (hsu : SameV gu (.bytes B Bt)) (hD : D.length ≤ 2000) (hfit : GFit out)
    (hQ : ∀ h' tk, Fr base L h' m → News base L h' news → Q .next { s with heap := h', toks := tk }) :
    wpAny (model PySem.Challenge.rw_kq0016_06.row.prog w) (A₀.deeper (lawEnv L a cd)) (exec (tSt 3) (lawEnv L a cd)) Q E s := by
  have fin : ∀ h' tk, Fr base L h' (chainOf [(Str.ofString "a", .ref Ra), (Str.ofString "b", .ref Rb), (Str.ofString "text", .str D Dt), (Str.ofString "octets", .bytes B Bt)] m) → News base L h' news → Q .next { s with heap := h', toks := tk } :=
    fun h' tk F' N' => hQ h' tk (un_chain hm F') N'
  have hh : (A₀.deeper (lawEnv L a cd)).handled = none := hh₀
  have hcl : A₀.units + 3 < cLine := by omega
  cases out with
  | val k v i o =>
    obtain ⟨t1, u1, hv1, rfl⟩ := hga
    obtain ⟨t2, u2, hv2, rfl⟩ := hgb
    have hsm := gotV_same hv1 hv2
    have hl1 : ((List.toArray [Value.str k t1, u1]).size : Int) = 2 := rfl
    refine law_lit2 (by conv => lhs; whnf) (by conv => lhs; whnf) ?_
    have F₁ := hm.fr F
    dsimp only [chainOf] at F₁
    clear F hQ hm
    repeat ((fail_if_success (with_reducible show wpAny _ _ (compareOp CmpOp.NotEq (Value.ref _) (Value.ref _)) _ _ _)); first | (k_unfold; (try dsimp only)) | walk1 | (dsimp only; walk1))
    refine ne_lsts (by assumption) ha hb (.cons (.inr (.inr (SameV.str _ _ _))) (.cons hsm .nil)) hcl ?_
    k_steps
    exact fin _ _ (by assumption) (by assumption)
  | told k msg pos i o =>
    obtain ⟨t1, tm1, tp1, tl1, tc1, tw1, rfl⟩ := hga
    obtain ⟨t2, tm2, tp2, tl2, tc2, tw2, rfl⟩ := hgb
    obtain ⟨hf1, hf2, hf3, hf4⟩ := hfit
    have hgt2 := hgt
    obtain ⟨gtt, rfl⟩ : ∃ t, gt = .str D t := by
      rcases hgt with ⟨_, t, h⟩ | ⟨h, _⟩
      · exact ⟨t, h⟩
      · cases h
    have hDl : D.cps.toList.length ≤ 2000 := by simpa [Str.length] using hD
    have hml : msg.length ≤ 4000 := by omega
    have hw1 := words_len (msg := msg) (l := D.cps.toList) (p := pos) (by omega) hDl hf3 hf4
    have hw2 := words_all (msg := msg) (l := D.cps.toList) (p := pos) hf2
    have hnw := nar_words msg D.cps.toList pos
    have hn1 : narB true msg = msg := rfl
    have hn2 : narB false msg = narL msg.cps.toList := rfl
    rw [hn1] at ha
    rw [hn2, ← hnw] at hb
    generalize lineZ D.cps.toList pos = ln at ha hb
    generalize colZ D.cps.toList pos = co at ha hb
    generalize wordsZ msg D.cps.toList pos = wd at ha hb hw1 hw2
    clear hnw hn1 hn2
    have hl1 : ((List.toArray (Value.str k t1 :: toldL msg (.str D gtt) pos ln co wd tm1 tp1 tl1 tc1 tw1)).size : Int) = 7 := rfl
    refine law_lit2 (by conv => lhs; whnf) (by conv => lhs; whnf) ?_
    have F₁ := hm.fr F
    dsimp only [chainOf] at F₁
    clear F hQ hm
    k_steps
    · exact absurd ‹(D != D) = true› (by simp)
    · refine ne_lsts (by assumption) (List.mem_cons_of_mem _ hb) List.mem_cons_self (.cons (.inr (.inr (SameV.str _ _ _))) (.cons (.inr (.inr (SameV.str _ _ _))) (.cons (.inr (.inr hsu)) (.cons (.inr (.inr (SameV.int _ _ _))) (.cons (.inr (.inr (SameV.int _ _ _))) (.cons (.inr (.inr (SameV.int _ _ _))) (.cons (.inr (.inr (SameV.str _ _ _))) .nil))))))) hcl ?_
      k_steps
      exact fin _ _ (by assumption) (fun q hq => (by assumption : News base L _ (_ :: news)) q (List.mem_cons_of_mem _ hq))
end Mine
end

section
open PySem PySem.W PySem.Calls PySem.Spec PyProof.Rows
set_option maxRecDepth 100000
set_option maxHeartbeats 2000000
namespace Mine
open TI
theorem fillL6E (P : Params) : hd.heap_1 P = hd.heap_1 P ∧ PySem.Challenge.rw_kq0016_06 = PySem.Challenge.rw_kq0016_06 := by
  k_fill
  exact ⟨rfl, rfl⟩
theorem pm_1 {α : Type} {dt du xt xu q : α} {R : List α} (h : q ∈ xt :: dt :: xu :: du :: R) : q ∈ xu :: du :: xt :: dt :: R := by
  simp only [List.mem_cons] at h ⊢
  rcases h with h | h | h | h | h
  · exact .inr (.inr (.inl h))
  · exact .inr (.inr (.inr (.inl h)))
  · exact .inl h
  · exact .inr (.inl h)
  · exact .inr (.inr (.inr (.inr h)))
theorem pm_2 {α : Type} {Ra dt du xt xu q : α} {R : List α} (h : q ∈ xu :: du :: xt :: dt :: Ra :: R) : q ∈ xt :: dt :: Ra :: xu :: du :: R := by
  simp only [List.mem_cons] at h ⊢
  rcases h with h | h | h | h | h | h
  · exact .inr (.inr (.inr (.inl h)))
  · exact .inr (.inr (.inr (.inr (.inl h))))
  · exact .inl h
  · exact .inr (.inl h)
  · exact .inr (.inr (.inl h))
  · exact .inr (.inr (.inr (.inr (.inr h))))
theorem pm_3 {α : Type} {Ra Rb dt du xt xu q : α} {R : List α} (h : q ∈ xu :: du :: xt :: dt :: Rb :: Ra :: R) : q ∈ xu :: du :: Rb :: xt :: dt :: Ra :: R := by
  simp only [List.mem_cons] at h ⊢
  rcases h with h | h | h | h | h | h | h
  · exact .inl h
  · exact .inr (.inl h)
  · exact .inr (.inr (.inr (.inl h)))
  · exact .inr (.inr (.inr (.inr (.inl h))))
  · exact .inr (.inr (.inl h))
  · exact .inr (.inr (.inr (.inr (.inr (.inl h)))))
  · exact .inr (.inr (.inr (.inr (.inr (.inr h)))))
theorem pm_4 {α : Type} {Ra Rb dt du xt xu q : α} {R : List α} (h : q ∈ xu :: du :: xt :: dt :: R) : q ∈ xu :: du :: xt :: dt :: Rb :: Ra :: R := by
  simp only [List.mem_cons] at h ⊢
  rcases h with h | h | h | h | h
  · exact .inl h
  · exact .inr (.inl h)
  · exact .inr (.inr (.inl h))
  · exact .inr (.inr (.inr (.inl h)))
  · exact .inr (.inr (.inr (.inr (.inr (.inr h)))))
theorem pm_5 {α : Type} {I dt du xt xu q : α} {R : List α} (h : q ∈ xu :: du :: xt :: dt :: I :: R) : q ∈ I :: xu :: du :: xt :: dt :: R := by
  simp only [List.mem_cons] at h ⊢
  rcases h with h | h | h | h | h | h
  · exact .inr (.inl h)
  · exact .inr (.inr (.inl h))
  · exact .inr (.inr (.inr (.inl h)))
  · exact .inr (.inr (.inr (.inr (.inl h))))
  · exact .inl h
  · exact .inr (.inr (.inr (.inr (.inr h))))
theorem pm_6 {α : Type} {I dt du xt xu q : α} {R : List α} (h : q ∈ I :: xu :: du :: xt :: dt :: R) : q ∈ xu :: du :: xt :: dt :: I :: R := by
  simp only [List.mem_cons] at h ⊢
  rcases h with h | h | h | h | h | h
  · exact .inr (.inr (.inr (.inr (.inl h))))
  · exact .inl h
  · exact .inr (.inl h)
  · exact .inr (.inr (.inl h))
  · exact .inr (.inr (.inr (.inl h)))
  · exact .inr (.inr (.inr (.inr (.inr h))))
theorem turn6 {w : World} {loose : List Str} {mean : ExcName → Option Value} {mg mb : Str → Option Value} {A₀ : Around} {a : Addr} {cd : Value}
    {base : Heap} {L : Addr} {m : Str → Option Value} {s : Shared} {E : Value → Shared → Prop} {Q : Flow → Shared → Prop} {rest : List (Addr × Obj)} {D : Str} {B : Array UInt8} {Dt Bt nt : Tok} {n i : Int} {o : Option Str} {xt dt : Addr} {k1t k2t k3t k4t k5t st itt : Tok} {gt nvt : Value} {xu du : Addr} {k1u k2u k3u k4u k5u su itu : Tok} {gu nvu : Value}
    (F : Fr base L s.heap m) (X : (hd.heap_1 w.params).In base) (N : News base L s.heap ((xu, instObj 133 du) :: (du, tokD w.params k1u k2u k3u k4u k5u false gu (.str D su) (.int i itu) nvu) :: (xt, instObj 133 dt) :: (dt, tokD w.params k1t k2t k3t k4t k5t true gt (.str D st) (.int i itt) nvt) :: rest)) (T : Top hd.view_39 loose mean mg mb base) (hA₀ : A₀.frames = some []) (hh₀ : A₀.handled = none) (hd' : A₀.depth + 50 < recursionLimit) (hu : A₀.units + 200 < cLine) (hD : D.length ≤ 2000) (hD1 : 1 ≤ D.length) (hgt : GivenIs true gt D) (hgu : GivenIs false gu D) (hsu : SameV gu (.bytes B Bt)) (h1 : xu ≠ dt) (h2 : du ≠ dt) (h3 : xt ≠ du) (hrt : ∀ q ∈ rest, q.1 ≠ dt) (hru : ∀ q ∈ rest, q.1 ≠ du) (hb : Bz D i) (hok : OkO o) (hnt : NvIs nvt o) (hnu : NvIs nvu o) (hm : Has m [(Str.ofString "n", .int n nt), (Str.ofString "t", .ref xt), (Str.ofString "u", .ref xu), (Str.ofString "text", .str D Dt), (Str.ofString "octets", .bytes B Bt)])
    (hQ : ∀ h' tk m' i' o' itt' nvt' itu' nvu', Bz D i' → OkO o' → NvIs nvt' o' → NvIs nvu' o' → Has m' [(Str.ofString "t", .ref xt), (Str.ofString "u", .ref xu), (Str.ofString "text", .str D Dt), (Str.ofString "octets", .bytes B Bt)] → Fr base L h' m' → News base L h' ((xu, instObj 133 du) :: (du, tokD w.params k1u k2u k3u k4u k5u false gu (.str D su) (.int i' itu') nvu') :: (xt, instObj 133 dt) :: (dt, tokD w.params k1t k2t k3t k4t k5t true gt (.str D st) (.int i' itt') nvt') :: rest) → Q .next { s with heap := h', toks := tk }) :
    wpAny (model PySem.Challenge.rw_kq0016_06.row.prog w) (A₀.deeper (lawEnv L a cd)) (execs (forBody (lawStmt 7)) (lawEnv L a cd)) Q E s := by
  rw [show forBody (lawStmt 7) = tSt 0 :: tSt 1 :: tSt 2 :: tSt 3 :: [tSt 4] from rfl]
  refine wpAny_execs_cons (t_num6 F X N T (by repeat (with_reducible first | exact Has.nil | refine Has.consM hm (by repeat (with_reducible first | exact List.mem_cons_self | apply List.mem_cons_of_mem)) ?_)) (fun h1' tk1 t1 F1 N1 => ?_))
  have H1 := hm.put (n := Str.ofString "number") (v := .int (n.fdiv 15) t1) (by kernel_rfl)
  generalize setM m (Str.ofString "number") (.int (n.fdiv 15) t1) = m1 at H1 F1
  have dxt : ∀ q ∈ (xu, instObj 133 du) :: (du, tokD w.params k1u k2u k3u k4u k5u false gu (.str D su) (.int i itu) nvu) :: rest, q.1 ≠ dt := fun q hq => by
    rcases List.mem_cons.mp hq with rfl | hq
    · exact h1
    rcases List.mem_cons.mp hq with rfl | hq
    · exact h2
    · exact hrt q hq
  refine wpAny_execs_cons (t_gott F1 X (fun q hq => N1 q (pm_1 hq)) T hA₀ hh₀ hd' hu (by repeat (with_reducible first | exact Has.nil | refine Has.consM H1 (by repeat (with_reducible first | exact List.mem_cons_self | apply List.mem_cons_of_mem)) ?_)) dxt hD hD1 hb hgt hnt hok (fun h2' tk2 it2 nv2 Ra oa n2 g2 F2 N2 r2 => ?_))
  have H2 := H1.put (n := Str.ofString "a") (v := .ref Ra) (by kernel_rfl)
  generalize setM m1 (Str.ofString "a") (.ref Ra) = m2 at H2 F2
  obtain ⟨hb', hok'⟩ := gotZ_ok (dn := (n.fdiv 3).fmod 5) (num := n.fdiv 15) hb hok
  have hfit := gotZ_fit (dn := (n.fdiv 3).fmod 5) (num := n.fdiv 15) hD hb hok
  have dxu : ∀ q ∈ (xt, instObj 133 dt) :: (dt, tokD w.params k1t k2t k3t k4t k5t true gt (.str D st) (.int (gotZ D i o ((n.fdiv 3).fmod 5) (n.fdiv 15)).i it2) nv2) :: (Ra, oa) :: rest, q.1 ≠ du := fun q hq => by
    rcases List.mem_cons.mp hq with rfl | hq
    · exact h3
    rcases List.mem_cons.mp hq with rfl | hq
    · exact h2.symm
    rcases List.mem_cons.mp hq with rfl | hq
    · exact (r2 (du, _) (List.mem_cons_of_mem _ (List.mem_cons_of_mem _ (List.mem_cons_of_mem _ List.mem_cons_self)))).symm
    · exact hru q hq
  refine wpAny_execs_cons (t_gotu F2 X (fun q hq => N2 q (pm_2 hq)) T hA₀ hh₀ hd' hu (by repeat (with_reducible first | exact Has.nil | refine Has.consM H2 (by repeat (with_reducible first | exact List.mem_cons_self | apply List.mem_cons_of_mem)) ?_)) dxu hD hD1 hb hgu hnu hok (fun h3' tk3 it3 nv3 Rb ob n3 g3 F3 N3 r3 => ?_))
  have H3 := H2.put (n := Str.ofString "b") (v := .ref Rb) (by kernel_rfl)
  generalize setM m2 (Str.ofString "b") (.ref Rb) = m3 at H3 F3
  generalize gotZ D i o ((n.fdiv 3).fmod 5) (n.fdiv 15) = out at hb' hok' hfit n2 g2 n3 g3 N3 r2 r3 dxu N2
  refine wpAny_execs_cons (t_cmp6 (out := out) F3 X N3 T hh₀ hd' hu (by repeat (with_reducible first | exact Has.nil | refine Has.consM H3 (by repeat (with_reducible first | exact List.mem_cons_self | apply List.mem_cons_of_mem)) ?_)) (by repeat (first | exact List.mem_cons_self | apply List.mem_cons_of_mem)) (by repeat (first | exact List.mem_cons_self | apply List.mem_cons_of_mem)) g2 g3 hgt hgu hsu hD hfit (fun h4' tk4 F4 N4 => ?_))
  refine wpAny_execs_cons (t_same6 (rest := (Rb, ob) :: (Ra, oa) :: rest) F4 X (fun q hq => N4 q (pm_3 hq)) T hd' hu (by repeat (with_reducible first | exact Has.nil | refine Has.consM H3 (by repeat (with_reducible first | exact List.mem_cons_self | apply List.mem_cons_of_mem)) ?_)) n2 n3 hok' (fun h5' tk5 F5 N5 => ?_))
  refine wpAny_execs_nil ?_
  exact hQ h5' tk5 m3 out.i out.o it2 nv2 it3 nv3 hb' hok' n2 n3 (by repeat (with_reducible first | exact Has.nil | refine Has.consM H3 (by repeat (with_reducible first | exact List.mem_cons_self | apply List.mem_cons_of_mem)) ?_)) F5 (fun q hq => N5 q (pm_4 hq))
end Mine
end

section
open PySem PySem.W PySem.Calls PySem.Spec PyProof.Rows
set_option maxRecDepth 100000
set_option maxHeartbeats 2000000
namespace Mine
theorem anew16 : True := by
  w_top off
  exact True.intro
open TI
theorem fillL6F (P : Params) : hd.heap_1 P = hd.heap_1 P ∧ PySem.Challenge.rw_kq0016_06 = PySem.Challenge.rw_kq0016_06 := by
  k_fill
  exact ⟨rfl, rfl⟩
/-- between two turns -/
inductive JL6 (Pm : Params) (rest : List (Addr × Obj)) (D : Str) (B : Array UInt8) (Dt Bt : Tok) (xt dt xu du : Addr) (k1t k2t k3t k4t k5t st k1u k2u k3u k4u k5u su : Tok) (gt gu : Value) (m₁ : Str → Option Value) (news₁ : List (Addr × Obj)) : Prop
  | mk (i : Int) (o : Option Str) (itt : Tok) (nvt : Value) (itu : Tok) (nvu : Value) (hb : Bz D i) (hok : OkO o) (hnt : NvIs nvt o) (hnu : NvIs nvu o) (hm : Has m₁ [(Str.ofString "t", .ref xt), (Str.ofString "u", .ref xu), (Str.ofString "text", .str D Dt), (Str.ofString "octets", .bytes B Bt)]) (N : news₁ = (xu, instObj 133 du) :: (du, tokD Pm k1u k2u k3u k4u k5u false gu (.str D su) (.int i itu) nvu) :: (xt, instObj 133 dt) :: (dt, tokD Pm k1t k2t k3t k4t k5t true gt (.str D st) (.int i itt) nvt) :: rest)
def forIt : Stmt → Expr
  | .For _ i _ _ _ => i
  | _ => default
def forPs : Stmt → Pos
  | .For _ _ _ _ p => p
  | _ => default
theorem loop6 {w : World} {loose : List Str} {mean : ExcName → Option Value} {mg mb : Str → Option Value} {A₀ : Around} {a : Addr} {cd : Value}
    {base : Heap} {L : Addr} {m : Str → Option Value} {s : Shared} {E : Value → Shared → Prop} {Q : Flow → Shared → Prop} {rest : List (Addr × Obj)} {D : Str} {B : Array UInt8} {Dt Bt : Tok} {i : Int} {o : Option Str} {Ds : Addr} {ws : List Value} {ns : List Int} {xt dt : Addr} {k1t k2t k3t k4t k5t st itt : Tok} {gt nvt : Value} {xu du : Addr} {k1u k2u k3u k4u k5u su itu : Tok} {gu nvu : Value}
    (F : Fr base L s.heap m) (X : (hd.heap_1 w.params).In base) (N : News base L s.heap ((xu, instObj 133 du) :: (du, tokD w.params k1u k2u k3u k4u k5u false gu (.str D su) (.int i itu) nvu) :: (xt, instObj 133 dt) :: (dt, tokD w.params k1t k2t k3t k4t k5t true gt (.str D st) (.int i itt) nvt) :: rest)) (T : Top hd.view_39 loose mean mg mb base) (hA₀ : A₀.frames = some []) (hh₀ : A₀.handled = none) (hd' : A₀.depth + 50 < recursionLimit) (hu : A₀.units + 200 < cLine) (hD : D.length ≤ 2000) (hD1 : 1 ≤ D.length) (hgt : GivenIs true gt D) (hgu : GivenIs false gu D) (hsu : SameV gu (.bytes B Bt)) (h1 : xu ≠ dt) (h2 : du ≠ dt) (h3 : xt ≠ du) (hrt : ∀ q ∈ rest, q.1 ≠ dt) (hru : ∀ q ∈ rest, q.1 ≠ du) (hb : Bz D i) (hok : OkO o) (hnt : NvIs nvt o) (hnu : NvIs nvu o) (hm : Has m [(Str.ofString "script", .ref Ds), (Str.ofString "t", .ref xt), (Str.ofString "u", .ref xu), (Str.ofString "text", .str D Dt), (Str.ofString "octets", .bytes B Bt)]) (hL : base.IsList Ds ws.toArray) (hI : IntsAre ws ns) (hlen : ns.length ≤ 63)
    (hE : PassesOwn (model PySem.Challenge.rw_kq0016_06.row.prog w) (A₀.deeper (lawEnv L a cd)) (lawEnv L a cd) E)
    (hQ : ∀ h' tk m' i' itt' nvt' itu' nvu' Dl ol, Has m' [(Str.ofString "t", .ref xt), (Str.ofString "u", .ref xu), (Str.ofString "text", .str D Dt), (Str.ofString "octets", .bytes B Bt)] → Fr base L h' m' → News base L h' ((xu, instObj 133 du) :: (du, tokD w.params k1u k2u k3u k4u k5u false gu (.str D su) (.int i' itu') nvu') :: (xt, instObj 133 dt) :: (dt, tokD w.params k1t k2t k3t k4t k5t true gt (.str D st) (.int i' itt') nvt') :: (Dl, ol) :: rest) → Q .next { s with heap := h', toks := tk }) :
    wpAny (model PySem.Challenge.rw_kq0016_06.row.prog w) (A₀.deeper (lawEnv L a cd)) (exec (lawStmt 7) (lawEnv L a cd)) Q E s := by
  have hh : (A₀.deeper (lawEnv L a cd)).handled = none := hh₀
  obtain ⟨px, hst⟩ : ∃ px, lawStmt 7 = .For (.Name (Str.ofString "n") px) (forIt (lawStmt 7)) (forBody (lawStmt 7)) [] (forPs (lawStmt 7)) := ⟨_, rfl⟩
  rw [hst]
  refine For_invVF F (by rfl) (by rfl) ?_ (by intro _; rfl) hE
  have key : ∀ h₁ tk₁ Dl us kk, Fr base L h₁ m → News base L h₁ ((Dl, W.listOf (List.toArray us) 0) :: (xu, instObj 133 du) :: (du, tokD w.params k1u k2u k3u k4u k5u false gu (.str D su) (.int i itu) nvu) :: (xt, instObj 133 dt) :: (dt, tokD w.params k1t k2t k3t k4t k5t true gt (.str D st) (.int i itt) nvt) :: rest) → (∀ q ∈ (xu, instObj 133 du) :: (du, tokD w.params k1u k2u k3u k4u k5u false gu (.str D su) (.int i itu) nvu) :: (xt, instObj 133 dt) :: (dt, tokD w.params k1t k2t k3t k4t k5t true gt (.str D st) (.int i itt) nvt) :: rest, q.1 < Dl) → IntsAre us kk → wpAny (model PySem.Challenge.rw_kq0016_06.row.prog w) (A₀.deeper (lawEnv L a cd)) (pyIter (.ref Dl)) (fun it s₂ => LoopAtV PySem.Challenge.rw_kq0016_06.row.prog w (A₀.deeper (lawEnv L a cd)) base (lawEnv L a cd) (Str.ofString "n") (forBody (lawStmt 7)) Q E it s₂) E { s with heap := h₁, toks := tk₁ } := by
    intro h₁ tk₁ Dl us kk F₁ N₁ hlt hus
    have hlt' : ∀ q ∈ (xu, instObj 133 du) :: (du, tokD w.params k1u k2u k3u k4u k5u false gu (.str D su) (.int i itu) nvu) :: (xt, instObj 133 dt) :: (dt, tokD w.params k1t k2t k3t k4t k5t true gt (.str D st) (.int i itt) nvt) :: rest, q.1 ≠ Dl := fun q hq => Nat.ne_of_lt (hlt q hq)
    have N₂ : News base L h₁ ((xu, instObj 133 du) :: (du, tokD w.params k1u k2u k3u k4u k5u false gu (.str D su) (.int i itu) nvu) :: (xt, instObj 133 dt) :: (dt, tokD w.params k1t k2t k3t k4t k5t true gt (.str D st) (.int i itt) nvt) :: (Dl, W.listOf (List.toArray us) 0) :: rest) := fun q hq => N₁ q (pm_5 hq)
    refine iter_grow (h₀ := base) (env := lawEnv L a cd) (s := { s with heap := h₁, toks := tk₁ }) (fun _ m₁ news₁ => JL6 w.params ((Dl, W.listOf (List.toArray us) 0) :: rest) D B Dt Bt xt dt xu du k1t k2t k3t k4t k5t st k1u k2u k3u k4u k5u su gt gu m₁ news₁)
      hh (by repeat (first | exact List.mem_cons_self | apply List.mem_cons_of_mem)) F₁ N₂ ⟨i, o, itt, nvt, itu, nvu, hb, hok, hnt, hnu, (by repeat (with_reducible first | exact Has.nil | refine Has.consM hm (by repeat (with_reducible first | exact List.mem_cons_self | apply List.mem_cons_of_mem)) ?_)), rfl⟩ ?_ ?_
    · rintro j v m₁ news₁ h tk I oI hv hin ⟨i, o, itt, nvt, itu, nvu, hb, hok, hnt, hnu, Hm, rfl⟩ hoff F' N'
      obtain ⟨z, tz, rfl⟩ : ∃ z tz, v = .int z tz := by
        have hjl : j < kk.length := by rw [← hus.length]; exact (List.getElem?_eq_some_iff.mp hv).1
        obtain ⟨tz, e⟩ := hus.get j kk[j] (List.getElem?_eq_getElem hjl)
        exact ⟨_, tz, Option.some.inj (hv.symm.trans e)⟩
      have H1 : Has (fun y => if y = Str.ofString "n" then some (Value.int z tz) else m₁ y) [(Str.ofString "n", .int z tz), (Str.ofString "t", .ref xt), (Str.ofString "u", .ref xu), (Str.ofString "text", .str D Dt), (Str.ofString "octets", .bytes B Bt)] := Hm.put (by kernel_rfl)
      generalize (fun y => if y = Str.ofString "n" then some (Value.int z tz) else m₁ y) = m2 at F' H1
      have oI : ∀ (b1 b2 b3 b4 : Addr × Obj) (R : List (Addr × Obj)), (∀ p ∈ b1 :: b2 :: b3 :: b4 :: R, p.1 ≠ I) → b1.1 ≠ I ∧ b2.1 ≠ I ∧ b3.1 ≠ I ∧ b4.1 ≠ I ∧ ∀ q ∈ R, q.1 ≠ I := fun b1 b2 b3 b4 R h => ⟨h _ List.mem_cons_self, h _ (List.mem_cons_of_mem _ List.mem_cons_self), h _ (List.mem_cons_of_mem _ (List.mem_cons_of_mem _ List.mem_cons_self)), h _ (List.mem_cons_of_mem _ (List.mem_cons_of_mem _ (List.mem_cons_of_mem _ List.mem_cons_self))), fun q hq => h q (List.mem_cons_of_mem _ (List.mem_cons_of_mem _ (List.mem_cons_of_mem _ (List.mem_cons_of_mem _ hq))))⟩
      obtain ⟨o1, o2, o3, o4, o5⟩ := oI _ _ _ _ _ hoff
      refine turn6 (rest := (I, _) :: (Dl, W.listOf (List.toArray us) 0) :: rest) F' X (fun q hq => N' q (pm_5 hq)) T hA₀ hh₀ hd' hu hD hD1 hgt hgu hsu h1 h2 h3 (fun q hq => ?_) (fun q hq => ?_) hb hok hnt hnu H1 (fun h' tk' m' i' o' itt' nvt' itu' nvu' b1 b2 b3 b4 Hm' F2 N2 => ?_)
      · rcases List.mem_cons.mp hq with rfl | hq
        · exact o4.symm
        rcases List.mem_cons.mp hq with rfl | hq
        · exact (hlt' (dt, _) (List.mem_cons_of_mem _ (List.mem_cons_of_mem _ (List.mem_cons_of_mem _ List.mem_cons_self)))).symm
        · exact hrt q hq
      · rcases List.mem_cons.mp hq with rfl | hq
        · exact o2.symm
        rcases List.mem_cons.mp hq with rfl | hq
        · exact (hlt' (du, _) (List.mem_cons_of_mem _ List.mem_cons_self)).symm
        · exact hru q hq
      · refine ⟨h', tk', m', _, rfl, F2, fun q hq => N2 q (pm_6 hq), fun q hq => ?_, by repeat (first | exact List.mem_cons_self | apply List.mem_cons_of_mem), i', o', itt', nvt', itu', nvu', b1, b2, b3, b4, Hm', rfl⟩
        rcases List.mem_cons.mp hq with rfl | hq
        · exact o1
        rcases List.mem_cons.mp hq with rfl | hq
        · exact o2
        rcases List.mem_cons.mp hq with rfl | hq
        · exact o3
        rcases List.mem_cons.mp hq with rfl | hq
        · exact o4
        · exact o5 q hq
    · rintro m₁ news₁ h tk ⟨i, o, itt, nvt, itu, nvu, _, _, _, _, Hm, rfl⟩ F' N'
      exact hQ h tk m₁ i itt nvt itu nvu _ _ Hm F' N'
  have ev : ∀ (R : Value → Shared → Prop) x y, forIt (lawStmt 7) = x → lawScope = y → wpAny (model PySem.Challenge.rw_kq0016_06.row.prog w) (A₀.deeper (envOf (Str.ofString "law") y L a cd)) (eval x (envOf (Str.ofString "law") y L a cd)) R E s → wpAny (model PySem.Challenge.rw_kq0016_06.row.prog w) (A₀.deeper (lawEnv L a cd)) (eval (forIt (lawStmt 7)) (lawEnv L a cd)) R E s := by
    intro R x y h1 h2 h3
    unfold lawEnv
    rw [h1, h2]; exact h3
  refine ev _ _ _ (by conv => lhs; whnf) (by conv => lhs; whnf) ?_
  clear ev hst hE
  have hm0 : Has m [(Str.ofString "script", .ref Ds)] := (by repeat (with_reducible first | exact Has.nil | refine Has.consM hm (by repeat (with_reducible first | exact List.mem_cons_self | apply List.mem_cons_of_mem)) ?_))
  have F₁ := hm0.fr F
  dsimp only [chainOf] at F₁
  have hF : (fun y => if y = Str.ofString "script" then some (Value.ref Ds) else m y) = m := chain_eq hm0
  rw [← hF] at key
  clear F hF
  generalize hR : (fun xv s₁ => wpAny (model PySem.Challenge.rw_kq0016_06.row.prog w) _ (pyIter xv) _ E s₁) = R
  repeat ((fail_if_success (with_reducible (show R _ _))); first | (k_unfold; (try dsimp only)) | walk1 | dsimp only)
  subst hR
  rename_i Da wa ha1 hIa hCa hLa la hb1 tkb tb lb hb2 lb1 Dz wz hz Fz Nz hIz lz
  exact key _ _ Dz wz _ Fz (fun q hq => Nz q (by
    rcases List.mem_cons.mp hq with rfl | hq
    · exact List.mem_cons_self
    · exact List.mem_cons_of_mem _ (List.mem_cons_of_mem _ (List.mem_cons_of_mem _ hq)))) (allLt_lt (l := (xu, instObj 133 du) :: (du, tokD w.params k1u k2u k3u k4u k5u false gu (.str D su) (.int i itu) nvu) :: (xt, instObj 133 dt) :: (dt, tokD w.params k1t k2t k3t k4t k5t true gt (.str D st) (.int i itt) nvt) :: rest) lz.2.2) hIz
end Mine
end

section
open PySem PySem.W PySem.Calls PySem.Spec PyProof.Rows
set_option maxRecDepth 100000
set_option maxHeartbeats 2000000
namespace Mine
open TI
theorem fillL6G (P : Params) : hd.heap_1 P = hd.heap_1 P ∧ PySem.Challenge.rw_kq0016_06 = PySem.Challenge.rw_kq0016_06 := by
  k_fill
  exact ⟨rfl, rfl⟩
theorem pm_8 {α : Type} {dt du xt xu q : α} {R : List α} (h : q ∈ xu :: du :: xt :: dt :: R) : q ∈ xt :: dt :: xu :: du :: R := by
  simp only [List.mem_cons] at h ⊢
  rcases h with h | h | h | h | h
  · exact .inr (.inr (.inl h))
  · exact .inr (.inr (.inr (.inl h)))
  · exact .inl h
  · exact .inr (.inl h)
  · exact .inr (.inr (.inr (.inr h)))
/-- the law, whole -/
theorem law_mid6 {w : World} {loose : List Str} {mean : ExcName → Option Value} {mg mb : Str → Option Value} {A₀ : Around} {a : Addr} {cd : Value}
    {base : Heap} {L : Addr} {m : Str → Option Value} {s : Shared} {E : Value → Shared → Prop} {Q : Flow → Shared → Prop} {news : List (Addr × Obj)} {Ds : Addr} {ws : List Value} {ns : List Int}
    (F : Fr base L s.heap m) (X : (hd.heap_1 w.params).In base) (N : News base L s.heap (news)) (T : Top hd.view_39 loose mean mg mb base) (hA₀ : A₀.frames = some []) (hh₀ : A₀.handled = none) (hd' : A₀.depth + 50 < recursionLimit) (hu : A₀.units + 200 < cLine)
    (hm : Has m [(Str.ofString "script", .ref Ds)]) (hL : base.IsList Ds ws.toArray) (hI : IntsAre ws ns) (hlen : ns.length ≤ 63)
    (hE : PassesOwn (model PySem.Challenge.rw_kq0016_06.row.prog w) (A₀.deeper (lawEnv L a cd)) (lawEnv L a cd) E)
    (hQ : ∀ h' tk m', Fr base L h' m' → Q (.ret (.bool true)) { s with heap := h', toks := tk }) :
    wpAny (model PySem.Challenge.rw_kq0016_06.row.prog w) (A₀.deeper (lawEnv L a cd)) (execs lawBody (lawEnv L a cd)) Q E s := by
  have hh : (A₀.deeper (lawEnv L a cd)).handled = none := hh₀
  have hdl := d6_len ns
  have hds := d6_small ns
  obtain ⟨i, y, hf⟩ := d6_first ns
  have hs6 := s6_len ns
  rw [show lawBody = lawStmt 0 :: lawStmt 1 :: lawStmt 2 :: lawStmt 3 :: lawStmt 4 :: lawStmt 5 :: lawStmt 6 :: lawStmt 7 :: [lawStmt 8] from rfl]
  refine wpAny_execs_cons (s_text6 F X N T hh hm hL hI hlen (fun h1 tk1 st1 F1 N1 => ?_))
  have H1 := hm.put (n := Str.ofString "text") (v := .str (cat ((ns.take 16).map pc6)) st1) (by kernel_rfl)
  generalize setM m (Str.ofString "text") (.str (cat ((ns.take 16).map pc6)) st1) = m1 at H1 F1
  refine wpAny_execs_cons (s_last6 (S := cat ((ns.take 16).map pc6)) F1 X N1 T hh (by repeat (with_reducible first | exact Has.nil | refine Has.consM H1 (by repeat (with_reducible first | exact List.mem_cons_self | apply List.mem_cons_of_mem)) ?_)) hL hI hlen (by omega) (fun h2 tk2 Dt F2 N2 => ?_))
  have hS1 : Has m1 [(Str.ofString "script", .ref Ds)] := (by repeat (with_reducible first | exact Has.nil | refine Has.consM H1 (by repeat (with_reducible first | exact List.mem_cons_self | apply List.mem_cons_of_mem)) ?_))
  have H2 := hS1.put (n := Str.ofString "text") (v := .str (D6 ns) Dt) (by kernel_rfl)
  rw [show cat ((ns.take 16).map pc6) ++ lst6 ns = D6 ns from rfl] at F2
  generalize setM m1 (Str.ofString "text") (.str (D6 ns) Dt) = m2 at H2 F2
  have hD : (D6 ns).length ≤ 2000 := by omega
  have hD1 : 1 ≤ (D6 ns).length := by omega
  generalize D6 ns = D at *
  refine wpAny_execs_cons (s_oct6 (D := D) F2 X N2 T hh (by repeat (with_reducible first | exact Has.nil | refine Has.consM H2 (by repeat (with_reducible first | exact List.mem_cons_self | apply List.mem_cons_of_mem)) ?_)) hD hds (fun h3 tk3 B Bt hB F3 N3 => ?_))
  have H3 := H2.put (n := Str.ofString "octets") (v := .bytes B Bt) (by kernel_rfl)
  generalize setM m2 (Str.ofString "octets") (.bytes B Bt) = m3 at H3 F3
  have hfs := hf.1
  refine wpAny_execs_cons (s_tok3 (D := D) F3 X N3 T hA₀ hh₀ hd' (by repeat (with_reducible first | exact Has.nil | refine Has.consM H3 (by repeat (with_reducible first | exact List.mem_cons_self | apply List.mem_cons_of_mem)) ?_)) hD hfs (.inl ⟨rfl, Dt, rfl⟩) (fun h4 tk4 xt dt k1t k2t k3t k4t k5t gt st itt nvt hgt hst hnt F4 N4 o4 => ?_))
  have H4 := H3.put (n := Str.ofString "t") (v := .ref xt) (by kernel_rfl)
  generalize setM m3 (Str.ofString "t") (.ref xt) = m4 at H4 F4
  refine wpAny_execs_cons (s_tok4 (D := D) F4 X N4 T hA₀ hh₀ hd' (by repeat (with_reducible first | exact Has.nil | refine Has.consM H4 (by repeat (with_reducible first | exact List.mem_cons_self | apply List.mem_cons_of_mem)) ?_)) hD hfs (.inr ⟨rfl, B, Bt, rfl, hB⟩) (fun h5 tk5 xu du k1u k2u k3u k4u k5u gu su itu nvu hgu hsu hnu F5 N5 o5 => ?_))
  have H5 := H4.put (n := Str.ofString "u") (v := .ref xu) (by kernel_rfl)
  generalize setM m4 (Str.ofString "u") (.ref xu) = m5 at H5 F5
  have e1 : xu ≠ dt := fun e => by
    have a1 := (N5 _ List.mem_cons_self).1
    have a2 := (N5 (dt, tokD w.params k1t k2t k3t k4t k5t true gt (.str D st) (.int i itt) nvt) (List.mem_cons_of_mem _ (List.mem_cons_of_mem _ (List.mem_cons_of_mem _ List.mem_cons_self)))).1
    rw [e] at a1
    have a3 := congrArg Obj.cls (Option.some.inj (a1.symm.trans a2))
    cases a3
  have e2 : du ≠ dt := (o5 (dt, _) (List.mem_cons_of_mem _ List.mem_cons_self)).symm
  have e3 : xt ≠ du := o5 (xt, _) List.mem_cons_self
  have o6 : ∀ q ∈ news, q.1 ≠ du := fun q hq => o5 q (List.mem_cons_of_mem _ (List.mem_cons_of_mem _ hq))
  refine wpAny_execs_cons (s_is6 F5 X N5 T hd' (by repeat (with_reducible first | exact Has.nil | refine Has.consM H5 (by repeat (with_reducible first | exact List.mem_cons_self | apply List.mem_cons_of_mem)) ?_)) (fun h6 tk6 F6 N6 => ?_))
  refine wpAny_execs_cons (s_first6 F6 X (fun q hq => N6 q (pm_1 hq)) T hd' (by omega) (by repeat (with_reducible first | exact Has.nil | refine Has.consM H5 (by repeat (with_reducible first | exact List.mem_cons_self | apply List.mem_cons_of_mem)) ?_)) hf hnt hD hD1 (fun h7 tk7 F7 N7 => ?_))
  refine wpAny_execs_cons (loop6 (Dt := Dt) (Bt := Bt) (B := B) F7 X (fun q hq => N7 q (pm_8 hq)) T hA₀ hh₀ hd' hu hD hD1 hgt hgu hsu e1 e2 e3 o4 o6 (stepZ_bz hfs (by unfold Bz; omega)) (okO_step hfs) hnt hnu (by repeat (with_reducible first | exact Has.nil | refine Has.consM H5 (by repeat (with_reducible first | exact List.mem_cons_self | apply List.mem_cons_of_mem)) ?_)) hL hI hlen hE (fun h8 tk8 m8 i8 itt8 nvt8 itu8 nvu8 Dl ol H8 F8 N8 => ?_))
  refine wpAny_execs_cons (s_ret6 (D := D) F8 X N8 T hd' (by omega) (by repeat (with_reducible first | exact Has.nil | refine Has.consM H8 (by repeat (with_reducible first | exact List.mem_cons_self | apply List.mem_cons_of_mem)) ?_)) hgt hgu hst hsu (fun h9 tk9 F9 => ?_))
  exact hQ h9 tk9 m8 F9
end Mine
end

section
open PySem PySem.W PySem.Calls PySem.Spec PyProof.Rows
set_option maxRecDepth 100000
set_option maxHeartbeats 3000000
namespace Mine
theorem anew17 : True := by
  w_top off
  exact True.intro
open TI
local macro_rules | `(tactic| k_qdec) => `(tactic| decide +kernel)
theorem law6 : PySem.Challenge.rw_kq0016_06.Holds := hd (by
  w_strict (
    k_go0
    repeat ((fail_if_success (with_reducible show wpAny _ _ (execs (Stmt.Assign _ _ _ :: Stmt.AugAssign _ _ _ _ :: _) _) _ _ _)); first | (k_unfold; (try dsimp only)) | walk1 | (dsimp only; walk1))
    have KX₁ := ‹(hd.heap_1 _).In _›
    have T₁ := ‹Top hd.view_39 _ _ _ _ _›
    have F₁ := ‹Fr _ _ _ _›
    have N₁ := ‹News _ _ _ _›
    have hI₁ := ‹IntsAre _ _›
    refine law_mid6 (A₀ := callerA) F₁ KX₁ N₁ T₁ rfl rfl (by decide) (by decide) (.cons (by rfl) .nil) (by assumption) hI₁ (by omega) ?hE ?hQ
    case hE =>
      show PassesOwn _ (callerA.deeper (envOf _ _ _ _ _)) (envOf _ _ _ _ _) _
      passes_own
    case hQ =>
      intro h' tk' m' F'
      k_steps))
end Mine
end

set_option maxRecDepth 100000 in
theorem PySem.Challenge.cw_kq0016_06_holds : PySem.Challenge.rw_kq0016_06.Holds := by
  exact Mine.law6
