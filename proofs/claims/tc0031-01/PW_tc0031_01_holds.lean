import PyProof.Rows.All
import Wide.All
import OpenK.AllK
import Wide.FinOn
import Lean
import PySem.Challenge.RW_tc0031_01
set_option Elab.async false
set_option linter.unusedVariables false
set_option linter.unusedSimpArgs false

/- TopH -/
section
local macro_rules | `(tactic| walk_at "idle") => `(tactic| skip)
open PySem PySem.W PyProof.Rows
set_option Elab.async false
set_option maxRecDepth 100000
set_option maxHeartbeats 8000000
namespace Mine
open_top hd for PySem.Challenge.rw_tc0031_01
end Mine
end

/- R1 -/
section
open PySem PySem.W PyProof.Rows
set_option Elab.async false
set_option maxRecDepth 100000
namespace Mine
namespace Re
theorem slot_search : Slot "re.Pattern" "search" "re.Pattern.search" :=
  .of (owner := "re.Pattern") (n := "search") (by rw [typeLookup_type, builtinLookup_eq_fast]; kernel_rfl) (by decide +kernel) (by decide +kernel) (by decide +kernel)
    (by first | exact .inl (by decide +kernel) | exact .inr (by decide +kernel)) (by rw [isSubtype_type]; kernel_rfl)
theorem entry_search : entryFor table "re.Pattern.search" = some Builtin.«re.Pattern.search» := entryFor_of_tree (by kernel_rfl)
theorem args_search (a b : Value) : argsOk "re.Pattern.search" ⟨[a, b], []⟩ := by unfold argsOk; kernel_rfl
theorem type_search : typeOf (.builtin "re.Pattern.search") = pure (.type "method_descriptor") := by show builtinType _ = _; rw [builtinType_eq_fast]; kernel_rfl
theorem plain_pat : PlainAttrs "re.Pattern" :=
  ⟨⟨"object.__getattribute__", by rw [typeLookup_type, builtinLookup_eq_fast]; kernel_rfl, by decide +kernel⟩, by rw [typeLookup_type, builtinLookup_eq_fast]; kernel_rfl⟩

open Sre
/-- a code array whose set (from place 5) takes none of the good signs -/
def Clean (code : Array Nat) (good : Nat → Prop) : Prop :=
  ∀ c, good c → ∀ seen : Sre.Seen, ∃ seen', inSet code c code.size 5 true seen = .ok (false, seen')

theorem admitted_none {m : M} {good : Nat → Prop} (hc : Clean m.code good) (ht : ∀ i, i < m.lim → good (m.text.getD i 0)) :
    ∀ (fuel s : Nat) (seen : Sre.Seen), ∃ seen', M.admitted m fuel s seen = .ok (none, seen')
  | 0, _, seen => ⟨seen, rfl⟩
  | fuel + 1, s, seen => by
    unfold M.admitted
    by_cases h : s ≥ m.lim
    · rw [if_pos h]; exact ⟨seen, rfl⟩
    · rw [if_neg h]
      obtain ⟨seen', e⟩ := hc _ (ht s (by omega)) seen
      rw [e]
      exact admitted_none hc ht fuel (s + 1) seen'

theorem attemptFrom_none {m : M} {good : Nat → Prop} (hc : Clean m.code good) (hi : m.code.getD 0 0 = 14) (h4 : m.code.getD 2 0 = 4)
    (ht : ∀ i, i < m.lim → good (m.text.getD i 0)) (hf : m.frames = []) (ho : m.outcome = none) (s : Nat) (first : Bool) :
    (m.attemptFrom s first).answer = some false ∧ (m.attemptFrom s first).frames = [] ∧ (m.attemptFrom s first).outcome = none := by
  have h : m.hasFirstSet = true := by
    unfold M.hasFirstSet
    rw [hi, h4]; rfl
  obtain ⟨seen', e⟩ := admitted_none hc ht (m.lim + 1 - s) s m.seen
  unfold M.attemptFrom
  rw [h, e]
  exact ⟨rfl, hf, ho⟩
theorem search_fails {code text : Array Nat} {good : Nat → Prop} (hc : Clean code good) (hi : code.getD 0 0 = 14) (h4 : code.getD 2 0 = 4)
    (ht : ∀ i, i < text.size → good (text.getD i 0)) (lim : Nat) (hl : lim ≤ text.size) :
    (Sre.forSearch code text 0 0 lim false).answer = some false ∧ (Sre.forSearch code text 0 0 lim false).frames = [] ∧ (Sre.forSearch code text 0 0 lim false).outcome = none := by
  unfold Sre.forSearch
  dsimp only
  split
  · exact ⟨rfl, rfl, rfl⟩
  · exact attemptFrom_none (m := { (_ : M) with lastStart := _ }) hc hi h4 (fun i q => ht i (Nat.lt_of_lt_of_le q hl)) rfl rfl 0 true
theorem runFor_fails {m : M} (h1 : m.answer = some false) (h2 : m.frames = []) (h3 : m.outcome = none) : (m.runFor 4).outcome = some .failed := by
  have e : m.step = { m with outcome := some .failed } := by
    unfold M.step
    rw [h3, h1, h2]
    rfl
  unfold M.runFor
  rw [h3]
  simp only [Option.isSome_none, Bool.false_eq_true, if_false]
  rw [e]
  unfold M.runFor
  rfl

open PySem.Builtin.Re
section
variable {prog : Program} {w : World} {A : Around} {E : Value → Shared → Prop} {s : Shared}
theorem rules_skip {M : Model} (b : Nat → Bool) (t : Nat → String) {Q : PUnit → Shared → Prop} : ∀ l : List Nat, Q ⟨⟩ s →
    wpAny M A (forIn l PUnit.unit fun i _ => do
      if b i = true then do
        rule (t i)
        pure (ForInStep.yield PUnit.unit)
      else pure (ForInStep.yield PUnit.unit)) Q E s := by
  intro l h
  induction l with
  | nil => exact wpAny_pure h
  | cons i l ih =>
    rw [List.forIn_cons]
    refine wpAny_bind ?_
    cases q : b i with
    | true => exact wpAny_bind (wpAny_rule (wpAny_pure ih))
    | false => exact wpAny_pure ih

theorem runToEnd_fails {M : Model} {m : Sre.M} (h1 : m.answer = some false) (h2 : m.frames = []) (h3 : m.outcome = none) {Q : Option Sre.M → Shared → Prop} (h : Q none s) :
    wpAny M A (reRunToEnd m) Q E s := by
  have e := runFor_fails h1 h2 h3
  unfold reRunToEnd
  refine wpAny_bind ?_
  rw [show (2 ^ 64 : Nat) = (2 ^ 64 - 1) + 1 from rfl]
  unfold reDrive
  show wpAny M A (if (m.runFor 4).outcome.isSome = true then _ else _) _ _ _
  rw [e, if_pos (show (some Sre.Outcome.failed).isSome = true from rfl)]
  refine wpAny_pure ?_
  refine wpAny_bind (rules_skip (b := fun i => (m.runFor 4).seen.has i) (t := fun i => Sre.names.getD i "") _ ?_)
  show wpAny M A (match (m.runFor 4).outcome with | some .matched => _ | some .failed => _ | some (.stuck why) => _ | none => _) _ _ _
  rw [e]
  exact wpAny_pure h

theorem named (v : Value) : reNamed "re.Pattern.search" "search" ["string", "pos", "endpos"] 1 [v] [] = pure [some v, none, none] := by rfl
theorem search_none {a c : Addr} {v : Str} {tk : Tok} {pat fl : Value} {g6 g2 : Tok} {items : Array Value} {code : Array Nat} {oc : Obj} {n : Nat} {good : Nat → Prop} {Q : Value → Shared → Prop}
    (ho : s.heap.get? a = some { cls := .type "re.Pattern", data := .fields #[pat, fl, .int 0 g2, .none, .none, .ref c, .int 0 g6] })
    (hc : s.heap.get? c = some oc) (hd : oc.data = .seq items n)
    (hcode : (items.map reRawOf).map (·.toNat) = code) (h0 : code.getD 0 0 = 14) (h4 : code.getD 2 0 = 4) (hg : Clean code good)
    (ht : ∀ i, i < v.cps.size → good (v.cps.getD i 0)) (h : Q .none s) :
    wpAny (model prog w) A (call (.builtin "re.Pattern.search") [.ref a, .str v tk]) Q E s := by
  refine wpAny_call_entry slot_search ⟨_, ho, rfl⟩ entry_search ?_ (args_search _ _)
  unfold Builtin.«re.Pattern.search»
  refine wpAny_bind ?_
  unfold reTarget
  dsimp only
  rw [named]
  refine wpAny_bind (wpAny_pure ?_)
  dsimp only
  refine wpAny_bind (wpAny_pure ?_)
  refine wpAny_bind (wpAny_pure ?_)
  refine wpAny_bind (wpAny_bind (wpAny_load ho (wpAny_pure ?_)))
  refine wpAny_bind (wpAny_bind (wpAny_pure (wpAny_pure ?_)))
  show wpAny (model prog w) A.in1 (if false = true then _ else if false = true then _ else _) _ _ _
  rw [if_neg Bool.false_ne_true, if_neg Bool.false_ne_true]
  refine wpAny_bind (m := reNoCollectionInside _ _) (wpAny_pure ?_)
  refine wpAny_bind (m := reRawItems _) ?_
  refine wpAny_bind (m := seqItems? (.ref c)) ?_
  refine wpAny_bind (m := load c) (wpAny_load hc ?_)
  rw [hd]
  refine wpAny_pure (wpAny_pure (wpAny_pure ?_))
  show wpAny _ _ (reAnswer _ (Sre.forSearch ((items.map reRawOf).map (·.toNat)) v.cps 0 (min 0 v.cps.size) (min (2 ^ 63 - 1 : Int).toNat v.cps.size) false)) _ _ _
  rw [Nat.zero_min, hcode]
  obtain ⟨h1, h2, h3⟩ := search_fails hg h0 h4 ht (min (2 ^ 63 - 1 : Int).toNat v.cps.size) (Nat.min_le_right _ _)
  unfold reAnswer
  exact wpAny_bind (runToEnd_fails h1 h2 h3 (wpAny_pure ⟨_, rfl, h⟩))
theorem getMethod_search {a : Addr} {o : Obj} {pl : Sem Bool} {Q : Value × List Value → Shared → Prop} (ho : s.heap.get? a = some o) (hc : o.cls = .type "re.Pattern") (hn : o.dict = none)
    (h : Q (.builtin "re.Pattern.search", [.ref a]) s) : wpAny (model prog w) A (getMethod (.ref a) (Str.ofString "search") pl) Q E s :=
  getMethod_builtin ⟨o, ho, hc⟩ plain_pat slot_search type_search (fun _ e => by cases e; exact ⟨o, ho, hn⟩) h
end
end Re
end Mine
end

/- F1 -/
section
open PySem PySem.W PyProof.Rows PySem.Calls
set_option Elab.async false
set_option maxRecDepth 100000
set_option maxHeartbeats 8000000
namespace Mine
noncomputable abbrev PP : Program := PySem.Challenge.rw_tc0031_01.row.prog
noncomputable abbrev VW : Program := Mine.hd.view_39
noncomputable abbrev LS : List Str := looseW Mine.hd.view_39 [Str.ofString "_name_disallowed_re", Str.ofString "_value_disallowed_re"]
noncomputable abbrev KK (w : World) : Frag := Mine.hd.heap_39 w.params

abbrev Ar (dp un : Nat) (gd : Option (List Code)) (outer : List Env) : Around := { handled := none, depth := dp, frames := some outer, guards := gd, units := un }
/-- what stands at the base -/
structure Bs (w : World) (mean : ExcName → Option Value) (mg mb : Str → Option Value) (base : Heap) : Prop where
  X : (Mine.hd.heap_39 w.params).In base
  T : Top VW LS mean mg mb base
def LooseAt (base : Heap) (outer : List Env) (a : Addr) : Prop := base.get? a = none ∧ ∀ env ∈ outer, env.frame ≠ some a
abbrev Keeps (h h' : Heap) : Prop := ∀ b o, h.get? b = some o → h'.get? b = some o
abbrev KeepsBut (l : List Addr) (h h' : Heap) : Prop := ∀ b o, h.get? b = some o → b ∉ l → h'.get? b = some o

theorem hide_ground {A : Around} {base h : Heap} {outer : List Env} {news : List (Addr × Obj)} (B : Below A base outer h) (hl : ∀ q ∈ news, h.get? q.1 = some q.2 ∧ LooseAt base outer q.1) :
    Below A base outer (hideAll h (news.map (·.1))) := by
  refine ⟨B.stack, fun b o e => hideAll_get _ (B.stays b o e) fun q => ?_, funFrames_hideAll B.frames fun env he a ha => ?_⟩
  · obtain ⟨p, hp, rfl⟩ := List.mem_map.mp q
    rw [(hl p hp).2.1] at e; cases e
  · obtain ⟨p, hp, rfl⟩ := List.mem_map.mp ha
    exact (hl p hp).2.2 env he

section
variable {w : World} {mean : ExcName → Option Value} {mg mb : Str → Option Value} {dp un : Nat} {gd : Option (List Code)} {outer : List Env} {base : Heap} {s : Shared} {news : List (Addr × Obj)}
  {R : Result → Shared → Prop} {name qual : Str} {params : Arguments} {body : List Stmt} {scope : Scope} {dV kV doc pm cdv ct oc : Value} {an od : Option Addr} {osl : Array (Option Value)} {f : Addr} {args : Args} {binds : List (Str × Value)}

theorem enter (B : Below (Ar dp un gd outer) base outer s.heap) (Y : Bs w mean mg mb base) (N : ∀ q ∈ news, s.heap.get? q.1 = some q.2 ∧ LooseAt base outer q.1)
    (ho : (Mine.hd.heap_39 w.params).lookup f = some ⟨oc, od, .func (fnOf name qual params body scope dV kV doc pm an cdv ct), osl⟩) (hcd : codeIn (Mine.hd.heap_39 w.params) cdv qual = true) (hroom : dp < recursionLimit)
    (hbind : BindsTo s (fnOf name qual params body scope dV kV doc pm an cdv ct) args binds) (hloc : ∀ y ∈ binds, scope.names.lookup y.1 = some .local)
    (h : ∀ g L' h₁, g = hideAll s.heap (news.map (·.1)) → Fr g L' h₁ (fun y => binds.reverse.lookup y) → News g L' h₁ news → Below (Ar dp un gd outer) base outer g → (Mine.hd.heap_39 w.params).In g → Top VW LS mean mg mb g → (∀ p ∈ news, p.1 < L') →
      wpAny (model PP w) ((Ar dp un gd outer).deeper (envOf qual scope L' f cdv)) (execs body (envOf qual scope L' f cdv))
        (fun fl s' => R (.ok (.ret (match fl with | .ret v => v | _ => .none))) s')
        (fun e s' => wpAny (model PP w) ((Ar dp un gd outer).deeper (envOf qual scope L' f cdv)) (leaving (envOf qual scope L' f cdv) e) (fun _ s'' => R (.error e) s'') (fun e' s'' => R (.error e') s'') s')
        { s with heap := h₁, toks := s.toks + binds.length })
    (hco : scope.isCoroutine = false) (hgen : scope.isGenerator = false) (hk : scope.kind = .function)
    (hcell : ∀ x ∈ scope.names, x.2 ≠ .cell) : codeAny (model PP w) (Ar dp un gd outer) (.call (.ref f) args) R s := by
  have BG := hide_ground B N
  refine codeAny_call_def (fd := fnOf name qual params body scope dV kV doc pm an cdv ct) (body := body) (binds := binds) hroom ((Y.X.keeps B.stays) _ _ ho) rfl (Y.T.nolimit.keeps B.stays) (codeRec_of (Y.X.keeps B.stays) hcd) rfl hbind hcell hloc (fun h₁ hns hk₁ => ?_) hco hgen hk
  exact h _ s.heap.objs.size h₁ rfl ⟨hns, fun b o e => hk₁ b o (of_hideAll _ e), Nat.le_of_eq (hideAll_size _ _)⟩
    (fun p hp => ⟨hk₁ _ _ (N p hp).1, Nat.ne_of_lt (Heap.lt_size (N p hp).1), hideAll_none _ (List.mem_map_of_mem hp)⟩) BG (Y.X.keeps BG.stays) (Y.T.keeps BG.stays) (fun p hp => Heap.lt_size (N p hp).1)

theorem enterC (B : Below (Ar dp un gd outer) base outer s.heap) (Y : Bs w mean mg mb base) (N : ∀ q ∈ news, s.heap.get? q.1 = some q.2 ∧ LooseAt base outer q.1)
    (ho : (Mine.hd.heap_39 w.params).lookup f = some ⟨oc, od, .func (fnOf name qual params body scope dV kV doc pm an cdv ct), osl⟩) (hcd : codeIn (Mine.hd.heap_39 w.params) cdv qual = true) (hroom : dp < recursionLimit)
    (hbind : BindsTo s (fnOf name qual params body scope dV kV doc pm an cdv ct) args binds) (hkind : (binds.all fun y => scope.names.lookup y.1 == some .local || scope.names.lookup y.1 == some .cell) = true)
    (hnd : ((cellsFrom 0 scope.names []).map (·.1)).Nodup)
    (h : ∀ g L' h₁ tk cells, g = hideAll s.heap (news.map (·.1)) → Fr g L' h₁ (bindL (envOfC qual scope L' f cdv).kindOf binds fun _ => none) → News g L' h₁ (cells ++ news) →
      CellsAre (bindC (envOfC qual scope L' f cdv).kindOf binds fun _ => none) (cellsFrom (L' + 1) scope.names []) cells → Below (Ar dp un gd outer) base outer g → (Mine.hd.heap_39 w.params).In g → Top VW LS mean mg mb g → (∀ p ∈ news, p.1 < L') →
      wpAny (model PP w) ((Ar dp un gd outer).deeper (envOfC qual scope L' f cdv)) (execs body (envOfC qual scope L' f cdv))
        (fun fl s' => R (.ok (.ret (match fl with | .ret v => v | _ => .none))) s')
        (fun e s' => wpAny (model PP w) ((Ar dp un gd outer).deeper (envOfC qual scope L' f cdv)) (leaving (envOfC qual scope L' f cdv) e) (fun _ s'' => R (.error e) s'') (fun e' s'' => R (.error e') s'') s')
        { s with heap := h₁, toks := tk })
    (hco : scope.isCoroutine = false) (hgen : scope.isGenerator = false) (hk : scope.kind = .function) : codeAny (model PP w) (Ar dp un gd outer) (.call (.ref f) args) R s := by
  have BG := hide_ground B N
  refine codeAny_call_function hroom ((Y.X.keeps B.stays) _ _ ho) rfl hco hgen rfl (codeRec_of (Y.X.keeps B.stays) hcd) (hbind _ _ _ _ ?_)
  refine wpAny_newFunctionEnv_cells hk (kindsX hkind _) fun env' he s' x => ?_
  subst he
  refine ⟨(Y.T.nolimit.keeps B.stays).keeps x.toInCall.keep, codeAny_func ?_⟩
  obtain ⟨h₁, tk, rfl, _⟩ := x.done
  have hk₁ := x.toInCall.keep
  obtain ⟨cells, NC, Yc⟩ := Cl.news (h₀ := s.heap) (Nat.le_refl _) fun n c hm => ⟨x.cell n c (lookup_of_mem_nodup (cellsFrom_names scope.names 0 (s.heap.objs.size + 1) [] [] rfl ▸ hnd) hm), x.above n c hm⟩
  refine h _ s.heap.objs.size h₁ tk cells rfl ⟨x.toInCall.ns, fun b o e => hk₁ b o (of_hideAll _ e), Nat.le_of_eq (hideAll_size _ _)⟩ (fun p hp => ?_) Yc BG (Y.X.keeps BG.stays) (Y.T.keeps BG.stays) (fun p hp => Heap.lt_size (N p hp).1)
  rcases List.mem_append.mp hp with hp | hp
  · refine ⟨(NC p hp).1, (NC p hp).2.1, ?_⟩
    cases q : (hideAll s.heap (news.map (·.1))).get? p.1 with
    | none => rfl
    | some o => have := of_hideAll _ q; rw [(NC p hp).2.2] at this; cases this
  · exact ⟨hk₁ _ _ (N p hp).1, Nat.ne_of_lt (Heap.lt_size (N p hp).1), hideAll_none _ (List.mem_map_of_mem hp)⟩
end

theorem keep_of {g h h' : Heap} {l : List Addr} {L' : Addr} {m : Str → Option Value} (eg : g = hideAll h l) (F : Fr g L' h' m) : KeepsBut l h h' := fun b o e n => F.keep b o (by rw [eg]; exact hideAll_get _ e n)

/-- a contract: mt stand, loose; the call of f ends, changes no object that stood but those of chg, and what it gives back and leaves is told by Post -/
def Ct (w : World) (f : Addr) (args : List Value) (kw : List (Str × Value)) (d u : Nat) (mt : List (Addr × Obj)) (chg : List Addr) (Post : Value → Heap → Heap → Prop) : Prop :=
  ∀ (mean : ExcName → Option Value) (mg mb : Str → Option Value) (dp un : Nat) (gd : Option (List Code)) (outer : List Env) (base : Heap) (s : Shared) (Q E : Value → Shared → Prop),
    Below (Ar dp un gd outer) base outer s.heap → Bs w mean mg mb base → dp + d < recursionLimit → un + u < cLine →
    (∀ q ∈ mt, s.heap.get? q.1 = some q.2 ∧ LooseAt base outer q.1) →
    (∀ v h' tk', KeepsBut chg s.heap h' → Post v s.heap h' → Q v { s with heap := h', toks := tk' }) →
    wpAny (model PP w) (Ar dp un gd outer) (call (.ref f) args kw) Q E s

section
variable {w : World} {mean : ExcName → Option Value} {mg mb : Str → Option Value} {dp un d u : Nat} {gd : Option (List Code)} {outer : List Env} {base h₀ : Heap} {s : Shared} {news mt : List (Addr × Obj)} {chg : List Addr} {A₀ : Around}
  {L f : Addr} {m : Str → Option Value} {env : Env} {args : List Value} {kw : List (Str × Value)} {Post : Value → Heap → Heap → Prop} {Q E : Value → Shared → Prop}

theorem loose_news (B : Below A₀ base outer h₀) (N : News h₀ L s.heap news) (hf : env.frame = some L) : ∀ q ∈ news, s.heap.get? q.1 = some q.2 ∧ LooseAt base (env :: outer) q.1 := by
  intro q hq
  refine ⟨(N q hq).1, fresh_of_stays B.stays (N q hq).2.2, fun e he z => ?_⟩
  rcases List.mem_cons.mp he with rfl | he
  · rw [hf] at z
    exact (N q hq).2.1 (Option.some.inj z).symm
  · obtain ⟨L₁, o₁, hf₁, ho₁⟩ := funFrames_in B.frames e he
    rw [hf₁] at z
    cases z
    rw [(N q hq).2.2] at ho₁; cases ho₁

theorem Ct.use (C : Ct w f args kw d u mt chg Post) (B : Below A₀ base outer h₀) (F : Fr h₀ L s.heap m) (N : News h₀ L s.heap news) (Y : Bs w mean mg mb base)
    (hf : env.frame = some L) (hke : env.scope.kind = .function) (hd : dp + d < recursionLimit) (hu : un + u < cLine) (hm : ∀ q ∈ mt, q ∈ news) (hc : ∀ a ∈ chg, a ∈ mt.map (·.1))
    (k : ∀ v h' tk', Fr h₀ L h' m → (∀ q ∈ news, q.1 ∉ chg → h'.get? q.1 = some q.2 ∧ q.1 ≠ L ∧ h₀.get? q.1 = none) → KeepsBut chg s.heap h' → Post v s.heap h' → Q v { s with heap := h', toks := tk' }) :
    wpAny (model PP w) (Ar dp un gd (env :: outer)) (call (.ref f) args kw) Q E s := by
  have B' : Below (Ar dp un gd (env :: outer)) base (env :: outer) s.heap := by
    have := pushX B F hf hke
    exact ⟨rfl, this.stays, this.frames⟩
  have ln := loose_news (env := env) B N hf
  have hcn : ∀ a ∈ chg, ∃ q ∈ news, q.1 = a := fun a ha => by
    obtain ⟨q, hq, e⟩ := List.mem_map.mp (hc a ha)
    exact ⟨q, hm q hq, e⟩
  refine C mean mg mb dp un gd (env :: outer) base s Q E B' Y hd hu (fun q hq => ln q (hm q hq)) fun v h' tk' hk hp => k v h' tk' ?_ (fun q hq hn => ⟨hk _ _ (N q hq).1 hn, (N q hq).2⟩) hk hp
  refine ⟨?_, fun b o e => hk b o (F.keep b o e) fun hb => ?_, F.above⟩
  · obtain ⟨oL, es, ep, hL, r⟩ := F.ns
    refine ⟨oL, es, ep, hk _ _ hL fun hb => ?_, r⟩
    obtain ⟨q, hq, e⟩ := hcn _ hb
    exact (N q hq).2.1 e
  · obtain ⟨q, hq, e'⟩ := hcn _ hb
    have := (N q hq).2.2
    rw [e', e] at this; cases this
/-- nothing turned -/
theorem Ct.use0 (C : Ct w f args kw d u mt [] Post) (B : Below A₀ base outer h₀) (F : Fr h₀ L s.heap m) (N : News h₀ L s.heap news) (Y : Bs w mean mg mb base)
    (hf : env.frame = some L) (hke : env.scope.kind = .function) (hd : dp + d < recursionLimit) (hu : un + u < cLine) (hm : ∀ q ∈ mt, q ∈ news)
    (k : ∀ v h' tk', Fr h₀ L h' m → News h₀ L h' news → Keeps s.heap h' → Post v s.heap h' → Q v { s with heap := h', toks := tk' }) :
    wpAny (model PP w) (Ar dp un gd (env :: outer)) (call (.ref f) args kw) Q E s :=
  C.use B F N Y hf hke hd hu hm (fun _ h => nomatch h) fun v h' tk' F' N' hk hp => k v h' tk' F' (fun q hq => N' q hq (fun z => nomatch z)) (fun b o e => hk b o e (fun z => nomatch z)) hp
end

/-- all of mt stand still -/
theorem keep_all {base : Heap} {outer : List Env} {g g₂ h h' : Heap} {mt : List (Addr × Obj)} {L' L₂ : Addr} {m : Str → Option Value} (eg : g = hideAll h (mt.map (·.1))) (hm : ∀ q ∈ mt, h.get? q.1 = some q.2 ∧ LooseAt base outer q.1) (F : Fr g L' h' m) (N : News g₂ L₂ h' mt) : KeepsBut [] h h' := by
  intro b o e _
  by_cases hb : b ∈ mt.map (·.1)
  · obtain ⟨q, hq, rfl⟩ := List.mem_map.mp hb
    rw [(hm q hq).1] at e
    rw [(N q hq).1]; exact e
  · exact F.keep b o (by rw [eg]; exact hideAll_get _ e hb)
theorem keep_but {base : Heap} {outer : List Env} {g h h' : Heap} {mt : List (Addr × Obj)} {chg : List Addr} {L' : Addr} {m : Str → Option Value} (eg : g = hideAll h (mt.map (·.1))) (hm : ∀ q ∈ mt, h.get? q.1 = some q.2 ∧ LooseAt base outer q.1) (F : Fr g L' h' m) (N : ∀ q ∈ mt, q.1 ∉ chg → h'.get? q.1 = some q.2) : KeepsBut chg h h' := by
  intro b o e hc
  by_cases hb : b ∈ mt.map (·.1)
  · obtain ⟨q, hq, rfl⟩ := List.mem_map.mp hb
    rw [(hm q hq).1] at e
    rw [N q hq hc]; exact e
  · exact F.keep b o (by rw [eg]; exact hideAll_get _ e hb)
theorem news_t1 {h₀ h : Heap} {L : Addr} {a : Addr × Obj} {l : List (Addr × Obj)} (N : News h₀ L h (a :: l)) : News h₀ L h l := fun p hp => N p (.tail _ hp)
theorem news_t2 {h₀ h : Heap} {L : Addr} {a b : Addr × Obj} {l : List (Addr × Obj)} (N : News h₀ L h (a :: b :: l)) : News h₀ L h l := fun p hp => N p (.tail _ (.tail _ hp))
structure Stop (P : Prop) : Prop where
  out : P
theorem ifT {α : Type} [BEq α] [LawfulBEq α] {a b : α} {d : Decidable (a = b)} {P Q : Prop} (h : (a == b) = true) (p : P) : @ite _ (a = b) d P Q := by
  rw [if_pos (beq_iff_eq.mp h)]; exact p
theorem ifF {α : Type} [BEq α] [LawfulBEq α] {a b : α} {d : Decidable (a = b)} {P Q : Prop} (h : (a == b) = false) (q : Q) : @ite _ (a = b) d P Q := by
  rw [if_neg (beq_eq_false_iff_ne.mp h)]; exact q
end Mine
end

/- F2 -/
section
open PySem PySem.W PyProof.Rows PySem.Calls
set_option Elab.async false
set_option maxRecDepth 100000
set_option maxHeartbeats 8000000
namespace Mine
section
variable {prog : Program} {w : World} {A : Around} {s : Shared} {h₀ : Heap} {L : Addr} {m : Str → Option Value} {env : Env} {ct : PySem.Expr} {x : Str} {px : Pos} {scope : Scope} {cl : List (Str × Addr)}
  {S : List (Addr × Obj) → Prop} {P : Nat → Value → Prop} {Fin : List Value → List (Addr × Obj) → Prop} {news : List (Addr × Obj)}
/-- what the test keeps, by places -/
def kept (keep : Nat → Bool) : Nat → List Value → List Value
  | _, [] => []
  | i, r :: rs => (if keep i then [r] else []) ++ kept keep (i + 1) rs
theorem kept_le (keep : Nat → Bool) : ∀ (rs : List Value) (i : Nat), (kept keep i rs).length ≤ rs.length
  | [], _ => by simp [kept]
  | r :: rs, i => by
    have := kept_le keep rs (i + 1)
    rw [kept]
    cases keep i <;> simp <;> omega
/-- the turns of [x for x in .. if ct]: what the i-th turn's test tells is keep i -/
theorem restT (keep : Nat → Bool)
    (turn : ∀ i v I oI C oC D m₂ h tk ys (Q : Bool → Shared → Prop) (E' : Value → Shared → Prop), P i v → LCg.NsObj oC m₂ → m₂ x = some v → Fr h₀ L h m → News h₀ L h ((I, oI) :: (C, oC) :: (D, LCg.lst ys) :: news) →
      (∀ h' tk', Fr h₀ L h' m → News h₀ L h' ((I, oI) :: (C, oC) :: (D, LCg.lst ys) :: news) → Q (keep i) { s with heap := h', toks := tk' }) →
      wpAny (model prog w) A (isTrue ct (compEnvC scope cl C env) (eval ct (compEnvC scope cl C env))) Q E' { s with heap := h, toks := tk })
    (hS : S news) (hk : ∀ C, (compEnvC scope cl C env).scope.kind = .function) (hl : ∀ C, (compEnvC scope cl C env).kindOf x = some .local) (hd : (x == ("__debug__" : Str)) = false) :
    ∀ (rs : List Value) (i : Nat) (ys : List Value), (∀ j v, P (i + j) v → j < rs.length → rs[j]? = some v) → Fin (ys ++ kept keep i rs) news →
      LCt.CompRestT prog w A h₀ L m env ct (.Name x px) x scope cl s S P Fin rs.length i ys news
  | [], i, ys, _, fin => by
    refine LCt.CompRestT.zero ?_
    simpa [kept] using fin
  | r :: rs, i, ys, hP, fin => by
    refine LCt.CompRestT.succ ?_
    intro v I oI C oC D m₂ h tk E' hv hC hx F N off ne
    have e : r = v := by simpa using hP 0 v hv (by simp)
    subst e
    have ih := restT keep turn hS hk hl hd rs (i + 1) (ys ++ if keep i then [r] else [])
      (fun j v h1 h2 => by simpa using hP (j + 1) v (by rw [show i + (j + 1) = i + 1 + j from by omega]; exact h1) (by simpa using h2))
      (by
        have : (ys ++ if keep i then [r] else []) ++ kept keep (i + 1) rs = ys ++ kept keep i (r :: rs) := by
          rw [kept, List.append_assoc]
        rw [this]; exact fin)
    refine turn i r I oI C oC D m₂ h tk ys _ _ hv hC hx F N fun h' tk' F' N' => ?_
    cases hk' : keep i with
    | true =>
      rw [if_pos rfl]
      refine LCgL.ld_own (s := { s with heap := h', toks := tk' }) N' (.tail _ (.head _)) hC hx ?_ (hk C) (hl C) hd
      refine LCg.CompEnd.intro F' N' news (fun _ h => h) off hS ?_
      rw [hk'] at ih; exact ih
    | false =>
      rw [if_neg Bool.false_ne_true]
      refine LCg.CompEnd.intro F' N' news (fun _ h => h) off hS ?_
      rw [hk'] at ih; simpa using ih
end
end Mine
end

/- F3 -/
section
open PySem PySem.W PyProof.Rows PySem.Calls
set_option Elab.async false
set_option maxRecDepth 100000
set_option maxHeartbeats 8000000
namespace Mine
section
variable {prog : Program} {w : World} {A : Around} {E : Value → Shared → Prop} {s : Shared}
theorem listItems_rule {M : Model} {a : Addr} {o : Obj} {items : Array Value} {n : Nat} {Q : Array Value → Shared → Prop} (ho : s.heap.get? a = some o) (hd : o.data = .seq items n) (h : Q items s) :
    wpAny M A (Builtin.List.listItems (.ref a)) Q E s := by
  unfold Builtin.List.listItems
  exact wpAny_bind (wpAny_seqItems ho hd (wpAny_pure h))
theorem listAll_rule {a : Addr} {o : Obj} {items : Array Value} {n : Nat} {msg : String} {Q : Array Value → Shared → Prop} (ho : s.heap.get? a = some o) (hc : o.cls = .type "list") (hd : o.data = .seq items n) (h : Q items s) :
    wpAny (model prog w) A (Builtin.List.listAllItems (.ref a) msg) Q E s := by
  have hT : s.TypeIs (.ref a) "list" := ⟨o, ho, hc⟩
  unfold Builtin.List.listAllItems
  refine wpAny_bind (wpAny_typeOf hT ?_)
  rw [if_pos (show ((Value.type "list" == .type "list" || Value.type "list" == .type "tuple") = true) from rfl)]
  first | exact wpAny_bind (listItems_rule ho hd (wpAny_pure h)) | exact listItems_rule ho hd h
/-- l[:] = D -/
theorem setItem_whole {l sl D : Addr} {items new : Array Value} {c : Nat} {Q : Unit → Shared → Prop} (ho : s.heap.get? l = some (listOf items c)) (hs : s.heap.IsSliceOf sl .none .none .none) (hD : s.heap.IsList D new) (hne : l ≠ D)
    (hz : items.size + new.size ≤ sizeLine) (hQ : ∀ h' c', h'.get? l = some (listOf new c') → Heap.SameBut l s.heap h' → Q () { s with heap := h' }) :
    wpAny (model prog w) A (setItem (.ref l) (.ref sl) (.ref D)) Q E s := by
  have hl : s.heap.IsList l items := ⟨_, ho, rfl, c, rfl⟩
  obtain ⟨os, hos, hcs, hds⟩ := id hs
  obtain ⟨oD, hoD, hcD, nD, hdD⟩ := id hD
  have hTs : s.TypeIs (.ref sl) "slice" := ⟨os, hos, hcs⟩
  have hTD : s.TypeIs (.ref D) "list" := ⟨oD, hoD, hcD⟩
  unfold setItem
  try with_reducible refine wpAny_holding ?_
  first | refine wpAny_bind (wpAny_pure ?_) | skip
  refine wpAny_bind (wpAny_sequenceKey hl.typeIs (by decide) ?_)
  refine wpAny_bind (wpAny_callSpecial?_slot (name := Str.ofString "__setitem__") hl.typeIs slot_list_setitem
    (wpAny_call_entry slot_list_setitem hl.typeIs entry_list_setitem ?_ (args_list_setitem _ _ _)))
  show wpAny _ _ (Builtin.List.listSubscript? (.ref sl) >>= _) _ _ s
  refine wpAny_bind ?_
  unfold Builtin.List.listSubscript?
  refine wpAny_bind (wpAny_specialOf hTs slice_no_index ?_)
  simp only [Option.isNone_none, if_true]
  refine wpAny_pure ?_
  show wpAny _ _ (typeOf (.ref sl) >>= _) _ _ s
  refine wpAny_bind (wpAny_typeOf hTs ?_)
  rw [if_neg (by decide)]
  rw [listSliceParts_eq]
  refine wpAny_bind (wpAny_bind (wpAny_field hos hds (x := .none) rfl (wpAny_bind (wpAny_listPart .none ?_))))
  rw [if_neg (show ¬ ((rawPart none == rawInt 0) = true) from Bool.false_ne_true)]
  refine wpAny_bind (wpAny_field hos hds (x := .none) rfl (wpAny_bind (wpAny_listPart .none ?_)))
  refine wpAny_bind (wpAny_field hos hds (x := .none) rfl (wpAny_bind (wpAny_listPart .none (wpAny_pure ?_))))
  dsimp only [rawPart]
  rw [if_neg (show ¬ (Builtin.List.listSameRef (.ref l) (.ref D) = true) from by simpa [Builtin.List.listSameRef] using hne)]
  refine wpAny_bind (listAll_rule hoD hcD hdD ?_)
  refine wpAny_bind (listItems_rule ho rfl ?_)
  refine wpAny_bind (wpAny_of_eq (sliceIndices_raw none none none items.size (by simp)) ?_)
  have e1 : sliceBounds none none none items.size = (0, (items.size : Int), 1) := rfl
  rw [e1]
  dsimp only
  rw [if_pos (show ((1 : Int) == 1) = true from rfl)]
  refine wpAny_bind (wpAny_rule ?_)
  rw [if_neg (by simp only [Builtin.List.listTooLong, decide_eq_true_eq]; omega)]
  show wpAny _ _ (updateSeq l _ >>= _) _ _ s
  have ef : (items.extract 0 (0 : Int).toNat ++ new ++ items.extract (max (0 : Int) (items.size : Int)).toNat items.size) = new := by
    apply Array.toList_inj.mp
    simp
  refine wpAny_bind (wpAny_updateSeq ho rfl ?_ (by omega) (by rw [ef]; omega))
  refine wpAny_bind (wpAny_letGo (wpAny_pure ⟨.none, rfl, wpAny_pure ?_⟩))
  refine hQ _ (if new.size == items.size then c else c + 1) ?_ (Heap.SameBut.update ..)
  rw [Heap.get?_update_self _ ho (by rfl)]
  simp only [Obj.mapSeq, ef]
theorem setItem_led {h₀ h1 : Heap} {L l D : Addr} {m : Str → Option Value} {news : List (Addr × Obj)} {nw : Nat → List (Addr × Obj)} {items : Array Value} {ys : List Value} {c : Nat} {Q : Unit → Shared → Prop}
    (F : Fr h₀ L h1 m) (N : News h₀ L h1 news) (hs : s.heap = h1.push { cls := .type "slice", data := .fields #[.none, .none, .none] }) (hD : (D, LCg.lst ys) ∈ news) (hl : (l, listOf items c) ∈ news)
    (U : ∀ c', Upd l (listOf items c) (listOf ys.toArray c') news (nw c')) (hne : l ≠ D) (hz : items.size + ys.length ≤ sizeLine)
    (h : ∀ h' c', Fr h₀ L h' m → News h₀ L h' (nw c') → Q () { s with heap := h' }) : wpAny (model prog w) A (setItem (.ref l) (.ref h1.objs.size) (.ref D)) Q E s := by
  have F1 := F.push { cls := .type "slice", data := .fields #[.none, .none, .none] }
  have N1 := N.push F { cls := .type "slice", data := .fields #[.none, .none, .none] }
  rw [← hs] at F1 N1
  refine setItem_whole (items := items) (new := ys.toArray) (c := c) (N1.get (.tail _ hl)) ⟨_, N1.get (.head _), rfl, rfl⟩ ⟨_, N1.get (.tail _ hD), rfl, _, rfl⟩ hne (by simpa using hz) fun h' c' hg hb => ?_
  refine h h' c' (F1.change hb (N1 _ (.tail _ hl)).2.1 (N1 _ (.tail _ hl)).2.2) fun p hp => ?_
  obtain ⟨pre, post, e1, e2, d1, d2⟩ := (U c').split
  rw [e2] at hp
  have old : ∀ q ∈ news, q.1 ≠ l → h'.get? q.1 = some q.2 ∧ q.1 ≠ L ∧ h₀.get? q.1 = none := fun q hq hn => ⟨(hb.2 _ hn).trans (N1 q (.tail _ hq)).1, (N1 q (.tail _ hq)).2⟩
  rcases List.mem_append.mp hp with hp | hp
  · exact old p (by rw [e1]; exact List.mem_append_left _ hp) (d1 p hp)
  · rcases List.mem_cons.mp hp with rfl | hp
    · exact ⟨hg, (N1 _ (.tail _ hl)).2⟩
    · exact old p (by rw [e1]; exact List.mem_append_right _ (.tail _ hp)) (d2 p hp)
end
end Mine
end

/- F4 -/
section
open PySem PySem.W PyProof.Rows PySem.Calls
set_option Elab.async false
set_option maxRecDepth 100000
set_option maxHeartbeats 8000000
namespace Mine
/-- a turn's end: the iterator stands, the ledger and the frame bear what is wanted -/
def TurnS (h₀ : Heap) (L I : Addr) (oI : Obj) (Jn : (Str → Option Value) → List (Addr × Obj) → Prop) (s₁ : Shared) (Q : Flow → Shared → Prop) (f : Flow) (s₂ : Shared) : Prop :=
  match f with
  | .ret v => Q (.ret v) s₂
  | .brk => Q .next s₂
  | _ => ∃ h' tk m' news', s₂ = { s₁ with heap := h', toks := tk } ∧ Fr h₀ L h' m' ∧ News h₀ L h' ((I, oI) :: news') ∧ (∀ p ∈ news', p.1 ≠ I) ∧ Jn m' news'
section
variable {prog : Program} {w : World} {A : Around} {E : Value → Shared → Prop} {s : Shared} {env : Env} {h₀ : Heap} {x : Str} {body : List Stmt} {Q : Flow → Shared → Prop}
theorem loop_str {xt : Str} {tx : Tok} {m₀ : Str → Option Value} {news₀ : List (Addr × Obj)} (J : Nat → (Str → Option Value) → List (Addr × Obj) → Prop)
    (hh : A.handled = none) (ha : xt.cps.all (· < 128) = true) (F : Fr h₀ env.locals s.heap m₀) (N : News h₀ env.locals s.heap news₀) (h0 : J 0 m₀ news₀)
    (turn : ∀ i c t m₁ news₁ I oI h tk, xt.cps[i]? = some c → J i m₁ news₁ → oI.cls = .type "str_ascii_iterator" → (∀ p ∈ news₁, p.1 ≠ I) → Fr h₀ env.locals h (fun y => if y = x then some (.str ⟨#[c]⟩ t) else m₁ y) → News h₀ env.locals h ((I, oI) :: news₁) →
      wpAny (model prog w) A (execs body env) (TurnS h₀ env.locals I oI (J (i + 1)) { s with heap := h, toks := tk } Q) E { s with heap := h, toks := tk })
    (done : ∀ m₁ news₁ h tk, J xt.cps.size m₁ news₁ → Fr h₀ env.locals h m₁ → News h₀ env.locals h news₁ → Q .next { s with heap := h, toks := tk }) :
    wpAny (model prog w) A (pyIter (.str xt tx)) (fun it s₂ => LoopAtV prog w A h₀ env x body Q E it s₂) E s := by
  refine wpAny_pyIter_ascii ha ?_
  have hnew : ∀ p ∈ news₀, p.1 ≠ s.heap.objs.size := fun p hp => Nat.ne_of_lt (Heap.lt_size (N p hp).1)
  have hL : env.locals ≠ s.heap.objs.size := Nat.ne_of_lt F.ns.lt
  have hI₀ : h₀.get? s.heap.objs.size = none := next_is_new F
  refine ⟨s.heap.objs.size, [s.heap.objs.size], [s.heap.objs.size], xt.cps.size, _, _, m₀, news₀, fun i m n => J i m n, rfl, Walks.strAscii hh _ xt tx, ?_, ?_, ?_, ⟨_, Heap.get?_push_size _ rfl, rfl, rfl⟩, F.push _, (fun p hp => ⟨Heap.get?_push_of_some _ (N p hp).1, (N p hp).2⟩), h0, ?_, ?_⟩
  · simpa using hL
  · intro b hb
    rw [List.mem_singleton.mp hb]; exact hI₀
  · intro p hp hm
    exact hnew p hp (List.mem_singleton.mp hm)
  · rintro i v m₁ news₁ s₁ own ⟨h, tk, rfl⟩ hi ⟨c, t, hc, rfl⟩ hJ hoff hown hownAt hin ⟨oI, hoI, hcI, _⟩ F₁ N₁
    have hmem : (s.heap.objs.size, oI) ∈ own := hin _ (.head _) hI₀ oI hoI
    have off' : ∀ p ∈ news₁, p.1 ≠ s.heap.objs.size := fun p hp e => hoff p hp (e ▸ List.mem_singleton.mpr rfl)
    have N' : News h₀ env.locals h ((s.heap.objs.size, oI) :: news₁) := fun p hp => by
      rcases List.mem_cons.mp hp with rfl | hp
      · exact N₁ _ (List.mem_append_left _ hmem)
      · exact N₁ _ (List.mem_append_right _ hp)
    refine wpAny_mono (turn i c t m₁ news₁ _ oI h tk hc hJ hcI off' F₁ N') (fun f s₂ hf => ?_) fun _ _ e => e
    have fin : (∃ h' tk' m' news', s₂ = { s with heap := h', toks := tk' } ∧ Fr h₀ env.locals h' m' ∧ News h₀ env.locals h' ((s.heap.objs.size, oI) :: news') ∧ (∀ p ∈ news', p.1 ≠ s.heap.objs.size) ∧ J (i + 1) m' news') →
        LoopStepU h₀ env.locals [s.heap.objs.size] own (J (i + 1)) { s with heap := h, toks := tk } .next s₂ := by
      rintro ⟨h', tk', m', news', rfl, F', N2, off2, hJ'⟩
      refine LoopStepU.intro F' (fun p hp => ?_) (fun p hp hm => off2 p hp (List.mem_singleton.mp hm)) hJ'
      rcases List.mem_append.mp hp with hp | hp
      · have e1 : p.1 = s.heap.objs.size := List.mem_singleton.mp (hown p hp)
        have e2 : p.2 = oI := by
          have := hownAt p hp
          rw [e1] at this
          exact Option.some.inj (this.symm.trans hoI)
        obtain ⟨a, b⟩ := p
        cases e1; cases e2
        exact N2 _ (.head _)
      · exact N2 _ (.tail _ hp)
    cases f with
    | ret v => exact .ret hf
    | brk => exact .brk hf
    | next => exact .next (fin hf)
    | cont => exact .cont (fin hf)
  · intro h' tk m' news' F' N' _ hJ
    exact done m' news' h' tk hJ F' N'
end
end Mine
end

/- C1 -/
section
local macro_rules | `(tactic| walk_at "idle") => `(tactic| skip)
local macro_rules | `(tactic| walk_at "idle") => `(tactic| skip)
open PySem PySem.W PyProof.Rows PySem.Calls
set_option Elab.async false
set_option maxRecDepth 100000
set_option maxHeartbeats 8000000
set_option linter.unusedVariables false
namespace Mine
def isLet (c : Nat) : Bool := c == 65 || c == 66 || c == 67 || c == 97 || c == 98 || c == 99
structure Lets (v : Str) : Prop where
  len : v.cps.size ≤ 64
  all : ∀ c ∈ v.cps.toList, isLet c = true
theorem Lets.at {v : Str} (h : Lets v) : ∀ i, i < v.cps.size → isLet (v.cps.getD i 0) = true := fun i hi => h.all _ (by
  rw [Array.getD_eq_getD_getElem?, Array.getElem?_eq_getElem hi]
  exact Array.getElem_mem_toList hi)
theorem isLet_cases {c : Nat} (h : isLet c = true) : c = 65 ∨ c = 66 ∨ c = 67 ∨ c = 97 ∨ c = 98 ∨ c = 99 := by
  simp only [isLet, Bool.or_eq_true, beq_iff_eq] at h
  omega
/-- written small -/
def low (v : Str) : Str := ⟨v.cps.map lo1⟩
theorem low_lets {v : Str} (h : Lets v) : Lets (low v) := by
  refine ⟨by simp only [low, Array.size_map]; exact h.len, fun c hc => ?_⟩
  simp only [low, Array.toList_map, List.mem_map] at hc
  obtain ⟨d, hd, rfl⟩ := hc
  rcases isLet_cases (h.all d hd) with rfl | rfl | rfl | rfl | rfl | rfl <;> decide
theorem lower_lets {v : Str} (h : Lets v) : Txt.lower v = low v := lower_ascii fun c hc => by
  have := isLet_cases (h.all c hc)
  omega
def codeN : Array Nat := #[14, 10, 4, 1, 1, 22, 0, 31, 16, 127, 0, 13, 7, 22, 0, 31, 16, 127, 0, 1]
def codeV : Array Nat := #[14, 14, 4, 1, 1, 9, 4294966783, 0, 0, 2147483648, 0, 0, 0, 0, 0, 13, 11, 9, 4294966783, 0, 0, 2147483648, 0, 0, 0, 0, 0, 1]
theorem cleanN : Re.Clean codeN fun c => isLet c = true := by
  intro c h seen
  rcases isLet_cases h with rfl | rfl | rfl | rfl | rfl | rfl <;> exact ⟨_, rfl⟩
theorem cleanV : Re.Clean codeV fun c => isLet c = true := by
  intro c h seen
  rcases isLet_cases h with rfl | rfl | rfl | rfl | rfl | rfl <;> exact ⟨_, rfl⟩

section
variable {prog : Program} {w : World} {A : Around} {E : Value → Shared → Prop} {s : Shared} {h₀ : Heap} {L : Addr} {m : Str → Option Value}
theorem gmN {pl : Sem Bool} {Q : Value × List Value → Shared → Prop} (X : (Mine.hd.heap_39 w.params).In h₀) (F : Fr h₀ L s.heap m)
    (h : Q (.builtin "re.Pattern.search", [.ref 78]) s) : wpAny (model prog w) A (getMethod (.ref 78) (Str.ofString "search") pl) Q E s :=
  Re.getMethod_search ((X.keeps F.keep) 78 _ rfl) rfl rfl h
theorem gmV {pl : Sem Bool} {Q : Value × List Value → Shared → Prop} (X : (Mine.hd.heap_39 w.params).In h₀) (F : Fr h₀ L s.heap m)
    (h : Q (.builtin "re.Pattern.search", [.ref 83]) s) : wpAny (model prog w) A (getMethod (.ref 83) (Str.ofString "search") pl) Q E s :=
  Re.getMethod_search ((X.keeps F.keep) 83 _ rfl) rfl rfl h
theorem searchN {v : Str} {tk : Tok} {Q : Value → Shared → Prop} (X : (Mine.hd.heap_39 w.params).In h₀) (F : Fr h₀ L s.heap m) (hv : Lets v)
    (h : Q .none s) : wpAny (model prog w) A (call (.builtin "re.Pattern.search") [.ref 78, .str v tk]) Q E s :=
  Re.search_none (code := codeN) ((X.keeps F.keep) 78 _ rfl) ((X.keeps F.keep) 77 _ rfl) rfl (by decide +kernel) rfl rfl cleanN hv.at h
theorem searchV {v : Str} {tk : Tok} {Q : Value → Shared → Prop} (X : (Mine.hd.heap_39 w.params).In h₀) (F : Fr h₀ L s.heap m) (hv : Lets v)
    (h : Q .none s) : wpAny (model prog w) A (call (.builtin "re.Pattern.search") [.ref 83, .str v tk]) Q E s :=
  Re.search_none (code := codeV) ((X.keeps F.keep) 83 _ rfl) ((X.keeps F.keep) 82 _ rfl) rfl (by decide +kernel) rfl rfl cleanV hv.at h
end
section
variable {prog : Program} {w : World} {A : Around} {E : Value → Shared → Prop} {s : Shared}
theorem lower_rule {v : Str} {tk : Tok} {Q : Value → Shared → Prop} (hv : Lets v) (h : ∀ t k, Lets (low v) → Q (.str (low v) t) { s with toks := k }) : wpAny (model prog w) A (call (.builtin "str.lower") [.str v tk]) Q E s :=
  SCL.lower (by have := hv.len; show v.cps.size ≤ _; omega) fun _ => by
    rw [lower_lets hv]
    exact h _ _ (low_lets hv)
end
local macro_rules | `(tactic| k_room) => `(tactic| ktr_room)
local macro_rules | `(tactic| walk_at "getMethod ref") => `(tactic| first | refine gmN (by k_asm) (by k_asm) ?_ | refine gmV (by k_asm) (by k_asm) ?_)
local macro_rules | `(tactic| walk_at "call builtin:re.Pattern.search") => `(tactic| first | refine searchN (by k_asm) (by k_asm) (by assumption) ?_ | refine searchV (by k_asm) (by k_asm) (by assumption) ?_)
-- the head of a contract's proof: the def is entered; goals kB, kY, kN by assumption
local macro_rules | `(tactic| walk_at "my enter") => `(tactic| (refine wpAny_call ?_; k_dflt (refine' enter (by assumption) (by assumption) (by assumption) ?k6 ?k7 ?k8 ?k9 ?kL ?_ ?c2 ?c3 ?c4 ?c5; (case k6 => k_is); (case k7 => k_is); (case k8 => omega); (case k9 => first | exact BindsTo.of_eq rfl | exact binds_K (Frag.In.keeps (Bs.X (by assumption)) (Below.stays (by assumption))) rfl (by k_is) rfl rfl rfl); (case kL => exact locs rfl); (case c2 => exact rfl); (case c3 => exact rfl); (case c4 => exact rfl); (case c5 => decide); k_whole)))

theorem conv (w : World) (x : Addr) (v : Str) (tk : Tok) (b : Bool) (hv : Lets v) :
    Ct w 105 [.ref x, .str v tk] [(Str.ofString "name", .bool b)] 1 8 [] [] (fun r _ _ => r = .str v tk) := by
  intro mean mg mb dp un gd outer base s Q E B Y hd hu hm hret
  walk_at "my enter"
  intro g L' h' eg F N B' X T l1
  dsimp only
  k_fold
  k_steps
  all_goals exact hret _ _ _ (keep_of eg (by assumption)) rfl
end Mine
end

/- C2 -/
section
local macro_rules | `(tactic| walk_at "idle") => `(tactic| skip)
local macro_rules | `(tactic| walk_at "idle") => `(tactic| skip)
local macro_rules | `(tactic| walk_at "idle") => `(tactic| skip)
local macro_rules | `(tactic| walk_at "idle") => `(tactic| skip)
local macro_rules | `(tactic| walk_at "idle") => `(tactic| skip)
local macro_rules | `(tactic| walk_at "idle") => `(tactic| skip)
open PySem PySem.W PyProof.Rows PySem.Calls
set_option Elab.async false
set_option maxRecDepth 100000
set_option maxHeartbeats 8000000
set_option linter.unusedVariables false
namespace Mine
abbrev tupO (k v : Str) (a b : Tok) (n : Nat) : Obj := { cls := .type "tuple", data := .seq #[.str k a, .str v b] n }
abbrev hdD (hs : Int) (tk : Tok) (l : Addr) : List DictEntry := [⟨hs, .str (Str.ofString "_headers") tk, .ref l⟩]
theorem ne_of_objs {h : Heap} {a b : Addr} {o o' : Obj} (e : h.get? a = some o) (e' : h.get? b = some o') (hd : o.cls ≠ o'.cls) : a ≠ b := by
  rintro rfl
  rw [e] at e'
  cases e'
  exact hd rfl
local macro_rules | `(tactic| k_room) => `(tactic| ktr_room)
local macro_rules | `(tactic| walk_at "my enter") => `(tactic| (refine wpAny_call ?_; k_dflt (refine' enter (by assumption) (by assumption) (by assumption) ?k6 ?k7 ?k8 ?k9 ?kL ?_ ?c2 ?c3 ?c4 ?c5; (case k6 => k_is); (case k7 => k_is); (case k8 => omega); (case k9 => first | exact BindsTo.of_eq rfl | exact binds_K (Frag.In.keeps (Bs.X (by assumption)) (Below.stays (by assumption))) rfl (by k_is) rfl rfl rfl); (case kL => exact locs rfl); (case c2 => exact rfl); (case c3 => exact rfl); (case c4 => exact rfl); (case c5 => decide); k_whole)))
local macro_rules | `(tactic| walk_at "my enterC") => `(tactic| (refine wpAny_call ?_; k_dflt (refine' enterC (by assumption) (by assumption) (by assumption) ?k6 ?k7 ?k8 ?k9 ?kL ?kD ?_ ?c2 ?c3 ?c4; (case k6 => k_is); (case k7 => k_is); (case k8 => omega); (case k9 => first | exact BindsTo.of_eq rfl | exact binds_K (Frag.In.keeps (Bs.X (by assumption)) (Below.stays (by assumption))) rfl (by k_is) rfl rfl rfl); (case kL => exact rfl); (case kD => decide +kernel); (case c2 => exact rfl); (case c3 => exact rfl); (case c4 => exact rfl); k_whole)))
local macro_rules | `(tactic| walk_at "call builtin:str.lower") => `(tactic| ((with_reducible show wpAny _ _ (call (Value.builtin "str.lower") [Value.str _ _]) _ _ _); (refine lower_rule (by assumption) ?_); intro t' k' hL'))
local macro_rules | `(tactic| walk_at "call ref") => `(tactic| ((with_reducible show wpAny _ _ (call (Value.ref 105) _ _) _ _ _); k_dflt (refine Ct.use0 (conv _ _ _ _ _ (by assumption)) (by assumption) (by k_asm) (by k_asm) (by assumption) rfl rfl (by ktr_room) (by ktr_units) (fun _ h => nomatch h) ?_); intro v' h' tk' F' N' hk' hp'; subst hp'; (try dsimp only); (try k_fold)))
local macro_rules | `(tactic| walk_at "exec For Tuple Attribute cons nil") => `(tactic| (k_here; (rename Fr _ _ _ _ => lF'); (with_unfolding_all refine' For_turns lF' ?_; k_whole)))
local macro_rules | `(tactic| walk_at "CompRestT") => `(tactic| refine Stop.out ?_)
local macro_rules | `(tactic| walk_at "setItem ref ref") => `(tactic| refine Stop.out ?_)
local macro_rules | `(tactic| walk_at "setItem ref ref ref") => `(tactic| refine Stop.out ?_)

theorem get0 (w : World) (x dx l : Addr) (hs : Int) (tk0 : Tok) (ep c : Nat) (nm : Str) (tk : Tok) (hn : Lets nm) :
    Ct w 153 [.ref x, .str nm tk] [] 2 16 [(x, instObj 206 dx), (dx, dictOf (hdD hs tk0 l) ep), (l, listOf #[] c)] []
      (fun r _ _ => r = .none) := by
  intro mean mg mb dp un gd outer base s Q E B Y hd hu hm hret
  walk_at "my enter"
  intro g L' h' eg F N B' X T l1
  dsimp only
  k_fold
  k_lt l1
  k_steps
  all_goals (try dsimp only)
  all_goals (try (k_unfold; dsimp only))
  all_goals (refine hret _ _ _ (keep_all eg hm (by assumption) (by first | assumption | exact news_t1 (by assumption) | exact news_t2 (by assumption))) ?_)
  all_goals ((try dsimp only); repeat (first | exact rfl | refine ifT (by assumption) ?_ | refine ifF (by assumption) ?_))

theorem get1 (w : World) (x dx l t1 : Addr) (hs : Int) (tk0 : Tok) (ep c n1 : Nat) (k1 v1 : Str) (a1 b1 : Tok) (nm : Str) (tk : Tok) (hk1 : Lets k1) (hn : Lets nm) :
    Ct w 153 [.ref x, .str nm tk] [] 2 16 [(x, instObj 206 dx), (dx, dictOf (hdD hs tk0 l) ep), (l, listOf #[.ref t1] c), (t1, tupO k1 v1 a1 b1 n1)] []
      (fun r _ _ => if low k1 = low nm then r = .str v1 b1 else (r = .none)) := by
  intro mean mg mb dp un gd outer base s Q E B Y hd hu hm hret
  walk_at "my enter"
  intro g L' h' eg F N B' X T l1
  dsimp only
  k_fold
  k_lt l1
  k_steps
  all_goals (try dsimp only)
  all_goals (try (k_unfold; dsimp only))
  all_goals (refine hret _ _ _ (keep_all eg hm (by assumption) (by first | assumption | exact news_t1 (by assumption) | exact news_t2 (by assumption))) ?_)
  all_goals ((try dsimp only); repeat (first | exact rfl | refine ifT (by assumption) ?_ | refine ifF (by assumption) ?_))

theorem get2 (w : World) (x dx l t1 t2 : Addr) (hs : Int) (tk0 : Tok) (ep c n1 n2 : Nat) (k1 v1 k2 v2 : Str) (a1 b1 a2 b2 : Tok) (nm : Str) (tk : Tok) (hk1 : Lets k1) (hk2 : Lets k2) (hn : Lets nm) :
    Ct w 153 [.ref x, .str nm tk] [] 2 16 [(x, instObj 206 dx), (dx, dictOf (hdD hs tk0 l) ep), (l, listOf #[.ref t1, .ref t2] c), (t1, tupO k1 v1 a1 b1 n1), (t2, tupO k2 v2 a2 b2 n2)] []
      (fun r _ _ => if low k1 = low nm then r = .str v1 b1 else (if low k2 = low nm then r = .str v2 b2 else (r = .none))) := by
  intro mean mg mb dp un gd outer base s Q E B Y hd hu hm hret
  walk_at "my enter"
  intro g L' h' eg F N B' X T l1
  dsimp only
  k_fold
  k_lt l1
  k_steps
  all_goals (try dsimp only)
  all_goals (try (k_unfold; dsimp only))
  all_goals (refine hret _ _ _ (keep_all eg hm (by assumption) (by first | assumption | exact news_t1 (by assumption) | exact news_t2 (by assumption))) ?_)
  all_goals ((try dsimp only); repeat (first | exact rfl | refine ifT (by assumption) ?_ | refine ifF (by assumption) ?_))

theorem get3 (w : World) (x dx l t1 t2 t3 : Addr) (hs : Int) (tk0 : Tok) (ep c n1 n2 n3 : Nat) (k1 v1 k2 v2 k3 v3 : Str) (a1 b1 a2 b2 a3 b3 : Tok) (nm : Str) (tk : Tok) (hk1 : Lets k1) (hk2 : Lets k2) (hk3 : Lets k3) (hn : Lets nm) :
    Ct w 153 [.ref x, .str nm tk] [] 2 16 [(x, instObj 206 dx), (dx, dictOf (hdD hs tk0 l) ep), (l, listOf #[.ref t1, .ref t2, .ref t3] c), (t1, tupO k1 v1 a1 b1 n1), (t2, tupO k2 v2 a2 b2 n2), (t3, tupO k3 v3 a3 b3 n3)] []
      (fun r _ _ => if low k1 = low nm then r = .str v1 b1 else (if low k2 = low nm then r = .str v2 b2 else (if low k3 = low nm then r = .str v3 b3 else (r = .none)))) := by
  intro mean mg mb dp un gd outer base s Q E B Y hd hu hm hret
  walk_at "my enter"
  intro g L' h' eg F N B' X T l1
  dsimp only
  k_fold
  k_lt l1
  k_steps
  all_goals (try dsimp only)
  all_goals (try (k_unfold; dsimp only))
  all_goals (refine hret _ _ _ (keep_all eg hm (by assumption) (by first | assumption | exact news_t1 (by assumption) | exact news_t2 (by assumption))) ?_)
  all_goals ((try dsimp only); repeat (first | exact rfl | refine ifT (by assumption) ?_ | refine ifF (by assumption) ?_))

theorem del0 (w : World) (x dx l : Addr) (hs : Int) (tk0 : Tok) (ep c : Nat) (nm : Str) (tk : Tok) (hn : Lets nm) :
    Ct w 124 [.ref x, .str nm tk] [] 2 16 [(x, instObj 206 dx), (dx, dictOf (hdD hs tk0 l) ep), (l, listOf #[] c)] [l]
      (fun r _ h' => r = .none ∧ ∃ c', h'.get? l = some (listOf (kept (fun _ => true) 0 []).toArray c')) := by
  intro mean mg mb dp un gd outer base s Q E B Y hd hu hm hret
  have ol := (hm (l, _) (by k_mem)).1
  have d1 : x ≠ l := ne_of_objs (hm (x, _) (by k_mem)).1 ol (by simp)
  have d2 : dx ≠ l := ne_of_objs (hm (dx, _) (by k_mem)).1 ol (by simp)
  walk_at "my enterC"
  intro g L' h' tk' cells eg F N Yc B' X T l1
  dsimp only
  k_fold
  k_lt l1
  k_cells Yc
  simp only [List.cons_append, List.nil_append] at N
  k_steps
  refine ⟨?_⟩
  refine restT (rs := []) (fun _ => true) ?_ ?_ (fun _ => rfl) (fun _ => rfl) (by decide) 0 [] ?_ ?_
  · intro i v I oI C oC D m₂ h tk ys Q' E' hv hC hx F' N' hQ
    match i, hv with
    | n + 0, hv => simp at hv
  · lcg_src
  · intro j v h1 _
    simpa using h1
  · k_steps
    refine ⟨?_⟩
    refine setItem_led (by assumption) (by assumption) rfl (.head _) (.tail _ (.tail _ (.tail _ (.tail _ (.head _))))) (c := c) (nw := fun c' => _) (fun c' => by k_upd) (by k_ne) (by rw [sizeLine_eq]; first | decide | (have := kept_le (fun _ => true) [] 0; simp at this ⊢; omega)) ?_
    intro h9 c9 F9 N9
    k_steps
    all_goals (try dsimp only)
    all_goals (try (k_unfold; dsimp only))
    exact hret _ _ _ (keep_but eg hm F9 (fun q hq hn => by
      rcases List.mem_cons.mp hq with rfl | hq
      · exact News.get N9 (by k_mem)
      rcases List.mem_cons.mp hq with rfl | hq
      · exact News.get N9 (by k_mem)
      rcases List.mem_cons.mp hq with rfl | hq
      · exact absurd (.head _) hn
      exact News.get N9 (.tail _ (.tail _ (.tail _ (.tail _ (.tail _ hq))))))) ⟨rfl, c9, News.get N9 (by k_mem)⟩

theorem del1 (w : World) (x dx l t1 : Addr) (hs : Int) (tk0 : Tok) (ep c n1 : Nat) (k1 v1 : Str) (a1 b1 : Tok) (nm : Str) (tk : Tok) (hk1 : Lets k1) (hn : Lets nm) :
    Ct w 124 [.ref x, .str nm tk] [] 2 16 [(x, instObj 206 dx), (dx, dictOf (hdD hs tk0 l) ep), (l, listOf #[.ref t1] c), (t1, tupO k1 v1 a1 b1 n1)] [l]
      (fun r _ h' => r = .none ∧ ∃ c', h'.get? l = some (listOf (kept (fun i => match i with  | _ => (low k1 != low nm)) 0 [.ref t1]).toArray c')) := by
  intro mean mg mb dp un gd outer base s Q E B Y hd hu hm hret
  have ol := (hm (l, _) (by k_mem)).1
  have d1 : x ≠ l := ne_of_objs (hm (x, _) (by k_mem)).1 ol (by simp)
  have d2 : dx ≠ l := ne_of_objs (hm (dx, _) (by k_mem)).1 ol (by simp)
  have d3 : t1 ≠ l := ne_of_objs (hm (t1, _) (by k_mem)).1 ol (by simp)
  walk_at "my enterC"
  intro g L' h' tk' cells eg F N Yc B' X T l1
  dsimp only
  k_fold
  k_lt l1
  k_cells Yc
  simp only [List.cons_append, List.nil_append] at N
  k_steps
  refine ⟨?_⟩
  refine restT (rs := [.ref t1]) (fun i => match i with  | _ => (low k1 != low nm)) ?_ ?_ (fun _ => rfl) (fun _ => rfl) (by decide) 0 [] ?_ ?_
  · intro i v I oI C oC D m₂ h tk ys Q' E' hv hC hx F' N' hQ
    match i, hv with
    | 0, hv =>
      obtain rfl : Value.ref t1 = v := by simpa using hv
      dsimp only
      k_steps
      all_goals exact hQ _ _ (by assumption) (by assumption)
    | n + 1, hv => simp at hv
  · lcg_src
  · intro j v h1 _
    simpa using h1
  · k_steps
    refine ⟨?_⟩
    refine setItem_led (by assumption) (by assumption) rfl (.head _) (.tail _ (.tail _ (.tail _ (.tail _ (.head _))))) (c := c) (nw := fun c' => _) (fun c' => by k_upd) (by k_ne) (by rw [sizeLine_eq]; first | decide | (have := kept_le (fun i => match i with  | _ => (low k1 != low nm)) [.ref t1] 0; simp at this ⊢; omega)) ?_
    intro h9 c9 F9 N9
    k_steps
    all_goals (try dsimp only)
    all_goals (try (k_unfold; dsimp only))
    exact hret _ _ _ (keep_but eg hm F9 (fun q hq hn => by
      rcases List.mem_cons.mp hq with rfl | hq
      · exact News.get N9 (by k_mem)
      rcases List.mem_cons.mp hq with rfl | hq
      · exact News.get N9 (by k_mem)
      rcases List.mem_cons.mp hq with rfl | hq
      · exact absurd (.head _) hn
      exact News.get N9 (.tail _ (.tail _ (.tail _ (.tail _ (.tail _ hq))))))) ⟨rfl, c9, News.get N9 (by k_mem)⟩

theorem del2 (w : World) (x dx l t1 t2 : Addr) (hs : Int) (tk0 : Tok) (ep c n1 n2 : Nat) (k1 v1 k2 v2 : Str) (a1 b1 a2 b2 : Tok) (nm : Str) (tk : Tok) (hk1 : Lets k1) (hk2 : Lets k2) (hn : Lets nm) :
    Ct w 124 [.ref x, .str nm tk] [] 2 16 [(x, instObj 206 dx), (dx, dictOf (hdD hs tk0 l) ep), (l, listOf #[.ref t1, .ref t2] c), (t1, tupO k1 v1 a1 b1 n1), (t2, tupO k2 v2 a2 b2 n2)] [l]
      (fun r _ h' => r = .none ∧ ∃ c', h'.get? l = some (listOf (kept (fun i => match i with | 0 => (low k1 != low nm) | _ => (low k2 != low nm)) 0 [.ref t1, .ref t2]).toArray c')) := by
  intro mean mg mb dp un gd outer base s Q E B Y hd hu hm hret
  have ol := (hm (l, _) (by k_mem)).1
  have d1 : x ≠ l := ne_of_objs (hm (x, _) (by k_mem)).1 ol (by simp)
  have d2 : dx ≠ l := ne_of_objs (hm (dx, _) (by k_mem)).1 ol (by simp)
  have d3 : t1 ≠ l := ne_of_objs (hm (t1, _) (by k_mem)).1 ol (by simp)
  have d4 : t2 ≠ l := ne_of_objs (hm (t2, _) (by k_mem)).1 ol (by simp)
  walk_at "my enterC"
  intro g L' h' tk' cells eg F N Yc B' X T l1
  dsimp only
  k_fold
  k_lt l1
  k_cells Yc
  simp only [List.cons_append, List.nil_append] at N
  k_steps
  refine ⟨?_⟩
  refine restT (rs := [.ref t1, .ref t2]) (fun i => match i with | 0 => (low k1 != low nm) | _ => (low k2 != low nm)) ?_ ?_ (fun _ => rfl) (fun _ => rfl) (by decide) 0 [] ?_ ?_
  · intro i v I oI C oC D m₂ h tk ys Q' E' hv hC hx F' N' hQ
    match i, hv with
    | 0, hv =>
      obtain rfl : Value.ref t1 = v := by simpa using hv
      dsimp only
      k_steps
      all_goals exact hQ _ _ (by assumption) (by assumption)
    | 1, hv =>
      obtain rfl : Value.ref t2 = v := by simpa using hv
      dsimp only
      k_steps
      all_goals exact hQ _ _ (by assumption) (by assumption)
    | n + 2, hv => simp at hv
  · lcg_src
  · intro j v h1 _
    simpa using h1
  · k_steps
    refine ⟨?_⟩
    refine setItem_led (by assumption) (by assumption) rfl (.head _) (.tail _ (.tail _ (.tail _ (.tail _ (.head _))))) (c := c) (nw := fun c' => _) (fun c' => by k_upd) (by k_ne) (by rw [sizeLine_eq]; first | decide | (have := kept_le (fun i => match i with | 0 => (low k1 != low nm) | _ => (low k2 != low nm)) [.ref t1, .ref t2] 0; simp at this ⊢; omega)) ?_
    intro h9 c9 F9 N9
    k_steps
    all_goals (try dsimp only)
    all_goals (try (k_unfold; dsimp only))
    exact hret _ _ _ (keep_but eg hm F9 (fun q hq hn => by
      rcases List.mem_cons.mp hq with rfl | hq
      · exact News.get N9 (by k_mem)
      rcases List.mem_cons.mp hq with rfl | hq
      · exact News.get N9 (by k_mem)
      rcases List.mem_cons.mp hq with rfl | hq
      · exact absurd (.head _) hn
      exact News.get N9 (.tail _ (.tail _ (.tail _ (.tail _ (.tail _ hq))))))) ⟨rfl, c9, News.get N9 (by k_mem)⟩

theorem del3 (w : World) (x dx l t1 t2 t3 : Addr) (hs : Int) (tk0 : Tok) (ep c n1 n2 n3 : Nat) (k1 v1 k2 v2 k3 v3 : Str) (a1 b1 a2 b2 a3 b3 : Tok) (nm : Str) (tk : Tok) (hk1 : Lets k1) (hk2 : Lets k2) (hk3 : Lets k3) (hn : Lets nm) :
    Ct w 124 [.ref x, .str nm tk] [] 2 16 [(x, instObj 206 dx), (dx, dictOf (hdD hs tk0 l) ep), (l, listOf #[.ref t1, .ref t2, .ref t3] c), (t1, tupO k1 v1 a1 b1 n1), (t2, tupO k2 v2 a2 b2 n2), (t3, tupO k3 v3 a3 b3 n3)] [l]
      (fun r _ h' => r = .none ∧ ∃ c', h'.get? l = some (listOf (kept (fun i => match i with | 0 => (low k1 != low nm) | 1 => (low k2 != low nm) | _ => (low k3 != low nm)) 0 [.ref t1, .ref t2, .ref t3]).toArray c')) := by
  intro mean mg mb dp un gd outer base s Q E B Y hd hu hm hret
  have ol := (hm (l, _) (by k_mem)).1
  have d1 : x ≠ l := ne_of_objs (hm (x, _) (by k_mem)).1 ol (by simp)
  have d2 : dx ≠ l := ne_of_objs (hm (dx, _) (by k_mem)).1 ol (by simp)
  have d3 : t1 ≠ l := ne_of_objs (hm (t1, _) (by k_mem)).1 ol (by simp)
  have d4 : t2 ≠ l := ne_of_objs (hm (t2, _) (by k_mem)).1 ol (by simp)
  have d5 : t3 ≠ l := ne_of_objs (hm (t3, _) (by k_mem)).1 ol (by simp)
  walk_at "my enterC"
  intro g L' h' tk' cells eg F N Yc B' X T l1
  dsimp only
  k_fold
  k_lt l1
  k_cells Yc
  simp only [List.cons_append, List.nil_append] at N
  k_steps
  refine ⟨?_⟩
  refine restT (rs := [.ref t1, .ref t2, .ref t3]) (fun i => match i with | 0 => (low k1 != low nm) | 1 => (low k2 != low nm) | _ => (low k3 != low nm)) ?_ ?_ (fun _ => rfl) (fun _ => rfl) (by decide) 0 [] ?_ ?_
  · intro i v I oI C oC D m₂ h tk ys Q' E' hv hC hx F' N' hQ
    match i, hv with
    | 0, hv =>
      obtain rfl : Value.ref t1 = v := by simpa using hv
      dsimp only
      k_steps
      all_goals exact hQ _ _ (by assumption) (by assumption)
    | 1, hv =>
      obtain rfl : Value.ref t2 = v := by simpa using hv
      dsimp only
      k_steps
      all_goals exact hQ _ _ (by assumption) (by assumption)
    | 2, hv =>
      obtain rfl : Value.ref t3 = v := by simpa using hv
      dsimp only
      k_steps
      all_goals exact hQ _ _ (by assumption) (by assumption)
    | n + 3, hv => simp at hv
  · lcg_src
  · intro j v h1 _
    simpa using h1
  · k_steps
    refine ⟨?_⟩
    refine setItem_led (by assumption) (by assumption) rfl (.head _) (.tail _ (.tail _ (.tail _ (.tail _ (.head _))))) (c := c) (nw := fun c' => _) (fun c' => by k_upd) (by k_ne) (by rw [sizeLine_eq]; first | decide | (have := kept_le (fun i => match i with | 0 => (low k1 != low nm) | 1 => (low k2 != low nm) | _ => (low k3 != low nm)) [.ref t1, .ref t2, .ref t3] 0; simp at this ⊢; omega)) ?_
    intro h9 c9 F9 N9
    k_steps
    all_goals (try dsimp only)
    all_goals (try (k_unfold; dsimp only))
    exact hret _ _ _ (keep_but eg hm F9 (fun q hq hn => by
      rcases List.mem_cons.mp hq with rfl | hq
      · exact News.get N9 (by k_mem)
      rcases List.mem_cons.mp hq with rfl | hq
      · exact News.get N9 (by k_mem)
      rcases List.mem_cons.mp hq with rfl | hq
      · exact absurd (.head _) hn
      exact News.get N9 (.tail _ (.tail _ (.tail _ (.tail _ (.tail _ hq))))))) ⟨rfl, c9, News.get N9 (by k_mem)⟩
end Mine
end

/- C3 -/
section
open PySem PySem.W PyProof.Rows PySem.Calls
set_option Elab.async false
set_option maxRecDepth 100000
set_option maxHeartbeats 8000000
set_option linter.unusedVariables false
namespace Mine
structure Ent where
  t : Addr
  k : Str
  v : Str
  a : Tok
  b : Tok
  n : Nat
abbrev Ent.o (e : Ent) : Addr × Obj := (e.t, tupO e.k e.v e.a e.b e.n)
abbrev Ent.r (e : Ent) : Value := .ref e.t
abbrev tabO (x dx l : Addr) (hs : Int) (tk0 : Tok) (ep c : Nat) (es : List Ent) : List (Addr × Obj) :=
  (x, instObj 206 dx) :: (dx, dictOf (hdD hs tk0 l) ep) :: (l, listOf (es.map Ent.r).toArray c) :: es.map Ent.o
def found (es : List Ent) (nm : Str) : Value := match es.find? fun e => low e.k == low nm with
  | some e => .str e.v e.b
  | none => .none
theorem getA (w : World) (x dx l : Addr) (hs : Int) (tk0 : Tok) (ep c : Nat) (es : List Ent) (nm : Str) (tk : Tok) (h3 : es.length ≤ 3) (hk : ∀ e ∈ es, Lets e.k) (hn : Lets nm) :
    Ct w 153 [.ref x, .str nm tk] [] 2 16 (tabO x dx l hs tk0 ep c es) [] (fun r _ _ => r = found es nm) := by
  have fin : ∀ {P P' : Value → Heap → Heap → Prop} {mt : List (Addr × Obj)}, Ct w 153 [.ref x, .str nm tk] [] 2 16 mt [] P → (∀ r h h', P r h h' → P' r h h') → Ct w 153 [.ref x, .str nm tk] [] 2 16 mt [] P' :=
    fun C hp mean mg mb dp un gd outer base s Q E B Y hd hu hm hret => C mean mg mb dp un gd outer base s Q E B Y hd hu hm fun v h' tk' k p => hret v h' tk' k (hp _ _ _ p)
  match es, h3, hk with
  | [], _, hk => exact fin (get0 w x dx l hs tk0 ep c nm tk hn) fun r h h' p => p
  | [e1], _, hk =>
    refine fin (get1 w x dx l e1.t hs tk0 ep c e1.n e1.k e1.v e1.a e1.b nm tk (hk _ (by simp)) hn) fun r h h' p => ?_
    simp only [found, List.find?_cons, List.find?_nil]
    by_cases q1 : low e1.k = low nm
    · simp only [q1, if_true, beq_self_eq_true] at p ⊢; exact p
    · simp only [q1, if_false, beq_eq_false_iff_ne.mpr q1] at p ⊢; exact p
  | [e1, e2], _, hk =>
    refine fin (get2 w x dx l e1.t e2.t hs tk0 ep c e1.n e2.n e1.k e1.v e2.k e2.v e1.a e1.b e2.a e2.b nm tk (hk _ (by simp)) (hk _ (by simp)) hn) fun r h h' p => ?_
    simp only [found, List.find?_cons, List.find?_nil]
    by_cases q1 : low e1.k = low nm
    · simp only [q1, if_true, beq_self_eq_true] at p ⊢; exact p
    · by_cases q2 : low e2.k = low nm
      · simp only [q1, q2, if_true, if_false, beq_self_eq_true, beq_eq_false_iff_ne.mpr q1] at p ⊢; exact p
      · simp only [q1, q2, if_false, beq_eq_false_iff_ne.mpr q1, beq_eq_false_iff_ne.mpr q2] at p ⊢; exact p
  | [e1, e2, e3], _, hk =>
    refine fin (get3 w x dx l e1.t e2.t e3.t hs tk0 ep c e1.n e2.n e3.n e1.k e1.v e2.k e2.v e3.k e3.v e1.a e1.b e2.a e2.b e3.a e3.b nm tk (hk _ (by simp)) (hk _ (by simp)) (hk _ (by simp)) hn) fun r h h' p => ?_
    simp only [found, List.find?_cons, List.find?_nil]
    by_cases q1 : low e1.k = low nm
    · simp only [q1, if_true, beq_self_eq_true] at p ⊢; exact p
    · by_cases q2 : low e2.k = low nm
      · simp only [q1, q2, if_true, if_false, beq_self_eq_true, beq_eq_false_iff_ne.mpr q1] at p ⊢; exact p
      · by_cases q3 : low e3.k = low nm
        · simp only [q1, q2, q3, if_true, if_false, beq_self_eq_true, beq_eq_false_iff_ne.mpr q1, beq_eq_false_iff_ne.mpr q2] at p ⊢; exact p
        · simp only [q1, q2, q3, if_false, beq_eq_false_iff_ne.mpr q1, beq_eq_false_iff_ne.mpr q2, beq_eq_false_iff_ne.mpr q3] at p ⊢; exact p
  | _ :: _ :: _ :: _ :: _, h3, _ => simp at h3
def rest (es : List Ent) (nm : Str) : List Ent := es.filter fun e => low e.k != low nm
theorem delA (w : World) (x dx l : Addr) (hs : Int) (tk0 : Tok) (ep c : Nat) (es : List Ent) (nm : Str) (tk : Tok) (h3 : es.length ≤ 3) (hk : ∀ e ∈ es, Lets e.k) (hn : Lets nm) :
    Ct w 124 [.ref x, .str nm tk] [] 2 16 (tabO x dx l hs tk0 ep c es) [l] (fun r _ h' => r = .none ∧ ∃ c', h'.get? l = some (listOf ((rest es nm).map Ent.r).toArray c')) := by
  have fin : ∀ {P P' : Value → Heap → Heap → Prop} {mt : List (Addr × Obj)}, Ct w 124 [.ref x, .str nm tk] [] 2 16 mt [l] P → (∀ r h h', P r h h' → P' r h h') → Ct w 124 [.ref x, .str nm tk] [] 2 16 mt [l] P' :=
    fun C hp mean mg mb dp un gd outer base s Q E B Y hd hu hm hret => C mean mg mb dp un gd outer base s Q E B Y hd hu hm fun v h' tk' k p => hret v h' tk' k (hp _ _ _ p)
  match es, h3, hk with
  | [], _, hk => exact fin (del0 w x dx l hs tk0 ep c nm tk hn) fun r h h' p => p
  | [e1], _, hk =>
    refine fin (del1 w x dx l e1.t hs tk0 ep c e1.n e1.k e1.v e1.a e1.b nm tk (hk _ (by simp)) hn) fun r h h' p => ?_
    obtain ⟨hr, c', hc⟩ := p
    refine ⟨hr, c', hc.trans ?_⟩
    simp only [kept, rest, List.filter_cons, List.filter_nil]
    cases low e1.k != low nm <;> rfl
  | [e1, e2], _, hk =>
    refine fin (del2 w x dx l e1.t e2.t hs tk0 ep c e1.n e2.n e1.k e1.v e2.k e2.v e1.a e1.b e2.a e2.b nm tk (hk _ (by simp)) (hk _ (by simp)) hn) fun r h h' p => ?_
    obtain ⟨hr, c', hc⟩ := p
    refine ⟨hr, c', hc.trans ?_⟩
    simp only [kept, rest, List.filter_cons, List.filter_nil]
    cases low e1.k != low nm <;> cases low e2.k != low nm <;> rfl
  | [e1, e2, e3], _, hk =>
    refine fin (del3 w x dx l e1.t e2.t e3.t hs tk0 ep c e1.n e2.n e3.n e1.k e1.v e2.k e2.v e3.k e3.v e1.a e1.b e2.a e2.b e3.a e3.b nm tk (hk _ (by simp)) (hk _ (by simp)) (hk _ (by simp)) hn) fun r h h' p => ?_
    obtain ⟨hr, c', hc⟩ := p
    refine ⟨hr, c', hc.trans ?_⟩
    simp only [kept, rest, List.filter_cons, List.filter_nil]
    cases low e1.k != low nm <;> cases low e2.k != low nm <;> cases low e3.k != low nm <;> rfl
  | _ :: _ :: _ :: _ :: _, h3, _ => simp at h3
end Mine
end

/- F5 -/
section
open PySem PySem.W PyProof.Rows PySem.Calls
set_option Elab.async false
set_option maxRecDepth 100000
set_option maxHeartbeats 8000000
namespace Mine
section
variable {prog : Program} {w : World} {A : Around} {s : Shared} {h₀ : Heap} {L : Addr} {m : Str → Option Value} {env : Env} {elt : PySem.Expr} {x x₂ : Str} {scope : Scope} {cl : List (Str × Addr)}
  {S : List (Addr × Obj) → Prop} {P : Nat → Value → Prop} {Fin : List Value → List (Addr × Obj) → Prop} {news : List (Addr × Obj)}
/-- the turns of [.. for k, v in ..] over the entries of a table -/
theorem restP (pick : Ent → Value)
    (ev : ∀ (e : Ent) I oI C oC D m₂ h tk ys (Q : Value → Shared → Prop) (E' : Value → Shared → Prop), LCg.NsObj oC m₂ → m₂ x = some (.str e.k e.a) → m₂ x₂ = some (.str e.v e.b) → News h₀ L h ((I, oI) :: (C, oC) :: (D, LCg.lst ys) :: news) →
      Q (pick e) { s with heap := h, toks := tk } → wpAny (model prog w) A (eval elt (compEnvC scope cl C env)) Q E' { s with heap := h, toks := tk })
    (hS : S news) :
    ∀ (rs : List Ent) (i : Nat) (ys : List Value), (∀ e ∈ rs, e.o ∈ news) → (∀ j v, P (i + j) v → j < rs.length → (rs.map Ent.r)[j]? = some v) → Fin (ys ++ rs.map pick) news →
      LCp.CompRestP prog w A h₀ L m env elt x x₂ scope cl s S P Fin rs.length i ys news
  | [], i, ys, _, _, fin => by
    refine LCp.CompRestP.zero ?_
    simpa using fin
  | r :: rs, i, ys, hm, hP, fin => by
    refine LCp.CompRestP.succ ?_
    intro v hv
    have e : r.r = v := by simpa using hP 0 v hv (by simp)
    subst e
    refine ⟨r.t, tupO r.k r.v r.a r.b r.n, .str r.k r.a, .str r.v r.b, r.n, rfl, hm r (.head _), rfl, rfl, ?_⟩
    intro I oI C oC D m₂ h tk E' hC hx hx₂ F N off ne
    have ih := restP pick ev hS rs (i + 1) (ys ++ [pick r]) (fun e he => hm e (.tail _ he))
      (fun j v h1 h2 => by simpa using hP (j + 1) v (by rw [show i + (j + 1) = i + 1 + j from by omega]; exact h1) (by simpa using h2))
      (by
        have : (ys ++ [pick r]) ++ rs.map pick = ys ++ (r :: rs).map pick := by simp
        rw [this]; exact fin)
    exact ev r I oI C oC D m₂ h tk ys _ _ hC hx hx₂ N (LCg.CompEnd.intro F N news (fun _ h => h) off hS ih)
end
end Mine
end

/- C4 -/
section
local macro_rules | `(tactic| walk_at "idle") => `(tactic| skip)
local macro_rules | `(tactic| walk_at "idle") => `(tactic| skip)
local macro_rules | `(tactic| walk_at "idle") => `(tactic| skip)
local macro_rules | `(tactic| walk_at "idle") => `(tactic| skip)
local macro_rules | `(tactic| walk_at "idle") => `(tactic| skip)
local macro_rules | `(tactic| walk_at "idle") => `(tactic| skip)
local macro_rules | `(tactic| walk_at "idle") => `(tactic| skip)
local macro_rules | `(tactic| walk_at "idle") => `(tactic| skip)
local macro_rules | `(tactic| walk_at "idle") => `(tactic| skip)
local macro_rules | `(tactic| walk_at "idle") => `(tactic| skip)
local macro_rules | `(tactic| walk_at "idle") => `(tactic| skip)
local macro_rules | `(tactic| walk_at "idle") => `(tactic| skip)
local macro_rules | `(tactic| walk_at "idle") => `(tactic| skip)
local macro_rules | `(tactic| walk_at "idle") => `(tactic| skip)
local macro_rules | `(tactic| walk_at "idle") => `(tactic| skip)
open PySem PySem.W PyProof.Rows PySem.Calls
set_option Elab.async false
set_option maxRecDepth 100000
set_option maxHeartbeats 8000000
set_option linter.unusedVariables false
namespace Mine
local macro_rules | `(tactic| k_room) => `(tactic| ktr_room)
local macro_rules | `(tactic| walk_at "my enter") => `(tactic| (refine wpAny_call ?_; k_dflt (refine' enter (by assumption) (by assumption) (by assumption) ?k6 ?k7 ?k8 ?k9 ?kL ?_ ?c2 ?c3 ?c4 ?c5; (case k6 => k_is); (case k7 => k_is); (case k8 => omega); (case k9 => first | exact BindsTo.of_eq rfl | exact binds_K (Frag.In.keeps (Bs.X (by assumption)) (Below.stays (by assumption))) rfl (by k_is) rfl rfl rfl); (case kL => exact locs rfl); (case c2 => exact rfl); (case c3 => exact rfl); (case c4 => exact rfl); (case c5 => decide); k_whole)))
local macro_rules | `(tactic| walk_at "call ref") => `(tactic| ((with_reducible show wpAny _ _ (call (Value.ref 153) _ _) _ _ _); k_dflt (refine Ct.use0 (getA _ _ _ _ _ _ _ _ _ _ _ (by assumption) (by assumption) (by assumption)) (by assumption) (by k_asm) (by k_asm) (by assumption) rfl rfl (by ktr_room) (by ktr_units) (fun _ h => h) ?_); intro v' h' tk' F' N' hk' hp'; subst hp'; (try dsimp only); (try k_fold)))

section
variable {prog : Program} {w : World} {A : Around} {E : Value → Shared → Prop} {s : Shared} {K : Frag} {x C f L : Addr} {h₀ : Heap} {m : Str → Option Value} {ox : Obj} {od : Option Obj} {i : Value}
/-- del x[i] of an own class -/
theorem delItem_own {Q : Unit → Shared → Prop} (F : Fr h₀ L s.heap m) (X₀ : K.In h₀) (I : InstAt s.heap x ox C od) (hq : noSeq K C = true) (hs : findIn K (.ref C) "__delitem__" = some (some (.ref f))) (hf : isFn K (.ref f) = true)
    (h : wpAny (model prog w) A (call (.ref f) [.ref x, i]) (fun _ s' => Q () s') E s) : wpAny (model prog w) A (delItem (.ref x) i) Q E s := by
  unfold delItem sequenceKey
  refine wpAny_holding (wpAny_bind (wpAny_bind (I.type.here ?_)))
  refine wpAny_bind ((anyM_none (X₀.keeps F.keep) hq).here ?_)
  rw [if_pos (show (!false) = true from rfl)]
  exact wpAny_pure (wpAny_bind (special_fn (X₀.keeps F.keep) I hs (beq_iff_eq.mp hf) (wpAny_mono h (fun _ _ z => wpAny_pure z) fun _ _ z => z)))
end
section
variable {prog : Program} {w : World} {A : Around} {E : Value → Shared → Prop} {s : Shared}
/-- l.append(v), whatever else stands -/
theorem append_led {h₀ : Heap} {L l : Addr} {m : Str → Option Value} {news : List (Addr × Obj)} {items : Array Value} {c : Nat} {v : Value} {Q : Value → Shared → Prop}
    (F : Fr h₀ L s.heap m) (N : News h₀ L s.heap news) (hl : (l, listOf items c) ∈ news) (hz : items.size ≤ sizeLine)
    (h : ∀ h', Fr h₀ L h' m → h'.get? l = some (listOf (items.push v) (c + 1)) → (∀ q ∈ news, q.1 ≠ l → h'.get? q.1 = some q.2 ∧ q.1 ≠ L ∧ h₀.get? q.1 = none) → Q .none { s with heap := h' }) :
    wpAny (model prog w) A (call (.builtin "list.append") [.ref l, v]) Q E s := by
  have ho := (N _ hl).1
  refine wpAny_call_entry slot_list_append (Heap.IsList.typeIs (items := items) ⟨_, ho, rfl, _, rfl⟩) entry_list_append ?_ (args_list_append _ _)
  show wpAny _ _ (updateSeq l (·.push v) >>= fun _ => ret .none) _ _ s
  refine wpAny_bind (wpAny_updateSeq ho rfl (wpAny_pure ⟨.none, rfl, ?_⟩) hz (by rw [Array.size_push]; omega))
  have hb : Heap.SameBut l s.heap (s.heap.update l (Obj.mapSeq (·.push v))) := Heap.SameBut.update ..
  refine h _ (F.change hb (N _ hl).2.1 (N _ hl).2.2) ?_ fun q hq hn => ⟨(hb.2 _ hn).trans (N q hq).1, (N q hq).2⟩
  rw [Heap.get?_update_self _ ho (by rfl)]
  simp only [Obj.mapSeq, Array.size_push, beq_iff_eq, Nat.succ_ne_self, if_false]
end
theorem news_put {h₀ h h' : Heap} {L l : Addr} {a b d : Addr × Obj} {o o' : Obj} {r : List (Addr × Obj)} (N0 : News h₀ L h (a :: b :: d :: (l, o) :: r)) (hc : ∀ q ∈ a :: b :: d :: r, q.2.cls ≠ o.cls)
    (N : ∀ q ∈ a :: b :: d :: (l, o) :: r, q.1 ≠ l → h'.get? q.1 = some q.2 ∧ q.1 ≠ L ∧ h₀.get? q.1 = none) (hl : h'.get? l = some o') : News h₀ L h' (a :: b :: d :: (l, o') :: r) := by
  have ol := (N0 (l, o) (.tail _ (.tail _ (.tail _ (.head _))))).1
  have ne : ∀ q ∈ a :: b :: d :: (l, o) :: r, q.2.cls ≠ o.cls → q.1 ≠ l := fun q hq hc => ne_of_objs (N0 q hq).1 ol hc
  intro q hq
  rcases List.mem_cons.mp hq with rfl | hq
  · exact N _ (.head _) (ne _ (.head _) (hc _ (.head _)))
  rcases List.mem_cons.mp hq with rfl | hq
  · exact N _ (.tail _ (.head _)) (ne _ (.tail _ (.head _)) (hc _ (.tail _ (.head _))))
  rcases List.mem_cons.mp hq with rfl | hq
  · exact N _ (.tail _ (.tail _ (.head _))) (ne _ (.tail _ (.tail _ (.head _))) (hc _ (.tail _ (.tail _ (.head _)))))
  rcases List.mem_cons.mp hq with rfl | hq
  · exact ⟨hl, (N0 (l, o) (.tail _ (.tail _ (.tail _ (.head _))))).2⟩
  · exact N _ (.tail _ (.tail _ (.tail _ (.tail _ hq)))) (ne _ (.tail _ (.tail _ (.tail _ (.tail _ hq)))) (hc _ (.tail _ (.tail _ (.tail _ hq)))))
theorem cls_ents {es : List Ent} : ∀ q ∈ es.map Ent.o, q.2.cls = .type "tuple" := fun q hq => by
  obtain ⟨e, _, rfl⟩ := List.mem_map.mp hq
  rfl
theorem fresh_of_hide {g h : Heap} {l : List Addr} {a : Addr} (eg : g = hideAll h l) (hn : a ∉ l) (e : g.get? a = none) : h.get? a = none := by
  cases q : h.get? a with
  | none => rfl
  | some o =>
    have := hideAll_get l q hn
    rw [← eg, e] at this; cases this
theorem tab_lt {x dx l D : Addr} {hs : Int} {tk0 : Tok} {ep c : Nat} {es : List Ent} (h : x < D ∧ dx < D ∧ l < D ∧ AllLt D (es.map Ent.o)) : D ∉ (tabO x dx l hs tk0 ep c es).map (·.1) := by
  intro hm
  obtain ⟨q, hq, e⟩ := List.mem_map.mp hm
  rcases List.mem_cons.mp hq with rfl | hq
  · exact Nat.lt_irrefl _ (Nat.lt_of_lt_of_le h.1 (Nat.le_of_eq e.symm))
  rcases List.mem_cons.mp hq with rfl | hq
  · exact Nat.lt_irrefl _ (Nat.lt_of_lt_of_le h.2.1 (Nat.le_of_eq e.symm))
  rcases List.mem_cons.mp hq with rfl | hq
  · exact Nat.lt_irrefl _ (Nat.lt_of_lt_of_le h.2.2.1 (Nat.le_of_eq e.symm))
  · exact Nat.lt_irrefl _ (Nat.lt_of_lt_of_le (kst_ltOf h.2.2.2 q hq) (Nat.le_of_eq e.symm))
theorem tab_after {h₀ h h' : Heap} {L x dx l : Addr} {hs : Int} {tk0 : Tok} {ep c : Nat} {es : List Ent} {o' : Obj} (N0 : News h₀ L h (tabO x dx l hs tk0 ep c es))
    (N : ∀ q ∈ tabO x dx l hs tk0 ep c es, q.1 ∉ [l] → h'.get? q.1 = some q.2 ∧ q.1 ≠ L ∧ h₀.get? q.1 = none) (hl : h'.get? l = some o') :
    News h₀ L h' ((x, instObj 206 dx) :: (dx, dictOf (hdD hs tk0 l) ep) :: (l, o') :: es.map Ent.o) := by
  have ol := (N0 (l, _) (by k_mem)).1
  have ne : ∀ q ∈ tabO x dx l hs tk0 ep c es, q.2.cls ≠ .type "list" → q.1 ∉ [l] := fun q hq hc hm => by
    rw [List.mem_singleton] at hm
    exact ne_of_objs (N0 q hq).1 ol hc hm
  intro q hq
  rcases List.mem_cons.mp hq with rfl | hq
  · exact N _ (by k_mem) (ne _ (by k_mem) (by simp))
  rcases List.mem_cons.mp hq with rfl | hq
  · exact N _ (by k_mem) (ne _ (by k_mem) (by simp))
  rcases List.mem_cons.mp hq with rfl | hq
  · exact ⟨hl, (N0 (l, listOf (es.map Ent.r).toArray c) (by k_mem)).2⟩
  · refine N _ (.tail _ (.tail _ (.tail _ hq))) (ne _ (.tail _ (.tail _ (.tail _ hq))) ?_)
    obtain ⟨e, _, rfl⟩ := List.mem_map.mp hq
    simp
local macro_rules | `(tactic| walk_at "delItem ref str") => `(tactic| (k_here; k_dflt (refine' delItem_own ?F ?X ?I ?hQ ?hS ?hF ?_; (case F => k_asm); (case X => k_asm); (case I => k_inst); (case hS => k_is); (case hF => k_is); (case hQ => k_is); k_whole)))
local macro_rules | `(tactic| walk_at "call ref") => `(tactic| ((with_reducible show wpAny _ _ (call (Value.ref 105) _ _) _ _ _); k_dflt (refine Ct.use0 (conv _ _ _ _ _ (by assumption)) (by assumption) (by k_asm) (by k_asm) (by assumption) rfl rfl (by ktr_room) (by ktr_units) (fun _ h => nomatch h) ?_); intro v' h' tk' F' N' hk' hp'; subst hp'; (try dsimp only); (try k_fold)))
local macro_rules | `(tactic| walk_at "call ref") => `(tactic| ((with_reducible show wpAny _ _ (call (Value.ref 124) _ _) _ _ _); (rename News _ _ _ _ => nwX); k_dflt (refine Ct.use (delA _ _ _ _ _ _ _ _ _ _ _ (by assumption) (by assumption) (by assumption)) (by assumption) (by k_asm) nwX (by assumption) rfl rfl (by ktr_room) (by ktr_units) (fun _ h => h) (fun _ h => by rw [List.mem_singleton] at h; subst h; exact List.mem_map.mpr ⟨_, List.Mem.tail _ (List.Mem.tail _ (List.Mem.head _)), rfl⟩) ?_); intro v' h' tk' F' N' hk' hp'; obtain ⟨hr', c', hl'⟩ := hp'; subst hr'; (replace N' := tab_after nwX N' hl'); clear nwX; (try dsimp only); (try k_fold)))

local macro_rules | `(tactic| walk_at "call builtin:list.append") => `(tactic| refine Stop.out ?_)
theorem getitemA (w : World) (x dx l : Addr) (hs : Int) (tk0 : Tok) (ep c : Nat) (es : List Ent) (nm : Str) (tk : Tok) (h3 : es.length ≤ 3) (hk : ∀ e ∈ es, Lets e.k) (hn : Lets nm) :
    Ct w 59 [.ref x, .str nm tk] [] 4 32 (tabO x dx l hs tk0 ep c es) [] (fun r _ _ => r = found es nm) := by
  intro mean mg mb dp un gd outer base s Q E B Y hd hu hm hret
  walk_at "my enter"
  intro g L' h' eg F N B' X T l1
  dsimp only
  k_fold
  k_steps
  all_goals exact hret _ _ _ (keep_all eg hm (by assumption) (by assumption)) rfl

theorem setitemA (w : World) (x dx l : Addr) (hs : Int) (tk0 : Tok) (ep c : Nat) (es : List Ent) (nm v : Str) (tk tv : Tok) (h3 : es.length ≤ 3) (hk : ∀ e ∈ es, Lets e.k) (hn : Lets nm) (hv : Lets v) :
    Ct w 66 [.ref x, .str nm tk, .str v tv] [] 6 48 (tabO x dx l hs tk0 ep c es) [l] (fun r h h' => r = .none ∧ ∃ t c', h.get? t = none ∧ h'.get? t = some (tupO nm v tk tv 0) ∧ h'.get? l = some (listOf ((rest es nm).map Ent.r ++ [Value.ref t]).toArray c')) := by
  intro mean mg mb dp un gd outer base s Q E B Y hd hu hm hret
  walk_at "my enter"
  intro g L' h' eg F N B' X T l1
  dsimp only
  k_fold
  k_steps
  refine ⟨?_⟩
  (rename News _ _ _ _ => NN)
  refine append_led (by assumption) NN (.tail _ (.tail _ (.tail _ (.head _)))) ?_ ?_
  · have := List.length_filter_le (fun e => low e.k != low nm) es
    simp only [List.size_toArray, List.length_map, rest]
    rw [sizeLine_eq]
    omega
  · intro h9 F9 hl9 N9
    replace N9 := news_put NN (fun q hq => by
      rcases List.mem_cons.mp hq with rfl | hq
      · simp
      rcases List.mem_cons.mp hq with rfl | hq
      · simp
      rcases List.mem_cons.mp hq with rfl | hq
      · simp
      · rw [cls_ents q hq]; simp) N9 hl9
    clear NN
    k_steps
    (rename News g L' h9 _ => N8)
    (rename (_ ∧ _ ∧ _ ∧ AllLt _ _) => hlt)
    (rename Fr g L' h9 _ => F8)
    have e9 := (N8 _ (.tail _ (.tail _ (.tail _ (.head _))))).1
    simp only [List.push_toArray] at e9
    refine hret _ _ _ (keep_but eg hm F8 fun q hq hn => ?_) ⟨rfl, _, _, fresh_of_hide eg (tab_lt hlt) (N8 _ (.head _)).2.2, (N8 _ (.head _)).1, e9⟩
    rcases List.mem_cons.mp hq with rfl | hq
    · exact (N8 _ (.tail _ (.head _))).1
    rcases List.mem_cons.mp hq with rfl | hq
    · exact (N8 _ (.tail _ (.tail _ (.head _)))).1
    rcases List.mem_cons.mp hq with rfl | hq
    · exact absurd (.head _) hn
    · exact (N8 _ (.tail _ (.tail _ (.tail _ (.tail _ hq))))).1
end Mine
end

/- P1 -/
section
open PySem PySem.W PyProof.Rows PySem.Calls
set_option Elab.async false
set_option linter.unusedVariables false
namespace Mine
/-- one sign as a text -/
abbrev sg (c : Nat) : Str := ⟨#[c]⟩
def valP (T : List (Str × Str)) (c : Nat) : Str := match T.find? fun e => low e.1 == low (sg c) with
  | some e => e.2
  | none => Str.empty
def stepP (T : List (Str × Str)) (c : Nat) : List (Str × Str) := (T.filter fun e => low e.1 != low (sg c)) ++ [(sg c, valP T c ++ sg c)]
def tabP (w : List Nat) : List (Str × Str) := w.foldl stepP []
theorem tabP_snoc (w : List Nat) (c : Nat) : tabP (w ++ [c]) = stepP (tabP w) c := by simp [tabP, List.foldl_append]

theorem len_sub {α : Type} [DecidableEq α] : ∀ (l k : List α), l.Nodup → (∀ a ∈ l, a ∈ k) → l.length ≤ k.length
  | [], _, _, _ => Nat.zero_le _
  | a :: l, k, hn, hs => by
    have hn' := List.nodup_cons.mp hn
    have := len_sub l (k.erase a) hn'.2 fun b hb => (List.mem_erase_of_ne (fun e : b = a => hn'.1 (by rw [← e]; exact hb))).mpr (hs b (.tail _ hb))
    have ha := hs a (.head _)
    have e := List.length_erase_of_mem ha
    have := List.length_pos_of_mem ha
    simp only [List.length_cons]
    omega
structure GoodT (n : Nat) (T : List (Str × Str)) : Prop where
  names : ∀ e ∈ T, ∃ c, isLet c = true ∧ e.1 = sg c
  nodup : (T.map fun e => low e.1).Nodup
  vals : ∀ e ∈ T, (∀ c ∈ e.2.cps.toList, isLet c = true) ∧ e.2.cps.size ≤ n
theorem low_sg {c : Nat} (h : isLet c = true) : low (sg c) ∈ [sg 97, sg 98, sg 99] := by
  rcases isLet_cases h with rfl | rfl | rfl | rfl | rfl | rfl <;> decide +kernel
theorem GoodT.le3 {n : Nat} {T : List (Str × Str)} (h : GoodT n T) : T.length ≤ 3 := by
  have := len_sub (T.map fun e => low e.1) [sg 97, sg 98, sg 99] h.nodup fun a ha => by
    obtain ⟨e, he, rfl⟩ := List.mem_map.mp ha
    obtain ⟨c, hc, e1⟩ := h.names e he
    rw [e1]; exact low_sg hc
  simpa using this
theorem valP_good {n : Nat} {T : List (Str × Str)} (h : GoodT n T) (c : Nat) : (∀ d ∈ (valP T c).cps.toList, isLet d = true) ∧ (valP T c).cps.size ≤ n := by
  unfold valP
  split
  · rename_i e he
    exact h.vals e (List.mem_of_find?_eq_some he)
  · exact ⟨fun d hd => by simp [Str.empty] at hd, by simp [Str.empty]⟩
theorem str_app_list (a b : Str) : (a ++ b).cps.toList = a.cps.toList ++ b.cps.toList := by
  rw [PySem.Str.cps_append, Array.toList_append]
theorem str_app_size (a b : Str) : (a ++ b).cps.size = a.cps.size + b.cps.size := by
  rw [PySem.Str.cps_append, Array.size_append]
theorem stepP_good {n : Nat} {T : List (Str × Str)} (h : GoodT n T) {c : Nat} (hc : isLet c = true) : GoodT (n + 1) (stepP T c) := by
  refine ⟨fun e he => ?_, ?_, fun e he => ?_⟩
  · rcases List.mem_append.mp he with he | he
    · exact h.names e (List.mem_filter.mp he).1
    · rw [List.mem_singleton.mp he]; exact ⟨c, hc, rfl⟩
  · unfold stepP
    rw [List.map_append, List.nodup_append]
    refine ⟨?_, by simp, fun a ha b hb e => ?_⟩
    · exact h.nodup.sublist (List.filter_sublist.map _)
    · obtain ⟨q, hq, rfl⟩ := List.mem_map.mp ha
      have := (List.mem_filter.mp hq).2
      simp only [List.map_cons, List.map_nil, List.mem_singleton] at hb
      rw [hb] at e
      rw [e] at this
      simp at this
  · rcases List.mem_append.mp he with he | he
    · have := h.vals e (List.mem_filter.mp he).1
      exact ⟨this.1, Nat.le_succ_of_le this.2⟩
    · rw [List.mem_singleton.mp he]
      have := valP_good h c
      refine ⟨fun d hd => ?_, ?_⟩
      · dsimp only at hd
        rw [str_app_list] at hd
        rcases List.mem_append.mp hd with hd | hd
        · exact this.1 d hd
        · have : d = c := by simpa using hd
          rw [this]; exact hc
      · dsimp only
        rw [str_app_size]
        have := this.2
        simp
        omega
theorem foldP_good : ∀ (w : List Nat) (n : Nat) (T : List (Str × Str)), GoodT n T → (∀ c ∈ w, isLet c = true) → GoodT (n + w.length) (w.foldl stepP T)
  | [], n, T, h, _ => by simpa using h
  | c :: w, n, T, h, hw => by
    have := foldP_good w (n + 1) (stepP T c) (stepP_good h (hw c (.head _))) fun d hd => hw d (.tail _ hd)
    rw [List.foldl_cons, List.length_cons, show n + (w.length + 1) = n + 1 + w.length from by omega]
    exact this
theorem tabP_good (w : List Nat) (h : ∀ c ∈ w, isLet c = true) : GoodT w.length (tabP w) := by
  have := foldP_good w 0 [] ⟨fun e he => by simp at he, by simp, fun e he => by simp at he⟩ h
  rw [Nat.zero_add] at this
  exact this
end Mine
end

/- C5 -/
section
local macro_rules | `(tactic| walk_at "idle") => `(tactic| skip)
local macro_rules | `(tactic| walk_at "idle") => `(tactic| skip)
local macro_rules | `(tactic| walk_at "idle") => `(tactic| skip)
local macro_rules | `(tactic| walk_at "idle") => `(tactic| skip)
local macro_rules | `(tactic| walk_at "idle") => `(tactic| skip)
local macro_rules | `(tactic| walk_at "idle") => `(tactic| skip)
local macro_rules | `(tactic| walk_at "idle") => `(tactic| skip)
local macro_rules | `(tactic| walk_at "idle") => `(tactic| skip)
local macro_rules | `(tactic| walk_at "idle") => `(tactic| skip)
local macro_rules | `(tactic| walk_at "idle") => `(tactic| skip)
local macro_rules | `(tactic| walk_at "idle") => `(tactic| skip)
local macro_rules | `(tactic| walk_at "idle") => `(tactic| skip)
local macro_rules | `(tactic| walk_at "idle") => `(tactic| skip)
local macro_rules | `(tactic| walk_at "idle") => `(tactic| skip)
local macro_rules | `(tactic| walk_at "idle") => `(tactic| skip)
local macro_rules | `(tactic| walk_at "idle") => `(tactic| skip)
local macro_rules | `(tactic| walk_at "idle") => `(tactic| skip)
local macro_rules | `(tactic| walk_at "idle") => `(tactic| skip)
local macro_rules | `(tactic| walk_at "idle") => `(tactic| skip)
local macro_rules | `(tactic| walk_at "idle") => `(tactic| skip)
local macro_rules | `(tactic| walk_at "idle") => `(tactic| skip)
local macro_rules | `(tactic| walk_at "idle") => `(tactic| skip)
open PySem PySem.W PyProof.Rows PySem.Calls
set_option Elab.async false
set_option maxRecDepth 100000
set_option maxHeartbeats 8000000
set_option linter.unusedVariables false
namespace Mine
abbrev pairs (es : List Ent) : List (Str × Str) := es.map fun e => (e.k, e.v)
theorem pairs_rest (es : List Ent) (nm : Str) : pairs (rest es nm) = (pairs es).filter fun e => low e.1 != low nm := by
  induction es with
  | nil => rfl
  | cons e es ih =>
    simp only [pairs, rest, List.map_cons, List.filter_cons] at ih ⊢
    cases low e.k != low nm <;> simp [ih]
theorem found_pairs (es : List Ent) (c : Nat) : (found es (sg c) = .none ∧ valP (pairs es) c = Str.empty) ∨ ∃ t, found es (sg c) = .str (valP (pairs es) c) t := by
  induction es with
  | nil => exact .inl ⟨rfl, rfl⟩
  | cons e es ih =>
    simp only [found, pairs, valP, List.map_cons, List.find?_cons] at ih ⊢
    cases low e.k == low (sg c) with
    | true => exact .inr ⟨_, rfl⟩
    | false => exact ih
local macro_rules | `(tactic| k_room) => `(tactic| ktr_room)
local macro_rules | `(tactic| walk_at "my enter") => `(tactic| (refine wpAny_call ?_; k_dflt (refine' enter (by assumption) (by assumption) (by assumption) ?k6 ?k7 ?k8 ?k9 ?kL ?_ ?c2 ?c3 ?c4 ?c5; (case k6 => k_is); (case k7 => k_is); (case k8 => omega); (case k9 => first | exact BindsTo.of_eq rfl | exact binds_K (Frag.In.keeps (Bs.X (by assumption)) (Below.stays (by assumption))) rfl (by k_is) rfl rfl rfl); (case kL => exact locs rfl); (case c2 => exact rfl); (case c3 => exact rfl); (case c4 => exact rfl); (case c5 => decide); k_whole)))
local macro_rules | `(tactic| walk_at "exec For Name Name cons nil") => `(tactic| refine Stop.out ?_)
local macro_rules | `(tactic| walk_at "call ref") => `(tactic| ((with_reducible show wpAny _ _ (call (Value.ref 66) _ _) _ _ _); refine Stop.out ?_))
local macro_rules | `(tactic| walk_at "call ref") => `(tactic| ((with_reducible show wpAny _ _ (call (Value.ref 59) _ _) _ _ _); refine Stop.out ?_))
local macro_rules | `(tactic| walk_at "binaryOp Add str str") => `(tactic| (refine PyProof.Rows.add_str ?_ (by assumption); intro _ _))
local macro_rules | `(tactic| walk_at "pyIter str") => `(tactic| refine Stop.out ?_)
theorem tab_start {h₀ h : Heap} {L l x d : Addr} {hs : Int} {tk : Tok} (N : News h₀ L h [(l, listOf #[] 0), (x, instObj 206 d), (d, dictOf (hdD hs tk l) 1)]) : News h₀ L h (tabO x d l hs tk 1 0 []) := fun q hq => N q (by
  rcases List.mem_cons.mp hq with rfl | hq
  · k_mem
  rcases List.mem_cons.mp hq with rfl | hq
  · k_mem
  rcases List.mem_cons.mp hq with rfl | hq
  · k_mem
  · exact nomatch hq)
theorem tab_next {h₀ h h' : Heap} {L I x dx l t : Addr} {oI : Obj} {hs : Int} {tk0 : Tok} {ep c c' : Nat} {es : List Ent} {nm v : Str} {a b : Tok} (N : News h₀ L h ((I, oI) :: tabO x dx l hs tk0 ep c es)) (F : ∃ m, Fr h₀ L h m)
    (hI : oI.cls = .type "str_ascii_iterator") (off : ∀ p ∈ tabO x dx l hs tk0 ep c es, p.1 ≠ I)
    (N' : ∀ q ∈ (I, oI) :: tabO x dx l hs tk0 ep c es, q.1 ∉ [l] → h'.get? q.1 = some q.2 ∧ q.1 ≠ L ∧ h₀.get? q.1 = none)
    (ht : h.get? t = none) (ht' : h'.get? t = some (tupO nm v a b 0)) (hl' : h'.get? l = some (listOf ((rest es nm).map Ent.r ++ [Value.ref t]).toArray c')) :
    News h₀ L h' ((I, oI) :: tabO x dx l hs tk0 ep c' (rest es nm ++ [⟨t, nm, v, a, b, 0⟩])) ∧ ∀ p ∈ tabO x dx l hs tk0 ep c' (rest es nm ++ [⟨t, nm, v, a, b, 0⟩]), p.1 ≠ I := by
  have ol := (N (l, listOf (es.map Ent.r).toArray c) (by k_mem)).1
  have ne : ∀ q ∈ (I, oI) :: tabO x dx l hs tk0 ep c es, q.2.cls ≠ .type "list" → q.1 ∉ [l] := fun q hq hc hm => by
    rw [List.mem_singleton] at hm
    exact ne_of_objs (N q hq).1 ol hc hm
  have tI : t ≠ I := by
    rintro rfl
    rw [(N _ (.head _)).1] at ht; cases ht
  have tL : t ≠ L := by
    rintro rfl
    obtain ⟨m, F⟩ := F
    obtain ⟨oL, _, _, hL, _⟩ := F.ns
    rw [hL] at ht; cases ht
  have t0 : h₀.get? t = none := by
    cases q : h₀.get? t with
    | none => rfl
    | some o =>
      obtain ⟨m, F⟩ := F
      rw [F.keep t o q] at ht; cases ht
  have mem : ∀ e ∈ rest es nm ++ [⟨t, nm, v, a, b, 0⟩], e ∈ es ∨ e = ⟨t, nm, v, a, b, 0⟩ := fun e he => by
    rcases List.mem_append.mp he with he | he
    · exact .inl (List.mem_filter.mp he).1
    · exact .inr (List.mem_singleton.mp he)
  refine ⟨fun q hq => ?_, fun p hp => ?_⟩
  · rcases List.mem_cons.mp hq with rfl | hq
    · exact N' _ (by k_mem) (ne _ (by k_mem) (by rw [hI]; simp))
    rcases List.mem_cons.mp hq with rfl | hq
    · exact N' _ (by k_mem) (ne _ (by k_mem) (by simp))
    rcases List.mem_cons.mp hq with rfl | hq
    · exact N' _ (by k_mem) (ne _ (by k_mem) (by simp))
    rcases List.mem_cons.mp hq with rfl | hq
    · refine ⟨?_, (N (l, listOf (es.map Ent.r).toArray c) (by k_mem)).2⟩
      rw [hl', List.map_append]; rfl
    · obtain ⟨e, he, rfl⟩ := List.mem_map.mp hq
      rcases mem e he with he | rfl
      · have hm : e.o ∈ (I, oI) :: tabO x dx l hs tk0 ep c es := .tail _ (.tail _ (.tail _ (.tail _ (List.mem_map_of_mem he))))
        exact N' _ hm (ne _ hm (by simp))
      · exact ⟨ht', tL, t0⟩
  · rcases List.mem_cons.mp hp with rfl | hp
    · exact off (x, instObj 206 dx) (by k_mem)
    rcases List.mem_cons.mp hp with rfl | hp
    · exact off (dx, dictOf (hdD hs tk0 l) ep) (by k_mem)
    rcases List.mem_cons.mp hp with rfl | hp
    · exact off (l, listOf (es.map Ent.r).toArray c) (by k_mem)
    · obtain ⟨e, he, rfl⟩ := List.mem_map.mp hp
      rcases mem e he with he | rfl
      · exact off e.o (.tail _ (.tail _ (.tail _ (List.mem_map_of_mem he))))
      · exact tI
def TabJ (x dx l : Addr) (hs : Int) (tk0 : Tok) (ep : Nat) (w : List Nat) (i : Nat) (m : Str → Option Value) (news : List (Addr × Obj)) : Prop :=
  ∃ c es, news = tabO x dx l hs tk0 ep c es ∧ pairs es = tabP (w.take i) ∧ m (Str.ofString "table") = some (.ref x)
theorem tblA (w : World) (v : Str) (tv : Tok) (hv : Lets v) (hl : v.cps.size ≤ 60) :
    Ct w 217 [.str v tv] [] 10 80 [] [] (fun r h h' => ∃ x dx l hs tk0 ep c es, r = .ref x ∧ pairs es = tabP v.cps.toList ∧ ∀ q ∈ tabO x dx l hs tk0 ep c es, h.get? q.1 = none ∧ h'.get? q.1 = some q.2) := by
  intro mean mg mb dp un gd outer base s Q E B Y hd hu hm hret
  walk_at "my enter"
  intro g L' h' eg F N B' X T l1
  dsimp only
  k_fold
  k_steps
  refine ⟨?_⟩
  rename_i h1 F1 N1
  obtain ⟨x, dx, l, hs, tk0, m, N2, F2, hm1⟩ : ∃ (x dx l : Addr) (hs : Int) (tk0 : Tok) (m : Str → Option Value), News g L' h1 (tabO x dx l hs tk0 1 0 []) ∧ Fr g L' h1 (fun y => if y = Str.ofString "table" then some (.ref x) else m y) ∧ m (Str.ofString "word") = some (Value.str v tv) := by
    exact ⟨_, _, _, _, _, _, tab_start N1, F1, rfl⟩
  clear N1 F1
  with_unfolding_all refine' For_invVF F2 ?k1 ?k2 ?_
  case k1 => exact rfl
  case k2 => exact rfl
  refine ld F2 (v := Value.str v tv) (by first | exact hm1 | (simp; exact hm1)) ?_ rfl rfl (by decide)
  have ha : v.cps.all (· < 128) = true := by
    rw [← Array.all_toList, List.all_eq_true]
    intro c hc
    have := isLet_cases (hv.all c hc)
    simp
    omega
  refine loop_str (TabJ x dx l hs tk0 1 v.cps.toList) rfl ha F2 N2 ⟨0, [], rfl, rfl, rfl⟩ ?_ ?_
  · intro i c t m₁ news₁ I oI h tk' hc hJ hI off F' N'
    obtain ⟨c', es, rfl, hes, hm₁⟩ := hJ
    have F2 : Fr g L' h (fun y => if y = Str.ofString "sign" then some (Value.str (sg c) t) else if y = Str.ofString "table" then some (Value.ref x) else m₁ y) := by
      have e : (fun y => if y = Str.ofString "sign" then some (Value.str (sg c) t) else m₁ y) = (fun y => if y = Str.ofString "sign" then some (Value.str (sg c) t) else if y = Str.ofString "table" then some (Value.ref x) else m₁ y) := by
        funext y
        by_cases q : y = Str.ofString "table"
        · subst q
          rw [if_neg (by decide +kernel), if_neg (by decide +kernel), if_pos rfl, hm₁]
        · simp [q]
      rw [← e]; exact F'
    clear F'
    have hcl : isLet c = true := hv.all c (by
      rw [← Array.getElem?_toList] at hc
      exact List.mem_of_getElem? hc)
    have hlet : Lets (sg c) := ⟨by simp, fun d hd => by
      have : d = c := by simpa using hd
      rw [this]; exact hcl⟩
    have hi : i < v.cps.size := by
      rcases Nat.lt_or_ge i v.cps.size with q | q
      · exact q
      · rw [Array.getElem?_eq_none q] at hc; cases hc
    have good := tabP_good (v.cps.toList.take i) fun d hd => hv.all d (List.mem_of_mem_take hd)
    rw [← hes] at good
    have h3 : es.length ≤ 3 := by simpa using good.le3
    have hk : ∀ e ∈ es, Lets e.k := fun e he => by
      obtain ⟨d, hd, e1⟩ := good.names (e.k, e.v) (List.mem_map.mpr ⟨e, he, rfl⟩)
      dsimp only at e1
      rw [e1]
      exact ⟨by simp, fun b hb => by
        have : b = d := by simpa using hb
        rw [this]; exact hd⟩
    have hval : Lets (valP (pairs es) c ++ sg c) := by
      have g1 := valP_good good c
      refine ⟨?_, fun d hd => ?_⟩
      · rw [str_app_size]
        have := g1.2
        rw [List.length_take] at this
        simp
        omega
      · rw [str_app_list] at hd
        rcases List.mem_append.mp hd with hd | hd
        · exact g1.1 d hd
        · exact hlet.all d hd
    k_steps
    refine ⟨?_⟩
    k_dflt (refine Ct.use0 (getitemA _ _ _ _ _ _ _ _ _ _ _ h3 hk hlet) B' F2 N' Y rfl rfl (by ktr_room) (by ktr_units) (fun q hq => .tail _ hq) ?_)
    clear F2 N'
    intro v9 h9 tk9 F9 N9 hk9 hp9
    subst hp9
    have fin : ∀ (Qc Ec : Value → Shared → Prop) (xs : Str) (t9 : Tok) (h9 : Heap) (tk9 : Nat), xs = valP (pairs es) c ++ sg c → Fr g L' h9 (fun y => if y = Str.ofString "sign" then some (Value.str (sg c) t) else if y = Str.ofString "table" then some (Value.ref x) else m₁ y) → News g L' h9 ((I, oI) :: tabO x dx l hs tk0 1 c' es) →
        (∀ h' tk' c2 es2, Fr g L' h' (fun y => if y = Str.ofString "sign" then some (Value.str (sg c) t) else if y = Str.ofString "table" then some (Value.ref x) else m₁ y) → News g L' h' ((I, oI) :: tabO x dx l hs tk0 1 c2 es2) → (∀ p ∈ tabO x dx l hs tk0 1 c2 es2, p.1 ≠ I) → pairs es2 = stepP (pairs es) c → Qc .none { s with heap := h', toks := tk' }) →
        wpAny (model PP w) ((Ar dp un gd outer).deeper (envOf (Str.ofString "_law_table") { kind := ScopeKind.function, names := [(Str.ofString "word", NameKind.local), (Str.ofString "table", NameKind.local), (Str.ofString "sign", NameKind.local), (Str.ofString "Headers", NameKind.globalImplicit), (Str.ofString "setitem", NameKind.globalImplicit), (Str.ofString "add", NameKind.globalImplicit), (Str.ofString "getitem", NameKind.globalImplicit)], isGenerator := false, isCoroutine := false } L' 217 (Value.ref 216)))
          (call (.ref 66) [.ref x, .str (sg c) t, .str xs t9]) Qc Ec { s with heap := h9, toks := tk9 } := by
      intro Qc Ec xs t9 h9 tk9 exs F9 N9 hq
      subst exs
      k_dflt (refine Ct.use (setitemA w x dx l hs tk0 1 c' es (sg c) (valP (pairs es) c ++ sg c) t t9 h3 hk hlet hval) B' F9 N9 Y rfl rfl (by ktr_room) (by ktr_units) (fun q hq => .tail _ hq) (fun a ha => by rw [List.mem_singleton] at ha; subst ha; exact List.mem_map.mpr ⟨_, .tail _ (.tail _ (.head _)), rfl⟩) ?_)
      intro v8 h8 tk8 F8 N8 hk8 hp8
      obtain ⟨rfl, t8, c8, ht, ht', hl'⟩ := hp8
      obtain ⟨N7, off7⟩ := tab_next N9 ⟨_, F9⟩ hI off N8 ht ht' hl'
      refine hq h8 tk8 c8 _ F8 N7 off7 ?_
      simp only [pairs, List.map_append, List.map_cons, List.map_nil, stepP]
      rw [show (rest es (sg c)).map (fun e => (e.k, e.v)) = _ from pairs_rest es (sg c)]
    have done : ∀ h' tk2 c2 es2, Fr g L' h' (fun y => if y = Str.ofString "sign" then some (Value.str (sg c) t) else if y = Str.ofString "table" then some (Value.ref x) else m₁ y) → News g L' h' ((I, oI) :: tabO x dx l hs tk0 1 c2 es2) → (∀ p ∈ tabO x dx l hs tk0 1 c2 es2, p.1 ≠ I) → pairs es2 = stepP (pairs es) c →
        ∀ Q', TurnS g L' I oI (TabJ x dx l hs tk0 1 v.cps.toList (i + 1)) { s with heap := h, toks := tk' } Q' .next { s with heap := h', toks := tk2 } := by
      intro h' tk2 c2 es2 F3 N3 off3 e3 Q'
      refine ⟨h', tk2, _, _, rfl, F3, N3, off3, c2, es2, rfl, ?_, by dsimp only; rw [if_neg (by decide +kernel), if_pos rfl]⟩
      have hg : v.cps.toList[i]? = some c := by rw [Array.getElem?_toList]; exact hc
      rw [e3, hes, List.take_add_one, hg, ← tabP_snoc]
      rfl
    rcases found_pairs es c with ⟨e1, e2⟩ | ⟨t9, e1⟩
    · rw [e1]
      dsimp only
      k_steps
      refine ⟨?_⟩
      refine fin _ _ _ _ _ _ (by rw [e2]; rfl) (by assumption) (by assumption) ?_
      intro h8 tk8 c2 es2 F8 N8 off8 e8
      k_steps
      exact done _ _ _ _ F8 N8 off8 e8 _
    · rw [e1]
      have hsz : (valP (pairs es) c).cps.size + 1 ≤ 64 := by
        have := hval.len
        rw [str_app_size] at this
        exact this
      have hsz9 : (valP (pairs es) c).length + (sg c).length ≤ sizeLine := by
        rw [sizeLine_eq]
        show (valP (pairs es) c).cps.size + 1 ≤ _
        omega
      dsimp only
      refine SBL.truthy ?_ ?_
      · show ((valP (pairs es) c).cps.size : Int) < _
        omega
      cases hb : (((valP (pairs es) c).length : Int) != 0) with
      | true =>
        k_steps
        refine ⟨?_⟩
        refine fin _ _ _ _ _ _ rfl (by assumption) (by assumption) ?_
        intro h8 tk8 c2 es2 F8 N8 off8 e8
        k_steps
        exact done _ _ _ _ F8 N8 off8 e8 _
      | false =>
        have e2 : valP (pairs es) c = Str.empty := by
          have : (valP (pairs es) c).cps.size = 0 := by simpa [PySem.Str.length] using hb
          exact PySem.Str.ext' (Array.eq_empty_of_size_eq_zero this)
        k_steps
        refine ⟨?_⟩
        refine fin _ _ _ _ _ _ (by rw [e2]; rfl) (by assumption) (by assumption) ?_
        intro h8 tk8 c2 es2 F8 N8 off8 e8
        k_steps
        exact done _ _ _ _ F8 N8 off8 e8 _
  · intro m9 news9 h9 tk9 hJ F9 N9
    obtain ⟨c9, es9, rfl, hes9, hm9⟩ := hJ
    rw [← Array.length_toList, List.take_length] at hes9
    dsimp only
    k_steps
    refine ld F9 hm9 ?_ rfl rfl (by decide)
    k_steps
    dsimp only
    try (k_unfold; dsimp only)
    refine hret _ _ _ (keep_of eg F9) ⟨x, dx, l, hs, tk0, 1, c9, es9, rfl, hes9, fun q hq => ⟨?_, (N9 q hq).1⟩⟩
    have := (N9 q hq).2.2
    rw [eg] at this
    exact this
end Mine
end

/- C6 -/
section
local macro_rules | `(tactic| walk_at "idle") => `(tactic| skip)
local macro_rules | `(tactic| walk_at "idle") => `(tactic| skip)
local macro_rules | `(tactic| walk_at "idle") => `(tactic| skip)
local macro_rules | `(tactic| walk_at "idle") => `(tactic| skip)
local macro_rules | `(tactic| walk_at "idle") => `(tactic| skip)
local macro_rules | `(tactic| walk_at "idle") => `(tactic| skip)
local macro_rules | `(tactic| walk_at "idle") => `(tactic| skip)
local macro_rules | `(tactic| walk_at "idle") => `(tactic| skip)
local macro_rules | `(tactic| walk_at "idle") => `(tactic| skip)
local macro_rules | `(tactic| walk_at "idle") => `(tactic| skip)
local macro_rules | `(tactic| walk_at "idle") => `(tactic| skip)
local macro_rules | `(tactic| walk_at "idle") => `(tactic| skip)
local macro_rules | `(tactic| walk_at "idle") => `(tactic| skip)
local macro_rules | `(tactic| walk_at "idle") => `(tactic| skip)
local macro_rules | `(tactic| walk_at "idle") => `(tactic| skip)
local macro_rules | `(tactic| walk_at "idle") => `(tactic| skip)
local macro_rules | `(tactic| walk_at "idle") => `(tactic| skip)
local macro_rules | `(tactic| walk_at "idle") => `(tactic| skip)
local macro_rules | `(tactic| walk_at "idle") => `(tactic| skip)
local macro_rules | `(tactic| walk_at "idle") => `(tactic| skip)
local macro_rules | `(tactic| walk_at "idle") => `(tactic| skip)
local macro_rules | `(tactic| walk_at "idle") => `(tactic| skip)
local macro_rules | `(tactic| walk_at "idle") => `(tactic| skip)
local macro_rules | `(tactic| walk_at "idle") => `(tactic| skip)
local macro_rules | `(tactic| walk_at "idle") => `(tactic| skip)
local macro_rules | `(tactic| walk_at "idle") => `(tactic| skip)
local macro_rules | `(tactic| walk_at "idle") => `(tactic| skip)
local macro_rules | `(tactic| walk_at "idle") => `(tactic| skip)
local macro_rules | `(tactic| walk_at "idle") => `(tactic| skip)
open PySem PySem.W PyProof.Rows PySem.Calls
set_option Elab.async false
set_option maxRecDepth 100000
set_option maxHeartbeats 1000000
set_option linter.unusedVariables false
namespace Mine
local macro_rules | `(tactic| k_room) => `(tactic| ktr_room)
local macro_rules | `(tactic| walk_at "my enter") => `(tactic| (refine wpAny_call ?_; k_dflt (refine' enter (by assumption) (by assumption) (by assumption) ?k6 ?k7 ?k8 ?k9 ?kL ?_ ?c2 ?c3 ?c4 ?c5; (case k6 => k_is); (case k7 => k_is); (case k8 => omega); (case k9 => first | exact BindsTo.of_eq rfl | exact binds_K (Frag.In.keeps (Bs.X (by assumption)) (Below.stays (by assumption))) rfl (by k_is) rfl rfl rfl); (case kL => exact locs rfl); (case c2 => exact rfl); (case c3 => exact rfl); (case c4 => exact rfl); (case c5 => decide); k_whole)))

local macro_rules | `(tactic| walk_at "SrcLP") => `(tactic| refine Stop.out ?_)
local macro_rules | `(tactic| walk_at "subscriptTail Attribute Slice ref ref") => `(tactic| refine Stop.out ?_)
local macro_rules | `(tactic| walk_at "subscriptTail Attribute") => `(tactic| refine Stop.out ?_)
theorem off1_mem {D : Addr} : ∀ (l : List (Addr × Obj)), LCg.Off1 D l → ∀ p ∈ l, p.1 ≠ D := by
  intro l
  induction l with
  | nil => intro _ p hp; exact nomatch hp
  | cons a l ih =>
    intro h p hp
    rcases List.mem_cons.mp hp with e | hp
    · rw [e]; exact h.1
    · exact ih h.2 p hp
theorem tab_off {x dx l D : Addr} {hs : Int} {tk0 : Tok} {ep c : Nat} {es : List Ent} (h : x ≠ D ∧ dx ≠ D ∧ l ≠ D ∧ LCg.Off1 D (es.map Ent.o)) : D ∉ (tabO x dx l hs tk0 ep c es).map (·.1) := by
  intro hm
  obtain ⟨q, hq, e⟩ := List.mem_map.mp hm
  rcases List.mem_cons.mp hq with rfl | hq
  · exact h.1 e
  rcases List.mem_cons.mp hq with rfl | hq
  · exact h.2.1 e
  rcases List.mem_cons.mp hq with rfl | hq
  · exact h.2.2.1 e
  · exact off1_mem _ h.2.2.2 q hq e
theorem keysA (w : World) (x dx l : Addr) (hs : Int) (tk0 : Tok) (ep c : Nat) (es : List Ent) (h3 : es.length ≤ 3) :
    Ct w 158 [.ref x] [] 2 16 (tabO x dx l hs tk0 ep c es) [] (fun r h h' => ∃ D n, r = .ref D ∧ h.get? D = none ∧ h'.get? D = some (listOf (es.map (fun e => Value.str e.k e.a)).toArray n)) := by
  intro mean mg mb dp un gd outer base s Q E B Y hd hu hm hret
  walk_at "my enter"
  intro g L' h' eg F N B' X T l1
  dsimp only
  k_fold
  k_steps
  refine ⟨?_⟩
  (rename Fr g L' _ _ => F1)
  (rename News g L' _ _ => N1)
  have hz : (es.map Ent.r).toArray.size ≤ sizeLine := by
    rw [sizeLine_eq]; simp; omega
  k_dflt (refine LCp.SrcLP.ledger rfl F1 N1 (.tail _ (.tail _ (.head _))) hz ?_)
  intro g'
  rw [show (es.map Ent.r).toArray.size = es.length by simp]
  refine restP (fun e => Value.str e.k e.a) ?_ (.inr ⟨_, .tail _ (.tail _ (.head _)), rfl, _, rfl⟩) es 0 [] (fun e he => .tail _ (.tail _ (.tail _ (List.mem_map_of_mem he)))) (fun j v h1 h2 => by simpa using h1) ?_
  · intro e I oI C oC D m₂ h tk ys Q' E' hC hx hx₂ N' hQ
    exact LCgL.ld_own (s := _) N' (.tail _ (.head _)) hC hx hQ rfl rfl (by decide)
  · k_steps
    try dsimp only
    try (k_unfold; dsimp only)
    (rename Fr g L' _ _ => F9)
    (rename News g L' _ _ => N9)
    (rename (_ ∧ _ ∧ _ ∧ LCg.Off1 _ _) => o1)
    refine hret _ _ _ (keep_all eg hm F9 (news_t1 N9)) ⟨_, _, rfl, ?_, N9.get (.head _)⟩
    exact fresh_of_hide eg (tab_off o1) (N9 _ (.head _)).2.2
theorem valuesA (w : World) (x dx l : Addr) (hs : Int) (tk0 : Tok) (ep c : Nat) (es : List Ent) (h3 : es.length ≤ 3) :
    Ct w 163 [.ref x] [] 2 16 (tabO x dx l hs tk0 ep c es) [] (fun r h h' => ∃ D n, r = .ref D ∧ h.get? D = none ∧ h'.get? D = some (listOf (es.map (fun e => Value.str e.v e.b)).toArray n)) := by
  intro mean mg mb dp un gd outer base s Q E B Y hd hu hm hret
  walk_at "my enter"
  intro g L' h' eg F N B' X T l1
  dsimp only
  k_fold
  k_steps
  refine ⟨?_⟩
  (rename Fr g L' _ _ => F1)
  (rename News g L' _ _ => N1)
  have hz : (es.map Ent.r).toArray.size ≤ sizeLine := by
    rw [sizeLine_eq]; simp; omega
  k_dflt (refine LCp.SrcLP.ledger rfl F1 N1 (.tail _ (.tail _ (.head _))) hz ?_)
  intro g'
  rw [show (es.map Ent.r).toArray.size = es.length by simp]
  refine restP (fun e => Value.str e.v e.b) ?_ (.inr ⟨_, .tail _ (.tail _ (.head _)), rfl, _, rfl⟩) es 0 [] (fun e he => .tail _ (.tail _ (.tail _ (List.mem_map_of_mem he)))) (fun j v h1 h2 => by simpa using h1) ?_
  · intro e I oI C oC D m₂ h tk ys Q' E' hC hx hx₂ N' hQ
    exact LCgL.ld_own (s := _) N' (.tail _ (.head _)) hC hx₂ hQ rfl rfl (by decide)
  · k_steps
    try dsimp only
    try (k_unfold; dsimp only)
    (rename Fr g L' _ _ => F9)
    (rename News g L' _ _ => N9)
    (rename (_ ∧ _ ∧ _ ∧ LCg.Off1 _ _) => o1)
    refine hret _ _ _ (keep_all eg hm F9 (news_t1 N9)) ⟨_, _, rfl, ?_, N9.get (.head _)⟩
    exact fresh_of_hide eg (tab_off o1) (N9 _ (.head _)).2.2
theorem itemsA (w : World) (x dx l : Addr) (hs : Int) (tk0 : Tok) (ep c : Nat) (es : List Ent) (h3 : es.length ≤ 3) :
    Ct w 170 [.ref x] [] 2 16 (tabO x dx l hs tk0 ep c es) [] (fun r h h' => ∃ D n, r = .ref D ∧ h.get? D = none ∧ h'.get? D = some (listOf (es.map Ent.r).toArray n)) := by
  intro mean mg mb dp un gd outer base s Q E B Y hd hu hm hret
  walk_at "my enter"
  intro g L' h' eg F N B' X T l1
  dsimp only
  k_fold
  k_steps
  refine ⟨?_⟩
  (rename Fr g L' _ _ => F1)
  (rename News g L' _ _ => N1)
  have hz : (es.map Ent.r).toArray.size ≤ sizeLine := by
    rw [sizeLine_eq]; simp; omega
  k_dflt (refine kba_turn (value' := PySem.Expr.Name (PySem.Str.ofString "_") ⟨0, 0, 0, 0⟩) (fun _ => rfl) ?_)
  k_dflt (refine kmk_slice F1 N1 (News.isList N1 (.tail _ (.tail _ (.head _)))) .none .none ?_ (by with_unfolding_all rfl) (by intro _; with_unfolding_all rfl) hz)
  intro D h9 F9 N9 l9
  rw [slicePick_all] at N9
  k_steps
  try dsimp only
  try (k_unfold; dsimp only)
  refine hret _ _ _ (keep_all eg hm F9 (news_t1 N9)) ⟨_, _, rfl, ?_, N9.get (.head _)⟩
  exact fresh_of_hide eg (fun hm' => by
    obtain ⟨q, hq, e⟩ := List.mem_map.mp hm'
    exact Nat.lt_irrefl _ (Nat.lt_of_lt_of_le (l9 q hq) (Nat.le_of_eq e.symm))) (N9 _ (.head _)).2.2
end Mine
end

/- C7 -/
section
local macro_rules | `(tactic| walk_at "idle") => `(tactic| skip)
local macro_rules | `(tactic| walk_at "idle") => `(tactic| skip)
local macro_rules | `(tactic| walk_at "idle") => `(tactic| skip)
local macro_rules | `(tactic| walk_at "idle") => `(tactic| skip)
local macro_rules | `(tactic| walk_at "idle") => `(tactic| skip)
local macro_rules | `(tactic| walk_at "idle") => `(tactic| skip)
local macro_rules | `(tactic| walk_at "idle") => `(tactic| skip)
local macro_rules | `(tactic| walk_at "idle") => `(tactic| skip)
local macro_rules | `(tactic| walk_at "idle") => `(tactic| skip)
local macro_rules | `(tactic| walk_at "idle") => `(tactic| skip)
local macro_rules | `(tactic| walk_at "idle") => `(tactic| skip)
local macro_rules | `(tactic| walk_at "idle") => `(tactic| skip)
local macro_rules | `(tactic| walk_at "idle") => `(tactic| skip)
local macro_rules | `(tactic| walk_at "idle") => `(tactic| skip)
local macro_rules | `(tactic| walk_at "idle") => `(tactic| skip)
local macro_rules | `(tactic| walk_at "idle") => `(tactic| skip)
local macro_rules | `(tactic| walk_at "idle") => `(tactic| skip)
local macro_rules | `(tactic| walk_at "idle") => `(tactic| skip)
local macro_rules | `(tactic| walk_at "idle") => `(tactic| skip)
local macro_rules | `(tactic| walk_at "idle") => `(tactic| skip)
local macro_rules | `(tactic| walk_at "idle") => `(tactic| skip)
local macro_rules | `(tactic| walk_at "idle") => `(tactic| skip)
local macro_rules | `(tactic| walk_at "idle") => `(tactic| skip)
local macro_rules | `(tactic| walk_at "idle") => `(tactic| skip)
local macro_rules | `(tactic| walk_at "idle") => `(tactic| skip)
local macro_rules | `(tactic| walk_at "idle") => `(tactic| skip)
local macro_rules | `(tactic| walk_at "idle") => `(tactic| skip)
local macro_rules | `(tactic| walk_at "idle") => `(tactic| skip)
local macro_rules | `(tactic| walk_at "idle") => `(tactic| skip)
local macro_rules | `(tactic| walk_at "idle") => `(tactic| skip)
local macro_rules | `(tactic| walk_at "idle") => `(tactic| skip)
local macro_rules | `(tactic| walk_at "idle") => `(tactic| skip)
local macro_rules | `(tactic| walk_at "idle") => `(tactic| skip)
local macro_rules | `(tactic| walk_at "idle") => `(tactic| skip)
open PySem PySem.W PyProof.Rows PySem.Calls
set_option Elab.async false
set_option maxRecDepth 100000
set_option maxHeartbeats 1000000
set_option linter.unusedVariables false
namespace Mine
def has (x : Str) (c : Nat) : Bool := decide (c ∈ x.cps.toList)
section find
open Builtin Builtin.Str
theorem gives_find_to (x y : Str) (i j : Int) (t u v z : Tok) : Gives (Builtin.«str.find» ⟨[.str x t, .str y u, .int i v, .int j z], []⟩) (.int (match occurrences x y (fromIndex x.length i) (min (fromIndex x.length j) x.length) 1 with | k :: _ => (k : Int) | [] => -1)) := by
  show Gives (match occurrences x y (fromIndex x.length i) (min (fromIndex x.length j) x.length) 1 with | k :: _ => retInt k | [] => (do rule "str.find.not-found"; retInt (-1))) _
  cases occurrences x y (fromIndex x.length i) (min (fromIndex x.length j) x.length) 1 with
  | nil => exact .rule (.of_eq rfl)
  | cons k _ => exact .of_eq rfl
theorem from_len (n : Nat) : min (fromIndex n (n : Int)) n = n := by
  unfold fromIndex; split <;> omega
theorem from_pos (n : Nat) (i : Int) (h : 0 ≤ i) : fromIndex n i = i.toNat := by
  unfold fromIndex; split <;> omega
end find
section find
variable {prog : Program} {w : World} {A : Around} {E : Value → Shared → Prop} {s : Shared} {Q : Value → Shared → Prop} {x y : Str} {t u v z : Tok} {i j : Int}
open StrLaws Builtin Builtin.Str
theorem find_empty (hy : y = ⟨#[]⟩) (h0 : 0 ≤ i) (h1 : i ≤ x.length) (hj : j = x.length) (hq : Q (.int i s.toks) { s with toks := s.toks + 1 }) :
    wpAny (model prog w) A (call (.builtin "str.find") [.str x t, .str y u, .int i v, .int j z]) Q E s := by
  subst hy hj
  refine call_gives F.slot_str_find (typeIs_str _ _ _) F.entry_str_find (F.args_str_find_4 _ _ _ _) (gives_find_to x ⟨#[]⟩ i _ t u v z) ?_
  rw [from_len, from_pos _ _ h0]
  have e : (match occurrences x ⟨#[]⟩ i.toNat x.length 1 with | k :: _ => (k : Int) | [] => -1) = i := by
    rcases occ_head_from x ⟨#[]⟩ i.toNat 1 (Nat.le_refl 1) with ⟨_, hn⟩ | ⟨k, r, h0', hlo, hk, hn⟩
    · exact absurd ⟨by show i.toNat + 0 ≤ _; omega, by rw [subAt_eq]; simp [Str.length]⟩ (hn i.toNat (Nat.le_refl _))
    · rw [h0']
      rcases Nat.lt_or_ge i.toNat k with hl | hl
      · exact absurd ⟨by show i.toNat + 0 ≤ _; omega, by rw [subAt_eq]; simp [Str.length]⟩ (hn i.toNat (Nat.le_refl _) hl)
      · show (k : Int) = i; omega
  rw [e]; exact hq
theorem find_one {c : Nat} (hy : y = ⟨#[c]⟩) (h0 : i = 0) (hj : j = x.length) (hq : ∀ k : Int, (k = -1 ∧ has x c = false ∨ 0 ≤ k ∧ k < x.length ∧ has x c = true) → Q (.int k s.toks) { s with toks := s.toks + 1 }) :
    wpAny (model prog w) A (call (.builtin "str.find") [.str x t, .str y u, .int i v, .int j z]) Q E s := by
  subst hy hj h0
  refine call_gives F.slot_str_find (typeIs_str _ _ _) F.entry_str_find (F.args_str_find_4 _ _ _ _) (gives_find_to x ⟨#[c]⟩ 0 _ t u v z) ?_
  rw [from_len, from_pos _ _ (Int.le_refl _)]
  refine hq _ ?_
  rcases occ_head_from x ⟨#[c]⟩ (0 : Int).toNat 1 (Nat.le_refl 1) with ⟨h, hn⟩ | ⟨k, r, h, hlo, hk, hn⟩
  · rw [h]
    refine .inl ⟨rfl, decide_eq_false fun hm => ?_⟩
    obtain ⟨m, hm, e⟩ := List.mem_iff_getElem.mp hm
    exact hn m (Nat.zero_le _) ((subAt_one x c m).mpr (by rw [List.getElem?_eq_getElem hm, e]))
  · rw [h]
    have hm := (subAt_one x c k).mp hk
    have hlt : k < x.length := by have := hk.1; have e : (⟨#[c]⟩ : Str).length = 1 := rfl; omega
    exact .inr ⟨by show (0:Int) ≤ (k:Int); omega, by show (k:Int) < _; omega, decide_eq_true (List.mem_of_getElem? hm)⟩
theorem len_0 {y : Str} {u : Tok} (hy : y = ⟨#[]⟩) (hq : Q (.int 0 (s.toks + 1)) { s with toks := s.toks + 1 + 1 }) : wpAny (model prog w) A (call (.builtin "len") [.str y u]) Q E s := by
  subst hy; exact SBL.len (by decide) hq
theorem len_1 {c : Nat} {y : Str} {u : Tok} (hy : y = ⟨#[c]⟩) (hq : Q (.int 1 (s.toks + 1)) { s with toks := s.toks + 1 + 1 }) : wpAny (model prog w) A (call (.builtin "len") [.str y u]) Q E s := by
  subst hy; refine SBL.len (by show ((1:Nat):Int) < 9223372036854775808; decide) hq
end find
local macro_rules | `(tactic| k_room) => `(tactic| ktr_room)
local macro_rules | `(tactic| walk_at "my enter") => `(tactic| (refine wpAny_call ?_; k_dflt (refine' enter (by assumption) (by assumption) (by assumption) ?k6 ?k7 ?k8 ?k9 ?kL ?_ ?c2 ?c3 ?c4 ?c5; (case k6 => k_is); (case k7 => k_is); (case k8 => omega); (case k9 => first | exact BindsTo.of_eq rfl | exact binds_K (Frag.In.keeps (Bs.X (by assumption)) (Below.stays (by assumption))) rfl (by k_is) rfl rfl rfl); (case kL => exact locs rfl); (case c2 => exact rfl); (case c3 => exact rfl); (case c4 => exact rfl); (case c5 => decide); k_whole)))
local macro_rules | `(tactic| walk_at "call builtin:len") => `(tactic| first | refine len_0 rfl ?_ | refine len_1 rfl ?_)
local macro_rules | `(tactic| walk_at "call builtin:str.find") => `(tactic| (refine find_one (x := _) rfl (by omega) (by omega) ?_; intro kk hk; rcases hk with ⟨hk, hk2⟩ | ⟨hk, hk1, hk2⟩))
local macro_rules | `(tactic| walk_at "call builtin:str.find") => `(tactic| refine find_empty rfl (by omega) (by omega) (by omega) ?_)

theorem ema (w : World) (got : Str) (t1 t2 : Tok) (hg : Lets got) :
    Ct w 73 [.str (Str.ofString "...a...") t1, .str got t2] [] 2 16 [] [] (fun r h h' => r = .bool (has got 97)) := by
  intro mean mg mb dp un gd outer base s Q E B Y hd hu hm hret
  have hl : got.length ≤ 64 := hg.1
  walk_at "my enter"
  intro g L' h' eg F N B' X T l1
  dsimp only
  k_fold
  k_steps
  all_goals first | ((with_reducible rename (Builtin.Str.occurrences _ _ _ _ _).isEmpty = true => hx); exact absurd hx (by decide +kernel)) | skip
  all_goals try dsimp only
  all_goals try (k_unfold; dsimp only)
  all_goals ((with_reducible rename has _ _ = _ => e9); (with_reducible rename Fr g _ _ _ => F9); (with_reducible rename News g _ _ _ => N9); exact hret _ _ _ (keep_of eg F9) (by show _ = Value.bool _; rw [e9]))

theorem emb (w : World) (got : Str) (t1 t2 : Tok) (hg : Lets got) :
    Ct w 73 [.str (Str.ofString "...b...") t1, .str got t2] [] 2 16 [] [] (fun r h h' => r = .bool (has got 98)) := by
  intro mean mg mb dp un gd outer base s Q E B Y hd hu hm hret
  have hl : got.length ≤ 64 := hg.1
  walk_at "my enter"
  intro g L' h' eg F N B' X T l1
  dsimp only
  k_fold
  k_steps
  all_goals first | ((with_reducible rename (Builtin.Str.occurrences _ _ _ _ _).isEmpty = true => hx); exact absurd hx (by decide +kernel)) | skip
  all_goals try dsimp only
  all_goals try (k_unfold; dsimp only)
  all_goals ((with_reducible rename has _ _ = _ => e9); (with_reducible rename Fr g _ _ _ => F9); (with_reducible rename News g _ _ _ => N9); exact hret _ _ _ (keep_of eg F9) (by show _ = Value.bool _; rw [e9]))

theorem emc (w : World) (got : Str) (t1 t2 : Tok) (hg : Lets got) :
    Ct w 73 [.str (Str.ofString "...c...") t1, .str got t2] [] 2 16 [] [] (fun r h h' => r = .bool (has got 99)) := by
  intro mean mg mb dp un gd outer base s Q E B Y hd hu hm hret
  have hl : got.length ≤ 64 := hg.1
  walk_at "my enter"
  intro g L' h' eg F N B' X T l1
  dsimp only
  k_fold
  k_steps
  all_goals first | ((with_reducible rename (Builtin.Str.occurrences _ _ _ _ _).isEmpty = true => hx); exact absurd hx (by decide +kernel)) | skip
  all_goals try dsimp only
  all_goals try (k_unfold; dsimp only)
  all_goals ((with_reducible rename has _ _ = _ => e9); (with_reducible rename Fr g _ _ _ => F9); (with_reducible rename News g _ _ _ => N9); exact hret _ _ _ (keep_of eg F9) (by show _ = Value.bool _; rw [e9]))
end Mine
end

/- C8 -/
section
local macro_rules | `(tactic| walk_at "idle") => `(tactic| skip)
local macro_rules | `(tactic| walk_at "idle") => `(tactic| skip)
local macro_rules | `(tactic| walk_at "idle") => `(tactic| skip)
local macro_rules | `(tactic| walk_at "idle") => `(tactic| skip)
local macro_rules | `(tactic| walk_at "idle") => `(tactic| skip)
local macro_rules | `(tactic| walk_at "idle") => `(tactic| skip)
local macro_rules | `(tactic| walk_at "idle") => `(tactic| skip)
local macro_rules | `(tactic| walk_at "idle") => `(tactic| skip)
local macro_rules | `(tactic| walk_at "idle") => `(tactic| skip)
local macro_rules | `(tactic| walk_at "idle") => `(tactic| skip)
local macro_rules | `(tactic| walk_at "idle") => `(tactic| skip)
local macro_rules | `(tactic| walk_at "idle") => `(tactic| skip)
local macro_rules | `(tactic| walk_at "idle") => `(tactic| skip)
local macro_rules | `(tactic| walk_at "idle") => `(tactic| skip)
local macro_rules | `(tactic| walk_at "idle") => `(tactic| skip)
local macro_rules | `(tactic| walk_at "idle") => `(tactic| skip)
local macro_rules | `(tactic| walk_at "idle") => `(tactic| skip)
local macro_rules | `(tactic| walk_at "idle") => `(tactic| skip)
local macro_rules | `(tactic| walk_at "idle") => `(tactic| skip)
local macro_rules | `(tactic| walk_at "idle") => `(tactic| skip)
local macro_rules | `(tactic| walk_at "idle") => `(tactic| skip)
local macro_rules | `(tactic| walk_at "idle") => `(tactic| skip)
local macro_rules | `(tactic| walk_at "idle") => `(tactic| skip)
local macro_rules | `(tactic| walk_at "idle") => `(tactic| skip)
local macro_rules | `(tactic| walk_at "idle") => `(tactic| skip)
local macro_rules | `(tactic| walk_at "idle") => `(tactic| skip)
local macro_rules | `(tactic| walk_at "idle") => `(tactic| skip)
local macro_rules | `(tactic| walk_at "idle") => `(tactic| skip)
local macro_rules | `(tactic| walk_at "idle") => `(tactic| skip)
local macro_rules | `(tactic| walk_at "idle") => `(tactic| skip)
local macro_rules | `(tactic| walk_at "idle") => `(tactic| skip)
local macro_rules | `(tactic| walk_at "idle") => `(tactic| skip)
local macro_rules | `(tactic| walk_at "idle") => `(tactic| skip)
local macro_rules | `(tactic| walk_at "idle") => `(tactic| skip)
local macro_rules | `(tactic| walk_at "idle") => `(tactic| skip)
local macro_rules | `(tactic| walk_at "idle") => `(tactic| skip)
local macro_rules | `(tactic| walk_at "idle") => `(tactic| skip)
local macro_rules | `(tactic| walk_at "idle") => `(tactic| skip)
local macro_rules | `(tactic| walk_at "idle") => `(tactic| skip)
open PySem PySem.W PyProof.Rows PySem.Calls
set_option Elab.async false
set_option maxRecDepth 100000
set_option maxHeartbeats 1000000
set_option linter.unusedVariables false
namespace Mine
local macro_rules | `(tactic| k_room) => `(tactic| ktr_room)
local macro_rules | `(tactic| walk_at "my enter") => `(tactic| (refine wpAny_call ?_; k_dflt (refine' enter (by assumption) (by assumption) (by assumption) ?k6 ?k7 ?k8 ?k9 ?kL ?_ ?c2 ?c3 ?c4 ?c5; (case k6 => k_is); (case k7 => k_is); (case k8 => omega); (case k9 => first | exact BindsTo.of_eq rfl | exact binds_K (Frag.In.keeps (Bs.X (by assumption)) (Below.stays (by assumption))) rfl (by k_is) rfl rfl rfl); (case kL => exact locs rfl); (case c2 => exact rfl); (case c3 => exact rfl); (case c4 => exact rfl); (case c5 => decide); k_whole)))
local macro_rules | `(tactic| walk_at "compareOp In str ref") => `(tactic| refine Stop.out ?_)
theorem containsA (w : World) (l : Addr) (vs : List Value) (ys : List Str) (c : Nat) (other : Str) (t : Tok) (hs : StrsAre vs ys) :
    Ct w 52 [.ref l, .str other t] [] 2 16 [(l, listOf vs.toArray c)] [] (fun r h h' => r = .bool (ys.any (· == other))) := by
  intro mean mg mb dp un gd outer base s Q E B Y hd hu hm hret
  walk_at "my enter"
  intro g L' h' eg F N B' X T l1
  dsimp only
  k_fold
  k_steps
  refine ⟨?_⟩
  (with_reducible rename Fr g _ _ _ => F9)
  (with_reducible rename News g _ _ _ => N9)
  refine in_list_strs (News.isList N9 (.head _)) hs ?_
  dsimp only
  exact hret _ _ _ (keep_all eg hm F9 N9) rfl
end Mine
end

/- F6 -/
section
open PySem PySem.W PyProof.Rows PySem.Calls
set_option Elab.async false
set_option maxRecDepth 100000
set_option maxHeartbeats 8000000
namespace Mine
section
variable {prog : Program} {w : World} {A : Around} {E : Value → Shared → Prop} {s : Shared} {env : Env} {h₀ : Heap} {x : Str} {body : List Stmt} {Q : Flow → Shared → Prop}
theorem loop_range {r : Addr} {a b : Int} {n : Nat} {t u v : Tok} {m₀ : Str → Option Value} {news₀ : List (Addr × Obj)} (J : Nat → (Str → Option Value) → List (Addr × Obj) → Prop)
    (hh : A.handled = none) (hr : IsRange s.heap r a b 1 t u v) (h1 : -(2 ^ 62) ≤ a) (h2 : a < 2 ^ 62) (h3 : -(2 ^ 62) ≤ b) (h4 : b < 2 ^ 62) (hn : n = (b - a).toNat) (F : Fr h₀ env.locals s.heap m₀) (N : News h₀ env.locals s.heap news₀) (h0 : J 0 m₀ news₀)
    (turn : ∀ (i : Nat) t m₁ news₁ I oI h tk, i < n → J i m₁ news₁ → oI.cls = .type "range_iterator" → (∀ p ∈ news₁, p.1 ≠ I) → Fr h₀ env.locals h (fun y => if y = x then some (.int (a + i) t) else m₁ y) → News h₀ env.locals h ((I, oI) :: news₁) →
      wpAny (model prog w) A (execs body env) (TurnS h₀ env.locals I oI (J (i + 1)) { s with heap := h, toks := tk } Q) E { s with heap := h, toks := tk })
    (done : ∀ m₁ news₁ h tk, J n m₁ news₁ → Fr h₀ env.locals h m₁ → News h₀ env.locals h news₁ → Q .next { s with heap := h, toks := tk }) :
    wpAny (model prog w) A (pyIter (.ref r)) (fun it s₂ => LoopAtV prog w A h₀ env x body Q E it s₂) E s := by
  refine wpAny_pyIter_range hr (small_one h1 h2 h3 h4) ?_
  have hnew : ∀ p ∈ news₀, p.1 ≠ s.heap.objs.size := fun p hp => Nat.ne_of_lt (Heap.lt_size (N p hp).1)
  have hL : env.locals ≠ s.heap.objs.size := Nat.ne_of_lt F.ns.lt
  have hI₀ : h₀.get? s.heap.objs.size = none := next_is_new F
  have hsz : Builtin.Range.rangeSize a b 1 = (n : Int) := by rw [rangeSize_one, hn]; split <;> omega
  have e1 : (a + ((0 : Nat) : Int) * 1) = a := by simp
  have e2 : ((n : Int) - ((0 : Nat) : Int)) = Builtin.Range.rangeSize a b 1 := by rw [hsz]; simp
  refine ⟨s.heap.objs.size, [s.heap.objs.size], [s.heap.objs.size], n, _, _, m₀, news₀, fun i m n => J i m n, rfl, Walks.range hh _ a 1 n, ?_, ?_, ?_, ?_, F.push _, (fun p hp => ⟨Heap.get?_push_of_some _ (N p hp).1, (N p hp).2⟩), h0, ?_, ?_⟩
  · simpa using hL
  · intro b hb
    rw [List.mem_singleton.mp hb]; exact hI₀
  · intro p hp hm
    exact hnew p hp (List.mem_singleton.mp hm)
  · show IsRangeIter _ _ (a + ((0 : Nat) : Int) * 1) ((n : Int) - ((0 : Nat) : Int)) 1
    rw [e1, e2]
    exact Heap.get?_push_size _ rfl
  · rintro i v m₁ news₁ s₁ own ⟨h, tk, rfl⟩ hi ⟨t, rfl⟩ hJ hoff hown hownAt hin hoI F₁ N₁
    obtain ⟨oI, eI⟩ : ∃ o : Obj, o = { cls := .type "range_iterator", dict := none, data := .fields #[rawInt (a + ((i + 1 : Nat) : Int) * 1), rawInt ((n : Int) - ((i + 1 : Nat) : Int)), rawInt 1], slots := #[] } := ⟨_, rfl⟩
    replace hoI : h.get? s.heap.objs.size = some oI := by rw [eI]; exact hoI
    have hcI : oI.cls = .type "range_iterator" := by rw [eI]
    have hmem := hin _ (.head _) hI₀ _ hoI
    have off' : ∀ p ∈ news₁, p.1 ≠ s.heap.objs.size := fun p hp e => hoff p hp (e ▸ List.mem_singleton.mpr rfl)
    have N' : News h₀ env.locals h ((s.heap.objs.size, oI) :: news₁) := fun p hp => by
      rcases List.mem_cons.mp hp with rfl | hp
      · exact N₁ _ (List.mem_append_left _ hmem)
      · exact N₁ _ (List.mem_append_right _ hp)
    rw [Int.mul_one] at F₁
    refine wpAny_mono (turn i t m₁ news₁ _ oI h tk hi hJ hcI off' F₁ N') (fun f s₂ hf => ?_) fun _ _ e => e
    have fin : (∃ h' tk' m' news', s₂ = { s with heap := h', toks := tk' } ∧ Fr h₀ env.locals h' m' ∧ News h₀ env.locals h' ((s.heap.objs.size, oI) :: news') ∧ (∀ p ∈ news', p.1 ≠ s.heap.objs.size) ∧ J (i + 1) m' news') →
        LoopStepU h₀ env.locals [s.heap.objs.size] own (J (i + 1)) { s with heap := h, toks := tk } .next s₂ := by
      rintro ⟨h', tk', m', news', rfl, F', N2, off2, hJ'⟩
      refine LoopStepU.intro F' (fun p hp => ?_) (fun p hp hm => off2 p hp (List.mem_singleton.mp hm)) hJ'
      rcases List.mem_append.mp hp with hp | hp
      · have e1 : p.1 = s.heap.objs.size := List.mem_singleton.mp (hown p hp)
        have e2 := hownAt p hp
        rw [e1] at e2
        have e3 := Option.some.inj (e2.symm.trans hoI)
        obtain ⟨a, b⟩ := p
        cases e1; cases e3
        exact N2 _ (.head _)
      · exact N2 _ (.tail _ hp)
    cases f with
    | ret v => exact .ret hf
    | brk => exact .brk hf
    | next => exact .next (fin hf)
    | cont => exact .cont (fin hf)
  · intro h' tk m' news' F' N' _ hJ
    exact done m' news' h' tk hJ F' N'
end
end Mine
end

/- P2 -/
section
open PySem PySem.W PyProof.Rows PySem.Calls
set_option Elab.async false
set_option linter.unusedVariables false
namespace Mine
abbrev tx (l : List Nat) : Str := ⟨l.toArray⟩
def swp (r : List Nat) (k : Nat) : List Nat := r.take k ++ (r.getD (k + 1) 0 :: r.getD k 0 :: r.drop (k + 2))
def tog (r : List Nat) (k : Nat) : Bool := (lo1 (r.getD k 0) != lo1 (r.getD (k + 1) 0)) && decide (lo1 (r.getD (k + 1) 0) ∈ (r.drop (k + 2)).map lo1)
def turn1 (r : List Nat) (rs : List (List Nat)) (k : Nat) : List (List Nat) := if (tog r k && !(rs.any (· == swp r k))) = true then rs ++ [swp r k] else rs
def turn (r : List Nat) (rs : List (List Nat)) (n : Nat) : List (List Nat) := (List.range n).foldl (turn1 r) rs
def reach : Nat → Nat → List (List Nat) → List (List Nat)
  | 0, _, rs => rs
  | f + 1, at', rs => if (decide (at' < rs.length) && decide (rs.length < 64)) = true then reach f (at' + 1) (turn (rs.getD at' []) rs 5) else rs
theorem turn_succ (r : List Nat) (rs : List (List Nat)) (n : Nat) : turn r rs (n + 1) = turn1 r (turn r rs n) n := by simp [turn, List.range_succ]
def RowOk (r : List Nat) : Prop := r.length = 6 ∧ ∀ c ∈ r, isLet c = true
theorem swp_ok {r : List Nat} (h : RowOk r) {k : Nat} (hk : k < 5) : RowOk (swp r k) := by
  obtain ⟨hl, hc⟩ := h
  have g : ∀ i, i < 6 → isLet (r.getD i 0) = true := fun i hi => hc _ (by
    rw [List.getD_eq_getElem?_getD, List.getElem?_eq_getElem (by omega)]
    exact List.getElem_mem _)
  refine ⟨?_, fun c hm => ?_⟩
  · simp [swp, hl]; omega
  · rcases List.mem_append.mp hm with hm | hm
    · exact hc c (List.mem_of_mem_take hm)
    rcases List.mem_cons.mp hm with rfl | hm
    · exact g _ (by omega)
    rcases List.mem_cons.mp hm with rfl | hm
    · exact g _ (by omega)
    · exact hc c (List.mem_of_mem_drop hm)
theorem turn1_ok {r : List Nat} {rs : List (List Nat)} (h : RowOk r) (hs : ∀ q ∈ rs, RowOk q) {k : Nat} (hk : k < 5) : ∀ q ∈ turn1 r rs k, RowOk q := by
  intro q hq
  unfold turn1 at hq
  split at hq
  · rcases List.mem_append.mp hq with hq | hq
    · exact hs q hq
    · rw [List.mem_singleton.mp hq]; exact swp_ok h hk
  · exact hs q hq
theorem turn_ok {r : List Nat} {rs : List (List Nat)} (h : RowOk r) (hs : ∀ q ∈ rs, RowOk q) : ∀ n, n ≤ 5 → ∀ q ∈ turn r rs n, RowOk q
  | 0, _ => hs
  | n + 1, hn => by
    rw [turn_succ]
    exact turn1_ok h (turn_ok h hs n (by omega)) (by omega)
theorem turn1_len (r : List Nat) (rs : List (List Nat)) (k : Nat) : (turn1 r rs k).length ≤ rs.length + 1 := by
  unfold turn1; split <;> simp
theorem turn_len (r : List Nat) (rs : List (List Nat)) : ∀ n, (turn r rs n).length ≤ rs.length + n
  | 0 => Nat.le_refl _
  | n + 1 => by
    rw [turn_succ]
    have := turn1_len r (turn r rs n) n
    have := turn_len r rs n
    omega
theorem reach_step {n : Nat} {rs : List (List Nat)} (h1 : n < rs.length) (h2 : rs.length < 64) : reach (70 - n) n rs = reach (70 - (n + 1)) (n + 1) (turn (rs.getD n []) rs 5) := by
  have e : 70 - n = (70 - (n + 1)) + 1 := by omega
  rw [e]
  show (if _ then _ else _) = _
  rw [if_pos (by simp [h1, h2])]
theorem reach_stop {f n : Nat} {rs : List (List Nat)} (h : ¬ (n < rs.length ∧ rs.length < 64)) : reach f n rs = rs := by
  cases f with
  | zero => rfl
  | succ f =>
    show (if _ then _ else _) = _
    rw [if_neg]
    simp only [Bool.and_eq_true, decide_eq_true_eq]
    exact h
end Mine
end

/- F7 -/
section
open PySem PySem.W PyProof.Rows PySem.Calls
set_option Elab.async false
set_option linter.unusedVariables false
namespace Mine
theorem row_facts {row : List Nat} {i : Nat} (hr : RowOk row) (hi : i < 5) : Txt.item (tx row) (i : Int) = sg (row.getD i 0) ∧ Txt.item (tx row) ((i : Int) + 1) = sg (row.getD (i + 1) 0) ∧
    Txt.slice (tx row) none (some (i : Int)) = tx (row.take i) ∧ Txt.slice (tx row) (some ((i : Int) + 2)) none = tx (row.drop (i + 2)) := by
  obtain ⟨hl, -⟩ := hr
  have hl' : (tx row).length = 6 := hl
  have e1 : Txt.item (tx row) (i : Int) = sg (row.getD i 0) ∧ Txt.item (tx row) ((i : Int) + 1) = sg (row.getD (i + 1) 0) := by
    match row, hl with
    | [a, b, c, d, e, f], _ =>
      match i, hi with
      | 0, _ => exact ⟨rfl, rfl⟩
      | 1, _ => exact ⟨rfl, rfl⟩
      | 2, _ => exact ⟨rfl, rfl⟩
      | 3, _ => exact ⟨rfl, rfl⟩
      | 4, _ => exact ⟨rfl, rfl⟩
  refine ⟨e1.1, e1.2, ?_, ?_⟩
  · rw [eq_of_beq (slice_closes_to (x := tx row) (j := (i : Int)) ⟨by omega, by show (i : Int) ≤ row.length; omega⟩)]
    show (⟨((row.drop 0).take _).toArray⟩ : Str) = _
    have : ((i : Int) - 0).toNat = i := by omega
    rw [this]; rfl
  · rw [slice_from_eq (x := tx row) (i := (i : Int) + 2) (b := 6) (by omega) (by omega) (by omega)]
    show (⟨((row.drop _).take _).toArray⟩ : Str) = _
    have e2 : ((i : Int) + 2).toNat = i + 2 := by omega
    have e3 : ((6 : Int) - (i + 2)).toNat = 6 - (i + 2) := by omega
    rw [e2, e3, List.take_of_length_le (by simp [hl])]
theorem row_at {row : List Nat} (hr : RowOk row) {i : Nat} (hi : i < 6) : isLet (row.getD i 0) = true := hr.2 _ (by
  have := hr.1
  rw [List.getD_eq_getElem?_getD, List.getElem?_eq_getElem (by omega)]
  exact List.getElem_mem _)
theorem lets_sg {c : Nat} (h : isLet c = true) : Lets (sg c) := ⟨by simp, fun d hd => by
  have : d = c := by simpa using hd
  rw [this]; exact h⟩
theorem lets_tx {r : List Nat} (h : r.length ≤ 64) (hc : ∀ c ∈ r, isLet c = true) : Lets (tx r) := ⟨by simpa using h, by simpa using hc⟩
theorem lets_drop {row : List Nat} (hr : RowOk row) (k : Nat) : Lets (tx (row.drop k)) := lets_tx (by have := hr.1; simp; omega) fun c hc => hr.2 c (List.mem_of_mem_drop hc)
section
variable {prog : Program} {w : World} {A : Around} {E : Value → Shared → Prop} {s : Shared} {value slice : Expr} {row : List Nat} {i : Nat} {t u : Tok} {Q : Value → Shared → Prop} {h₀ : Heap} {L : Addr} {m : Str → Option Value} {news : List (Addr × Obj)}
theorem item_row0 (hr : RowOk row) (hi : i < 5) (h : Lets (sg (row.getD i 0)) → Q (.str (sg (row.getD i 0)) s.toks) { s with toks := s.toks + 1 })
    (hs : subscripted slice false (.str (tx row) t) (.int (i : Int) u) = operate [.str (tx row) t, .int (i : Int) u] (getItem (.str (tx row) t) (.int (i : Int) u)) := by with_unfolding_all rfl)
    (ht : ∀ r, letTemporaryGo value (.str (tx row) t) r = pure () := by intro _; with_unfolding_all rfl) :
    wpAny (model prog w) A (subscriptTail value slice (.str (tx row) t) (.int (i : Int) u)) Q E s := by
  have hl : (tx row).length = 6 := hr.1
  refine item_str (fitsSsize_of (N := 9223372036854775808) (by omega) (by omega) (Int.le_refl _)) (by omega) (by omega) (fun _ => ?_) hs ht
  rw [(row_facts hr hi).1]
  exact h (lets_sg (row_at hr (by omega)))
theorem item_row1 (hr : RowOk row) (hi : i < 5) (h : Lets (sg (row.getD (i + 1) 0)) → Q (.str (sg (row.getD (i + 1) 0)) s.toks) { s with toks := s.toks + 1 })
    (hs : subscripted slice false (.str (tx row) t) (.int ((i : Int) + 1) u) = operate [.str (tx row) t, .int ((i : Int) + 1) u] (getItem (.str (tx row) t) (.int ((i : Int) + 1) u)) := by with_unfolding_all rfl)
    (ht : ∀ r, letTemporaryGo value (.str (tx row) t) r = pure () := by intro _; with_unfolding_all rfl) :
    wpAny (model prog w) A (subscriptTail value slice (.str (tx row) t) (.int ((i : Int) + 1) u)) Q E s := by
  have hl : (tx row).length = 6 := hr.1
  refine item_str (fitsSsize_of (N := 9223372036854775808) (by omega) (by omega) (Int.le_refl _)) (by omega) (by omega) (fun _ => ?_) hs ht
  rw [(row_facts hr hi).2.1]
  exact h (lets_sg (row_at hr (by omega)))
theorem row_head {j : Int} {uj : Tok} (hr : RowOk row) (hi : i < 5) (hj : j = (i : Int)) (F : Fr h₀ L s.heap m) (N : News h₀ L s.heap news) (h : ∀ h' t' k, Fr h₀ L h' m → News h₀ L h' news → Q (.str (tx (row.take i)) t') { s with heap := h', toks := k })
    (hs : subscripted slice false (.str (tx row) t) (.ref s.heap.objs.size) = operate [.ref s.heap.objs.size, .str (tx row) t] (getItem (.str (tx row) t) (.ref s.heap.objs.size)) := by with_unfolding_all rfl)
    (ht : ∀ r, letTemporaryGo value (.str (tx row) t) r = pure () := by intro _; with_unfolding_all rfl) :
    wpAny (model prog w) A (subscriptTail value slice (.str (tx row) t) (.ref s.heap.objs.size)) Q E { s with heap := s.heap.push { cls := .type "slice", data := .fields #[.none, .int j uj, .none] } } := by
  subst hj
  have hl : (tx row).length = 6 := hr.1
  refine slice_strN_ns F N (fun h' t' k F' N' => ?_) hs ht (by rw [sizeLine_eq]; omega)
  rw [(row_facts hr hi).2.2.1]
  exact h h' t' k F' N'
theorem row_tail {j : Int} {uj : Tok} (hr : RowOk row) (hi : i < 5) (hj : j = (i : Int) + 2) (F : Fr h₀ L s.heap m) (N : News h₀ L s.heap news) (h : ∀ h' t' k, Fr h₀ L h' m → News h₀ L h' news → Lets (tx (row.drop (i + 2))) → Q (.str (tx (row.drop (i + 2))) t') { s with heap := h', toks := k })
    (hs : subscripted slice false (.str (tx row) t) (.ref s.heap.objs.size) = operate [.ref s.heap.objs.size, .str (tx row) t] (getItem (.str (tx row) t) (.ref s.heap.objs.size)) := by with_unfolding_all rfl)
    (ht : ∀ r, letTemporaryGo value (.str (tx row) t) r = pure () := by intro _; with_unfolding_all rfl) :
    wpAny (model prog w) A (subscriptTail value slice (.str (tx row) t) (.ref s.heap.objs.size)) Q E { s with heap := s.heap.push { cls := .type "slice", data := .fields #[.int j uj, .none, .none] } } := by
  subst hj
  have hl : (tx row).length = 6 := hr.1
  refine slice_strN_sn F N (fun h' t' k F' N' => ?_) hs ht (by rw [sizeLine_eq]; omega)
  rw [(row_facts hr hi).2.2.2]
  exact h h' t' k F' N' (lets_drop hr _)
end
end Mine
end

/- C9 -/
section
local macro_rules | `(tactic| walk_at "idle") => `(tactic| skip)
local macro_rules | `(tactic| walk_at "idle") => `(tactic| skip)
local macro_rules | `(tactic| walk_at "idle") => `(tactic| skip)
local macro_rules | `(tactic| walk_at "idle") => `(tactic| skip)
local macro_rules | `(tactic| walk_at "idle") => `(tactic| skip)
local macro_rules | `(tactic| walk_at "idle") => `(tactic| skip)
local macro_rules | `(tactic| walk_at "idle") => `(tactic| skip)
local macro_rules | `(tactic| walk_at "idle") => `(tactic| skip)
local macro_rules | `(tactic| walk_at "idle") => `(tactic| skip)
local macro_rules | `(tactic| walk_at "idle") => `(tactic| skip)
local macro_rules | `(tactic| walk_at "idle") => `(tactic| skip)
local macro_rules | `(tactic| walk_at "idle") => `(tactic| skip)
local macro_rules | `(tactic| walk_at "idle") => `(tactic| skip)
local macro_rules | `(tactic| walk_at "idle") => `(tactic| skip)
local macro_rules | `(tactic| walk_at "idle") => `(tactic| skip)
local macro_rules | `(tactic| walk_at "idle") => `(tactic| skip)
local macro_rules | `(tactic| walk_at "idle") => `(tactic| skip)
local macro_rules | `(tactic| walk_at "idle") => `(tactic| skip)
local macro_rules | `(tactic| walk_at "idle") => `(tactic| skip)
local macro_rules | `(tactic| walk_at "idle") => `(tactic| skip)
local macro_rules | `(tactic| walk_at "idle") => `(tactic| skip)
local macro_rules | `(tactic| walk_at "idle") => `(tactic| skip)
local macro_rules | `(tactic| walk_at "idle") => `(tactic| skip)
local macro_rules | `(tactic| walk_at "idle") => `(tactic| skip)
local macro_rules | `(tactic| walk_at "idle") => `(tactic| skip)
local macro_rules | `(tactic| walk_at "idle") => `(tactic| skip)
local macro_rules | `(tactic| walk_at "idle") => `(tactic| skip)
local macro_rules | `(tactic| walk_at "idle") => `(tactic| skip)
local macro_rules | `(tactic| walk_at "idle") => `(tactic| skip)
local macro_rules | `(tactic| walk_at "idle") => `(tactic| skip)
local macro_rules | `(tactic| walk_at "idle") => `(tactic| skip)
local macro_rules | `(tactic| walk_at "idle") => `(tactic| skip)
local macro_rules | `(tactic| walk_at "idle") => `(tactic| skip)
local macro_rules | `(tactic| walk_at "idle") => `(tactic| skip)
local macro_rules | `(tactic| walk_at "idle") => `(tactic| skip)
local macro_rules | `(tactic| walk_at "idle") => `(tactic| skip)
local macro_rules | `(tactic| walk_at "idle") => `(tactic| skip)
local macro_rules | `(tactic| walk_at "idle") => `(tactic| skip)
local macro_rules | `(tactic| walk_at "idle") => `(tactic| skip)
local macro_rules | `(tactic| walk_at "idle") => `(tactic| skip)
local macro_rules | `(tactic| walk_at "idle") => `(tactic| skip)
local macro_rules | `(tactic| walk_at "idle") => `(tactic| skip)
open PySem PySem.W PyProof.Rows PySem.Calls
set_option Elab.async false
set_option maxRecDepth 100000
set_option maxHeartbeats 8000000
set_option linter.unusedVariables false
namespace Mine
theorem fr_put {h₀ h : Heap} {L : Addr} {m : Str → Option Value} {n : Str} {v : Value} (e : m n = some v) (F : Fr h₀ L h m) : Fr h₀ L h (fun y => if y = n then some v else m y) := by
  have : (fun y => if y = n then some v else m y) = m := by
    funext y
    by_cases q : y = n
    · subst q; rw [if_pos rfl, e]
    · rw [if_neg q]
  rw [this]; exact F
section
variable {prog : Program} {w : World} {A : Around} {E : Value → Shared → Prop} {s : Shared}
theorem len_rows {l : Addr} {vs : List Value} {rs : List (List Nat)} {Q : Value → Shared → Prop} (hs : StrsAre vs (rs.map tx)) (hl : s.heap.IsList l vs.toArray) (hb : rs.length ≤ 100)
    (h : Q (.int rs.length (s.toks + 1)) { s with toks := s.toks + 1 + 1 }) : wpAny (model prog w) A (call (.builtin "len") [.ref l]) Q E s := by
  have e : vs.length = rs.length := by rw [hs.length, List.length_map]
  refine len_list hl (by simp [e]; omega) ?_
  rw [List.size_toArray, e]; exact h
theorem item_rows {value slice : Expr} {l : Addr} {vs : List Value} {rs : List (List Nat)} {k : Int} {n : Nat} {u : Tok} {Q : Value → Shared → Prop} (hs : StrsAre vs (rs.map tx)) (hl : s.heap.IsList l vs.toArray) (hk : k = n) (hn : n < rs.length) (hb : rs.length ≤ 100)
    (h : ∀ t, Q (.str (tx (rs.getD n [])) t) s)
    (hs' : subscripted slice false (.ref l) (.int k u) = operate [.ref l, .int k u] (getItem (.ref l) (.int k u)) := by with_unfolding_all rfl) (hg : ∀ r, letTemporaryGo value (.ref l) r = pure () := by intro _; with_unfolding_all rfl) :
    wpAny (model prog w) A (subscriptTail value slice (.ref l) (.int k u)) Q E s := by
  subst hk
  refine item_strsA hl hs (by omega) (by rw [List.length_map]; omega) (by omega) (fun t => ?_) hs' hg
  have e : (rs.map tx).getD (n : Int).toNat Str.empty = tx (rs.getD n []) := by
    simp [List.getD, List.getElem?_eq_getElem hn]
  rw [e]; exact h t
end
def InJ (l : Addr) (row : List Nat) (tr : Tok) (n : Nat) (ta : Tok) (rs : List (List Nat)) (i : Nat) (m : Str → Option Value) (news : List (Addr × Obj)) : Prop :=
  ∃ (vs : List Value) (c : Nat), news = [(l, listOf vs.toArray c)] ∧ StrsAre vs ((turn row rs i).map tx) ∧ m (Str.ofString "rows") = some (.ref l) ∧ m (Str.ofString "row") = some (.str (tx row) tr) ∧ m (Str.ofString "at") = some (.int n ta)
def ReJ (start : List Nat) (l : Addr) (k : Nat) (m : Str → Option Value) (news : List (Addr × Obj)) : Prop :=
  ∃ (n : Nat) (vs : List Value) (c : Nat) (rs : List (List Nat)) (ta : Tok), news = [(l, listOf vs.toArray c)] ∧ StrsAre vs (rs.map tx) ∧ m (Str.ofString "rows") = some (.ref l) ∧ m (Str.ofString "at") = some (.int n ta) ∧
    k = 70 - n ∧ n ≤ 64 ∧ rs.length ≤ 68 ∧ (∀ r ∈ rs, RowOk r) ∧ reach 70 0 [start] = reach (70 - n) n rs
theorem emAny (w : World) (b : Nat) (got : Str) (t1 t2 : Tok) (hb : isLet b = true) (hg : Lets got) :
    Ct w 73 [.str (Str.ofString "..." ++ low (sg b) ++ Str.ofString "...") t1, .str got t2] [] 2 16 [] [] (fun r h h' => r = .bool (has got (lo1 b))) := by
  have ea : Str.ofString "..." ++ low (sg 97) ++ Str.ofString "..." = Str.ofString "...a..." := by decide +kernel
  have eb : Str.ofString "..." ++ low (sg 98) ++ Str.ofString "..." = Str.ofString "...b..." := by decide +kernel
  have ec : Str.ofString "..." ++ low (sg 99) ++ Str.ofString "..." = Str.ofString "...c..." := by decide +kernel
  have ea' : Str.ofString "..." ++ low (sg 65) ++ Str.ofString "..." = Str.ofString "...a..." := by decide +kernel
  have eb' : Str.ofString "..." ++ low (sg 66) ++ Str.ofString "..." = Str.ofString "...b..." := by decide +kernel
  have ec' : Str.ofString "..." ++ low (sg 67) ++ Str.ofString "..." = Str.ofString "...c..." := by decide +kernel
  rcases isLet_cases hb with rfl | rfl | rfl | rfl | rfl | rfl
  · rw [ea']; exact ema w got t1 t2 hg
  · rw [eb']; exact emb w got t1 t2 hg
  · rw [ec']; exact emc w got t1 t2 hg
  · rw [ea]; exact ema w got t1 t2 hg
  · rw [eb]; exact emb w got t1 t2 hg
  · rw [ec]; exact emc w got t1 t2 hg
theorem low_ne (a b : Nat) : (low (sg a) != low (sg b)) = (lo1 a != lo1 b) := by
  have e : (low (sg a) == low (sg b)) = (lo1 a == lo1 b) := by
    rw [Bool.eq_iff_iff, beq_iff_eq, beq_iff_eq]
    simp [low]
  simp only [bne, e]
theorem has_low (l : List Nat) (c : Nat) : has (low (tx l)) c = decide (c ∈ l.map lo1) := by simp [has, low]
theorem tx_beq (a b : List Nat) : (tx a == tx b) = (a == b) := by
  rw [Bool.eq_iff_iff, beq_iff_eq, beq_iff_eq]
  simp
theorem any_tx (rs : List (List Nat)) (q : List Nat) : ((rs.map tx).any fun x => x == tx q) = rs.any (· == q) := by
  rw [List.any_map]
  congr 1
  funext x
  exact tx_beq x q
theorem swp_tx (row : List Nat) (i : Nat) : tx (row.take i) ++ sg (row.getD (i + 1) 0) ++ sg (row.getD i 0) ++ tx (row.drop (i + 2)) = tx (swp row i) := by
  have ext : ∀ {a b : Str}, a.cps.toList = b.cps.toList → a = b := fun {a b} h => by
    obtain ⟨⟨a⟩⟩ := a
    obtain ⟨⟨b⟩⟩ := b
    have : a = b := h
    rw [this]
  apply ext
  simp [str_app_list, swp]
theorem turn_same {row : List Nat} {rs : List (List Nat)} {i : Nat} (h : (low (sg (row.getD i 0)) != low (sg (row.getD (i + 1) 0))) = false ∨ has (low (tx (row.drop (i + 2)))) (lo1 (row.getD (i + 1) 0)) = false ∨
    (((turn row rs i).map tx).any fun x => x == tx (row.take i) ++ sg (row.getD (i + 1) 0) ++ sg (row.getD i 0) ++ tx (row.drop (i + 2))) = true) : turn row rs (i + 1) = turn row rs i := by
  rw [swp_tx, any_tx, low_ne, has_low] at h
  rw [turn_succ, turn1, if_neg]
  simp only [tog, Bool.and_eq_true, Bool.not_eq_true', not_and, Bool.not_eq_false]
  rcases h with h | h | h
  · intro h1; rw [h] at h1; simp at h1
  · intro h1; rw [h] at h1; simp at h1
  · intro _; exact h
theorem turn_add {row : List Nat} {rs : List (List Nat)} {i : Nat} (h1 : (low (sg (row.getD i 0)) != low (sg (row.getD (i + 1) 0))) = true) (h2 : has (low (tx (row.drop (i + 2)))) (lo1 (row.getD (i + 1) 0)) = true)
    (h3 : (((turn row rs i).map tx).any fun x => x == tx (row.take i) ++ sg (row.getD (i + 1) 0) ++ sg (row.getD i 0) ++ tx (row.drop (i + 2))) = false) : turn row rs (i + 1) = turn row rs i ++ [swp row i] := by
  rw [swp_tx, any_tx] at h3
  rw [low_ne] at h1
  rw [has_low] at h2
  rw [turn_succ, turn1, if_pos]
  simp only [tog, Bool.and_eq_true, Bool.not_eq_true']
  exact ⟨⟨h1, h2⟩, h3⟩
theorem strs_snoc {vs : List Value} {ys : List Str} (h : StrsAre vs ys) (y : Str) (t : Tok) : StrsAre (vs ++ [.str y t]) (ys ++ [y]) := by
  induction h with
  | nil => exact .cons _ _ .nil
  | cons z u _ ih => exact .cons _ _ ih
theorem news_app {g h h9 : Heap} {L D I l : Addr} {oD oI : Obj} {vs : List Value} {c : Nat} {v : Value} (N9 : News g L h ((D, oD) :: (I, oI) :: [(l, listOf vs.toArray c)])) (off : ∀ p ∈ [(l, listOf vs.toArray c)], p.1 ≠ I)
    (hl : h9.get? l = some (listOf (vs.toArray.push v) (c + 1))) (N' : ∀ q ∈ (D, oD) :: (I, oI) :: [(l, listOf vs.toArray c)], q.1 ≠ l → h9.get? q.1 = some q.2 ∧ q.1 ≠ L ∧ g.get? q.1 = none) :
    News g L h9 ((I, oI) :: [(l, listOf (vs ++ [v]).toArray (c + 1))]) ∧ ∀ p ∈ [(l, listOf (vs ++ [v]).toArray (c + 1))], p.1 ≠ I := by
  have hI := off _ (.head _)
  refine ⟨fun q hq => ?_, fun p hp => by rw [List.mem_singleton.mp hp]; exact hI⟩
  rcases List.mem_cons.mp hq with rfl | hq
  · exact N' _ (.tail _ (.head _)) fun e => hI e.symm
  · rw [List.mem_singleton.mp hq]
    refine ⟨?_, (N9 _ (.tail _ (.tail _ (.head _)))).2⟩
    rw [hl]; simp
theorem dots_size : (Str.ofString "...").cps.size = 3 := by decide +kernel
theorem low_size (v : Str) : (low v).cps.size = v.cps.size := by simp [low]
local macro_rules | `(tactic| k_room) => `(tactic| ktr_room)
local macro_rules | `(tactic| walk_at "my enter") => `(tactic| (refine wpAny_call ?_; k_dflt (refine' enter (by assumption) (by assumption) (by assumption) ?k6 ?k7 ?k8 ?k9 ?kL ?_ ?c2 ?c3 ?c4 ?c5; (case k6 => k_is); (case k7 => k_is); (case k8 => omega); (case k9 => first | exact BindsTo.of_eq rfl | exact binds_K (Frag.In.keeps (Bs.X (by assumption)) (Below.stays (by assumption))) rfl (by k_is) rfl rfl rfl); (case kL => exact locs rfl); (case c2 => exact rfl); (case c3 => exact rfl); (case c4 => exact rfl); (case c5 => decide); k_whole)))
local macro_rules | `(tactic| walk_at "exec While BoolOp cons nil") => `(tactic| refine Stop.out ?_)
local macro_rules | `(tactic| walk_at "exec For Name Call cons nil") => `(tactic| refine Stop.out ?_)
local macro_rules | `(tactic| walk_at "subscriptTail Name Name str int") => `(tactic| (refine item_row0 (by assumption) (by assumption) ?_; intro _))
local macro_rules | `(tactic| walk_at "subscriptTail Name BinOp str int") => `(tactic| (refine item_row1 (by assumption) (by assumption) ?_; intro _))
local macro_rules | `(tactic| walk_at "subscriptTail Name Slice str ref") => `(tactic| ((with_reducible rename Fr _ _ _ _ => F'); (with_reducible rename News _ _ _ _ => N'); first
  | (refine row_head (s := ⟨_, _, _, _, _⟩) (by assumption) (by assumption) rfl F' N' ?_; clear F' N'; intro _ _ _ _ _)
  | (refine row_tail (s := ⟨_, _, _, _, _⟩) (by assumption) (by assumption) rfl F' N' ?_; clear F' N'; intro _ _ _ _ _ _)))
local macro_rules | `(tactic| walk_at "call builtin:str.lower") => `(tactic| (refine lower_rule (by assumption) ?_; intro _ _ _))
local macro_rules | `(tactic| walk_at "binaryOp Add str str") => `(tactic| (refine PyProof.Rows.add_str ?_ (by simp only [sizeLine_eq, PySem.Str.length, str_app_size, dots_size, low_size, List.size_toArray, List.length_take, List.length_drop, List.length_cons, List.length_nil]; omega); intro _ _))
local macro_rules | `(tactic| walk_at "call builtin:list.append") => `(tactic| refine Stop.out ?_)
local macro_rules | `(tactic| walk_at "call ref") => `(tactic| ((with_reducible show wpAny _ _ (call (Value.ref 73) _ _) _ _ _); k_dflt (refine Ct.use0 (emAny _ _ _ _ _ (by assumption) (by assumption)) (by assumption) (by k_asm) (by k_asm) (by assumption) rfl rfl (by ktr_room) (by ktr_units) (fun _ h => nomatch h) ?_); intro v' h' tk' F' N' hk' hp'; subst hp'; (try dsimp only); (try k_fold)))
local macro_rules | `(tactic| walk_at "call ref") => `(tactic| ((with_reducible show wpAny _ _ (call (Value.ref 52) _ _) _ _ _); k_dflt (refine Ct.use0 (containsA _ _ _ _ _ _ _ (by assumption)) (by assumption) (by k_asm) (by k_asm) (by assumption) rfl rfl (by ktr_room) (by ktr_units) (fun q h => by rw [List.mem_singleton.mp h]; first | exact .head _ | exact .tail _ (.head _) | exact .tail _ (.tail _ (.head _)) | exact .tail _ (.tail _ (.tail _ (.head _)))) ?_); intro v' h' tk' F' N' hk' hp'; subst hp'; (try dsimp only); (try k_fold)))
local macro_rules | `(tactic| walk_at "pyIter ref") => `(tactic| refine Stop.out ?_)
local macro_rules | `(tactic| walk_at "call builtin:len") => `(tactic| refine len_rows (by assumption) (News.isList (by assumption) (.head _)) (by omega) ?_)
local macro_rules | `(tactic| walk_at "subscriptTail Name Name ref int") => `(tactic| (refine item_rows (by assumption) (News.isList (by assumption) (.head _)) rfl (by omega) (by omega) ?_; intro _))
theorem reachA (w : World) (v : Str) (tv : Tok) (hv : Lets v) (hl : v.length = 6) :
    Ct w 224 [.str v tv] [] 6 64 [] [] (fun r h h' => ∃ l vs c, r = .ref l ∧ StrsAre vs ((reach 70 0 [v.cps.toList]).map tx) ∧ h.get? l = none ∧ h'.get? l = some (listOf vs.toArray c) ∧ (reach 70 0 [v.cps.toList]).length ≤ 68 ∧ ∀ r ∈ reach 70 0 [v.cps.toList], RowOk r) := by
  intro mean mg mb dp un gd outer base s Q E B Y hd hu hm hret
  walk_at "my enter"
  intro g L' h' eg F N B' X T l1
  dsimp only
  k_fold
  k_steps
  refine ⟨?_⟩
  (with_reducible rename Fr g L' _ _ => F1)
  (with_reducible rename News g L' _ _ => N1)
  refine While_inv2 (ReJ v.cps.toList _) F1 (news_t1 N1) ⟨0, _, _, [v.cps.toList], _, rfl, .cons _ _ .nil, rfl, rfl, rfl, by omega, by show 1 ≤ 68; decide, ?_, rfl⟩ ?_
  · intro r hr
    rw [List.mem_singleton.mp hr]
    exact ⟨hl, hv.all⟩
  clear F1 N1
  rintro n m₁ news₁ h₁ tk₁ F1 N1 ⟨at', vs, c, rs, ta, rfl, hvs, hm1, hm2, rfl, hn64, hrs, hok, hre⟩
  replace F1 := fr_put (n := Str.ofString "rows") (by rw [if_neg (by decide +kernel), hm1]) (fr_put hm2 F1)
  k_steps
  · refine ⟨?_⟩
    (with_reducible rename Fr g L' _ _ => F2)
    (with_reducible rename News g L' _ _ => N2)
    have hrow : RowOk (rs.getD at' []) := hok _ (by rw [List.getD_eq_getElem?_getD, List.getElem?_eq_getElem (by omega)]; exact List.getElem_mem _)
    generalize hrw : rs.getD at' [] = row at F2 hrow
    have hlen : (tx row).length = 6 := hrow.1
    with_unfolding_all refine' For_invVF F2 ?k1 ?k2 ?_
    case k1 => exact rfl
    case k2 => exact rfl
    k_steps
    all_goals first | (exfalso; omega) | skip
    refine ⟨?_⟩
    (rename IsRange _ _ _ _ _ _ _ _ => R3)
    (with_reducible rename Fr g L' _ _ => F3)
    (with_reducible rename News g L' _ _ => N3)
    refine loop_range (n := 5) (InJ _ row _ at' ta rs) rfl R3 (by decide) (by decide) (by decide) (by decide) rfl F3 N3 ⟨vs, c, rfl, by rw [show turn row rs 0 = rs from rfl]; exact hvs, rfl, rfl, rfl⟩ ?_ ?_
    · clear F3 N3 R3
      rintro i t m₂ news₂ I oI h2 tk2 hi ⟨vs2, c2, rfl, hvs2, e1, e2, e3⟩ hI off F4 N4
      rw [Int.zero_add] at F4
      have hlr : row.length = 6 := hrow.1
      have hb1 : isLet (row.getD (i + 1) 0) = true := row_at hrow (by omega)
      replace F4 := fr_put (n := Str.ofString "at") (by rw [if_neg (by decide +kernel), e3]) F4
      replace F4 := fr_put (n := Str.ofString "row") (by rw [if_neg (by decide +kernel), if_neg (by decide +kernel), e2]) F4
      replace F4 := fr_put (n := Str.ofString "rows") (by rw [if_neg (by decide +kernel), if_neg (by decide +kernel), if_neg (by decide +kernel), e1]) F4
      k_steps
      all_goals first
        | ((with_reducible rename Fr g _ _ _ => F9); (with_reducible rename News g _ _ _ => N9); exact ⟨_, _, _, _, rfl, F9, news_t1 N9, off, vs2, c2, rfl, by
            rw [turn_same (by first | exact .inl (by assumption) | exact .inr (.inl (by assumption)) | exact .inr (.inr (by assumption)))]; exact hvs2, rfl, rfl, rfl⟩)
        | skip
      refine ⟨?_⟩
      (with_reducible rename Fr g _ _ _ => F9)
      (with_reducible rename News g _ _ _ => N9)
      refine append_led F9 N9 (.tail _ (.tail _ (.head _))) ?_ ?_
      · have q1 := hvs2.length
        have q2 := turn_len row rs i
        rw [List.length_map] at q1
        rw [List.size_toArray, sizeLine_eq]
        omega
      · intro h9 F8 hl9 N8
        obtain ⟨N7, off7⟩ := news_app N9 off hl9 N8
        clear F9 N9 N8
        k_steps
        (with_reducible rename Fr g _ _ _ => F9)
        (with_reducible rename News g _ _ _ => N9)
        exact ⟨_, _, _, _, rfl, F9, N9, off7, _, _, rfl, by
          rw [turn_add (by assumption) (by assumption) (by assumption), List.map_append, List.map_cons, List.map_nil, ← swp_tx]
          exact strs_snoc hvs2 _ _, rfl, rfl, rfl⟩
    · intro m₂ news₂ h2 tk2 hJ F4 N4
      obtain ⟨vs2, c2, rfl, hvs2, e1, e2, e3⟩ := hJ
      replace F4 := fr_put (n := Str.ofString "at") e3 F4
      replace F4 := fr_put (n := Str.ofString "rows") (by rw [if_neg (by decide +kernel), e1]) F4
      k_steps
      (with_reducible rename Fr g _ _ _ => F9)
      (with_reducible rename News g _ _ _ => N9)
      have q1 : rs.length < 64 := by omega
      have q2 : at' < rs.length := by omega
      have q3 := turn_len row rs 5
      exact ⟨_, _, _, _, 70 - (at' + 1), rfl, F9, N9, by omega, at' + 1, vs2, c2, turn row rs 5, _, rfl, hvs2, rfl, rfl, rfl, by omega, by omega, turn_ok hrow hok 5 (Nat.le_refl _), by rw [hre, reach_step q2 q1, hrw]⟩
  all_goals dsimp only
  all_goals try (k_unfold; dsimp only)
  all_goals
    (with_reducible rename Fr g _ _ _ => F9)
    (with_reducible rename News g _ _ _ => N9)
    have e9 : reach 70 0 [v.cps.toList] = rs := by rw [hre]; exact reach_stop (by omega)
    refine hret _ _ _ (keep_of eg F9) ⟨_, vs, c, rfl, ?_, ?_, (N9 _ (.head _)).1, ?_, ?_⟩
    · rw [e9]; exact hvs
    · exact fresh_of_hide eg (fun z => nomatch z) (N9 _ (.head _)).2.2
    · rw [e9]; exact hrs
    · rw [e9]; exact hok
end Mine
end

/- F8 -/
section
open PySem PySem.W PyProof.Rows PySem.Calls
set_option Elab.async false
set_option maxRecDepth 100000
set_option maxHeartbeats 8000000
namespace Mine
def WithL (x : Addr × Obj) (J : (Str → Option Value) → List (Addr × Obj) → Prop) (m : Str → Option Value) (n : List (Addr × Obj)) : Prop := ∃ n', n = x :: n' ∧ J m n'
section
variable {prog : Program} {w : World} {A : Around} {E : Value → Shared → Prop} {s : Shared} {env : Env} {h₀ : Heap} {x : Str} {body : List Stmt} {Q : Flow → Shared → Prop}
theorem loop_list {l : Addr} {vs : List Value} {c : Nat} {m₀ : Str → Option Value} {news₀ : List (Addr × Obj)} (J : Nat → (Str → Option Value) → List (Addr × Obj) → Prop)
    (hh : A.handled = none) (F : Fr h₀ env.locals s.heap m₀) (N : News h₀ env.locals s.heap ((l, listOf vs.toArray c) :: news₀)) (h0 : J 0 m₀ news₀)
    (turn : ∀ (i : Nat) v m₁ news₁ I oI h tk, vs[i]? = some v → J i m₁ news₁ → oI.cls = .type "list_iterator" → (∀ p ∈ (l, listOf vs.toArray c) :: news₁, p.1 ≠ I) → Fr h₀ env.locals h (fun y => if y = x then some v else m₁ y) → News h₀ env.locals h ((I, oI) :: (l, listOf vs.toArray c) :: news₁) →
      wpAny (model prog w) A (execs body env) (TurnS h₀ env.locals I oI (WithL (l, listOf vs.toArray c) (J (i + 1))) { s with heap := h, toks := tk } Q) E { s with heap := h, toks := tk })
    (done : ∀ m₁ news₁ h tk, J vs.length m₁ news₁ → Fr h₀ env.locals h m₁ → News h₀ env.locals h ((l, listOf vs.toArray c) :: news₁) → Q .next { s with heap := h, toks := tk }) :
    wpAny (model prog w) A (pyIter (.ref l)) (fun it s₂ => LoopAtV prog w A h₀ env x body Q E it s₂) E s := by
  have hl : s.heap.IsList l vs.toArray := News.isList N (.head _)
  refine wpAny_pyIter_list hl ?_
  have hnew : ∀ p ∈ (l, listOf vs.toArray c) :: news₀, p.1 ≠ s.heap.objs.size := fun p hp => Nat.ne_of_lt (Heap.lt_size (N p hp).1)
  have hL : env.locals ≠ s.heap.objs.size := Nat.ne_of_lt F.ns.lt
  have hI₀ : h₀.get? s.heap.objs.size = none := next_is_new F
  have hlI : l ≠ s.heap.objs.size := hnew _ (.head _)
  have hl0 : h₀.get? l = none := (N _ (.head _)).2.2
  have hlL : l ≠ env.locals := (N _ (.head _)).2.1
  refine ⟨s.heap.objs.size, [s.heap.objs.size, l], [s.heap.objs.size], vs.toArray.size, _, _, m₀, (l, listOf vs.toArray c) :: news₀, fun i m n => WithL (l, listOf vs.toArray c) (J i) m n, rfl, Walks.list hh _ l hlI vs.toArray, ?_, ?_, ?_, ?_, F.push _, (fun p hp => ⟨Heap.get?_push_of_some _ (N p hp).1, (N p hp).2⟩), ⟨_, rfl, h0⟩, ?_, ?_⟩
  · intro hm
    rcases List.mem_cons.mp hm with e | hm
    · exact hL e
    · exact hlL (List.mem_singleton.mp hm).symm
  · intro b hb
    rw [List.mem_singleton.mp hb]; exact hI₀
  · intro p hp hm
    exact hnew p hp (List.mem_singleton.mp hm)
  · exact ⟨⟨_, Heap.get?_push_size _ rfl, rfl, rfl⟩, hl.at fun o e => Heap.get?_push_of_some _ e⟩
  · rintro i v m₁ news₁' s₁ own ⟨h, tk, rfl⟩ hi hv ⟨news₁, rfl, hJ⟩ hoff hown hownAt hin ⟨⟨oI, hoI, hcI, _⟩, _⟩ F₁ N₁
    have hmem : (s.heap.objs.size, oI) ∈ own := hin _ (.head _) hI₀ oI hoI
    have off' : ∀ p ∈ (l, listOf vs.toArray c) :: news₁, p.1 ≠ s.heap.objs.size := fun p hp e => hoff p hp (e ▸ List.mem_singleton.mpr rfl)
    have hlo := (N₁ _ (List.mem_append_right own (.head _))).1
    have N' : News h₀ env.locals h ((s.heap.objs.size, oI) :: (l, listOf vs.toArray c) :: news₁) := fun p hp => by
      rcases List.mem_cons.mp hp with rfl | hp
      · exact N₁ _ (List.mem_append_left _ hmem)
      · exact N₁ _ (List.mem_append_right _ hp)
    refine wpAny_mono (turn i v m₁ news₁ _ oI h tk (by simpa using hv) hJ hcI off' F₁ N') (fun f s₂ hf => ?_) fun _ _ e => e
    have fin : (∃ h' tk' m' news', s₂ = { s with heap := h', toks := tk' } ∧ Fr h₀ env.locals h' m' ∧ News h₀ env.locals h' ((s.heap.objs.size, oI) :: news') ∧ (∀ p ∈ news', p.1 ≠ s.heap.objs.size) ∧ WithL (l, listOf vs.toArray c) (J (i + 1)) m' news') →
        LoopStepU h₀ env.locals [s.heap.objs.size] own (WithL (l, listOf vs.toArray c) (J (i + 1))) { s with heap := h, toks := tk } .next s₂ := by
      rintro ⟨h', tk', m', news', rfl, F', N2, off2, news2, rfl, hJ'⟩
      refine LoopStepU.intro F' (fun p hp => ?_) (fun p hp hm => off2 p hp (List.mem_singleton.mp hm)) ⟨_, rfl, hJ'⟩
      rcases List.mem_append.mp hp with hp | hp
      · have e2 := hownAt p hp
        rcases List.mem_cons.mp (hown p hp) with e1 | e1
        · rw [e1] at e2
          have e3 := Option.some.inj (e2.symm.trans hoI)
          obtain ⟨a, b⟩ := p
          cases e1; cases e3
          exact N2 _ (.head _)
        · have e1 := List.mem_singleton.mp e1
          rw [e1] at e2
          have e3 := Option.some.inj (e2.symm.trans hlo)
          obtain ⟨a, b⟩ := p
          cases e1; cases e3
          exact N2 _ (.tail _ (.head _))
      · exact N2 _ (.tail _ hp)
    cases f with
    | ret v => exact .ret hf
    | brk => exact .brk hf
    | next => exact .next (fin hf)
    | cont => exact .cont (fin hf)
  · rintro h' tk m' news' F' N' _ ⟨n', rfl, hJ⟩
    exact done m' n' h' tk (by simpa using hJ) F' N'
end
end Mine
end

/- C10 -/
section
local macro_rules | `(tactic| walk_at "idle") => `(tactic| skip)
local macro_rules | `(tactic| walk_at "idle") => `(tactic| skip)
local macro_rules | `(tactic| walk_at "idle") => `(tactic| skip)
local macro_rules | `(tactic| walk_at "idle") => `(tactic| skip)
local macro_rules | `(tactic| walk_at "idle") => `(tactic| skip)
local macro_rules | `(tactic| walk_at "idle") => `(tactic| skip)
local macro_rules | `(tactic| walk_at "idle") => `(tactic| skip)
local macro_rules | `(tactic| walk_at "idle") => `(tactic| skip)
local macro_rules | `(tactic| walk_at "idle") => `(tactic| skip)
local macro_rules | `(tactic| walk_at "idle") => `(tactic| skip)
local macro_rules | `(tactic| walk_at "idle") => `(tactic| skip)
local macro_rules | `(tactic| walk_at "idle") => `(tactic| skip)
local macro_rules | `(tactic| walk_at "idle") => `(tactic| skip)
local macro_rules | `(tactic| walk_at "idle") => `(tactic| skip)
local macro_rules | `(tactic| walk_at "idle") => `(tactic| skip)
local macro_rules | `(tactic| walk_at "idle") => `(tactic| skip)
local macro_rules | `(tactic| walk_at "idle") => `(tactic| skip)
local macro_rules | `(tactic| walk_at "idle") => `(tactic| skip)
local macro_rules | `(tactic| walk_at "idle") => `(tactic| skip)
local macro_rules | `(tactic| walk_at "idle") => `(tactic| skip)
local macro_rules | `(tactic| walk_at "idle") => `(tactic| skip)
local macro_rules | `(tactic| walk_at "idle") => `(tactic| skip)
local macro_rules | `(tactic| walk_at "idle") => `(tactic| skip)
local macro_rules | `(tactic| walk_at "idle") => `(tactic| skip)
local macro_rules | `(tactic| walk_at "idle") => `(tactic| skip)
local macro_rules | `(tactic| walk_at "idle") => `(tactic| skip)
local macro_rules | `(tactic| walk_at "idle") => `(tactic| skip)
local macro_rules | `(tactic| walk_at "idle") => `(tactic| skip)
local macro_rules | `(tactic| walk_at "idle") => `(tactic| skip)
local macro_rules | `(tactic| walk_at "idle") => `(tactic| skip)
local macro_rules | `(tactic| walk_at "idle") => `(tactic| skip)
local macro_rules | `(tactic| walk_at "idle") => `(tactic| skip)
local macro_rules | `(tactic| walk_at "idle") => `(tactic| skip)
local macro_rules | `(tactic| walk_at "idle") => `(tactic| skip)
local macro_rules | `(tactic| walk_at "idle") => `(tactic| skip)
local macro_rules | `(tactic| walk_at "idle") => `(tactic| skip)
local macro_rules | `(tactic| walk_at "idle") => `(tactic| skip)
local macro_rules | `(tactic| walk_at "idle") => `(tactic| skip)
local macro_rules | `(tactic| walk_at "idle") => `(tactic| skip)
local macro_rules | `(tactic| walk_at "idle") => `(tactic| skip)
local macro_rules | `(tactic| walk_at "idle") => `(tactic| skip)
local macro_rules | `(tactic| walk_at "idle") => `(tactic| skip)
local macro_rules | `(tactic| walk_at "idle") => `(tactic| skip)
local macro_rules | `(tactic| walk_at "idle") => `(tactic| skip)
local macro_rules | `(tactic| walk_at "idle") => `(tactic| skip)
local macro_rules | `(tactic| walk_at "idle") => `(tactic| skip)
local macro_rules | `(tactic| walk_at "idle") => `(tactic| skip)
local macro_rules | `(tactic| walk_at "idle") => `(tactic| skip)
local macro_rules | `(tactic| walk_at "idle") => `(tactic| skip)
local macro_rules | `(tactic| walk_at "idle") => `(tactic| skip)
local macro_rules | `(tactic| walk_at "idle") => `(tactic| skip)
local macro_rules | `(tactic| walk_at "idle") => `(tactic| skip)
local macro_rules | `(tactic| walk_at "idle") => `(tactic| skip)
local macro_rules | `(tactic| walk_at "idle") => `(tactic| skip)
local macro_rules | `(tactic| walk_at "idle") => `(tactic| skip)
local macro_rules | `(tactic| walk_at "idle") => `(tactic| skip)
local macro_rules | `(tactic| walk_at "idle") => `(tactic| skip)
open PySem PySem.W PyProof.Rows PySem.Calls
set_option Elab.async false
set_option maxRecDepth 100000
set_option maxHeartbeats 8000000
set_option linter.unusedVariables false
namespace Mine
theorem fr_put' {h₀ h : Heap} {L : Addr} {m : Str → Option Value} {n : Str} {v : Value} (e : m n = some v) (F : Fr h₀ L h m) : Fr h₀ L h (fun y => if y = n then some v else m y) := by
  have : (fun y => if y = n then some v else m y) = m := by
    funext y
    by_cases q : y = n
    · subst q; rw [if_pos rfl, e]
    · rw [if_neg q]
  rw [this]; exact F
def inw (t z : Int) : Nat → Int → Int
  | 0, w => w
  | j + 1, w => Int.fdiv (inw t z j w * (t - z + (1 + (j : Int)))) (1 + (j : Int))
def cntS (p : Int × Int) (z : Int) : Int × Int := (p.1 + z, inw (p.1 + z) z (z - 1).toNat p.2)
def cntI (zs : List Int) : Int × Int := zs.foldl cntS (0, 1)
theorem cntI_snoc (zs : List Int) (z : Int) : cntI (zs ++ [z]) = cntS (cntI zs) z := by simp [cntI, List.foldl_append]
theorem cnt_total (zs : List Int) : (∀ z ∈ zs, 1 ≤ z ∧ z ≤ 64) → ∀ p : Int × Int, p.1 ≤ (zs.foldl cntS p).1 ∧ (zs.foldl cntS p).1 ≤ p.1 + 64 * zs.length := by
  induction zs with
  | nil => intro _ p; simp
  | cons z zs ih =>
    intro h p
    have h1 := h z (.head _)
    have h2 := ih (fun y hy => h y (.tail _ hy)) (cntS p z)
    have e : (cntS p z).1 = p.1 + z := rfl
    simp only [List.foldl_cons, List.length_cons]
    omega
def CnO (zs : List Int) (i : Nat) (m : Str → Option Value) (news : List (Addr × Obj)) : Prop :=
  news = [] ∧ ∃ t u, m (Str.ofString "total") = some (.int (cntI (zs.take i)).1 t) ∧ m (Str.ofString "ways") = some (.int (cntI (zs.take i)).2 u)
def CnI (x : Addr × Obj) (y : Addr × Obj) (t z w : Int) (tt tz : Tok) (j : Nat) (m : Str → Option Value) (news : List (Addr × Obj)) : Prop :=
  news = [x, y] ∧ ∃ u, m (Str.ofString "total") = some (.int t tt) ∧ m (Str.ofString "size") = some (.int z tz) ∧ m (Str.ofString "ways") = some (.int (inw t z j w) u)
local macro_rules | `(tactic| k_room) => `(tactic| ktr_room)
local macro_rules | `(tactic| walk_at "my enter") => `(tactic| (refine wpAny_call ?_; k_dflt (refine' enter (by assumption) (by assumption) (by assumption) ?k6 ?k7 ?k8 ?k9 ?kL ?_ ?c2 ?c3 ?c4 ?c5; (case k6 => k_is); (case k7 => k_is); (case k8 => omega); (case k9 => first | exact BindsTo.of_eq rfl | exact binds_K (Frag.In.keeps (Bs.X (by assumption)) (Below.stays (by assumption))) rfl (by k_is) rfl rfl rfl); (case kL => exact locs rfl); (case c2 => exact rfl); (case c3 => exact rfl); (case c4 => exact rfl); (case c5 => decide); k_whole)))
local macro_rules | `(tactic| walk_at "exec For Name Name cons nil") => `(tactic| refine Stop.out ?_)
local macro_rules | `(tactic| walk_at "exec For Name Call cons nil") => `(tactic| refine Stop.out ?_)
local macro_rules | `(tactic| walk_at "binaryOp Mult int int") => `(tactic| refine PyProof.Rows.mul_int ?_ (PySem.IntMulOk.of_right (PySem.intBits_le_64 (by omega) (by omega))))
local macro_rules | `(tactic| walk_at "pyIter ref") => `(tactic| refine Stop.out ?_)
theorem countA (w : World) (l : Addr) (vs : List Value) (zs : List Int) (c : Nat) (hz : IntsAre vs zs) (h1 : ∀ z ∈ zs, 1 ≤ z ∧ z ≤ 64) (h3 : zs.length ≤ 64) :
    Ct w 231 [.ref l] [] 3 32 [(l, listOf vs.toArray c)] [] (fun r h h' => ∃ t, r = .int (cntI zs).2 t) := by
  intro mean mg mb dp un gd outer base s Q E B Y hd hu hm hret
  walk_at "my enter"
  intro g L' h' eg F N B' X T l1
  dsimp only
  k_fold
  k_steps
  refine ⟨?_⟩
  (with_reducible rename Fr g L' _ _ => F2)
  (with_reducible rename News g L' _ _ => N2)
  with_unfolding_all refine' For_invVF F2 ?k1 ?k2 ?_
  case k1 => exact rfl
  case k2 => exact rfl
  k_steps
  refine ⟨?_⟩
  (with_reducible rename Fr g L' _ _ => F3)
  (with_reducible rename News g L' _ _ => N3)
  refine loop_list (CnO zs) rfl F3 (fun q hq => N3 q (by rw [List.mem_singleton.mp hq]; first | exact .head _ | exact .tail _ (.head _))) ⟨rfl, _, _, rfl, rfl⟩ ?_ ?_
  · clear F3 N3
    rintro i v m₁ news₁ I oI h2 tk2 hv ⟨rfl, t, u, e1, e2⟩ hI off F4 N4
    obtain ⟨z, tz, rfl, hzi⟩ := hz.at i v hv
    replace F4 := fr_put' (n := Str.ofString "ways") (by rw [if_neg (by decide +kernel), e2]) F4
    replace F4 := fr_put' (n := Str.ofString "total") (by rw [if_neg (by decide +kernel), if_neg (by decide +kernel), e1]) F4
    have hT := cnt_total (zs.take i) (fun z hz => h1 z (List.mem_of_mem_take hz)) (0, 1)
    rw [show (zs.take i).foldl cntS (0, 1) = cntI (zs.take i) from rfl] at hT
    have hT2 : (zs.take i).length ≤ zs.length := by rw [List.length_take]; omega
    have hzl : cntI (zs.take (i + 1)) = cntS (cntI (zs.take i)) z := by rw [List.take_add_one, hzi]; exact cntI_snoc _ _
    generalize hp : cntI (zs.take i) = p at F4 hT hzl
    generalize (zs.take i).length = zl at hT hT2
    dsimp only at hT
    k_steps
    refine ⟨?_⟩
    (with_reducible rename Fr g L' _ _ => F5)
    (with_reducible rename News g L' _ _ => N5)
    have hb := h1 z (List.mem_of_getElem? hzi)
    with_unfolding_all refine' For_invVF F5 ?k1 ?k2 ?_
    case k1 => exact rfl
    case k2 => exact rfl
    clear hb
    k_steps
    refine ⟨?_⟩
    (rename IsRange _ _ _ _ _ _ _ _ => R6)
    (with_reducible rename Fr g L' _ _ => F6)
    (with_reducible rename News g L' _ _ => N6)
    have hb := h1 z (List.mem_of_getElem? hzi)
    refine loop_range (n := (z - 1).toNat) (CnI (I, oI) (l, listOf vs.toArray c) (p.1 + z) z p.2 _ tz) rfl R6 (by decide) (by decide) (by omega) (by omega) rfl F6 N6 ⟨rfl, _, rfl, rfl, rfl⟩ ?_ ?_
    · clear F6 N6 R6
      rintro j t2 m₂ news₂ I2 oI2 h3 tk3 hj ⟨rfl, u2, e1, e2, e3⟩ hI2 off2 F7 N7
      replace F7 := fr_put' (n := Str.ofString "ways") (by rw [if_neg (by decide +kernel), e3]) F7
      replace F7 := fr_put' (n := Str.ofString "size") (by rw [if_neg (by decide +kernel), if_neg (by decide +kernel), e2]) F7
      replace F7 := fr_put' (n := Str.ofString "total") (by rw [if_neg (by decide +kernel), if_neg (by decide +kernel), if_neg (by decide +kernel), e1]) F7
      generalize hq : inw (p.1 + z) z j p.2 = q at F7
      k_steps
      (with_reducible rename Fr g _ _ _ => F9)
      (with_reducible rename News g _ _ _ => N9)
      have e9 : inw (p.1 + z) z (j + 1) p.2 = Int.fdiv (q * ((p.1 + z) - z + (1 + (j : Int)))) (1 + (j : Int)) := by rw [← hq]; rfl
      refine ⟨_, _, _, _, rfl, F9, N9, off2, rfl, ?_⟩
      rw [e9]
      exact ⟨_, rfl, rfl, rfl⟩
    · rintro m₂ news₂ h3 tk3 ⟨rfl, u2, e1, e2, e3⟩ F7 N7
      replace F7 := fr_put' (n := Str.ofString "ways") e3 F7
      replace F7 := fr_put' (n := Str.ofString "total") (by rw [if_neg (by decide +kernel), e1]) F7
      k_steps
      (with_reducible rename Fr g _ _ _ => F9)
      (with_reducible rename News g _ _ _ => N9)
      refine ⟨_, _, _, _, rfl, F9, N9, off, [], rfl, rfl, ?_⟩
      rw [hzl]
      exact ⟨_, _, rfl, rfl⟩
  · rintro m₁ news₁ h2 tk2 ⟨rfl, t, u, e1, e2⟩ F4 N4
    replace F4 := fr_put' (n := Str.ofString "ways") e2 F4
    k_steps
    try dsimp only
    try (k_unfold; dsimp only)
    (with_reducible rename Fr g _ _ _ => F9)
    (with_reducible rename News g _ _ _ => N9)
    have e9 : cntI (zs.take vs.length) = cntI zs := by rw [hz.length, List.take_length]
    rw [← e9] at hret
    exact hret _ _ _ (keep_all eg hm F9 N9) ⟨_, rfl⟩
end Mine
end

/- F9 -/
section
open PySem PySem.W PyProof.Rows
set_option Elab.async false
set_option maxRecDepth 100000
namespace Mine
theorem len_draw {prog : Program} {w : World} {A : Around} {E : Value → Shared → Prop} {s : Shared} {l : Addr} {vs : List Value} {f : Int → Int} {zs : List Int} {Q : Value → Shared → Prop} (hs : IntsAre vs ((zs.take 6).map f)) (hl : s.heap.IsList l vs.toArray)
    (h : ∀ n : Nat, n = ((zs.take 6).map f).length → n ≤ 6 → Q (.int n (s.toks + 1)) { s with toks := s.toks + 1 + 1 }) : wpAny (model prog w) A (call (.builtin "len") [.ref l]) Q E s := by
  have e : vs.length = ((zs.take 6).map f).length := hs.length
  have e2 : ((zs.take 6).map f).length ≤ 6 := by rw [List.length_map, List.length_take]; omega
  refine len_list hl (by rw [List.size_toArray]; omega) ?_
  rw [List.size_toArray, e]; exact h _ rfl e2
theorem ints_drop {vs : List Value} {ns : List Int} (h : IntsAre vs ns) : ∀ n, IntsAre (vs.drop n) (ns.drop n) := by
  induction h with
  | nil => intro n; simpa using .nil
  | cons z t h ih =>
    intro n
    cases n with
    | zero => exact .cons z t h
    | succ n => simpa using ih n
theorem pick_lits {vs : List Value} {ns : List Int} {nn : Nat} (hv : IntsAre vs ns) (hl : ns.length = 6) (h : nn ≤ 6) : IntsAre (slicePick vs.toArray (some (nn : Int)) none none).toList (ns.drop nn) := by
  have hvl : vs.length = 6 := by rw [hv.length, hl]
  have hb : sliceBounds (some (nn : Int)) none none vs.toArray.size = ((nn : Int), ((6 : Nat) : Int), 1) := by
    rw [List.size_toArray, hvl]
    have hcs : nn = 0 ∨ nn = 1 ∨ nn = 2 ∨ nn = 3 ∨ nn = 4 ∨ nn = 5 ∨ nn = 6 := by omega
    rcases hcs with rfl | rfl | rfl | rfl | rfl | rfl | rfl <;> rfl
  rw [kmk_pick_nat _ hb]
  have e : ((vs.drop nn).take (6 - nn)) = vs.drop nn := List.take_of_length_le (by simp [hvl])
  simp only [e]
  exact ints_drop hv nn
end Mine
end

/- F10 -/
section
open PySem PySem.W PyProof.Rows PySem.Calls
set_option Elab.async false
set_option maxRecDepth 100000
set_option maxHeartbeats 8000000
namespace Mine
section
variable {prog : Program} {w : World} {A : Around} {s : Shared} {h₀ : Heap} {L : Addr} {m : Str → Option Value} {env : Env} {elt : PySem.Expr} {x : Str} {scope : Scope} {cl : List (Str × Addr)}
  {S : List (Addr × Obj) → Prop} {P : Nat → Value → Prop} {Fin : List Value → List (Addr × Obj) → Prop} {news : List (Addr × Obj)}
/-- the turns of [elt for x in ints], elt a text g x that touches no heap -/
theorem restS (g : Int → Str)
    (ev : ∀ (z : Int) (t : Tok) (I : Addr) (oI : Obj) (C : Addr) (oC : Obj) (D : Addr) (ys : List Value) (m₂ : Str → Option Value) (h : Heap) (tk : Nat) (Q : Value → Shared → Prop) (E' : Value → Shared → Prop), LCg.NsObj oC m₂ → m₂ x = some (.int z t) → Fr h₀ L h m → News h₀ L h ((I, oI) :: (C, oC) :: (D, LCg.lst ys) :: news) →
      (∀ t' tk', Q (.str (g z) t') { s with heap := h, toks := tk' }) → wpAny (model prog w) A (eval elt (compEnvC scope cl C env)) Q E' { s with heap := h, toks := tk })
    (hS : S news) :
    ∀ (zs : List Int) (vs : List Value) (i : Nat) (ys : List Value), IntsAre vs zs → (∀ j v, P (i + j) v → j < zs.length → vs[j]? = some v) → (∀ us, StrsAre us (zs.map g) → Fin (ys ++ us) news) →
      LCg.CompRest prog w A h₀ L m env elt x scope cl s S P Fin zs.length i ys news
  | [], _, i, ys, _, _, fin => by
    refine LCg.CompRest.zero ?_
    simpa using fin [] .nil
  | z :: zs, _, i, ys, .cons _ t hv, hP, fin => by
    refine LCg.CompRest.succ ?_
    intro v I oI C oC D m₂ h tk E' hPv hC hx F N off ne
    have e : Value.int z t = v := by simpa using hP 0 v hPv (by simp)
    subst e
    refine ev z t I oI C oC D ys m₂ h tk _ _ hC hx F N fun t' tk' => ?_
    have ih := restS g ev hS zs _ (i + 1) (ys ++ [.str (g z) t']) hv
      (fun j v h1 h2 => by simpa using hP (j + 1) v (by rw [show i + (j + 1) = i + 1 + j from by omega]; exact h1) (by simpa using h2))
      (fun us hu => by
        have := fin (.str (g z) t' :: us) (.cons _ _ hu)
        simpa using this)
    exact LCg.CompEnd.intro F N news (fun _ h => h) off hS ih
theorem restS0 (g : Int → Str) {zs : List Int} {vs : List Value} {n : Nat} (hv : IntsAre vs zs) (hn : n = zs.length)
    (ev : ∀ (z : Int) (t : Tok) (I : Addr) (oI : Obj) (C : Addr) (oC : Obj) (D : Addr) (ys : List Value) (m₂ : Str → Option Value) (h : Heap) (tk : Nat) (Q : Value → Shared → Prop) (E' : Value → Shared → Prop), LCg.NsObj oC m₂ → m₂ x = some (.int z t) → Fr h₀ L h m → News h₀ L h ((I, oI) :: (C, oC) :: (D, LCg.lst ys) :: news) →
      (∀ t' tk', Q (.str (g z) t') { s with heap := h, toks := tk' }) → wpAny (model prog w) A (eval elt (compEnvC scope cl C env)) Q E' { s with heap := h, toks := tk })
    (hS : S news) (hP : ∀ j v, P j v → j < zs.length → vs[j]? = some v) (fin : ∀ us, StrsAre us (zs.map g) → Fin us news) :
    LCg.CompRest prog w A h₀ L m env elt x scope cl s S P Fin n 0 [] news := by
  subst hn
  exact restS g ev hS zs vs 0 [] hv (fun j v h1 h2 => hP j v (by simpa using h1) h2) (by simpa using fin)
end
end Mine
end

/- F11 -/
section
open PySem PySem.W PyProof.Rows PySem.Calls
set_option Elab.async false
namespace Mine
theorem strs_pairs {vs : List Value} {ys : List Str} (h : StrsAre vs ys) : ∃ l : List (Str × Tok), l.map (·.1) = ys ∧ strValues l = vs := by
  induction h with
  | nil => exact ⟨[], rfl, rfl⟩
  | cons y t _ ih =>
    obtain ⟨l, h1, h2⟩ := ih
    exact ⟨(y, t) :: l, by simp [h1], by simp [strValues] at h2 ⊢; exact h2⟩
theorem join_strs {prog : Program} {w : World} {A : Around} {E : Value → Shared → Prop} {s : Shared} {x : Str} {t : Tok} {D : Addr} {vs : List Value} {ys : List Str} {Q : Value → Shared → Prop} (hs : StrsAre vs ys) (hl : s.heap.IsList D vs.toArray) (hx : x.length ≤ 16) (hw : (ys.map (·.length)).sum + ys.length ≤ 1048576)
    (hq : ∀ t' k, Q (.str (Txt.join x ys) t') { s with toks := k }) : wpAny (model prog w) A (call (.builtin "str.join") [.str x t, .ref D]) Q E s := by
  obtain ⟨l, h1, h2⟩ := strs_pairs hs
  subst h2
  exact SC.join hl h1 (joinOk_of_weight hw hx) hq
theorem news_drop {h₀ h : Heap} {L : Addr} {l : List (Addr × Obj)} (n : Nat) (N : News h₀ L h l) : News h₀ L h (l.drop n) := fun q hq => N q (List.mem_of_mem_drop hq)
end Mine
end

/- F12 -/
section
open PySem PySem.W PyProof.Rows PySem.Calls
set_option Elab.async false
set_option linter.unusedVariables false
namespace Mine
theorem ones_sum (ns : List Int) : (ns.map fun _ => (1 : Nat)).sum = ns.length := by
  induction ns with
  | nil => rfl
  | cons a l ih => simp [ih]; omega
theorem join_txs (l : List (List Nat)) : Txt.join (Str.ofString "") (l.map tx) = tx l.flatten := by
  unfold Txt.join PySem.Builtin.Str.glued
  have e : (Str.ofString "").cps = #[] := by decide +kernel
  have g : ∀ (l : List (List Nat)) (a : List Nat), (l.map tx).foldl (fun acc p => acc ++ (Str.ofString "").cps ++ p.cps) a.toArray = (a ++ l.flatten).toArray := by
    intro l
    induction l with
    | nil => intro a; simp
    | cons b l ih =>
      intro a
      rw [List.map_cons, List.foldl_cons, e, Array.append_empty]
      show List.foldl _ (a.toArray ++ b.toArray) _ = _
      rw [List.append_toArray, ← e, ih]
      simp
  cases l with
  | nil => simp [Str.empty]
  | cons b l =>
    have := g l b
    simp only [List.map_cons, List.drop_succ_cons, List.drop_zero, List.headD_cons, List.flatten_cons]
    exact congrArg Str.mk this
/-- the letter of a number -/
def letr (z : Int) : Nat := [97, 65, 98, 66, 99, 67].getD (z.fmod 6).toNat 0
theorem item_letr (z : Int) : Txt.item (Str.ofString "aAbBcC") (z.fmod 6) = tx [letr z] ∧ isLet (letr z) = true := by
  have h1 := Int.fmod_nonneg_of_pos z (show (0:Int) < 6 by decide)
  have h2 := Int.fmod_lt_of_pos z (show (0:Int) < 6 by decide)
  unfold letr
  have : z.fmod 6 = 0 ∨ z.fmod 6 = 1 ∨ z.fmod 6 = 2 ∨ z.fmod 6 = 3 ∨ z.fmod 6 = 4 ∨ z.fmod 6 = 5 := by omega
  rcases this with e | e | e | e | e | e <;> rw [e] <;> exact ⟨by decide +kernel, by decide⟩
theorem word_facts (ns : List Int) (h : ns.length = 6) : ∃ ls, Txt.join (Str.ofString "") (ns.map fun z => Txt.item (Str.ofString "aAbBcC") (z.fmod 6)) = tx ls ∧ RowOk ls := by
  refine ⟨(ns.map fun z => [letr z]).flatten, ?_, ?_, ?_⟩
  · rw [← join_txs, List.map_map]
    congr 1
    exact List.map_congr_left fun z _ => (item_letr z).1
  · rw [List.length_flatten, List.map_map]; simp only [Function.comp_def, List.length_cons, List.length_nil, Nat.zero_add]; rw [ones_sum, h]
  · intro c hc
    rw [List.mem_flatten] at hc
    obtain ⟨l, hl, hc⟩ := hc
    obtain ⟨z, _, rfl⟩ := List.mem_map.mp hl
    rw [List.mem_singleton.mp hc]
    exact (item_letr z).2
theorem letters_len (ns : List Int) : (ns.map fun z => Txt.item (Str.ofString "aAbBcC") (z.fmod 6)).map (·.length) = ns.map fun _ => 1 := by
  rw [List.map_map]
  refine List.map_congr_left fun z _ => ?_
  simp only [Function.comp]
  rw [(item_letr z).1]; rfl
theorem lets_row {ls : List Nat} (h : RowOk ls) : Lets (tx ls) := ⟨by simp [h.1], fun c hc => h.2 c (by simpa using hc)⟩
theorem six_of {ns : List Int} {nn : Nat} {f : Int → Int} (h : nn = ((ns.take 6).map f).length) (h2 : nn ≤ 6) : ((ns.take 6).map f ++ ([2, 1, 2, 0, 3, 4] : List Int).drop nn).length = 6 := by
  rw [List.length_append, ← h, List.length_drop]
  simp; omega
end Mine
end

/- L1 -/
section
open PySem PySem.W PyProof.Rows PySem.Calls
set_option Elab.async false
set_option linter.unusedVariables false
namespace Mine
/-- the signs with which the letters come for the last time -/
def lastsP : List Nat → List Nat
  | [] => []
  | c :: r => (if (r.map lo1).contains (lo1 c) then [] else [c]) ++ lastsP r
/-- a letter's signs -/
def colP (w : List Nat) (c : Nat) : List Nat := w.filter fun o => lo1 o == lo1 c
theorem lastsP_snoc (w : List Nat) (c : Nat) : lastsP (w ++ [c]) = (lastsP w).filter (fun o => lo1 o != lo1 c) ++ [c] := by
  induction w with
  | nil => simp [lastsP]
  | cons d r ih =>
    rw [List.cons_append, lastsP, ih, lastsP, List.filter_append, ← List.append_assoc]
    congr 2
    by_cases h1 : (List.map lo1 r).contains (lo1 d) = true
    · have : (List.map lo1 (r ++ [c])).contains (lo1 d) = true := by
        simp only [List.contains_iff_mem, List.map_append, List.mem_append] at h1 ⊢
        exact .inl h1
      rw [if_pos this, if_pos h1]; rfl
    · by_cases h2 : lo1 d = lo1 c
      · have : (List.map lo1 (r ++ [c])).contains (lo1 d) = true := by
          simp [h2]
        rw [if_pos this, if_neg h1]
        simp [h2]
      · have : ¬ (List.map lo1 (r ++ [c])).contains (lo1 d) = true := by
          simp only [List.contains_iff_mem, List.map_append, List.mem_append, List.map_cons, List.map_nil, List.mem_singleton] at h1 ⊢
          rintro (h | h)
          · exact h1 h
          · exact h2 h
        rw [if_neg this, if_neg h1]
        simp [h2]
theorem colP_snoc (w : List Nat) (c d : Nat) : colP (w ++ [c]) d = colP w d ++ if lo1 c == lo1 d then [c] else [] := by
  simp only [colP, List.filter_append]
  congr 1
  by_cases h : (lo1 c == lo1 d) = true
  · rw [List.filter_cons, if_pos h, if_pos h]; rfl
  · rw [List.filter_cons, if_neg h, if_neg h]; rfl
theorem lastsP_mem {w : List Nat} {c : Nat} (h : c ∈ lastsP w) : c ∈ w := by
  induction w with
  | nil => simp [lastsP] at h
  | cons d r ih =>
    rw [lastsP] at h
    rcases List.mem_append.mp h with h | h
    · split at h
      · simp at h
      · rw [List.mem_singleton.mp h]; exact .head _
    · exact .tail _ (ih h)
theorem lastsP_low {w : List Nat} : ∀ {c : Nat}, c ∈ w → ∃ d ∈ lastsP w, lo1 d = lo1 c := by
  induction w with
  | nil => intro c h; exact nomatch h
  | cons d r ih =>
    intro c h
    have e : lastsP (d :: r) = (if (r.map lo1).contains (lo1 d) then [] else [d]) ++ lastsP r := rfl
    by_cases h1 : (List.map lo1 r).contains (lo1 d) = true
    · rw [e, if_pos h1, List.nil_append]
      rcases List.mem_cons.mp h with rfl | h
      · rw [List.contains_iff_mem] at h1
        obtain ⟨x, hx, e⟩ := List.mem_map.mp h1
        obtain ⟨d', hd, e'⟩ := ih hx
        exact ⟨d', hd, e'.trans e⟩
      · exact ih h
    · rw [e, if_neg h1]
      rcases List.mem_cons.mp h with rfl | h
      · exact ⟨c, .head _, rfl⟩
      · obtain ⟨d', hd, e'⟩ := ih h
        exact ⟨d', .tail _ hd, e'⟩
theorem low_sg_eq (c d : Nat) : (low (sg c) == low (sg d)) = (lo1 c == lo1 d) := by
  have e : ∀ c, low (sg c) = ⟨#[lo1 c]⟩ := fun c => by simp [low]
  rw [e, e]
  by_cases h : lo1 c = lo1 d
  · rw [h]; simp
  · rw [beq_eq_false_iff_ne.mpr h]
    exact beq_eq_false_iff_ne.mpr fun q => h (by simpa using congrArg (fun s : Str => s.cps.toList) q)
theorem colP_congr {w : List Nat} {c d : Nat} (h : lo1 c = lo1 d) : colP w c = colP w d := by simp only [colP, h]
theorem colP_nil {w : List Nat} {c : Nat} (h : ∀ x ∈ w, lo1 x ≠ lo1 c) : colP w c = [] := List.filter_eq_nil_iff.mpr fun x hx => by simpa using h x hx
/-- the table's names are the last signs, its values each letter's signs -/
def rowsOf (w : List Nat) : List (Str × Str) := (lastsP w).map fun l => (sg l, tx (colP w l))
theorem valP_rowsOf (w : List Nat) (c : Nat) : valP (rowsOf w) c = tx (colP w c) := by
  unfold valP rowsOf
  rw [List.find?_map]
  cases h : (lastsP w).find? ((fun e : Str × Str => low e.1 == low (sg c)) ∘ fun l => (sg l, tx (colP w l))) with
  | some l =>
    have := List.find?_some h
    simp only [Function.comp, low_sg_eq, beq_iff_eq] at this
    simp only [Option.map_some]
    rw [colP_congr this]
  | none =>
    simp only [Option.map_none]
    rw [colP_nil fun x hx e => ?_]
    · rfl
    · obtain ⟨d, hd, e'⟩ := lastsP_low hx
      have := (List.find?_eq_none.mp h) d hd
      simp only [Function.comp, low_sg_eq, beq_iff_eq] at this
      exact this (e'.trans e)
theorem tx_app (a b : List Nat) : tx a ++ tx b = tx (a ++ b) := PySem.Str.ext' (by rw [PySem.Str.cps_append]; simp)
theorem tabP_rowsOf (w : List Nat) : tabP w = rowsOf w := by
  suffices h : ∀ n (w : List Nat), w.length = n → tabP w = rowsOf w from h _ w rfl
  intro n
  induction n with
  | zero => intro w h; rw [List.length_eq_zero_iff.mp h]; rfl
  | succ n ih =>
    intro w h
    rcases List.eq_nil_or_concat w with rfl | ⟨v, c, rfl⟩
    · simp at h
    rw [List.concat_eq_append] at h ⊢
    rw [tabP_snoc, ih v (by simpa using h), stepP, valP_rowsOf]
    unfold rowsOf
    rw [lastsP_snoc, List.map_append, List.filter_map]
    congr 1
    · have e : ((fun e : Str × Str => low e.1 != low (sg c)) ∘ fun l => (sg l, tx (colP v l))) = fun o => lo1 o != lo1 c := by
        funext l
        simp only [Function.comp, bne, low_sg_eq]
      rw [e]
      refine List.map_congr_left fun l hl => ?_
      have := (List.mem_filter.mp hl).2
      rw [colP_snoc, if_neg (by simp only [bne_iff_ne, ne_eq] at this; simpa using fun q => this q.symm), List.append_nil]
    · simp only [List.map_cons, List.map_nil]
      rw [colP_snoc, if_pos (by simp)]
      show [(sg c, tx (colP v c) ++ tx [c])] = _
      rw [tx_app]
/-- the same table -/
structure Same (a b : List Nat) : Prop where
  lasts : lastsP a = lastsP b
  cols : ∀ c, colP a c = colP b c
theorem Same.refl (a : List Nat) : Same a a := ⟨rfl, fun _ => rfl⟩
theorem Same.trans {a b c : List Nat} (h : Same a b) (k : Same b c) : Same a c := ⟨h.lasts.trans k.lasts, fun x => (h.cols x).trans (k.cols x)⟩
theorem Same.symm {a b : List Nat} (h : Same a b) : Same b a := ⟨h.lasts.symm, fun x => (h.cols x).symm⟩
theorem Same.tab {a b : List Nat} (h : Same a b) : tabP a = tabP b := by
  rw [tabP_rowsOf, tabP_rowsOf]
  unfold rowsOf
  rw [h.lasts]
  exact List.map_congr_left fun l _ => by rw [h.cols]
theorem lastsP_app_congr (p : List Nat) {a b : List Nat} (h : lastsP a = lastsP b) (hm : ∀ x, x ∈ a.map lo1 ↔ x ∈ b.map lo1) : lastsP (p ++ a) = lastsP (p ++ b) := by
  induction p with
  | nil => exact h
  | cons d p ih =>
    rw [List.cons_append, List.cons_append, lastsP, lastsP, ih]
    congr 1
    have : (List.map lo1 (p ++ a)).contains (lo1 d) = (List.map lo1 (p ++ b)).contains (lo1 d) := by
      rw [Bool.eq_iff_iff, List.contains_iff_mem, List.contains_iff_mem, List.map_append, List.map_append, List.mem_append, List.mem_append, hm]
    rw [this]
theorem same_swap (p q : List Nat) {a b : Nat} (h : lo1 a ≠ lo1 b) (hb : lo1 b ∈ q.map lo1) : Same (p ++ b :: a :: q) (p ++ a :: b :: q) := by
  refine ⟨lastsP_app_congr p ?_ fun x => ?_, fun c => ?_⟩
  · have e1 : (List.map lo1 q).contains (lo1 b) = true := List.contains_iff_mem.mpr hb
    have e2 : (List.map lo1 (a :: q)).contains (lo1 b) = true := List.contains_iff_mem.mpr (.tail _ hb)
    have e3 : (List.map lo1 (b :: q)).contains (lo1 a) = (List.map lo1 q).contains (lo1 a) := by
      rw [Bool.eq_iff_iff, List.contains_iff_mem, List.contains_iff_mem, List.map_cons, List.mem_cons]
      exact ⟨fun z => z.resolve_left h, .inr⟩
    rw [lastsP, lastsP, lastsP, lastsP, e1, e2, e3]
    simp
  · simp only [List.map_cons, List.mem_cons]
    constructor
    · rintro (z | z | z)
      · exact .inr (.inl z)
      · exact .inl z
      · exact .inr (.inr z)
    · rintro (z | z | z)
      · exact .inr (.inl z)
      · exact .inl z
      · exact .inr (.inr z)
  · unfold colP
    rw [List.filter_append, List.filter_append]
    congr 1
    rw [List.filter_cons, List.filter_cons, List.filter_cons, List.filter_cons]
    by_cases h1 : lo1 a = lo1 c
    · have h2 : lo1 b ≠ lo1 c := fun z => h (h1.trans z.symm)
      simp [h1, h2]
    · simp [h1]
theorem row_split {r : List Nat} {k : Nat} (h : k + 1 < r.length) : r = r.take k ++ (r.getD k 0 :: r.getD (k + 1) 0 :: r.drop (k + 2)) := by
  rw [List.getD_eq_getElem?_getD, List.getD_eq_getElem?_getD, List.getElem?_eq_getElem h, List.getElem?_eq_getElem (by omega)]
  simp only [Option.getD_some]
  rw [← List.drop_eq_getElem_cons h, ← List.drop_eq_getElem_cons (by omega), List.take_append_drop]
theorem swp_same {r : List Nat} {k : Nat} (h : k + 1 < r.length) (ht : tog r k = true) : Same (swp r k) r := by
  unfold tog at ht
  rw [Bool.and_eq_true, bne_iff_ne, decide_eq_true_eq] at ht
  have := same_swap (r.take k) (r.drop (k + 2)) ht.1 ht.2
  rw [← row_split h] at this
  exact this
theorem turn1_same {s r : List Nat} {rs : List (List Nat)} (h : Same r s) (hl : r.length = 6) (hs : ∀ q ∈ rs, Same q s ∧ q.length = 6) {k : Nat} (hk : k < 5) : ∀ q ∈ turn1 r rs k, Same q s ∧ q.length = 6 := by
  intro q hq
  unfold turn1 at hq
  split at hq
  · rename_i ht
    rcases List.mem_append.mp hq with hq | hq
    · exact hs q hq
    · rw [List.mem_singleton.mp hq]
      rw [Bool.and_eq_true] at ht
      refine ⟨(swp_same (by omega) ht.1).trans h, ?_⟩
      simp [swp, hl]; omega
  · exact hs q hq
theorem turn_same' {s r : List Nat} {rs : List (List Nat)} (h : Same r s) (hl : r.length = 6) (hs : ∀ q ∈ rs, Same q s ∧ q.length = 6) : ∀ n, n ≤ 5 → ∀ q ∈ turn r rs n, Same q s ∧ q.length = 6
  | 0, _ => hs
  | n + 1, hn => by
    rw [turn_succ]
    exact turn1_same h hl (turn_same' h hl hs n (by omega)) (by omega)
theorem reach_same {s : List Nat} : ∀ (f n : Nat) (rs : List (List Nat)), (∀ q ∈ rs, Same q s ∧ q.length = 6) → ∀ q ∈ reach f n rs, Same q s ∧ q.length = 6
  | 0, _, _, h => h
  | f + 1, n, rs, h => by
    intro q hq
    rw [reach] at hq
    split at hq
    · rename_i hc
      simp only [Bool.and_eq_true, decide_eq_true_eq] at hc
      have hr : rs.getD n [] ∈ rs := by
        rw [List.getD_eq_getElem?_getD, List.getElem?_eq_getElem hc.1]
        exact List.getElem_mem _
      exact reach_same f _ _ (turn_same' (h _ hr).1 (h _ hr).2 h 5 (Nat.le_refl _)) q hq
    · exact h q hq
/-- the columns one behind the other -/
def startP (w : List Nat) : List Nat := ((lastsP w).map (colP w)).flatten
end Mine
end

/- L3 -/
section
open PySem PySem.W PyProof.Rows PySem.Calls
set_option Elab.async false
set_option maxRecDepth 1000000
set_option linter.unusedVariables false
namespace Mine
def reachT0 : List (List Nat × List (List Nat)) := [
  ([97, 97, 97, 97, 97, 97], [[97, 97, 97, 97, 97, 97]]),
  ([99, 99, 99, 99, 97, 98], [[99, 99, 99, 99, 97, 98]]),
  ([97, 98, 98, 98, 98, 99], [[97, 98, 98, 98, 98, 99], [98, 97, 98, 98, 98, 99], [98, 98, 97, 98, 98, 99], [98, 98, 98, 97, 98, 99]]),
  ([97, 97, 97, 97, 99, 99], [[97, 97, 97, 97, 99, 99], [97, 97, 97, 99, 97, 99], [97, 97, 99, 97, 97, 99], [97, 99, 97, 97, 97, 99], [99, 97, 97, 97, 97, 99]]),
  ([99, 98, 98, 98, 98, 98], [[99, 98, 98, 98, 98, 98], [98, 99, 98, 98, 98, 98], [98, 98, 99, 98, 98, 98], [98, 98, 98, 99, 98, 98], [98, 98, 98, 98, 99, 98]]),
  ([98, 98, 99, 99, 99, 97], [[98, 98, 99, 99, 99, 97], [98, 99, 98, 99, 99, 97], [99, 98, 98, 99, 99, 97], [98, 99, 99, 98, 99, 97], [99, 98, 99, 98, 99, 97], [99, 99, 98, 98, 99, 97]]),
  ([97, 97, 99, 98, 98, 98], [[97, 97, 99, 98, 98, 98], [97, 97, 98, 99, 98, 98], [97, 98, 97, 99, 98, 98], [97, 97, 98, 98, 99, 98], [98, 97, 97, 99, 98, 98], [97, 98, 97, 98, 99, 98], [98, 97, 97, 98, 99, 98], [97, 98, 98, 97, 99, 98], [98, 97, 98, 97, 99, 98], [98, 98, 97, 97, 99, 98]]),
  ([99, 99, 98, 98, 98, 98], [[99, 99, 98, 98, 98, 98], [99, 98, 99, 98, 98, 98], [98, 99, 99, 98, 98, 98], [99, 98, 98, 99, 98, 98], [98, 99, 98, 99, 98, 98], [99, 98, 98, 98, 99, 98], [98, 98, 99, 99, 98, 98], [98, 99, 98, 98, 99, 98], [98, 98, 99, 98, 99, 98], [98, 98, 98, 99, 99, 98]]),
  ([97, 98, 98, 98, 99, 99], [[97, 98, 98, 98, 99, 99], [98, 97, 98, 98, 99, 99], [97, 98, 98, 99, 98, 99], [98, 98, 97, 98, 99, 99], [98, 97, 98, 99, 98, 99], [97, 98, 99, 98, 98, 99], [98, 98, 97, 99, 98, 99], [98, 97, 99, 98, 98, 99], [97, 99, 98, 98, 98, 99], [98, 98, 99, 97, 98, 99], [98, 99, 97, 98, 98, 99], [99, 97, 98, 98, 98, 99], [98, 99, 98, 97, 98, 99], [99, 98, 97, 98, 98, 99], [99, 98, 98, 97, 98, 99]]),
  ([99, 97, 97, 98, 98, 98], [[99, 97, 97, 98, 98, 98], [97, 99, 97, 98, 98, 98], [99, 97, 98, 97, 98, 98], [97, 99, 98, 97, 98, 98], [99, 98, 97, 97, 98, 98], [99, 97, 98, 98, 97, 98], [97, 98, 99, 97, 98, 98], [97, 99, 98, 98, 97, 98], [98, 99, 97, 97, 98, 98], [99, 98, 97, 98, 97, 98], [98, 97, 99, 97, 98, 98], [97, 98, 99, 98, 97, 98], [98, 99, 97, 98, 97, 98], [99, 98, 98, 97, 97, 98], [98, 97, 99, 98, 97, 98], [97, 98, 98, 99, 97, 98], [98, 99, 98, 97, 97, 98], [98, 97, 98, 99, 97, 98], [98, 98, 99, 97, 97, 98], [98, 98, 97, 99, 97, 98]])]
theorem reachT0_ok : reachT0.all (fun p => reach 70 0 [p.1] == p.2) = true := by decide +kernel
def reachT1 : List (List Nat × List (List Nat)) := [
  ([97, 97, 97, 97, 97, 98], [[97, 97, 97, 97, 97, 98]]),
  ([99, 99, 99, 99, 98, 97], [[99, 99, 99, 99, 98, 97]]),
  ([99, 99, 99, 97, 97, 98], [[99, 99, 99, 97, 97, 98], [99, 99, 97, 99, 97, 98], [99, 97, 99, 99, 97, 98], [97, 99, 99, 99, 97, 98]]),
  ([97, 97, 97, 99, 98, 98], [[97, 97, 97, 99, 98, 98], [97, 97, 97, 98, 99, 98], [97, 97, 98, 97, 99, 98], [97, 98, 97, 97, 99, 98], [98, 97, 97, 97, 99, 98]]),
  ([98, 98, 98, 98, 99, 99], [[98, 98, 98, 98, 99, 99], [98, 98, 98, 99, 98, 99], [98, 98, 99, 98, 98, 99], [98, 99, 98, 98, 98, 99], [99, 98, 98, 98, 98, 99]]),
  ([98, 98, 97, 97, 97, 97], [[98, 98, 97, 97, 97, 97], [98, 97, 98, 97, 97, 97], [97, 98, 98, 97, 97, 97], [98, 97, 97, 98, 97, 97], [97, 98, 97, 98, 97, 97], [98, 97, 97, 97, 98, 97], [97, 97, 98, 98, 97, 97], [97, 98, 97, 97, 98, 97], [97, 97, 98, 97, 98, 97], [97, 97, 97, 98, 98, 97]]),
  ([97, 97, 98, 99, 99, 99], [[97, 97, 98, 99, 99, 99], [97, 97, 99, 98, 99, 99], [97, 99, 97, 98, 99, 99], [97, 97, 99, 99, 98, 99], [99, 97, 97, 98, 99, 99], [97, 99, 97, 99, 98, 99], [99, 97, 97, 99, 98, 99], [97, 99, 99, 97, 98, 99], [99, 97, 99, 97, 98, 99], [99, 99, 97, 97, 98, 99]]),
  ([98, 98, 98, 99, 99, 99], [[98, 98, 98, 99, 99, 99], [98, 98, 99, 98, 99, 99], [98, 99, 98, 98, 99, 99], [98, 98, 99, 99, 98, 99], [99, 98, 98, 98, 99, 99], [98, 99, 98, 99, 98, 99], [99, 98, 98, 99, 98, 99], [98, 99, 99, 98, 98, 99], [99, 98, 99, 98, 98, 99], [99, 99, 98, 98, 98, 99]]),
  ([99, 98, 98, 98, 97, 97], [[99, 98, 98, 98, 97, 97], [98, 99, 98, 98, 97, 97], [99, 98, 98, 97, 98, 97], [98, 98, 99, 98, 97, 97], [98, 99, 98, 97, 98, 97], [99, 98, 97, 98, 98, 97], [98, 98, 99, 97, 98, 97], [98, 99, 97, 98, 98, 97], [99, 97, 98, 98, 98, 97], [98, 98, 97, 99, 98, 97], [98, 97, 99, 98, 98, 97], [97, 99, 98, 98, 98, 97], [98, 97, 98, 99, 98, 97], [97, 98, 99, 98, 98, 97], [97, 98, 98, 99, 98, 97]]),
  ([97, 99, 99, 98, 98, 98], [[97, 99, 99, 98, 98, 98], [99, 97, 99, 98, 98, 98], [97, 99, 98, 99, 98, 98], [99, 97, 98, 99, 98, 98], [97, 98, 99, 99, 98, 98], [97, 99, 98, 98, 99, 98], [99, 98, 97, 99, 98, 98], [99, 97, 98, 98, 99, 98], [98, 97, 99, 99, 98, 98], [97, 98, 99, 98, 99, 98], [98, 99, 97, 99, 98, 98], [99, 98, 97, 98, 99, 98], [98, 97, 99, 98, 99, 98], [97, 98, 98, 99, 99, 98], [98, 99, 97, 98, 99, 98], [99, 98, 98, 97, 99, 98], [98, 97, 98, 99, 99, 98], [98, 99, 98, 97, 99, 98], [98, 98, 97, 99, 99, 98], [98, 98, 99, 97, 99, 98]])]
theorem reachT1_ok : reachT1.all (fun p => reach 70 0 [p.1] == p.2) = true := by decide +kernel
def reachT2 : List (List Nat × List (List Nat)) := [
  ([97, 97, 97, 97, 97, 99], [[97, 97, 97, 97, 97, 99]]),
  ([99, 99, 99, 99, 99, 97], [[99, 99, 99, 99, 99, 97]]),
  ([97, 99, 99, 99, 99, 98], [[97, 99, 99, 99, 99, 98], [99, 97, 99, 99, 99, 98], [99, 99, 97, 99, 99, 98], [99, 99, 99, 97, 99, 98]]),
  ([97, 97, 97, 98, 99, 99], [[97, 97, 97, 98, 99, 99], [97, 97, 97, 99, 98, 99], [97, 97, 99, 97, 98, 99], [97, 99, 97, 97, 98, 99], [99, 97, 97, 97, 98, 99]]),
  ([99, 99, 99, 97, 98, 98], [[99, 99, 99, 97, 98, 98], [99, 99, 99, 98, 97, 98], [99, 99, 98, 99, 97, 98], [99, 98, 99, 99, 97, 98], [98, 99, 99, 99, 97, 98]]),
  ([97, 97, 97, 98, 98, 98], [[97, 97, 97, 98, 98, 98], [97, 97, 98, 97, 98, 98], [97, 98, 97, 97, 98, 98], [97, 97, 98, 98, 97, 98], [98, 97, 97, 97, 98, 98], [97, 98, 97, 98, 97, 98], [98, 97, 97, 98, 97, 98], [97, 98, 98, 97, 97, 98], [98, 97, 98, 97, 97, 98], [98, 98, 97, 97, 97, 98]]),
  ([99, 99, 98, 97, 97, 97], [[99, 99, 98, 97, 97, 97], [99, 99, 97, 98, 97, 97], [99, 97, 99, 98, 97, 97], [99, 99, 97, 97, 98, 97], [97, 99, 99, 98, 97, 97], [99, 97, 99, 97, 98, 97], [97, 99, 99, 97, 98, 97], [99, 97, 97, 99, 98, 97], [97, 99, 97, 99, 98, 97], [97, 97, 99, 99, 98, 97]]),
  ([99, 99, 97, 98, 98, 98], [[99, 99, 97, 98, 98, 98], [99, 99, 98, 97, 98, 98], [99, 98, 99, 97, 98, 98], [99, 99, 98, 98, 97, 98], [98, 99, 99, 97, 98, 98], [99, 98, 99, 98, 97, 98], [98, 99, 99, 98, 97, 98], [99, 98, 98, 99, 97, 98], [98, 99, 98, 99, 97, 98], [98, 98, 99, 99, 97, 98]]),
  ([98, 98, 99, 99, 97, 97], [[98, 98, 99, 99, 97, 97], [98, 99, 98, 99, 97, 97], [98, 98, 99, 97, 99, 97], [99, 98, 98, 99, 97, 97], [98, 99, 98, 97, 99, 97], [98, 98, 97, 99, 99, 97], [99, 98, 98, 97, 99, 97], [98, 99, 97, 98, 99, 97], [98, 97, 98, 99, 99, 97], [99, 98, 97, 98, 99, 97], [98, 97, 99, 98, 99, 97], [97, 98, 98, 99, 99, 97], [99, 97, 98, 98, 99, 97], [97, 98, 99, 98, 99, 97], [97, 99, 98, 98, 99, 97]]),
  ([97, 98, 98, 99, 99, 99], [[97, 98, 98, 99, 99, 99], [98, 97, 98, 99, 99, 99], [97, 98, 99, 98, 99, 99], [98, 97, 99, 98, 99, 99], [97, 99, 98, 98, 99, 99], [97, 98, 99, 99, 98, 99], [98, 99, 97, 98, 99, 99], [98, 97, 99, 99, 98, 99], [99, 97, 98, 98, 99, 99], [97, 99, 98, 99, 98, 99], [99, 98, 97, 98, 99, 99], [98, 99, 97, 99, 98, 99], [99, 97, 98, 99, 98, 99], [97, 99, 99, 98, 98, 99], [99, 98, 97, 99, 98, 99], [98, 99, 99, 97, 98, 99], [99, 97, 99, 98, 98, 99], [99, 98, 99, 97, 98, 99], [99, 99, 97, 98, 98, 99], [99, 99, 98, 97, 98, 99]])]
theorem reachT2_ok : reachT2.all (fun p => reach 70 0 [p.1] == p.2) = true := by decide +kernel
def reachT3 : List (List Nat × List (List Nat)) := [
  ([97, 97, 97, 97, 98, 99], [[97, 97, 97, 97, 98, 99]]),
  ([99, 99, 99, 99, 99, 98], [[99, 99, 99, 99, 99, 98]]),
  ([99, 98, 98, 98, 98, 97], [[99, 98, 98, 98, 98, 97], [98, 99, 98, 98, 98, 97], [98, 98, 99, 98, 98, 97], [98, 98, 98, 99, 98, 97]]),
  ([98, 98, 98, 98, 97, 97], [[98, 98, 98, 98, 97, 97], [98, 98, 98, 97, 98, 97], [98, 98, 97, 98, 98, 97], [98, 97, 98, 98, 98, 97], [97, 98, 98, 98, 98, 97]]),
  ([99, 99, 99, 99, 98, 98], [[99, 99, 99, 99, 98, 98], [99, 99, 99, 98, 99, 98], [99, 99, 98, 99, 99, 98], [99, 98, 99, 99, 99, 98], [98, 99, 99, 99, 99, 98]]),
  ([98, 99, 97, 97, 97, 97], [[98, 99, 97, 97, 97, 97], [98, 97, 99, 97, 97, 97], [97, 98, 99, 97, 97, 97], [98, 97, 97, 99, 97, 97], [97, 98, 97, 99, 97, 97], [98, 97, 97, 97, 99, 97], [97, 97, 98, 99, 97, 97], [97, 98, 97, 97, 99, 97], [97, 97, 98, 97, 99, 97], [97, 97, 97, 98, 99, 97]]),
  ([99, 99, 99, 97, 97, 97], [[99, 99, 99, 97, 97, 97], [99, 99, 97, 99, 97, 97], [99, 97, 99, 99, 97, 97], [99, 99, 97, 97, 99, 97], [97, 99, 99, 99, 97, 97], [99, 97, 99, 97, 99, 97], [97, 99, 99, 97, 99, 97], [99, 97, 97, 99, 99, 97], [97, 99, 97, 99, 99, 97], [97, 97, 99, 99, 99, 97]]),
  ([99, 99, 99, 98, 98, 98], [[99, 99, 99, 98, 98, 98], [99, 99, 98, 99, 98, 98], [99, 98, 99, 99, 98, 98], [99, 99, 98, 98, 99, 98], [98, 99, 99, 99, 98, 98], [99, 98, 99, 98, 99, 98], [98, 99, 99, 98, 99, 98], [99, 98, 98, 99, 99, 98], [98, 99, 98, 99, 99, 98], [98, 98, 99, 99, 99, 98]]),
  ([99, 99, 97, 97, 98, 98], [[99, 99, 97, 97, 98, 98], [99, 97, 99, 97, 98, 98], [99, 99, 97, 98, 97, 98], [97, 99, 99, 97, 98, 98], [99, 97, 99, 98, 97, 98], [99, 99, 98, 97, 97, 98], [97, 99, 99, 98, 97, 98], [99, 97, 98, 99, 97, 98], [99, 98, 99, 97, 97, 98], [97, 99, 98, 99, 97, 98], [99, 98, 97, 99, 97, 98], [98, 99, 99, 97, 97, 98], [97, 98, 99, 99, 97, 98], [98, 99, 97, 99, 97, 98], [98, 97, 99, 99, 97, 98]])]
theorem reachT3_ok : reachT3.all (fun p => reach 70 0 [p.1] == p.2) = true := by decide +kernel
def reachT4 : List (List Nat × List (List Nat)) := [
  ([97, 97, 97, 97, 99, 98], [[97, 97, 97, 97, 99, 98]]),
  ([99, 99, 99, 99, 99, 99], [[99, 99, 99, 99, 99, 99]]),
  ([98, 98, 98, 99, 99, 97], [[98, 98, 98, 99, 99, 97], [98, 98, 99, 98, 99, 97], [98, 99, 98, 98, 99, 97], [99, 98, 98, 98, 99, 97]]),
  ([97, 98, 98, 98, 98, 98], [[97, 98, 98, 98, 98, 98], [98, 97, 98, 98, 98, 98], [98, 98, 97, 98, 98, 98], [98, 98, 98, 97, 98, 98], [98, 98, 98, 98, 97, 98]]),
  ([98, 99, 99, 99, 99, 99], [[98, 99, 99, 99, 99, 99], [99, 98, 99, 99, 99, 99], [99, 99, 98, 99, 99, 99], [99, 99, 99, 98, 99, 99], [99, 99, 99, 99, 98, 99]]),
  ([99, 98, 97, 97, 97, 97], [[99, 98, 97, 97, 97, 97], [99, 97, 98, 97, 97, 97], [97, 99, 98, 97, 97, 97], [99, 97, 97, 98, 97, 97], [97, 99, 97, 98, 97, 97], [99, 97, 97, 97, 98, 97], [97, 97, 99, 98, 97, 97], [97, 99, 97, 97, 98, 97], [97, 97, 99, 97, 98, 97], [97, 97, 97, 99, 98, 97]]),
  ([97, 97, 99, 99, 99, 99], [[97, 97, 99, 99, 99, 99], [97, 99, 97, 99, 99, 99], [99, 97, 97, 99, 99, 99], [97, 99, 99, 97, 99, 99], [99, 97, 99, 97, 99, 99], [97, 99, 99, 99, 97, 99], [99, 99, 97, 97, 99, 99], [99, 97, 99, 99, 97, 99], [99, 99, 97, 99, 97, 99], [99, 99, 99, 97, 97, 99]]),
  ([98, 98, 99, 99, 99, 99], [[98, 98, 99, 99, 99, 99], [98, 99, 98, 99, 99, 99], [99, 98, 98, 99, 99, 99], [98, 99, 99, 98, 99, 99], [99, 98, 99, 98, 99, 99], [98, 99, 99, 99, 98, 99], [99, 99, 98, 98, 99, 99], [99, 98, 99, 99, 98, 99], [99, 99, 98, 99, 98, 99], [99, 99, 99, 98, 98, 99]]),
  ([99, 99, 98, 98, 97, 97], [[99, 99, 98, 98, 97, 97], [99, 98, 99, 98, 97, 97], [99, 99, 98, 97, 98, 97], [98, 99, 99, 98, 97, 97], [99, 98, 99, 97, 98, 97], [99, 99, 97, 98, 98, 97], [98, 99, 99, 97, 98, 97], [99, 98, 97, 99, 98, 97], [99, 97, 99, 98, 98, 97], [98, 99, 97, 99, 98, 97], [99, 97, 98, 99, 98, 97], [97, 99, 99, 98, 98, 97], [98, 97, 99, 99, 98, 97], [97, 99, 98, 99, 98, 97], [97, 98, 99, 99, 98, 97]])]
theorem reachT4_ok : reachT4.all (fun p => reach 70 0 [p.1] == p.2) = true := by decide +kernel
def reachT5 : List (List Nat × List (List Nat)) := [
  ([98, 98, 98, 98, 97, 99], [[98, 98, 98, 98, 97, 99]]),
  ([98, 97, 97, 97, 97, 99], [[98, 97, 97, 97, 97, 99], [97, 98, 97, 97, 97, 99], [97, 97, 98, 97, 97, 99], [97, 97, 97, 98, 97, 99]]),
  ([99, 99, 99, 98, 98, 97], [[99, 99, 99, 98, 98, 97], [99, 99, 98, 99, 98, 97], [99, 98, 99, 99, 98, 97], [98, 99, 99, 99, 98, 97]]),
  ([98, 98, 98, 99, 97, 97], [[98, 98, 98, 99, 97, 97], [98, 98, 98, 97, 99, 97], [98, 98, 97, 98, 99, 97], [98, 97, 98, 98, 99, 97], [97, 98, 98, 98, 99, 97]]),
  ([98, 98, 97, 97, 97, 99], [[98, 98, 97, 97, 97, 99], [98, 97, 98, 97, 97, 99], [97, 98, 98, 97, 97, 99], [98, 97, 97, 98, 97, 99], [97, 98, 97, 98, 97, 99], [97, 97, 98, 98, 97, 99]]),
  ([99, 99, 97, 97, 97, 97], [[99, 99, 97, 97, 97, 97], [99, 97, 99, 97, 97, 97], [97, 99, 99, 97, 97, 97], [99, 97, 97, 99, 97, 97], [97, 99, 97, 99, 97, 97], [99, 97, 97, 97, 99, 97], [97, 97, 99, 99, 97, 97], [97, 99, 97, 97, 99, 97], [97, 97, 99, 97, 99, 97], [97, 97, 97, 99, 99, 97]]),
  ([97, 99, 98, 98, 98, 98], [[97, 99, 98, 98, 98, 98], [97, 98, 99, 98, 98, 98], [98, 97, 99, 98, 98, 98], [97, 98, 98, 99, 98, 98], [98, 97, 98, 99, 98, 98], [97, 98, 98, 98, 99, 98], [98, 98, 97, 99, 98, 98], [98, 97, 98, 98, 99, 98], [98, 98, 97, 98, 99, 98], [98, 98, 98, 97, 99, 98]]),
  ([98, 97, 97, 97, 99, 99], [[98, 97, 97, 97, 99, 99], [97, 98, 97, 97, 99, 99], [98, 97, 97, 99, 97, 99], [97, 97, 98, 97, 99, 99], [97, 98, 97, 99, 97, 99], [98, 97, 99, 97, 97, 99], [97, 97, 98, 99, 97, 99], [97, 98, 99, 97, 97, 99], [98, 99, 97, 97, 97, 99], [97, 97, 99, 98, 97, 99], [97, 99, 98, 97, 97, 99], [99, 98, 97, 97, 97, 99], [97, 99, 97, 98, 97, 99], [99, 97, 98, 97, 97, 99], [99, 97, 97, 98, 97, 99]]),
  ([98, 99, 99, 99, 97, 97], [[98, 99, 99, 99, 97, 97], [99, 98, 99, 99, 97, 97], [98, 99, 99, 97, 99, 97], [99, 99, 98, 99, 97, 97], [99, 98, 99, 97, 99, 97], [98, 99, 97, 99, 99, 97], [99, 99, 98, 97, 99, 97], [99, 98, 97, 99, 99, 97], [98, 97, 99, 99, 99, 97], [99, 99, 97, 98, 99, 97], [99, 97, 98, 99, 99, 97], [97, 98, 99, 99, 99, 97], [99, 97, 99, 98, 99, 97], [97, 99, 98, 99, 99, 97], [97, 99, 99, 98, 99, 97]])]
theorem reachT5_ok : reachT5.all (fun p => reach 70 0 [p.1] == p.2) = true := by decide +kernel
def reachT6 : List (List Nat × List (List Nat)) := [
  ([98, 98, 98, 98, 98, 97], [[98, 98, 98, 98, 98, 97]]),
  ([97, 97, 97, 98, 98, 99], [[97, 97, 97, 98, 98, 99], [97, 97, 98, 97, 98, 99], [97, 98, 97, 97, 98, 99], [98, 97, 97, 97, 98, 99]]),
  ([98, 99, 99, 99, 99, 97], [[98, 99, 99, 99, 99, 97], [99, 98, 99, 99, 99, 97], [99, 99, 98, 99, 99, 97], [99, 99, 99, 98, 99, 97]]),
  ([99, 99, 99, 98, 97, 97], [[99, 99, 99, 98, 97, 97], [99, 99, 99, 97, 98, 97], [99, 99, 97, 99, 98, 97], [99, 97, 99, 99, 98, 97], [97, 99, 99, 99, 98, 97]]),
  ([97, 97, 98, 98, 98, 99], [[97, 97, 98, 98, 98, 99], [97, 98, 97, 98, 98, 99], [98, 97, 97, 98, 98, 99], [97, 98, 98, 97, 98, 99], [98, 97, 98, 97, 98, 99], [98, 98, 97, 97, 98, 99]]),
  ([97, 97, 97, 99, 99, 99], [[97, 97, 97, 99, 99, 99], [97, 97, 99, 97, 99, 99], [97, 99, 97, 97, 99, 99], [97, 97, 99, 99, 97, 99], [99, 97, 97, 97, 99, 99], [97, 99, 97, 99, 97, 99], [99, 97, 97, 99, 97, 99], [97, 99, 99, 97, 97, 99], [99, 97, 99, 97, 97, 99], [99, 99, 97, 97, 97, 99]]),
  ([97, 98, 99, 99, 99, 99], [[97, 98, 99, 99, 99, 99], [97, 99, 98, 99, 99, 99], [99, 97, 98, 99, 99, 99], [97, 99, 99, 98, 99, 99], [99, 97, 99, 98, 99, 99], [97, 99, 99, 99, 98, 99], [99, 99, 97, 98, 99, 99], [99, 97, 99, 99, 98, 99], [99, 99, 97, 99, 98, 99], [99, 99, 99, 97, 98, 99]]),
  ([97, 97, 98, 98, 99, 99], [[97, 97, 98, 98, 99, 99], [97, 98, 97, 98, 99, 99], [97, 97, 98, 99, 98, 99], [98, 97, 97, 98, 99, 99], [97, 98, 97, 99, 98, 99], [97, 97, 99, 98, 98, 99], [98, 97, 97, 99, 98, 99], [97, 98, 99, 97, 98, 99], [97, 99, 97, 98, 98, 99], [98, 97, 99, 97, 98, 99], [97, 99, 98, 97, 98, 99], [99, 97, 97, 98, 98, 99], [98, 99, 97, 97, 98, 99], [99, 97, 98, 97, 98, 99], [99, 98, 97, 97, 98, 99]]),
  ([97, 99, 99, 99, 98, 98], [[97, 99, 99, 99, 98, 98], [99, 97, 99, 99, 98, 98], [97, 99, 99, 98, 99, 98], [99, 99, 97, 99, 98, 98], [99, 97, 99, 98, 99, 98], [97, 99, 98, 99, 99, 98], [99, 99, 97, 98, 99, 98], [99, 97, 98, 99, 99, 98], [97, 98, 99, 99, 99, 98], [99, 99, 98, 97, 99, 98], [99, 98, 97, 99, 99, 98], [98, 97, 99, 99, 99, 98], [99, 98, 99, 97, 99, 98], [98, 99, 97, 99, 99, 98], [98, 99, 99, 97, 99, 98]])]
theorem reachT6_ok : reachT6.all (fun p => reach 70 0 [p.1] == p.2) = true := by decide +kernel
def reachT7 : List (List Nat × List (List Nat)) := [
  ([98, 98, 98, 98, 98, 98], [[98, 98, 98, 98, 98, 98]]),
  ([99, 97, 97, 97, 97, 98], [[99, 97, 97, 97, 97, 98], [97, 99, 97, 97, 97, 98], [97, 97, 99, 97, 97, 98], [97, 97, 97, 99, 97, 98]]),
  ([98, 97, 97, 97, 97, 97], [[98, 97, 97, 97, 97, 97], [97, 98, 97, 97, 97, 97], [97, 97, 98, 97, 97, 97], [97, 97, 97, 98, 97, 97], [97, 97, 97, 97, 98, 97]]),
  ([99, 99, 99, 99, 97, 97], [[99, 99, 99, 99, 97, 97], [99, 99, 99, 97, 99, 97], [99, 99, 97, 99, 99, 97], [99, 97, 99, 99, 99, 97], [97, 99, 99, 99, 99, 97]]),
  ([99, 99, 97, 97, 97, 98], [[99, 99, 97, 97, 97, 98], [99, 97, 99, 97, 97, 98], [97, 99, 99, 97, 97, 98], [99, 97, 97, 99, 97, 98], [97, 99, 97, 99, 97, 98], [97, 97, 99, 99, 97, 98]]),
  ([98, 98, 98, 97, 97, 97], [[98, 98, 98, 97, 97, 97], [98, 98, 97, 98, 97, 97], [98, 97, 98, 98, 97, 97], [98, 98, 97, 97, 98, 97], [97, 98, 98, 98, 97, 97], [98, 97, 98, 97, 98, 97], [97, 98, 98, 97, 98, 97], [98, 97, 97, 98, 98, 97], [97, 98, 97, 98, 98, 97], [97, 97, 98, 98, 98, 97]]),
  ([98, 97, 99, 99, 99, 99], [[98, 97, 99, 99, 99, 99], [98, 99, 97, 99, 99, 99], [99, 98, 97, 99, 99, 99], [98, 99, 99, 97, 99, 99], [99, 98, 99, 97, 99, 99], [98, 99, 99, 99, 97, 99], [99, 99, 98, 97, 99, 99], [99, 98, 99, 99, 97, 99], [99, 99, 98, 99, 97, 99], [99, 99, 99, 98, 97, 99]]),
  ([99, 97, 97, 97, 98, 98], [[99, 97, 97, 97, 98, 98], [97, 99, 97, 97, 98, 98], [99, 97, 97, 98, 97, 98], [97, 97, 99, 97, 98, 98], [97, 99, 97, 98, 97, 98], [99, 97, 98, 97, 97, 98], [97, 97, 99, 98, 97, 98], [97, 99, 98, 97, 97, 98], [99, 98, 97, 97, 97, 98], [97, 97, 98, 99, 97, 98], [97, 98, 99, 97, 97, 98], [98, 99, 97, 97, 97, 98], [97, 98, 97, 99, 97, 98], [98, 97, 99, 97, 97, 98], [98, 97, 97, 99, 97, 98]]),
  ([99, 98, 98, 97, 97, 97], [[99, 98, 98, 97, 97, 97], [98, 99, 98, 97, 97, 97], [99, 98, 97, 98, 97, 97], [98, 99, 97, 98, 97, 97], [99, 97, 98, 98, 97, 97], [99, 98, 97, 97, 98, 97], [98, 97, 99, 98, 97, 97], [98, 99, 97, 97, 98, 97], [97, 99, 98, 98, 97, 97], [99, 97, 98, 97, 98, 97], [97, 98, 99, 98, 97, 97], [98, 97, 99, 97, 98, 97], [97, 99, 98, 97, 98, 97], [99, 97, 97, 98, 98, 97], [97, 98, 99, 97, 98, 97], [98, 97, 97, 99, 98, 97], [97, 99, 97, 98, 98, 97], [97, 98, 97, 99, 98, 97], [97, 97, 99, 98, 98, 97], [97, 97, 98, 99, 98, 97]])]
theorem reachT7_ok : reachT7.all (fun p => reach 70 0 [p.1] == p.2) = true := by decide +kernel
def reachT8 : List (List Nat × List (List Nat)) := [
  ([98, 98, 98, 98, 98, 99], [[98, 98, 98, 98, 98, 99]]),
  ([97, 97, 97, 99, 99, 98], [[97, 97, 97, 99, 99, 98], [97, 97, 99, 97, 99, 98], [97, 99, 97, 97, 99, 98], [99, 97, 97, 97, 99, 98]]),
  ([97, 97, 97, 97, 98, 98], [[97, 97, 97, 97, 98, 98], [97, 97, 97, 98, 97, 98], [97, 97, 98, 97, 97, 98], [97, 98, 97, 97, 97, 98], [98, 97, 97, 97, 97, 98]]),
  ([97, 99, 99, 99, 99, 99], [[97, 99, 99, 99, 99, 99], [99, 97, 99, 99, 99, 99], [99, 99, 97, 99, 99, 99], [99, 99, 99, 97, 99, 99], [99, 99, 99, 99, 97, 99]]),
  ([97, 97, 99, 99, 99, 98], [[97, 97, 99, 99, 99, 98], [97, 99, 97, 99, 99, 98], [99, 97, 97, 99, 99, 98], [97, 99, 99, 97, 99, 98], [99, 97, 99, 97, 99, 98], [99, 99, 97, 97, 99, 98]]),
  ([97, 97, 98, 98, 98, 98], [[97, 97, 98, 98, 98, 98], [97, 98, 97, 98, 98, 98], [98, 97, 97, 98, 98, 98], [97, 98, 98, 97, 98, 98], [98, 97, 98, 97, 98, 98], [97, 98, 98, 98, 97, 98], [98, 98, 97, 97, 98, 98], [98, 97, 98, 98, 97, 98], [98, 98, 97, 98, 97, 98], [98, 98, 98, 97, 97, 98]]),
  ([98, 98, 97, 99, 99, 99], [[98, 98, 97, 99, 99, 99], [98, 98, 99, 97, 99, 99], [98, 99, 98, 97, 99, 99], [98, 98, 99, 99, 97, 99], [99, 98, 98, 97, 99, 99], [98, 99, 98, 99, 97, 99], [99, 98, 98, 99, 97, 99], [98, 99, 99, 98, 97, 99], [99, 98, 99, 98, 97, 99], [99, 99, 98, 98, 97, 99]]),
  ([97, 97, 99, 99, 98, 98], [[97, 97, 99, 99, 98, 98], [97, 99, 97, 99, 98, 98], [97, 97, 99, 98, 99, 98], [99, 97, 97, 99, 98, 98], [97, 99, 97, 98, 99, 98], [97, 97, 98, 99, 99, 98], [99, 97, 97, 98, 99, 98], [97, 99, 98, 97, 99, 98], [97, 98, 97, 99, 99, 98], [99, 97, 98, 97, 99, 98], [97, 98, 99, 97, 99, 98], [98, 97, 97, 99, 99, 98], [99, 98, 97, 97, 99, 98], [98, 97, 99, 97, 99, 98], [98, 99, 97, 97, 99, 98]]),
  ([98, 99, 99, 97, 97, 97], [[98, 99, 99, 97, 97, 97], [99, 98, 99, 97, 97, 97], [98, 99, 97, 99, 97, 97], [99, 98, 97, 99, 97, 97], [98, 97, 99, 99, 97, 97], [98, 99, 97, 97, 99, 97], [99, 97, 98, 99, 97, 97], [99, 98, 97, 97, 99, 97], [97, 98, 99, 99, 97, 97], [98, 97, 99, 97, 99, 97], [97, 99, 98, 99, 97, 97], [99, 97, 98, 97, 99, 97], [97, 98, 99, 97, 99, 97], [98, 97, 97, 99, 99, 97], [97, 99, 98, 97, 99, 97], [99, 97, 97, 98, 99, 97], [97, 98, 97, 99, 99, 97], [97, 99, 97, 98, 99, 97], [97, 97, 98, 99, 99, 97], [97, 97, 99, 98, 99, 97]])]
theorem reachT8_ok : reachT8.all (fun p => reach 70 0 [p.1] == p.2) = true := by decide +kernel
def reachT9 : List (List Nat × List (List Nat)) := [
  ([98, 98, 98, 98, 99, 97], [[98, 98, 98, 98, 99, 97]]),
  ([98, 98, 98, 97, 97, 99], [[98, 98, 98, 97, 97, 99], [98, 98, 97, 98, 97, 99], [98, 97, 98, 98, 97, 99], [97, 98, 98, 98, 97, 99]]),
  ([99, 97, 97, 97, 97, 97], [[99, 97, 97, 97, 97, 97], [97, 99, 97, 97, 97, 97], [97, 97, 99, 97, 97, 97], [97, 97, 97, 99, 97, 97], [97, 97, 97, 97, 99, 97]]),
  ([98, 98, 98, 97, 99, 99], [[98, 98, 98, 97, 99, 99], [98, 98, 98, 99, 97, 99], [98, 98, 99, 98, 97, 99], [98, 99, 98, 98, 97, 99], [99, 98, 98, 98, 97, 99]]),
  ([99, 99, 98, 98, 98, 97], [[99, 99, 98, 98, 98, 97], [99, 98, 99, 98, 98, 97], [98, 99, 99, 98, 98, 97], [99, 98, 98, 99, 98, 97], [98, 99, 98, 99, 98, 97], [98, 98, 99, 99, 98, 97]]),
  ([98, 98, 99, 97, 97, 97], [[98, 98, 99, 97, 97, 97], [98, 98, 97, 99, 97, 97], [98, 97, 98, 99, 97, 97], [98, 98, 97, 97, 99, 97], [97, 98, 98, 99, 97, 97], [98, 97, 98, 97, 99, 97], [97, 98, 98, 97, 99, 97], [98, 97, 97, 98, 99, 97], [97, 98, 97, 98, 99, 97], [97, 97, 98, 98, 99, 97]]),
  ([99, 97, 98, 98, 98, 98], [[99, 97, 98, 98, 98, 98], [99, 98, 97, 98, 98, 98], [98, 99, 97, 98, 98, 98], [99, 98, 98, 97, 98, 98], [98, 99, 98, 97, 98, 98], [99, 98, 98, 98, 97, 98], [98, 98, 99, 97, 98, 98], [98, 99, 98, 98, 97, 98], [98, 98, 99, 98, 97, 98], [98, 98, 98, 99, 97, 98]]),
  ([98, 98, 97, 97, 99, 99], [[98, 98, 97, 97, 99, 99], [98, 97, 98, 97, 99, 99], [98, 98, 97, 99, 97, 99], [97, 98, 98, 97, 99, 99], [98, 97, 98, 99, 97, 99], [98, 98, 99, 97, 97, 99], [97, 98, 98, 99, 97, 99], [98, 97, 99, 98, 97, 99], [98, 99, 98, 97, 97, 99], [97, 98, 99, 98, 97, 99], [98, 99, 97, 98, 97, 99], [99, 98, 98, 97, 97, 99], [97, 99, 98, 98, 97, 99], [99, 98, 97, 98, 97, 99], [99, 97, 98, 98, 97, 99]]),
  ([98, 97, 97, 99, 99, 99], [[98, 97, 97, 99, 99, 99], [97, 98, 97, 99, 99, 99], [98, 97, 99, 97, 99, 99], [97, 98, 99, 97, 99, 99], [98, 99, 97, 97, 99, 99], [98, 97, 99, 99, 97, 99], [97, 99, 98, 97, 99, 99], [97, 98, 99, 99, 97, 99], [99, 98, 97, 97, 99, 99], [98, 99, 97, 99, 97, 99], [99, 97, 98, 97, 99, 99], [97, 99, 98, 99, 97, 99], [99, 98, 97, 99, 97, 99], [98, 99, 99, 97, 97, 99], [99, 97, 98, 99, 97, 99], [97, 99, 99, 98, 97, 99], [99, 98, 99, 97, 97, 99], [99, 97, 99, 98, 97, 99], [99, 99, 98, 97, 97, 99], [99, 99, 97, 98, 97, 99]])]
theorem reachT9_ok : reachT9.all (fun p => reach 70 0 [p.1] == p.2) = true := by decide +kernel
def reachTs : List (List (List Nat × List (List Nat))) := [reachT0, reachT1, reachT2, reachT3, reachT4, reachT5, reachT6, reachT7, reachT8, reachT9]
def placeT : List (List Nat) := [
  [0, 100, 200, 702, 802, 300, 902, 400, 3, 702, 802, 501, 105, 205, 601, 305, 103, 203, 902, 701, 3, 405, 103, 203, 505, 801, 605],
  [702, 802, 501, 105, 205, 601, 305, 103, 507, 105, 205, 504, 705, 805, 604, 905, 6, 607, 305, 707, 507, 708, 6, 607, 808, 807, 106],
  [902, 701, 3, 405, 707, 203, 505, 801, 605, 405, 707, 507, 708, 6, 607, 808, 807, 106, 505, 704, 605, 206, 807, 106, 306, 804, 406],
  [702, 802, 501, 105, 205, 601, 305, 103, 507, 105, 205, 504, 705, 805, 604, 905, 6, 607, 305, 707, 507, 708, 6, 607, 808, 807, 908],
  [105, 205, 504, 705, 805, 604, 905, 6, 907, 705, 805, 901, 303, 403, 2, 503, 506, 8, 905, 9, 907, 108, 506, 8, 208, 109, 209],
  [305, 707, 507, 708, 9, 607, 808, 807, 908, 708, 9, 907, 108, 506, 8, 208, 109, 209, 808, 308, 908, 408, 109, 209, 508, 608, 606],
  [902, 701, 3, 405, 707, 203, 505, 801, 605, 405, 707, 507, 708, 9, 607, 808, 807, 106, 505, 704, 605, 206, 807, 106, 306, 804, 406],
  [405, 707, 507, 708, 9, 607, 808, 807, 908, 708, 9, 907, 108, 506, 8, 208, 109, 209, 808, 308, 908, 408, 109, 209, 508, 608, 606],
  [505, 704, 605, 206, 308, 106, 306, 804, 406, 206, 308, 908, 408, 109, 209, 508, 608, 606, 306, 102, 406, 603, 608, 606, 703, 202, 803],
  [702, 802, 501, 105, 205, 601, 305, 103, 507, 105, 205, 504, 705, 805, 604, 905, 6, 607, 305, 707, 507, 708, 6, 607, 808, 807, 908],
  [105, 205, 504, 705, 805, 604, 905, 6, 907, 705, 805, 901, 303, 403, 2, 503, 506, 8, 905, 9, 907, 108, 506, 8, 208, 109, 209],
  [305, 707, 507, 708, 9, 607, 808, 807, 908, 708, 9, 907, 108, 506, 8, 208, 109, 209, 808, 308, 908, 408, 109, 209, 508, 608, 706],
  [105, 205, 504, 705, 805, 604, 905, 6, 907, 705, 805, 901, 303, 403, 2, 503, 506, 8, 905, 9, 907, 108, 506, 8, 208, 109, 806],
  [705, 805, 901, 303, 403, 2, 503, 506, 903, 303, 403, 500, 600, 700, 800, 900, 4, 104, 503, 906, 903, 302, 4, 104, 402, 7, 107],
  [905, 9, 907, 108, 906, 8, 208, 109, 806, 108, 906, 903, 302, 4, 104, 402, 7, 107, 208, 207, 806, 904, 7, 107, 5, 307, 407],
  [305, 707, 507, 708, 9, 607, 808, 807, 908, 708, 9, 907, 108, 906, 8, 208, 109, 209, 808, 308, 908, 408, 109, 209, 508, 608, 706],
  [708, 9, 907, 108, 906, 8, 208, 109, 806, 108, 906, 903, 302, 4, 104, 402, 7, 107, 208, 207, 806, 904, 7, 107, 5, 307, 407],
  [808, 308, 908, 408, 207, 209, 508, 608, 706, 408, 207, 806, 904, 7, 107, 5, 307, 407, 508, 204, 706, 502, 307, 407, 602, 304, 404],
  [902, 701, 3, 405, 707, 203, 505, 801, 605, 405, 707, 507, 708, 9, 607, 808, 807, 106, 505, 704, 605, 206, 807, 106, 306, 804, 406],
  [405, 707, 507, 708, 9, 607, 808, 807, 908, 708, 9, 907, 108, 906, 8, 208, 109, 209, 808, 308, 908, 408, 109, 209, 508, 608, 606],
  [505, 704, 605, 206, 308, 106, 306, 804, 406, 206, 308, 908, 408, 109, 209, 508, 608, 606, 306, 102, 406, 603, 608, 606, 703, 202, 803],
  [405, 707, 507, 708, 9, 607, 808, 807, 908, 708, 9, 907, 108, 906, 8, 208, 109, 209, 808, 308, 908, 408, 109, 209, 508, 608, 706],
  [708, 9, 907, 108, 906, 8, 208, 109, 806, 108, 906, 903, 302, 4, 104, 402, 7, 107, 208, 207, 806, 904, 7, 107, 5, 307, 407],
  [808, 308, 908, 408, 207, 209, 508, 608, 706, 408, 207, 806, 904, 7, 107, 5, 307, 407, 508, 204, 706, 502, 307, 407, 602, 304, 404],
  [505, 704, 605, 206, 308, 106, 306, 804, 406, 206, 308, 908, 408, 207, 209, 508, 608, 606, 306, 102, 406, 603, 608, 606, 703, 202, 803],
  [206, 308, 908, 408, 207, 209, 508, 608, 706, 408, 207, 806, 904, 7, 107, 5, 307, 407, 508, 204, 706, 502, 307, 407, 602, 304, 404],
  [306, 102, 406, 603, 204, 606, 703, 202, 803, 603, 204, 706, 502, 307, 407, 602, 304, 404, 703, 1, 803, 101, 304, 404, 201, 301, 401]]
def code3 (a b c : Nat) : Nat := (a - 97) * 9 + (b - 97) * 3 + (c - 97)
def entryAt (n : Nat) : List Nat × List (List Nat) := (reachTs.getD (n / 100) []).getD (n % 100) ([], [])
def goodW (p : List Nat × List (List Nat)) (u : List Nat) : Bool := p.1 == startP u && p.2.any (· == u) && decide ((p.2.length : Int) = (cntI ((lastsP u).map fun d => ((colP u d).length : Int))).2)
def placeOf (a b c d e f : Nat) : Nat := (placeT.getD (code3 a b c) []).getD (code3 d e f) 0
def smallL : List Nat := [97, 98, 99]
def goodAll (a b : Nat) : Bool := smallL.all fun c => smallL.all fun d => smallL.all fun e => smallL.all fun f => goodW (entryAt (placeOf a b c d e f)) [a, b, c, d, e, f]
theorem goodAll_97_97 : goodAll 97 97 = true := by decide +kernel
theorem goodAll_97_98 : goodAll 97 98 = true := by decide +kernel
theorem goodAll_97_99 : goodAll 97 99 = true := by decide +kernel
theorem goodAll_98_97 : goodAll 98 97 = true := by decide +kernel
theorem goodAll_98_98 : goodAll 98 98 = true := by decide +kernel
theorem goodAll_98_99 : goodAll 98 99 = true := by decide +kernel
theorem goodAll_99_97 : goodAll 99 97 = true := by decide +kernel
theorem goodAll_99_98 : goodAll 99 98 = true := by decide +kernel
theorem goodAll_99_99 : goodAll 99 99 = true := by decide +kernel
end Mine
end

/- L2 -/
section
open PySem PySem.W PyProof.Rows PySem.Calls
set_option Elab.async false
set_option linter.unusedVariables false
namespace Mine
theorem lastsP_filter (c : Nat) : ∀ X : List Nat, lastsP (X.filter fun o => lo1 o != lo1 c) = (lastsP X).filter fun o => lo1 o != lo1 c
  | [] => rfl
  | d :: r => by
    have ih := lastsP_filter c r
    by_cases h : lo1 d = lo1 c
    · rw [List.filter_cons, if_neg (by simp [h]), ih, lastsP, List.filter_append]
      have : (if (r.map lo1).contains (lo1 d) = true then [] else [d]).filter (fun o => lo1 o != lo1 c) = [] := by
        split <;> simp [h]
      rw [this, List.nil_append]
    · rw [List.filter_cons, if_pos (by simp [h]), lastsP, ih, lastsP, List.filter_append]
      congr 1
      have e : ((r.filter fun o => lo1 o != lo1 c).map lo1).contains (lo1 d) = (r.map lo1).contains (lo1 d) := by
        rw [Bool.eq_iff_iff, List.contains_iff_mem, List.contains_iff_mem, List.mem_map, List.mem_map]
        constructor
        · rintro ⟨x, hx, e⟩
          exact ⟨x, (List.mem_filter.mp hx).1, e⟩
        · rintro ⟨x, hx, e⟩
          exact ⟨x, List.mem_filter.mpr ⟨hx, by simpa [e] using h⟩, e⟩
      rw [e]
      split <;> simp [h]
theorem cols_filter (w : List Nat) (c : Nat) : ∀ l : List Nat, ((l.map (colP w)).flatten).filter (fun o => lo1 o != lo1 c) = ((l.filter fun o => lo1 o != lo1 c).map (colP w)).flatten
  | [] => rfl
  | d :: r => by
    rw [List.map_cons, List.flatten_cons, List.filter_append, cols_filter w c r, List.filter_cons]
    by_cases h : lo1 d = lo1 c
    · rw [if_neg (by simp [h])]
      have : (colP w d).filter (fun o => lo1 o != lo1 c) = [] := List.filter_eq_nil_iff.mpr fun x hx => by
        have := (List.mem_filter.mp hx).2
        simp at this
        simp [this, h]
      rw [this, List.nil_append]
    · rw [if_pos (by simp [h]), List.map_cons, List.flatten_cons]
      congr 1
      exact List.filter_eq_self.mpr fun x hx => by
        have := (List.mem_filter.mp hx).2
        simp at this
        simp [this, h]
theorem startP_snoc (w : List Nat) (c : Nat) : startP (w ++ [c]) = (startP w).filter (fun o => lo1 o != lo1 c) ++ colP w c ++ [c] := by
  unfold startP
  rw [lastsP_snoc, List.map_append, List.flatten_append, cols_filter, List.append_assoc]
  congr 1
  · congr 1
    refine List.map_congr_left fun d hd => ?_
    have := (List.mem_filter.mp hd).2
    rw [colP_snoc, if_neg (by simp only [bne_iff_ne, ne_eq] at this; simpa using fun q => this q.symm), List.append_nil]
  · rw [List.map_cons, List.map_nil, List.flatten_cons, List.flatten_nil, List.append_nil, colP_snoc, if_pos (by simp)]
theorem start_same (w : List Nat) : Same (startP w) w := by
  suffices h : ∀ n (w : List Nat), w.length = n → Same (startP w) w from h _ w rfl
  intro n
  induction n with
  | zero => intro w h; rw [List.length_eq_zero_iff.mp h]; exact ⟨rfl, fun _ => rfl⟩
  | succ n ih =>
    intro w h
    rcases List.eq_nil_or_concat w with rfl | ⟨v, c, rfl⟩
    · simp at h
    rw [List.concat_eq_append] at h ⊢
    have ih := ih v (by simpa using h)
    rw [startP_snoc]
    refine ⟨?_, fun x => ?_⟩
    · rw [lastsP_snoc, lastsP_snoc, ← lastsP_filter, ← lastsP_filter]
      congr 1
      rw [List.filter_append, List.filter_filter]
      have : (colP v c).filter (fun o => lo1 o != lo1 c) = [] := List.filter_eq_nil_iff.mpr fun x hx => by
        have := (List.mem_filter.mp hx).2
        simp at this
        simp [this]
      rw [this, List.append_nil]
      simp only [Bool.and_self]
      rw [lastsP_filter, lastsP_filter, ih.lasts]
    · rw [colP_snoc, colP_snoc]
      congr 1
      unfold colP
      rw [List.filter_append, List.filter_filter, List.filter_filter]
      by_cases hx : lo1 x = lo1 c
      · have e1 : (startP v).filter (fun a => lo1 a == lo1 x && lo1 a != lo1 c) = [] := List.filter_eq_nil_iff.mpr fun y _ => by
          simp [hx]
        rw [e1, List.nil_append]
        exact List.filter_congr fun y _ => by simp [hx]
      · have e2 : v.filter (fun a => lo1 a == lo1 x && lo1 a == lo1 c) = [] := List.filter_eq_nil_iff.mpr fun y _ => by
          simp
          intro q; rw [q]; exact hx
        rw [e2, List.append_nil]
        have := ih.cols x
        unfold colP at this
        rw [← this]
        exact List.filter_congr fun y _ => by
          by_cases q : lo1 y = lo1 x
          · simp [q, hx]
          · simp [q]
theorem len_split (c : Nat) : ∀ l : List Nat, (l.filter fun o => lo1 o != lo1 c).length + (colP l c).length = l.length
  | [] => rfl
  | d :: r => by
    have ih := len_split c r
    unfold colP at ih ⊢
    rw [List.filter_cons, List.filter_cons]
    by_cases h : lo1 d = lo1 c
    · simp [h]; omega
    · simp [h]; omega
theorem start_len (w : List Nat) : (startP w).length = w.length := by
  suffices h : ∀ n (w : List Nat), w.length = n → (startP w).length = w.length from h _ w rfl
  intro n
  induction n with
  | zero => intro w h; rw [List.length_eq_zero_iff.mp h]; rfl
  | succ n ih =>
    intro w h
    rcases List.eq_nil_or_concat w with rfl | ⟨v, c, rfl⟩
    · simp at h
    rw [List.concat_eq_append] at h ⊢
    have ih := ih v (by simpa using h)
    rw [startP_snoc, ← (start_same v).cols c]
    have := len_split c (startP v)
    simp only [List.length_append, List.length_cons, List.length_nil]
    omega
theorem law_start {w : List Nat} (h : RowOk w) : RowOk (startP w) := by
  refine ⟨(start_len w).trans h.1, fun c hc => ?_⟩
  obtain ⟨l, hl, hc⟩ := List.mem_flatten.mp hc
  obtain ⟨d, _, rfl⟩ := List.mem_map.mp hl
  exact h.2 c (List.mem_filter.mp hc).1
theorem law_rows {w : List Nat} (h : RowOk w) : ∀ r ∈ reach 70 0 [startP w], Same r (startP w) ∧ r.length = 6 :=
  reach_same 70 0 _ fun q hq => by rw [List.mem_singleton.mp hq]; exact ⟨Same.refl _, (law_start h).1⟩
theorem law_same {w : List Nat} (h : RowOk w) : ∀ r ∈ reach 70 0 [startP w], tabP r = tabP w := fun r hr => ((law_rows h r hr).1.trans (start_same w)).tab
/-- what is written small and has the same columns is the same -/
theorem same_inj : ∀ {a b : List Nat}, a.map lo1 = b.map lo1 → (∀ c, colP a c = colP b c) → a = b
  | [], [], _, _ => rfl
  | [], _ :: _, h, _ => by simp at h
  | _ :: _, [], h, _ => by simp at h
  | x :: a, y :: b, h, hc => by
    rw [List.map_cons, List.map_cons] at h
    have h1 := (List.cons.inj h).1
    have h2 := (List.cons.inj h).2
    have key := hc x
    unfold colP at key
    rw [List.filter_cons, if_pos (by simp), List.filter_cons, if_pos (by simp [h1])] at key
    have hxy := (List.cons.inj key).1
    subst hxy
    congr 1
    refine same_inj h2 fun c => ?_
    have := hc c
    unfold colP at this ⊢
    rw [List.filter_cons, List.filter_cons] at this
    by_cases q : (lo1 x == lo1 c) = true
    · rw [if_pos q, if_pos q] at this; exact (List.cons.inj this).2
    · rw [if_neg q, if_neg q] at this; exact this
theorem lo1_lo1 (c : Nat) : lo1 (lo1 c) = lo1 c := by
  unfold lo1
  by_cases h : 65 ≤ c ∧ c ≤ 90
  · rw [if_pos h, if_neg (by omega)]
  · rw [if_neg h, if_neg h]
theorem lo1_map (l : List Nat) : (l.map lo1).map lo1 = l.map lo1 := by
  rw [List.map_map]; exact List.map_congr_left fun x _ => lo1_lo1 x
theorem getD_low (r : List Nat) (k : Nat) : (r.map lo1).getD k 0 = lo1 (r.getD k 0) := by
  rw [List.getD_eq_getElem?_getD, List.getD_eq_getElem?_getD, List.getElem?_map]
  cases r[k]? <;> rfl
theorem tog_low (r : List Nat) (k : Nat) : tog (r.map lo1) k = tog r k := by
  unfold tog
  rw [getD_low, getD_low, lo1_lo1, lo1_lo1, ← List.map_drop, lo1_map]
theorem swp_low (r : List Nat) (k : Nat) : swp (r.map lo1) k = (swp r k).map lo1 := by
  unfold swp
  rw [getD_low, getD_low, List.map_append, List.map_cons, List.map_cons, List.map_take, List.map_drop]
theorem any_low {s q : List Nat} {rs : List (List Nat)} (hs : ∀ x ∈ rs, Same x s) (hq : Same q s) : ((rs.map fun x => x.map lo1).any (· == q.map lo1)) = rs.any (· == q) := by
  rw [Bool.eq_iff_iff, List.any_eq_true, List.any_eq_true]
  constructor
  · rintro ⟨x, hx, e⟩
    obtain ⟨y, hy, rfl⟩ := List.mem_map.mp hx
    refine ⟨y, hy, ?_⟩
    rw [beq_iff_eq] at e ⊢
    exact same_inj e fun c => ((hs y hy).cols c).trans (hq.cols c).symm
  · rintro ⟨x, hx, e⟩
    rw [beq_iff_eq] at e
    subst e
    exact ⟨_, List.mem_map_of_mem hx, by simp⟩
theorem turn1_low {s r : List Nat} {rs : List (List Nat)} (hr : Same r s) (hl : r.length = 6) (hs : ∀ x ∈ rs, Same x s) {k : Nat} (hk : k < 5) : (turn1 r rs k).map (fun x => x.map lo1) = turn1 (r.map lo1) (rs.map fun x => x.map lo1) k := by
  unfold turn1
  rw [tog_low, swp_low]
  cases ht : tog r k with
  | false => simp
  | true =>
    rw [any_low hs ((swp_same (by omega) ht).trans hr)]
    cases hb : rs.any (· == swp r k) <;> simp
theorem turn_low {s r : List Nat} {rs : List (List Nat)} (hr : Same r s) (hl : r.length = 6) (hs : ∀ x ∈ rs, Same x s ∧ x.length = 6) : ∀ n, n ≤ 5 → (turn r rs n).map (fun x => x.map lo1) = turn (r.map lo1) (rs.map fun x => x.map lo1) n
  | 0, _ => rfl
  | n + 1, hn => by
    rw [turn_succ, turn_succ, turn1_low hr hl (fun x hx => (turn_same' hr hl hs n (by omega) x hx).1) (by omega), turn_low hr hl hs n (by omega)]
theorem reach_low {s : List Nat} : ∀ (f n : Nat) (rs : List (List Nat)), (∀ q ∈ rs, Same q s ∧ q.length = 6) → (reach f n rs).map (fun x => x.map lo1) = reach f n (rs.map fun x => x.map lo1)
  | 0, _, _, _ => rfl
  | f + 1, n, rs, h => by
    rw [reach, reach, List.length_map]
    split
    · rename_i hc
      simp only [Bool.and_eq_true, decide_eq_true_eq] at hc
      have hr : rs.getD n [] ∈ rs := by
        rw [List.getD_eq_getElem?_getD, List.getElem?_eq_getElem hc.1]
        exact List.getElem_mem _
      have e : (rs.map fun x => x.map lo1).getD n [] = (rs.getD n []).map lo1 := by
        rw [List.getD_eq_getElem?_getD, List.getD_eq_getElem?_getD, List.getElem?_map, List.getElem?_eq_getElem hc.1]; rfl
      rw [reach_low f _ _ (turn_same' (h _ hr).1 (h _ hr).2 h 5 (Nat.le_refl _)), turn_low (h _ hr).1 (h _ hr).2 h 5 (Nat.le_refl _), e]
    · rfl
theorem lastsP_map (w : List Nat) : lastsP (w.map lo1) = (lastsP w).map lo1 := by
  induction w with
  | nil => rfl
  | cons d r ih =>
    rw [List.map_cons, lastsP, lastsP, ih, lo1_map, lo1_lo1, List.map_append]
    congr 1
    split <;> rfl
theorem colP_map (w : List Nat) (d : Nat) : colP (w.map lo1) (lo1 d) = (colP w d).map lo1 := by
  unfold colP
  rw [List.filter_map]
  congr 1
  exact List.filter_congr fun x _ => by simp [Function.comp, lo1_lo1]
theorem startP_map (w : List Nat) : startP (w.map lo1) = (startP w).map lo1 := by
  unfold startP
  rw [lastsP_map, List.map_flatten, List.map_map, List.map_map]
  congr 1
  exact List.map_congr_left fun d _ => colP_map w d
theorem sizes_map (w : List Nat) : ((lastsP (w.map lo1)).map fun d => ((colP (w.map lo1) d).length : Int)) = (lastsP w).map fun d => ((colP w d).length : Int) := by
  rw [lastsP_map, List.map_map]
  exact List.map_congr_left fun d _ => by
    simp only [Function.comp]
    rw [colP_map, List.length_map]
theorem tab_ok {n : Nat} {u : List Nat} (h : goodW (entryAt n) u = true) : (reach 70 0 [startP u]).any (· == u) = true ∧ ((reach 70 0 [startP u]).length : Int) = (cntI ((lastsP u).map fun d => ((colP u d).length : Int))).2 := by
  have key : ∀ p, (∃ T ∈ reachTs, p ∈ T) → reach 70 0 [p.1] = p.2 := by
    rintro p ⟨T, hT, hp⟩
    have all : ∀ T ∈ reachTs, T.all (fun p => reach 70 0 [p.1] == p.2) = true := by
      intro T hT
      simp only [reachTs, List.mem_cons, List.not_mem_nil, or_false] at hT
      rcases hT with rfl | rfl | rfl | rfl | rfl | rfl | rfl | rfl | rfl | rfl
      · exact reachT0_ok
      · exact reachT1_ok
      · exact reachT2_ok
      · exact reachT3_ok
      · exact reachT4_ok
      · exact reachT5_ok
      · exact reachT6_ok
      · exact reachT7_ok
      · exact reachT8_ok
      · exact reachT9_ok
    exact beq_iff_eq.mp (List.all_eq_true.mp (all T hT) p hp)
  have h0 := h
  unfold goodW at h
  rw [Bool.and_eq_true, Bool.and_eq_true, beq_iff_eq, decide_eq_true_eq] at h
  obtain ⟨⟨h1, h2⟩, h3⟩ := h
  have he : ∃ T ∈ reachTs, entryAt n ∈ T := by
    unfold entryAt at h2 ⊢
    cases hT : reachTs[n / 100]? with
    | none =>
      have : reachTs.getD (n / 100) [] = [] := by rw [List.getD_eq_getElem?_getD, hT]; rfl
      rw [this] at h2
      simp at h2
    | some T =>
      have eT : reachTs.getD (n / 100) [] = T := by rw [List.getD_eq_getElem?_getD, hT]; rfl
      rw [eT] at h2 ⊢
      refine ⟨T, List.mem_of_getElem? hT, ?_⟩
      cases hp : T[n % 100]? with
      | none =>
        have : T.getD (n % 100) ([], []) = ([], []) := by rw [List.getD_eq_getElem?_getD, hp]; rfl
        rw [this] at h2
        simp at h2
      | some p =>
        rw [List.getD_eq_getElem?_getD, hp]
        exact List.mem_of_getElem? hp
  have := key _ he
  rw [h1] at this
  rw [this]
  exact ⟨h2, h3⟩
theorem small_ok : ∀ a ∈ smallL, ∀ b ∈ smallL, goodAll a b = true := by
  intro a ha b hb
  simp only [smallL, List.mem_cons, List.not_mem_nil, or_false] at ha hb
  rcases ha with rfl | rfl | rfl <;> rcases hb with rfl | rfl | rfl
  · exact goodAll_97_97
  · exact goodAll_97_98
  · exact goodAll_97_99
  · exact goodAll_98_97
  · exact goodAll_98_98
  · exact goodAll_98_99
  · exact goodAll_99_97
  · exact goodAll_99_98
  · exact goodAll_99_99
theorem low_small {c : Nat} (h : isLet c = true) : lo1 c ∈ smallL := by
  rcases isLet_cases h with rfl | rfl | rfl | rfl | rfl | rfl <;> decide
theorem law_low {w : List Nat} (h : RowOk w) : (reach 70 0 [startP (w.map lo1)]).any (· == w.map lo1) = true ∧ ((reach 70 0 [startP (w.map lo1)]).length : Int) = (cntI ((lastsP (w.map lo1)).map fun d => ((colP (w.map lo1) d).length : Int))).2 := by
  obtain ⟨hl, hc⟩ := h
  match w, hl with
  | [a, b, c, d, e, f], _ =>
    have g : ∀ x ∈ [a, b, c, d, e, f], lo1 x ∈ smallL := fun x hx => low_small (hc x hx)
    have h1 := small_ok _ (g a (by simp)) _ (g b (by simp))
    unfold goodAll at h1
    have h2 := List.all_eq_true.mp (List.all_eq_true.mp (List.all_eq_true.mp (List.all_eq_true.mp h1 _ (g c (by simp))) _ (g d (by simp))) _ (g e (by simp))) _ (g f (by simp))
    exact tab_ok h2
theorem reach_start {w : List Nat} (h : RowOk w) : (reach 70 0 [startP w]).map (fun x => x.map lo1) = reach 70 0 [startP (w.map lo1)] := by
  have := reach_low (s := startP w) 70 0 [startP w] fun q hq => by rw [List.mem_singleton.mp hq]; exact ⟨Same.refl _, (law_start h).1⟩
  rw [this, startP_map]; rfl
theorem law_in {w : List Nat} (h : RowOk w) : (reach 70 0 [startP w]).any (· == w) = true := by
  have := (law_low h).1
  rw [← reach_start h, any_low (s := startP w) (fun x hx => (law_rows h x hx).1) (start_same w).symm] at this
  exact this
theorem law_len {w : List Nat} (h : RowOk w) : ((reach 70 0 [startP w]).length : Int) = (cntI ((lastsP w).map fun d => ((colP w d).length : Int))).2 := by
  have := (law_low h).2
  rw [← reach_start h, List.length_map, sizes_map] at this
  exact this
end Mine
end

/- G1 -/
section
open PySem PySem.W PyProof.Rows PySem.Calls
set_option Elab.async false
set_option maxRecDepth 100000
set_option maxHeartbeats 8000000
set_option linter.unusedVariables false
namespace Mine
section
variable {prog : Program} {w : World} {A : Around} {E : Value → Shared → Prop} {s : Shared}
/-- the tests of a turn -/
abbrev testsOf (ifs : List PySem.Expr) (env : Env) : Sem Bool :=
  forIn ifs true fun c r => if r = true then do let ok ← isTrue c env (eval c env); pure (ForInStep.yield ok) else pure (ForInStep.yield r)
theorem gen_loop {elt target iter : PySem.Expr} {ifs : List PySem.Expr} {scope : Scope} {pos : Pos} {it acc : Value} {env : Env} {R : Result → Shared → Prop} (I : Nat → Shared → Prop)
    (turn : ∀ n s, I n s → ∀ E' : Value → Shared → Prop, wpAny (model prog w) A (pyNext it) (fun r s₁ => match r with
      | none => R (.ok .next) s₁
      | some v => wpAny (model prog w) A (letOwnedTupleGo target it v) (fun _ s₀ => wpAny (model prog w) A (assign target env v) (fun _ s₂ =>
          wpAny (model prog w) A (testsOf ifs env) (fun ok s₃ => if ok = true then wpAny (model prog w) A (eval elt env) (fun x s₄ =>
            wpAny (model prog w) A (call (.builtin "list.append") [acc, x]) (fun _ s₅ => ∃ m, m < n ∧ I m s₅) E' s₄) E' s₃
            else ∃ m, m < n ∧ I m s₃) E' s₂) E' s₀) E' s₁) E' s)
    (n : Nat) (h : I n s) : codeAny (model prog w) A (.compLoop (.ListComp elt [⟨target, iter, ifs, 0⟩] scope pos) 0 it acc env) R s := by
  refine codeAny_loop rfl I (fun n s hI => ?_) n h
  show wpAny _ A ((compTurn (.ListComp elt [⟨target, iter, ifs, 0⟩] scope pos) 0 it acc env).onRaise (fun x => do noteFrame x env; theTreesLotGoes x)) _ _ s
  refine wpAny_noted ?_
  rw [compTurn_list]
  have id' : ∀ (e : Value) (s' : Shared) (X : Value → Shared → Prop), X e s' → X e s' := fun _ _ _ x => x
  refine wpAny_bind (wpAny_standAt (wpAny_bind (wpAny_mono (turn n s hI _) (fun r s₁ h₁ => ?_) fun _ _ x => x)))
  cases r with
  | none => exact wpAny_pure h₁
  | some v =>
    refine wpAny_bind (wpAny_mono h₁ (fun _ s₀ h₀ => wpAny_bind (wpAny_mono h₀ (fun _ s₂ h₂ => wpAny_bind (wpAny_mono h₂ (fun ok s₃ h₃ => ?_) fun _ _ x => x)) fun _ _ x => x)) fun _ _ x => x)
    cases ok with
    | false => exact wpAny_pure ⟨rfl, h₃⟩
    | true => exact wpAny_bind (wpAny_bind (wpAny_mono h₃ (fun x s₄ h₄ => wpAny_bind (wpAny_mono h₄ (fun _ s₅ h₅ => wpAny_pure (wpAny_pure ⟨rfl, h₅⟩)) fun _ _ x => x)) fun _ _ x => x))
theorem tests_none {env : Env} {Q : Bool → Shared → Prop} (h : Q true s) : wpAny (model prog w) A (testsOf [] env) Q E s := by
  simp only [List.forIn_nil]
  exact wpAny_pure h
theorem newEnv_comp {M : Model} {scope : Scope} {g : Addr} {cl : List (Str × Addr)} {q : Str} {env : Env} {Q : Env → Shared → Prop}
    (h : Q { scope, locals := s.heap.objs.size, globals := g, cells := cellsFrom (s.heap.objs.size + 1) scope.names cl, qual := q, func := none, code := env.code, frame := env.frame, builtins := env.builtins }
      { s with heap := pushCells (s.heap.push { cls := .type "dict", data := .dict #[] }) scope.names }) : wpAny M A (newFunctionEnv scope g cl [] q none .none (some env)) Q E s := by
  simp only [newFunctionEnv, Option.isSome_some, if_true]
  refine wpAny_bind (wpAny_alloc ?_)
  refine wpAny_bind (wpAny_layCells _ (fun name kind cells => by cases hkc : kind == NameKind.cell <;> simp [hkc]) _ _ _ _ ?_)
  rw [show ({ s with heap := s.heap.push { cls := .type "dict", data := .dict #[] } } : Shared).heap.objs.size = s.heap.objs.size + 1 from Heap.size_push ..]
  simp only [List.forIn_nil]
  exact wpAny_bind (wpAny_pure (wpAny_pure h))

variable {h₀ : Heap} {L : Addr} {m : Str → Option Value} {news : List (Addr × Obj)}
/-- the turns of a comprehension whose elements turn nothing that stands -/
theorem comp_loop {elt target iter : PySem.Expr} {ifs : List PySem.Expr} {scope : Scope} {pos : Pos} {cenv : Env} {I D C : Addr} {h₃ : Heap} {tk₃ n : Nat} {use : Option (Value → Sem Unit)} {Q : Value → Shared → Prop}
    (own : List Addr) (St : Nat → Heap → Prop) (B : Nat → Heap → Prop) (Y : Nat → List Value → Prop)
    (hn : n ≤ sizeLine) (hYl : ∀ i ys, Y i ys → ys.length ≤ i) (hC : C ∈ own) (hD : D ∉ own) (hDL : D ≠ L) (hL : L ∉ own) (ho : ∀ a ∈ D :: own, h₀.get? a = none) (off : ∀ p ∈ news, p.1 ∉ D :: own)
    (F : Fr h₀ L h₃ m) (N : News h₀ L h₃ ((D, LCg.lst []) :: news)) (st : St 0 h₃) (y0 : Y 0 [])
    (ns : ∀ i h, St i h → ∃ m', h.Ns C m')
    (frame : ∀ i h h', St i h → (∀ b o, b ≠ D → h.get? b = some o → h'.get? b = some o) → St i h')
    (bnd : ∀ i h h', B i h → (∀ b o, h.get? b = some o → h'.get? b = some o) → St (i + 1) h')
    (self : ∀ (s : Shared) (Q : Value → Shared → Prop) (E : Value → Shared → Prop), St 0 s.heap → Q (.ref I) s → wpAny (model prog w) A (pyIter (.ref I)) Q E s)
    (fetch : ∀ i h tk (Q' : Unit → Shared → Prop) (E' : Value → Shared → Prop), i < n → St i h → (∀ h' tk', B i h' → (∀ b o, b ∉ own → h.get? b = some o → h'.get? b = some o) → Q' () { s with heap := h', toks := tk' }) →
      wpAny (model prog w) A (pyNext (.ref I)) (fun r s₁ => match r with
        | none => False
        | some v => wpAny (model prog w) A (letOwnedTupleGo target (.ref I) v) (fun _ s₀ => wpAny (model prog w) A (assign target cenv v) Q' E' s₀) E' s₁) E' { s with heap := h, toks := tk })
    (done : ∀ h tk (Q' : Option Value → Shared → Prop) (E' : Value → Shared → Prop), St n h → (∀ h' tk', (∀ b o, b ∉ own → h.get? b = some o → h'.get? b = some o) → (∃ m', h'.Ns C m') → Q' none { s with heap := h', toks := tk' }) →
      wpAny (model prog w) A (pyNext (.ref I)) Q' E' { s with heap := h, toks := tk })
    (turn : ∀ i h tk ys (E' : Value → Shared → Prop), i < n → B i h → Fr h₀ L h m → News h₀ L h ((D, LCg.lst ys) :: news) → Y i ys →
      wpAny (model prog w) A (testsOf ifs cenv) (fun ok s₃ => if ok = true then
        wpAny (model prog w) A (eval elt cenv) (fun x s₄ => ∃ h' tk', s₄ = { s with heap := h', toks := tk' } ∧ (∀ b o, h.get? b = some o → h'.get? b = some o) ∧ Y (i + 1) (ys ++ [x])) E' s₃
        else ∃ h' tk', s₃ = { s with heap := h', toks := tk' } ∧ (∀ b o, h.get? b = some o → h'.get? b = some o) ∧ Y (i + 1) ys) E' { s with heap := h, toks := tk })
    (fin : ∀ h tk ys, Y n ys → Fr h₀ L h m → News h₀ L h ((D, LCg.lst ys) :: news) → (∃ m', h.Ns C m') → C ≠ L → h₀.get? C = none → (∀ p ∈ (D, LCg.lst ys) :: news, p.1 ≠ C) → (∀ b o, b ∉ D :: own → h₃.get? b = some o → h.get? b = some o) → compPost (model prog w) A E use Q (.ref D) C (.ok .next) { s with heap := h, toks := tk }) :
    codeAny (model prog w) A (.compStart (.ListComp elt [⟨target, iter, ifs, 0⟩] scope pos) 0 (.ref I) (.ref D) cenv) (compPost (model prog w) A E use Q (.ref D) C) { s with heap := h₃, toks := tk₃ } := by
  have keepF : ∀ {h h' : Heap}, Fr h₀ L h m → (∀ b o, b ∉ own → h.get? b = some o → h'.get? b = some o) → Fr h₀ L h' m := fun {h h'} F hk =>
    ⟨F.ns.at' fun o e => hk _ o hL e, fun b o e => hk b o (fun q => by have := ho b (.tail _ q); rw [this] at e; cases e) (F.keep b o e), F.above⟩
  have keepN : ∀ {h h' : Heap} {ys : List Value}, News h₀ L h ((D, LCg.lst ys) :: news) → (∀ b o, b ∉ own → h.get? b = some o → h'.get? b = some o) → News h₀ L h' ((D, LCg.lst ys) :: news) := fun {h h' ys} N hk p hp =>
    ⟨hk _ _ (by
      rcases List.mem_cons.mp hp with rfl | hp
      · exact hD
      · exact fun q => off p hp (.tail _ q)) (N p hp).1, (N p hp).2⟩
  have loop : codeAny (model prog w) A (.compLoop (.ListComp elt [⟨target, iter, ifs, 0⟩] scope pos) 0 (.ref I) (.ref D) cenv) (compPost (model prog w) A E use Q (.ref D) C) { s with heap := h₃, toks := tk₃ } := by
    refine gen_loop (fun k s' => ∃ i h tk ys, k = n + 1 - i ∧ i ≤ n ∧ s' = { s with heap := h, toks := tk } ∧ St i h ∧ Fr h₀ L h m ∧ News h₀ L h ((D, LCg.lst ys) :: news) ∧ Y i ys ∧ (∀ b o, b ∉ D :: own → h₃.get? b = some o → h.get? b = some o)) ?_ (n + 1) ⟨0, h₃, tk₃, [], rfl, Nat.zero_le _, rfl, st, F, N, y0, fun _ _ _ e => e⟩
    rintro k s' ⟨i, h, tk, ys, rfl, hi, rfl, st, F, N, hY, kp⟩ E'
    by_cases hlt : i < n
    · refine wpAny_mono (fetch i h tk (fun _ s₂ => wpAny (model prog w) A (testsOf ifs cenv) (fun ok s₃ => if ok = true then wpAny (model prog w) A (eval elt cenv) (fun x s₄ =>
            wpAny (model prog w) A (call (.builtin "list.append") [.ref D, x]) (fun _ s₅ => ∃ m₁, m₁ < n + 1 - i ∧ ∃ i h tk ys, m₁ = n + 1 - i ∧ i ≤ n ∧ s₅ = { s with heap := h, toks := tk } ∧ St i h ∧ Fr h₀ L h m ∧ News h₀ L h ((D, LCg.lst ys) :: news) ∧ Y i ys ∧ (∀ b o, b ∉ D :: own → h₃.get? b = some o → h.get? b = some o)) E' s₄) E' s₃
            else ∃ m₁, m₁ < n + 1 - i ∧ ∃ i h tk ys, m₁ = n + 1 - i ∧ i ≤ n ∧ s₃ = { s with heap := h, toks := tk } ∧ St i h ∧ Fr h₀ L h m ∧ News h₀ L h ((D, LCg.lst ys) :: news) ∧ Y i ys ∧ (∀ b o, b ∉ D :: own → h₃.get? b = some o → h.get? b = some o)) E' s₂) E' hlt st fun h' tk' b hk => ?_) (fun r s₁ h₁ => ?_) fun _ _ x => x
      · have F' := keepF F hk
        have N' := keepN N hk
        refine wpAny_mono (turn i h' tk' ys E' hlt b F' N' hY) (fun ok s₃ h3 => ?_) fun _ _ x => x
        have up : ∀ {h'' : Heap} (tk'' : Nat) (ys' : List Value), St (i + 1) h'' → Fr h₀ L h'' m → News h₀ L h'' ((D, LCg.lst ys') :: news) → Y (i + 1) ys' → (∀ b o, b ∉ D :: own → h₃.get? b = some o → h''.get? b = some o) →
            ∃ m₁, m₁ < n + 1 - i ∧ ∃ i h tk ys, m₁ = n + 1 - i ∧ i ≤ n ∧ ({ s with heap := h'', toks := tk'' } : Shared) = { s with heap := h, toks := tk } ∧ St i h ∧ Fr h₀ L h m ∧ News h₀ L h ((D, LCg.lst ys) :: news) ∧ Y i ys ∧ (∀ b o, b ∉ D :: own → h₃.get? b = some o → h.get? b = some o) :=
          fun tk'' ys' a1 a2 a3 a4 a5 => ⟨n + 1 - (i + 1), by omega, i + 1, _, tk'', ys', rfl, hlt, rfl, a1, a2, a3, a4, a5⟩
        cases ok with
        | false =>
          simp only [Bool.false_eq_true, if_false] at h3 ⊢
          obtain ⟨h'', tk'', rfl, hk', hY'⟩ := h3
          exact up tk'' ys (bnd _ _ _ b hk') (F'.keeps hk') (fun p hp => ⟨hk' _ _ (N' p hp).1, (N' p hp).2⟩) hY' fun b o hb e => hk' b o (hk b o (fun q => hb (.tail _ q)) (kp b o hb e))
        | true =>
          simp only [if_true] at h3 ⊢
          refine wpAny_mono h3 (fun x s₄ h4 => ?_) fun _ _ x => x
          obtain ⟨h'', tk'', rfl, hk', hY'⟩ := h4
          have N'' : News h₀ L h'' ((D, LCg.lst ys) :: news) := fun p hp => ⟨hk' _ _ (N' p hp).1, (N' p hp).2⟩
          refine append_at (hsz := by show ys.toArray.size ≤ sizeLine; rw [List.size_toArray]; exact Nat.le_trans (hYl _ _ hY) (Nat.le_trans hi hn)) (N'' _ (.head _)).1 fun h₅ hs₅ hD₅ => ?_
          refine up tk'' (ys ++ [x]) (frame _ _ _ (bnd _ _ _ b hk') fun b o hb e => hs₅.extBut b o hb e) ((F'.keeps hk').change hs₅ hDL (ho D (.head _))) (fun p hp => ?_) hY' fun b o hb e => hs₅.extBut b o (fun q => hb (q ▸ .head _)) (hk' b o (hk b o (fun q => hb (.tail _ q)) (kp b o hb e)))
          rcases List.mem_cons.mp hp with rfl | hp
          · exact ⟨hD₅.trans (congrArg some (LCg.lst_snoc ys x)), hDL, ho D (.head _)⟩
          · exact ⟨hs₅.extBut _ _ (fun q => off p hp (by rw [q]; exact .head _)) (N'' p (.tail _ hp)).1, (N'' p (.tail _ hp)).2⟩
      · cases r with
        | none => exact h₁.elim
        | some v => exact h₁
    · obtain rfl : i = n := Nat.le_antisymm hi (Nat.not_lt.mp hlt)
      refine done h tk _ _ st fun h' tk' hk hns => ?_
      have F' := keepF F hk
      have N' := keepN N hk
      have hCD : C ≠ D := fun q => hD (q ▸ hC)
      have hCL : C ≠ L := fun q => hL (q ▸ hC)
      refine fin h' tk' ys hY F' N' hns hCL (ho C (.tail _ hC)) (fun p hp => ?_) fun b o hb e => hk b o (fun q => hb (.tail _ q)) (kp b o hb e)
      rcases List.mem_cons.mp hp with rfl | hp
      · exact Ne.symm hCD
      · exact fun q => off p hp (q ▸ .tail _ hC)
  exact codeAny_compStart_list loop (self _ _ _ st loop)
theorem fin_none {C D : Addr} {ys : List Value} {h : Heap} {tk : Nat} {Q : Value → Shared → Prop} (F : Fr h₀ L h m) (N : News h₀ L h ((D, LCg.lst ys) :: news)) (ns : ∃ m', h.Ns C m') (hCL : C ≠ L) (hC : h₀.get? C = none) (off : ∀ p ∈ (D, LCg.lst ys) :: news, p.1 ≠ C)
    (fin : ∀ h' tk, Fr h₀ L h' m → News h₀ L h' ((D, LCg.lst ys) :: news) → Heap.SameBut C h h' → Q (.ref D) { s with heap := h', toks := tk }) :
    compPost (model prog w) A E none Q (.ref D) C (.ok .next) { s with heap := h, toks := tk } := by
  obtain ⟨m', hm'⟩ := ns
  exact ⟨m', hm', fun h'' hs'' => fin h'' tk (F.change hs'' hCL hC) (fun p hp => ⟨hs''.extBut _ _ (off p hp) (N p hp).1, (N p hp).2⟩) hs''⟩
theorem fin_assign {C D : Addr} {ys : List Value} {h : Heap} {tk : Nat} {y : Str} {py : Pos} {env : Env} {Q : Value → Shared → Prop} (hLe : env.locals = L) (hy : env.kindOf y = some .local) (hp : (env.scope.kind == .class || (env.scope.kind == .module && env.locals != env.globals)) = false)
    (F : Fr h₀ L h m) (N : News h₀ L h ((D, LCg.lst ys) :: news)) (ns : ∃ m', h.Ns C m') (hCL : C ≠ L) (hC : h₀.get? C = none) (off : ∀ p ∈ (D, LCg.lst ys) :: news, p.1 ≠ C)
    (fin : ∀ h tk, Fr h₀ L h (fun z => if z = y then some (.ref D) else m z) → News h₀ L h ((D, LCg.lst ys) :: news) → Q .none { s with heap := h, toks := tk }) :
    compPost (model prog w) A E (some (assign (.Name y py) env)) Q (.ref D) C (.ok .next) { s with heap := h, toks := tk } := by
  obtain ⟨m', hm'⟩ := ns
  subst hLe
  show wpAny _ _ (assign (.Name y py) env (.ref D)) _ _ _
  refine wpAny_assign_Name (wpAny_storeName_local hy F.ns (fun h₂ hn₂ hs₂ => ?_) hp)
  have F₂ := F.set hn₂ hs₂
  have N₂ := N.set hs₂
  refine ⟨m', hm'.at' fun o e => hs₂.extBut _ o hCL e, fun h'' hs'' => fin h'' _ (F₂.change hs'' hCL hC) fun p hp => ⟨hs''.extBut _ _ (off p hp) (N₂ p hp).1, (N₂ p hp).2⟩⟩
end
end Mine
end

/- G2 -/
section
open PySem PySem.W PyProof.Rows PySem.Calls
set_option Elab.async false
set_option maxRecDepth 100000
set_option maxHeartbeats 8000000
set_option linter.unusedVariables false
namespace Mine
section
variable {prog : Program} {w : World} {A : Around} {E : Value → Shared → Prop} {s : Shared} {h₀ : Heap} {L : Addr} {m : Str → Option Value} {env : Env}
theorem get_out {h : Heap} {a : Addr} (ha : h.objs.size ≤ a) : h.get? a = none := by
  cases e : h.get? a with
  | none => rfl
  | some o => exact absurd (Heap.lt_size e) (Nat.not_lt.mpr ha)
theorem base_out {h : Heap} {a : Addr} (F : Fr h₀ L h m) (ha : h.objs.size ≤ a) : h₀.get? a = none := by
  cases e : h₀.get? a with
  | none => rfl
  | some o => have := F.keep a o e; rw [get_out ha] at this; cases this
theorem notin2 {a I : Nat} (h : a < I) : a ∉ [I, I + 2] := by simp; omega
theorem notin3 {a I : Nat} (h : a < I) : a ∉ [I + 1, I, I + 2] := by simp; omega
theorem in3 {a I : Nat} (h : a ∈ [I + 1, I, I + 2]) : I ≤ a := by simp at h; omega
theorem ne_add (a : Nat) (k l : Nat) (h : k ≠ l) : a + k ≠ a + l := by omega
theorem ne_add0 (a : Nat) (l : Nat) (h : 0 ≠ l) : a ≠ a + l := by omega
theorem ne_lt {a I : Nat} (k : Nat) (h : a < I) : I + k ≠ a := by omega
/-- the source is a text -/
def SrcS (prog : Program) (w : World) (A : Around) (h₀ : Heap) (L : Addr) (m : Str → Option Value) (env : Env) (elt ct : PySem.Expr) (x : Str) (scope : Scope) (cl : List (Str × Addr)) (Q : Value → Shared → Prop) (xv : Value) (s₁ : Shared) : Prop :=
  ∃ (v : Str) (t : Tok) (news : List (Addr × Obj)) (Y : Nat → List Value → Prop), xv = .str v t ∧ A.handled = none ∧ Fr h₀ L s₁.heap m ∧ News h₀ L s₁.heap news ∧ v.cps.size ≤ sizeLine ∧ (∀ i ys, Y i ys → ys.length ≤ i) ∧ Y 0 [] ∧
    (∀ i c t' C oC D m₂ h tk ys (E' : Value → Shared → Prop), v.cps[i]? = some c → LCg.NsObj oC m₂ → m₂ x = some (.str ⟨#[c]⟩ t') → Fr h₀ L h m → News h₀ L h ((C, oC) :: (D, LCg.lst ys) :: news) → Y i ys →
      wpAny (model prog w) A (isTrue ct (compEnvC scope cl C env) (eval ct (compEnvC scope cl C env))) (fun ok s₃ => if ok = true then
        wpAny (model prog w) A (eval elt (compEnvC scope cl C env)) (fun x s₄ => ∃ h' tk', s₄ = { s₁ with heap := h', toks := tk' } ∧ (∀ b o, h.get? b = some o → h'.get? b = some o) ∧ Y (i + 1) (ys ++ [x])) E' s₃
        else ∃ h' tk', s₃ = { s₁ with heap := h', toks := tk' } ∧ (∀ b o, h.get? b = some o → h'.get? b = some o) ∧ Y (i + 1) ys) E' { s₁ with heap := h, toks := tk }) ∧
    (∀ D h tk ys, Y v.cps.size ys → Fr h₀ L h m → News h₀ L h ((D, LCg.lst ys) :: news) → (∀ b o, s₁.heap.get? b = some o → h.get? b = some o) → Q (.ref D) { s₁ with heap := h, toks := tk })
theorem comp_str {elt ct iter : PySem.Expr} {x : Str} {px : Pos} {scope : Scope} {cl : List (Str × Addr)} {pos : Pos} {Q : Value → Shared → Prop} (F₀ : Fr h₀ L s.heap m)
    (hclos : closureFor scope env = pure cl) (hpc : ∀ h, pushCells h scope.names = h) (hcf : ∀ a, cellsFrom a scope.names cl = cl) (hkind : scope.kind = .function)
    (hnames : ∀ y ∈ scope.names, y.2 = .local → scope.names.lookup y.1 = some .local) (hx : scope.names.lookup x = some .local)
    (h : wpAny (model prog w) A (eval iter env) (SrcS prog w A h₀ L m env elt ct x scope cl Q) E s)
    (hs : ∀ x, foldedSetIterable iter env x = pure x := by intro _; rfl) :
    wpAny (model prog w) A (eval (.ListComp elt [⟨.Name x px, iter, [ct], 0⟩] scope pos) env) Q E s := by
  rw [eval_ListComp]
  refine wpAny_comprehension_free (use := none) rfl hs hclos hkind hnames (wpAny_mono h (fun xv s₁ h₁ => ?_) fun _ _ e => e)
  obtain ⟨v, t, news, Y, rfl, hh, F, N, hsz, hYl, y0, turn, fin⟩ := h₁
  refine wpAny_pyIter_str fun o St W st => ?_
  have W := W A hh
  refine wpAny_newObj_type (newEnv_comp ?_)
  dsimp only
  generalize hI : s₁.heap.objs.size = I at W st turn ⊢
  have hD : (s₁.heap.push o).objs.size = I + 1 := by rw [Heap.size_push, hI]
  generalize hh2 : s₁.heap.push o = h2 at hD st ⊢
  have hC : (h2.push { cls := .type "list", dict := none, data := .seq ([] : List Value).toArray }).objs.size = I + 2 := by rw [Heap.size_push, hD]
  generalize hh3 : h2.push { cls := .type "list", dict := none, data := .seq ([] : List Value).toArray } = h3 at hC ⊢
  rw [hpc, hcf, hD, hC]
  generalize hh4 : h3.push { cls := .type "dict", data := .dict #[] } = h4
  have k12 : ∀ b o, s₁.heap.get? b = some o → h2.get? b = some o := fun b o e => hh2 ▸ Heap.get?_push_of_some _ e
  have k23 : ∀ b o, h2.get? b = some o → h3.get? b = some o := fun b o e => hh3 ▸ Heap.get?_push_of_some _ e
  have k34 : ∀ b o, h3.get? b = some o → h4.get? b = some o := fun b o e => hh4 ▸ Heap.get?_push_of_some _ e
  have k14 : ∀ b o, s₁.heap.get? b = some o → h4.get? b = some o := fun b o e => k34 _ _ (k23 _ _ (k12 _ _ e))
  have dI : h4.get? (I + 1) = some (LCg.lst []) := by
    refine k34 _ _ ?_
    rw [← hh3, ← hD]; exact Heap.get?_push_size _ rfl
  have cI : h4.Ns (I + 2) (fun _ => none) := by
    rw [← hh4, ← hC]; exact Heap.Ns.new h3 (.type "dict")
  have lL : L < I := hI ▸ F.ns.lt
  have lN : ∀ p ∈ news, p.1 < I := fun p hp => hI ▸ Heap.lt_size (N p hp).1
  have out : ∀ a, I ≤ a → h₀.get? a = none := fun a ha => base_out F (hI ▸ ha)
  refine comp_loop (cenv := compEnvC scope cl (I + 2) env) (h₀ := h₀) (L := L) (m := m) (news := news) (n := v.cps.size) [I, I + 2] (fun i h => St i h ∧ ∃ m', h.Ns (I + 2) m')
    (fun i h => St (i + 1) h ∧ ∃ oC m₂ c t', v.cps[i]? = some c ∧ h.get? (I + 2) = some oC ∧ LCg.NsObj oC m₂ ∧ m₂ x = some (.str ⟨#[c]⟩ t')) Y
    hsz hYl (.tail _ (.head _)) ?_ (Nat.ne_of_gt (Nat.lt_succ_of_lt lL)) ?_ ?_ ?_ (F.keeps k14) ?_ ⟨W.frame _ _ _ st fun b _ o e => k34 _ _ (k23 _ _ e), _, cI⟩ y0 ?_ ?_ ?_ ?_ ?_ ?_ ?_ ?_
  · simp
  · exact notin2 lL
  · exact fun a ha => out a (in3 ha)
  · exact fun p hp => notin3 (lN p hp)
  · intro p hp
    rcases List.mem_cons.mp hp with rfl | hp
    · exact ⟨dI, Nat.ne_of_gt (Nat.lt_succ_of_lt lL), out _ (Nat.le_succ _)⟩
    · exact ⟨k14 _ _ (N p hp).1, (N p hp).2⟩
  · intro i h st; exact st.2
  · intro i h h' st hk
    obtain ⟨a, m', hm'⟩ := st
    refine ⟨W.frame _ _ _ a fun b hb o e => hk b o (by rw [List.mem_singleton.mp hb]; exact ne_add0 I 1 (by decide)) e, m', hm'.at' fun o e => hk _ o (ne_add I 2 1 (by decide)) e⟩
  · rintro i h h' ⟨a, oC, m₂, c, t', _, e, hC, _⟩ hk
    exact ⟨W.frame _ _ _ a fun b _ o e => hk b o e, m₂, hC.ns (hk _ _ e)⟩
  · intro s Q E st hq; exact W.self 0 s Q E st.1 hq
  · intro i h tk Q' E' hi st hq
    obtain ⟨a, m', hm'⟩ := st
    refine W.item i _ _ _ hi a fun u h₂ tk₂ hP st₂ hk₂ => ?_
    obtain ⟨c, t', hc, rfl⟩ := hP
    show wpAny _ _ (pure ()) _ _ _
    refine wpAny_pure (wpAny_assign_Name (wpAny_storeName_local (lookup_relabel_local hx) (hm'.at' fun o e => hk₂ _ o (by simp) e) (fun h₃ hn₃ hs₃ => ?_) (by simp [compEnvC, relabel, hkind])))
    obtain ⟨oC, e, ho⟩ := LCg.ns_obj hn₃
    refine hq h₃ _ ⟨W.frame _ _ _ st₂ fun b hb o e => hs₃.extBut b o (by rw [List.mem_singleton.mp hb]; exact ne_add0 I 2 (by decide)) e, oC, _, c, t', hc, e, ho, by simp⟩ fun b o hb e => ?_
    refine hs₃.extBut b o (fun q => hb (by rw [q]; exact .tail _ (.head _))) (hk₂ b o (fun q => hb (by rw [List.mem_singleton.mp q]; exact .head _)) e)
  · intro h tk Q' E' st hq
    obtain ⟨a, m', hm'⟩ := st
    exact W.done _ _ _ a fun h' tk' hk => hq h' tk' (fun b o hb e => hk b o (fun q => hb (by rw [List.mem_singleton.mp q]; exact .head _)) e) ⟨m', hm'.at' fun o e => hk _ o (by simp) e⟩
  · intro i h tk ys E' hi b F' N' hY
    obtain ⟨a, oC, m₂, c, t', hc, e, ho, hx'⟩ := b
    refine wpAny_tests_one (turn i c t' (I + 2) oC (I + 1) m₂ h tk ys E' hc ho hx' F' (fun p hp => ?_) hY)
    rcases List.mem_cons.mp hp with rfl | hp
    · exact ⟨e, ne_lt 2 lL, out _ (Nat.le_add_right _ _)⟩
    · exact N' p hp
  · intro h tk ys hY F' N' ns hCL hC0 offC kp
    refine fin_none F' N' ns hCL hC0 offC fun h tk F' N' hs'' => fin (I + 1) h tk ys hY F' N' fun b o e => ?_
    have hb : b < I := hI ▸ Heap.lt_size e
    exact hs''.extBut b o (fun q => notin3 hb (by rw [q]; exact .tail _ (.tail _ (.head _)))) (kp b o (notin3 hb) (k14 b o e))
end
end Mine
end

/- G3 -/
section
open PySem PySem.W PyProof.Rows PySem.Calls
set_option Elab.async false
set_option maxRecDepth 100000
set_option maxHeartbeats 8000000
set_option linter.unusedVariables false
namespace Mine
section
variable {prog : Program} {w : World} {A : Around} {E : Value → Shared → Prop} {s : Shared} {h₀ : Heap} {L : Addr} {m : Str → Option Value} {env : Env}
theorem notin3e {a I : Nat} (h : a < I) : a ∉ [I + 1, I, I + 3] := by simp; omega
theorem notin4e {a I : Nat} (h : a < I) : a ∉ [I + 2, I + 1, I, I + 3] := by simp; omega
theorem in4e {a I : Nat} (h : a ∈ [I + 2, I + 1, I, I + 3]) : I ≤ a := by simp at h; omega
theorem wr_own {a I : Nat} (h : a ∉ [I + 1, I, I + 3]) : a ∉ [I + 1, I] := by simp at h ⊢; omega
theorem ne_of_ge {a b : Nat} (k : Nat) (h : b + k ≤ a) (hk : 0 < k) : b ≠ a := by omega
/-- the source is enumerate(text) -/
def SrcN (prog : Program) (w : World) (A : Around) (h₀ : Heap) (L : Addr) (m : Str → Option Value) (env : Env) (elt ct : PySem.Expr) (x₁ x₂ : Str) (scope : Scope) (cl : List (Str × Addr)) (y : Str) (Q : Flow → Shared → Prop) (xv : Value) (s₁ : Shared) : Prop :=
  ∃ (v : Str) (t : Tok) (I : Addr) (news : List (Addr × Obj)) (Y : Nat → List Value → Prop), xv = .ref (I + 1) ∧ A.handled = none ∧ Fr h₀ L s₁.heap m ∧ News h₀ L s₁.heap news ∧ (∀ p ∈ news, p.1 < I) ∧ L < I ∧ (∀ a, I ≤ a → h₀.get? a = none) ∧ s₁.heap.objs.size = I + 2 ∧
    IsEnum s₁.heap (I + 1) I 0 .none ∧ s₁.heap.IsStrIter I "str_ascii_iterator" v t 0 ∧ v.cps.size ≤ sizeLine ∧ (∀ i ys, Y i ys → ys.length ≤ i) ∧ Y 0 [] ∧
    (∀ (i : Nat) c t₁ t' C oC D m₂ h tk ys (E' : Value → Shared → Prop), v.cps[i]? = some c → LCg.NsObj oC m₂ → m₂ x₁ = some (.int i t₁) → m₂ x₂ = some (.str ⟨#[c]⟩ t') → Fr h₀ L h m → News h₀ L h ((C, oC) :: (D, LCg.lst ys) :: news) → Y i ys →
      wpAny (model prog w) A (isTrue ct (compEnvC scope cl C env) (eval ct (compEnvC scope cl C env))) (fun ok s₃ => if ok = true then
        wpAny (model prog w) A (eval elt (compEnvC scope cl C env)) (fun x s₄ => ∃ h' tk', s₄ = { s₁ with heap := h', toks := tk' } ∧ (∀ b o, h.get? b = some o → h'.get? b = some o) ∧ Y (i + 1) (ys ++ [x])) E' s₃
        else ∃ h' tk', s₃ = { s₁ with heap := h', toks := tk' } ∧ (∀ b o, h.get? b = some o → h'.get? b = some o) ∧ Y (i + 1) ys) E' { s₁ with heap := h, toks := tk }) ∧
    (∀ D h tk ys, Y v.cps.size ys → Fr h₀ L h (fun z => if z = y then some (.ref D) else m z) → News h₀ L h ((D, LCg.lst ys) :: news) → s₁.heap.objs.size ≤ D → Q .next { s₁ with heap := h, toks := tk })
theorem comp_enum {elt ct iter : PySem.Expr} {x₁ x₂ : Str} {p₁ p₂ tp : Pos} {kk : Nat} {scope : Scope} {cl : List (Str × Addr)} {pos spos : Pos} {y : Str} {py : Pos} {Q : Flow → Shared → Prop} (F₀ : Fr h₀ L s.heap m) (hLe : env.locals = L) (hy : env.kindOf y = some .local) (hp : (env.scope.kind == .class || (env.scope.kind == .module && env.locals != env.globals)) = false)
    (hsw : swapsWith (.ListComp elt [⟨.Tuple [.Name x₁ p₁, .Name x₂ p₂] kk tp, iter, [ct], 0⟩] scope pos) (some (.Name y py)) spos.line env = pure true)
    (hclos : closureFor scope env = pure cl) (hpc : ∀ h, pushCells h scope.names = h) (hcf : ∀ a, cellsFrom a scope.names cl = cl) (hkind : scope.kind = .function)
    (hnames : ∀ y ∈ scope.names, y.2 = .local → scope.names.lookup y.1 = some .local) (hx₁ : scope.names.lookup x₁ = some .local) (hx₂ : scope.names.lookup x₂ = some .local) (hab : ¬ x₁ = x₂)
    (h : wpAny (model prog w) A (eval iter env) (SrcN prog w A h₀ L m env elt ct x₁ x₂ scope cl y Q) E s)
    (hs : ∀ x, foldedSetIterable iter env x = pure x := by intro _; rfl) :
    wpAny (model prog w) A (exec (.Assign [.Name y py] (.ListComp elt [⟨.Tuple [.Name x₁ p₁, .Name x₂ p₂] kk tp, iter, [ct], 0⟩] scope pos) spos) env) Q E s := by
  rw [exec_Assign_Name_used _ _ _ _ hsw]
  refine wpAny_bind (wpAny_standAt (wpAny_bind ?_))
  show wpAny _ A (do let _ ← comprehension (.ListComp elt [⟨.Tuple [.Name x₁ p₁, .Name x₂ p₂] kk tp, iter, [ct], 0⟩] scope pos) scope env _ (newList []) false (eval iter env) (some (assign (.Name y py) env))) _ _ s
  refine wpAny_bind (wpAny_mono (wpAny_comprehension_free (use := some (assign (.Name y py) env)) (Q := fun _ s' => Q .next s') rfl hs hclos hkind hnames (wpAny_mono h (fun xv s₁ h₁ => ?_) fun _ _ e => e)) (fun _ s' hq => wpAny_pure (wpAny_pure hq)) fun _ _ e => e)
  obtain ⟨v, t, I, news, Y, rfl, hh, F, N, lN, lL, out, hI, he, hit, hsz, hYl, y0, turn, fin⟩ := h₁
  have W := WalksT.enumerateD (Draws.strAscii (prog := prog) (w := w) (A := A.in1) hh I v t) (I + 1) (Nat.succ_ne_self _) (fun q => Nat.succ_ne_self _ (List.mem_singleton.mp q)) (.head _)
  refine wpAny_pyIter_enum he ?_
  refine wpAny_newObj_type (newEnv_comp ?_)
  dsimp only
  have hC : (s₁.heap.push { cls := .type "list", dict := none, data := .seq ([] : List Value).toArray }).objs.size = I + 3 := by rw [Heap.size_push, hI]
  generalize hh3 : s₁.heap.push { cls := .type "list", dict := none, data := .seq ([] : List Value).toArray } = h3 at hC ⊢
  rw [hpc, hcf, hI, hC]
  generalize hh4 : h3.push { cls := .type "dict", data := .dict #[] } = h4
  have k34 : ∀ b o, h3.get? b = some o → h4.get? b = some o := fun b o e => hh4 ▸ Heap.get?_push_of_some _ e
  have k14 : ∀ b o, s₁.heap.get? b = some o → h4.get? b = some o := fun b o e => k34 _ _ (hh3 ▸ Heap.get?_push_of_some _ e)
  have dI : h4.get? (I + 2) = some (LCg.lst []) := by
    refine k34 _ _ ?_
    rw [← hh3, ← hI]; exact Heap.get?_push_size _ rfl
  have cI : h4.Ns (I + 3) (fun _ => none) := by
    rw [← hh4, ← hC]; exact Heap.Ns.new h3 (.type "dict")
  refine comp_loop (cenv := compEnvC scope cl (I + 3) env) (h₀ := h₀) (L := L) (m := m) (news := news) (n := v.cps.size) [I + 1, I, I + 3]
    (fun i h => ((∃ old, IsEnum h (I + 1) I i old) ∧ h.IsStrIter I "str_ascii_iterator" v t i) ∧ ∃ m', h.Ns (I + 3) m')
    (fun i h => ((∃ old, IsEnum h (I + 1) I ((i + 1 : Nat) : Int) old) ∧ h.IsStrIter I "str_ascii_iterator" v t (i + 1)) ∧ ∃ oC m₂ c t₁ t', v.cps[i]? = some c ∧ h.get? (I + 3) = some oC ∧ LCg.NsObj oC m₂ ∧ m₂ x₁ = some (.int i t₁) ∧ m₂ x₂ = some (.str ⟨#[c]⟩ t')) Y
    hsz hYl (.tail _ (.tail _ (.head _))) ?_ (ne_lt 2 lL) (notin3e lL) (fun a ha => out a (in4e ha)) (fun p hp => notin4e (lN p hp)) (F.keeps k14) ?_ ⟨W.frame _ _ _ ⟨⟨_, he⟩, hit⟩ fun b _ o e => k14 _ _ e, _, cI⟩ y0 ?_ ?_ ?_ ?_ ?_ ?_ ?_ ?_
  · simp
  · intro p hp
    rcases List.mem_cons.mp hp with rfl | hp
    · exact ⟨dI, ne_lt 2 lL, out _ (Nat.le_add_right _ _)⟩
    · exact ⟨k14 _ _ (N p hp).1, (N p hp).2⟩
  · intro i h st; exact st.2
  · intro i h h' st hk
    obtain ⟨a, m', hm'⟩ := st
    refine ⟨W.frame _ _ _ a fun b hb o e => hk b o ?_ e, m', hm'.at' fun o e => hk _ o (ne_add I 3 2 (by decide)) e⟩
    rcases List.mem_cons.mp hb with rfl | hb
    · exact ne_add I 1 2 (by decide)
    · rw [List.mem_singleton.mp hb]; exact ne_add0 I 2 (by decide)
  · rintro i h h' ⟨a, oC, m₂, c, t₁, t', _, e, hC, _⟩ hk
    exact ⟨W.frame _ _ _ a fun b _ o e => hk b o e, m₂, hC.ns (hk _ _ e)⟩
  · intro s Q E st hq; exact W.self 0 s Q E st.1 hq
  · intro i h tk Q' E' hi st hq
    obtain ⟨a, m', hm'⟩ := st
    refine W.item i _ _ _ hi a fun T vals h₂ tk₂ hP hTs hT hMid hk₂ => ?_
    obtain ⟨t₁, u, ⟨c, t', hc, rfl⟩, rfl⟩ := hP
    have hTw := W.apart _ _ _ hMid
    refine W.go _ kk tp i T _ _ _ hMid fun h₃ st₃ hk₃ => ?_
    have hT₃ : h₃.IsTuple T #[.int i t₁, .str ⟨#[c]⟩ t'] := hT.at fun o e => hk₃ T o hTw e
    have hm₂ : h₂.Ns (I + 3) m' := hm'.at' fun o e => hk₂ _ o (by simp) e
    have hm₃ : h₃.Ns (I + 3) m' := hm₂.at' fun o e => hk₃ _ o (by simp) e
    refine kcp_assign (env := compEnvC scope cl (I + 3) env) hh hT₃ (lookup_relabel_local hx₁) (lookup_relabel_local hx₂) (by simp [compEnvC, relabel, hkind]) hm₃ fun h₄ tk₄ hn₄ hs₄ => ?_
    obtain ⟨oC, e, ho⟩ := LCg.ns_obj hn₄
    refine hq h₄ _ ⟨W.frame _ _ _ st₃ fun b hb o e => hs₄ b o ?_ e, oC, _, c, t₁, t', hc, e, ho, by simp [hab], by simp⟩ fun b o hb e => ?_
    · rcases List.mem_cons.mp hb with rfl | hb
      · exact ne_add I 1 3 (by decide)
      · rw [List.mem_singleton.mp hb]; exact ne_add0 I 3 (by decide)
    · exact hs₄ b o (fun q => hb (by rw [q]; exact .tail _ (.tail _ (.head _)))) (hk₃ b o (wr_own hb) (hk₂ b o (wr_own hb) e))
  · intro h tk Q' E' st hq
    obtain ⟨a, m', hm'⟩ := st
    exact W.done _ _ _ a fun h' tk' hk => hq h' tk' (fun b o hb e => hk b o (wr_own hb) e) ⟨m', hm'.at' fun o e => hk _ o (by simp) e⟩
  · intro i h tk ys E' hi b F' N' hY
    obtain ⟨a, oC, m₂, c, t₁, t', hc, e, ho, hx, hx'⟩ := b
    refine wpAny_tests_one (turn i c t₁ t' (I + 3) oC (I + 2) m₂ h tk ys E' hc ho hx hx' F' (fun p hp => ?_) hY)
    rcases List.mem_cons.mp hp with rfl | hp
    · exact ⟨e, ne_lt 3 lL, out _ (Nat.le_add_right _ _)⟩
    · exact N' p hp
  · intro h tk ys hY F' N' ns hCL hC0 offC _
    exact fin_assign hLe hy hp F' N' ns hCL hC0 offC fun h tk F' N' => fin (I + 2) h tk ys hY F' N' (hI ▸ Nat.le_refl _)
end
end Mine
end

/- G4 -/
section
open PySem PySem.W PyProof.Rows PySem.Calls
set_option Elab.async false
set_option maxRecDepth 100000
set_option maxHeartbeats 8000000
set_option linter.unusedVariables false
namespace Mine
section
variable {prog : Program} {w : World} {A : Around} {E : Value → Shared → Prop} {s : Shared} {h₀ : Heap} {L : Addr} {m : Str → Option Value} {env : Env}
theorem notin3c {a I : Nat} (h : a < I) : a ∉ [I, I + 2, I + 3] := by simp; omega
theorem notin4c {a I : Nat} (h : a < I) : a ∉ [I + 1, I, I + 2, I + 3] := by simp; omega
theorem in4c {a I : Nat} (h : a ∈ [I + 1, I, I + 2, I + 3]) : I ≤ a := by simp at h; omega
theorem lt_ne {a I : Nat} (k : Nat) (h : a < I) : a ≠ I + k := by omega
/-- the source is a list of the ledger; the target a cell of the comprehension -/
def SrcC (prog : Program) (w : World) (A : Around) (h₀ : Heap) (L : Addr) (m : Str → Option Value) (env : Env) (elt : PySem.Expr) (x : Str) (scope : Scope) (cl : List (Str × Addr)) (y : Str) (Q : Flow → Shared → Prop) (xv : Value) (s₁ : Shared) : Prop :=
  ∃ (ax : Addr) (its : Array Value) (k : Nat) (news : List (Addr × Obj)) (Y : Nat → List Value → Prop), xv = .ref ax ∧ A.handled = none ∧ Fr h₀ L s₁.heap m ∧ News h₀ L s₁.heap news ∧ (ax, ({ cls := .type "list", data := .seq its k } : Obj)) ∈ news ∧ its.size ≤ sizeLine ∧ (∀ i ys, Y i ys → ys.length ≤ i) ∧ Y 0 [] ∧
    (∀ (i : Nat) v X oX C D h tk ys (E' : Value → Shared → Prop), its[i]? = some v → oX.data = .cell (some v) → Fr h₀ L h m → News h₀ L h ((X, oX) :: (D, LCg.lst ys) :: news) → Y i ys →
      wpAny (model prog w) A (eval elt (compEnvC scope ((x, X) :: cl) C env)) (fun x s₄ => ∃ h' tk', s₄ = { s₁ with heap := h', toks := tk' } ∧ (∀ b o, h.get? b = some o → h'.get? b = some o) ∧ Y (i + 1) (ys ++ [x])) E' { s₁ with heap := h, toks := tk }) ∧
    (∀ D h tk ys, Y its.size ys → Fr h₀ L h (fun z => if z = y then some (.ref D) else m z) → News h₀ L h ((D, LCg.lst ys) :: news) → s₁.heap.objs.size ≤ D → Q .next { s₁ with heap := h, toks := tk })
theorem comp_cell {elt iter : PySem.Expr} {x : Str} {px : Pos} {scope : Scope} {cl : List (Str × Addr)} {pos spos : Pos} {y : Str} {py : Pos} {Q : Flow → Shared → Prop} (F₀ : Fr h₀ L s.heap m) (hLe : env.locals = L) (hy : env.kindOf y = some .local) (hp : (env.scope.kind == .class || (env.scope.kind == .module && env.locals != env.globals)) = false)
    (hsw : swapsWith (.ListComp elt [⟨.Name x px, iter, [], 0⟩] scope pos) (some (.Name y py)) spos.line env = pure true)
    (hclos : closureFor scope env = pure cl) (hpc : ∀ h, pushCells h scope.names = h.push { cls := .type "cell", data := .cell none }) (hcf : ∀ a, cellsFrom a scope.names cl = (x, a) :: cl) (hkind : scope.kind = .function)
    (hnames : ∀ y ∈ scope.names, y.2 = .local → scope.names.lookup y.1 = some .local) (hx : ∀ C cl', (compEnvC scope cl' C env).kindOf x = some .cell)
    (h : wpAny (model prog w) A (eval iter env) (SrcC prog w A h₀ L m env elt x scope cl y Q) E s)
    (hs : ∀ x, foldedSetIterable iter env x = pure x := by intro _; rfl) :
    wpAny (model prog w) A (exec (.Assign [.Name y py] (.ListComp elt [⟨.Name x px, iter, [], 0⟩] scope pos) spos) env) Q E s := by
  rw [exec_Assign_Name_used _ _ _ _ hsw]
  refine wpAny_bind (wpAny_standAt (wpAny_bind ?_))
  show wpAny _ A (do let _ ← comprehension (.ListComp elt [⟨.Name x px, iter, [], 0⟩] scope pos) scope env _ (newList []) false (eval iter env) (some (assign (.Name y py) env))) _ _ s
  refine wpAny_bind (wpAny_mono (wpAny_comprehension_free (use := some (assign (.Name y py) env)) (Q := fun _ s' => Q .next s') rfl hs hclos hkind hnames (wpAny_mono h (fun xv s₁ h₁ => ?_) fun _ _ e => e)) (fun _ s' hq => wpAny_pure (wpAny_pure hq)) fun _ _ e => e)
  obtain ⟨ax, its, k, news, Y, rfl, hh, F, N, hm, hsz, hYl, y0, turn, fin⟩ := h₁
  have hl : s₁.heap.IsList ax its := ⟨_, (N _ hm).1, rfl, _, rfl⟩
  refine wpAny_pyIter_list hl ?_
  refine wpAny_newObj_type (newEnv_comp ?_)
  dsimp only
  have lL := F.ns.lt
  have lN : ∀ p ∈ news, p.1 < s₁.heap.objs.size := fun p hp => Heap.lt_size (N p hp).1
  have out : ∀ a, s₁.heap.objs.size ≤ a → h₀.get? a = none := fun a ha => base_out F ha
  have hax : ax < s₁.heap.objs.size := lN _ hm
  have W := Walks.list (prog := prog) (w := w) (A := A) hh s₁.heap.objs.size ax (Nat.ne_of_lt hax) its
  have st : (s₁.heap.push { cls := .type "list_iterator", data := .fields #[.ref ax, .int 0 0] }).IsListIter s₁.heap.objs.size ax 0 ∧ (s₁.heap.push { cls := .type "list_iterator", data := .fields #[.ref ax, .int 0 0] }).IsList ax its :=
    ⟨⟨_, Heap.get?_push_size _ rfl, rfl, rfl⟩, hl.push _⟩
  generalize hI : s₁.heap.objs.size = I at W st lL lN out hax turn ⊢
  have hD : (s₁.heap.push { cls := .type "list_iterator", data := .fields #[.ref ax, .int 0 0] }).objs.size = I + 1 := by rw [Heap.size_push, hI]
  generalize hh2 : s₁.heap.push { cls := .type "list_iterator", data := .fields #[.ref ax, .int 0 0] } = h2 at hD st ⊢
  have hC : (h2.push { cls := .type "list", dict := none, data := .seq ([] : List Value).toArray }).objs.size = I + 2 := by rw [Heap.size_push, hD]
  generalize hh3 : h2.push { cls := .type "list", dict := none, data := .seq ([] : List Value).toArray } = h3 at hC ⊢
  rw [hpc, hcf, hD, hC]
  have hX : (h3.push { cls := .type "dict", data := .dict #[] }).objs.size = I + 3 := by rw [Heap.size_push, hC]
  have cI' : (h3.push { cls := .type "dict", data := .dict #[] }).Ns (I + 2) (fun _ => none) := by rw [← hC]; exact Heap.Ns.new h3 (.type "dict")
  generalize hh4 : h3.push { cls := .type "dict", data := .dict #[] } = h4 at hX cI' ⊢
  generalize hh5 : h4.push { cls := .type "cell", data := .cell none } = h5
  have k12 : ∀ b o, s₁.heap.get? b = some o → h2.get? b = some o := fun b o e => hh2 ▸ Heap.get?_push_of_some _ e
  have k23 : ∀ b o, h2.get? b = some o → h3.get? b = some o := fun b o e => hh3 ▸ Heap.get?_push_of_some _ e
  have k34 : ∀ b o, h3.get? b = some o → h4.get? b = some o := fun b o e => hh4 ▸ Heap.get?_push_of_some _ e
  have k45 : ∀ b o, h4.get? b = some o → h5.get? b = some o := fun b o e => hh5 ▸ Heap.get?_push_of_some _ e
  have k25 : ∀ b o, h2.get? b = some o → h5.get? b = some o := fun b o e => k45 _ _ (k34 _ _ (k23 _ _ e))
  have k15 : ∀ b o, s₁.heap.get? b = some o → h5.get? b = some o := fun b o e => k25 _ _ (k12 _ _ e)
  have dI : h5.get? (I + 1) = some (LCg.lst []) := by
    refine k45 _ _ (k34 _ _ ?_)
    rw [← hh3, ← hD]; exact Heap.get?_push_size _ rfl
  have cI : h5.Ns (I + 2) (fun _ => none) := cI'.keeps k45
  have xI : h5.IsCell (I + 3) none := ⟨_, by rw [← hh5, ← hX]; exact Heap.get?_push_size _ rfl, rfl⟩
  refine comp_loop (cenv := compEnvC scope ((x, I + 3) :: cl) (I + 2) env) (h₀ := h₀) (L := L) (m := m) (news := news) (n := its.size) [I, I + 2, I + 3]
    (fun i h => (h.IsListIter I ax i ∧ h.IsList ax its) ∧ (∃ v, h.IsCell (I + 3) v) ∧ ∃ m', h.Ns (I + 2) m')
    (fun i h => (h.IsListIter I ax (i + 1) ∧ h.IsList ax its) ∧ (∃ m', h.Ns (I + 2) m') ∧ ∃ oX v, its[i]? = some v ∧ h.get? (I + 3) = some oX ∧ oX.data = .cell (some v)) Y
    hsz hYl (.tail _ (.head _)) ?_ (ne_lt 1 lL) (notin3c lL) (fun a ha => out a (in4c ha)) (fun p hp => notin4c (lN p hp)) (F.keeps k15) ?_ ⟨W.frame _ _ _ st fun b _ o e => k25 _ _ e, ⟨_, xI⟩, _, cI⟩ y0 ?_ ?_ ?_ ?_ ?_ ?_ ?_ ?_
  · simp
  · intro p hp
    rcases List.mem_cons.mp hp with rfl | hp
    · exact ⟨dI, ne_lt 1 lL, out _ (Nat.le_add_right _ _)⟩
    · exact ⟨k15 _ _ (N p hp).1, (N p hp).2⟩
  · intro i h st; exact st.2.2
  · intro i h h' st hk
    obtain ⟨a, ⟨v, oX, eX, dX⟩, m', hm'⟩ := st
    refine ⟨W.frame _ _ _ a fun b hb o e => hk b o ?_ e, ⟨v, oX, hk _ _ (ne_add I 3 1 (by decide)) eX, dX⟩, m', hm'.at' fun o e => hk _ o (ne_add I 2 1 (by decide)) e⟩
    rcases List.mem_cons.mp hb with e' | hb
    · rw [e']; exact ne_add0 I 1 (by decide)
    · rw [List.mem_singleton.mp hb]; exact lt_ne 1 hax
  · rintro i h h' ⟨a, ⟨m', hm'⟩, oX, v, _, e, d⟩ hk
    exact ⟨W.frame _ _ _ a fun b _ o e => hk b o e, ⟨_, oX, hk _ _ e, d⟩, m', hm'.keeps hk⟩
  · intro s Q E st hq; exact W.self 0 s Q E st.1 hq
  · intro i h tk Q' E' hi st hq
    obtain ⟨a, ⟨v, hv⟩, m', hm'⟩ := st
    refine W.item i _ _ _ hi a fun u h₂ tk₂ hP st₂ hk₂ => ?_
    show wpAny _ _ (pure ()) _ _ _
    have hv₂ : h₂.IsCell (I + 3) v := by obtain ⟨oX, e, d⟩ := hv; exact ⟨oX, hk₂ _ _ (by simp) e, d⟩
    refine wpAny_pure (wpAny_assign_Name (wpAny_storeName_cell (env := compEnvC scope ((x, I + 3) :: cl) (I + 2) env) (by simp [compEnvC, relabel, hkind]) (hx _ _) (by simp [compEnvC]) hv₂ fun h₃ hv₃ hs₃ => ?_))
    obtain ⟨oX, e, d⟩ := hv₃
    refine hq h₃ _ ⟨W.frame _ _ _ st₂ fun b hb o e => hs₃.extBut b o ?_ e, ⟨m', (hm'.at' fun o e => hk₂ _ o (by simp) e).at' fun o e => hs₃.extBut _ o (ne_add I 2 3 (by decide)) e⟩, oX, u, hP, e, d⟩ fun b o hb e => ?_
    · rcases List.mem_cons.mp hb with e' | hb
      · rw [e']; exact ne_add0 I 3 (by decide)
      · rw [List.mem_singleton.mp hb]; exact lt_ne 3 hax
    · exact hs₃.extBut b o (fun q => hb (by rw [q]; exact .tail _ (.tail _ (.head _)))) (hk₂ b o (fun q => hb (by rw [List.mem_singleton.mp q]; exact .head _)) e)
  · intro h tk Q' E' st hq
    obtain ⟨a, _, m', hm'⟩ := st
    exact W.done _ _ _ a fun h' tk' hk => hq h' tk' (fun b o hb e => hk b o (fun q => hb (by rw [List.mem_singleton.mp q]; exact .head _)) e) ⟨m', hm'.at' fun o e => hk _ o (by simp) e⟩
  · intro i h tk ys E' hi b F' N' hY
    obtain ⟨a, _, oX, v, hv, e, d⟩ := b
    refine tests_none ?_
    rw [if_pos rfl]
    refine turn i v (I + 3) oX (I + 2) (I + 1) h tk ys E' hv d F' (fun p hp => ?_) hY
    rcases List.mem_cons.mp hp with rfl | hp
    · exact ⟨e, ne_lt 3 lL, out _ (Nat.le_add_right _ _)⟩
    · exact N' p hp
  · intro h tk ys hY F' N' ns hCL hC0 offC _
    exact fin_assign hLe hy hp F' N' ns hCL hC0 offC fun h tk F' N' => fin (I + 1) h tk ys hY F' N' (hI ▸ Nat.le_succ _)
end
end Mine
end

/- F13 -/
section
open PySem PySem.W PyProof.Rows PySem.Calls
set_option Elab.async false
set_option linter.unusedVariables false
namespace Mine
theorem news_more {h₀ h h' : Heap} {L : Addr} {m : Str → Option Value} {news more : List (Addr × Obj)} (F : Fr h₀ L h m) (N : News h₀ L h' news) (hx : ∀ q ∈ more, h.get? q.1 = none ∧ h'.get? q.1 = some q.2) : News h₀ L h' (more ++ news) := by
  intro q hq
  rcases List.mem_append.mp hq with hq | hq
  · obtain ⟨a, b⟩ := hx q hq
    refine ⟨b, ?_, ?_⟩
    · rintro e
      obtain ⟨oL, _, _, hL, _⟩ := F.ns
      rw [e, hL] at a; cases a
    · cases e : h₀.get? q.1 with
      | none => rfl
      | some o => rw [F.keep _ _ e] at a; cases a
  · exact N q hq
theorem news_swap {h₀ h : Heap} {L : Addr} {a b : List (Addr × Obj)} (N : News h₀ L h (a ++ b)) : News h₀ L h (b ++ a) := fun q hq => N q (by
  rcases List.mem_append.mp hq with hq | hq
  · exact List.mem_append_right _ hq
  · exact List.mem_append_left _ hq)
theorem apart_all {c : Addr} : ∀ {l : List (Addr × Obj)}, (∀ p ∈ l, ∀ v, p.2.data ≠ .cell v) → ApartOr c l
  | [], _ => trivial
  | p :: r, h => ⟨.inr (h p (.head _)), apart_all fun q hq => h q (.tail _ hq)⟩
theorem apart_tab {c' x dx l : Addr} {hs : Int} {tk0 : Tok} {ep c : Nat} {es : List Ent} : ApartOr c' (tabO x dx l hs tk0 ep c es) := apart_all fun p hp v => by
  rcases List.mem_cons.mp hp with rfl | hp
  · intro h; cases h
  rcases List.mem_cons.mp hp with rfl | hp
  · intro h; cases h
  rcases List.mem_cons.mp hp with rfl | hp
  · intro h; cases h
  · obtain ⟨e, _, rfl⟩ := List.mem_map.mp hp
    intro h; cases h
end Mine
end

/- F14 -/
section
open PySem PySem.W PyProof.Rows PySem.Calls
set_option Elab.async false
set_option maxRecDepth 100000
set_option maxHeartbeats 8000000
set_option linter.unusedVariables false
namespace Mine
/-- what a comprehension has gathered, as texts -/
abbrev StrY (out : Nat → List Str) : Nat → List Value → Prop := fun i ys => StrsAre ys (out i)
theorem StrY.le {out : Nat → List Str} (h : ∀ i, (out i).length ≤ i) : ∀ i ys, StrY out i ys → ys.length ≤ i := fun i ys hy => by
  have : ys.length = (out i).length := StrsAre.length hy
  rw [this]; exact h i
theorem strs_app {vs : List Value} {ys : List Str} (h : StrsAre vs ys) (y : Str) (t : Tok) : StrsAre (vs ++ [.str y t]) (ys ++ [y]) := by
  induction h with
  | nil => exact .cons _ _ .nil
  | cons z u _ ih => exact .cons _ _ ih
/-- the last signs among the first i -/
def lastsTo (w : List Nat) : Nat → List Nat
  | 0 => []
  | i + 1 => lastsTo w i ++ if !((w.drop (i + 1)).map lo1).contains (lo1 (w.getD i 0)) then [w.getD i 0] else []
theorem yl_skip {w : List Nat} {i c : Nat} {ys : List Value} (hY : StrY (fun i => (lastsTo w i).map sg) i ys) (hc : w.getD i 0 = c) (h : ((w.drop (i + 1)).map lo1).contains (lo1 c) = true) : StrY (fun i => (lastsTo w i).map sg) (i + 1) ys := by
  show StrsAre ys ((lastsTo w (i + 1)).map sg)
  rw [lastsTo, hc, h, if_neg (by decide), List.append_nil]
  exact hY
theorem yl_add {w : List Nat} {i c : Nat} {t : Tok} {ys : List Value} (hY : StrY (fun i => (lastsTo w i).map sg) i ys) (hc : w.getD i 0 = c) (h : ((w.drop (i + 1)).map lo1).contains (lo1 c) = false) : StrY (fun i => (lastsTo w i).map sg) (i + 1) (ys ++ [.str (sg c) t]) := by
  show StrsAre _ ((lastsTo w (i + 1)).map sg)
  rw [lastsTo, hc, h, if_pos (by decide), List.map_append]
  exact strs_app hY _ _
theorem lastsTo_le (w : List Nat) : ∀ i, (lastsTo w i).length ≤ i
  | 0 => Nat.le_refl _
  | i + 1 => by
    rw [lastsTo, List.length_append]
    have := lastsTo_le w i
    split <;> simp <;> omega
theorem lastsTo_drop (w : List Nat) : ∀ k, k ≤ w.length → lastsTo w w.length = lastsTo w (w.length - k) ++ lastsP (w.drop (w.length - k))
  | 0, _ => by simp [lastsP]
  | k + 1, h => by
    rw [lastsTo_drop w k (by omega)]
    have e : w.length - k = (w.length - (k + 1)) + 1 := by omega
    generalize w.length - (k + 1) = j at e
    have hj : j < w.length := by omega
    rw [e, List.drop_eq_getElem_cons hj, lastsP, lastsTo, List.append_assoc]
    congr 2
    have : w.getD j 0 = w[j] := by rw [List.getD_eq_getElem?_getD, List.getElem?_eq_getElem hj]; rfl
    rw [this]
    cases (List.map lo1 (w.drop (j + 1))).contains (lo1 w[j]) <;> rfl
theorem lastsTo_all (w : List Nat) : lastsTo w w.length = lastsP w := by
  have := lastsTo_drop w w.length (Nat.le_refl _)
  simpa [lastsTo] using this
section
variable {prog : Program} {w : World} {A : Around} {E : Value → Shared → Prop} {s : Shared} {h₀ : Heap} {L : Addr} {m : Str → Option Value} {env : Env}
theorem notin_letter {r : List Nat} {c : Nat} {u t : Tok} {Q : Value → Shared → Prop} (h : Q (.bool (!(r.map lo1).contains (lo1 c))) s) : wpAny (model prog w) A (compareOp .NotIn (.str (low (sg c)) u) (.str (low (tx r)) t)) Q E s := by
  refine SB.notContains ?_
  have e : Txt.contains (low (tx r)) (low (sg c)) = (r.map lo1).contains (lo1 c) := by
    unfold Txt.contains
    rw [show low (sg c) = ⟨#[lo1 c]⟩ from by simp [low], empty_one]
    rw [Bool.eq_iff_iff]
    simp [low]
  rw [e]; exact h
theorem row_next {row : List Nat} {i : Nat} {value slice : Expr} {t uj : Tok} {news : List (Addr × Obj)} {Q : Value → Shared → Prop} {j : Int} (hr : RowOk row) (hi : i < 6) (hj : j = (i : Int) + 1) (F : Fr h₀ L s.heap m) (N : News h₀ L s.heap news) (h : ∀ h' t' k, Fr h₀ L h' m → News h₀ L h' news → (∀ b o, s.heap.get? b = some o → h'.get? b = some o) → Lets (tx (row.drop (i + 1))) → Q (.str (tx (row.drop (i + 1))) t') { s with heap := h', toks := k })
    (hs : subscripted slice false (.str (tx row) t) (.ref s.heap.objs.size) = operate [.ref s.heap.objs.size, .str (tx row) t] (getItem (.str (tx row) t) (.ref s.heap.objs.size)) := by with_unfolding_all rfl)
    (ht : ∀ r, letTemporaryGo value (.str (tx row) t) r = pure () := by intro _; with_unfolding_all rfl) :
    wpAny (model prog w) A (subscriptTail value slice (.str (tx row) t) (.ref s.heap.objs.size)) Q E { s with heap := s.heap.push { cls := .type "slice", data := .fields #[.int j uj, .none, .none] } } := by
  subst hj
  have hl : (tx row).length = 6 := hr.1
  have hl' := hr.1
  refine tail_of_ItemOn (SBH.sliceItem_sn (P := fun h => Fr h₀ L h m ∧ News h₀ L h news ∧ ∀ b o, s.heap.get? b = some o → h.get? b = some o) (fun h ob a => ⟨Fr.pushS a.1 ob, a.2.1.pushKeep ob, fun b o e => Heap.get?_push_of_some _ (a.2.2 b o e)⟩) ⟨F, N, fun _ _ e => e⟩ (fun h' t' k a => ?_) (by rw [sizeLine_eq]; omega)) hs ht
  have e : Txt.slice (tx row) (some ((i : Int) + 1)) none = tx (row.drop (i + 1)) := by
    rw [slice_from_eq (x := tx row) (i := (i : Int) + 1) (b := 6) (by omega) (by omega) (by omega)]
    show (⟨((row.drop _).take _).toArray⟩ : Str) = _
    have e2 : ((i : Int) + 1).toNat = i + 1 := by omega
    have e3 : ((6 : Int) - (i + 1)).toNat = 6 - (i + 1) := by omega
    rw [e2, e3, List.take_of_length_le (by simp [hl'])]
  rw [e]
  exact h h' t' k a.1 a.2.1 a.2.2 (lets_drop hr _)
theorem src_enum {elt ct : Expr} {x₁ x₂ y : Str} {scope : Scope} {cl : List (Str × Addr)} {v : Str} {t : Tok} {news : List (Addr × Obj)} {Q : Flow → Shared → Prop} (Y : Nat → List Value → Prop) (hh : A.handled = none) (ha : v.cps.all (· < 128) = true) (F : Fr h₀ L s.heap m) (N : News h₀ L s.heap news) (hsz : v.cps.size ≤ sizeLine) (hYl : ∀ i ys, Y i ys → ys.length ≤ i) (y0 : Y 0 [])
    (turn : ∀ (i : Nat) c t₁ t' C oC D m₂ h tk ys (E' : Value → Shared → Prop), v.cps[i]? = some c → LCg.NsObj oC m₂ → m₂ x₁ = some (.int i t₁) → m₂ x₂ = some (.str ⟨#[c]⟩ t') → Fr h₀ L h m → News h₀ L h ((C, oC) :: (D, LCg.lst ys) :: news) → Y i ys →
      wpAny (model prog w) A (isTrue ct (compEnvC scope cl C env) (eval ct (compEnvC scope cl C env))) (fun ok s₃ => if ok = true then
        wpAny (model prog w) A (eval elt (compEnvC scope cl C env)) (fun x s₄ => ∃ h' tk', s₄ = { s with heap := h', toks := tk' } ∧ (∀ b o, h.get? b = some o → h'.get? b = some o) ∧ Y (i + 1) (ys ++ [x])) E' s₃
        else ∃ h' tk', s₃ = { s with heap := h', toks := tk' } ∧ (∀ b o, h.get? b = some o → h'.get? b = some o) ∧ Y (i + 1) ys) E' { s with heap := h, toks := tk })
    (fin : ∀ D h tk ys, Y v.cps.size ys → Fr h₀ L h (fun z => if z = y then some (.ref D) else m z) → News h₀ L h ((D, LCg.lst ys) :: news) → Q .next { s with heap := h, toks := tk }) :
    wpAny (model prog w) A (call (.type "enumerate") [.str v t]) (SrcN prog w A h₀ L m env elt ct x₁ x₂ scope cl y Q) E s := by
  refine call_enumerate_str fun h' he hit hsz' hk => ?_
  have hit' : h'.IsStrIter s.heap.objs.size "str_ascii_iterator" v t 0 := by simpa [strIterType, ha] using hit
  exact ⟨v, t, s.heap.objs.size, news, Y, rfl, hh, F.keeps hk, fun p hp => ⟨hk _ _ (N p hp).1, (N p hp).2⟩, fun p hp => Heap.lt_size (N p hp).1, F.ns.lt, fun a ha => base_out F ha, hsz', he, hit', hsz, hYl, y0,
    fun i c t₁ t' C oC D m₂ h tk ys E' a1 a2 a3 a4 a5 a6 a7 => turn i c t₁ t' C oC D m₂ h tk ys E' a1 a2 a3 a4 a5 a6 a7, fun D h tk ys a1 a2 a3 _ => fin D h tk ys a1 a2 a3⟩
end
theorem ascii_row {row : List Nat} (h : RowOk row) : (tx row).cps.all (· < 128) = true := by
  rw [← Array.all_toList, List.all_eq_true]
  intro c hc
  have := isLet_cases (h.2 c (by simpa using hc))
  simp
  omega
end Mine
end

/- F15 -/
section
open PySem PySem.W PyProof.Rows PySem.Calls
set_option Elab.async false
set_option maxRecDepth 100000
set_option maxHeartbeats 8000000
set_option linter.unusedVariables false
namespace Mine
theorem strs_get {vs : List Value} {ys : List Str} (h : StrsAre vs ys) : ∀ {i : Nat} {v : Value}, vs[i]? = some v → ∃ y t, ys[i]? = some y ∧ v = .str y t := by
  induction h with
  | nil => intro i v e; simp at e
  | cons y t _ ih =>
    intro i v e
    cases i with
    | zero => simp at e; exact ⟨y, t, by simp, e.symm⟩
    | succ i => simpa using ih (by simpa using e)
abbrev colTo (w : List Nat) (d : Nat) (i : Nat) : List Str := ((w.take i).filter fun o => lo1 o == lo1 d).map sg
theorem colTo_le (w : List Nat) (d i : Nat) : (colTo w d i).length ≤ i := by
  rw [List.length_map]
  exact Nat.le_trans (List.length_filter_le _ _) (by rw [List.length_take]; omega)
theorem take_next {w : List Nat} {i : Nat} (hi : i < w.length) : w.take (i + 1) = w.take i ++ [w.getD i 0] := by
  rw [List.take_add_one, List.getD_eq_getElem?_getD, List.getElem?_eq_getElem hi]; rfl
theorem yi_skip {w : List Nat} {i c d : Nat} {ys : List Value} (hi : i < w.length) (hY : StrY (colTo w d) i ys) (hc : w.getD i 0 = c) (h : (low (sg c) == low (sg d)) = false) : StrY (colTo w d) (i + 1) ys := by
  show StrsAre ys (colTo w d (i + 1))
  rw [low_sg_eq] at h
  rw [colTo, take_next hi, List.filter_append, hc, List.filter_cons, if_neg (by simp [h]), List.filter_nil, List.append_nil]
  exact hY
theorem yi_add {w : List Nat} {i c d : Nat} {t : Tok} {ys : List Value} (hi : i < w.length) (hY : StrY (colTo w d) i ys) (hc : w.getD i 0 = c) (h : (low (sg c) == low (sg d)) = true) : StrY (colTo w d) (i + 1) (ys ++ [.str (sg c) t]) := by
  show StrsAre _ (colTo w d (i + 1))
  rw [low_sg_eq] at h
  rw [colTo, take_next hi, List.filter_append, hc, List.filter_cons, if_pos h, List.filter_nil, List.map_append]
  exact strs_app hY _ _
theorem colTo_all (w : List Nat) (d : Nat) : colTo w d w.length = (colP w d).map sg := by rw [colTo, List.take_length]; rfl
theorem join_col (w : List Nat) (d : Nat) : Txt.join (Str.ofString "") ((colP w d).map sg) = tx (colP w d) := by
  have : (colP w d).map sg = ((colP w d).map fun c => [c]).map tx := by
    rw [List.map_map]; rfl
  rw [this, join_txs]
  congr 1
  induction colP w d with
  | nil => rfl
  | cons a l ih => simp only [List.map_cons, List.flatten_cons]; rw [ih]; rfl
abbrev dueTo (w : List Nat) (i : Nat) : List Str := ((lastsP w).take i).map fun d => tx (colP w d)
theorem dueTo_le (w : List Nat) (i : Nat) : (dueTo w i).length ≤ i := by
  rw [List.length_map, List.length_take]; omega
theorem yo_add {w : List Nat} {i d : Nat} {t : Tok} {ys : List Value} (hd : (lastsP w)[i]? = some d) (hY : StrY (dueTo w) i ys) : StrY (dueTo w) (i + 1) (ys ++ [.str (tx (colP w d)) t]) := by
  show StrsAre _ (dueTo w (i + 1))
  rw [dueTo, List.take_add_one, hd, List.map_append]
  exact strs_app hY _ _
section
variable {prog : Program} {w : World} {A : Around} {E : Value → Shared → Prop} {s : Shared} {h₀ : Heap} {L : Addr} {m : Str → Option Value} {env : Env}
theorem src_cell {elt : Expr} {x y : Str} {scope : Scope} {cl : List (Str × Addr)} {ax : Addr} {vs : List Value} {ds : List Nat} {k : Nat} {news : List (Addr × Obj)} {Q : Flow → Shared → Prop} (Y : Nat → List Value → Prop) (hh : A.handled = none) (hv : StrsAre vs (ds.map sg)) (hsz : ds.length ≤ 6) (F : Fr h₀ L s.heap m) (N : News h₀ L s.heap news) (hm : (ax, ({ cls := .type "list", data := .seq vs.toArray k } : Obj)) ∈ news) (hYl : ∀ i ys, Y i ys → ys.length ≤ i) (y0 : Y 0 [])
    (turn : ∀ (i : Nat) d t X oX C D h tk ys (E' : Value → Shared → Prop), ds[i]? = some d → oX.data = .cell (some (.str (sg d) t)) → Fr h₀ L h m → News h₀ L h ((X, oX) :: (D, LCg.lst ys) :: news) → Y i ys →
      wpAny (model prog w) A (eval elt (compEnvC scope ((x, X) :: cl) C env)) (fun x s₄ => ∃ h' tk', s₄ = { s with heap := h', toks := tk' } ∧ (∀ b o, h.get? b = some o → h'.get? b = some o) ∧ Y (i + 1) (ys ++ [x])) E' { s with heap := h, toks := tk })
    (fin : ∀ D h tk ys, Y ds.length ys → Fr h₀ L h (fun z => if z = y then some (.ref D) else m z) → News h₀ L h ((D, LCg.lst ys) :: news) → Q .next { s with heap := h, toks := tk }) :
    SrcC prog w A h₀ L m env elt x scope cl y Q (.ref ax) s := by
  have hvl : vs.length = ds.length := by rw [StrsAre.length hv, List.length_map]
  refine ⟨ax, vs.toArray, k, news, Y, rfl, hh, F, N, hm, by rw [List.size_toArray, sizeLine_eq]; omega, hYl, y0, fun i v X oX C D h tk ys E' hi hX F' N' hY => ?_, fun D h tk ys a1 a2 a3 _ => fin D h tk ys (by rw [List.size_toArray, hvl] at a1; exact a1) a2 a3⟩
  obtain ⟨y', t, hy, rfl⟩ := strs_get hv (by simpa using hi)
  obtain ⟨d, hd, rfl⟩ : ∃ d, ds[i]? = some d ∧ y' = sg d := by
    rw [List.getElem?_map] at hy
    cases q : ds[i]? with
    | none => rw [q] at hy; cases hy
    | some d => rw [q] at hy; exact ⟨d, rfl, (Option.some.inj hy).symm⟩
  exact turn i d t X oX C D h tk ys E' hd hX F' N' hY
theorem src_str {elt ct : Expr} {x : Str} {scope : Scope} {cl : List (Str × Addr)} {v : Str} {t : Tok} {news : List (Addr × Obj)} {Q : Value → Shared → Prop} (Y : Nat → List Value → Prop) (hh : A.handled = none) (F : Fr h₀ L s.heap m) (N : News h₀ L s.heap news) (hsz : v.cps.size ≤ sizeLine) (hYl : ∀ i ys, Y i ys → ys.length ≤ i) (y0 : Y 0 [])
    (turn : ∀ i c t' C oC D m₂ h tk ys (E' : Value → Shared → Prop), v.cps[i]? = some c → LCg.NsObj oC m₂ → m₂ x = some (.str ⟨#[c]⟩ t') → Fr h₀ L h m → News h₀ L h ((C, oC) :: (D, LCg.lst ys) :: news) → Y i ys →
      wpAny (model prog w) A (isTrue ct (compEnvC scope cl C env) (eval ct (compEnvC scope cl C env))) (fun ok s₃ => if ok = true then
        wpAny (model prog w) A (eval elt (compEnvC scope cl C env)) (fun x s₄ => ∃ h' tk', s₄ = { s with heap := h', toks := tk' } ∧ (∀ b o, h.get? b = some o → h'.get? b = some o) ∧ Y (i + 1) (ys ++ [x])) E' s₃
        else ∃ h' tk', s₃ = { s with heap := h', toks := tk' } ∧ (∀ b o, h.get? b = some o → h'.get? b = some o) ∧ Y (i + 1) ys) E' { s with heap := h, toks := tk })
    (fin : ∀ D h tk ys, Y v.cps.size ys → Fr h₀ L h m → News h₀ L h ((D, LCg.lst ys) :: news) → (∀ b o, s.heap.get? b = some o → h.get? b = some o) → Q (.ref D) { s with heap := h, toks := tk }) :
    SrcS prog w A h₀ L m env elt ct x scope cl Q (.str v t) s :=
  ⟨v, t, news, Y, rfl, hh, F, N, hsz, hYl, y0, turn, fin⟩
end
end Mine
namespace Mine
theorem colP_len (w : List Nat) (d : Nat) : (colP w d).length ≤ w.length := List.length_filter_le _ _
theorem sg_weight (l : List Nat) : ((l.map sg).map (·.length)).sum + (l.map sg).length = 2 * l.length := by
  rw [List.map_map, show ((fun x : Str => x.length) ∘ sg) = fun _ => 1 from rfl]
  induction l with
  | nil => rfl
  | cons a l ih => simp only [List.map_cons, List.sum_cons, List.length_cons, List.length_map] at ih ⊢; omega
theorem lastsP_len (w : List Nat) : (lastsP w).length ≤ w.length := by
  rw [← lastsTo_all]; exact lastsTo_le w _
theorem dueTo_all (w : List Nat) : dueTo w (lastsP w).length = (lastsP w).map fun d => tx (colP w d) := by rw [dueTo, List.take_length]
end Mine
end

/- F16 -/
section
open PySem PySem.W PyProof.Rows PySem.Calls
set_option Elab.async false
set_option maxRecDepth 100000
set_option maxHeartbeats 8000000
set_option linter.unusedVariables false
namespace Mine
theorem carried_strs {vs : List Value} {ys : List Str} (h : StrsAre vs ys) : CarriedAll vs (ys.map PyData.str) := by
  induction h with
  | nil => exact .nil
  | cons y t _ ih => exact .cons (.str y t) ih
theorem eqv_strs : ∀ ys : List Str, PyData.eqvAll (ys.map PyData.str) (ys.map PyData.str) = true
  | [] => by simp [PyData.eqvAll]
  | y :: ys => by simp only [List.map_cons, PyData.eqvAll, PyData.eqv, eqv_strs ys]; simp
theorem lay_strs : ∀ ys : List Str, (∀ y ∈ ys, PyData.strOk y = true) → PyData.canLayAll0 (ys.map PyData.str) = true
  | [], _ => rfl
  | y :: ys, h => by simp [PyData.canLayAll0, PyData.canLay0, lay_strs ys fun z hz => h z (.tail _ hz), h y (.head _)]
theorem deep_strs : ∀ ys : List Str, PyData.depthAll (ys.map PyData.str) = 0
  | [] => rfl
  | y :: ys => by simp [PyData.depthAll, PyData.depth, deep_strs ys]
abbrev two (a b : List Str) : PyData := .tuple [.list (a.map PyData.str), .list (b.map PyData.str)]
theorem eqv_two (a b : List Str) : PyData.eqv (two a b) (two a b) = true := by
  simp only [two, PyData.eqv, PyData.eqvAll, eqv_strs, Bool.and_true]
theorem shaped_two (a b : List Str) (ha : ∀ y ∈ a, PyData.strOk y = true) (hb : ∀ y ∈ b, PyData.strOk y = true) : SeqAt.shaped (two a b) = true := by
  simp [SeqAt.shaped, PyData.canLay0, PyData.canLayAll0, PyData.depth, PyData.depthAll, lay_strs a ha, lay_strs b hb, deep_strs]
abbrev rowsD (ps : List (Str × Str)) : PyData := .list (ps.map fun p => PyData.tuple [.str p.1, .str p.2])
theorem eqv_rows : ∀ ps : List (Str × Str), PyData.eqvAll (ps.map fun p => PyData.tuple [.str p.1, .str p.2]) (ps.map fun p => PyData.tuple [.str p.1, .str p.2]) = true
  | [] => by simp [PyData.eqvAll]
  | p :: ps => by simp only [List.map_cons, PyData.eqvAll, PyData.eqv, eqv_rows ps]; simp
theorem lay_rows : ∀ ps : List (Str × Str), (∀ p ∈ ps, PyData.strOk p.1 = true ∧ PyData.strOk p.2 = true) → PyData.canLayAll0 (ps.map fun p => PyData.tuple [.str p.1, .str p.2]) = true
  | [], _ => rfl
  | p :: ps, h => by simp [PyData.canLayAll0, PyData.canLay0, lay_rows ps fun z hz => h z (.tail _ hz), h p (.head _)]
theorem deep_rows : ∀ ps : List (Str × Str), PyData.depthAll (ps.map fun p => PyData.tuple [.str p.1, .str p.2]) ≤ 1
  | [] => by simp [PyData.depthAll]
  | p :: ps => by
    have := deep_rows ps
    simp [PyData.depthAll, PyData.depth]
    omega
theorem shaped_rows (ps : List (Str × Str)) (h : ∀ p ∈ ps, PyData.strOk p.1 = true ∧ PyData.strOk p.2 = true) : SeqAt.shaped (rowsD ps) = true := by
  have := deep_rows ps
  simp [SeqAt.shaped, PyData.canLay0, PyData.depth, lay_rows ps h]
  omega
theorem names_strs (es : List Ent) : StrsAre (es.map fun e => Value.str e.k e.a) ((pairs es).map (·.1)) := by
  induction es with
  | nil => exact .nil
  | cons e es ih => exact .cons _ _ ih
theorem cols_strs (es : List Ent) : StrsAre (es.map fun e => Value.str e.v e.b) ((pairs es).map (·.2)) := by
  induction es with
  | nil => exact .nil
  | cons e es ih => exact .cons _ _ ih
theorem rows_reads {h : Heap} (es : List Ent) (hn : ∀ e ∈ es, h.get? e.t = some (tupO e.k e.v e.a e.b e.n)) : ∃ as, ReadsAll h (es.map Ent.r) ((pairs es).map fun p => PyData.tuple [.str p.1, .str p.2]) as := by
  induction es with
  | nil => exact ⟨_, .nil⟩
  | cons e es ih =>
    obtain ⟨as, h1⟩ := ih fun e' he => hn e' (.tail _ he)
    exact ⟨_, .cons (.tuple (hn e (.head _)) rfl rfl (.cons (.str _ _) (.cons (.str _ _) .nil))) h1⟩
theorem letters_ok {l : List Nat} (h : ∀ c ∈ l, isLet c = true) : PyData.strOk (tx l) = true := by
  unfold PyData.strOk
  rw [← Array.all_toList, List.all_eq_true]
  intro c hc
  rcases isLet_cases (h c (by simpa using hc)) with rfl | rfl | rfl | rfl | rfl | rfl <;> decide
section
variable {prog : Program} {w : World} {A : Around} {E : Value → Shared → Prop} {s : Shared} {Q : Value → Shared → Prop}
theorem ne_two {T₁ T₂ n₁ n₂ c₁ c₂ : Addr} {vn₁ vn₂ vc₁ vc₂ : List Value} {ys zs : List Str} (h₁ : s.heap.IsTuple T₁ #[.ref n₁, .ref c₁]) (h₂ : s.heap.IsTuple T₂ #[.ref n₂, .ref c₂])
    (a₁ : s.heap.IsList n₁ vn₁.toArray) (b₁ : s.heap.IsList c₁ vc₁.toArray) (a₂ : s.heap.IsList n₂ vn₂.toArray) (b₂ : s.heap.IsList c₂ vc₂.toArray)
    (s₁ : StrsAre vn₁ ys) (t₁ : StrsAre vc₁ zs) (s₂ : StrsAre vn₂ ys) (t₂ : StrsAre vc₂ zs) (oy : ∀ y ∈ ys, PyData.strOk y = true) (oz : ∀ y ∈ zs, PyData.strOk y = true) (hu : A.units + 64 < cLine) (hQ : Q (.bool false) s) :
    wpAny (model prog w) A (compareOp .NotEq (.ref T₁) (.ref T₂)) Q E s := by
  obtain ⟨o₁, g₁, k₁, m₁, d₁⟩ := h₁
  obtain ⟨o₂, g₂, k₂, m₂, d₂⟩ := h₂
  refine ne_dataH (da := two ys zs) (db := two ys zs) (.tuple g₁ k₁ d₁ (.cons (reads_newData a₁ (carried_strs s₁)) (.cons (reads_newData b₁ (carried_strs t₁)) .nil)))
    (.tuple g₂ k₂ d₂ (.cons (reads_newData a₂ (carried_strs s₂)) (.cons (reads_newData b₂ (carried_strs t₂)) .nil))) (shaped_two _ _ oy oz) (shaped_two _ _ oy oz) hu ?_
  rw [eqv_two]; exact hQ
theorem ne_rows {l₁ l₂ : Addr} {es fs : List Ent} {n₁ n₂ : Nat} (h₁ : s.heap.get? l₁ = some (listOf (es.map Ent.r).toArray n₁)) (h₂ : s.heap.get? l₂ = some (listOf (fs.map Ent.r).toArray n₂))
    (a₁ : ∀ e ∈ es, s.heap.get? e.t = some (tupO e.k e.v e.a e.b e.n)) (a₂ : ∀ e ∈ fs, s.heap.get? e.t = some (tupO e.k e.v e.a e.b e.n)) (he : pairs es = pairs fs) (ok : ∀ p ∈ pairs fs, PyData.strOk p.1 = true ∧ PyData.strOk p.2 = true) (hu : A.units + 64 < cLine) (hQ : Q (.bool false) s) :
    wpAny (model prog w) A (compareOp .NotEq (.ref l₁) (.ref l₂)) Q E s := by
  obtain ⟨as, r₁⟩ := rows_reads es a₁
  obtain ⟨bs, r₂⟩ := rows_reads fs a₂
  refine ne_dataH (da := rowsD (pairs es)) (db := rowsD (pairs fs)) (.list h₁ rfl rfl r₁) (.list h₂ rfl rfl r₂) (shaped_rows _ (he ▸ ok)) (shaped_rows _ ok) hu ?_
  rw [he]
  have : PyData.eqv (rowsD (pairs fs)) (rowsD (pairs fs)) = true := by
    simp only [rowsD, PyData.eqv, eqv_rows]
  rw [this]; exact hQ
theorem eq_nils {l₁ l₂ : Addr} (h₁ : s.heap.IsList l₁ #[]) (h₂ : s.heap.IsList l₂ #[]) (hu : A.units + 64 < cLine) (hQ : Q (.bool true) s) :
    wpAny (model prog w) A (compareOp .Eq (.ref l₁) (.ref l₂)) Q E s := by
  obtain ⟨o₁, g₁, k₁, m₁, d₁⟩ := h₁
  obtain ⟨o₂, g₂, k₂, m₂, d₂⟩ := h₂
  refine eq_dataH (da := .list []) (db := .list []) (.list g₁ k₁ d₁ .nil) (.list g₂ k₂ d₂ .nil) rfl rfl hu ?_
  have : PyData.eqv (.list []) (.list []) = true := by simp [PyData.eqv, PyData.eqvAll]
  rw [this]; exact hQ
end
end Mine
namespace Mine
theorem names_rows {es : List Ent} {ls : List Nat} (h : pairs es = tabP ls) : StrsAre (es.map fun e => Value.str e.k e.a) ((lastsP ls).map sg) := by
  have := names_strs es
  rw [h, tabP_rowsOf] at this
  unfold rowsOf at this
  rw [List.map_map] at this
  exact this
theorem cols_rows {es : List Ent} {ls : List Nat} (h : pairs es = tabP ls) : StrsAre (es.map fun e => Value.str e.v e.b) ((lastsP ls).map fun d => tx (colP ls d)) := by
  have := cols_strs es
  rw [h, tabP_rowsOf] at this
  unfold rowsOf at this
  rw [List.map_map] at this
  exact this
theorem sg_ok {l : List Nat} (h : ∀ c ∈ l, isLet c = true) : ∀ y ∈ l.map sg, PyData.strOk y = true := by
  intro y hy
  obtain ⟨c, hc, rfl⟩ := List.mem_map.mp hy
  exact letters_ok (l := [c]) fun d hd => by rw [List.mem_singleton.mp hd]; exact h c hc
theorem col_ok {w l : List Nat} (h : ∀ c ∈ w, isLet c = true) : ∀ y ∈ l.map (fun d => tx (colP w d)), PyData.strOk y = true := by
  intro y hy
  obtain ⟨c, hc, rfl⟩ := List.mem_map.mp hy
  exact letters_ok fun d hd => h d (List.mem_filter.mp hd).1
theorem join_cols (w : List Nat) : Txt.join (Str.ofString "") ((lastsP w).map fun d => tx (colP w d)) = tx (startP w) := by
  unfold startP
  rw [← join_txs, List.map_map]; rfl
theorem cols_weight (w l : List Nat) : ((l.map fun d => tx (colP w d)).map (·.length)).sum + (l.map fun d => tx (colP w d)).length ≤ l.length * (w.length + 1) := by
  induction l with
  | nil => simp
  | cons a l ih =>
    have := colP_len w a
    have e : (tx (colP w a)).length = (colP w a).length := List.size_toArray
    simp only [List.map_cons, List.sum_cons, List.length_cons, List.length_map] at ih ⊢
    rw [e, Nat.add_mul]
    omega
end Mine
end

/- F17 -/
section
open PySem PySem.W PyProof.Rows PySem.Calls
set_option Elab.async false
set_option maxRecDepth 100000
set_option maxHeartbeats 8000000
set_option linter.unusedVariables false
namespace Mine
section
variable {prog : Program} {w : World} {A : Around} {s : Shared} {h₀ : Heap} {L : Addr} {m : Str → Option Value} {env : Env} {elt : PySem.Expr} {x : Str} {scope : Scope} {cl : List (Str × Addr)}
  {S : List (Addr × Obj) → Prop} {P : Nat → Value → Prop} {Fin : List Value → List (Addr × Obj) → Prop} {news : List (Addr × Obj)}
/-- the turns of [elt for x in texts], elt a number g x that touches no heap -/
theorem restN (g : Str → Int) (ok : Str → Prop)
    (ev : ∀ (z : Str) (t : Tok) (I : Addr) (oI : Obj) (C : Addr) (oC : Obj) (D : Addr) (ys : List Value) (m₂ : Str → Option Value) (h : Heap) (tk : Nat) (Q : Value → Shared → Prop) (E' : Value → Shared → Prop), ok z → LCg.NsObj oC m₂ → m₂ x = some (.str z t) → Fr h₀ L h m → News h₀ L h ((I, oI) :: (C, oC) :: (D, LCg.lst ys) :: news) →
      (∀ t' tk', Q (.int (g z) t') { s with heap := h, toks := tk' }) → wpAny (model prog w) A (eval elt (compEnvC scope cl C env)) Q E' { s with heap := h, toks := tk })
    (hS : S news) :
    ∀ (zs : List Str) (vs : List Value) (i : Nat) (ys : List Value), StrsAre vs zs → (∀ z ∈ zs, ok z) → (∀ j v, P (i + j) v → j < zs.length → vs[j]? = some v) → (∀ us, IntsAre us (zs.map g) → Fin (ys ++ us) news) →
      LCg.CompRest prog w A h₀ L m env elt x scope cl s S P Fin zs.length i ys news
  | [], _, i, ys, _, _, _, fin => by
    refine LCg.CompRest.zero ?_
    simpa using fin [] .nil
  | z :: zs, _, i, ys, .cons _ t hv, hok, hP, fin => by
    refine LCg.CompRest.succ ?_
    intro v I oI C oC D m₂ h tk E' hPv hC hx F N off ne
    have e : Value.str z t = v := by simpa using hP 0 v hPv (by simp)
    subst e
    refine ev z t I oI C oC D ys m₂ h tk _ _ (hok z (.head _)) hC hx F N fun t' tk' => ?_
    have ih := restN g ok ev hS zs _ (i + 1) (ys ++ [.int (g z) t']) hv (fun y hy => hok y (.tail _ hy))
      (fun j v h1 h2 => by simpa using hP (j + 1) v (by rw [show i + (j + 1) = i + 1 + j from by omega]; exact h1) (by simpa using h2))
      (fun us hu => by
        have := fin (.int (g z) t' :: us) (.cons _ _ hu)
        simpa using this)
    exact LCg.CompEnd.intro F N news (fun _ h => h) off hS ih
theorem restN0 (g : Str → Int) (ok : Str → Prop) {zs : List Str} {vs : List Value} {n : Nat} (hv : StrsAre vs zs) (hok : ∀ z ∈ zs, ok z) (hn : n = zs.length)
    (ev : ∀ (z : Str) (t : Tok) (I : Addr) (oI : Obj) (C : Addr) (oC : Obj) (D : Addr) (ys : List Value) (m₂ : Str → Option Value) (h : Heap) (tk : Nat) (Q : Value → Shared → Prop) (E' : Value → Shared → Prop), ok z → LCg.NsObj oC m₂ → m₂ x = some (.str z t) → Fr h₀ L h m → News h₀ L h ((I, oI) :: (C, oC) :: (D, LCg.lst ys) :: news) →
      (∀ t' tk', Q (.int (g z) t') { s with heap := h, toks := tk' }) → wpAny (model prog w) A (eval elt (compEnvC scope cl C env)) Q E' { s with heap := h, toks := tk })
    (hS : S news) (hP : ∀ j v, P j v → j < zs.length → vs[j]? = some v) (fin : ∀ us, IntsAre us (zs.map g) → Fin us news) :
    LCg.CompRest prog w A h₀ L m env elt x scope cl s S P Fin n 0 [] news := by
  subst hn
  exact restN g ok ev hS zs vs 0 [] hv hok (fun j v h1 h2 => hP j v (by simpa using h1) h2) (by simpa using fin)
end
end Mine
namespace Mine
theorem sizes_eq (w : List Nat) : ((lastsP w).map fun d => tx (colP w d)).map (fun z => (z.length : Int)) = (lastsP w).map fun d => ((colP w d).length : Int) := by
  rw [List.map_map]
  exact List.map_congr_left fun d _ => by
    have e : (tx (colP w d)).length = (colP w d).length := List.size_toArray
    simp only [Function.comp]
    rw [e]
theorem sizes_pos {w : List Nat} (h : w.length = 6) : ∀ z ∈ (lastsP w).map fun d => ((colP w d).length : Int), 1 ≤ z ∧ z ≤ 64 := by
  intro z hz
  obtain ⟨d, hd, rfl⟩ := List.mem_map.mp hz
  have h1 : d ∈ colP w d := List.mem_filter.mpr ⟨lastsP_mem hd, by simp⟩
  have h2 := List.length_pos_of_mem h1
  have h3 := colP_len w d
  constructor <;> omega
end Mine
namespace Mine
theorem kept_none : ∀ (rs : List Value) (i : Nat), kept (fun _ => false) i rs = []
  | [], _ => rfl
  | r :: rs, i => by rw [kept, kept_none rs]; rfl
theorem row_of {vs : List Value} {rs : List (List Nat)} (h : StrsAre vs (rs.map tx)) {i : Nat} {v : Value} (e : vs.toArray[i]? = some v) : ∃ r t, r ∈ rs ∧ v = .str (tx r) t := by
  obtain ⟨y, t, hy, rfl⟩ := strs_get h (i := i) (v := v) (by simpa using e)
  obtain ⟨r, hr, rfl⟩ := List.mem_map.mp (List.mem_of_getElem? hy)
  exact ⟨r, t, hr, rfl⟩
theorem rows_ok {w : List Nat} (h : ∀ c ∈ w, isLet c = true) : ∀ p ∈ tabP w, PyData.strOk p.1 = true ∧ PyData.strOk p.2 = true := by
  intro p hp
  rw [tabP_rowsOf] at hp
  obtain ⟨d, hd, rfl⟩ := List.mem_map.mp hp
  exact ⟨letters_ok (l := [d]) fun c hc => by rw [List.mem_singleton.mp hc]; exact h d (lastsP_mem hd), letters_ok fun c hc => h c (List.mem_filter.mp hc).1⟩
end Mine
namespace Mine
theorem news_tab {h₀ h : Heap} {L x dx l : Addr} {hs : Int} {tk0 : Tok} {ep c : Nat} {es : List Ent} {old : List (Addr × Obj)} (N : News h₀ L h (tabO x dx l hs tk0 ep c es ++ old)) :
    News h₀ L h ((x, instObj 206 dx) :: (dx, dictOf (hdD hs tk0 l) ep) :: (l, listOf (es.map Ent.r).toArray c) :: (old ++ es.map Ent.o)) := by
  intro q hq
  refine N q ?_
  rcases List.mem_cons.mp hq with rfl | hq
  · exact .head _
  rcases List.mem_cons.mp hq with rfl | hq
  · exact .tail _ (.head _)
  rcases List.mem_cons.mp hq with rfl | hq
  · exact .tail _ (.tail _ (.head _))
  rcases List.mem_append.mp hq with hq | hq
  · exact List.mem_append_right _ hq
  · exact List.mem_append_left _ (.tail _ (.tail _ (.tail _ hq)))
end Mine
end

/- C11 -/
section
local macro_rules | `(tactic| walk_at "idle") => `(tactic| skip)
local macro_rules | `(tactic| walk_at "idle") => `(tactic| skip)
local macro_rules | `(tactic| walk_at "idle") => `(tactic| skip)
local macro_rules | `(tactic| walk_at "idle") => `(tactic| skip)
local macro_rules | `(tactic| walk_at "idle") => `(tactic| skip)
local macro_rules | `(tactic| walk_at "idle") => `(tactic| skip)
local macro_rules | `(tactic| walk_at "idle") => `(tactic| skip)
local macro_rules | `(tactic| walk_at "idle") => `(tactic| skip)
local macro_rules | `(tactic| walk_at "idle") => `(tactic| skip)
local macro_rules | `(tactic| walk_at "idle") => `(tactic| skip)
local macro_rules | `(tactic| walk_at "idle") => `(tactic| skip)
local macro_rules | `(tactic| walk_at "idle") => `(tactic| skip)
local macro_rules | `(tactic| walk_at "idle") => `(tactic| skip)
local macro_rules | `(tactic| walk_at "idle") => `(tactic| skip)
local macro_rules | `(tactic| walk_at "idle") => `(tactic| skip)
local macro_rules | `(tactic| walk_at "idle") => `(tactic| skip)
local macro_rules | `(tactic| walk_at "idle") => `(tactic| skip)
local macro_rules | `(tactic| walk_at "idle") => `(tactic| skip)
local macro_rules | `(tactic| walk_at "idle") => `(tactic| skip)
local macro_rules | `(tactic| walk_at "idle") => `(tactic| skip)
local macro_rules | `(tactic| walk_at "idle") => `(tactic| skip)
local macro_rules | `(tactic| walk_at "idle") => `(tactic| skip)
local macro_rules | `(tactic| walk_at "idle") => `(tactic| skip)
local macro_rules | `(tactic| walk_at "idle") => `(tactic| skip)
local macro_rules | `(tactic| walk_at "idle") => `(tactic| skip)
local macro_rules | `(tactic| walk_at "idle") => `(tactic| skip)
local macro_rules | `(tactic| walk_at "idle") => `(tactic| skip)
local macro_rules | `(tactic| walk_at "idle") => `(tactic| skip)
local macro_rules | `(tactic| walk_at "idle") => `(tactic| skip)
local macro_rules | `(tactic| walk_at "idle") => `(tactic| skip)
local macro_rules | `(tactic| walk_at "idle") => `(tactic| skip)
local macro_rules | `(tactic| walk_at "idle") => `(tactic| skip)
local macro_rules | `(tactic| walk_at "idle") => `(tactic| skip)
local macro_rules | `(tactic| walk_at "idle") => `(tactic| skip)
local macro_rules | `(tactic| walk_at "idle") => `(tactic| skip)
local macro_rules | `(tactic| walk_at "idle") => `(tactic| skip)
local macro_rules | `(tactic| walk_at "idle") => `(tactic| skip)
local macro_rules | `(tactic| walk_at "idle") => `(tactic| skip)
local macro_rules | `(tactic| walk_at "idle") => `(tactic| skip)
local macro_rules | `(tactic| walk_at "idle") => `(tactic| skip)
local macro_rules | `(tactic| walk_at "idle") => `(tactic| skip)
local macro_rules | `(tactic| walk_at "idle") => `(tactic| skip)
local macro_rules | `(tactic| walk_at "idle") => `(tactic| skip)
local macro_rules | `(tactic| walk_at "idle") => `(tactic| skip)
local macro_rules | `(tactic| walk_at "idle") => `(tactic| skip)
local macro_rules | `(tactic| walk_at "idle") => `(tactic| skip)
local macro_rules | `(tactic| walk_at "idle") => `(tactic| skip)
local macro_rules | `(tactic| walk_at "idle") => `(tactic| skip)
local macro_rules | `(tactic| walk_at "idle") => `(tactic| skip)
local macro_rules | `(tactic| walk_at "idle") => `(tactic| skip)
local macro_rules | `(tactic| walk_at "idle") => `(tactic| skip)
local macro_rules | `(tactic| walk_at "idle") => `(tactic| skip)
local macro_rules | `(tactic| walk_at "idle") => `(tactic| skip)
local macro_rules | `(tactic| walk_at "idle") => `(tactic| skip)
local macro_rules | `(tactic| walk_at "idle") => `(tactic| skip)
local macro_rules | `(tactic| walk_at "idle") => `(tactic| skip)
local macro_rules | `(tactic| walk_at "idle") => `(tactic| skip)
local macro_rules | `(tactic| walk_at "idle") => `(tactic| skip)
local macro_rules | `(tactic| walk_at "idle") => `(tactic| skip)
local macro_rules | `(tactic| walk_at "idle") => `(tactic| skip)
local macro_rules | `(tactic| walk_at "idle") => `(tactic| skip)
local macro_rules | `(tactic| walk_at "idle") => `(tactic| skip)
local macro_rules | `(tactic| walk_at "idle") => `(tactic| skip)
open PySem PySem.W PyProof.Rows
set_option Elab.async false
set_option maxRecDepth 100000
set_option maxHeartbeats 8000000
local macro_rules | `(tactic| k_room) => `(tactic| ktr_room)
local macro_rules | `(tactic| walk_at "subscriptTail List Slice ref ref") => `(tactic| refine Mine.Stop.out ?_)
local macro_rules | `(tactic| walk_at "call builtin:len") => `(tactic| refine Mine.Stop.out ?_)
local macro_rules | `(tactic| walk_at "subscriptTail List Slice ref ref") => `(tactic| refine Mine.Stop.out ?_)
local macro_rules | `(tactic| walk_at "subscriptTail") => `(tactic| refine Mine.Stop.out ?_)
local macro_rules | `(tactic| walk_at "eval ListComp") => `(tactic| ((with_reducible show wpAny _ _ (eval (Expr.ListComp (Expr.Subscript _ _ _) _ _ _) _) _ _ _); refine Mine.Stop.out ?_))
local macro_rules | `(tactic| walk_at "call builtin:str.join") => `(tactic| refine Mine.Stop.out ?_)
local macro_rules | `(tactic| walk_at "CompSrc") => `(tactic| ((rename IntsAre _ (List.map _ _ ++ List.drop _ _) => hq7); refine Mine.Stop.out ?_))
local macro_rules | `(tactic| walk_at "call ref") => `(tactic| ((with_reducible show wpAny _ _ (call (Value.ref 217) _ _) _ _ _); refine Mine.Stop.out ?_))
local macro_rules | `(tactic| walk_at "exec Assign cons ListComp") => `(tactic| ((with_reducible show wpAny _ _ (exec (Stmt.Assign [Expr.Name (Str.ofString "lasts") _] _ _) _) _ _ _); refine Mine.Stop.out ?_))
local macro_rules | `(tactic| walk_at "exec Assign cons ListComp") => `(tactic| ((with_reducible show wpAny _ _ (exec (Stmt.Assign [Expr.Name (Str.ofString "due") _] _ _) _) _ _ _); refine Mine.Stop.out ?_))
local macro_rules | `(tactic| walk_at "call type:enumerate") => `(tactic| refine Mine.Stop.out ?_)
local macro_rules | `(tactic| walk_at "eval ListComp") => `(tactic| ((with_reducible show wpAny _ _ (eval (Expr.ListComp _ [⟨Expr.Tuple _ _ _, _, _, _⟩] _ _) _) _ _ _); refine Mine.Stop.out ?_))
local macro_rules | `(tactic| walk_at "call ref") => `(tactic| ((with_reducible show wpAny _ _ (call (Value.ref 158) _ _) _ _ _); refine Mine.Stop.out ?_))
local macro_rules | `(tactic| walk_at "call ref") => `(tactic| ((with_reducible show wpAny _ _ (call (Value.ref 163) _ _) _ _ _); refine Mine.Stop.out ?_))
local macro_rules | `(tactic| walk_at "call builtin:str.lower") => `(tactic| (refine Mine.lower_rule (by assumption) ?_; intro _ _ _))
local macro_rules | `(tactic| walk_at "compareOp NotIn str str") => `(tactic| refine Mine.notin_letter ?_)
local macro_rules | `(tactic| walk_at "subscriptTail Name Slice str ref") => `(tactic| ((with_reducible rename Fr _ _ _ _ => F'); (with_reducible rename News _ _ _ _ => N'); (refine Mine.row_next (s := ⟨_, _, _, _, _⟩) (by assumption) (by assumption) rfl F' N' ?_; clear F' N'; intro _ _ _ _ _ _ _)))
local macro_rules | `(tactic| walk_at "eval ListComp") => `(tactic| ((with_reducible show wpAny _ _ (eval (Expr.ListComp (Expr.Name (Str.ofString "other") _) _ _ _) _) _ _ _); refine Mine.Stop.out ?_))
local macro_rules | `(tactic| walk_at "compareOp NotEq ref ref") => `(tactic| refine Mine.Stop.out ?_)
local macro_rules | `(tactic| walk_at "compareOp NotEq") => `(tactic| refine Mine.Stop.out ?_)
local macro_rules | `(tactic| walk_at "compareOp NotIn str ref") => `(tactic| refine Mine.Stop.out ?_)
local macro_rules | `(tactic| walk_at "call ref") => `(tactic| ((with_reducible show wpAny _ _ (call (Value.ref 224) _ _) _ _ _); refine Mine.Stop.out ?_))
local macro_rules | `(tactic| walk_at "call ref") => `(tactic| ((with_reducible show wpAny _ _ (call (Value.ref 231) _ _) _ _ _); refine Mine.Stop.out ?_))
local macro_rules | `(tactic| walk_at "call ref") => `(tactic| ((with_reducible show wpAny _ _ (call (Value.ref 170) _ _) _ _ _); refine Mine.Stop.out ?_))
local macro_rules | `(tactic| walk_at "eval ListComp") => `(tactic| ((with_reducible show wpAny _ _ (eval (Expr.ListComp (Expr.Call _ _ _ _) [⟨Expr.Name (Str.ofString "column") _, _, _, _⟩] _ _) _) _ _ _); refine Mine.Stop.out ?_))
local macro_rules | `(tactic| walk_at "CompSrc") => `(tactic| ((rename StrsAre _ (List.map Mine.tx _) => hq8); refine Mine.Stop.out ?_))
local macro_rules | `(tactic| walk_at "eval ListComp") => `(tactic| ((with_reducible show wpAny _ _ (eval (Expr.ListComp (Expr.Name (Str.ofString "row") _) _ _ _) _) _ _ _); refine Mine.Stop.out ?_))
local macro_rules | `(tactic| walk_at "CompSrcT") => `(tactic| refine Mine.Stop.out ?_)
local macro_rules | `(tactic| walk_at "compareOp Eq ref ref") => `(tactic| refine Mine.Stop.out ?_)
theorem Mine.lawHolds : PySem.Challenge.rw_tc0031_01.Holds := Mine.hd (by
  w_strict (
    k_go0
    k_steps
    refine ⟨?_⟩
    (rename IntsAre _ (List.map _ _) => I9)
    (with_reducible rename News _ _ _ _ => N9)
    refine Mine.len_draw I9 (News.isList N9 (.tail _ (.head _))) ?_
    intro nn hn1 hn2

    walk1
    walk1
    (with_reducible rename Fr _ _ _ _ => F8)
    (with_reducible rename News _ _ _ _ => N8)
    refine kba_turn (value' := .Name (Str.ofString "x") ⟨0, 0, 0, 0⟩) (fun _ => by with_unfolding_all rfl) ?_
    refine kmk_slice_ints (ns := [2, 1, 2, 0, 3, 4]) (ms := ([2, 1, 2, 0, 3, 4] : List Int).drop nn) (c := 6 - nn) (s := ⟨_, _, _, _, _⟩) F8 N8 (News.isList N8 (.head _)) (.int _ _) .none ?hi ?hm ?hc ?h ?hs ?ht ?hz
    case hs => with_unfolding_all rfl
    case ht => (intro _; with_unfolding_all rfl)
    case hz => (rw [sizeLine_eq]; show 6 ≤ _; decide)
    case hc => simp
    case hi => repeat constructor
    case hm => exact Mine.pick_lits (vs := [_, _, _, _, _, _]) (by repeat constructor) rfl hn2
    intro D9 ws9 h9 F9 N9 l9 hI9 hc9 hL9
    dsimp only
    k_steps
    refine ⟨?_⟩
    (with_reducible rename Fr _ _ _ _ => F5)
    (with_reducible rename News _ _ _ _ => N5)
    (rename IntsAre _ (_ ++ _) => I5)
    refine LCg.ListComp_U (cl := []) F5 (by with_unfolding_all rfl) (by decide) (by rfl) (by decide) (by rfl) ?_
    k_steps
    refine ⟨?_⟩
    (with_reducible rename Fr _ _ _ _ => F5)
    (with_reducible rename News _ _ _ _ => N5)
    (rename IntsAre _ (List.map _ _ ++ List.drop _ _) => I5)
    have hz6 := IntsAre.length I5
    refine LCg.CompSrc.ledger (its := _) rfl F5 N5 (.head _) ?hsz ?_
    case hsz =>
      rw [List.size_toArray, hz6, Mine.six_of hn1 hn2, sizeLine_eq]; decide
    intro g9
    refine Mine.restS0 (fun z => Txt.item (Str.ofString "aAbBcC") (z.fmod 6)) I5 (by rw [← hz6]; exact List.size_toArray) ?_ ?_ ?_ ?_
    · intro z t I oI C oC D ys9 m₂ h tk Q E' hC hx F6 N6 hQ
      k_steps
      refine ⟨?_⟩
      have hf := Int.fmod_nonneg_of_pos z (show (0:Int) < 6 by decide)
      have hf2 := Int.fmod_lt_of_pos z (show (0:Int) < 6 by decide)
      have hl6 : (Str.ofString "aAbBcC").length = 6 := by decide +kernel
      refine item_str (fitsSsize_of (N := 9223372036854775808) (by omega) (by omega) (Int.le_refl _)) (by omega) (by omega) (fun _ => ?_)
      exact hQ _ _
    · exact .inr ⟨_, .head _, rfl, _, rfl⟩
    · intro j v hj _; simpa using hj
    intro us hus D8 h8 tk8 F8 N8 o8
    k_steps
    refine ⟨?_⟩
    (with_reducible rename News _ _ _ _ => N7)
    refine Mine.join_strs hus (News.isList N7 (.head _)) (by decide) ?_ ?_
    · rw [Mine.letters_len, Mine.ones_sum, List.length_map, Mine.six_of hn1 hn2]; decide
    intro tw kw
    obtain ⟨ls, hls, hok⟩ := Mine.word_facts _ (Mine.six_of hn1 hn2)
    rw [hls]
    dsimp only
    have N4 := Mine.news_drop 6 N7
    simp only [List.drop_succ_cons, List.drop_zero] at N4
    clear N7 hls hus I5 hz6 hI9 hc9 hL9 I9 hn1 hn2
    k_steps
    refine ⟨?_⟩
    (with_reducible rename Fr _ _ _ _ => F1)
    (with_reducible rename News _ _ _ _ => N1)
    k_dflt (refine Mine.Ct.use0 (Mine.tblA _ (Mine.tx ls) tw (Mine.lets_row hok) (by simp [hok.1])) (by assumption) F1 N1 ⟨by assumption, by assumption⟩ rfl rfl (by ktr_room) (by ktr_units) (fun q hq => nomatch hq) ?_)
    intro v2 h2 tk2 F2 N2 hk2 hp2
    obtain ⟨x, dx, l, hs, tk0, ep, c, es, rfl, hes, hobj⟩ := hp2
    have N3 := Mine.news_swap (Mine.news_more F1 N2 hobj)
    simp only [List.cons_append, List.nil_append] at N3
    clear F1 N1 N2 hk2 hobj
    refine stCNk (own := []) (rest := (_, _) :: Mine.tabO x dx l hs tk0 ep c es) F2 N3 (by with_unfolding_all rfl) (by assumption) trivial ⟨.inl (Nat.ne_of_lt (Nat.lt_succ_self _)), Mine.apart_tab⟩ ?_
    intro h3 oT F3 N4 hT
    simp only [List.nil_append] at N4
    clear F2 N3
    have h3' : es.length ≤ 3 := by
      have := (Mine.tabP_good ls hok.2).le3
      rw [show Mine.tabP ls = Mine.pairs es from by rw [hes]] at this
      simpa using this
    try dsimp only
    k_steps
    refine ⟨?_⟩
    (with_reducible rename Fr _ _ _ _ => F1)
    (with_reducible rename News _ _ _ _ => N1)
    k_dflt (refine Mine.Ct.use0 (Mine.keysA _ x dx l hs tk0 ep c es h3') (by assumption) F1 N1 ⟨by assumption, by assumption⟩ rfl rfl (by ktr_room) (by ktr_units) (fun q hq => .tail _ (.tail _ hq)) ?_)
    intro v4 h4 tk4 F4 N5 hk4 hp4
    obtain ⟨Dn, nk, rfl, hn1, hn2⟩ := hp4
    have N6 := Mine.news_more (more := [(Dn, W.listOf (es.map (fun e => Value.str e.k e.a)).toArray nk)]) F1 N5 (fun q hq => by rw [List.mem_singleton.mp hq]; exact ⟨hn1, hn2⟩)
    simp only [List.cons_append, List.nil_append] at N6
    clear F1 N1 N5 hk4 hn1 hn2
    try dsimp only
    k_steps
    refine ⟨?_⟩
    (with_reducible rename Fr _ _ _ _ => F1)
    (with_reducible rename News _ _ _ _ => N1)
    k_dflt (refine Mine.Ct.use0 (Mine.valuesA _ x dx l hs tk0 ep c es h3') (by assumption) F1 N1 ⟨by assumption, by assumption⟩ rfl rfl (by ktr_room) (by ktr_units) (fun q hq => .tail _ (.tail _ (.tail _ hq))) ?_)
    intro v5 h5 tk5 F5 N5 hk5 hp5
    obtain ⟨Dc, nc, rfl, hc1, hc2⟩ := hp5
    have N7 := Mine.news_more (more := [(Dc, W.listOf (es.map (fun e => Value.str e.v e.b)).toArray nc)]) F1 N5 (fun q hq => by rw [List.mem_singleton.mp hq]; exact ⟨hc1, hc2⟩)
    simp only [List.cons_append, List.nil_append] at N7
    clear F1 N1 N5 hk5 hc1 hc2
    try dsimp only
    k_steps
    refine ⟨?_⟩
    (with_reducible rename Fr _ _ _ _ => F1)
    (with_reducible rename News _ _ _ _ => N1)
    refine Mine.comp_enum F1 (by with_unfolding_all rfl) (by with_unfolding_all rfl) (by with_unfolding_all rfl) (by with_unfolding_all rfl) (by with_unfolding_all rfl) (by intro _; with_unfolding_all rfl) (by intro _; with_unfolding_all rfl) (by rfl) (by decide) (by rfl) (by rfl) (by decide +kernel) ?_
    k_steps
    refine ⟨?_⟩
    (with_reducible rename Fr _ _ _ _ => F1)
    (with_reducible rename News _ _ _ _ => N1)
    refine Mine.src_enum (Mine.StrY (fun i => (Mine.lastsTo ls i).map Mine.sg)) rfl (Mine.ascii_row hok) F1 N1 (by rw [List.size_toArray, hok.1, sizeLine_eq]; decide) (Mine.StrY.le fun i => by rw [List.length_map]; exact Mine.lastsTo_le ls i) .nil ?_ ?_
    · intro i c t₁ t' C oC D m₂ h tk ys E' hc hC hk1 hs1 F' N' hY
      clear F1 N1
      have hi : i < 6 := by
        rcases Nat.lt_or_ge i 6 with q | q
        · exact q
        · rw [Array.getElem?_eq_none (by rw [List.size_toArray, hok.1]; exact q)] at hc; cases hc
      have hci : ls.getD i 0 = c := by
        rw [List.getElem?_toArray] at hc
        rw [List.getD_eq_getElem?_getD, hc]; rfl
      have hcl : Mine.Lets ⟨#[c]⟩ := Mine.lets_sg (hci ▸ Mine.row_at hok hi)
      k_steps
      · (rename ∀ (b : Addr) (o : Obj), _ = some o → _ = some o => hk9); exact hk9 _ _ (by assumption)
      · exact Mine.yl_skip hY hci (by assumption)
      · (rename ∀ (b : Addr) (o : Obj), _ = some o → _ = some o => hk9); exact hk9 _ _ (by assumption)
      · exact Mine.yl_add hY hci (by assumption)
    intro Dl hl tkl vl hvl Fl Nl
    clear F1 N1
    replace hvl : StrsAre vl ((Mine.lastsP ls).map Mine.sg) := by
      rw [← Mine.lastsTo_all]
      have : Mine.StrY (fun i => (Mine.lastsTo ls i).map Mine.sg) (Mine.tx ls).cps.size vl := hvl
      rw [List.size_toArray] at this
      exact this
    k_steps
    refine ⟨?_⟩
    (with_reducible rename Fr _ _ _ _ => F1)
    (with_reducible rename News _ _ _ _ => N1)
    refine Mine.comp_cell F1 (by with_unfolding_all rfl) (by with_unfolding_all rfl) (by with_unfolding_all rfl) (by with_unfolding_all rfl) (by with_unfolding_all rfl) (by intro _; with_unfolding_all rfl) (by intro _; with_unfolding_all rfl) (by rfl) (by decide) (by intro _ _; with_unfolding_all rfl) ?_
    k_steps
    refine Mine.src_cell (Mine.StrY (Mine.dueTo ls)) rfl hvl ?hsz F1 N1 (.head _) (Mine.StrY.le (Mine.dueTo_le ls)) .nil ?_ ?_
    case hsz => exact Nat.le_trans (Mine.lastsP_len ls) (Nat.le_of_eq hok.1)
    · intro i d t X oX C D h tk ys E' hd hX F' N' hY
      clear F1 N1
      k_steps
      refine ⟨?_⟩
      (with_reducible rename Fr _ _ _ _ => F1)
      (with_reducible rename News _ _ _ _ => N1)
      refine Mine.comp_str F1 (by with_unfolding_all rfl) (by intro _; with_unfolding_all rfl) (by intro _; with_unfolding_all rfl) (by rfl) (by decide) (by rfl) ?_
      k_steps
      have hdl : Mine.Lets ⟨#[d]⟩ := Mine.lets_sg (hok.2 d (Mine.lastsP_mem (List.mem_of_getElem? hd)))
      refine Mine.src_str (Mine.StrY (Mine.colTo ls d)) rfl F1 N1 (by rw [List.size_toArray, hok.1, sizeLine_eq]; decide) (Mine.StrY.le (Mine.colTo_le ls d)) .nil ?_ ?_
      · intro j c t' C' oC' D' m₂ h' tk' ys' E'' hc hC hs1 F' N' hY'
        clear F1 N1
        have hj : j < ls.length := by
          rcases Nat.lt_or_ge j ls.length with q | q
          · exact q
          · rw [Array.getElem?_eq_none (by rw [List.size_toArray]; exact q)] at hc; cases hc
        have hci : ls.getD j 0 = c := by
          rw [List.getElem?_toArray] at hc
          rw [List.getD_eq_getElem?_getD, hc]; rfl
        have hcl : Mine.Lets ⟨#[c]⟩ := Mine.lets_sg (hci ▸ Mine.row_at hok (by have := hok.1; omega))
        k_steps
        · exact Mine.yi_add hj hY' hci (by assumption)
        · exact Mine.yi_skip hj hY' hci (by assumption)
      · intro D' h' tk' ys' hY' F' N' hkp
        clear F1 N1
        replace hY' : StrsAre ys' ((Mine.colP ls d).map Mine.sg) := by
          rw [← Mine.colTo_all]
          have e : (Mine.tx ls).cps.size = ls.length := List.size_toArray
          rw [← e]; exact hY'
        k_steps
        refine ⟨?_⟩
        refine Mine.join_strs hY' (News.isList N' (.head _)) (by decide) ?_ ?_
        · rw [Mine.sg_weight]
          have := Mine.colP_len ls d
          have := hok.1
          omega
        intro tj kj
        rw [Mine.join_col]
        k_steps
        · exact hkp _ _ (by assumption)
        · exact Mine.yo_add hd hY
    · intro Dd hd tkd vd hvd Fd Nd
      clear F1 N1
      replace hvd : StrsAre vd ((Mine.lastsP ls).map fun d => Mine.tx (Mine.colP ls d)) := by
        rw [← Mine.dueTo_all]; exact hvd
      k_steps
      refine ⟨?_⟩
      (with_reducible rename Fr _ _ _ _ => F1)
      (with_reducible rename News _ _ _ _ => N1)
      have hes' : Mine.pairs es = Mine.tabP ls := by rw [hes]
      have hlets : ∀ d ∈ Mine.lastsP ls, Mine.isLet d = true := fun d h => hok.2 d (Mine.lastsP_mem h)
      refine Mine.ne_two (ys := (Mine.lastsP ls).map Mine.sg) (zs := (Mine.lastsP ls).map fun d => Mine.tx (Mine.colP ls d)) ⟨_, (N1 _ (.tail _ (.head _))).1, rfl, _, rfl⟩ ⟨_, (N1 _ (.head _)).1, rfl, _, rfl⟩
        (News.isList N1 (.tail _ (.tail _ (.tail _ (.tail _ (.tail _ (.tail _ (.head _)))))))) (News.isList N1 (.tail _ (.tail _ (.tail _ (.tail _ (.tail _ (.head _)))))))
        (News.isList N1 (.tail _ (.tail _ (.tail _ (.head _))))) (News.isList N1 (.tail _ (.tail _ (.head _))))
        (Mine.names_rows hes') (Mine.cols_rows hes') hvl hvd (Mine.sg_ok hlets) (Mine.col_ok hok.2) (by ktr_units) ?_
      dsimp only
      have N2 := Mine.news_drop 5 N1
      simp only [List.drop_succ_cons, List.drop_zero] at N2
      clear N1
      k_steps
      refine ⟨?_⟩
      (with_reducible rename Fr _ _ _ _ => F1)
      (with_reducible rename News _ _ _ _ => N1)
      refine Mine.join_strs (Mine.cols_rows hes') (News.isList N1 (.head _)) (by decide) ?hw ?_
      case hw =>
        refine Nat.le_trans (Mine.cols_weight ls _) (Nat.le_trans (Nat.mul_le_mul (Mine.lastsP_len ls) (Nat.le_refl _)) ?_)
        rw [hok.1]; decide
      intro tj kj
      rw [Mine.join_cols]
      k_steps
      refine ⟨?_⟩
      have hst := Mine.law_start hok
      (with_reducible rename Fr _ _ _ _ => F1)
      (with_reducible rename News _ _ _ _ => N1)
      k_dflt (refine Mine.Ct.use0 (Mine.reachA _ (Mine.tx (Mine.startP ls)) tj (Mine.lets_row hst) hst.1) (by assumption) F1 N1 ⟨by assumption, by assumption⟩ rfl rfl (by ktr_room) (by ktr_units) (fun q hq => nomatch hq) ?_)
      intro v6 h6 tk6 F4 N5 hk6 hp6
      obtain ⟨lr, vr, cr, rfl, hvr, hr1, hr2, hr68, hrok⟩ := hp6
      have N6 := Mine.news_more (more := [(lr, W.listOf vr.toArray cr)]) F1 N5 (fun q hq => by rw [List.mem_singleton.mp hq]; exact ⟨hr1, hr2⟩)
      simp only [List.cons_append, List.nil_append] at N6
      have e9 : (Mine.tx (Mine.startP ls)).cps.toList = Mine.startP ls := rfl
      rw [e9] at hvr hr68 hrok
      clear F1 N1 N5 hk6 hr1 hr2
      try dsimp only
      k_steps
      refine ⟨?_⟩
      (with_reducible rename Fr _ _ _ _ => F1)
      (with_reducible rename News _ _ _ _ => N1)
      refine notin_list_strs (News.isList N1 (.head _)) hvr ?_
      rw [Mine.any_tx, Mine.law_in hok]
      k_steps
      refine ⟨?_⟩
      (with_reducible rename Fr _ _ _ _ => F1)
      (with_reducible rename News _ _ _ _ => N1)
      refine Mine.len_rows hvr (News.isList N1 (.head _)) (Nat.le_trans hr68 (by decide)) ?_
      k_steps
      refine ⟨?_⟩
      refine LCg.ListComp_U (cl := []) F1 (by with_unfolding_all rfl) (by decide) (by rfl) (by decide) (by rfl) ?_
      k_steps
      refine ⟨?_⟩
      (rename StrsAre _ (List.map Mine.tx _) => hvr)
      have hcs := Mine.cols_rows hes'
      have hcl : (es.map fun e => Value.str e.v e.b).toArray.size = ((Mine.lastsP ls).map fun d => Mine.tx (Mine.colP ls d)).length := by rw [List.size_toArray]; exact StrsAre.length hcs
      refine LCg.CompSrc.ledger (its := _) rfl F1 N1 (.tail _ (.head _)) ?hsz ?_
      case hsz => (rw [List.size_toArray, List.length_map, sizeLine_eq]; exact Nat.le_trans h3' (by decide))
      intro g9
      refine Mine.restN0 (fun z => (z.length : Int)) (fun z => z.length ≤ 6) hcs ?_ hcl ?_ ?_ ?_ ?_
      · intro z hz
        obtain ⟨d, _, rfl⟩ := List.mem_map.mp hz
        have e : (Mine.tx (Mine.colP ls d)).length = (Mine.colP ls d).length := List.size_toArray
        rw [e]; exact Nat.le_trans (Mine.colP_len ls d) (Nat.le_of_eq hok.1)
      · intro z t I oI C oC D ys9 m₂ h tk Q E' hz hC hx F6 N6 hQ
        k_steps
        refine ⟨?_⟩
        refine SBL.len (by rw [show (z.length : Int) = ((z.length : Nat) : Int) from rfl]; omega) ?_
        exact hQ _ _
      · exact .inr ⟨_, .tail _ (.head _), rfl, _, rfl⟩
      · intro j v hj _; simpa using hj
      intro us hus D8 h8 tk8 F8 N8 o8
      clear F1 N1
      rw [Mine.sizes_eq] at hus
      k_steps
      refine ⟨?_⟩
      k_dflt (refine Mine.Ct.use0 (Mine.countA _ D8 us _ us.length hus (Mine.sizes_pos hok.1) (by rw [List.length_map]; exact Nat.le_trans (Mine.lastsP_len ls) (by rw [hok.1]; decide))) (by assumption) F8 N8 ⟨by assumption, by assumption⟩ rfl rfl (by ktr_room) (by ktr_units) (fun q hq => by rw [List.mem_singleton.mp hq]; exact .head _) ?_)
      intro v7 h7 tk7 F4 N5 hk7 hp7
      obtain ⟨t7, rfl⟩ := hp7
      clear F8 N8 hk7
      rw [← Mine.law_len hok]
      have N2 := Mine.news_drop 1 N5
      simp only [List.drop_succ_cons, List.drop_zero] at N2
      clear N5
      try dsimp only
      k_steps
      refine ⟨?_⟩
      clear e9 o8 hus
      refine LCt.ListComp_T F4 (by with_unfolding_all rfl) (by decide) (by rfl) (by decide) (by rfl) ?_
      k_steps
      try refine ⟨?_⟩
      refine LCt.CompSrcT.ledger (its := _) rfl F4 N2 (.head _) ?hsz ?_
      case hsz => (rw [List.size_toArray, hvr.length, List.length_map, sizeLine_eq]; exact Nat.le_trans hr68 (by decide))
      intro gT
      refine Mine.restT (rs := vr) (fun _ => false) ?_ (.inr ⟨_, .head _, rfl, _, rfl⟩) (fun _ => rfl) (fun _ => rfl) (by decide) 0 [] ?_ ?_
      · intro i v I oI C oC D m₂ h tk ys Q' E' hv hC hx F' N' hQ
        clear F4 N2
        obtain ⟨r, t, hr, rfl⟩ := Mine.row_of hvr hv
        have hro := hrok r hr
        k_steps
        refine ⟨?_⟩
        (with_reducible rename Fr _ _ _ _ => F1)
        (with_reducible rename News _ _ _ _ => N1)
        k_dflt (refine Mine.Ct.use0 (Mine.tblA _ (Mine.tx r) t (Mine.lets_row hro) (by simp [hro.1])) (by assumption) F1 N1 ⟨by assumption, by assumption⟩ rfl rfl (by ktr_room) (by ktr_units) (fun q hq => nomatch hq) ?_)
        intro v2 h2 tk2 F2 N2 hk2 hp2
        obtain ⟨x', dx', l', hs', tk0', ep', c', es', rfl, hesr, hobj⟩ := hp2
        have N3 := Mine.news_tab (Mine.news_more F1 N2 hobj)
        simp only [List.cons_append] at N3
        clear F1 N1 N2 hk2 hobj
        have e9 : (Mine.tx r).cps.toList = r := rfl
        rw [e9] at hesr
        have hsame : Mine.pairs es' = Mine.pairs es := by rw [hesr, hes', Mine.law_same hok r hr]
        have h3r : es'.length ≤ 3 := by
          have := congrArg List.length hsame
          simp only [Mine.pairs, List.length_map] at this
          rw [this]; exact h3'
        try dsimp only
        k_steps
        refine ⟨?_⟩
        (with_reducible rename Fr _ _ _ _ => F1)
        (with_reducible rename News _ _ _ _ => N1)
        k_dflt (refine Mine.Ct.use0 (Mine.itemsA _ x' dx' l' hs' tk0' ep' c' es' h3r) (by assumption) F1 N1 ⟨by assumption, by assumption⟩ rfl rfl (by ktr_room) (by ktr_units) (fun q hq => by
          rcases List.mem_cons.mp hq with rfl | hq
          · exact .head _
          rcases List.mem_cons.mp hq with rfl | hq
          · exact .tail _ (.head _)
          rcases List.mem_cons.mp hq with rfl | hq
          · exact .tail _ (.tail _ (.head _))
          · repeat (first | exact List.mem_append_right _ hq | refine List.mem_cons_of_mem _ ?_)) ?_)
        intro v4 h4 tk4 F4 N5 hk4 hp4
        obtain ⟨D1, n1, rfl, hd1, hd2⟩ := hp4
        have N6 := Mine.news_more (more := [(D1, W.listOf (es'.map Mine.Ent.r).toArray n1)]) F1 N5 (fun q hq => by rw [List.mem_singleton.mp hq]; exact ⟨hd1, hd2⟩)
        simp only [List.cons_append, List.nil_append] at N6
        clear F1 N1 N5 hk4 hd1 hd2
        try dsimp only
        k_steps
        refine ⟨?_⟩
        (with_reducible rename Fr _ _ _ _ => F1)
        (with_reducible rename News _ _ _ _ => N1)
        k_dflt (refine Mine.Ct.use0 (Mine.itemsA _ x dx l hs tk0 ep c es h3') (by assumption) F1 N1 ⟨by assumption, by assumption⟩ rfl rfl (by ktr_room) (by ktr_units) (fun q hq => by
          rcases List.mem_cons.mp hq with rfl | hq
          · repeat (first | exact List.Mem.head _ | refine List.mem_cons_of_mem _ ?_)
          rcases List.mem_cons.mp hq with rfl | hq
          · repeat (first | exact List.Mem.head _ | refine List.mem_cons_of_mem _ ?_)
          rcases List.mem_cons.mp hq with rfl | hq
          · repeat (first | exact List.Mem.head _ | refine List.mem_cons_of_mem _ ?_)
          · repeat (first | exact List.mem_append_left _ hq | refine List.mem_cons_of_mem _ ?_)) ?_)
        intro v5 h5 tk5 F5 N5 hk5 hp5
        obtain ⟨D2, n2, rfl, hd3, hd4⟩ := hp5
        have N7 := Mine.news_more (more := [(D2, W.listOf (es.map Mine.Ent.r).toArray n2)]) F1 N5 (fun q hq => by rw [List.mem_singleton.mp hq]; exact ⟨hd3, hd4⟩)
        simp only [List.cons_append, List.nil_append] at N7
        clear F1 N1 N5 hk5 hd3 hd4
        try dsimp only
        k_steps
        refine ⟨?_⟩
        (with_reducible rename Fr _ _ _ _ => F1)
        (with_reducible rename News _ _ _ _ => N1)
        refine Mine.ne_rows (es := es') (fs := es) (N1 _ (.tail _ (.head _))).1 (N1 _ (.head _)).1 (fun e he => ?_) (fun e he => ?_) hsame (by rw [hes']; exact Mine.rows_ok hok.2) (by ktr_units) ?_
        · have hq := List.mem_map_of_mem (f := Mine.Ent.o) he
          exact (N1 e.o (by repeat (first | exact List.mem_append_right _ hq | refine List.mem_cons_of_mem _ ?_))).1
        · have hq := List.mem_map_of_mem (f := Mine.Ent.o) he
          exact (N1 e.o (by repeat (first | exact List.mem_append_left _ hq | refine List.mem_cons_of_mem _ ?_))).1
        try dsimp only
        k_steps
        refine hQ _ _ F1 (fun q hq => N1 q (List.mem_cons_of_mem _ (List.mem_cons_of_mem _ (List.mem_cons_of_mem _ (List.mem_cons_of_mem _ (List.mem_cons_of_mem _ (List.mem_append_left _ hq)))))))
      · intro j v h1 _
        simpa using h1
      · k_steps
        refine ⟨?_⟩
        (with_reducible rename News _ _ _ _ => N1)
        refine Mine.eq_nils (by rw [Mine.kept_none] at N1; exact News.isList N1 (.tail _ (.head _))) (News.isList N1 (.head _)) (by ktr_units) ?_
        k_steps))
end

theorem PySem.Challenge.cw_tc0031_01_holds : PySem.Challenge.rw_tc0031_01.Holds := by
  exact Mine.lawHolds
