import PyProof.Rows.All
import Wide.All
import OpenK.AllK
import Wide.FinOn
import PySem.Challenge.RW_am6015_01

open PySem PySem.W PyProof.Rows PySem.Calls PySem.Spec
set_option Elab.async false
set_option maxRecDepth 100000
namespace Mine
set_option maxHeartbeats 8000000 in
open_top hd for PySem.Challenge.rw_am6015_01

abbrev PR : Program := Challenge.rw_am6015_01.row.prog
abbrev TopM (mean : ExcName → Option Value) (mg mb : Str → Option Value) (h : Heap) : Prop := Top hd.view_39 (looseW hd.view_39 [Str.ofString "is_graphical"]) mean mg mb h

/-- what the caller of a def of the text's holds; j: the room that is left -/
structure Cal (w : World) (mean : ExcName → Option Value) (mg mb : Str → Option Value) (j dp un : Nat) (outer : List Env) (A₀ : Around) (base h₀ : Heap) (L : Addr) (m : Str → Option Value) (cs : Scope) (h : Heap) : Prop where
  B : Below A₀ base outer h₀
  F : Fr h₀ L h m
  X : (hd.heap_39 w.params).In h₀
  T : TopM mean mg mb h₀
  hk : cs.kind = .function
  hdp : dp + j < recursionLimit
  hun : un + 100 * j < cLine

/-- everything that stood still stands -/
abbrev Kept (h h' : Heap) : Prop := ∀ b o, h.get? b = some o → h'.get? b = some o

theorem enter {prog : Program} {w : World} {A₀ A : Around} {s : Shared} {base h₀ : Heap} {outer : List Env} {env : Env} {L : Addr} {m : Str → Option Value} {K : Frag}
    {mean : ExcName → Option Value} {mg mb : Str → Option Value} {p : Program} {loose : List Str}
    {R : Result → Shared → Prop} {name qual : Str} {params : Arguments} {body : List Stmt} {scope : Scope} {dV kV doc pm cdv ct oc : Value} {an od : Option Addr} {osl : Array (Option Value)} {f : Addr} {args : Args} {binds : List (Str × Value)}
    (B : Below A₀ base outer h₀) (F : Fr h₀ L s.heap m) (X : K.In h₀) (T : Top p loose mean mg mb h₀) (hA : A.frames = some (env :: outer)) (hf : env.frame = some L) (hke : env.scope.kind = .function)
    (ho : K.lookup f = some ⟨oc, od, .func (fnOf name qual params body scope dV kV doc pm an cdv ct), osl⟩) (hcd : codeIn K cdv qual = true) (hroom : A.depth < recursionLimit)
    (hbind : BindsTo s (fnOf name qual params body scope dV kV doc pm an cdv ct) args binds) (hloc : ∀ y ∈ binds, scope.names.lookup y.1 = some .local)
    (h : ∀ L' h₁, Fr s.heap L' h₁ (fun y => binds.reverse.lookup y) → News s.heap L' h₁ [] → Below A base (env :: outer) s.heap → K.In s.heap → Top p loose mean mg mb s.heap →
      wpAny (model prog w) (A.deeper (envOf qual scope L' f cdv)) (execs body (envOf qual scope L' f cdv))
        (fun fl s' => R (.ok (.ret (match fl with | .ret v => v | _ => .none))) s')
        (fun e s' => wpAny (model prog w) (A.deeper (envOf qual scope L' f cdv)) (leaving (envOf qual scope L' f cdv) e) (fun _ s'' => R (.error e) s'') (fun e' s'' => R (.error e') s'') s')
        { s with heap := h₁, toks := s.toks + binds.length })
    (hcell : ∀ x ∈ scope.names, x.2 ≠ .cell) (hco : scope.isCoroutine = false) (hgen : scope.isGenerator = false) (hk : scope.kind = .function) :
    codeAny (model prog w) A (.call (.ref f) args) R s := by
  have X' : K.In s.heap := X.keeps F.keep
  refine codeAny_call_def (fd := fnOf name qual params body scope dV kV doc pm an cdv ct) (body := body) (binds := binds) hroom (X' _ _ ho) rfl (T.nolimit.keeps F.keep) (codeRec_of X' hcd) rfl hbind hcell hloc (fun h₁ hns hk₁ => ?_) hco hgen hk
  exact h s.heap.objs.size h₁ ⟨hns, hk₁, Nat.le_refl _⟩ (fun _ hp => nomatch hp) ⟨hA, fun b o e => F.keep b o (B.stays b o e), (pushX B F hf hke).frames⟩ X' (T.keeps F.keep)

theorem enterC {prog : Program} {w : World} {A₀ A : Around} {s : Shared} {base h₀ : Heap} {outer : List Env} {env : Env} {L : Addr} {m : Str → Option Value} {K : Frag}
    {mean : ExcName → Option Value} {mg mb : Str → Option Value} {p : Program} {loose : List Str}
    {R : Result → Shared → Prop} {name qual : Str} {params : Arguments} {body : List Stmt} {scope : Scope} {dV kV doc pm cdv ct oc : Value} {an od : Option Addr} {osl : Array (Option Value)} {f : Addr} {args : Args} {binds : List (Str × Value)}
    (B : Below A₀ base outer h₀) (F : Fr h₀ L s.heap m) (X : K.In h₀) (T : Top p loose mean mg mb h₀) (hA : A.frames = some (env :: outer)) (hf : env.frame = some L) (hke : env.scope.kind = .function)
    (ho : K.lookup f = some ⟨oc, od, .func (fnOf name qual params body scope dV kV doc pm an cdv ct), osl⟩) (hcd : codeIn K cdv qual = true) (hroom : A.depth < recursionLimit)
    (hbind : BindsTo s (fnOf name qual params body scope dV kV doc pm an cdv ct) args binds)
    (hkind : (binds.all fun y => scope.names.lookup y.1 == some .local || scope.names.lookup y.1 == some .cell) = true)
    (hnd : ((cellsFrom 0 scope.names []).map (·.1)).Nodup)
    (h : ∀ L' h₁ tk cells, Fr s.heap L' h₁ (bindL (envOfC qual scope L' f cdv).kindOf binds fun _ => none) → News s.heap L' h₁ (cells ++ []) →
      CellsAre (bindC (envOfC qual scope L' f cdv).kindOf binds fun _ => none) (cellsFrom (L' + 1) scope.names []) cells → Below A base (env :: outer) s.heap → K.In s.heap → Top p loose mean mg mb s.heap →
      wpAny (model prog w) (A.deeper (envOfC qual scope L' f cdv)) (execs body (envOfC qual scope L' f cdv))
        (fun fl s' => R (.ok (.ret (match fl with | .ret v => v | _ => .none))) s')
        (fun e s' => wpAny (model prog w) (A.deeper (envOfC qual scope L' f cdv)) (leaving (envOfC qual scope L' f cdv) e) (fun _ s'' => R (.error e) s'') (fun e' s'' => R (.error e') s'') s')
        { s with heap := h₁, toks := tk })
    (hco : scope.isCoroutine = false) (hgen : scope.isGenerator = false) (hk : scope.kind = .function) :
    codeAny (model prog w) A (.call (.ref f) args) R s := by
  have X' : K.In s.heap := X.keeps F.keep
  refine codeAny_call_function hroom (X' _ _ ho) rfl hco hgen rfl (codeRec_of X' hcd) (hbind _ _ _ _ ?_)
  refine wpAny_newFunctionEnv_cells hk (kindsX hkind _) fun env' he s' x => ?_
  subst he
  refine ⟨(T.nolimit.keeps F.keep).keeps x.toInCall.keep, codeAny_func ?_⟩
  obtain ⟨h₁, tk, rfl, _⟩ := x.done
  have hk₁ := x.toInCall.keep
  obtain ⟨cells, NC, Y⟩ := Cl.news (h₀ := s.heap) (Nat.le_refl _) fun n c hm => ⟨x.cell n c (lookup_of_mem_nodup (cellsFrom_names scope.names 0 (s.heap.objs.size + 1) [] [] rfl ▸ hnd) hm), x.above n c hm⟩
  exact h s.heap.objs.size h₁ tk cells ⟨x.toInCall.ns, hk₁, Nat.le_refl _⟩ (by rw [List.append_nil]; exact NC) Y ⟨hA, fun b o e => F.keep b o (B.stays b o e), (pushX B F hf hke).frames⟩ X' (T.keeps F.keep)

/-- behind a call that may have caught: the base's outer frames may be marked -/
structure Back (w : World) (mean : ExcName → Option Value) (mg mb : Str → Option Value) (outer : List Env) (A₀ : Around) (base h₀ : Heap) (L : Addr) (m : Str → Option Value) (h : Heap) (h₀' h' : Heap) : Prop where
  t : KtsTurn (outer.filterMap (·.frame)) h₀ h₀'
  F : Fr h₀' L h' m
  N : ∀ news, News h₀ L h news → News h₀' L h' news
  B : Below A₀ base outer h₀'
  X : (hd.heap_39 w.params).In h₀'
  T : TopM mean mg mb h₀'
  D : KtsDicts (outer.filterMap (·.frame)) h₀'

def LvS (w : World) (mean : ExcName → Option Value) (mg mb : Str → Option Value) (env : Env) (outer : List Env) (A₀ : Around) (base h₀ : Heap) (L : Addr) (m : Str → Option Value) (h : Heap) (R : Result → Shared → Prop) (v : Value) (s' : Shared) : Prop :=
  ∃ g' L' m', KtsTurn ((env :: outer).filterMap (·.frame)) h g' ∧ Fr g' L' s'.heap m' ∧ ∀ h₀', Back w mean mg mb outer A₀ base h₀ L m h h₀' s'.heap → R (.ok (.ret v)) s'

theorem news_add {h₀ h h' : Heap} {L l : Addr} {m : Str → Option Value} {news : List (Addr × Obj)} {o : Obj} (F : Fr h₀ L h m) (N : News h₀ L h news) (hk : Kept h h') (hn : h.get? l = none) (ho : h'.get? l = some o) :
    News h₀ L h' ((l, o) :: news) := by
  intro p hp
  rcases List.mem_cons.mp hp with rfl | hp
  · refine ⟨ho, fun q => ?_, ?_⟩
    · obtain ⟨oL, _, _, hL, _⟩ := F.ns
      have q' : l = L := q
      rw [q', hL] at hn
      cases hn
    · cases e : h₀.get? l with
      | none => rfl
      | some o' => rw [F.keep _ _ e] at hn; cases hn
  · exact ⟨hk _ _ (N p hp).1, (N p hp).2⟩
theorem news_add2 {h₀ h h' : Heap} {L t l : Addr} {m : Str → Option Value} {news : List (Addr × Obj)} {o o' : Obj} (F : Fr h₀ L h m) (N : News h₀ L h news) (hk : Kept h h') (ht : h.get? t = none) (hn : h.get? l = none) (_hne : t ≠ l) (hot : h'.get? t = some o') (ho : h'.get? l = some o) :
    News h₀ L h' ((t, o') :: (l, o) :: news) := fun p hp => by
  rcases List.mem_cons.mp hp with rfl | hp
  · exact news_add F N hk ht hot _ (.head _)
  · exact news_add F N hk hn ho p hp
theorem news_off {h₀ h : Heap} {L l : Addr} {news : List (Addr × Obj)} (N : News h₀ L h news) (hn : h.get? l = none) : ∀ p ∈ news, p.1 ≠ l := by
  intro p hp e
  have := (N p hp).1
  rw [e, hn] at this
  cases this

theorem enterS {w : World} {A₀ A : Around} {s : Shared} {base h₀ : Heap} {outer : List Env} {L a : Addr} {m : Str → Option Value} {cn : Str} {cs : Scope} {ccd : Value} {mean : ExcName → Option Value} {mg mb : Str → Option Value}
    {R : Result → Shared → Prop} {name qual : Str} {params : Arguments} {body : List Stmt} {scope : Scope} {dV kV doc pm cdv ct oc : Value} {an od : Option Addr} {osl : Array (Option Value)} {f : Addr} {args : Args} {binds : List (Str × Value)}
    (B : Below A₀ base outer h₀) (F : Fr h₀ L s.heap m) (X : (hd.heap_39 w.params).In h₀) (T : TopM mean mg mb h₀) (XB : (hd.heap_39 w.params).In base) (TB : TopM mean mg mb base) (D : KtsDicts (outer.filterMap (·.frame)) h₀)
    (hA : A.frames = some (envOf cn cs L a ccd :: outer))
    (ho : (hd.heap_39 w.params).lookup f = some ⟨oc, od, .func (fnOf name qual params body scope dV kV doc pm an cdv ct), osl⟩) (hcd : codeIn (hd.heap_39 w.params) cdv qual = true) (hroom : A.depth < recursionLimit)
    (hbind : BindsTo s (fnOf name qual params body scope dV kV doc pm an cdv ct) args binds) (hloc : ∀ y ∈ binds, scope.names.lookup y.1 = some .local)
    (h : ∀ L' h₁, Fr s.heap L' h₁ (fun y => binds.reverse.lookup y) → News s.heap L' h₁ [] → Below A base (envOf cn cs L a ccd :: outer) s.heap → (hd.heap_39 w.params).In s.heap → TopM mean mg mb s.heap → KtsDicts ((envOf cn cs L a ccd :: outer).filterMap (·.frame)) s.heap →
      wpAny (model PR w) (A.deeper (envOf qual scope L' f cdv)) (execs body (envOf qual scope L' f cdv))
        (fun fl s' => LvS w mean mg mb (envOf cn cs L a ccd) outer A₀ base h₀ L m s.heap R (match fl with | .ret v => v | _ => .none) s')
        (fun e s' => wpAny (model PR w) (A.deeper (envOf qual scope L' f cdv)) (leaving (envOf qual scope L' f cdv) e) (fun _ s'' => R (.error e) s'') (fun e' s'' => R (.error e') s'') s')
        { s with heap := h₁, toks := s.toks + binds.length })
    (hck : cs.kind = .function) (hco : scope.isCoroutine = false) (hgen : scope.isGenerator = false) (hk : scope.kind = .function)
    (hcell : ∀ x ∈ scope.names, x.2 ≠ .cell) : codeAny (model PR w) A (.call (.ref f) args) R s := by
  have X' := X.keeps F.keep
  refine codeAny_call_def (fd := fnOf name qual params body scope dV kV doc pm an cdv ct) (body := body) (binds := binds) hroom (X' _ _ ho) rfl (T.nolimit.keeps F.keep) (codeRec_of X' hcd) rfl hbind hcell hloc (fun h₁ hns hk₁ => ?_) hco hgen hk
  have B₁ := B.push (name := cn) (scope := cs) (a := a) (cd := ccd) F hck
  obtain ⟨oL, es, ep, hL, hLd, hLk, hLf⟩ := F.ns
  have nL₀ : h₀.get? L = none := kts_self F
  have D₁ : KtsDicts ((envOf cn cs L a ccd :: outer).filterMap (·.frame)) s.heap := fun b hb => by
    rcases kts_mem hb with rfl | hb
    · exact ⟨oL, es, ep, hL, hLd⟩
    · obtain ⟨o, es', n', ho', hd'⟩ := D b hb
      exact ⟨o, es', n', F.keep b o ho', hd'⟩
  refine wpAny_mono (h _ h₁ ⟨hns, hk₁, Nat.le_refl _⟩ (fun _ hp => nomatch hp) ⟨hA, fun b o e => F.keep b o (B.stays b o e), B₁.frames⟩ X' (T.keeps F.keep) D₁) (fun fl s' hl => ?_) fun _ _ y => y
  obtain ⟨g', L', m', T', F', k⟩ := hl
  obtain ⟨sl, hs⟩ := T'.up hL
  obtain ⟨T₁, S₁⟩ := kts_turn_at (h := s'.heap) (fs := outer.filterMap (·.frame)) (g := h₀)
    (fun b hb => by
      obtain ⟨_, o, ho', _⟩ := B.frames.mem hb
      exact ⟨o, ho'⟩)
    (fun b o e nmem => F'.keep b o (T'.other b o (F.keep b o e) (fun q => by
      rcases kts_mem q with z | z
      · rw [z, nL₀] at e
        cases e
      · exact nmem z)))
    (fun b o e hm => by
      obtain ⟨sl', hs'⟩ := T'.up (F.keep b o e)
      exact ⟨sl', F'.keep _ _ hs'⟩)
  have B₃ : Below A₀ base outer (ktsHeap s'.heap (outer.filterMap (·.frame)) h₀) := ⟨B.stack, fun b o e => T₁.other b o (B.stays b o e) (fun hm => by
    rw [(B.frames.mem hm).1] at e
    cases e), B.frames.of_keeps fun b o e _ => by
    obtain ⟨sl', hs'⟩ := T₁.up e
    exact ⟨_, hs', rfl⟩⟩
  refine k _ ⟨T₁, ⟨⟨_, es, ep, F'.keep _ _ hs, hLd, hLk, hLf⟩, S₁, by rw [T₁.size]; exact F.above⟩, fun news N p hp => ⟨?_, (N p hp).2.1, T₁.none_ _ (N p hp).2.2⟩, B₃, XB.keeps B₃.stays, TB.keeps B₃.stays, D.turn T₁⟩
  refine F'.keep _ _ (T'.other _ _ (N p hp).1 fun q => ?_)
  rcases kts_mem q with z | z
  · exact (N p hp).2.1 z
  · obtain ⟨o, _, _, ho', _⟩ := D _ z
    rw [(N p hp).2.2] at ho'
    cases ho'

theorem fill : Challenge.rw_am6015_01.name = Challenge.rw_am6015_01.name ∧ hd.heap_39 = hd.heap_39 := by
  k_fill
  exact ⟨rfl, rfl⟩
end Mine

open PySem PySem.W PyProof.Rows PySem.Calls PySem.Spec
set_option Elab.async false
set_option maxRecDepth 100000
namespace Mine
theorem fill_C1 : Challenge.rw_am6015_01.name = Challenge.rw_am6015_01.name ∧ hd.heap_39 = hd.heap_39 := by
  w_top off
  k_fill
  exact ⟨rfl, rfl⟩
local macro_rules | `(tactic| walk_at "eval BinOp") => `(tactic| (k_here; k_gentoks; (try dsimp only)))
local macro_rules | `(tactic| walk_at "eval Name") => `(tactic| (k_here; k_gentoks; (try dsimp only)))
local macro_rules | `(tactic| walk_at "compareOp") => `(tactic| (k_here; k_gentoks; (try dsimp only)))
local macro_rules | `(tactic| k_room) => `(tactic| ((try simp only [depth_mark, depth_under_make, depth_under_kw, depth_in1, depth_deeper, depth_caller]); omega))
local macro_rules | `(tactic| k_units) => `(tactic| first | exact Nat.le_of_ble_eq_true rfl | ((try simp only [units_in1, units_deeper, Around.mark_units, units_caller]); omega))
local macro_rules | `(tactic| units_room) => `(tactic| ((try simp only [units_in1, units_deeper, Around.mark_units, units_caller]); omega))

set_option maxHeartbeats 4000000 in
theorem make_int {w : World} {mean : ExcName → Option Value} {mg mb : Str → Option Value} {dp un : Nat} {gd : Option (List Code)} {cn : Str} {cs : Scope} {a : Addr} {ccd : Value} {outer : List Env} {A₀ : Around} {base h₀ : Heap} {L : Addr} {m : Str → Option Value} {s : Shared} {Q E : Value → Shared → Prop}
    (C : Cal w mean mg mb 1 dp un outer A₀ base h₀ L m cs s.heap)
    {l : Addr} {vs : List Value} {ns : List Int} (hl : s.heap.IsList l vs.toArray) (hi : IntsAre vs ns) (hfit : ns.length < 2 ^ 20)
    (hret : ∀ (h' : Heap) (tk' : Nat) l' n', Kept s.heap h' → s.heap.get? l' = none → h'.get? l' = some (W.listOf vs.toArray n') → Q (.ref l') { s with heap := h', toks := tk' }) :
    wpAny (model PR w) (ktrTop dp un gd cn cs L a ccd [] outer) (call (.ref 70) [.ref l]) Q E s := by
  k_with_none
  k_with "pyIter ref" => k_search (fun _ => True)
  have hdp := C.hdp
  have hun := C.hun
  refine wpAny_call ?_
  k_dflt (refine' enter C.B C.F C.X C.T ?kA ?kF ?kK ?k6 ?k7 ?k8 ?k9 ?kB ?_ ?c5 ?c2 ?c3 ?c4; (case kA => exact rfl); (case kF => exact rfl); (case kK => exact C.hk); (case k6 => k_is); (case k7 => k_is); (case k8 => k_room); (case k9 => first | exact BindsTo.of_eq rfl | exact binds_K (by k_in) rfl (by k_is) rfl rfl rfl); (case c5 => decide); (case kB => exact locs rfl); (case c2 => exact rfl); (case c3 => exact rfl); (case c4 => exact rfl); k_whole; intro L' h' F' N' B' X' T'; (try dsimp only); (try k_fold))
  k_steps
  exact hret _ _ _ _ kFr.keep (kNews _ (.head _)).2.2 (kNews _ (.head _)).1
end Mine

open PySem PySem.W PyProof.Rows PySem.Calls PySem.Spec
set_option Elab.async false
set_option maxRecDepth 100000
namespace Mine
section
variable {prog : Program} {w : World} {A : Around} {E : Value → Shared → Prop} {s : Shared}
variable {nm q : Str} {C N : Addr} {bs bm bmB : List Value} {hdct : Bool} {sn : List Str} {sub : List Value} {ab : Bool} {col : Option Bool} {dd : Option Addr} {k0 k1 k2 k3 k5 : Option Value} {newId initId B : String}
theorem issubclass_own_nested {k : Value} {dep : Int} {tk : Tok} {Q : Fin → Shared → Prop} (hk : k = .int dep tk)
    (hC : s.heap.get? C = some (excClassObj nm q C N bs bm hdct sn sub ab col dd k0 k1 k2 k3 k5 newId)) (hq : Q (.done (.ret (.bool true))) s) :
    wpAny (model prog w) A (Builtin.«issubclass.nested» ⟨[.ref C, .ref C, k], []⟩) Q E s := by
  subst hk
  obtain ⟨h, g, d, t, os⟩ := s
  have hT : (⟨h, g, d, t, os⟩ : Shared).TypeIs (.ref C) "type" := ⟨_, hC, rfl⟩
  have hcB : (Value.ref C :: bm).contains (Value.ref C) = true := by rw [List.contains_cons]; simp
  dsimp only at hC
  repeat (first | assumption | with_reducible refine wpAny_loadPart_at hC ?_ | (with_reducible refine wpAny_isSubtype_exc hC ?_; rw [hcB]) | wp_step)
theorem issubclass_own : Meets (Builtin.«issubclass» ⟨[.ref C, .ref C], []⟩)
    (fun _ R s => (∃ nm q N bs bm hdct sn sub ab col dd k0 k1 k2 k3 k5 newId, s.heap.get? C = some (excClassObj nm q C N bs bm hdct sn sub ab col dd k0 k1 k2 k3 k5 newId)) ∧ R (.ok (.ret (.bool true))) s) :=
  fun _ _ _ _ _ ⟨⟨_, _, _, _, _, _, _, _, _, _, _, _, _, _, _, _, _, hC⟩, hs⟩ => issubclass_outer (issubclass_own_nested rfl hC hs)

set_option maxHeartbeats 2000000 in
theorem Raise_ownC {name : Str} {scope : Scope} {L a : Addr} {cd : Value} {h₀ : Heap} {m mg : Str → Option Value} {x : Str} {np pos : Pos} {Q : Flow → Shared → Prop}
    (F : Fr h₀ L s.heap m) (hg : h₀.Ns mainGlobals mg) (O : OwnCls x C bmB newId mg h₀) (FB : ExcBaseFacts B newId initId bmB) (hh : A.handled = none)
    (h : ∀ h' e, Heap.MadeExcOf s.heap h' e (.ref C) [] → E (.ref e) { s with heap := h' })
    (hk : scope.kind = .function) (hx : (envOf name scope L a cd).kindOf x = some .globalImplicit) (hd : (x == ("__debug__" : Str)) = false) :
    wpAny (model prog w) A (exec (.Raise (some (.Name x np)) none pos) (envOf name scope L a cd)) Q E s := by
  obtain ⟨tl, N, nm, q, bs, hdct, sn, sub, ab, col, dd, k0, k1, k2, k3, k5, mN, hC₀, hN₀, hni, T₀⟩ := O.obj
  have hC := F.keep _ _ hC₀
  have hN := hN₀.keeps F.keep
  have T := T₀.keeps F.keep
  have hcB : (Value.ref C :: tl).contains (.type "BaseException") = true := by rw [List.contains_cons, T.hasType FB.hasBase, Bool.or_true]
  show wpAny (model prog w) A (do standAt pos; raiseStmt _ (some (do let v ← eval (.Name x np) _; standAt pos; pure v)) none) Q E s
  refine wpAny_bind (wpAny_standAt ?_)
  unfold raiseStmt
  dsimp only
  refine wpAny_bind (wpAny_bind (wpAny_mono (ld_own (Q := fun v s₁ => v = .ref C ∧ s₁ = s) F hg O ⟨rfl, rfl⟩ hk hx hd) (fun v s₁ h₁ => wpAny_bind (wpAny_standAt (wpAny_pure ?_))) fun _ _ e => e))
  obtain ⟨rfl, hs₁⟩ := h₁
  subst s₁
  obtain ⟨hp, g, d, t, os⟩ := s
  dsimp only at hC hN T h
  refine wpAny_bind (wpAny_pure ?_)
  dsimp only
  refine wpAny_bind (wpAny_holding ?_)
  unfold excFromValue isExcClass
  refine wpAny_bind (wpAny_bind ?_)
  have isT : ∀ {Q' : Bool → Shared → Prop} {h' : Heap}, h'.get? C = some (excClassObj nm q C N bs tl hdct sn sub ab col dd k0 k1 k2 k3 k5 newId) → Q' true ⟨h', g, d, t, os⟩ → wpAny (model prog w) A (isType (.ref C)) Q' E ⟨h', g, d, t, os⟩ := by
    intro Q' h' hC hq
    repeat (first | assumption | with_reducible refine wpAny_loadPart_at hC ?_ | wp_step)
  refine isT hC ?_
  simp only [if_true]
  refine wpAny_isSubtype_exc hC ?_
  rw [hcB]
  simp only [if_true]
  refine wpAny_bind (wpAny_call_exc_subT FB T hC hN hni (fun h' e hm => ?_) (Nat.zero_le _))
  obtain ⟨te, he, _, _⟩ := hm.there
  have hC' := hm.keeps _ _ hC
  have isI : ∀ {Q' : Bool → Shared → Prop}, Q' true ⟨h', g, d, t, os⟩ → wpAny (model prog w) A (isInstance (.ref e) (.type "BaseException")) Q' E ⟨h', g, d, t, os⟩ := by
    intro Q' hq
    repeat (first | assumption | with_reducible refine wpAny_loadPart_at he ?_ | (with_reducible refine wpAny_isSubtype_exc hC' ?_; rw [hcB]) | wp_step)
  refine wpAny_bind (isI ?_)
  simp only [Bool.not_true, Bool.false_eq_true, if_false]
  refine wpAny_pure (wpAny_bind ?_)
  refine isT hC' ?_
  simp only [if_true]
  refine wpAny_bind (wpAny_holding ?_)
  unfold raisedFor
  dsimp only
  have tyOf : ∀ {Q' : Value → Shared → Prop}, Q' (.ref C) ⟨h', g, d, t, os⟩ → wpAny (model prog w) A (typeOf (.ref e)) Q' E ⟨h', g, d, t, os⟩ := by
    intro Q' hq
    repeat (first | assumption | with_reducible refine wpAny_loadPart_at he ?_ | wp_step)
  simp only [Bool.false_eq_true, if_false]
  first
    | refine wpAny_bind (wpAny_bind (tyOf ?_))
    | refine wpAny_bind (tyOf ?_)
    | refine wpAny_bind (wpAny_bind (wpAny_bind (tyOf ?_)))
  refine wpAny_bind (call_issubclass issubclass_own ⟨⟨_, _, _, _, _, _, _, _, _, _, _, _, _, _, _, _, _, hC'⟩, ?_⟩)
  dsimp only [wants]
  refine wpAny_bind (wpAny_truthy_bool ?_)
  rw [if_pos rfl]
  refine wpAny_pure ?_
  unfold setFlight raiseNew
  refine wpAny_bind (wpAny_bind (wpAny_field (i := 1) (x := Value.none) he rfl rfl ?_))
  rw [if_neg (by decide)]
  refine wpAny_pure (wpAny_bind (wpAny_handled ?_))
  rw [hh]
  exact wpAny_throw (h h' e hm)
end
end Mine

set_option autoImplicit false
namespace Mine
/-- what the loop of the basic tests holds: `tab` counts the entries above nought -/
structure BInv (p : Int) (pre : List Int) (dmax dmin dsum n : Int) (nd : List Int) : Prop where
  rng : ∀ x ∈ pre, 0 ≤ x ∧ x < p
  sum : dsum = pre.sum
  cnt : n = (pre.countP (fun x => decide (0 < x)) : Nat)
  tab : ∀ j : Nat, 0 < j → (j : Int) < p → nd[j]? = some ((pre.count (j : Int) : Nat) : Int)
  tab0 : 0 < p → nd[0]? = some 0
  mx : ∀ x ∈ pre, x ≤ dmax
  mn : ∀ x ∈ pre, 0 < x → dmin ≤ x
  wit : 0 < n → dmax ∈ pre ∧ 0 < dmax ∧ dmin ∈ pre ∧ 0 < dmin
  nil : n = 0 → dmax = 0 ∧ dmin = p
def BBad (ns : List Int) : Prop := (∃ x ∈ ns, x < 0 ∨ (ns.length : Int) ≤ x) ∨ Int.fmod ns.sum 2 ≠ 0 ∨ ∃ n : Int, n = (ns.countP (fun x => decide (0 < x)) : Nat) ∧ n * (n - 1) < ns.sum

theorem rep_flat (k : Nat) : (List.replicate k [(0:Int)]).flatten = List.replicate k 0 := by
  induction k with
  | zero => rfl
  | succ k ih => rw [List.replicate_succ, List.flatten_cons, ih]; rfl
theorem binv_start (k : Nat) : (((List.replicate ((k : Int)).toNat [(0:Int)]).flatten).length : Int) = k ∧ (0:Int) ≤ 0 ∧ (0:Int) ≤ (([] : List Int).length : Int) ∧
    BInv k [] 0 k 0 0 (List.replicate ((k : Int)).toNat [(0:Int)]).flatten := by
  rw [rep_flat]
  refine ⟨by simp, Int.le_refl _, by simp, ⟨by simp, by simp, by simp, ?_, ?_, by simp, by simp, by omega, by simp⟩⟩
  · intro j _ hj
    rw [List.getElem?_replicate]
    simp
    omega
  · intro h
    rw [List.getElem?_replicate]
    simp
    omega
theorem binv_zero {p x dmax dmin dsum n : Int} {pre nd : List Int} (hx : ¬ x < 0) (hx' : ¬ 0 < x) (hp : ¬ p ≤ x)
    (h : (nd.length : Int) = p ∧ 0 ≤ n ∧ n ≤ (pre.length : Int) ∧ BInv p pre dmax dmin dsum n nd) :
    (nd.length : Int) = p ∧ 0 ≤ n ∧ n ≤ ((pre ++ [x]).length : Int) ∧ BInv p (pre ++ [x]) dmax dmin dsum n nd := by
  obtain ⟨h1, h2, h3, h⟩ := h
  have hx0 : x = 0 := by omega
  subst hx0
  refine ⟨h1, h2, by rw [List.length_append]; simp; omega, ⟨?_, ?_, ?_, ?_, h.tab0, ?_, ?_, ?_, h.nil⟩⟩
  · intro y hy
    rcases List.mem_append.mp hy with hy | hy
    · exact h.rng y hy
    · have := List.mem_singleton.mp hy; omega
  · rw [List.sum_append]; simp [h.sum]
  · rw [List.countP_append]; simp [h.cnt]
  · intro j hj hjp
    rw [h.tab j hj hjp, List.count_append]
    have : ¬ (0 : Int) = (j : Int) := by omega
    simp [this]
  · intro y hy
    rcases List.mem_append.mp hy with hy | hy
    · exact h.mx y hy
    · have := List.mem_singleton.mp hy
      by_cases hn : n = 0
      · have := (h.nil hn).1; omega
      · have := (h.wit (by omega)).2.1; omega
  · intro y hy h0
    rcases List.mem_append.mp hy with hy | hy
    · exact h.mn y hy h0
    · have := List.mem_singleton.mp hy; omega
  · intro hn
    obtain ⟨a, b, c, d⟩ := h.wit hn
    exact ⟨List.mem_append_left _ a, b, List.mem_append_left _ c, d⟩
theorem binv_pos {p x dmax dmin dsum n : Int} {pre nd : List Int} (hx' : 0 < x) (hp : ¬ p ≤ x)
    (h : (nd.length : Int) = p ∧ 0 ≤ n ∧ n ≤ (pre.length : Int) ∧ BInv p pre dmax dmin dsum n nd) :
    ((nd.set x.toNat (nd.getD x.toNat 0 + 1)).length : Int) = p ∧ 0 ≤ n + 1 ∧ n + 1 ≤ ((pre ++ [x]).length : Int) ∧
      BInv p (pre ++ [x]) (if x > dmax then x else dmax) (if x < dmin then x else dmin) (dsum + x) (n + 1) (nd.set x.toNat (nd.getD x.toNat 0 + 1)) := by
  obtain ⟨h1, h2, h3, h⟩ := h
  refine ⟨by rw [List.length_set]; exact h1, by omega, by rw [List.length_append]; simp; omega, ⟨?_, ?_, ?_, ?_, ?_, ?_, ?_, ?_, ?_⟩⟩
  · intro y hy
    rcases List.mem_append.mp hy with hy | hy
    · exact h.rng y hy
    · have := List.mem_singleton.mp hy; omega
  · rw [List.sum_append]; simp [h.sum]
  · rw [List.countP_append]; simp [h.cnt, hx']
  · intro j hj hjp
    rw [List.count_append, List.getElem?_set]
    have hd : nd.getD j 0 = (pre.count (j : Int) : Nat) := by
      rw [List.getD_eq_getElem?_getD, h.tab j hj hjp]; rfl
    by_cases e : x.toNat = j
    · subst e
      have e2 : ((x.toNat : Nat) : Int) = x := by omega
      rw [if_pos rfl, if_pos (by omega), hd, e2]
      simp
    · have e2 : ¬ x = (j : Int) := by omega
      rw [if_neg e, h.tab j hj hjp]
      simp [e2]
  · intro hp'
    rw [List.getElem?_set, if_neg (by omega)]
    exact h.tab0 hp'
  · intro y hy
    rcases List.mem_append.mp hy with hy | hy
    · have := h.mx y hy
      split <;> omega
    · have := List.mem_singleton.mp hy
      split <;> omega
  · intro y hy h0
    rcases List.mem_append.mp hy with hy | hy
    · have := h.mn y hy h0
      split <;> omega
    · have := List.mem_singleton.mp hy
      split <;> omega
  · intro _
    have hw : ∀ d : Int, (d ∈ pre ∧ 0 < d ∨ d = x) → d ∈ pre ++ [x] ∧ 0 < d := by
      intro d hd
      rcases hd with ⟨a, b⟩ | rfl
      · exact ⟨List.mem_append_left _ a, b⟩
      · exact ⟨List.mem_append_right _ (by simp), hx'⟩
    by_cases hn : n = 0
    · obtain ⟨a, b⟩ := h.nil hn
      have e1 : (if x > dmax then x else dmax) = x := by rw [if_pos (by omega)]
      have e2 : (if x < dmin then x else dmin) = x := by rw [if_pos (by omega)]
      rw [e1, e2]
      obtain ⟨a, b⟩ := hw x (.inr rfl)
      exact ⟨a, b, a, b⟩
    · obtain ⟨a, b, c, d⟩ := h.wit (by omega)
      have q1 := hw (if x > dmax then x else dmax) (by split <;> first | exact .inr rfl | exact .inl ⟨a, b⟩)
      have q2 := hw (if x < dmin then x else dmin) (by split <;> first | exact .inr rfl | exact .inl ⟨c, d⟩)
      exact ⟨q1.1, q1.2, q2.1, q2.2⟩
  · intro hn; omega
theorem BInv.bds {p dmax dmin dsum n : Int} {ns nd : List Int} (h : BInv p ns dmax dmin dsum n nd) (hp : p ≤ 12) (hl : (ns.length : Int) = p) :
    0 ≤ n ∧ n ≤ 12 ∧ 0 ≤ dmax ∧ dmax ≤ 12 ∧ 0 ≤ dmin ∧ dmin ≤ 12 ∧ (n ≠ 0 → dmax < p ∧ 1 ≤ dmin ∧ dmin ≤ dmax) := by
  have h1 := h.cnt
  have h2 := List.countP_le_length (p := fun x : Int => decide (0 < x)) (l := ns)
  by_cases hn : n = 0
  · obtain ⟨a, b⟩ := h.nil hn
    exact ⟨by omega, by omega, by omega, by omega, by omega, by omega, fun q => absurd hn q⟩
  · obtain ⟨a, b, c, d⟩ := h.wit (by omega)
    have r1 := h.rng _ a
    have r2 := h.rng _ c
    have r3 := h.mx _ c
    exact ⟨by omega, by omega, by omega, by omega, by omega, by omega, fun _ => ⟨by omega, by omega, by omega⟩⟩
theorem bbad_neg {ns pre post : List Int} {x : Int} (e : ns = pre ++ x :: post) (h : x < 0 ∨ (ns.length : Int) ≤ x) : BBad ns :=
  .inl ⟨x, by rw [e]; simp, h⟩
theorem bbad_odd {p dmax dmin dsum n : Int} {ns nd : List Int} (h : BInv p ns dmax dmin dsum n nd) (ho : Int.fmod dsum 2 ≠ 0) : BBad ns := .inr (.inl (h.sum ▸ ho))
theorem bbad_many {p dmax dmin dsum n : Int} {ns nd : List Int} (h : BInv p ns dmax dmin dsum n nd) (ho : n * (n - 1) < dsum) : BBad ns := .inr (.inr ⟨n, h.cnt, h.sum ▸ ho⟩)
end Mine

open PySem PySem.W PyProof.Rows PySem.Calls PySem.Spec
set_option Elab.async false
set_option maxRecDepth 100000
namespace Mine
theorem fill_C2 : Challenge.rw_am6015_01.name = Challenge.rw_am6015_01.name ∧ hd.heap_39 = hd.heap_39 := by
  w_top off
  k_fill
  exact ⟨rfl, rfl⟩
local macro_rules | `(tactic| walk_at "eval BinOp") => `(tactic| (k_here; k_gentoks; (try dsimp only)))
local macro_rules | `(tactic| walk_at "eval Name") => `(tactic| (k_here; k_gentoks; (try dsimp only)))
local macro_rules | `(tactic| walk_at "compareOp") => `(tactic| (k_here; k_gentoks; (try dsimp only)))
local macro_rules | `(tactic| k_room) => `(tactic| ((try simp only [depth_mark, depth_under_make, depth_under_kw, depth_in1, depth_deeper, depth_caller]); omega))
local macro_rules | `(tactic| k_units) => `(tactic| first | exact Nat.le_of_ble_eq_true rfl | ((try simp only [units_in1, units_deeper, Around.mark_units, units_caller]); omega))
local macro_rules | `(tactic| units_room) => `(tactic| ((try simp only [units_in1, units_deeper, Around.mark_units, units_caller]); omega))
local macro_rules | `(tactic| walk_at "call ref") => `(tactic| (k_here; (with_reducible show wpAny _ _ (call (Value.ref 70) [Value.ref _]) _ _ _); k_dflt (refine' make_int (C := ⟨?k1, ?k2, ?k3, ?k4, ?k5, ?k6, ?k7⟩) ?k8 ?k9 ?k10 ?_; (case k1 => k_asm); (case k2 => k_asm); (case k3 => k_asm); (case k4 => k_asm); (case k5 => exact rfl); (case k6 => ((try simp only [depth_deeper, depth_mark]); omega)); (case k7 => ((try simp only [units_deeper, Around.mark_units, units_in1]); omega)); (case k8 => is_list); (case k9 => k_asm); (case k10 => omega); k_whole); intro h' tk' l' n' kK' kN' kO'; (rename Fr _ _ _ _ => lF'); (rename News _ _ _ _ => lN'); have F' := lF'.keeps kK'; have N' := news_add lF' lN' kK' kN' kO'; have l1 := news_off lN' kN'; clear kK' kN' kO' lF' lN'))
local macro_rules | `(tactic| walk_at "exec Raise some none") => `(tactic| (k_here; (with_reducible show wpAny _ _ (exec (Stmt.Raise (some (Expr.Name _ _)) none _) _) _ _ _); k_dflt (refine' Raise_ownC ?F ?g ?O PySem.F.excBase_Exception ?h ?_ ?c ?d ?e; (case F => k_asm); (case g => exact TopRead.g (by k_asm)); (case O => exact own_of_in (by k_asm) (by k_asm) (by k_is) (by k_exc)); (case h => rfl); (case c => rfl); (case d => rfl); (case e => decide); k_whole)))
abbrev tupObj (vs : List Value) : Obj := { cls := .type "tuple", data := .seq vs.toArray }
set_option maxHeartbeats 4000000 in
theorem basic_int {w : World} {mean : ExcName → Option Value} {mg mb : Str → Option Value} {dp un : Nat} {gd : Option (List Code)} {cn : Str} {cs : Scope} {a : Addr} {ccd : Value} {outer : List Env} {A₀ : Around} {base h₀ : Heap} {L : Addr} {m : Str → Option Value} {s : Shared} {Q E : Value → Shared → Prop}
    (C : Cal w mean mg mb 3 dp un outer A₀ base h₀ L m cs s.heap)
    {l : Addr} {vs : List Value} {ns : List Int} (hl : s.heap.IsList l vs.toArray) (hi : IntsAre vs ns) (hfit : ns.length ≤ 12) (hbd : ∀ x ∈ ns, -100 ≤ x ∧ x ≤ 100)
    (hret : ∀ (h' : Heap) (tk' : Nat) (t l' : Addr) (dmax dmin dsum n : Int) (t1 t2 t3 t4 : Tok) (nd : List Int) (us : List Value) (c : Nat), BInv ns.length ns dmax dmin dsum n nd → Int.fmod dsum 2 = 0 → dsum ≤ n * (n - 1) → (nd.length : Int) = ns.length → IntsAre us nd →
      Kept s.heap h' → s.heap.get? t = none → s.heap.get? l' = none → t ≠ l' → h'.get? t = some (tupObj [.int dmax t1, .int dmin t2, .int dsum t3, .int n t4, .ref l']) → h'.get? l' = some (W.listOf us.toArray c) → Q (.ref t) { s with heap := h', toks := tk' })
    (hexc : ∀ (h' : Heap) (tk' : Nat) (e t : Addr) (news : List (Addr × Obj)), BBad ns → RaisedS base s.heap (envOf cn cs L a ccd :: outer) e (.ref 61) t [] news h' → RaisedK base (envOf cn cs L a ccd :: outer) e (.ref 61) t [] news h' → s.heap.UpToSlots h' → E (.ref e) { s with heap := h', toks := tk' }) :
    wpAny (model PR w) (ktrTop dp un gd cn cs L a ccd [] outer) (call (.ref 85) [.ref l]) Q E s := by
  k_with_none
  k_with "pyIter ref" => k_state_given ["p"] (fun p pre dmax dmin dsum n nd => (nd.length : Int) = p ∧ 0 ≤ n ∧ n ≤ pre.length ∧ BInv p pre dmax dmin dsum n nd) "dmax" "dmin" "dsum" "n" "num_degs"
  k_with "state" => first | exact binv_start _ | exact binv_zero (by omega) (by omega) (by omega) ⟨by assumption, by assumption, by assumption, by assumption⟩ | exact binv_pos (by omega) (by omega) ⟨by assumption, by assumption, by assumption, by assumption⟩
  have hdp := C.hdp
  have hun := C.hun
  refine wpAny_call ?_
  k_dflt (refine' enter C.B C.F C.X C.T ?kA ?kF ?kK ?k6 ?k7 ?k8 ?k9 ?kB ?_ ?c5 ?c2 ?c3 ?c4; (case kA => exact rfl); (case kF => exact rfl); (case kK => exact C.hk); (case k6 => k_is); (case k7 => k_is); (case k8 => k_room); (case k9 => first | exact BindsTo.of_eq rfl | exact binds_K (by k_in) rfl (by k_is) rfl rfl rfl); (case c5 => decide); (case kB => exact locs rfl); (case c2 => exact rfl); (case c3 => exact rfl); (case c4 => exact rfl); k_whole; intro L' h' F' N' B' X' T'; (try dsimp only); (try k_fold))
  have kdX := ktsDicts_nil (g := s.heap)
  k_steps
  · exact hexc _ _ _ _ _ (bbad_neg kEq (.inl (by omega))) (by assumption) (by assumption) (by assumption)
  · exact hexc _ _ _ _ _ (bbad_neg kEq (.inr (by omega))) (by assumption) (by assumption) (by assumption)
  · exact hexc _ _ _ _ _ (bbad_odd (by assumption) (by assumption)) (by assumption) (by assumption) (by assumption)
  · exact hexc _ _ _ _ _ (bbad_many (by assumption) (by assumption)) (by assumption) (by assumption) (by assumption)
  · rename_i F₁ N₁ l₁
    rename BInv _ _ _ _ _ _ _ => hB
    exact hret _ _ _ _ _ _ _ _ _ _ _ _ _ _ _ hB (by assumption) (Int.not_lt.mp (by assumption)) (by assumption) kFacts F₁.keep (N₁ _ (.head _)).2.2 (N₁ _ (.tail _ (.tail _ (.head _)))).2.2 (neN (by omega)) (N₁ _ (.head _)).1 (N₁ _ (.tail _ (.tail _ (.head _)))).1
end Mine

set_option autoImplicit false
namespace Mine
/-- a class for an entry: taken (S), neutral (T), left (U) -/
inductive Cl where
  | S | T | U
abbrev ZL := List (Int × Cl)
def kS : ZL → Int
  | [] => 0
  | (_, .S) :: z => kS z + 1
  | (_, .T) :: z => kS z
  | (_, .U) :: z => kS z
def kT : ZL → Int
  | [] => 0
  | (_, .S) :: z => kT z
  | (_, .T) :: z => kT z + 1
  | (_, .U) :: z => kT z
def kU : ZL → Int
  | [] => 0
  | (_, .S) :: z => kU z
  | (_, .T) :: z => kU z
  | (_, .U) :: z => kU z + 1
def sS : ZL → Int
  | [] => 0
  | (x, .S) :: z => sS z + x
  | (_, .T) :: z => sS z
  | (_, .U) :: z => sS z
def sU : ZL → Int
  | [] => 0
  | (_, .S) :: z => sU z
  | (_, .T) :: z => sU z
  | (x, .U) :: z => sU z + x
/-- the excess -/
def Xc (z : ZL) : Int := sS z - sU z - kS z * (kS z + kT z - 1)
/-- the inequalities of Koren -/
def Kor (l : List Int) : Prop := ∀ z : ZL, z.map Prod.fst = l → Xc z ≤ 0

theorem kS_app (a b : ZL) : kS (a ++ b) = kS a + kS b := by
  induction a with
  | nil => simp [kS]
  | cons p a ih => obtain ⟨x, c⟩ := p; cases c <;> simp only [List.cons_append, kS, ih] <;> omega
theorem kT_app (a b : ZL) : kT (a ++ b) = kT a + kT b := by
  induction a with
  | nil => simp [kT]
  | cons p a ih => obtain ⟨x, c⟩ := p; cases c <;> simp only [List.cons_append, kT, ih] <;> omega
theorem kU_app (a b : ZL) : kU (a ++ b) = kU a + kU b := by
  induction a with
  | nil => simp [kU]
  | cons p a ih => obtain ⟨x, c⟩ := p; cases c <;> simp only [List.cons_append, kU, ih] <;> omega
theorem sS_app (a b : ZL) : sS (a ++ b) = sS a + sS b := by
  induction a with
  | nil => simp [sS]
  | cons p a ih => obtain ⟨x, c⟩ := p; cases c <;> simp only [List.cons_append, sS, ih] <;> omega
theorem sU_app (a b : ZL) : sU (a ++ b) = sU a + sU b := by
  induction a with
  | nil => simp [sU]
  | cons p a ih => obtain ⟨x, c⟩ := p; cases c <;> simp only [List.cons_append, sU, ih] <;> omega
theorem kS_nn (z : ZL) : 0 ≤ kS z := by
  induction z with
  | nil => simp [kS]
  | cons p a ih => obtain ⟨x, c⟩ := p; cases c <;> simp only [kS] <;> omega
theorem kT_nn (z : ZL) : 0 ≤ kT z := by
  induction z with
  | nil => simp [kT]
  | cons p a ih => obtain ⟨x, c⟩ := p; cases c <;> simp only [kT] <;> omega
theorem kU_nn (z : ZL) : 0 ≤ kU z := by
  induction z with
  | nil => simp [kU]
  | cons p a ih => obtain ⟨x, c⟩ := p; cases c <;> simp only [kU] <;> omega
theorem k_len (z : ZL) : kS z + kT z + kU z = z.length := by
  induction z with
  | nil => simp [kS, kT, kU]
  | cons p a ih => obtain ⟨x, c⟩ := p; cases c <;> simp only [kS, kT, kU, List.length_cons] <;> omega
theorem prod_nn {k t : Int} (hk : 0 ≤ k) (ht : 0 ≤ t) : 0 ≤ k * (k + t - 1) := by
  rcases Int.lt_or_le k 1 with h | h
  · have : k = 0 := by omega
    subst this; simp
  · exact Int.mul_nonneg hk (by omega)
def absSum : List Int → Int
  | [] => 0
  | x :: l => absSum l + (if x < 0 then -x else x)
theorem abs_ge (z : ZL) : sS z - sU z ≤ absSum (z.map Prod.fst) := by
  induction z with
  | nil => simp [sS, sU, absSum]
  | cons p a ih => obtain ⟨x, c⟩ := p; cases c <;> simp only [sS, sU, List.map_cons, absSum] <;> split <;> omega
theorem xc_le (z : ZL) : Xc z ≤ absSum (z.map Prod.fst) := by
  have h1 := abs_ge z
  have h2 := prod_nn (kS_nn z) (kT_nn z)
  unfold Xc
  omega

/-- the four moves -/
theorem mv_ST (a b : ZL) (x : Int) : Xc (a ++ (x, .T) :: b) = Xc (a ++ (x, .S) :: b) + (kS (a ++ (x, .S) :: b) + kT (a ++ (x, .S) :: b) - 1 - x) ∧ kT (a ++ (x, .T) :: b) = kT (a ++ (x, .S) :: b) + 1 := by
  simp only [Xc, kS_app, kT_app, sS_app, sU_app, kS, kT, sS, sU]
  refine ⟨?_, by omega⟩
  have e : kS a + kS b + (kT a + (kT b + 1)) - 1 = kS a + (kS b + 1) + (kT a + kT b) - 1 := by omega
  rw [e]
  generalize hP : kS a + (kS b + 1) + (kT a + kT b) - 1 = P
  have e2 : kS a + (kS b + 1) = (kS a + kS b) + 1 := by omega
  rw [e2, Int.add_mul (kS a + kS b) 1 P, Int.one_mul]
  omega
theorem mv_UT (a b : ZL) (x : Int) : Xc (a ++ (x, .T) :: b) = Xc (a ++ (x, .U) :: b) + (x - kS (a ++ (x, .U) :: b)) ∧ kT (a ++ (x, .T) :: b) = kT (a ++ (x, .U) :: b) + 1 ∧ kS (a ++ (x, .T) :: b) = kS (a ++ (x, .U) :: b) := by
  simp only [Xc, kS_app, kT_app, sS_app, sU_app, kS, kT, sS, sU]
  refine ⟨?_, by omega, trivial⟩
  have e : kS a + kS b + (kT a + (kT b + 1)) - 1 = (kS a + kS b + (kT a + kT b) - 1) + 1 := by omega
  rw [e, Int.mul_add, Int.mul_one]
  omega
def Stable (z : ZL) : Prop := ∀ x c, (x, c) ∈ z → match c with
  | .S => kS z + kT z ≤ x
  | .T => kS z ≤ x ∧ x < kS z + kT z
  | .U => x < kS z

theorem kT_le (z : ZL) : kT z ≤ z.length := by
  have := k_len z; have := kS_nn z; have := kU_nn z; omega
theorem stab_aux {l : List Int} (h : ∀ z : ZL, z.map Prod.fst = l → Stable z → Xc z ≤ 0) (n : Nat) : ∀ z : ZL, z.map Prod.fst = l →
    (absSum l - Xc z) * (l.length + 1) + (l.length - kT z) < n → Xc z ≤ 0 := by
  induction n with
  | zero =>
    intro z hz hlt
    have h1 := xc_le z
    rw [hz] at h1
    have h2 := kT_le z
    have h3 : z.length = l.length := by rw [← hz, List.length_map]
    have h4 : 0 ≤ (absSum l - Xc z) * ((l.length : Int) + 1) := Int.mul_nonneg (by omega) (by omega)
    omega
  | succ n ih =>
    intro z hz hlt
    have step : ∀ z' : ZL, z'.map Prod.fst = l → ((Xc z ≤ Xc z' ∧ kT z' = kT z + 1) ∨ (Xc z + 1 ≤ Xc z' ∧ kT z' = kT z - 1 ∧ 1 ≤ l.length)) → Xc z ≤ 0 := by
      intro z' hz' hc
      have hx : Xc z' ≤ 0 := by
        refine ih z' hz' ?_
        rcases hc with ⟨a, b⟩ | ⟨a, b, c⟩
        · have : (absSum l - Xc z') * ((l.length : Int) + 1) ≤ (absSum l - Xc z) * ((l.length : Int) + 1) := Int.mul_le_mul_of_nonneg_right (by omega) (by omega)
          omega
        · have : (absSum l - Xc z') * ((l.length : Int) + 1) ≤ (absSum l - Xc z - 1) * ((l.length : Int) + 1) := Int.mul_le_mul_of_nonneg_right (by omega) (by omega)
          rw [Int.sub_mul _ 1, Int.one_mul] at this
          omega
      rcases hc with ⟨a, _⟩ | ⟨a, _, _⟩ <;> omega
    by_cases hs : Stable z
    · exact h z hz hs
    · unfold Stable at hs
      have ⟨x, hs⟩ := Classical.not_forall.mp hs
      have ⟨c, hs⟩ := Classical.not_forall.mp hs
      have ⟨hm, hs⟩ := Classical.not_imp.mp hs
      obtain ⟨a, b, rfl⟩ := List.append_of_mem hm
      have hlen : 1 ≤ l.length := by rw [← hz]; simp; omega
      have same : ∀ c', (a ++ (x, c') :: b).map Prod.fst = l := fun c' => by rw [← hz]; simp
      cases c with
      | S =>
        obtain ⟨e1, e2⟩ := mv_ST a b x
        exact step _ (same .T) (.inl ⟨by simp only at hs; omega, e2⟩)
      | U =>
        obtain ⟨e1, e2, e3⟩ := mv_UT a b x
        exact step _ (same .T) (.inl ⟨by simp only at hs; omega, e2⟩)
      | T =>
        obtain ⟨e1, e2, e3⟩ := mv_UT a b x
        obtain ⟨f1, f2⟩ := mv_ST a b x
        by_cases hx : x < kS (a ++ (x, .T) :: b)
        · exact step _ (same .U) (.inr ⟨by omega, by omega, hlen⟩)
        · have f3 : kS (a ++ (x, .S) :: b) = kS (a ++ (x, .T) :: b) + 1 := by simp only [kS_app, kS]; omega
          exact step _ (same .S) (.inr ⟨by simp only at hs; omega, by omega, hlen⟩)
theorem stab {l : List Int} (h : ∀ z : ZL, z.map Prod.fst = l → Stable z → Xc z ≤ 0) : Kor l := fun z hz =>
  stab_aux h (((absSum l - Xc z) * (l.length + 1) + (l.length - kT z)).toNat + 1) z hz (by omega)

/-- rearranged -/
theorem perm_lift {l l' : List Int} (p : l.Perm l') : ∀ z' : ZL, z'.map Prod.fst = l' → ∃ z : ZL, z.map Prod.fst = l ∧ z.Perm z' := by
  induction p with
  | nil => intro z' h; exact ⟨z', h, .refl _⟩
  | cons x p ih =>
    intro z' h
    obtain _ | ⟨q, z'⟩ := z'
    · simp at h
    · simp only [List.map_cons, List.cons.injEq] at h
      obtain ⟨z, hz, hp⟩ := ih z' h.2
      exact ⟨q :: z, by simp [hz, h.1], hp.cons q⟩
  | swap x y l =>
    intro z' h
    obtain _ | ⟨q, _ | ⟨r, z'⟩⟩ := z'
    · simp at h
    · simp at h
    · simp only [List.map_cons, List.cons.injEq] at h
      exact ⟨r :: q :: z', by simp [h], .swap q r z'⟩
  | trans p q ih1 ih2 =>
    intro z' h
    obtain ⟨z, hz, hp⟩ := ih2 z' h
    obtain ⟨y, hy, hq⟩ := ih1 z hz
    exact ⟨y, hy, hq.trans hp⟩
theorem perm_k {z z' : ZL} (p : z.Perm z') : kS z = kS z' ∧ kT z = kT z' ∧ sS z = sS z' ∧ sU z = sU z' := by
  induction p with
  | nil => exact ⟨rfl, rfl, rfl, rfl⟩
  | cons q p ih =>
    obtain ⟨x, c⟩ := q
    obtain ⟨a, b, d, e⟩ := ih
    cases c <;> simp only [kS, kT, sS, sU, a, b, d, e] <;> exact ⟨trivial, trivial, trivial, trivial⟩
  | swap q r l =>
    obtain ⟨x, c⟩ := q
    obtain ⟨y, d⟩ := r
    cases c <;> cases d <;> simp only [kS, kT, sS, sU] <;> refine ⟨?_, ?_, ?_, ?_⟩ <;> first | trivial | omega
  | trans p q ih1 ih2 =>
    obtain ⟨a, b, d, e⟩ := ih1
    obtain ⟨a', b', d', e'⟩ := ih2
    exact ⟨a.trans a', b.trans b', d.trans d', e.trans e'⟩
theorem Kor.perm {l l' : List Int} (h : Kor l) (p : l.Perm l') : Kor l' := fun z' hz' => by
  obtain ⟨z, hz, hp⟩ := perm_lift p z' hz'
  obtain ⟨a, b, d, e⟩ := perm_k hp
  have := h z hz
  unfold Xc at this ⊢
  rw [← a, ← b, ← d, ← e]
  exact this

/-- noughts don't count -/
theorem drop_zero (l : List Int) (z : ZL) (hz : z.map Prod.fst = l) (hn : ∀ x ∈ l, 0 ≤ x) : ∃ z' : ZL, z'.map Prod.fst = l.filter (fun x => decide (0 < x)) ∧ sS z' = sS z ∧ sU z' = sU z ∧ 0 ≤ kS z' ∧ kS z' ≤ kS z ∧ 0 ≤ kT z' ∧ kT z' ≤ kT z := by
  induction z generalizing l with
  | nil =>
    subst hz
    exact ⟨[], rfl, rfl, rfl, by simp [kS], by simp [kS], by simp [kT], by simp [kT]⟩
  | cons p z ih =>
    obtain ⟨x, c⟩ := p
    subst hz
    obtain ⟨z', e, e1, e2, e3, e4, e5, e6⟩ := ih _ rfl (fun y hy => hn y (by simp at hy ⊢; exact .inr hy))
    have hx := hn x (by simp)
    by_cases h0 : 0 < x
    · refine ⟨(x, c) :: z', ?_, ?_⟩
      · simp only [List.map_cons]
        rw [List.filter_cons_of_pos (by simpa using h0), ← e]
      · cases c <;> simp only [kS, kT, sS, sU] <;> (refine ⟨?_, ?_, ?_, ?_, ?_, ?_⟩) <;> first | trivial | omega
    · refine ⟨z', ?_, ?_⟩
      · simp only [List.map_cons]
        rw [List.filter_cons_of_neg (by simpa using h0), ← e]
      · cases c <;> simp only [kS, kT, sS, sU] <;> (refine ⟨?_, ?_, ?_, ?_, ?_, ?_⟩) <;> first | trivial | omega
theorem add_zero' (l : List Int) (hn : ∀ x ∈ l, 0 ≤ x) : ∀ z' : ZL, z'.map Prod.fst = l.filter (fun x => decide (0 < x)) → ∃ z : ZL, z.map Prod.fst = l ∧ sS z = sS z' ∧ sU z = sU z' ∧ kS z = kS z' ∧ kT z = kT z' := by
  induction l with
  | nil => intro z' h; exact ⟨z', by simpa using h, rfl, rfl, rfl, rfl⟩
  | cons x l ih =>
    intro z' h
    have hx := hn x (by simp)
    have ih := ih (fun y hy => hn y (by simp [hy]))
    by_cases h0 : 0 < x
    · rw [List.filter_cons_of_pos (by simpa using h0)] at h
      obtain _ | ⟨⟨y, c⟩, z'⟩ := z'
      · simp at h
      · simp only [List.map_cons, List.cons.injEq] at h
        obtain ⟨z, e, e1, e2, e3, e4⟩ := ih z' h.2
        refine ⟨(y, c) :: z, by simp [e, h.1], ?_⟩
        cases c <;> simp only [kS, kT, sS, sU, e1, e2, e3, e4] <;> exact ⟨trivial, trivial, trivial, trivial⟩
    · rw [List.filter_cons_of_neg (by simpa using h0)] at h
      obtain ⟨z, e, e1, e2, e3, e4⟩ := ih z' h
      refine ⟨(x, .U) :: z, by simp [e], ?_⟩
      simp only [kS, kT, sS, sU]
      refine ⟨?_, ?_, ?_, ?_⟩ <;> first | trivial | omega
theorem kor_pos {l : List Int} (hn : ∀ x ∈ l, 0 ≤ x) : Kor l ↔ Kor (l.filter fun x => decide (0 < x)) := by
  constructor
  · intro h z' hz'
    obtain ⟨z, e, e1, e2, e3, e4⟩ := add_zero' l hn z' hz'
    have := h z e
    unfold Xc at this ⊢
    rw [← e1, ← e2, ← e3, ← e4]
    exact this
  · intro h z hz
    obtain ⟨z', e, e1, e2, e3, e4, e5, e6⟩ := drop_zero l z hz hn
    have := h z' e
    unfold Xc at this ⊢
    rw [e1, e2] at this
    have hm : kS z' * (kS z' + kT z' - 1) ≤ kS z * (kS z + kT z - 1) := by
      rcases Int.lt_or_le (kS z') 1 with q | q
      · have : kS z' = 0 := by omega
        rw [this]
        have := prod_nn (kS_nn z) (kT_nn z)
        omega
      · exact Int.mul_le_mul e4 (by omega) (by omega) (kS_nn z)
    omega
end Mine

set_option autoImplicit false
namespace Mine
/-- entries of the rest: the degree, whether it is one of the greatest, a class -/
abbrev ZB := List (Int × Bool × Cl)
def pA : Bool → Cl → Bool
  | false, .S => true
  | _, _ => false
def pB : Bool → Cl → Bool
  | true, .S => true
  | _, _ => false
def pG : Bool → Cl → Bool
  | false, .T => true
  | _, _ => false
def pD : Bool → Cl → Bool
  | true, .T => true
  | _, _ => false
def pE : Bool → Cl → Bool
  | true, .U => true
  | _, _ => false
def pZ : Bool → Cl → Bool
  | false, .U => true
  | _, _ => false
def cn (P : Bool → Cl → Bool) : ZB → Int
  | [] => 0
  | (_, b, c) :: w => cn P w + (if P b c = true then 1 else 0)
def sm (P : Bool → Cl → Bool) : ZB → Int
  | [] => 0
  | (d, b, c) :: w => sm P w + (if P b c = true then d else 0)
def zmap (f : Bool → Cl → Cl) (w : ZB) : ZL := w.map fun p => (p.1, f p.2.1 p.2.2)
def red (w : ZB) : ZL := w.map fun p => (if p.2.1 = true then p.1 - 1 else p.1, p.2.2)
def f1 : Bool → Cl → Cl := fun _ c => c
def f2 : Bool → Cl → Cl
  | false, .S => .T
  | true, .U => .T
  | _, c => c
def f3 : Bool → Cl → Cl
  | false, .T => .U
  | _, c => c
theorem cn_nn (P : Bool → Cl → Bool) (w : ZB) : 0 ≤ cn P w := by
  induction w with
  | nil => simp [cn]
  | cons p w ih => obtain ⟨d, b, c⟩ := p; simp only [cn]; split <;> omega
theorem red_k (w : ZB) : kS (red w) = cn pA w + cn pB w ∧ kT (red w) = cn pG w + cn pD w ∧ sS (red w) = sm pA w + sm pB w - cn pB w ∧ sU (red w) = sm pE w - cn pE w + sm pZ w := by
  induction w with
  | nil => simp [red, cn, sm, kS, kT, sS, sU]
  | cons p w ih =>
    obtain ⟨d, b, c⟩ := p
    obtain ⟨h1, h2, h3, h4⟩ := ih
    have e : red ((d, b, c) :: w) = (if b = true then d - 1 else d, c) :: red w := rfl
    rw [e]
    cases b <;> cases c <;> simp [cn, sm, kS, kT, sS, sU, h1, h2, h3, h4, pA, pB, pG, pD, pE, pZ] <;> omega
theorem f1_k (w : ZB) : kS (zmap f1 w) = cn pA w + cn pB w ∧ kT (zmap f1 w) = cn pG w + cn pD w ∧ sS (zmap f1 w) = sm pA w + sm pB w ∧ sU (zmap f1 w) = sm pE w + sm pZ w := by
  induction w with
  | nil => simp [zmap, cn, sm, kS, kT, sS, sU]
  | cons p w ih =>
    obtain ⟨d, b, c⟩ := p
    obtain ⟨h1, h2, h3, h4⟩ := ih
    have e : zmap f1 ((d, b, c) :: w) = (d, f1 b c) :: zmap f1 w := rfl
    rw [e]
    cases b <;> cases c <;> simp [f1, cn, sm, kS, kT, sS, sU, h1, h2, h3, h4, pA, pB, pG, pD, pE, pZ] <;> omega
theorem f2_k (w : ZB) : kS (zmap f2 w) = cn pB w ∧ kT (zmap f2 w) = cn pA w + cn pG w + cn pD w + cn pE w ∧ sS (zmap f2 w) = sm pB w ∧ sU (zmap f2 w) = sm pZ w := by
  induction w with
  | nil => simp [zmap, cn, sm, kS, kT, sS, sU]
  | cons p w ih =>
    obtain ⟨d, b, c⟩ := p
    obtain ⟨h1, h2, h3, h4⟩ := ih
    have e : zmap f2 ((d, b, c) :: w) = (d, f2 b c) :: zmap f2 w := rfl
    rw [e]
    cases b <;> cases c <;> simp [f2, cn, sm, kS, kT, sS, sU, h1, h2, h3, h4, pA, pB, pG, pD, pE, pZ] <;> omega
theorem f3_k (w : ZB) : kS (zmap f3 w) = cn pA w + cn pB w ∧ kT (zmap f3 w) = cn pD w ∧ sS (zmap f3 w) = sm pA w + sm pB w ∧ sU (zmap f3 w) = sm pE w + sm pZ w + sm pG w := by
  induction w with
  | nil => simp [zmap, cn, sm, kS, kT, sS, sU]
  | cons p w ih =>
    obtain ⟨d, b, c⟩ := p
    obtain ⟨h1, h2, h3, h4⟩ := ih
    have e : zmap f3 ((d, b, c) :: w) = (d, f3 b c) :: zmap f3 w := rfl
    rw [e]
    cases b <;> cases c <;> simp [f3, cn, sm, kS, kT, sS, sU, h1, h2, h3, h4, pA, pB, pG, pD, pE, pZ] <;> omega
theorem sm_const (P : Bool → Cl → Bool) (k : Int) (w : ZB) (h : ∀ d b c, (d, b, c) ∈ w → P b c = true → d = k) : sm P w = k * cn P w := by
  induction w with
  | nil => simp [sm, cn]
  | cons p w ih =>
    obtain ⟨d, b, c⟩ := p
    have ih := ih fun d b c hm hp => h d b c (.tail _ hm) hp
    simp only [sm, cn]
    rw [ih, Int.mul_add]
    split
    · rename_i hp
      rw [h d b c (.head _) hp]; omega
    · omega
theorem cn_ex (P : Bool → Cl → Bool) (w : ZB) (h : 0 < cn P w) : ∃ d b c, (d, b, c) ∈ w ∧ P b c = true := by
  induction w with
  | nil => simp [cn] at h
  | cons p w ih =>
    obtain ⟨d, b, c⟩ := p
    simp only [cn] at h
    by_cases hp : P b c = true
    · exact ⟨d, b, c, .head _, hp⟩
    · rw [if_neg hp] at h
      obtain ⟨d, b, c, hm, hp⟩ := ih (by omega)
      exact ⟨d, b, c, .tail _ hm, hp⟩
theorem cn_of (P : Bool → Cl → Bool) (w : ZB) {d : Int} {b : Bool} {c : Cl} (h : (d, b, c) ∈ w) (hp : P b c = true) : 0 < cn P w := by
  induction w with
  | nil => simp at h
  | cons p w ih =>
    obtain ⟨d', b', c'⟩ := p
    simp only [cn]
    have := cn_nn P w
    rcases List.mem_cons.mp h with e | h
    · cases e
      rw [if_pos hp]; omega
    · have := ih h
      split <;> omega
/-- the marked ones are as many as the first list has -/
theorem cn_true (w : ZB) : cn pB w + cn pD w + cn pE w = ((w.filter fun p => p.2.1).length : Nat) := by
  induction w with
  | nil => simp [cn]
  | cons p w ih =>
    obtain ⟨d, b, c⟩ := p
    cases b <;> cases c <;> simp [cn, pB, pD, pE] <;> omega
theorem red_sum (w : ZB) : (red w).map Prod.fst = (w.map fun p => if p.2.1 = true then p.1 - 1 else p.1) := by
  simp [red]
theorem zl_sum (z : ZL) (h : kT z = 0) : (z.map Prod.fst).sum = sS z + sU z := by
  induction z with
  | nil => simp [sS, sU]
  | cons p z ih =>
    obtain ⟨x, c⟩ := p
    have := kT_nn z
    cases c <;> simp only [kT, sS, sU, List.map_cons, List.sum_cons] at h ⊢ <;> first | omega | (have := ih h; omega)

/-- one step of Havel and Hakimi, over the marked list -/
theorem hh_fwd {a : Int} {w : ZB} (hev : ∃ j : Int, ((red w).map Prod.fst).sum = 2 * j) (hK : ∀ f v, Xc ((a, v) :: zmap f w) ≤ 0) (ha : cn pB w + cn pD w + cn pE w = a)
    (hAR : ∀ x c y c', (x, true, c) ∈ w → (y, false, c') ∈ w → y ≤ x) (hmax : ∀ x b c, (x, b, c) ∈ w → x ≤ a) (hpos : ∀ x b c, (x, b, c) ∈ w → 0 ≤ (if b = true then x - 1 else x))
    (hs : Stable (red w)) : Xc (red w) ≤ 0 := by
  obtain ⟨r1, r2, r3, r4⟩ := red_k w
  have st : ∀ x b c, (x, b, c) ∈ w → match c with
      | .S => kS (red w) + kT (red w) ≤ (if b = true then x - 1 else x)
      | .T => kS (red w) ≤ (if b = true then x - 1 else x) ∧ (if b = true then x - 1 else x) < kS (red w) + kT (red w)
      | .U => (if b = true then x - 1 else x) < kS (red w) := fun x b c hm => hs _ c (List.mem_map.mpr ⟨(x, b, c), hm, rfl⟩)
  have nA := cn_nn pA w
  have nB := cn_nn pB w
  have nG := cn_nn pG w
  have nD := cn_nn pD w
  have nE := cn_nn pE w
  have nZ := cn_nn pZ w
  have zA : cn pA w = 0 → sm pA w = 0 := fun h => by
    rw [sm_const pA 0 w (fun d b c hm hp => absurd (cn_of pA w hm hp) (by omega))]; simp
  refine Int.not_lt.mp fun hX => ?_
  -- the class taken is not empty
  have hk : 0 < cn pA w + cn pB w := by
    refine Int.not_le.mp fun hk => ?_
    have hA0 : cn pA w = 0 := by omega
    have hB0 : cn pB w = 0 := by omega
    have eU : ∀ P, (P = pE ∨ P = pZ) → cn P w = 0 := fun P hP => by
      refine Int.le_antisymm (Int.not_lt.mp fun h => ?_) (cn_nn _ _)
      obtain ⟨d, b, c, hm, hp⟩ := cn_ex P w h
      have h1 := st d b c hm
      have h2 := hpos d b c hm
      rcases hP with rfl | rfl
      · cases b <;> cases c <;> simp [pE] at hp
        simp only [if_true] at h1 h2
        omega
      · cases b <;> cases c <;> simp [pZ] at hp
        simp only [Bool.false_eq_true, if_false] at h1 h2
        omega
    have hE := eU pE (.inl rfl)
    have hZ := eU pZ (.inr rfl)
    have s1 := sm_const pE 0 w (fun d b c hm hp => absurd (cn_of pE w hm hp) (by omega))
    have s2 := sm_const pZ 0 w (fun d b c hm hp => absurd (cn_of pZ w hm hp) (by omega))
    have s3 := sm_const pB 0 w (fun d b c hm hp => absurd (cn_of pB w hm hp) (by omega))
    have s4 := zA hA0
    unfold Xc at hX
    rw [r1, r3, r4, hA0, hB0, s1, s2, s3, s4, hE] at hX
    simp at hX
  -- one taken: a is great
  have haK : cn pA w + cn pB w + (cn pG w + cn pD w) ≤ a := by
    have : 0 < cn pA w ∨ 0 < cn pB w := by omega
    rcases this with h | h
    · obtain ⟨d, b, c, hm, hp⟩ := cn_ex _ w h
      have h1 := st d b c hm
      have h2 := hmax d b c hm
      cases b <;> cases c <;> simp [pA] at hp
      simp only [Bool.false_eq_true, if_false] at h1
      omega
    · obtain ⟨d, b, c, hm, hp⟩ := cn_ex _ w h
      have h1 := st d b c hm
      have h2 := hmax d b c hm
      cases b <;> cases c <;> simp [pB] at hp
      simp only [if_true] at h1
      omega
  -- the three inequalities
  have x1 := hK f1 .S
  have x2 := hK f2 .T
  have x3 := hK f3 .S
  obtain ⟨p1, p2, p3, p4⟩ := f1_k w
  obtain ⟨q1, q2, q3, q4⟩ := f2_k w
  obtain ⟨t1, t2, t3, t4⟩ := f3_k w
  unfold Xc at hX x1 x2 x3
  simp only [kS, kT, sS, sU] at x1 x2 x3
  rw [r1, r2, r3, r4] at hX
  rw [p1, p2, p3, p4] at x1
  rw [q1, q2, q3, q4] at x2
  rw [t1, t2, t3, t4] at x3
  rw [r1, r2] at st
  -- (1)
  have e1 : (cn pA w + cn pB w + 1) * (cn pA w + cn pB w + 1 + (cn pG w + cn pD w) - 1) = (cn pA w + cn pB w) * (cn pA w + cn pB w + (cn pG w + cn pD w) - 1) + (2 * (cn pA w + cn pB w) + (cn pG w + cn pD w)) := by
    grind
  rw [e1] at x1
  have i1 : 1 ≤ 2 * cn pA w + cn pG w := by omega
  have hE : 0 < cn pE w := by omega
  obtain ⟨y, by_, cy, hy, hyp⟩ := cn_ex _ w hE
  have hyU := st y by_ cy hy
  cases by_ <;> cases cy <;> simp [pE] at hyp
  simp only [if_true] at hyU
  have lowR : ∀ d c, (d, false, c) ∈ w → d ≤ cn pA w + cn pB w := fun d c hm => by
    have := hAR y .U d c hy hm
    omega
  by_cases hA : 0 < cn pA w
  · obtain ⟨x, bx, cx, hx, hxp⟩ := cn_ex _ w hA
    have hxS := st x bx cx hx
    cases bx <;> cases cx <;> simp [pA] at hxp
    simp only [Bool.false_eq_true, if_false] at hxS
    have hxl := lowR x _ hx
    have hG0 : cn pG w = 0 := by omega
    have hD0 : cn pD w = 0 := by omega
    have cA := sm_const pA (cn pA w + cn pB w) w (fun d b c hm hp => by
      have h1 := st d b c hm
      cases b <;> cases c <;> simp [pA] at hp
      simp only [Bool.false_eq_true, if_false] at h1
      have := lowR d _ hm
      omega)
    have cE := sm_const pE (cn pA w + cn pB w) w (fun d b c hm hp => by
      have h1 := st d b c hm
      cases b <;> cases c <;> simp [pE] at hp
      simp only [if_true] at h1
      have := hAR d _ x _ hm hx
      omega)
    have hev' : ∃ j : Int, sS (red w) + sU (red w) = 2 * j := by
      rw [← zl_sum _ (by rw [r2]; omega)]; exact hev
    obtain ⟨j, hj⟩ := hev'
    rw [r3, r4] at hj
    rw [hG0, hD0] at hX x2
    rw [cA, cE] at hX hj
    generalize hAe : cn pA w = A at *
    generalize hBe : cn pB w = B at *
    generalize hEe : cn pE w = Ee at *
    generalize sm pB w = sB at *
    generalize sm pZ w = sZ at *
    have e2 : B * (B + (A + 0 + 0 + Ee + 1) - 1) = B * B + B * A + B * Ee := by grind
    have e3 : (A + B) * (A + B + (0 + 0) - 1) = (A + B) * (A + B) - (A + B) := by grind
    rw [e2] at x2
    rw [e3] at hX
    -- the excess is even
    have par : ∃ i : Int, (A + B) * (A + B) - (A + B) = 2 * i := by
      rcases Int.emod_two_eq (A + B) with h | h
      · exact ⟨((A + B) / 2) * (A + B - 1), by
          have : A + B = 2 * ((A + B) / 2) := by omega
          grind⟩
      · exact ⟨((A + B - 1) / 2) * (A + B), by
          have : A + B - 1 = 2 * ((A + B - 1) / 2) := by omega
          grind⟩
    obtain ⟨i, hi⟩ := par
    rw [hi] at hX
    have hprod : 0 ≤ (A - 1) * (Ee - 1) := Int.mul_nonneg (by omega) (by omega)
    have e4 : (A - 1) * (Ee - 1) = A * Ee - A - Ee + 1 := by grind
    have e5 : (A + B) * A = A * A + A * B := by grind
    have e6 : (A + B) * Ee = A * Ee + B * Ee := by grind
    have e7 : (A + B) * (A + B) = A * A + 2 * (A * B) + B * B := by grind
    have e8 : B * A = A * B := Int.mul_comm _ _
    omega
  · have hA0 : cn pA w = 0 := by omega
    have sA0 := zA hA0
    have cG := sm_const pG (cn pA w + cn pB w) w (fun d b c hm hp => by
      have h1 := st d b c hm
      cases b <;> cases c <;> simp [pG] at hp
      simp only [Bool.false_eq_true, if_false] at h1
      have := lowR d _ hm
      omega)
    rw [cG] at x3
    rw [hA0, sA0] at hX x3
    generalize cn pB w = B at *
    generalize cn pE w = Ee at *
    generalize cn pG w = G at *
    generalize cn pD w = Dd at *
    have e2 : (0 + B + 1) * (0 + B + 1 + Dd - 1) = B * B + B * Dd + B + Dd := by grind
    have e3 : (0 + B) * (0 + B + (G + Dd) - 1) = B * B + B * G + B * Dd - B := by grind
    have e4 : (0 + B) * G = B * G := by grind
    rw [e2, e4] at x3
    rw [e3] at hX
    omega
end Mine

set_option autoImplicit false
namespace Mine
theorem hh_bwd {a : Int} {w : ZB} (ha : cn pB w + cn pD w + cn pE w = a) (h : Xc (red w) ≤ 0) : ∀ v, Xc ((a, v) :: zmap f1 w) ≤ 0 := by
  intro v
  obtain ⟨r1, r2, r3, r4⟩ := red_k w
  obtain ⟨p1, p2, p3, p4⟩ := f1_k w
  have nA := cn_nn pA w
  have nB := cn_nn pB w
  have nG := cn_nn pG w
  have nD := cn_nn pD w
  have nE := cn_nn pE w
  unfold Xc at h ⊢
  rw [r1, r2, r3, r4] at h
  cases v <;> simp only [kS, kT, sS, sU] <;> rw [p1, p2, p3, p4]
  · have e1 : (cn pA w + cn pB w + 1) * (cn pA w + cn pB w + 1 + (cn pG w + cn pD w) - 1) = (cn pA w + cn pB w) * (cn pA w + cn pB w + (cn pG w + cn pD w) - 1) + (2 * (cn pA w + cn pB w) + (cn pG w + cn pD w)) := by
      grind
    rw [e1]
    omega
  · have e1 : (cn pA w + cn pB w) * (cn pA w + cn pB w + (cn pG w + cn pD w + 1) - 1) = (cn pA w + cn pB w) * (cn pA w + cn pB w + (cn pG w + cn pD w) - 1) + (cn pA w + cn pB w) := by
      grind
    rw [e1]
    omega
  · omega
theorem map_split {l₁ l₂ : List Int} {z : ZL} (h : z.map Prod.fst = l₁ ++ l₂) : ∃ z₁ z₂, z = z₁ ++ z₂ ∧ z₁.map Prod.fst = l₁ ∧ z₂.map Prod.fst = l₂ := by
  induction l₁ generalizing z with
  | nil => exact ⟨[], z, rfl, rfl, by simpa using h⟩
  | cons x l₁ ih =>
    obtain _ | ⟨q, z⟩ := z
    · simp at h
    · simp only [List.map_cons, List.cons_append, List.cons.injEq] at h
      obtain ⟨z₁, z₂, rfl, h1, h2⟩ := ih h.2
      exact ⟨q :: z₁, z₂, rfl, by simp [h.1, h1], h2⟩
def wOf (zA zR : ZL) : ZB := zA.map (fun p => (p.1 + 1, true, p.2)) ++ zR.map fun p => (p.1, false, p.2)
theorem red_wOf (zA zR : ZL) : red (wOf zA zR) = zA ++ zR := by
  unfold red wOf
  rw [List.map_append, List.map_map, List.map_map]
  congr 1
  · conv => rhs; rw [← List.map_id zA]
    refine List.map_congr_left fun p _ => ?_
    simp
  · conv => rhs; rw [← List.map_id zR]
    refine List.map_congr_left fun p _ => ?_
    simp
theorem zmap_fst (f : Bool → Cl → Cl) (w : ZB) : (zmap f w).map Prod.fst = w.map Prod.fst := by
  unfold zmap
  rw [List.map_map]
  rfl
theorem wOf_fst (zA zR : ZL) : (wOf zA zR).map Prod.fst = (zA.map Prod.fst).map (fun x => x + 1) ++ zR.map Prod.fst := by
  unfold wOf
  rw [List.map_append, List.map_map, List.map_map, List.map_map]
  rfl
theorem cn_wOf (zA zR : ZL) : cn pB (wOf zA zR) + cn pD (wOf zA zR) + cn pE (wOf zA zR) = zA.length := by
  rw [cn_true]
  unfold wOf
  have h1 : (zA.map (fun p => (p.1 + 1, true, p.2)) : ZB).filter (fun p => p.2.1) = zA.map (fun p => (p.1 + 1, true, p.2)) := List.filter_eq_self.mpr fun p hp => by
    obtain ⟨q, _, rfl⟩ := List.mem_map.mp hp
    rfl
  have h2 : (zR.map (fun p => (p.1, false, p.2)) : ZB).filter (fun p => p.2.1) = [] := List.filter_eq_nil_iff.mpr fun p hp => by
    obtain ⟨q, _, rfl⟩ := List.mem_map.mp hp
    simp
  rw [List.filter_append, h1, h2]
  simp
/-- one step of Havel and Hakimi -/
theorem hh_step {a : Int} {A R : List Int} (hA : (A.length : Int) = a) (hAR : ∀ x ∈ A, ∀ y ∈ R, y ≤ x) (hmA : ∀ x ∈ A, x ≤ a) (hmR : ∀ y ∈ R, y ≤ a) (hpA : ∀ x ∈ A, 1 ≤ x) (hpR : ∀ y ∈ R, 0 ≤ y)
    (hev : ∃ j : Int, a + A.sum + R.sum = 2 * j) : Kor (a :: (A ++ R)) ↔ Kor (A.map (fun x => x - 1) ++ R) := by
  have incdec : ∀ l : List Int, (l.map fun x => x - 1).map (fun x => x + 1) = l := fun l => by
    rw [List.map_map]
    conv => rhs; rw [← List.map_id l]
    exact List.map_congr_left fun x _ => by simp
  have sumdec : ∀ l : List Int, (l.map fun x => x - 1).sum = l.sum - l.length := fun l => by
    induction l with
    | nil => simp
    | cons x l ih => simp only [List.map_cons, List.sum_cons, List.length_cons, ih]; omega
  constructor
  · intro h
    refine stab fun z hz hs => ?_
    obtain ⟨zA, zR, rfl, h1, h2⟩ := map_split hz
    have hred := red_wOf zA zR
    have hfst := wOf_fst zA zR
    rw [h1, h2, incdec] at hfst
    have hmem : ∀ x b c, (x, b, c) ∈ wOf zA zR → (b = true → x ∈ A) ∧ (b = false → x ∈ R) := by
      intro x b c hm
      unfold wOf at hm
      rcases List.mem_append.mp hm with hm | hm
      · obtain ⟨p, hp, e⟩ := List.mem_map.mp hm
        cases e
        refine ⟨fun _ => ?_, fun q => by cases q⟩
        rw [← incdec A, ← h1]
        exact List.mem_map_of_mem (f := fun x => x + 1) (List.mem_map_of_mem (f := Prod.fst) hp)
      · obtain ⟨p, hp, e⟩ := List.mem_map.mp hm
        cases e
        refine ⟨(fun q => by cases q), fun _ => ?_⟩
        rw [← h2]
        exact List.mem_map_of_mem (f := Prod.fst) hp
    rw [← hred] at hs ⊢
    refine hh_fwd (a := a) ?_ ?_ ?_ ?_ ?_ ?_ hs
    · obtain ⟨j, hj⟩ := hev
      refine ⟨j - a, ?_⟩
      rw [hred, List.map_append, h1, h2, List.sum_append, sumdec]
      omega
    · intro f v
      refine h _ ?_
      rw [List.map_cons, zmap_fst, hfst]
    · rw [cn_wOf, ← hA]
      have : zA.length = A.length := by
        have := congrArg List.length h1
        simpa using this
      rw [this]
    · intro x c y c' hx hy
      exact hAR x ((hmem x true c hx).1 rfl) y ((hmem y false c' hy).2 rfl)
    · intro x b c hm
      cases b
      · exact hmR x ((hmem x false c hm).2 rfl)
      · exact hmA x ((hmem x true c hm).1 rfl)
    · intro x b c hm
      cases b
      · have := hpR x ((hmem x false c hm).2 rfl)
        simpa using this
      · have := hpA x ((hmem x true c hm).1 rfl)
        simp
        omega
  · intro h z hz
    obtain _ | ⟨⟨x, v⟩, z⟩ := z
    · simp at hz
    · simp only [List.map_cons, List.cons.injEq] at hz
      obtain ⟨rfl, hz⟩ := hz
      obtain ⟨zA, zR, rfl, h1, h2⟩ := map_split hz
      have key := hh_bwd (a := x) (w := wOf (zA.map fun p => (p.1 - 1, p.2)) zR) ?_ ?_ v
      · have e : zmap f1 (wOf (zA.map fun p => (p.1 - 1, p.2)) zR) = zA ++ zR := by
          unfold zmap wOf
          rw [List.map_append, List.map_map, List.map_map, List.map_map]
          congr 1
          · conv => rhs; rw [← List.map_id zA]
            refine List.map_congr_left fun p _ => ?_
            simp [f1]
          · conv => rhs; rw [← List.map_id zR]
            refine List.map_congr_left fun p _ => ?_
            simp [f1]
        rw [e] at key
        exact key
      · rw [cn_wOf, ← hA]
        have : zA.length = A.length := by
          have := congrArg List.length h1
          simpa using this
        simp [this]
      · rw [red_wOf]
        refine h _ ?_
        rw [List.map_append, h2, ← h1, List.map_map, List.map_map]
        rfl

/-- by two bounds -/
def cGe (q : Int) : List Int → Int
  | [] => 0
  | x :: l => cGe q l + (if q ≤ x then 1 else 0)
def sGe (q : Int) : List Int → Int
  | [] => 0
  | x :: l => sGe q l + (if q ≤ x then x else 0)
def cLt (k : Int) : List Int → Int
  | [] => 0
  | x :: l => cLt k l + (if x < k then 1 else 0)
def sLt (k : Int) : List Int → Int
  | [] => 0
  | x :: l => sLt k l + (if x < k then x else 0)
def Teg (l : List Int) : Prop := ∀ k q : Int, k ≤ q → cGe q l = k → sGe q l - sLt k l ≤ k * (l.length - 1 - cLt k l)
theorem by_bounds (k q : Int) (hkq : k ≤ q) (z : ZL) (h : ∀ x c, (x, c) ∈ z → match c with | .S => q ≤ x | .T => k ≤ x ∧ x < q | .U => x < k) :
    kS z = cGe q (z.map Prod.fst) ∧ kU z = cLt k (z.map Prod.fst) ∧ sS z = sGe q (z.map Prod.fst) ∧ sU z = sLt k (z.map Prod.fst) := by
  induction z with
  | nil => exact ⟨rfl, rfl, rfl, rfl⟩
  | cons p z ih =>
    obtain ⟨x, c⟩ := p
    obtain ⟨h1, h2, h3, h4⟩ := ih fun y d hm => h y d (.tail _ hm)
    have hx := h x c (.head _)
    cases c <;> simp only at hx
    · simp only [kS, kU, sS, sU, List.map_cons, cGe, cLt, sGe, sLt, h1, h2, h3, h4]
      simp [hx, show ¬ x < k by omega]
    · simp only [kS, kU, sS, sU, List.map_cons, cGe, cLt, sGe, sLt, h1, h2, h3, h4]
      simp [show ¬ q ≤ x by omega, show ¬ x < k by omega]
    · simp only [kS, kU, sS, sU, List.map_cons, cGe, cLt, sGe, sLt, h1, h2, h3, h4]
      simp [show ¬ q ≤ x by omega, hx]
theorem kor_of_teg {l : List Int} (h : Teg l) : Kor l := by
  refine stab fun z hz hs => ?_
  have hk := kT_nn z
  obtain ⟨h1, h2, h3, h4⟩ := by_bounds (kS z) (kS z + kT z) (by omega) z hs
  rw [hz] at h1 h2 h3 h4
  have hl := k_len z
  have hlen : (z.length : Int) = l.length := by rw [← hz, List.length_map]
  have := h (kS z) (kS z + kT z) (by omega) h1.symm
  unfold Xc
  rw [h3, h4]
  have e : (l.length : Int) - 1 - cLt (kS z) l = kS z + kT z - 1 := by omega
  rw [e] at this
  omega
theorem teg_of_kor {l : List Int} (h : Kor l) : Teg l := by
  intro k q hkq hc
  have hz : ((l.map fun x => (x, if q ≤ x then Cl.S else if x < k then .U else .T)) : ZL).map Prod.fst = l := by
    rw [List.map_map]
    conv => rhs; rw [← List.map_id l]
    exact List.map_congr_left fun x _ => rfl
  have hx := h _ hz
  obtain ⟨h1, h2, h3, h4⟩ := by_bounds k q hkq _ (fun x c hm => by
    obtain ⟨y, hy, e⟩ := List.mem_map.mp hm
    cases e
    by_cases c1 : q ≤ x
    · simp [c1]
    · by_cases c2 : x < k
      · simp [c1, c2]
      · simp [c1, c2]; omega : ∀ x c, (x, c) ∈ ((l.map fun x => (x, if q ≤ x then Cl.S else if x < k then .U else .T)) : ZL) → _)
  rw [hz] at h1 h2 h3 h4
  have hl := k_len ((l.map fun x => (x, if q ≤ x then Cl.S else if x < k then .U else .T)) : ZL)
  rw [List.length_map] at hl
  unfold Xc at hx
  rw [h3, h4, h1, hc] at hx
  rw [h1, hc, h2] at hl
  have e : (l.length : Int) - 1 - cLt k l = k + kT ((l.map fun x => (x, if q ≤ x then Cl.S else if x < k then .U else .T)) : ZL) - 1 := by omega
  rw [e]
  omega
end Mine

set_option autoImplicit false
namespace Mine
/-- the law's own test at k -/
def okk (line : List Int) (k : Int) : Prop := ¬ (k * (k - 1) + ((line.drop k.toNat).map fun x => if k < x then k else x).sum < (line.take k.toNat).sum)
theorem cGe_app (q : Int) (a b : List Int) : cGe q (a ++ b) = cGe q a + cGe q b := by
  induction a with
  | nil => simp [cGe]
  | cons x a ih => simp only [List.cons_append, cGe, ih]; omega
theorem sGe_app (q : Int) (a b : List Int) : sGe q (a ++ b) = sGe q a + sGe q b := by
  induction a with
  | nil => simp [sGe]
  | cons x a ih => simp only [List.cons_append, sGe, ih]; omega
theorem cLt_app (q : Int) (a b : List Int) : cLt q (a ++ b) = cLt q a + cLt q b := by
  induction a with
  | nil => simp [cLt]
  | cons x a ih => simp only [List.cons_append, cLt, ih]; omega
theorem sLt_app (q : Int) (a b : List Int) : sLt q (a ++ b) = sLt q a + sLt q b := by
  induction a with
  | nil => simp [sLt]
  | cons x a ih => simp only [List.cons_append, sLt, ih]; omega
theorem ge_all {q : Int} {l : List Int} (h : ∀ x ∈ l, q ≤ x) : cGe q l = l.length ∧ sGe q l = l.sum := by
  induction l with
  | nil => exact ⟨rfl, rfl⟩
  | cons x l ih =>
    obtain ⟨a, b⟩ := ih fun y hy => h y (.tail _ hy)
    have := h x (.head _)
    simp only [cGe, sGe, a, b, List.length_cons, List.sum_cons, if_pos this]
    omega
theorem ge_none {q : Int} {l : List Int} (h : ∀ x ∈ l, x < q) : cGe q l = 0 ∧ sGe q l = 0 := by
  induction l with
  | nil => exact ⟨rfl, rfl⟩
  | cons x l ih =>
    obtain ⟨a, b⟩ := ih fun y hy => h y (.tail _ hy)
    have := h x (.head _)
    simp only [cGe, sGe, a, b, if_neg (show ¬ q ≤ x by omega)]
    omega
theorem lt_none {k : Int} {l : List Int} (h : ∀ x ∈ l, k ≤ x) : cLt k l = 0 ∧ sLt k l = 0 := by
  induction l with
  | nil => exact ⟨rfl, rfl⟩
  | cons x l ih =>
    obtain ⟨a, b⟩ := ih fun y hy => h y (.tail _ hy)
    have := h x (.head _)
    simp only [cLt, sLt, a, b, if_neg (show ¬ x < k by omega)]
    omega
theorem cGe_nn (q : Int) (l : List Int) : 0 ≤ cGe q l := by
  induction l with
  | nil => simp [cGe]
  | cons x l ih => simp only [cGe]; split <;> omega
theorem cGe_le (q : Int) (l : List Int) : cGe q l ≤ l.length := by
  induction l with
  | nil => simp [cGe]
  | cons x l ih => simp only [cGe, List.length_cons]; split <;> omega
/-- the others, each at most k -/
theorem min_sum (k : Int) (l : List Int) : (l.map fun x => if k < x then k else x).sum = sLt k l + k * (l.length - cLt k l) := by
  induction l with
  | nil => simp [sLt, cLt]
  | cons x l ih =>
    simp only [List.map_cons, List.sum_cons, ih, sLt, cLt, List.length_cons]
    by_cases h : x < k
    · rw [if_pos h, if_pos h, if_neg (by omega)]
      have : ((l.length + 1 : Nat) : Int) - (cLt k l + 1) = l.length - cLt k l := by omega
      rw [this]; omega
    · rw [if_neg h, if_neg h]
      have : ((l.length + 1 : Nat) : Int) - (cLt k l + 0) = (l.length - cLt k l) + 1 := by omega
      rw [this, Int.mul_add, Int.mul_one]
      split <;> omega
theorem desc_cut {q : Int} : ∀ {l : List Int}, l.Pairwise (fun a b => b ≤ a) → (∀ x ∈ l.take (cGe q l).toNat, q ≤ x) ∧ ∀ x ∈ l.drop (cGe q l).toNat, x < q
  | [], _ => by simp
  | x :: l, h => by
    obtain ⟨h1, h2⟩ := List.pairwise_cons.mp h
    have nn := cGe_nn q l
    by_cases hx : q ≤ x
    · have e : (cGe q (x :: l)).toNat = (cGe q l).toNat + 1 := by simp only [cGe, if_pos hx]; omega
      obtain ⟨a, b⟩ := desc_cut h2
      rw [e]
      refine ⟨fun y hy => ?_, fun y hy => ?_⟩
      · rw [List.take_succ_cons] at hy
        rcases List.mem_cons.mp hy with rfl | hy
        · exact hx
        · exact a y hy
      · rw [List.drop_succ_cons] at hy
        exact b y hy
    · have hn : ∀ y ∈ x :: l, y < q := fun y hy => by
        rcases List.mem_cons.mp hy with rfl | hy
        · omega
        · have := h1 y hy; omega
      rw [(ge_none hn).1]
      exact ⟨by simp, by simpa using hn⟩
def sMap (l : List Int) : ZL := l.map fun x => (x, .S)
def tuMap (k : Int) (l : List Int) : ZL := l.map fun x => (x, if x < k then .U else .T)
theorem sMap_k (l : List Int) : kS (sMap l) = l.length ∧ kT (sMap l) = 0 ∧ sS (sMap l) = l.sum ∧ sU (sMap l) = 0 := by
  induction l with
  | nil => exact ⟨rfl, rfl, rfl, rfl⟩
  | cons x l ih =>
    obtain ⟨a, b, c, d⟩ := ih
    have e : sMap (x :: l) = (x, .S) :: sMap l := rfl
    rw [e]
    simp only [kS, kT, sS, sU, a, b, c, d, List.length_cons, List.sum_cons]
    refine ⟨?_, ?_, ?_, ?_⟩ <;> first | trivial | omega
theorem tuMap_k (k : Int) (l : List Int) : kS (tuMap k l) = 0 ∧ kT (tuMap k l) = l.length - cLt k l ∧ sS (tuMap k l) = 0 ∧ sU (tuMap k l) = sLt k l := by
  induction l with
  | nil => exact ⟨rfl, rfl, rfl, rfl⟩
  | cons x l ih =>
    obtain ⟨a, b, c, d⟩ := ih
    have e : tuMap k (x :: l) = (x, if x < k then .U else .T) :: tuMap k l := rfl
    rw [e]
    by_cases h : x < k
    · simp only [if_pos h, kS, kT, sS, sU, a, b, c, d, cLt, sLt, List.length_cons]
      refine ⟨?_, ?_, ?_, ?_⟩ <;> first | trivial | omega
    · simp only [if_neg h, kS, kT, sS, sU, a, b, c, d, cLt, sLt, List.length_cons]
      refine ⟨?_, ?_, ?_, ?_⟩ <;> first | trivial | omega
theorem okk_of_kor {line : List Int} (h : Kor line) (k : Int) (h1 : 1 ≤ k) (h2 : k ≤ line.length) : okk line k := by
  have hz : (sMap (line.take k.toNat) ++ tuMap k (line.drop k.toNat)).map Prod.fst = line := by
    unfold sMap tuMap
    rw [List.map_append, List.map_map, List.map_map]
    have e1 : ∀ l : List Int, l.map (Prod.fst ∘ fun x => (x, Cl.S)) = l := fun l => by
      conv => rhs; rw [← List.map_id l]
      rfl
    have e2 : ∀ l : List Int, l.map (Prod.fst ∘ fun x => (x, if x < k then Cl.U else Cl.T)) = l := fun l => by
      conv => rhs; rw [← List.map_id l]
      rfl
    rw [e1, e2, List.take_append_drop]
  have hx := h _ hz
  obtain ⟨a1, a2, a3, a4⟩ := sMap_k (line.take k.toNat)
  obtain ⟨b1, b2, b3, b4⟩ := tuMap_k k (line.drop k.toNat)
  unfold Xc at hx
  rw [kS_app, kT_app, sS_app, sU_app, a1, a2, a3, a4, b1, b2, b3, b4] at hx
  have hl : ((line.take k.toNat).length : Int) = k := by rw [List.length_take]; omega
  rw [hl] at hx
  unfold okk
  rw [min_sum]
  have e : (k + 0) * (k + 0 + (0 + (((line.drop k.toNat).length : Int) - cLt k (line.drop k.toNat))) - 1) = k * (k - 1) + k * (((line.drop k.toNat).length : Int) - cLt k (line.drop k.toNat)) := by
    grind
  rw [e] at hx
  omega
theorem kor_of_okk {line : List Int} (hs : line.Pairwise fun a b => b ≤ a) (hn : ∀ x ∈ line, 0 ≤ x) (h : ∀ k : Int, 1 ≤ k → k ≤ line.length → okk line k) : Kor line := by
  refine kor_of_teg fun k q hkq hc => ?_
  have nn := cGe_nn q line
  have le := cGe_le q line
  obtain ⟨c1, c2⟩ := desc_cut (q := q) hs
  rw [hc] at c1 c2
  have ta := ge_all c1
  have da := ge_none c2
  have e := List.take_append_drop k.toNat line
  have s1 : sGe q line = (line.take k.toNat).sum := by
    conv => lhs; rw [← e]
    rw [sGe_app, ta.2, da.2]; omega
  have tl := lt_none (k := k) (l := line.take k.toNat) fun x hx => by have := c1 x hx; omega
  have s2 : sLt k line = sLt k (line.drop k.toNat) := by
    conv => lhs; rw [← e]
    rw [sLt_app, tl.2]; omega
  have s3 : cLt k line = cLt k (line.drop k.toNat) := by
    conv => lhs; rw [← e]
    rw [cLt_app, tl.1]; omega
  by_cases hk : 1 ≤ k
  · have := h k hk (by omega)
    unfold okk at this
    rw [min_sum] at this
    rw [s1, s2, s3]
    have hl : ((line.drop k.toNat).length : Int) = line.length - k := by rw [List.length_drop]; omega
    rw [hl] at this
    have e2 : k * ((line.length : Int) - 1 - cLt k (line.drop k.toNat)) = k * (k - 1) + k * ((line.length : Int) - k - cLt k (line.drop k.toNat)) := by grind
    rw [e2]
    omega
  · have hk0 : k = 0 := by omega
    subst hk0
    have l0 := lt_none (k := 0) (l := line) hn
    rw [s1, l0.2]
    simp
theorem due_kor {ns n : List Int} (hp : n.Perm ns) (ho : n.Pairwise fun a b => a ≤ b) (hn : ∀ x ∈ ns, 0 ≤ x) : (∀ j : Nat, 1 ≤ j → j ≤ n.length → okk n.reverse j) ↔ Kor ns := by
  have hr : n.reverse.Perm ns := (List.reverse_perm n).trans hp
  constructor
  · intro h
    refine Kor.perm (kor_of_okk (List.pairwise_reverse.mpr ho) (fun x hx => hn x (hr.mem_iff.mp hx)) fun k h1 h2 => ?_) hr
    rw [List.length_reverse] at h2
    have := h k.toNat (by omega) (by omega)
    have e : ((k.toNat : Nat) : Int) = k := by omega
    rw [e] at this
    exact this
  · intro h j h1 h2
    exact okk_of_kor (h.perm hr.symm) j (by omega) (by rw [List.length_reverse]; omega)
/-- what the law asks -/
def Due (ns : List Int) : Prop := (∀ x ∈ ns, 0 ≤ x) ∧ Int.fmod ns.sum 2 ≠ 1 ∧ Kor ns
theorem none_neg {ns : List Int} : (ns.filter fun a => decide (a < 0)).map (fun a => a) = [] ↔ ∀ x ∈ ns, 0 ≤ x := by
  rw [List.map_eq_nil_iff, List.filter_eq_nil_iff]
  constructor
  · intro h x hx
    have := h x hx
    simp at this
    exact this
  · intro h x hx
    have := h x hx
    simp
    exact this
theorem due_f1 {ns : List Int} {b : Bool} (hb : b = false) (h : Int.fmod ns.sum 2 = 1) : b = true ↔ Due ns := by
  subst hb
  exact ⟨fun q => (by cases q), fun q => absurd h q.2.1⟩
theorem due_f2 {ns : List Int} {b : Bool} (hb : b = false) (h : decide ((ns.filter fun a => decide (a < 0)).map (fun a => a) = []) = false) : b = true ↔ Due ns := by
  subst hb
  exact ⟨fun q => (by cases q), fun q => absurd (none_neg.mpr q.1) (of_decide_eq_false h)⟩
theorem due_f3 {ns n : List Int} {b : Bool} (hb : b = false) (hp : n.Perm ns) (ho : n.Pairwise fun a b => a ≤ b) {k : Int} {i : Nat} (hk : k = 1 + (i : Int)) (hi : i < n.length)
    (h : k * (k - 1) + ((n.reverse.drop k.toNat).map fun x => if k < x then k else x).sum < (n.reverse.take k.toNat).sum) : b = true ↔ Due ns := by
  subst hb
  refine ⟨fun q => (by cases q), fun q => ?_⟩
  have := (due_kor hp ho q.1).mpr q.2.2 (i + 1) (by omega) (by omega)
  have e : ((i + 1 : Nat) : Int) = k := by omega
  rw [e] at this
  exact absurd h this
theorem due_t {ns n : List Int} {b : Bool} (hb : b = true) (hp : n.Perm ns) (ho : n.Pairwise fun a b => a ≤ b) (h1 : decide ((ns.filter fun a => decide (a < 0)).map (fun a => a) = []) = true)
    (h2 : Int.fmod ns.sum 2 ≠ 1) (h : ∀ j : Nat, 1 ≤ j → j ≤ n.length → okk n.reverse j) : b = true ↔ Due ns := by
  have hn := none_neg.mp (of_decide_eq_true h1)
  exact ⟨fun _ => ⟨hn, h2, (due_kor hp ho hn).mp h⟩, fun _ => hb⟩
end Mine

set_option autoImplicit false
namespace Mine
/-- the sums that the loop keeps -/
def Tn (nd : List Int) : Nat → Int
  | 0 => 0
  | k + 1 => Tn nd k + nd.getD k 0
def Jn (nd : List Int) : Nat → Int
  | 0 => 0
  | k + 1 => Jn nd k + (k : Int) * nd.getD k 0
abbrev pos (ns : List Int) : List Int := ns.filter fun x => decide (0 < x)
theorem cLt_succ (k : Int) (l : List Int) : cLt (k + 1) l = cLt k l + (l.count k : Nat) := by
  induction l with
  | nil => simp [cLt]
  | cons x l ih =>
    simp only [cLt, ih, List.count_cons]
    by_cases h : x = k
    · subst h; simp; omega
    · simp [h]; split <;> split <;> omega
theorem sLt_succ (k : Int) (l : List Int) : sLt (k + 1) l = sLt k l + k * (l.count k : Nat) := by
  induction l with
  | nil => simp [sLt]
  | cons x l ih =>
    simp only [sLt, ih, List.count_cons]
    by_cases h : x = k
    · subst h
      simp only [beq_self_eq_true, if_true]
      rw [if_pos (by omega), if_neg (by omega), Int.natCast_add, Int.mul_add]
      omega
    · have : (x == k) = false := by simpa using h
      simp only [this, Bool.false_eq_true, if_false]
      rw [Nat.add_zero]
      split <;> split <;> omega
theorem cGe_succ (k : Int) (l : List Int) : cGe k l = cGe (k + 1) l + (l.count k : Nat) := by
  induction l with
  | nil => simp [cGe]
  | cons x l ih =>
    simp only [cGe, ih, List.count_cons]
    by_cases h : x = k
    · subst h; simp; omega
    · simp [h]; split <;> split <;> omega
theorem sGe_succ (k : Int) (l : List Int) : sGe k l = sGe (k + 1) l + k * (l.count k : Nat) := by
  induction l with
  | nil => simp [sGe]
  | cons x l ih =>
    simp only [sGe, ih, List.count_cons]
    by_cases h : x = k
    · subst h
      simp only [beq_self_eq_true, if_true]
      rw [if_pos (Int.le_refl _), if_neg (by omega), Int.natCast_add, Int.mul_add]
      omega
    · have : (x == k) = false := by simpa using h
      simp only [this, Bool.false_eq_true, if_false]
      rw [Nat.add_zero]
      split <;> split <;> omega
theorem cGe_anti {a b : Int} (h : a ≤ b) (l : List Int) : cGe b l ≤ cGe a l := by
  induction l with
  | nil => simp [cGe]
  | cons x l ih => simp only [cGe]; split <;> split <;> omega
theorem c_split (k : Int) (l : List Int) : cGe k l + cLt k l = l.length := by
  induction l with
  | nil => simp [cGe, cLt]
  | cons x l ih => simp only [cGe, cLt, List.length_cons]; split <;> split <;> omega
theorem count_pos {ns : List Int} {k : Int} (hk : 0 < k) : (pos ns).count k = ns.count k := by
  unfold pos
  rw [List.count_filter]
  simpa using hk
theorem count_pos0 {ns : List Int} {k : Int} (hk : k ≤ 0) : (pos ns).count k = 0 := by
  rw [List.count_eq_zero]
  intro h
  have := (List.mem_filter.mp h).2
  simp at this
  omega
section
variable {p dmax dmin dsum n : Int} {ns nd : List Int}
theorem BInv.getD (h : BInv p ns dmax dmin dsum n nd) (j : Nat) (hj : (j : Int) < p) : nd.getD j 0 = ((pos ns).count (j : Int) : Nat) := by
  rw [List.getD_eq_getElem?_getD]
  by_cases h0 : j = 0
  · subst h0
    rw [h.tab0 (by omega), count_pos0 (by simp)]
    rfl
  · rw [h.tab j (by omega) hj, count_pos (by omega)]
    rfl
theorem lt0 : cLt 0 (pos ns) = 0 ∧ sLt 0 (pos ns) = 0 := lt_none fun x hx => by
  have := (List.mem_filter.mp hx).2
  simp at this
  omega
theorem BInv.tj (h : BInv p ns dmax dmin dsum n nd) : ∀ k : Nat, (k : Int) ≤ p → Tn nd k = cLt k (pos ns) ∧ Jn nd k = sLt k (pos ns)
  | 0, _ => ⟨(lt0).1.symm, (lt0).2.symm⟩
  | k + 1, hk => by
    obtain ⟨a, b⟩ := h.tj k (by omega)
    have e : ((k + 1 : Nat) : Int) = (k : Int) + 1 := by omega
    simp only [Tn, Jn]
    rw [a, b, h.getD k (by omega), e, cLt_succ, sLt_succ]
    exact ⟨rfl, rfl⟩
theorem BInv.len (h : BInv p ns dmax dmin dsum n nd) : n = ((pos ns).length : Nat) := by
  rw [h.cnt, List.countP_eq_length_filter]
theorem BInv.nn (h : BInv p ns dmax dmin dsum n nd) : ∀ x ∈ ns, 0 ≤ x := fun x hx => (h.rng x hx).1
theorem pos_sum {l : List Int} (h : ∀ x ∈ l, 0 ≤ x) : (pos l).sum = l.sum := by
  induction l with
  | nil => rfl
  | cons x l ih =>
    have hx := h x (.head _)
    have ih := ih fun y hy => h y (.tail _ hy)
    unfold pos at ih ⊢
    by_cases h0 : 0 < x
    · rw [List.filter_cons_of_pos (by simpa using h0), List.sum_cons, List.sum_cons, ih]
    · rw [List.filter_cons_of_neg (by simpa using h0), List.sum_cons, ih]; omega
end

/-- the test of the loop -/
def Chk (n : Int) (P : List Int) (c s : Int) : Prop := s ≤ c * (n - 1) - c * cLt c P + sLt c P
structure EInv (P nd : List Int) (n q k sd nj jnj : Int) : Prop where
  k0 : 0 ≤ k
  kq : k ≤ q + 1
  hnj : nj = Tn nd k.toNat
  hjnj : jnj = Jn nd k.toNat
  ex : (k = cGe (q + 1) P ∧ sd = sGe (q + 1) P) ∨ (k = q + 1 ∧ q + 1 < cGe (q + 1) P)
  ok : ∀ q', q < q' → cGe q' P ≤ q' → Chk n P (cGe q' P) (sGe q' P)

theorem kor_chk {P : List Int} {n : Int} (hn : n = (P.length : Nat)) (h : ∀ q', cGe q' P ≤ q' → Chk n P (cGe q' P) (sGe q' P)) : Kor P := by
  refine kor_of_teg fun k q hkq hc => ?_
  have := h q (by omega)
  unfold Chk at this
  rw [hc] at this
  have e : k * ((P.length : Int) - 1 - cLt k P) = k * (n - 1) - k * cLt k P := by rw [hn]; grind
  omega
section
variable {p dmax dmin dsum n : Int} {ns nd : List Int}
theorem sGe_le {q : Int} {l : List Int} {d : Int} (h : ∀ x ∈ l, x ≤ d) : sGe q l ≤ cGe q l * d := by
  induction l with
  | nil => simp [sGe, cGe]
  | cons x l ih =>
    have := ih fun y hy => h y (.tail _ hy)
    have hx := h x (.head _)
    simp only [sGe, cGe]
    split
    · rw [Int.add_mul]; omega
    · simpa using this
theorem sLt_ge {k : Int} {l : List Int} {d : Int} (h : ∀ x ∈ l, d ≤ x) : cLt k l * d ≤ sLt k l := by
  induction l with
  | nil => simp [sLt, cLt]
  | cons x l ih =>
    have := ih fun y hy => h y (.tail _ hy)
    have hx := h x (.head _)
    simp only [sLt, cLt]
    split
    · rw [Int.add_mul]; omega
    · simpa using this
theorem BInv.posmem (h : BInv p ns dmax dmin dsum n nd) {x : Int} (hx : x ∈ pos ns) : 0 < x ∧ x ≤ dmax ∧ dmin ≤ x := by
  obtain ⟨a, b⟩ := List.mem_filter.mp hx
  have b : 0 < x := by simpa using b
  exact ⟨b, h.mx x a, h.mn x a b⟩
theorem sum_ge_len {l : List Int} {d : Int} (h : ∀ x ∈ l, d ≤ x) : (l.length : Int) * d ≤ l.sum := by
  induction l with
  | nil => simp
  | cons x l ih =>
    have := ih fun y hy => h y (.tail _ hy)
    have hx := h x (.head _)
    rw [List.length_cons, List.sum_cons]
    have e : ((l.length + 1 : Nat) : Int) * d = (l.length : Int) * d + d := by rw [Int.natCast_add, Int.add_mul]; simp
    omega
theorem e_start (h : BInv p ns dmax dmin dsum n nd) : EInv (pos ns) nd n dmax 0 0 0 0 := by
  have g : ∀ q', dmax < q' → cGe q' (pos ns) = 0 ∧ sGe q' (pos ns) = 0 := fun q' hq => ge_none fun x hx => by
    have := h.posmem hx; omega
  have d0 : 0 ≤ dmax := by
    by_cases hn : n = 0
    · have := (h.nil hn).1; omega
    · have hc := h.cnt
      have := (h.wit (by omega)).2.1; omega
  refine ⟨Int.le_refl _, by omega, rfl, rfl, .inl ?_, fun q' hq _ => ?_⟩
  · obtain ⟨a, b⟩ := g (dmax + 1) (by omega)
    exact ⟨a.symm, b.symm⟩
  · obtain ⟨a, b⟩ := g q' hq
    rw [a, b]
    unfold Chk
    rw [(lt0 (ns := ns)).2]
    simp
theorem e_kor (h : BInv p ns dmax dmin dsum n nd) (hk : ∀ q', cGe q' (pos ns) ≤ q' → Chk n (pos ns) (cGe q' (pos ns)) (sGe q' (pos ns))) : Kor ns :=
  (kor_pos h.nn).mpr (kor_chk h.len hk)
theorem chk_zero : Chk n (pos ns) 0 0 := by
  unfold Chk
  rw [(lt0 (ns := ns)).2]
  simp
/-- the loop leaves early -/
theorem e_ret {q k sd nj jnj : Int} (h : BInv p ns dmax dmin dsum n nd) (e : EInv (pos ns) nd n q k sd nj jnj) (hq : q < k + 1) : Kor ns := by
  refine e_kor h fun q' hc => ?_
  by_cases hlt : q < q'
  · exact e.ok q' hlt hc
  · have an := cGe_anti (show q' ≤ q + 1 by omega) (pos ns)
    have k0 := e.k0
    rcases e.ex with ⟨a, b⟩ | ⟨a, b⟩
    · have heq : q' = k := by omega
      have hq1 : q = k := by omega
      subst heq hq1
      have : cGe (q + 1) (pos ns) = cGe q (pos ns) := by omega
      have hs := cGe_succ q (pos ns)
      have hz : (((pos ns).count q : Nat) : Int) = 0 := by omega
      have h2 := sGe_succ q (pos ns)
      rw [hz] at h2
      have h3 : sGe q (pos ns) = sGe (q + 1) (pos ns) := by omega
      rw [h3, ← this]
      exact e.ok (q + 1) (by omega) (by omega)
    · omega
/-- the loop has run out -/
theorem e_end {k sd nj jnj : Int} (h : BInv p ns dmax dmin dsum n nd) (hn : n ≠ 0) (hm : dsum ≤ n * (n - 1)) (e : EInv (pos ns) nd n (dmin - 1) k sd nj jnj) : Kor ns := by
  refine e_kor h fun q' hc => ?_
  by_cases hlt : dmin - 1 < q'
  · exact e.ok q' hlt hc
  · have all := ge_all (q := q') (l := pos ns) fun x hx => by have := h.posmem hx; omega
    have hl := h.len
    rw [all.1] at hc
    have s1 := sum_ge_len (d := dmin) (l := pos ns) fun x hx => (h.posmem hx).2.2
    rw [pos_sum h.nn, ← h.sum, ← hl] at s1
    have c0 : 0 < n := by omega
    have : n * (n - 1) < n * dmin := Int.mul_lt_mul_of_pos_left (by omega) c0
    omega
/-- no entry is as great as this -/
theorem e_skip {q k sd nj jnj : Int} (h : BInv p ns dmax dmin dsum n nd) (e : EInv (pos ns) nd n q k sd nj jnj) (hq0 : 0 ≤ q) (hqp : q < p) (hq : ¬ q < k + 1) (hz : ¬ 0 < nd.getD q.toNat 0) : EInv (pos ns) nd n (q - 1) k sd nj jnj := by
  have hg := h.getD q.toNat (by omega)
  have eq : ((q.toNat : Nat) : Int) = q := by omega
  rw [eq] at hg
  rw [hg] at hz
  have hc : (((pos ns).count q : Nat) : Int) = 0 := by omega
  have h1 := cGe_succ q (pos ns)
  have h2 := sGe_succ q (pos ns)
  rw [hc] at h1 h2
  have h1' : cGe q (pos ns) = cGe (q + 1) (pos ns) := by omega
  have h2' : sGe q (pos ns) = sGe (q + 1) (pos ns) := by omega
  have e1 : q - 1 + 1 = q := by omega
  refine ⟨e.k0, by omega, e.hnj, e.hjnj, ?_, fun q' hq' hc' => ?_⟩
  · rw [e1, h1', h2']
    rcases e.ex with a | ⟨a, b⟩
    · exact .inl a
    · omega
  · by_cases hlt : q < q'
    · exact e.ok q' hlt hc'
    · have : q' = q := by omega
      subst this
      rw [h1', h2']
      exact e.ok _ (by omega) (by omega)
/-- the marks of the first k' -/
def mk (q kk : Int) : Nat → List Int → ZL
  | _, [] => []
  | r, x :: l => if q < x then (x, .S) :: mk q kk r l else if x = q then (match r with | 0 => (x, .T) :: mk q kk 0 l | r + 1 => (x, .S) :: mk q kk r l) else if x < kk then (x, .U) :: mk q kk r l else (x, .T) :: mk q kk r l
theorem mk_fst (q kk : Int) : ∀ (l : List Int) (r : Nat), (mk q kk r l).map Prod.fst = l
  | [], r => by cases r <;> rfl
  | x :: l, r => by
    unfold mk
    split
    · simp [mk_fst q kk l]
    · split
      · cases r <;> simp [mk_fst q kk l]
      · split <;> simp [mk_fst q kk l]
theorem mk_k (q kk : Int) (hq : kk ≤ q) : ∀ (l : List Int) (r : Nat), r ≤ l.count q → kS (mk q kk r l) = cGe (q + 1) l + r ∧ sS (mk q kk r l) = sGe (q + 1) l + r * q ∧ kU (mk q kk r l) = cLt kk l ∧ sU (mk q kk r l) = sLt kk l
  | [], r, h => by
    have : r = 0 := by simpa using h
    subst this
    simp [mk, kS, sS, kU, sU, cGe, sGe, cLt, sLt]
  | x :: l, r, h => by
    rw [List.count_cons] at h
    unfold mk
    by_cases h1 : q < x
    · have hne : (x == q) = false := by simp; omega
      rw [hne] at h
      obtain ⟨a, b, c, d⟩ := mk_k q kk hq l r (by simpa using h)
      simp only [if_pos h1, kS, sS, kU, sU, cGe, sGe, cLt, sLt, a, b, c, d]
      rw [if_pos (show q + 1 ≤ x by omega), if_pos (show q + 1 ≤ x by omega), if_neg (show ¬ x < kk by omega), if_neg (show ¬ x < kk by omega)]
      refine ⟨?_, ?_, ?_, ?_⟩ <;> omega
    · by_cases h2 : x = q
      · subst h2
        cases r with
        | zero =>
          obtain ⟨a, b, c, d⟩ := mk_k x kk hq l 0 (Nat.zero_le _)
          simp only [if_neg h1, if_true, kS, sS, kU, sU, cGe, sGe, cLt, sLt, a, b, c, d]
          rw [if_neg (show ¬ x + 1 ≤ x by omega), if_neg (show ¬ x + 1 ≤ x by omega), if_neg (show ¬ x < kk by omega), if_neg (show ¬ x < kk by omega)]
          refine ⟨?_, ?_, ?_, ?_⟩ <;> omega
        | succ r =>
          obtain ⟨a, b, c, d⟩ := mk_k x kk hq l r (by simp at h; exact h)
          simp only [if_neg h1, if_true, kS, sS, kU, sU, cGe, sGe, cLt, sLt, a, b, c, d]
          rw [if_neg (show ¬ x + 1 ≤ x by omega), if_neg (show ¬ x + 1 ≤ x by omega), if_neg (show ¬ x < kk by omega), if_neg (show ¬ x < kk by omega)]
          have : ((r + 1 : Nat) : Int) * x = (r : Int) * x + x := by rw [Int.natCast_add, Int.add_mul]; simp
          refine ⟨?_, ?_, ?_, ?_⟩ <;> omega
      · have hne : (x == q) = false := by simpa using h2
        rw [hne] at h
        obtain ⟨a, b, c, d⟩ := mk_k q kk hq l r (by simpa using h)
        by_cases h3 : x < kk
        · simp only [if_neg h1, if_neg h2, if_pos h3, kS, sS, kU, sU, cGe, sGe, cLt, sLt, a, b, c, d]
          rw [if_neg (show ¬ q + 1 ≤ x by omega), if_neg (show ¬ q + 1 ≤ x by omega)]
          refine ⟨?_, ?_, ?_, ?_⟩ <;> first | trivial | omega
        · simp only [if_neg h1, if_neg h2, if_neg h3, kS, sS, kU, sU, cGe, sGe, cLt, sLt, a, b, c, d]
          rw [if_neg (show ¬ q + 1 ≤ x by omega), if_neg (show ¬ q + 1 ≤ x by omega)]
          refine ⟨?_, ?_, ?_, ?_⟩ <;> omega
/-- what holds behind the inner loop -/
theorem e_step {q k sd nj jnj r nj' jnj' : Int} (h : BInv p ns dmax dmin dsum n nd) (e : EInv (pos ns) nd n q k sd nj jnj) (hq0 : 0 ≤ q) (hqp : q < p) (hq : ¬ q < k + 1)
    (hr0 : 0 ≤ r) (hr : (r = nd.getD q.toNat 0 ∧ ¬ q < k + nd.getD q.toNat 0) ∨ (r = q - k ∧ q < k + nd.getD q.toNat 0)) (h1 : nj' = Tn nd (k + r).toNat) (h2 : jnj' = Jn nd (k + r).toNat) :
    (¬ (k + r) * (n - 1) - (k + r) * nj' + jnj' < sd + r * q → EInv (pos ns) nd n (q - 1) (k + r) (sd + r * q) nj' jnj') ∧ ((k + r) * (n - 1) - (k + r) * nj' + jnj' < sd + r * q → ¬ Kor ns) := by
  have hg := h.getD q.toNat (by omega)
  have eq : ((q.toNat : Nat) : Int) = q := by omega
  rw [eq] at hg
  rw [hg] at hr
  have g1 := cGe_succ q (pos ns)
  have g2 := sGe_succ q (pos ns)
  have k0 := e.k0
  have ekq : (k + r) ≤ q := by omega
  have tj := h.tj (k + r).toNat (by omega)
  have e3 : (((k + r).toNat : Nat) : Int) = k + r := by omega
  rw [e3] at tj
  rw [h1, h2, tj.1, tj.2]
  have hex : k = cGe (q + 1) (pos ns) ∧ sd = sGe (q + 1) (pos ns) := by
    rcases e.ex with a | ⟨a, b⟩
    · exact a
    · omega
  have e1 : q - 1 + 1 = q := by omega
  constructor
  · intro hok
    refine ⟨by omega, by omega, by rw [tj.1], by rw [tj.2], ?_, fun q' hq' hc' => ?_⟩
    · rw [e1]
      rcases hr with ⟨a, b⟩ | ⟨a, b⟩
      · refine .inl ⟨by omega, ?_⟩
        rw [g2, hex.2, a, Int.mul_comm]
      · exact .inr ⟨by omega, by omega⟩
    · by_cases hlt : q < q'
      · exact e.ok q' hlt hc'
      · have hqq : q' = q := by omega
        subst hqq
        rcases hr with ⟨a, b⟩ | ⟨a, b⟩
        · have c1 : cGe q' (pos ns) = k + r := by omega
          have c2 : sGe q' (pos ns) = sd + r * q' := by rw [g2, hex.2, a, Int.mul_comm]
          rw [c1, c2]
          unfold Chk
          omega
        · omega
  · intro hbad hK
    have hKP := (kor_pos h.nn).mp hK
    have hrc : r.toNat ≤ (pos ns).count q := by omega
    obtain ⟨a, b, c, d⟩ := mk_k q (k + r) ekq (pos ns) r.toNat hrc
    have hx := hKP _ (mk_fst q (k + r) (pos ns) r.toNat)
    have hl := k_len (mk q (k + r) r.toNat (pos ns))
    have hl2 : ((mk q (k + r) r.toNat (pos ns)).length : Int) = n := by
      rw [h.len, ← List.length_map (f := Prod.fst), mk_fst]
    have er : ((r.toNat : Nat) : Int) = r := by omega
    rw [er] at a b
    have ha : kS (mk q (k + r) r.toNat (pos ns)) = k + r := by omega
    unfold Xc at hx
    rw [ha, b, d] at hx
    have e4 : k + r + kT (mk q (k + r) r.toNat (pos ns)) - 1 = n - 1 - cLt (k + r) (pos ns) := by omega
    rw [e4, Int.mul_sub] at hx
    omega
theorem due_of_kor (h : BInv p ns dmax dmin dsum n nd) (ho : Int.fmod dsum 2 = 0) : Due ns ↔ Kor ns := by
  constructor
  · exact fun q => q.2.2
  · intro q
    refine ⟨h.nn, ?_, q⟩
    rw [← h.sum, ho]
    decide
theorem kor_n0 (h : BInv p ns dmax dmin dsum n nd) (hn : n = 0) : Kor ns := by
  refine (kor_pos h.nn).mpr ?_
  have hl := h.len
  have : pos ns = [] := List.eq_nil_of_length_eq_zero (by omega)
  intro z hz
  unfold pos at this
  rw [this] at hz
  have : z = [] := by simpa using hz
  subst this
  simp [Xc, sS, sU, kS]
theorem kor_zz (h : BInv p ns dmax dmin dsum n nd) (hn : n ≠ 0) (hz : (dmax + dmin + 1) * (dmax + dmin + 1) ≤ 4 * dmin * n) : Kor ns := by
  suffices key : Teg (pos ns) from (kor_pos h.nn).mpr (kor_of_teg key)
  intro k q hkq hc
  have hl := h.len
  have hc0 := h.cnt
  have n0 : 0 < n := by omega
  obtain ⟨w1, w2, w3, w4⟩ := h.wit n0
  have k0 : 0 ≤ k := by rw [← hc]; exact cGe_nn _ _
  have a1 := sGe_le (q := q) (l := pos ns) (d := dmax) fun x hx => (h.posmem hx).2.1
  have a2 := sLt_ge (k := k) (l := pos ns) (d := dmin) fun x hx => (h.posmem hx).2.2
  have a3 := c_split k (pos ns)
  have a4 := cGe_anti hkq (pos ns)
  rw [hc] at a1 a4
  rw [← hl]
  rw [← hl] at a3
  by_cases hkd : k ≤ dmin
  · have u0 := lt_none (k := k) (l := pos ns) fun x hx => by have := h.posmem hx; omega
    rw [u0.1, u0.2]
    have hM : dmax + 1 ≤ n := by
      refine Int.not_lt.mp fun hlt => ?_
      have s1 : 4 * dmin * n < 4 * dmin * (dmax + 1) := Int.mul_lt_mul_of_pos_left (by omega) (by omega)
      have s2 : 0 ≤ (dmax + 1 - dmin) * (dmax + 1 - dmin) := by
        rcases Int.le_total 0 (dmax + 1 - dmin) with q | q
        · exact Int.mul_nonneg q q
        · exact Int.mul_nonneg_of_nonpos_of_nonpos q q
      have s3 : (dmax + dmin + 1) * (dmax + dmin + 1) = 4 * dmin * (dmax + 1) + (dmax + 1 - dmin) * (dmax + 1 - dmin) := by grind
      omega
    have s4 : k * dmax ≤ k * (n - 1) := Int.mul_le_mul_of_nonneg_left (by omega) k0
    have s5 : k * (n - 1 - 0) = k * (n - 1) := by simp
    omega
  · have b1 : cLt k (pos ns) * (k - dmin) ≤ (n - k) * (k - dmin) := Int.mul_le_mul_of_nonneg_right (by omega) (by omega)
    have b2 : 0 ≤ (dmax + dmin + 1 - 2 * k) * (dmax + dmin + 1 - 2 * k) := by
      rcases Int.le_total 0 (dmax + dmin + 1 - 2 * k) with q | q
      · exact Int.mul_nonneg q q
      · exact Int.mul_nonneg_of_nonpos_of_nonpos q q
    have b3 : (dmax + dmin + 1 - 2 * k) * (dmax + dmin + 1 - 2 * k) = (dmax + dmin + 1) * (dmax + dmin + 1) - 4 * (k * (dmax + dmin + 1)) + 4 * (k * k) := by grind
    have b4 : (n - k) * (k - dmin) = n * k - dmin * n - k * k + k * dmin := by grind
    have b5 : k * (dmax + dmin + 1) = k * dmax + k * dmin + k := by grind
    have b6 : 4 * dmin * n = 4 * (dmin * n) := by grind
    have b7 : cLt k (pos ns) * (k - dmin) = k * cLt k (pos ns) - cLt k (pos ns) * dmin := by grind
    have b8 : k * (n - 1 - cLt k (pos ns)) = n * k - k - k * cLt k (pos ns) := by grind
    omega
theorem bad_due (h : BBad ns) : ¬ Due ns := by
  rintro ⟨h0, h1, hK⟩
  rcases h with ⟨x, hx, hb⟩ | hb | ⟨c, hc, hb⟩
  · have := h0 x hx
    have hge : (ns.length : Int) ≤ x := by omega
    obtain ⟨a, b, rfl⟩ := List.append_of_mem hx
    have hz : (a.map (fun y => (y, Cl.T)) ++ (x, .S) :: b.map fun y => (y, Cl.T) : ZL).map Prod.fst = a ++ x :: b := by
      have e : ∀ l : List Int, (l.map fun y => (y, Cl.T)).map Prod.fst = l := fun l => by
        rw [List.map_map]
        conv => rhs; rw [← List.map_id l]
        rfl
      rw [List.map_append, List.map_cons, e, e]
    have hx := hK _ hz
    have tk : ∀ l : List Int, kS (l.map fun y => (y, Cl.T)) = 0 ∧ kT (l.map fun y => (y, Cl.T)) = l.length ∧ sS (l.map fun y => (y, Cl.T)) = 0 ∧ sU (l.map fun y => (y, Cl.T)) = 0 := fun l => by
      induction l with
      | nil => exact ⟨rfl, rfl, rfl, rfl⟩
      | cons y l ih =>
        obtain ⟨a, b, c, d⟩ := ih
        simp only [List.map_cons, kS, kT, sS, sU, a, b, c, d, List.length_cons]
        refine ⟨trivial, ?_, trivial, trivial⟩
        omega
    obtain ⟨a1, a2, a3, a4⟩ := tk a
    obtain ⟨b1, b2, b3, b4⟩ := tk b
    unfold Xc at hx
    simp only [kS_app, kT_app, sS_app, sU_app, kS, kT, sS, sU, a1, a2, a3, a4, b1, b2, b3, b4] at hx
    rw [List.length_append, List.length_cons] at hge
    have e : (0 + ((0 : Int) + 1)) * (0 + (0 + 1) + ((a.length : Int) + b.length) - 1) = a.length + b.length := by grind
    rw [e] at hx
    omega
  · rcases Int.emod_two_eq ns.sum with q | q
    · rw [Int.fmod_eq_emod_of_nonneg _ (by omega)] at hb
      exact hb q
    · rw [Int.fmod_eq_emod_of_nonneg _ (by omega)] at h1
      exact h1 q
  · have hKP := (kor_pos h0).mp hK
    have hz : ((pos ns).map fun y => (y, Cl.S) : ZL).map Prod.fst = pos ns := by
      rw [List.map_map]
      conv => rhs; rw [← List.map_id (pos ns)]
      rfl
    have hx := hKP _ hz
    obtain ⟨a, b, cc, d⟩ := sMap_k (pos ns)
    unfold sMap at a b cc d
    unfold Xc at hx
    rw [a, b, cc, d, pos_sum h0] at hx
    have e : ((pos ns).length : Int) = c := by rw [hc, List.countP_eq_length_filter]
    rw [e] at hx
    have e2 : c * (c + 0 - 1) = c * (c - 1) := by simp
    rw [e2] at hx
    omega
end
end Mine

set_option autoImplicit false
namespace Mine
section
variable {p dmax dmin dsum n : Int} {ns nd : List Int}
theorem w_start (h : BInv p ns dmax dmin dsum n nd) : (0:Int) ≤ 0 ∧ (0:Int) ≤ 13 ∧ EInv (pos ns) nd n (dmax - (([] : List Int).length : Int)) 0 0 0 0 := by
  refine ⟨by omega, by omega, ?_⟩
  have := e_start h
  simpa using this
theorem w_tj0 {P : List Int} {q k sd nj jnj : Int} (e : EInv P nd n q k sd nj jnj) : nj = Tn nd (k + (([] : List Int).length : Int)).toNat ∧ jnj = Jn nd (k + (([] : List Int).length : Int)).toNat := by
  have h1 := e.hnj
  have h2 := e.hjnj
  simp only [List.length_nil, Int.natCast_zero, Int.add_zero]
  exact ⟨h1, h2⟩
theorem w_tj1 {k nj jnj x : Int} {pre : List Int} (k0 : 0 ≤ k) (hx : x = 0 + (pre.length : Int)) (h1 : nj = Tn nd (k + (pre.length : Int)).toNat) (h2 : jnj = Jn nd (k + (pre.length : Int)).toNat) :
    nj + nd.getD (k + x).toNat 0 = Tn nd (k + ((pre ++ [x]).length : Int)).toNat ∧ jnj + (k + x) * nd.getD (k + x).toNat 0 = Jn nd (k + ((pre ++ [x]).length : Int)).toNat := by
  have e : (k + ((pre ++ [x]).length : Int)).toNat = (k + (pre.length : Int)).toNat + 1 := by
    rw [List.length_append]; simp; omega
  have e2 : (k + x).toNat = (k + (pre.length : Int)).toNat := by omega
  rw [e, e2]
  simp only [Tn, Jn]
  rw [← h1, ← h2]
  have e3 : (((k + (pre.length : Int)).toNat : Nat) : Int) = k + x := by omega
  rw [e3]
  exact ⟨rfl, rfl⟩
theorem w_step {k sd nj jnj r nj' jnj' q : Int} {pre : List Int} {L : Nat} (h : BInv p ns dmax dmin dsum n nd) (e : EInv (pos ns) nd n (dmax - (pre.length : Int)) k sd nj jnj) (hq : q = dmax - (pre.length : Int))
    (hpre : pre.length < (dmax - (dmin - 1)).toNat) (h7 : n ≠ 0 → dmax < p ∧ 1 ≤ dmin ∧ dmin ≤ dmax) (hn0 : n ≠ 0) (hp12 : p ≤ 12) (hqk : ¬ q < k + 1) (hr0 : 0 ≤ r)
    (hr : (r = nd.getD q.toNat 0 ∧ ¬ q < k + nd.getD q.toNat 0) ∨ (r = q - k ∧ q < k + nd.getD q.toNat 0)) (h1 : nj' = Tn nd (k + (L : Int)).toNat) (h2 : jnj' = Jn nd (k + (L : Int)).toNat) (hL : (L : Int) = r)
    (hok : ¬ (k + r) * (n - 1) - (k + r) * nj' + jnj' < sd + r * q) :
    0 ≤ k + r ∧ k + r ≤ 13 ∧ EInv (pos ns) nd n (dmax - ((pre ++ [q]).length : Int)) (k + r) (sd + r * q) nj' jnj' := by
  subst hq
  have hp := h7 hn0
  rw [hL] at h1 h2
  have k0 := e.k0
  have key := (e_step h e (by omega) (by omega) hqk hr0 hr h1 h2).1 hok
  have e1 : dmax - ((pre ++ [dmax - (pre.length : Int)]).length : Int) = dmax - (pre.length : Int) - 1 := by rw [List.length_append]; simp; omega
  rw [e1]
  exact ⟨by omega, by omega, key⟩
theorem w_bad {k sd nj jnj r nj' jnj' q : Int} {pre : List Int} {L : Nat} (h : BInv p ns dmax dmin dsum n nd) (e : EInv (pos ns) nd n (dmax - (pre.length : Int)) k sd nj jnj) (hbad : (k + r) * (n - 1) - (k + r) * nj' + jnj' < sd + r * q) (hq : q = dmax - (pre.length : Int))
    (hpre : pre.length < (dmax - (dmin - 1)).toNat) (h7 : n ≠ 0 → dmax < p ∧ 1 ≤ dmin ∧ dmin ≤ dmax) (hn0 : n ≠ 0) (hqk : ¬ q < k + 1) (hr0 : 0 ≤ r)
    (hr : (r = nd.getD q.toNat 0 ∧ ¬ q < k + nd.getD q.toNat 0) ∨ (r = q - k ∧ q < k + nd.getD q.toNat 0)) (h1 : nj' = Tn nd (k + (L : Int)).toNat) (h2 : jnj' = Jn nd (k + (L : Int)).toNat) (hL : (L : Int) = r) {b : Bool} (hb : b = false) : b = true ↔ Due ns := by
  subst hq hb
  have hp := h7 hn0
  rw [hL] at h1 h2
  have k0 := e.k0
  have key := (e_step h e (by omega) (by omega) hqk hr0 hr h1 h2).2 hbad
  exact ⟨fun q => (by cases q), fun q => absurd q.2.2 key⟩
theorem w_skip {k sd nj jnj q : Int} {pre : List Int} (h : BInv p ns dmax dmin dsum n nd) (h13 : k ≤ 13) (e : EInv (pos ns) nd n (dmax - (pre.length : Int)) k sd nj jnj) (hq : q = dmax - (pre.length : Int))
    (hpre : pre.length < (dmax - (dmin - 1)).toNat) (h7 : n ≠ 0 → dmax < p ∧ 1 ≤ dmin ∧ dmin ≤ dmax) (hn0 : n ≠ 0) (hqk : ¬ q < k + 1) (hz : ¬ 0 < nd.getD q.toNat 0) :
    0 ≤ k ∧ k ≤ 13 ∧ EInv (pos ns) nd n (dmax - ((pre ++ [q]).length : Int)) k sd nj jnj := by
  subst hq
  have hp := h7 hn0
  have k0 := e.k0
  have key := e_skip h e (by omega) (by omega) hqk hz
  have e1 : dmax - ((pre ++ [dmax - (pre.length : Int)]).length : Int) = dmax - (pre.length : Int) - 1 := by rw [List.length_append]; simp; omega
  rw [e1]
  exact ⟨k0, h13, key⟩
theorem w_ret {k sd nj jnj q : Int} {pre : List Int} (h : BInv p ns dmax dmin dsum n nd) (ho : Int.fmod dsum 2 = 0) (e : EInv (pos ns) nd n (dmax - (pre.length : Int)) k sd nj jnj) (hq : q = dmax - (pre.length : Int)) (hqk : q < k + 1)
    {b : Bool} (hb : b = true) : b = true ↔ Due ns := by
  subst hq hb
  exact ⟨fun _ => (due_of_kor h ho).mpr (e_ret h e hqk), fun _ => rfl⟩
theorem w_end {k sd nj jnj : Int} {L : Nat} (h : BInv p ns dmax dmin dsum n nd) (ho : Int.fmod dsum 2 = 0) (hm : dsum ≤ n * (n - 1)) (hn : n ≠ 0) (h7 : n ≠ 0 → dmax < p ∧ 1 ≤ dmin ∧ dmin ≤ dmax) (e : EInv (pos ns) nd n (dmax - (L : Int)) k sd nj jnj) (hL : L = (dmax - (dmin - 1)).toNat)
    {b : Bool} (hb : b = true) : b = true ↔ Due ns := by
  subst hb
  have hp := h7 hn
  have e1 : dmax - (L : Int) = dmin - 1 := by omega
  rw [e1] at e
  exact ⟨fun _ => (due_of_kor h ho).mpr (e_end h hn hm e), fun _ => rfl⟩
theorem w_n0 (h : BInv p ns dmax dmin dsum n nd) (ho : Int.fmod dsum 2 = 0) (hn : n = 0) {b : Bool} (hb : b = true) : b = true ↔ Due ns := by
  subst hb
  exact ⟨fun _ => (due_of_kor h ho).mpr (kor_n0 h hn), fun _ => rfl⟩
theorem w_zz (h : BInv p ns dmax dmin dsum n nd) (ho : Int.fmod dsum 2 = 0) (hn : n ≠ 0) (hz : (dmax + dmin + 1) * (dmax + dmin + 1) ≤ 4 * dmin * n) {b : Bool} (hb : b = true) : b = true ↔ Due ns := by
  subst hb
  exact ⟨fun _ => (due_of_kor h ho).mpr (kor_zz h hn hz), fun _ => rfl⟩
theorem w_badf (h : BBad ns) {b : Bool} (hb : b = false) : b = true ↔ Due ns := by
  subst hb
  exact ⟨fun q => (by cases q), fun q => absurd q (bad_due h)⟩
end
end Mine

set_option autoImplicit false
namespace Mine
/-- the table holds the list's counts -/
structure Rep (nd l : List Int) : Prop where
  cnt : ∀ j : Nat, j < nd.length → nd.getD j 0 = (l.count (j : Int) : Nat)
  rng : ∀ x ∈ l, 0 < x ∧ x < nd.length
theorem getD_set {nd : List Int} {i j : Nat} {v : Int} (hj : j < nd.length) : (nd.set i v).getD j 0 = if i = j then v else nd.getD j 0 := by
  rw [List.getD_eq_getElem?_getD, List.getD_eq_getElem?_getD, List.getElem?_set]
  by_cases h : i = j
  · rw [if_pos h, if_pos h, if_pos (by omega)]; rfl
  · rw [if_neg h, if_neg h]
theorem Rep.init {p dmax dmin dsum n : Int} {ns nd : List Int} (h : BInv p ns dmax dmin dsum n nd) (hl : (nd.length : Int) = p) : Rep nd (pos ns) :=
  ⟨fun j hj => h.getD j (by omega), fun x hx => by
    have h1 := (h.posmem hx).1
    have h2 := (h.rng x (List.mem_filter.mp hx).1).2
    omega⟩
theorem Rep.dec {nd l : List Int} (h : Rep nd l) {x : Int} (hx : x ∈ l) : Rep (nd.set x.toNat (nd.getD x.toNat 0 - 1)) (l.erase x) := by
  have hr := h.rng x hx
  refine ⟨fun j hj => ?_, fun y hy => ?_⟩
  · rw [List.length_set] at hj
    rw [getD_set hj, List.count_erase]
    have e : ((x.toNat : Nat) : Int) = x := by omega
    by_cases hj' : x.toNat = j
    · subst hj'
      rw [if_pos rfl, h.cnt _ hj, e]
      have : 0 < l.count x := List.count_pos_iff.mpr hx
      simp
      omega
    · rw [if_neg hj', h.cnt j hj]
      have : ¬ x = (j : Int) := by omega
      have h2 : ¬ (x == (j : Int)) = true := by simpa using this
      have h3 : ¬ ((j : Int) == x) = true := by simpa using Ne.symm this
      simp [this]
  · rw [List.length_set]
    exact h.rng y (List.mem_of_mem_erase hy)
theorem Rep.inc {nd l : List Int} (h : Rep nd l) {x : Int} (hx : 0 < x) (hx2 : x < nd.length) : Rep (nd.set x.toNat (nd.getD x.toNat 0 + 1)) (l ++ [x]) := by
  refine ⟨fun j hj => ?_, fun y hy => ?_⟩
  · rw [List.length_set] at hj
    rw [getD_set hj, List.count_append]
    have e : ((x.toNat : Nat) : Int) = x := by omega
    by_cases hj' : x.toNat = j
    · subst hj'
      rw [if_pos rfl, h.cnt _ hj, e]
      simp
    · rw [if_neg hj', h.cnt j hj]
      have : ¬ x = (j : Int) := by omega
      simp [this]
  · rw [List.length_set]
    rcases List.mem_append.mp hy with hy | hy
    · exact h.rng y hy
    · have := List.mem_singleton.mp hy
      omega
theorem Rep.perm {nd l l' : List Int} (h : Rep nd l) (p : l.Perm l') : Rep nd l' :=
  ⟨fun j hj => by rw [h.cnt j hj, p.count_eq], fun x hx => h.rng x (p.mem_iff.mpr hx)⟩
theorem sum_perm {l l' : List Int} (p : l.Perm l') : l.sum = l'.sum := by
  induction p with
  | nil => rfl
  | cons x _ ih => rw [List.sum_cons, List.sum_cons, ih]
  | swap x y l => rw [List.sum_cons, List.sum_cons, List.sum_cons, List.sum_cons]; omega
  | trans _ _ a b => exact a.trans b
theorem Rep.mem {nd l : List Int} (h : Rep nd l) {x : Int} (h0 : 0 ≤ x) (h1 : x < nd.length) (hz : nd.getD x.toNat 0 ≠ 0) : x ∈ l := by
  have := h.cnt x.toNat (by omega)
  have e : ((x.toNat : Nat) : Int) = x := by omega
  rw [e] at this
  refine List.count_pos_iff.mp ?_
  omega
theorem Rep.notmem {nd l : List Int} (h : Rep nd l) {x : Int} (h0 : 0 ≤ x) (h1 : x < nd.length) (hz : nd.getD x.toNat 0 = 0) : x ∉ l := by
  have := h.cnt x.toNat (by omega)
  have e : ((x.toNat : Nat) : Int) = x := by omega
  rw [e] at this
  intro hm
  have := List.count_pos_iff.mpr hm
  omega

def WInv (ns nd : List Int) (n dmax : Int) : Prop := ∃ l, Rep nd l ∧ n = (l.length : Nat) ∧ (∀ x ∈ l, x ≤ dmax) ∧ (∃ j : Int, l.sum = 2 * j) ∧ (Kor l ↔ Kor ns)
def FInv (ns nd : List Int) (n : Int) (ms : List Int) (mslen k a i : Int) : Prop := ∃ A R : List Int, Rep nd R ∧ n = (R.length : Nat) ∧ a - i ≤ n ∧ ((A.length : Nat) : Int) = i ∧ (∀ x ∈ A, ∀ y ∈ R, y ≤ x) ∧ (∀ x ∈ A, 1 ≤ x ∧ x ≤ a ∧ k ≤ x) ∧ (∀ y ∈ R, y ≤ k) ∧ k ≤ a ∧
  ms.take mslen.toNat = (A.filter fun x => decide (1 < x)).map (fun x => x - 1) ∧ 0 ≤ mslen ∧ mslen ≤ (ms.length : Nat) ∧ (∃ j : Int, a + A.sum + R.sum = 2 * j) ∧ (Kor (a :: (A ++ R)) ↔ Kor ns)
def HInv (ns nd ms : List Int) (mslen a n i : Int) : Prop := ∃ R : List Int, Rep nd (R ++ ms.take i.toNat) ∧ n = (R.length : Nat) + i ∧ (∀ y ∈ R ++ ms.take mslen.toNat, 0 < y ∧ y ≤ a) ∧ (∃ j : Int, (R ++ ms.take mslen.toNat).sum = 2 * j) ∧ (Kor (R ++ ms.take mslen.toNat) ↔ Kor ns) ∧ 0 ≤ mslen ∧ mslen ≤ (ms.length : Nat)
section
variable {p dmax dmin dsum n : Int} {ns nd : List Int}
theorem h_start (h : BInv p ns dmax dmin dsum n nd) (hl : (nd.length : Int) = p) (ho : Int.fmod dsum 2 = 0) : WInv ns nd n dmax := by
  refine ⟨pos ns, Rep.init h hl, h.len, fun x hx => (h.posmem hx).2.1, ?_, (kor_pos h.nn).symm⟩
  rw [pos_sum h.nn, ← h.sum]
  rw [Int.fmod_eq_emod_of_nonneg _ (by omega)] at ho
  exact ⟨dsum / 2, by omega⟩
theorem ex_mem {l : List Int} (h : 0 < l.length) : ∃ x, x ∈ l := by
  cases l with
  | nil => simp at h
  | cons x l => exact ⟨x, .head _⟩
theorem h_down (h : WInv ns nd n dmax) (hn : 0 < n) (h0 : 0 ≤ dmax) (h1 : dmax < (nd.length : Nat)) (hz : nd.getD dmax.toNat 0 = 0) : 0 ≤ dmax - 1 ∧ WInv ns nd n (dmax - 1) := by
  obtain ⟨l, r, hl, hm, hs, hk⟩ := h
  have nm := r.notmem h0 h1 hz
  have hm' : ∀ x ∈ l, x ≤ dmax - 1 := fun x hx => by
    have := hm x hx
    have : x ≠ dmax := fun q => nm (q ▸ hx)
    omega
  obtain ⟨x, hx⟩ := ex_mem (l := l) (by omega)
  have := hm' x hx
  have := (r.rng x hx).1
  exact ⟨by omega, l, r, hl, hm', hs, hk⟩
theorem kor_big {l : List Int} {x : Int} (hx : x ∈ l) (hb : (l.length : Int) - 1 < x) : ¬ Kor l := by
  intro hK
  obtain ⟨a, b, rfl⟩ := List.append_of_mem hx
  have hz : (a.map (fun y => (y, Cl.T)) ++ (x, .S) :: b.map fun y => (y, Cl.T) : ZL).map Prod.fst = a ++ x :: b := by
    have e : ∀ l : List Int, (l.map fun y => (y, Cl.T)).map Prod.fst = l := fun l => by
      rw [List.map_map]
      conv => rhs; rw [← List.map_id l]
      rfl
    rw [List.map_append, List.map_cons, e, e]
  have hx := hK _ hz
  have tk : ∀ l : List Int, kS (l.map fun y => (y, Cl.T)) = 0 ∧ kT (l.map fun y => (y, Cl.T)) = l.length ∧ sS (l.map fun y => (y, Cl.T)) = 0 ∧ sU (l.map fun y => (y, Cl.T)) = 0 := fun l => by
    induction l with
    | nil => exact ⟨rfl, rfl, rfl, rfl⟩
    | cons y l ih =>
      obtain ⟨a, b, c, d⟩ := ih
      simp only [List.map_cons, kS, kT, sS, sU, a, b, c, d, List.length_cons]
      refine ⟨trivial, ?_, trivial, trivial⟩
      omega
  obtain ⟨a1, a2, a3, a4⟩ := tk a
  obtain ⟨b1, b2, b3, b4⟩ := tk b
  unfold Xc at hx
  simp only [kS_app, kT_app, sS_app, sU_app, kS, kT, sS, sU, a1, a2, a3, a4, b1, b2, b3, b4] at hx
  rw [List.length_append, List.length_cons] at hb
  have e : (0 + ((0 : Int) + 1)) * (0 + (0 + 1) + ((a.length : Int) + b.length) - 1) = a.length + b.length := by grind
  rw [e] at hx
  omega
theorem h_false (h : WInv ns nd n dmax) (h0 : 0 ≤ dmax) (h1 : dmax < (nd.length : Nat)) (hz : nd.getD dmax.toNat 0 ≠ 0) (hb : n - 1 < dmax) : ¬ Kor ns := by
  obtain ⟨l, r, hl, hm, hs, hk⟩ := h
  rw [← hk]
  exact kor_big (r.mem h0 h1 hz) (by omega)
theorem h_true (h : WInv ns nd n dmax) (hn : ¬ 0 < n) : Kor ns := by
  obtain ⟨l, r, hl, hm, hs, hk⟩ := h
  have : l = [] := List.eq_nil_of_length_eq_zero (by omega)
  subst this
  rw [← hk]
  intro z hz
  have : z = [] := by simpa using hz
  subst this
  simp [Xc, sS, sU, kS]
theorem erase_perm {l : List Int} {x : Int} (hx : x ∈ l) : l.Perm (x :: l.erase x) := List.perm_cons_erase hx
theorem h_for (h : WInv ns nd n dmax) (h0 : 0 ≤ dmax) (h1 : dmax < (nd.length : Nat)) (hz : nd.getD dmax.toNat 0 ≠ 0) (hb : ¬ n - 1 < dmax) (ms : List Int) :
    FInv ns (nd.set dmax.toNat (nd.getD dmax.toNat 0 - 1)) (n - 1) ms 0 dmax dmax 0 := by
  obtain ⟨l, r, hl, hm, ⟨j, hs⟩, hk⟩ := h
  have hx := r.mem h0 h1 hz
  have pm := erase_perm hx
  have hlen : (l.erase dmax).length + 1 = l.length := by have := pm.length_eq; simpa using this.symm
  refine ⟨[], l.erase dmax, r.dec hx, by omega, by omega, rfl, (fun _ hx => nomatch hx), (fun _ hx => nomatch hx), fun y hy => hm y (List.mem_of_mem_erase hy), Int.le_refl _, by simp, Int.le_refl _, by omega, ⟨j, ?_⟩, ?_⟩
  · have := sum_perm pm
    rw [List.sum_cons] at this
    simp
    omega
  · rw [← hk]
    simp only [List.nil_append]
    exact ⟨fun q => q.perm pm.symm, fun q => q.perm pm⟩
theorem f_down {ms : List Int} {mslen k a i : Int} (h : FInv ns nd n ms mslen k a i) (hi : i < a) (h0 : 0 ≤ k) (h1 : k < (nd.length : Nat)) (hz : nd.getD k.toNat 0 = 0) : 0 ≤ k - 1 ∧ FInv ns nd n ms mslen (k - 1) a i := by
  obtain ⟨A, R, r, hn, hai, hA, hAR, hAb, hRk, hka, hms, hm0, hm1, hs, hk⟩ := h
  have nm := r.notmem h0 h1 hz
  have hm' : ∀ x ∈ R, x ≤ k - 1 := fun x hx => by
    have := hRk x hx
    have : x ≠ k := fun q => nm (q ▸ hx)
    omega
  obtain ⟨x, hx⟩ := ex_mem (l := R) (by omega)
  have := hm' x hx
  have := (r.rng x hx).1
  exact ⟨by omega, A, R, r, hn, hai, hA, hAR, (fun x hx => by have := hAb x hx; omega), hm', by omega, hms, hm0, hm1, hs, hk⟩
theorem f_step {ms ms' : List Int} {mslen mslen' k a i : Int} (h : FInv ns nd n ms mslen k a i) (h0 : 0 ≤ k) (h1 : k < (nd.length : Nat)) (hz : nd.getD k.toNat 0 ≠ 0)
    (hms' : (1 < k ∧ ms' = ms.set mslen.toNat (k - 1) ∧ mslen' = mslen + 1 ∧ mslen < (ms.length : Nat)) ∨ (¬ 1 < k ∧ ms' = ms ∧ mslen' = mslen)) :
    FInv ns (nd.set k.toNat (nd.getD k.toNat 0 - 1)) (n - 1) ms' mslen' k a (i + 1) := by
  obtain ⟨A, R, r, hn, hai, hA, hAR, hAb, hRk, hka, hms, hm0, hm1, ⟨j, hs⟩, hk⟩ := h
  have hx := r.mem h0 h1 hz
  have hkp := (r.rng k hx).1
  have pm := erase_perm hx
  have hlen : (R.erase k).length + 1 = R.length := by have := pm.length_eq; simpa using this.symm
  have hsum := sum_perm pm
  rw [List.sum_cons] at hsum
  have pm2 : (a :: (A ++ R)).Perm (a :: ((A ++ [k]) ++ R.erase k)) := by
    refine List.Perm.cons _ ?_
    rw [List.append_assoc]
    exact pm.append_left A
  have hkor : Kor (a :: ((A ++ [k]) ++ R.erase k)) ↔ Kor ns := by
    rw [← hk]
    exact ⟨fun q => q.perm pm2.symm, fun q => q.perm pm2⟩
  have common1 : ∀ x ∈ A ++ [k], ∀ y ∈ R.erase k, y ≤ x := by
    intro x hx y hy
    have hy' := List.mem_of_mem_erase hy
    rcases List.mem_append.mp hx with hx | hx
    · exact hAR x hx y hy'
    · have := List.mem_singleton.mp hx
      have := hRk y hy'
      omega
  have common2 : ∀ x ∈ A ++ [k], 1 ≤ x ∧ x ≤ a ∧ k ≤ x := by
    intro x hx
    rcases List.mem_append.mp hx with hx | hx
    · exact hAb x hx
    · have := List.mem_singleton.mp hx
      omega
  rcases hms' with ⟨q1, rfl, rfl, q4⟩ | ⟨q1, rfl, rfl⟩
  · refine ⟨A ++ [k], R.erase k, r.dec hx, by omega, by omega, by rw [List.length_append]; simp; omega, common1, common2, fun y hy => hRk y (List.mem_of_mem_erase hy), hka, ?_, by omega, by rw [List.length_set]; omega, ⟨j, ?_⟩, hkor⟩
    · have e : (mslen + 1).toNat = mslen.toNat + 1 := by omega
      have hlt : mslen.toNat < (ms.set mslen.toNat (k - 1)).length := by rw [List.length_set]; omega
      rw [e, List.take_succ_eq_append_getElem hlt, List.getElem_set_self, List.filter_append, List.map_append, ← hms, List.take_set]
      have hl : (ms.take mslen.toNat).length = mslen.toNat := by rw [List.length_take]; omega
      rw [List.set_eq_of_length_le (by omega)]
      simp [q1]
    · rw [List.sum_append]; simp; omega
  · refine ⟨A ++ [k], R.erase k, r.dec hx, by omega, by omega, by rw [List.length_append]; simp; omega, common1, common2, fun y hy => hRk y (List.mem_of_mem_erase hy), hka, ?_, hm0, hm1, ⟨j, ?_⟩, hkor⟩
    · rw [List.filter_append, List.map_append, ← hms]
      simp [q1]
    · rw [List.sum_append]; simp; omega
theorem filt_dec (A : List Int) : (A.map fun x => x - 1).filter (fun x => decide (0 < x)) = (A.filter fun x => decide (1 < x)).map fun x => x - 1 := by
  rw [List.filter_map]
  congr 1
  refine List.filter_congr fun x _ => ?_
  simp
theorem sum_dec (l : List Int) : (l.map fun x => x - 1).sum = l.sum - l.length := by
  induction l with
  | nil => simp
  | cons x l ih => simp only [List.map_cons, List.sum_cons, List.length_cons, ih]; omega
theorem h_for2 {ms : List Int} {mslen k a : Int} (h : FInv ns nd n ms mslen k a a) : HInv ns nd ms mslen a n 0 := by
  obtain ⟨A, R, r, hn, hai, hA, hAR, hAb, hRk, hka, hms, hm0, hm1, ⟨j, hs⟩, hk⟩ := h
  have key := hh_step hA hAR (fun x hx => (hAb x hx).2.1) (fun y hy => by have := hRk y hy; omega) (fun x hx => (hAb x hx).1) (fun y hy => by have := (r.rng y hy).1; omega) ⟨j, hs⟩
  have hnn : ∀ x ∈ A.map (fun x => x - 1) ++ R, 0 ≤ x := by
    intro x hx
    rcases List.mem_append.mp hx with hx | hx
    · obtain ⟨y, hy, rfl⟩ := List.mem_map.mp hx
      have := (hAb y hy).1
      show 0 ≤ y - 1
      omega
    · have := (r.rng x hx).1; omega
  have hf : (A.map (fun x => x - 1) ++ R).filter (fun x => decide (0 < x)) = ms.take mslen.toNat ++ R := by
    rw [List.filter_append, filt_dec, hms]
    congr 1
    rw [List.filter_eq_self]
    intro x hx
    have := (r.rng x hx).1
    simpa using this
  have pm : (ms.take mslen.toNat ++ R).Perm (R ++ ms.take mslen.toNat) := List.perm_append_comm
  have hsum := sum_dec A
  refine ⟨R, by simpa using r, by omega, ?_, ⟨j - a, ?_⟩, ?_, hm0, hm1⟩
  · intro y hy
    rcases List.mem_append.mp hy with hy | hy
    · have h1 := (r.rng y hy).1
      have h2 := hRk y hy
      omega
    · rw [hms] at hy
      obtain ⟨x, hx, rfl⟩ := List.mem_map.mp hy
      obtain ⟨hx1, hx2⟩ := List.mem_filter.mp hx
      have := hAb x hx1
      simp at hx2
      omega
  · rw [← sum_perm pm, ← hf, pos_sum hnn, List.sum_append, hsum]
    omega
  · rw [← hk, key, kor_pos hnn]
    have : pos (A.map (fun x => x - 1) ++ R) = ms.take mslen.toNat ++ R := hf
    unfold pos at this
    rw [this]
    exact ⟨fun q => q.perm pm.symm, fun q => q.perm pm⟩
theorem g_get {ms : List Int} {mslen a i x : Int} (h : HInv ns nd ms mslen a n i) (hi : i < mslen) (h0 : 0 ≤ i) (hx : x = 0 + i) : 0 < ms.getD x.toNat 0 ∧ ms.getD x.toNat 0 ≤ a := by
  obtain ⟨R, r, hn, hb, hs, hk, hm0, hm1⟩ := h
  rw [Int.zero_add] at hx
  subst hx
  refine hb _ (List.mem_append_right _ ?_)
  have hlt : x.toNat < ms.length := by omega
  rw [List.getD_eq_getElem?_getD, List.getElem?_eq_getElem hlt]
  simp only [Option.getD_some]
  rw [List.mem_take_iff_getElem]
  exact ⟨x.toNat, by omega, rfl⟩
theorem g_step {ms : List Int} {mslen a i x : Int} (h : HInv ns nd ms mslen a n i) (hi : i < mslen) (h0 : 0 ≤ i) (hx : x = 0 + i) (ha : a < (nd.length : Nat)) :
    HInv ns (nd.set (ms.getD x.toNat 0).toNat (nd.getD (ms.getD x.toNat 0).toNat 0 + 1)) ms mslen a (n + 1) (i + 1) := by
  have hg := g_get h hi h0 hx
  obtain ⟨R, r, hn, hb, hs, hk, hm0, hm1⟩ := h
  rw [Int.zero_add] at hx
  subst hx
  have hlt : x.toNat < ms.length := by omega
  refine ⟨R, ?_, by omega, hb, hs, hk, hm0, hm1⟩
  have e : (x + 1).toNat = x.toNat + 1 := by omega
  have e2 : ms.getD x.toNat 0 = ms[x.toNat] := by
    rw [List.getD_eq_getElem?_getD, List.getElem?_eq_getElem hlt]; rfl
  rw [e, List.take_succ_eq_append_getElem hlt, ← e2, ← List.append_assoc]
  exact r.inc hg.1 (by omega)
theorem g_end {ms : List Int} {mslen a : Int} (h : HInv ns nd ms mslen a n mslen) : WInv ns nd n a := by
  obtain ⟨R, r, hn, hb, hs, hk, hm0, hm1⟩ := h
  refine ⟨_, r, ?_, fun x hx => (hb x hx).2, hs, hk⟩
  rw [List.length_append, List.length_take]
  omega
end
end Mine

set_option autoImplicit false
namespace Mine
section
variable {p dmax dmin dsum n : Int} {ns nd : List Int}
theorem v_start (h : BInv p ns dmax dmin dsum n nd) (hl : (nd.length : Int) = p) (ho : Int.fmod dsum 2 = 0) (h7 : n ≠ 0 → dmax < p ∧ 1 ≤ dmin ∧ dmin ≤ dmax) (hn : n ≠ 0) (hp : p ≤ 12) (n0 : 0 ≤ n) (n12 : n ≤ 12) (d0 : 0 ≤ dmax) :
    0 ≤ dmax ∧ dmax < (nd.length : Int) ∧ (nd.length : Int) ≤ 12 ∧ dmax < ((List.replicate (dmax + 1).toNat [(0:Int)]).flatten.length : Int) ∧ ((List.replicate (dmax + 1).toNat [(0:Int)]).flatten.length : Int) ≤ 13 ∧ 0 ≤ n ∧ n ≤ 12 ∧ WInv ns nd n dmax := by
  have hq := h7 hn
  have hr : ((List.replicate (dmax + 1).toNat [(0:Int)]).flatten.length : Int) = dmax + 1 := by rw [rep_flat, List.length_replicate]; omega
  rw [hr]
  exact ⟨d0, by omega, by omega, by omega, by omega, n0, n12, h_start h hl ho⟩
theorem v_down {ms : List Int} {d : Int} (h : WInv ns nd n d) (hn : 0 < n) (h0 : 0 ≤ d) (h1 : d < (nd.length : Int)) (h2 : d < (ms.length : Int)) (hz : nd.getD d.toNat 0 = 0) :
    0 ≤ d - 1 ∧ d - 1 < (nd.length : Int) ∧ d - 1 < (ms.length : Int) ∧ WInv ns nd n (d - 1) := by
  have q := h_down h hn h0 h1 hz
  exact ⟨q.1, by omega, by omega, q.2⟩
theorem v_m1 {d : Int} (h : WInv ns nd n d) (hn : 0 < n) (h0 : 0 ≤ d) (h1 : d < (nd.length : Int)) (hz : nd.getD d.toNat 0 = 0) : (d - 1).toNat < d.toNat := by
  have q := (h_down h hn h0 h1 hz).1
  omega
theorem v_for {ms : List Int} {d : Int} (h : WInv ns nd n d) (h0 : 0 ≤ d) (h1 : d < (nd.length : Int)) (hz : nd.getD d.toNat 0 ≠ 0) (hb : ¬ n - 1 < d) (l12 : (nd.length : Int) ≤ 12) (hm : d < (ms.length : Int)) (m13 : (ms.length : Int) ≤ 13) :
    n - 1 = n - 1 - (([] : List Int).length : Int) ∧ (0:Int) ≤ 0 ∧ (0:Int) ≤ 12 ∧ 0 < (ms.length : Int) ∧ (0:Int) ≤ (([] : List Int).length : Int) ∧ 0 ≤ d ∧ d ≤ d ∧ d < ((nd.set d.toNat (nd.getD d.toNat 0 - 1)).length : Int) ∧ ((nd.set d.toNat (nd.getD d.toNat 0 - 1)).length : Int) ≤ 12 ∧
      d < (ms.length : Int) ∧ (ms.length : Int) ≤ 13 ∧ FInv ns (nd.set d.toNat (nd.getD d.toNat 0 - 1)) (n - 1) ms 0 d d (([] : List Int).length : Int) := by
  rw [List.length_set]
  refine ⟨by simp, by omega, by omega, by omega, by simp, h0, Int.le_refl _, h1, l12, hm, m13, ?_⟩
  have := h_for h h0 h1 hz hb ms
  simpa using this
theorem v_w2 {ms pre : List Int} {mslen k a x : Int} (h : FInv ns nd n ms mslen k a (pre.length : Int)) (hx : x = 0 + (pre.length : Int)) (h0 : 0 ≤ k) (hka : k ≤ a) : 0 ≤ k ∧ k ≤ a ∧ FInv ns nd n ms mslen k a x := by
  rw [Int.zero_add] at hx
  rw [hx]
  exact ⟨h0, hka, h⟩
theorem v_down2 {ms pre : List Int} {mslen k a x : Int} (h : FInv ns nd n ms mslen k a x) (hx : x = 0 + (pre.length : Int)) (hlt : pre.length < (a - 0).toNat) (h0 : 0 ≤ k) (hka : k ≤ a) (ha : a < (nd.length : Int)) (hz : nd.getD k.toNat 0 = 0) :
    0 ≤ k - 1 ∧ k - 1 ≤ a ∧ FInv ns nd n ms mslen (k - 1) a x := by
  have q := f_down h (by omega) h0 (by omega) hz
  exact ⟨q.1, by omega, q.2⟩
theorem v_m2 {ms pre : List Int} {mslen k a x : Int} (h : FInv ns nd n ms mslen k a x) (hx : x = 0 + (pre.length : Int)) (hlt : pre.length < (a - 0).toNat) (h0 : 0 ≤ k) (hka : k ≤ a) (ha : a < (nd.length : Int)) (hz : nd.getD k.toNat 0 = 0) :
    (k - 1).toNat < k.toNat := by
  have q := (f_down h (by omega) h0 (by omega) hz).1
  omega
theorem v_s1 {ms pre : List Int} {mslen k a x n₀ : Int} (h : FInv ns nd n ms mslen k a x) (hx : x = 0 + (pre.length : Int)) (hlt : pre.length < (a - 0).toNat) (h0 : 0 ≤ k) (hka : k ≤ a) (ha : a < (nd.length : Int)) (hz : nd.getD k.toNat 0 ≠ 0) (hk1 : 1 < k)
    (hn : n = n₀ - (pre.length : Int)) (m0 : 0 ≤ mslen) (mp : mslen ≤ (pre.length : Int)) (hm : a < (ms.length : Int)) (m13 : (ms.length : Int) ≤ 13) (l12 : (nd.length : Int) ≤ 12) :
    n - 1 = n₀ - ((pre ++ [x]).length : Int) ∧ 0 ≤ mslen + 1 ∧ mslen + 1 ≤ 12 ∧ mslen + 1 < ((ms.set mslen.toNat (k - 1)).length : Int) ∧ mslen + 1 ≤ ((pre ++ [x]).length : Int) ∧ 0 ≤ k ∧ k ≤ a ∧ a < ((nd.set k.toNat (nd.getD k.toNat 0 - 1)).length : Int) ∧
      ((nd.set k.toNat (nd.getD k.toNat 0 - 1)).length : Int) ≤ 12 ∧ a < ((ms.set mslen.toNat (k - 1)).length : Int) ∧ ((ms.set mslen.toNat (k - 1)).length : Int) ≤ 13 ∧
      FInv ns (nd.set k.toNat (nd.getD k.toNat 0 - 1)) (n - 1) (ms.set mslen.toNat (k - 1)) (mslen + 1) k a ((pre ++ [x]).length : Int) := by
  have e : ((pre ++ [x]).length : Int) = x + 1 := by rw [List.length_append]; simp; omega
  rw [e, List.length_set, List.length_set]
  exact ⟨by omega, by omega, by omega, by omega, by omega, h0, hka, ha, l12, hm, m13, f_step h h0 (by omega) hz (.inl ⟨hk1, rfl, rfl, by omega⟩)⟩
theorem v_s0 {ms pre : List Int} {mslen k a x n₀ : Int} (h : FInv ns nd n ms mslen k a x) (hx : x = 0 + (pre.length : Int)) (h0 : 0 ≤ k) (hka : k ≤ a) (ha : a < (nd.length : Int)) (hz : nd.getD k.toNat 0 ≠ 0) (hk1 : ¬ 1 < k)
    (hn : n = n₀ - (pre.length : Int)) (m0 : 0 ≤ mslen) (m12 : mslen ≤ 12) (ml : mslen < (ms.length : Int)) (mp : mslen ≤ (pre.length : Int)) (hm : a < (ms.length : Int)) (m13 : (ms.length : Int) ≤ 13) (l12 : (nd.length : Int) ≤ 12) :
    n - 1 = n₀ - ((pre ++ [x]).length : Int) ∧ 0 ≤ mslen ∧ mslen ≤ 12 ∧ mslen < (ms.length : Int) ∧ mslen ≤ ((pre ++ [x]).length : Int) ∧ 0 ≤ k ∧ k ≤ a ∧ a < ((nd.set k.toNat (nd.getD k.toNat 0 - 1)).length : Int) ∧
      ((nd.set k.toNat (nd.getD k.toNat 0 - 1)).length : Int) ≤ 12 ∧ a < (ms.length : Int) ∧ (ms.length : Int) ≤ 13 ∧
      FInv ns (nd.set k.toNat (nd.getD k.toNat 0 - 1)) (n - 1) ms mslen k a ((pre ++ [x]).length : Int) := by
  have e : ((pre ++ [x]).length : Int) = x + 1 := by rw [List.length_append]; simp; omega
  rw [e, List.length_set]
  exact ⟨by omega, m0, m12, ml, by omega, h0, hka, ha, l12, hm, m13, f_step h h0 (by omega) hz (.inr ⟨hk1, rfl, rfl⟩)⟩
theorem v_for2 {ms : List Int} {mslen k a : Int} {L : Nat} (h : FInv ns nd n ms mslen k a (L : Int)) (hL : L = (a - 0).toNat) (h0 : 0 ≤ k) (hka : k ≤ a) (ha : a < (nd.length : Int)) (l12 : (nd.length : Int) ≤ 12) :
    n = n + (([] : List Int).length : Int) ∧ a < (nd.length : Int) ∧ (nd.length : Int) ≤ 12 ∧ HInv ns nd ms mslen a n (([] : List Int).length : Int) := by
  refine ⟨by simp, ha, l12, ?_⟩
  have e : (L : Int) = a := by omega
  rw [e] at h
  have := h_for2 h
  simpa using this
theorem v_g {ms pre : List Int} {mslen a x n₁ : Int} (h : HInv ns nd ms mslen a n (pre.length : Int)) (hx : x = 0 + (pre.length : Int)) (hlt : pre.length < (mslen - 0).toNat) (hn : n = n₁ + (pre.length : Int)) (ha : a < (nd.length : Int)) (l12 : (nd.length : Int) ≤ 12) :
    n + 1 = n₁ + ((pre ++ [x]).length : Int) ∧ a < ((nd.set (ms.getD x.toNat 0).toNat (nd.getD (ms.getD x.toNat 0).toNat 0 + 1)).length : Int) ∧ ((nd.set (ms.getD x.toNat 0).toNat (nd.getD (ms.getD x.toNat 0).toNat 0 + 1)).length : Int) ≤ 12 ∧
      HInv ns (nd.set (ms.getD x.toNat 0).toNat (nd.getD (ms.getD x.toNat 0).toNat 0 + 1)) ms mslen a (n + 1) ((pre ++ [x]).length : Int) := by
  have e : ((pre ++ [x]).length : Int) = (pre.length : Int) + 1 := by rw [List.length_append]; simp
  rw [e, List.length_set]
  exact ⟨by omega, ha, l12, g_step h (by omega) (by omega) hx ha⟩
theorem v_end {ms : List Int} {mslen a n₁ n₀ : Int} {L1 L2 : Nat} (h : HInv ns nd ms mslen a n (L2 : Int)) (hn : n = n₁ + (L2 : Int)) (hn1 : n₁ = n₀ - 1 - (L1 : Int)) (hml : mslen ≤ (L1 : Int)) (hL2 : L2 = (mslen - 0).toNat) (m0 : 0 ≤ mslen) (n12 : n₀ ≤ 12) (a0 : 0 ≤ a)
    (ha : a < (nd.length : Int)) (l12 : (nd.length : Int) ≤ 12) (hm : a < (ms.length : Int)) (m13 : (ms.length : Int) ≤ 13) :
    0 ≤ a ∧ a < (nd.length : Int) ∧ (nd.length : Int) ≤ 12 ∧ a < (ms.length : Int) ∧ (ms.length : Int) ≤ 13 ∧ 0 ≤ n ∧ n ≤ 12 ∧ WInv ns nd n a := by
  have e : (L2 : Int) = mslen := by omega
  have hnn : 0 ≤ n := by
    obtain ⟨R, _, q, _⟩ := h
    omega
  rw [e] at h
  exact ⟨a0, ha, l12, hm, m13, hnn, by omega, g_end h⟩
theorem v_m3 {ms : List Int} {mslen a n₁ n₀ : Int} {L1 L2 : Nat} (h : HInv ns nd ms mslen a n (L2 : Int)) (hn : n = n₁ + (L2 : Int)) (hn1 : n₁ = n₀ - 1 - (L1 : Int)) (hml : mslen ≤ (L1 : Int)) (hL2 : L2 = (mslen - 0).toNat) (m0 : 0 ≤ mslen) (h0 : 0 < n₀) : n.toNat < n₀.toNat := by
  omega
theorem v_false {d : Int} (h : WInv ns nd n d) (h0 : 0 ≤ d) (h1 : d < (nd.length : Int)) (hz : nd.getD d.toNat 0 ≠ 0) (hb : n - 1 < d) {b : Bool} (hb' : b = false) : b = true ↔ Due ns := by
  subst hb'
  exact ⟨fun q => (by cases q), fun q => absurd q.2.2 (h_false h h0 h1 hz hb)⟩
theorem v_true {p dmax dmin dsum n₀ d : Int} {nd₀ : List Int} (hB : BInv p ns dmax dmin dsum n₀ nd₀) (ho : Int.fmod dsum 2 = 0) (h : WInv ns nd n d) (hn : ¬ 0 < n) {b : Bool} (hb' : b = true) : b = true ↔ Due ns := by
  subst hb'
  exact ⟨fun _ => (due_of_kor hB ho).mpr (h_true h hn), fun _ => rfl⟩
end
end Mine

set_option autoImplicit false
namespace Mine
theorem ps1 {ns : List Int} {M : Int} (hs : Int.fmod ns.sum 2 = 0) (hb : ∀ a ∈ ns, M ≤ a) (hm : M ∈ ns) : decide (0 ≤ M) = true ↔ (Int.fmod ns.sum 2 = 0 ∧ ∀ x ∈ ns, 0 ≤ x) := by
  rw [decide_eq_true_eq]
  exact ⟨fun h => ⟨hs, fun x hx => by have := hb x hx; omega⟩, fun h => h.2 M hm⟩
theorem ps2 {ns : List Int} (hs : Int.fmod ns.sum 2 ≠ 0) : (Int.fmod ns.sum 2 == 0) = true ↔ (Int.fmod ns.sum 2 = 0 ∧ ∀ x ∈ ns, 0 ≤ x) := by
  rw [beq_iff_eq]
  exact ⟨fun h => absurd h hs, fun h => h.1⟩
structure MInv (pre : List Int) (dsum dmax : Int) : Prop where
  sum : dsum = pre.sum
  nn : 0 ≤ dmax
  all : ∀ x ∈ pre, 0 ≤ x ∧ x ≤ dmax
  wit : dmax = 0 ∨ dmax ∈ pre
theorem mu0 : (-100 : Int) ≤ 0 ∧ (0 : Int) ≤ 100 ∧ MInv [] 0 0 := ⟨by omega, by omega, by simp, by omega, by simp, .inl rfl⟩
theorem mu1 {pre : List Int} {dsum dmax x : Int} (h : MInv pre dsum dmax) (hx : ¬ x < 0) (h100 : dmax ≤ 100) (hx2 : -100 ≤ x ∧ x ≤ 100) : (-100 : Int) ≤ (if x > dmax then x else dmax) ∧ (if x > dmax then x else dmax) ≤ 100 ∧ MInv (pre ++ [x]) (dsum + x) (if x > dmax then x else dmax) := by
  have nn := h.nn
  refine ⟨by split <;> omega, by split <;> omega, ?_, by split <;> omega, fun y hy => ?_, ?_⟩
  · rw [List.sum_append]; simp [h.sum]
  · rcases List.mem_append.mp hy with hy | hy
    · have := h.all y hy
      split <;> omega
    · have := List.mem_singleton.mp hy
      split <;> omega
  · split
    · exact .inr (by simp)
    · rcases h.wit with q | q
      · exact .inl q
      · exact .inr (List.mem_append_left _ q)
def Mul (ns : List Int) : Prop := (Int.fmod ns.sum 2 = 0 ∧ ∀ x ∈ ns, 0 ≤ x) ∧ ∀ x ∈ ns, 2 * x ≤ ns.sum
theorem mu_neg {ns pre post : List Int} {x : Int} (e : ns = pre ++ x :: post) (h : x < 0) {b : Bool} (hb : b = false) : b = true ↔ Mul ns := by
  subst hb
  refine ⟨fun q => (by cases q), fun q => ?_⟩
  have := q.1.2 x (by rw [e]; simp)
  omega
theorem mu_odd {ns : List Int} {dsum dmax : Int} (h : MInv ns dsum dmax) (ho : Int.fmod dsum 2 ≠ 0) {b : Bool} (hb : b = false) : b = true ↔ Mul ns := by
  subst hb
  exact ⟨fun q => (by cases q), fun q => absurd (h.sum ▸ q.1.1) ho⟩
theorem mu_small {ns : List Int} {dsum dmax : Int} (h : MInv ns dsum dmax) (ho : dsum < 2 * dmax) {b : Bool} (hb : b = false) : b = true ↔ Mul ns := by
  subst hb
  refine ⟨fun q => (by cases q), fun q => ?_⟩
  have hs := h.sum
  rcases h.wit with e | e
  · have : ns.sum < 0 := by omega
    have nn : ∀ l : List Int, (∀ x ∈ l, 0 ≤ x) → 0 ≤ l.sum := by
      intro l
      induction l with
      | nil => simp
      | cons y l ih =>
        intro hl
        have := ih fun z hz => hl z (.tail _ hz)
        have := hl y (.head _)
        rw [List.sum_cons]; omega
    have := nn ns q.1.2
    omega
  · have := q.2 dmax e
    omega
theorem mu_ok {ns : List Int} {dsum dmax : Int} (h : MInv ns dsum dmax) (h1 : Int.fmod dsum 2 = 0) (h2 : ¬ dsum < 2 * dmax) {b : Bool} (hb : b = true) : b = true ↔ Mul ns := by
  subst hb
  have hs := h.sum
  exact ⟨fun _ => ⟨⟨hs ▸ h1, fun x hx => (h.all x hx).1⟩, fun x hx => by have := (h.all x hx).2; omega⟩, fun _ => rfl⟩
end Mine

open PySem PySem.W PyProof.Rows PySem.Calls PySem.Spec
set_option Elab.async false
set_option maxRecDepth 100000
namespace Mine
section
variable {prog : Program} {w : World} {A : Around} {E : Value → Shared → Prop} {s : Shared} {h₀ : Heap} {L a : Addr} {cn : Str} {cs : Scope} {ccd : Value} {cl : List (Str × Addr)} {m₀ : Str → Option Value}

def CellEnd (s : Shared) (h₀ : Heap) (L : Addr) (m₀ : Str → Option Value) (it : Addr × Obj) (c : Addr) (rest : List (Addr × Obj)) (P : Prop) (s' : Shared) : Prop :=
  ∃ h' tk' o', s' = { s with heap := h', toks := tk' } ∧ Fr h₀ L h' m₀ ∧ News h₀ L h' (it :: (c, o') :: rest) ∧ (∃ v, o'.data = .cell v) ∧ P
def CellPost (s : Shared) (h₀ : Heap) (L : Addr) (m₀ : Str → Option Value) (it : Addr × Obj) (c : Addr) (rest : List (Addr × Obj)) (P : Prop) (Q : Flow → Shared → Prop) (f : Flow) (s' : Shared) : Prop :=
  match f with
  | .ret v => Q (.ret v) s'
  | .brk => Q .next s'
  | _ => CellEnd s h₀ L m₀ it c rest P s'

/-- a range whose own name is a captured one -/
theorem range_cell {x : Str} {px : Pos} {body : List Stmt} {Q : Flow → Shared → Prop} {c r : Addr} {o₀ : Obj} {v₀ : Option Value} {a₀ b₀ : Int} {t₀ u₀ v₁ : Tok} {n : Nat} {rest : List (Addr × Obj)} (P : Nat → Prop)
    (hh : A.handled = none) (hk : cs.kind = .function) (hx : (envX cn cs L a ccd cl).kindOf x = some .cell) (hc : cl.lookup x = some c)
    (hr : IsRange s.heap r a₀ b₀ 1 t₀ u₀ v₁) (hsmall : Builtin.Range.small a₀ b₀ 1 = true) (hn : Builtin.Range.rangeSize a₀ b₀ 1 = (n : Int))
    (F : Fr h₀ L s.heap m₀) (N : News h₀ L s.heap ((c, o₀) :: rest)) (hd : o₀.data = .cell v₀) (hne : ∀ p ∈ rest, p.1 ≠ c) (hp : P 0)
    (turn : ∀ (i : Nat) k t h tk o it, i < n → k = a₀ + (i : Int) → P i → o.data = .cell (some (.int k t)) → it.1 ≠ c → (∀ p ∈ rest, p.1 ≠ it.1) → Fr h₀ L h m₀ → News h₀ L h (it :: (c, o) :: rest) →
      wpAny (model prog w) A (execs body (envX cn cs L a ccd cl)) (CellPost { s with heap := h, toks := tk } h₀ L m₀ it c rest (P (i + 1)) Q) E { s with heap := h, toks := tk })
    (done : ∀ h tk o, P n → (∃ v, o.data = .cell v) → Fr h₀ L h m₀ → News h₀ L h ((c, o) :: rest) → Q .next { s with heap := h, toks := tk })
    (hE : PassesOwn (model prog w) A (envX cn cs L a ccd cl) E := by passes_own) :
    wpAny (model prog w) A (pyIter (.ref r)) (fun it s₂ => codeAny (model prog w) A (.forLoop (.Name x px) it body [] (envX cn cs L a ccd cl)) (fun r s' => match r with | .ok f => Q f s' | .error e => cameBackBy (model prog w) A (envX cn cs L a ccd cl) E e s') s₂) E s := by
  refine wpAny_pyIter_range hr hsmall ?_
  have W := Walks.range (prog := prog) (w := w) (A := A) hh s.heap.objs.size a₀ 1 n
  have hIc : s.heap.objs.size ≠ c := fun q => by
    have := Heap.lt_size (N _ (.head _)).1
    exact absurd (q ▸ this) (Nat.lt_irrefl _)
  have hIr : ∀ p ∈ rest, p.1 ≠ s.heap.objs.size := fun p hp q => by
    have := Heap.lt_size (N p (.tail _ hp)).1
    rw [q] at this
    exact absurd this (Nat.lt_irrefl _)
  have hIL : L ≠ s.heap.objs.size := fun q => by
    have := F.ns.lt
    rw [q] at this
    exact absurd this (Nat.lt_irrefl _)
  have hI0 : h₀.get? s.heap.objs.size = none := none_at_size F
  refine codeAny_forLoop
    (fun k s' => ∃ h' tk o i, s' = { s with heap := h', toks := tk } ∧ IsRangeIter h' s.heap.objs.size (a₀ + (i : Nat) * 1) ((n : Int) - (i : Nat)) 1 ∧ Fr h₀ L h' m₀ ∧ News h₀ L h' ((c, o) :: rest) ∧ (∃ v, o.data = .cell v) ∧ P i ∧ i ≤ n ∧ k = n + 1 - i) ?_ (n + 1)
    ⟨_, s.toks, o₀, 0, rfl, ?_, F.push _, (fun p hp => ⟨Heap.get?_push_of_some _ (N p hp).1, (N p hp).2⟩), ⟨_, hd⟩, hp, Nat.zero_le _, rfl⟩
  · rintro k s' ⟨h', tk, o, i, rfl, hst', F', N', ⟨v', hd'⟩, hP, hi, rfl⟩
    have next : ∀ h₁ : Heap, (∀ b o, b ∉ [s.heap.objs.size] → h'.get? b = some o → h₁.get? b = some o) → Fr h₀ L h₁ m₀ ∧ News h₀ L h₁ ((c, o) :: rest) := fun h₁ hk₁ => by
      have nb : ∀ b, b ≠ s.heap.objs.size → b ∉ [s.heap.objs.size] := fun b q m => q (List.mem_singleton.mp m)
      refine ⟨⟨F'.ns.at' fun o e => hk₁ _ o (nb _ hIL) e, fun b o e => hk₁ b o (nb _ fun q => by rw [q, hI0] at e; cases e) (F'.keep b o e), F'.above⟩, fun p hp => ⟨hk₁ _ _ (nb _ ?_) (N' p hp).1, (N' p hp).2⟩⟩
      rcases List.mem_cons.mp hp with rfl | hp
      · exact Ne.symm hIc
      · exact hIr p hp
    by_cases hlt : i < n
    · refine W.item i _ _ _ hlt hst' fun v h₁ tk₁ hv hst₁ hk₁ => ?_
      obtain ⟨t, rfl⟩ := hv
      obtain ⟨F₁, N₁⟩ := next h₁ hk₁
      have N₂ : News h₀ L h₁ ((s.heap.objs.size, _) :: (c, o) :: rest) := fun p hp => by
        rcases List.mem_cons.mp hp with rfl | hp
        · exact ⟨hst₁, Ne.symm hIL, hI0⟩
        · exact N₁ p hp
      refine wpAny_assign_Name (storeX_C (v := .int (a₀ + (i : Nat) * 1) t) F₁ N₂ hc (UpdF.tail hIc (UpdF.head hne)) hd' (fun h₂ o₂ F₂ N₃ hd₂ => ?_) hk hx)
      refine wpAny_mono (wpAny_passesOwn hE (turn i _ t h₂ tk₁ o₂ (s.heap.objs.size, _) hlt (by omega) hP hd₂ hIc hIr F₂ N₃)) (fun f s₃ h₃ => ?_) fun _ _ e => e
      cases f with
      | ret v => exact h₃
      | brk => exact h₃
      | cont =>
        obtain ⟨h₄, tk₄, o₄, rfl, F₄, N₄, ⟨v₄, hd₄⟩, hP₄⟩ := h₃
        exact ⟨n + 1 - (i + 1), by omega, h₄, tk₄, o₄, i + 1, rfl, (N₄ _ (.head _)).1, F₄, fun p hp => N₄ p (.tail _ hp), ⟨v₄, hd₄⟩, hP₄, hlt, rfl⟩
      | next =>
        obtain ⟨h₄, tk₄, o₄, rfl, F₄, N₄, ⟨v₄, hd₄⟩, hP₄⟩ := h₃
        exact ⟨n + 1 - (i + 1), by omega, h₄, tk₄, o₄, i + 1, rfl, (N₄ _ (.head _)).1, F₄, fun p hp => N₄ p (.tail _ hp), ⟨v₄, hd₄⟩, hP₄, hlt, rfl⟩
    · have hin : i = n := by omega
      subst hin
      refine W.done _ _ _ hst' fun h₁ tk₁ hk₁ => wpAny_execs_nil ?_
      obtain ⟨F₁, N₁⟩ := next h₁ hk₁
      exact done h₁ tk₁ o hP ⟨_, hd'⟩ F₁ N₁
  · show IsRangeIter _ _ _ _ _
    rw [hn]
    simpa using Heap.get?_push_size _ rfl
end
end Mine

open PySem PySem.W PyProof.Rows PySem.Calls PySem.Spec
set_option Elab.async false
set_option maxRecDepth 100000
namespace Mine
section
variable {prog : Program} {w : World} {A : Around} {E : Value → Shared → Prop} {s : Shared} {h₀ : Heap} {L a : Addr} {cn : Str} {cs : Scope} {ccd : Value} {m₀ : Str → Option Value}
def AnyEnd (s : Shared) (h₀ : Heap) (L : Addr) (m : Str → Option Value) (led : List (Addr × Obj)) (P : Prop) (s' : Shared) : Prop :=
  ∃ h' tk', s' = { s with heap := h', toks := tk' } ∧ Fr h₀ L h' m ∧ News h₀ L h' led ∧ P
def AnyPost (s : Shared) (h₀ : Heap) (L : Addr) (m : Str → Option Value) (led : List (Addr × Obj)) (P : Prop) (Q : Flow → Shared → Prop) (f : Flow) (s' : Shared) : Prop :=
  match f with
  | .ret v => Q (.ret v) s'
  | .brk => Q .next s'
  | _ => AnyEnd s h₀ L m led P s'
theorem any_end {led led' : List (Addr × Obj)} {m : Str → Option Value} {h' : Heap} {tk' : Nat} {P : Prop} (F : Fr h₀ L h' m) (N : News h₀ L h' led') (hs : ∀ p ∈ led, p ∈ led') (hp : P) : AnyEnd s h₀ L m led P { s with heap := h', toks := tk' } :=
  ⟨h', tk', rfl, F, fun p hp => N p (hs p hp), hp⟩

/-- a list of whatever items, the body storing nothing -/
theorem list_any {x : Str} {px : Pos} {body : List Stmt} {Q : Flow → Shared → Prop} {l : Addr} {items : List Value} {nn : Nat} {rest : List (Addr × Obj)} (P : Nat → Prop)
    (hh : A.handled = none) (hk : cs.kind = .function) (hx : (envOf cn cs L a ccd).kindOf x = some .local)
    (F : Fr h₀ L s.heap m₀) (N : News h₀ L s.heap ((l, listOf items.toArray nn) :: rest)) (hp : P 0)
    (turn : ∀ (i : Nat) v h tk it, items[i]? = some v → P i → it.1 ≠ l → (∀ p ∈ rest, p.1 ≠ it.1) → Fr h₀ L h (fun y => if y = x then some v else m₀ y) → News h₀ L h (it :: (l, listOf items.toArray nn) :: rest) →
      wpAny (model prog w) A (execs body (envOf cn cs L a ccd)) (AnyPost { s with heap := h, toks := tk } h₀ L (fun y => if y = x then some v else m₀ y) (it :: (l, listOf items.toArray nn) :: rest) (P (i + 1)) Q) E { s with heap := h, toks := tk })
    (done : ∀ h tk u, P items.length → Fr h₀ L h (fun y => if y = x then u else m₀ y) → News h₀ L h ((l, listOf items.toArray nn) :: rest) → Q .next { s with heap := h, toks := tk })
    (hE : PassesOwn (model prog w) A (envOf cn cs L a ccd) E := by passes_own) :
    wpAny (model prog w) A (pyIter (.ref l)) (fun it s₂ => codeAny (model prog w) A (.forLoop (.Name x px) it body [] (envOf cn cs L a ccd)) (fun r s' => match r with | .ok f => Q f s' | .error e => cameBackBy (model prog w) A (envOf cn cs L a ccd) E e s') s₂) E s := by
  have hol : s.heap.get? l = some (listOf items.toArray nn) := (N _ (.head _)).1
  have hls : s.heap.IsList l items.toArray := ⟨_, hol, rfl, nn, rfl⟩
  have hne : l ≠ s.heap.objs.size := Nat.ne_of_lt (Heap.lt_size hol)
  refine wpAny_pyIter_list hls ?_
  have W := Walks.list (prog := prog) (w := w) hh s.heap.objs.size l hne items.toArray
  have hIr : ∀ p ∈ rest, p.1 ≠ s.heap.objs.size := fun p hp q => by
    have := Heap.lt_size (N p (.tail _ hp)).1
    rw [q] at this
    exact absurd this (Nat.lt_irrefl _)
  have hIL : L ≠ s.heap.objs.size := fun q => by
    have := F.ns.lt
    rw [q] at this
    exact absurd this (Nat.lt_irrefl _)
  have hI0 : h₀.get? s.heap.objs.size = none := none_at_size F
  have em : ∀ (u v : Option Value), (fun y => if y = x then v else (fun y => if y = x then u else m₀ y) y) = fun y => if y = x then v else m₀ y := fun u v => by
    funext y
    by_cases h : y = x <;> simp [h]
  refine codeAny_forLoop
    (fun k s' => ∃ h' tk u i, s' = { s with heap := h', toks := tk } ∧ (h'.IsListIter s.heap.objs.size l i ∧ h'.IsList l items.toArray) ∧ Fr h₀ L h' (fun y => if y = x then u else m₀ y) ∧ News h₀ L h' ((l, listOf items.toArray nn) :: rest) ∧ P i ∧ i ≤ items.length ∧ k = items.length + 1 - i) ?_ (items.length + 1)
    ⟨_, s.toks, m₀ x, 0, rfl, ⟨⟨_, Heap.get?_push_size _ rfl, rfl, rfl⟩, hls.at fun o e => Heap.get?_push_of_some _ e⟩, ?_, (fun p hp => ⟨Heap.get?_push_of_some _ (N p hp).1, (N p hp).2⟩), hp, Nat.zero_le _, rfl⟩
  · rintro k s' ⟨h', tk, u, i, rfl, hst', F', N', hP, hi, rfl⟩
    have next : ∀ h₁ : Heap, (∀ b o, b ∉ [s.heap.objs.size] → h'.get? b = some o → h₁.get? b = some o) → Fr h₀ L h₁ (fun y => if y = x then u else m₀ y) ∧ News h₀ L h₁ ((l, listOf items.toArray nn) :: rest) := fun h₁ hk₁ => by
      have nb : ∀ b, b ≠ s.heap.objs.size → b ∉ [s.heap.objs.size] := fun b q m => q (List.mem_singleton.mp m)
      refine ⟨⟨F'.ns.at' fun o e => hk₁ _ o (nb _ hIL) e, fun b o e => hk₁ b o (nb _ fun q => by rw [q, hI0] at e; cases e) (F'.keep b o e), F'.above⟩, fun p hp => ⟨hk₁ _ _ (nb _ ?_) (N' p hp).1, (N' p hp).2⟩⟩
      rcases List.mem_cons.mp hp with rfl | hp
      · exact hne
      · exact hIr p hp
    by_cases hlt : i < items.length
    · refine W.item i _ _ _ (by simpa using hlt) hst' fun v h₁ tk₁ hv hst₁ hk₁ => ?_
      obtain ⟨F₁, N₁⟩ := next h₁ hk₁
      obtain ⟨oI, hoI, hoc, hod⟩ := hst₁.1
      have N₂ : News h₀ L h₁ ((s.heap.objs.size, oI) :: (l, listOf items.toArray nn) :: rest) := fun p hp => by
        rcases List.mem_cons.mp hp with rfl | hp
        · exact ⟨hoI, Ne.symm hIL, hI0⟩
        · exact N₁ p hp
      refine wpAny_assign_Name (storeX_L (cl := []) F₁ N₂ (fun h₂ F₂ N₃ => ?_) hk hx)
      rw [em] at F₂
      refine wpAny_mono (wpAny_passesOwn hE (turn i v h₂ (tk₁ + 1) (s.heap.objs.size, oI) (by simpa using hv) hP (Ne.symm hne) hIr F₂ N₃)) (fun f s₃ h₃ => ?_) fun _ _ e => e
      cases f with
      | ret v => exact h₃
      | brk => exact h₃
      | cont =>
        obtain ⟨h₄, tk₄, rfl, F₄, N₄, hP₄⟩ := h₃
        exact ⟨items.length + 1 - (i + 1), by omega, h₄, tk₄, some v, i + 1, rfl, ⟨⟨oI, (N₄ _ (.head _)).1, hoc, hod⟩, News.isList (fun p hp => N₄ p (.tail _ hp)) (.head _)⟩, F₄, fun p hp => N₄ p (.tail _ hp), hP₄, hlt, rfl⟩
      | next =>
        obtain ⟨h₄, tk₄, rfl, F₄, N₄, hP₄⟩ := h₃
        exact ⟨items.length + 1 - (i + 1), by omega, h₄, tk₄, some v, i + 1, rfl, ⟨⟨oI, (N₄ _ (.head _)).1, hoc, hod⟩, News.isList (fun p hp => N₄ p (.tail _ hp)) (.head _)⟩, F₄, fun p hp => N₄ p (.tail _ hp), hP₄, hlt, rfl⟩
    · have hin : i = items.toArray.size := by simp; omega
      subst hin
      refine W.done _ _ _ hst' fun h₁ tk₁ hk₁ => wpAny_execs_nil ?_
      obtain ⟨F₁, N₁⟩ := next h₁ hk₁
      exact done h₁ tk₁ u (by simpa using hP) F₁ N₁
  · have : (fun y => if y = x then m₀ x else m₀ y) = m₀ := by
      funext y
      by_cases h : y = x <;> simp [h]
    rw [this]
    exact F.push _
end
end Mine

open PySem PySem.W PyProof.Rows PySem.Calls PySem.Spec
set_option Elab.async false
set_option maxRecDepth 100000
namespace Mine
theorem fill_L1 : Challenge.rw_am6015_01.name = Challenge.rw_am6015_01.name ∧ hd.heap_39 = hd.heap_39 := by
  w_top off
  k_fill
  exact ⟨rfl, rfl⟩
local macro_rules | `(tactic| walk_at "eval BinOp") => `(tactic| (k_here; k_gentoks; (try dsimp only)))
local macro_rules | `(tactic| walk_at "eval Name") => `(tactic| (k_here; k_gentoks; (try dsimp only)))
local macro_rules | `(tactic| walk_at "compareOp") => `(tactic| (k_here; k_gentoks; (try dsimp only)))
local macro_rules | `(tactic| k_room) => `(tactic| ((try simp only [depth_mark, depth_under_make, depth_under_kw, depth_in1, depth_deeper, depth_caller]); omega))
local macro_rules | `(tactic| k_units) => `(tactic| first | exact Nat.le_of_ble_eq_true rfl | ((try simp only [units_in1, units_deeper, Around.mark_units, units_caller]); omega))
local macro_rules | `(tactic| units_room) => `(tactic| ((try simp only [units_in1, units_deeper, Around.mark_units, units_caller]); omega))
local macro_rules | `(tactic| walk_at "exec For Name Call cons nil") => `(tactic| (k_here; refine wpAny_For ?_ (by intro _; rfl)))
local macro_rules | `(tactic| kmk_nums) => `(tactic| first | exact kmk_from (by l_ints) (by kmk_sign) | exact kmk_upto (by l_ints) (by kmk_sign))
set_option maxHeartbeats 8000000 in
theorem due_int {w : World} {mean : ExcName → Option Value} {mg mb : Str → Option Value} {dp un : Nat} {gd : Option (List Code)} {cn : Str} {cs : Scope} {a : Addr} {ccd : Value} {outer : List Env} {A₀ : Around} {base h₀ : Heap} {L : Addr} {m : Str → Option Value} {s : Shared} {Q E : Value → Shared → Prop}
    (C : Cal w mean mg mb 2 dp un outer A₀ base h₀ L m cs s.heap)
    {l : Addr} {vs : List Value} {ns : List Int} (hl : s.heap.IsList l vs.toArray) (hi : IntsAre vs ns) (hfit : ns.length ≤ 12) (hbd : ∀ x ∈ ns, -100 ≤ x ∧ x ≤ 100)
    (hret : ∀ (h' : Heap) (tk' : Nat) (b : Bool), Kept s.heap h' → (b = true ↔ Due ns) → Q (.bool b) { s with heap := h', toks := tk' }) :
    wpAny (model PR w) (ktrTop dp un gd cn cs L a ccd [] outer) (call (.ref 128) [.ref l]) Q E s := by
  k_with_none
  k_with "pyIter ref" => k_search (fun pre => pre.length ≤ 12)
  have hdp := C.hdp
  have hun := C.hun
  refine wpAny_call ?_
  k_dflt (refine' enterC C.B C.F C.X C.T ?kA ?kF ?kK ?k6 ?k7 ?k8 ?k9 ?kB ?kD ?_ ?c2 ?c3 ?c4; (case kA => exact rfl); (case kF => exact rfl); (case kK => exact C.hk); (case k6 => k_is); (case k7 => k_is); (case k8 => k_room); (case k9 => first | exact BindsTo.of_eq rfl | exact binds_K (by k_in) rfl (by k_is) rfl rfl rfl); (case kB => exact rfl); (case kD => decide +kernel); (case c2 => exact rfl); (case c3 => exact rfl); (case c4 => exact rfl); k_whole; intro L' h' tk' cells' F' N' Y' B' X' T'; k_cells Y'; (try simp only [List.cons_append, List.nil_append, List.append_nil] at N'); (try dsimp only); (try k_fold))
  k_steps
  rotate_left
  · (rename List.Pairwise _ _ => z_o)
    (rename List.Perm _ _ => z_p)
    (rename List Int => z_n)
    (rename (List.length (List.reverse _) = List.length _) => z_hC)
    (rename IsRange _ _ _ _ _ _ _ _ => z_R)
    (rename Fr _ _ _ _ => z_F2)
    (rename News _ _ _ _ => z_N2)
    have hN' : News s.heap L' _ ((L' + 1, _) :: _) := fun p hp => z_N2 p (by
      rcases List.mem_cons.mp hp with e | hp
      · rw [e]; exact .tail _ (.tail _ (.tail _ (.tail _ (.head _))))
      · exact List.mem_of_mem_take (i := 4) hp)
    refine range_cell (P := fun i => ∀ j : Nat, 1 ≤ j → j ≤ i → okk z_n.reverse j) (n := z_n.length) rfl rfl rfl rfl z_R ?hsm ?hsz z_F2 hN' (by assumption) ?hne ?hp ?turn ?done
    case hsm => exact small_one (by omega) (by omega) (by omega) (by omega)
    case hsz => rw [z_hC, rangeSize_nat 1 _]; omega
    case hne =>
      intro p hp
      simp only [List.take_succ_cons, List.take_zero, List.mem_cons, List.not_mem_nil, or_false] at hp
      rcases hp with rfl | rfl | rfl | rfl <;> refine neN ?_ <;> dsimp only <;> omega
    case hp => intro j h1 h2; omega
    case turn =>
      intro i k t h tk o it hi hk hP ho hic hir F' N'
      k_steps
      · (rename Fr _ _ _ _ => z_F9)
        exact hret _ _ _ z_F9.keep (due_f3 rfl z_p z_o hk hi (by assumption))
      · (rename Fr _ _ _ _ => z_F9)
        (rename News _ _ _ _ => z_N9)
        refine ⟨_, _, o, rfl, z_F9, fun p hp => z_N9 p ?_, ⟨_, ho⟩, fun j h1 h2 => ?_⟩
        · exact .tail _ (.tail _ (.tail _ hp))
        · by_cases hj : j ≤ i
          · exact hP j h1 hj
          · have e : ((j : Nat) : Int) = k := by omega
            rw [e]
            assumption
    case done =>
      intro h tk o hP ho F' N'
      k_steps
      exact hret _ _ _ F'.keep (due_t rfl z_p z_o (by assumption) (by assumption) hP)
  · (rename Fr _ _ _ _ => z_F9)
    exact hret _ _ _ z_F9.keep (due_f2 rfl (by assumption))
  · (rename Fr _ _ _ _ => z_F9)
    exact hret _ _ _ z_F9.keep (due_f1 rfl (by assumption))
end Mine

open PySem PySem.W PyProof.Rows PySem.Calls PySem.Spec
set_option Elab.async false
set_option maxRecDepth 100000
namespace Mine
theorem fill_E1 : Challenge.rw_am6015_01.name = Challenge.rw_am6015_01.name ∧ hd.heap_39 = hd.heap_39 := by
  w_top off
  k_fill
  exact ⟨rfl, rfl⟩
local macro_rules | `(tactic| walk_at "eval BinOp") => `(tactic| (k_here; k_gentoks; (try dsimp only)))
local macro_rules | `(tactic| walk_at "eval Name") => `(tactic| (k_here; k_gentoks; (try dsimp only)))
local macro_rules | `(tactic| walk_at "compareOp") => `(tactic| (k_here; k_gentoks; (try dsimp only)))
local macro_rules | `(tactic| k_room) => `(tactic| ((try simp only [depth_mark, depth_under_make, depth_under_kw, depth_in1, depth_deeper, depth_caller]); omega))
local macro_rules | `(tactic| k_units) => `(tactic| first | exact Nat.le_of_ble_eq_true rfl | ((try simp only [units_in1, units_deeper, Around.mark_units, units_caller]); omega))
local macro_rules | `(tactic| units_room) => `(tactic| ((try simp only [units_in1, units_deeper, Around.mark_units, units_caller]); omega))
local macro_rules | `(tactic| walk_at "call ref") => `(tactic| (k_here; (with_reducible show wpAny _ _ (call (Value.ref 85) [Value.ref _]) _ _ _); k_dflt (refine' basic_int (C := ⟨?k1, ?k2, ?k3, ?k4, ?k5, ?k6, ?k7⟩) ?k8 ?k9 ?k10 ?k11 ?ret ?exc; (case k1 => k_asm); (case k2 => k_asm); (case k3 => k_asm); (case k4 => k_asm); (case k5 => exact rfl); (case k6 => ((try simp only [depth_deeper, depth_mark]); omega)); (case k7 => ((try simp only [units_deeper, Around.mark_units, units_in1]); omega)); (case k8 => first | is_list | exact News.isList (by k_asm) (by repeat (first | exact List.Mem.head _ | apply List.Mem.tail))); (case k9 => k_asm); (case k10 => omega); (case k11 => assumption)); (case' ret => (intro h' tk' t l' dmax' dmin' dsum' n' t1 t2 t3 t4 nd' us' c' hB' hOdd' hMany' hNd' hI' kK' kt' kl' kne' kot' kol'; (rename Fr _ _ _ _ => lF'); (rename News _ _ _ _ => lN'); have F' := lF'.keeps kK'; have N' := news_add2 lF' lN' kK' kt' kl' kne' kot' kol'; have l1 := kne'; have hbds' := BInv.bds hB' (by omega) rfl; obtain ⟨b1', b2', b3', b4', b5', b6', b7'⟩ := hbds'; clear kK' kt' kl' kot' kol' lF' lN')); (case' exc => (intro h' tk' e' t' news' hBad' S' R' U'))))
local macro_rules | `(tactic| mul_fits) => `(tactic| first | exact PySem.IntMulOk.of_left (PySem.intBits_le_64 (by omega) (by omega)) | exact PySem.IntMulOk.of_right (PySem.intBits_le_64 (by omega) (by omega)))
local macro_rules | `(tactic| walk_at "ite") => `(tactic| (k_closed; refine ite_isFalse rfl ?_))
set_option maxHeartbeats 8000000 in
theorem eg_int {w : World} {mean : ExcName → Option Value} {mg mb : Str → Option Value} {dp un : Nat} {gd : Option (List Code)} {cn : Str} {cs : Scope} {a : Addr} {ccd : Value} {outer : List Env} {A₀ : Around} {base h₀ : Heap} {L : Addr} {m : Str → Option Value} {s : Shared} {Q E : Value → Shared → Prop}
    (C : Cal w mean mg mb 4 dp un outer A₀ base h₀ L m cs s.heap) (XB : (hd.heap_39 w.params).In base) (TB : TopM mean mg mb base) (D : KtsDicts (outer.filterMap (·.frame)) h₀)
    {l : Addr} {vs : List Value} {ns : List Int} (hl : s.heap.IsList l vs.toArray) (hi : IntsAre vs ns) (hfit : ns.length ≤ 12) (hbd : ∀ x ∈ ns, -100 ≤ x ∧ x ≤ 100)
    (hret : ∀ (h' : Heap) (tk' : Nat) h₀' b, (b = true ↔ Due ns) → Back w mean mg mb outer A₀ base h₀ L m s.heap h₀' h' → Q (.bool b) { s with heap := h', toks := tk' }) :
    wpAny (model PR w) (ktrTop dp un gd cn cs L a ccd [] outer) (call (.ref 99) [.ref l]) Q E s := by
  k_with_none
  k_with "pyIter ref" => k_of "dk" => k_state_given ["dmax", "dmin", "n", "num_degs"] (fun dmax dmin n nd pre k sd nj jnj => 0 ≤ k ∧ k ≤ 13 ∧ EInv (pos ns) nd n (dmax - pre.length) k sd nj jnj) "k" "sum_deg" "sum_nj" "sum_jnj"
  k_with "pyIter ref" => k_of "v" => k_state_given ["k", "num_degs"] (fun k nd pre nj jnj => nj = Tn nd (k + pre.length).toNat ∧ jnj = Jn nd (k + pre.length).toNat) "sum_nj" "sum_jnj"
  k_with "state" => first
    | exact w_start (by assumption)
    | exact w_tj0 (by assumption)
    | exact w_tj1 (by omega) (by assumption) (by assumption) (by assumption)
    | exact w_step (by assumption) (by assumption) (by assumption) (by assumption) (by assumption) (by assumption) (by omega) (by assumption) (by omega) (by first | exact .inl ⟨rfl, by assumption⟩ | exact .inr ⟨rfl, by assumption⟩) (by assumption) (by assumption) (by simp only [rangeKs_length]; omega) (by assumption)
    | exact w_skip (by assumption) (by assumption) (by assumption) (by assumption) (by assumption) (by assumption) (by assumption) (by assumption) (by assumption)
  have hdp := C.hdp
  have hun := C.hun
  have XS9 : (hd.heap_39 w.params).In s.heap := C.X.keeps C.F.keep
  refine wpAny_call ?_
  k_dflt (refine' enterS C.B C.F C.X C.T XB TB D ?kA ?k6 ?k7 ?k8 ?k9 ?kB ?_ ?kK ?c2 ?c3 ?c4 ?c5; (case kA => exact rfl); (case kK => exact C.hk); (case k6 => k_is); (case k7 => k_is); (case k8 => k_room); (case k9 => first | exact BindsTo.of_eq rfl | exact binds_K (by k_in) rfl (by k_is) rfl rfl rfl); (case kB => exact locs rfl); (case c2 => exact rfl); (case c3 => exact rfl); (case c4 => exact rfl); (case c5 => decide); k_whole; intro L' h' F' N' B' X' T' D'; (try dsimp only); (try k_fold))
  k_steps
  · (rename KtsTurn _ _ _ => zT)
    (rename Fr _ _ _ _ => zF)
    exact ⟨_, _, _, zT, zF, fun h₀' hB => hret _ _ h₀' false (w_badf (by assumption) rfl) hB⟩
  · (rename Fr _ _ _ _ => zF)
    exact ⟨_, _, _, KtsTurn.refl, zF, fun h₀' hB => hret _ _ h₀' true (w_n0 (by assumption) (by assumption) (by assumption) rfl) hB⟩
  · (rename Fr _ _ _ _ => zF)
    exact ⟨_, _, _, KtsTurn.refl, zF, fun h₀' hB => hret _ _ h₀' true (w_zz (by assumption) (by assumption) (by assumption) (by assumption) rfl) hB⟩
  · (rename Fr _ _ _ _ => zF)
    exact ⟨_, _, _, KtsTurn.refl, zF, fun h₀' hB => hret _ _ h₀' true (w_ret (by assumption) (by assumption) (by assumption) (by assumption) (by assumption) rfl) hB⟩
  · (rename Fr _ _ _ _ => zF)
    exact ⟨_, _, _, KtsTurn.refl, zF, fun h₀' hB => hret _ _ h₀' false (w_bad (by assumption) (by assumption) (by assumption) (by assumption) (by assumption) (by assumption) (by assumption) (by assumption) (by omega) (by first | exact .inl ⟨rfl, by assumption⟩ | exact .inr ⟨rfl, by assumption⟩) (by assumption) (by assumption) (by simp only [rangeKs_length]; omega) rfl) hB⟩
  · (rename Fr _ _ _ _ => zF)
    exact ⟨_, _, _, KtsTurn.refl, zF, fun h₀' hB => hret _ _ h₀' false (w_bad (by assumption) (by assumption) (by assumption) (by assumption) (by assumption) (by assumption) (by assumption) (by assumption) (by omega) (by first | exact .inl ⟨rfl, by assumption⟩ | exact .inr ⟨rfl, by assumption⟩) (by assumption) (by assumption) (by simp only [rangeKs_length]; omega) rfl) hB⟩
  · (rename Fr _ _ _ _ => zF)
    exact ⟨_, _, _, KtsTurn.refl, zF, fun h₀' hB => hret _ _ h₀' true (w_end (by assumption) (by assumption) (by assumption) (by assumption) (by assumption) (by assumption) (by simp only [downKs_length]) rfl) hB⟩
end Mine

open PySem PySem.W PyProof.Rows PySem.Calls PySem.Spec
set_option Elab.async false
set_option maxRecDepth 100000
namespace Mine
theorem fill_H1 : Challenge.rw_am6015_01.name = Challenge.rw_am6015_01.name ∧ hd.heap_39 = hd.heap_39 := by
  w_top off
  k_fill
  exact ⟨rfl, rfl⟩
local macro_rules | `(tactic| walk_at "eval BinOp") => `(tactic| (k_here; k_gentoks; (try dsimp only)))
local macro_rules | `(tactic| walk_at "eval Name") => `(tactic| (k_here; k_gentoks; (try dsimp only)))
local macro_rules | `(tactic| walk_at "compareOp") => `(tactic| (k_here; k_gentoks; (try dsimp only)))
local macro_rules | `(tactic| k_room) => `(tactic| ((try simp only [depth_mark, depth_under_make, depth_under_kw, depth_in1, depth_deeper, depth_caller]); omega))
local macro_rules | `(tactic| k_units) => `(tactic| first | exact Nat.le_of_ble_eq_true rfl | ((try simp only [units_in1, units_deeper, Around.mark_units, units_caller]); omega))
local macro_rules | `(tactic| units_room) => `(tactic| ((try simp only [units_in1, units_deeper, Around.mark_units, units_caller]); omega))
local macro_rules | `(tactic| walk_at "call ref") => `(tactic| (k_here; (with_reducible show wpAny _ _ (call (Value.ref 85) [Value.ref _]) _ _ _); k_dflt (refine' basic_int (C := ⟨?k1, ?k2, ?k3, ?k4, ?k5, ?k6, ?k7⟩) ?k8 ?k9 ?k10 ?k11 ?ret ?exc; (case k1 => k_asm); (case k2 => k_asm); (case k3 => k_asm); (case k4 => k_asm); (case k5 => exact rfl); (case k6 => ((try simp only [depth_deeper, depth_mark]); omega)); (case k7 => ((try simp only [units_deeper, Around.mark_units, units_in1]); omega)); (case k8 => first | is_list | exact News.isList (by k_asm) (by repeat (first | exact List.Mem.head _ | apply List.Mem.tail))); (case k9 => k_asm); (case k10 => omega); (case k11 => assumption)); (case' ret => (intro h' tk' t l' dmax' dmin' dsum' n' t1 t2 t3 t4 nd' us' c' hB' hOdd' hMany' hNd' hI' kK' kt' kl' kne' kot' kol'; (rename Fr _ _ _ _ => lF'); (rename News _ _ _ _ => lN'); have F' := lF'.keeps kK'; have N' := news_add2 lF' lN' kK' kt' kl' kne' kot' kol'; have l1 := kne'; have hbds' := BInv.bds hB' (by omega) rfl; obtain ⟨b1', b2', b3', b4', b5', b6', b7'⟩ := hbds'; clear kK' kt' kl' kot' kol' lF' lN')); (case' exc => (intro h' tk' e' t' news' hBad' S' R' U'))))
local macro_rules | `(tactic| mul_fits) => `(tactic| first | exact PySem.IntMulOk.of_left (PySem.intBits_le_64 (by omega) (by omega)) | exact PySem.IntMulOk.of_right (PySem.intBits_le_64 (by omega) (by omega)))
local macro_rules | `(tactic| l_idx) => `(tactic| ((rename HInv _ _ _ _ _ _ _ => hG9); (have hG8 := g_get hG9 (by omega) (by omega) (by assumption)); omega))
set_option maxHeartbeats 8000000 in
theorem hh_int {w : World} {mean : ExcName → Option Value} {mg mb : Str → Option Value} {dp un : Nat} {gd : Option (List Code)} {cn : Str} {cs : Scope} {a : Addr} {ccd : Value} {outer : List Env} {A₀ : Around} {base h₀ : Heap} {L : Addr} {m : Str → Option Value} {s : Shared} {Q E : Value → Shared → Prop}
    (C : Cal w mean mg mb 4 dp un outer A₀ base h₀ L m cs s.heap) (XB : (hd.heap_39 w.params).In base) (TB : TopM mean mg mb base) (D : KtsDicts (outer.filterMap (·.frame)) h₀)
    {l : Addr} {vs : List Value} {ns : List Int} (hl : s.heap.IsList l vs.toArray) (hi : IntsAre vs ns) (hfit : ns.length ≤ 12) (hbd : ∀ x ∈ ns, -100 ≤ x ∧ x ≤ 100)
    (hret : ∀ (h' : Heap) (tk' : Nat) h₀' b, (b = true ↔ Due ns) → Back w mean mg mb outer A₀ base h₀ L m s.heap h₀' h' → Q (.bool b) { s with heap := h', toks := tk' }) :
    wpAny (model PR w) (ktrTop dp un gd cn cs L a ccd [] outer) (call (.ref 92) [.ref l]) Q E s := by
  k_with_none
  k_with "exec While Compare cons nil" => k_while (fun _ dmax n nd ms => 0 ≤ dmax ∧ dmax < (nd.length : Int) ∧ (nd.length : Int) ≤ 12 ∧ dmax < (ms.length : Int) ∧ (ms.length : Int) ≤ 13 ∧ 0 ≤ n ∧ n ≤ 12 ∧ WInv ns nd n dmax) (fun _ dmax n nd ms => n.toNat) "dmax" "n" "num_degs" "modstubs"
  k_with "exec While Compare cons nil" => k_while_given ["n", "num_degs", "modstubs"] (fun n nd ms _ dmax => 0 ≤ dmax ∧ dmax < (nd.length : Int) ∧ dmax < (ms.length : Int) ∧ WInv ns nd n dmax) (fun n nd ms _ dmax => dmax.toNat) "dmax"
  k_with "exec While Compare cons nil" => k_while_given ["dmax", "n", "num_degs", "modstubs", "mslen", "i"] (fun a n nd ms mslen i _ k => 0 ≤ k ∧ k ≤ a ∧ FInv ns nd n ms mslen k a i) (fun a n nd ms mslen i _ k => k.toNat) "k"
  k_with "pyIter ref" => k_state_given ["modstubs", "mslen", "n!", "dmax"] (fun ms mslen n₁ a pre nd n => n = n₁ + pre.length ∧ a < (nd.length : Int) ∧ (nd.length : Int) ≤ 12 ∧ HInv ns nd ms mslen a n pre.length) "num_degs" "n"
  k_with "pyIter ref" => k_state_given ["dmax", "n!"] (fun a n₀ pre nd n ms mslen k => n = n₀ - pre.length ∧ 0 ≤ mslen ∧ mslen ≤ 12 ∧ mslen < (ms.length : Int) ∧ mslen ≤ pre.length ∧ 0 ≤ k ∧ k ≤ a ∧ a < (nd.length : Int) ∧ (nd.length : Int) ≤ 12 ∧ a < (ms.length : Int) ∧ (ms.length : Int) ≤ 13 ∧ FInv ns nd n ms mslen k a pre.length) "num_degs" "n" "modstubs" "mslen" "k"
  k_with "state" => first
    | exact v_start (by assumption) (by assumption) (by assumption) (by assumption) (by assumption) (by omega) (by omega) (by omega) (by omega)
    | exact v_down (by assumption) (by assumption) (by assumption) (by assumption) (by assumption) (by assumption)
    | exact v_for (by assumption) (by assumption) (by assumption) (by assumption) (by assumption) (by assumption) (by assumption) (by assumption)
    | exact v_w2 (by assumption) (by assumption) (by assumption) (by assumption)
    | exact v_down2 (by assumption) (by assumption) (by assumption) (by assumption) (by assumption) (by assumption) (by assumption)
    | exact v_s1 (by assumption) (by assumption) (by assumption) (by assumption) (by assumption) (by assumption) (by assumption) (by assumption) (by assumption) (by assumption) (by assumption) (by assumption) (by assumption) (by assumption)
    | exact v_s0 (by assumption) (by assumption) (by assumption) (by assumption) (by assumption) (by assumption) (by assumption) (by assumption) (by assumption) (by assumption) (by assumption) (by assumption) (by assumption) (by assumption) (by assumption)
    | exact v_for2 (by assumption) (rangeKs_length _ _) (by assumption) (by assumption) (by assumption) (by assumption)
    | exact v_g (by assumption) (by assumption) (by assumption) (by assumption) (by assumption) (by assumption)
    | exact v_end (by assumption) (by assumption) (by assumption) (by assumption) (rangeKs_length _ _) (by assumption) (by assumption) (by assumption) (by assumption) (by assumption) (by assumption) (by assumption)
    | exact ⟨by assumption, by assumption, by assumption, by assumption⟩
  k_with "measure" => first
    | exact v_m1 (by assumption) (by assumption) (by assumption) (by assumption) (by assumption)
    | exact v_m2 (by assumption) (by assumption) (by assumption) (by assumption) (by assumption) (by assumption) (by assumption)
    | exact v_m3 (by assumption) (by assumption) (by assumption) (by assumption) (rangeKs_length _ _) (by assumption) (by assumption)
  have hdp := C.hdp
  have hun := C.hun
  have XS9 : (hd.heap_39 w.params).In s.heap := C.X.keeps C.F.keep
  refine wpAny_call ?_
  k_dflt (refine' enterS C.B C.F C.X C.T XB TB D ?kA ?k6 ?k7 ?k8 ?k9 ?kB ?_ ?kK ?c2 ?c3 ?c4 ?c5; (case kA => exact rfl); (case kK => exact C.hk); (case k6 => k_is); (case k7 => k_is); (case k8 => k_room); (case k9 => first | exact BindsTo.of_eq rfl | exact binds_K (by k_in) rfl (by k_is) rfl rfl rfl); (case kB => exact locs rfl); (case c2 => exact rfl); (case c3 => exact rfl); (case c4 => exact rfl); (case c5 => decide); k_whole; intro L' h' F' N' B' X' T' D'; (try dsimp only); (try k_fold))
  k_steps
  · (rename KtsTurn _ _ _ => zT)
    (rename Fr _ _ _ _ => zF)
    exact ⟨_, _, _, zT, zF, fun h₀' hB => hret _ _ h₀' false (w_badf (by assumption) rfl) hB⟩
  · (rename Fr _ _ _ _ => zF)
    exact ⟨_, _, _, KtsTurn.refl, zF, fun h₀' hB => hret _ _ h₀' true (w_n0 (by assumption) (by assumption) (by assumption) rfl) hB⟩
  · (rename Fr _ _ _ _ => zF)
    exact ⟨_, _, _, KtsTurn.refl, zF, fun h₀' hB => hret _ _ h₀' true (w_zz (by assumption) (by assumption) (by assumption) (by assumption) rfl) hB⟩
  · (rename Fr _ _ _ _ => zF)
    exact ⟨_, _, _, KtsTurn.refl, zF, fun h₀' hB => hret _ _ h₀' false (v_false (by assumption) (by assumption) (by assumption) (by assumption) (by assumption) rfl) hB⟩
  · (rename Fr _ _ _ _ => zF)
    exact ⟨_, _, _, KtsTurn.refl, zF, fun h₀' hB => hret _ _ h₀' true (v_true (by assumption) (by assumption) (by assumption) (by assumption) rfl) hB⟩
end Mine

open PySem PySem.W PyProof.Rows PySem.Calls PySem.Spec
set_option Elab.async false
set_option maxRecDepth 100000
namespace Mine
theorem fill_P1 : Challenge.rw_am6015_01.name = Challenge.rw_am6015_01.name ∧ hd.heap_39 = hd.heap_39 := by
  w_top off
  k_fill
  exact ⟨rfl, rfl⟩
local macro_rules | `(tactic| walk_at "pad0") => `(tactic| skip)
local macro_rules | `(tactic| walk_at "eval BinOp") => `(tactic| (k_here; k_gentoks; (try dsimp only)))
local macro_rules | `(tactic| walk_at "eval Name") => `(tactic| (k_here; k_gentoks; (try dsimp only)))
local macro_rules | `(tactic| walk_at "compareOp") => `(tactic| (k_here; k_gentoks; (try dsimp only)))
local macro_rules | `(tactic| k_room) => `(tactic| ((try simp only [depth_mark, depth_under_make, depth_under_kw, depth_in1, depth_deeper, depth_caller]); omega))
local macro_rules | `(tactic| k_units) => `(tactic| first | exact Nat.le_of_ble_eq_true rfl | ((try simp only [units_in1, units_deeper, Around.mark_units, units_caller]); omega))
local macro_rules | `(tactic| units_room) => `(tactic| ((try simp only [units_in1, units_deeper, Around.mark_units, units_caller]); omega))
local macro_rules | `(tactic| walk_at "call ref") => `(tactic| (k_here; (with_reducible show wpAny _ _ (call (Value.ref 70) [Value.ref _]) _ _ _); k_dflt (refine' make_int (C := ⟨?k1, ?k2, ?k3, ?k4, ?k5, ?k6, ?k7⟩) ?k8 ?k9 ?k10 ?_; (case k1 => k_asm); (case k2 => k_asm); (case k3 => k_asm); (case k4 => k_asm); (case k5 => exact rfl); (case k6 => ((try simp only [depth_deeper, depth_mark]); omega)); (case k7 => ((try simp only [units_deeper, Around.mark_units, units_in1]); omega)); (case k8 => first | is_list | exact News.isList (by k_asm) (by repeat (first | exact List.Mem.head _ | apply List.Mem.tail))); (case k9 => k_asm); (case k10 => omega); k_whole); intro h' tk' l' n' kK' kN' kO'; (rename Fr _ _ _ _ => lF'); (rename News _ _ _ _ => lN'); have F' := lF'.keeps kK'; have N' := news_add lF' lN' kK' kN' kO'; have l1 := news_off lN' kN'; clear kK' kN' kO' lF' lN'))
set_option maxHeartbeats 8000000 in
theorem pseudo_int {w : World} {mean : ExcName → Option Value} {mg mb : Str → Option Value} {dp un : Nat} {gd : Option (List Code)} {cn : Str} {cs : Scope} {a : Addr} {ccd : Value} {outer : List Env} {A₀ : Around} {base h₀ : Heap} {L : Addr} {m : Str → Option Value} {s : Shared} {Q E : Value → Shared → Prop}
    (C : Cal w mean mg mb 3 dp un outer A₀ base h₀ L m cs s.heap)
    {l : Addr} {vs : List Value} {ns : List Int} (hl : s.heap.IsList l vs.toArray) (hi : IntsAre vs ns) (hfit : ns.length ≤ 12) (hne : 1 ≤ ns.length)
    (hret : ∀ (h' : Heap) (tk' : Nat) (b : Bool), Kept s.heap h' → (b = true ↔ (Int.fmod ns.sum 2 = 0 ∧ ∀ x ∈ ns, 0 ≤ x)) → Q (.bool b) { s with heap := h', toks := tk' }) :
    wpAny (model PR w) (ktrTop dp un gd cn cs L a ccd [] outer) (call (.ref 113) [.ref l]) Q E s := by
  k_with_none
  have hdp := C.hdp
  have hun := C.hun
  refine wpAny_call ?_
  k_dflt (refine' enter C.B C.F C.X C.T ?kA ?kF ?kK ?k6 ?k7 ?k8 ?k9 ?kB ?_ ?c5 ?c2 ?c3 ?c4; (case kA => exact rfl); (case kF => exact rfl); (case kK => exact C.hk); (case k6 => k_is); (case k7 => k_is); (case k8 => k_room); (case k9 => first | exact BindsTo.of_eq rfl | exact binds_K (by k_in) rfl (by k_is) rfl rfl rfl); (case c5 => decide); (case kB => exact locs rfl); (case c2 => exact rfl); (case c3 => exact rfl); (case c4 => exact rfl); k_whole; intro L' h' F' N' B' X' T'; (try dsimp only); (try k_fold))
  have kdX := ktsDicts_nil (g := s.heap)
  k_steps
  · (rename Fr _ _ _ _ => zF)
    exact hret _ _ _ zF.keep (ps1 (by assumption) (by assumption) (by assumption))
  · (rename Fr _ _ _ _ => zF)
    exact hret _ _ _ zF.keep (ps2 (by assumption))
set_option maxHeartbeats 8000000 in
theorem multi_int {w : World} {mean : ExcName → Option Value} {mg mb : Str → Option Value} {dp un : Nat} {gd : Option (List Code)} {cn : Str} {cs : Scope} {a : Addr} {ccd : Value} {outer : List Env} {A₀ : Around} {base h₀ : Heap} {L : Addr} {m : Str → Option Value} {s : Shared} {Q E : Value → Shared → Prop}
    (C : Cal w mean mg mb 3 dp un outer A₀ base h₀ L m cs s.heap)
    {l : Addr} {vs : List Value} {ns : List Int} (hl : s.heap.IsList l vs.toArray) (hi : IntsAre vs ns) (hfit : ns.length ≤ 12) (hbd : ∀ x ∈ ns, -100 ≤ x ∧ x ≤ 100)
    (hret : ∀ (h' : Heap) (tk' : Nat) (b : Bool), Kept s.heap h' → (b = true ↔ Mul ns) → Q (.bool b) { s with heap := h', toks := tk' }) :
    wpAny (model PR w) (ktrTop dp un gd cn cs L a ccd [] outer) (call (.ref 106) [.ref l]) Q E s := by
  k_with_none
  k_with "pyIter ref" => k_state (fun pre dsum dmax => -100 ≤ dmax ∧ dmax ≤ 100 ∧ MInv pre dsum dmax) "dsum" "dmax"
  k_with "state" => first | exact mu0 | exact mu1 (by assumption) (by assumption) (by assumption) (hbd _ (by assumption))
  have hdp := C.hdp
  have hun := C.hun
  refine wpAny_call ?_
  k_dflt (refine' enter C.B C.F C.X C.T ?kA ?kF ?kK ?k6 ?k7 ?k8 ?k9 ?kB ?_ ?c5 ?c2 ?c3 ?c4; (case kA => exact rfl); (case kF => exact rfl); (case kK => exact C.hk); (case k6 => k_is); (case k7 => k_is); (case k8 => k_room); (case k9 => first | exact BindsTo.of_eq rfl | exact binds_K (by k_in) rfl (by k_is) rfl rfl rfl); (case c5 => decide); (case kB => exact locs rfl); (case c2 => exact rfl); (case c3 => exact rfl); (case c4 => exact rfl); k_whole; intro L' h' F' N' B' X' T'; (try dsimp only); (try k_fold))
  have kdX := ktsDicts_nil (g := s.heap)
  k_steps
  · (rename Fr _ _ _ _ => zF)
    exact hret _ _ _ zF.keep (mu_neg kEq (by assumption) rfl)
  · (rename Fr _ _ _ _ => zF)
    exact hret _ _ _ zF.keep (mu_odd (by assumption) (by assumption) rfl)
  · (rename Fr _ _ _ _ => zF)
    exact hret _ _ _ zF.keep (mu_small (by assumption) (by assumption) rfl)
  · (rename Fr _ _ _ _ => zF)
    exact hret _ _ _ zF.keep (mu_ok (by assumption) (by assumption) (by assumption) rfl)
end Mine

open PySem PySem.W PyProof.Rows PySem.Calls PySem.Spec
set_option Elab.async false
set_option maxRecDepth 100000
namespace Mine
theorem fill_W1 : Challenge.rw_am6015_01.name = Challenge.rw_am6015_01.name ∧ hd.heap_39 = hd.heap_39 := by
  w_top off
  k_fill
  exact ⟨rfl, rfl⟩
local macro_rules | `(tactic| walk_at "eval BinOp") => `(tactic| (k_here; k_gentoks; (try dsimp only)))
local macro_rules | `(tactic| walk_at "eval Name") => `(tactic| (k_here; k_gentoks; (try dsimp only)))
local macro_rules | `(tactic| walk_at "compareOp") => `(tactic| (k_here; k_gentoks; (try dsimp only)))
local macro_rules | `(tactic| k_room) => `(tactic| ((try simp only [depth_mark, depth_under_make, depth_under_kw, depth_in1, depth_deeper, depth_caller]); omega))
local macro_rules | `(tactic| k_units) => `(tactic| first | exact Nat.le_of_ble_eq_true rfl | ((try simp only [units_in1, units_deeper, Around.mark_units, units_caller]); omega))
local macro_rules | `(tactic| units_room) => `(tactic| ((try simp only [units_in1, units_deeper, Around.mark_units, units_caller]); omega))
theorem mixed_item {vs : List Value} {ns : List Int} {w v : Value} {i : Nat} (hi : IntsAre vs ns) (h : (vs ++ [w])[i]? = some v) : (i < vs.length ∧ ∃ n t, v = .int n t) ∨ v = w := by
  rcases List.getElem?_eq_some_iff.mp h with ⟨hlt, he⟩
  by_cases hl : i < vs.length
  · rw [List.getElem_append_left hl] at he
    have hin : i < ns.length := by rw [← hi.length]; exact hl
    obtain ⟨t, ht⟩ := hi.get i ns[i] (by simp [hin])
    rw [List.getElem?_eq_getElem hl, he] at ht
    exact .inl ⟨hl, _, t, Option.some.inj ht⟩
  · rw [List.getElem_append_right (by omega)] at he
    simp at he
    exact .inr he.symm
local macro_rules | `(tactic| walk_at "exec For Name Name cons nil") => `(tactic| (k_here; (with_unfolding_all refine' wpAny_For ?_ ?hs; (case hs => (intro _; with_unfolding_all rfl)))))
local macro_rules | `(tactic| size_fits) => `(tactic| ((have hL9 := IntsAre.length (by assumption)); (simp only [List.size_toArray, List.length_append, List.length_cons, List.length_nil, PySem.sizeLine_eq]); omega))
set_option maxHeartbeats 8000000 in
theorem make_word {w : World} {mean : ExcName → Option Value} {mg mb : Str → Option Value} {dp un : Nat} {gd : Option (List Code)} {cn : Str} {cs : Scope} {a : Addr} {ccd : Value} {outer : List Env} {A₀ : Around} {base h₀ : Heap} {L : Addr} {m : Str → Option Value} {s : Shared} {Q E : Value → Shared → Prop}
    (C : Cal w mean mg mb 1 dp un outer A₀ base h₀ L m cs s.heap)
    {l : Addr} {vs : List Value} {ns : List Int} {sx : Str} {tx : Tok} (hl : s.heap.IsList l (vs ++ [Value.str sx tx]).toArray) (hi : IntsAre vs ns) (hfit : ns.length < 2 ^ 20)
    (hexc : ∀ (h' : Heap) (tk' : Nat) (e t : Addr) (ws : List Value) (news : List (Addr × Obj)), RaisedS base s.heap (envOf cn cs L a ccd :: outer) e (.ref 37) t ws news h' → RaisedK base (envOf cn cs L a ccd :: outer) e (.ref 37) t ws news h' → s.heap.UpToSlots h' → E (.ref e) { s with heap := h', toks := tk' }) :
    wpAny (model PR w) (ktrTop dp un gd cn cs L a ccd [] outer) (call (.ref 70) [.ref l]) Q E s := by
  k_with_none
  have hdp := C.hdp
  have hun := C.hun
  refine wpAny_call ?_
  k_dflt (refine' enter C.B C.F C.X C.T ?kA ?kF ?kK ?k6 ?k7 ?k8 ?k9 ?kB ?_ ?c5 ?c2 ?c3 ?c4; (case kA => exact rfl); (case kF => exact rfl); (case kK => exact C.hk); (case k6 => k_is); (case k7 => k_is); (case k8 => k_room); (case k9 => first | exact BindsTo.of_eq rfl | exact binds_K (by k_in) rfl (by k_is) rfl rfl rfl); (case c5 => decide); (case kB => exact locs rfl); (case c2 => exact rfl); (case c3 => exact rfl); (case c4 => exact rfl); k_whole; intro L' h' F' N' B' X' T'; (try dsimp only); (try k_fold))
  have kdX := ktsDicts_nil (g := s.heap)
  k_steps
  (rename Fr _ _ _ _ => zF)
  (rename News _ _ _ _ => zN)
  refine list_any (P := fun i => i ≤ vs.length) rfl rfl rfl zF zN (Nat.zero_le _) ?turn ?done
  case done =>
    intro h tk u hP F N
    exfalso
    simp only [List.length_append, List.length_cons, List.length_nil] at hP
    omega
  case turn =>
    intro i v h tk it hv hP hn1 hn2 F N
    rcases mixed_item hi hv with ⟨hlt, n, t, rfl⟩ | rfl
    · k_steps
      exact any_end F N (fun _ hp => hp) (by omega)
    · k_steps
      exact hexc _ _ _ _ _ _ (by assumption) (by assumption) (by assumption)
end Mine

open PySem PySem.W PyProof.Rows PySem.Calls PySem.Spec
set_option Elab.async false
set_option maxRecDepth 100000
namespace Mine
theorem fill_W2 : Challenge.rw_am6015_01.name = Challenge.rw_am6015_01.name ∧ hd.heap_39 = hd.heap_39 := by
  w_top off
  k_fill
  exact ⟨rfl, rfl⟩
local macro_rules | `(tactic| walk_at "pad0") => `(tactic| skip)
local macro_rules | `(tactic| walk_at "eval BinOp") => `(tactic| (k_here; k_gentoks; (try dsimp only)))
local macro_rules | `(tactic| walk_at "eval Name") => `(tactic| (k_here; k_gentoks; (try dsimp only)))
local macro_rules | `(tactic| walk_at "compareOp") => `(tactic| (k_here; k_gentoks; (try dsimp only)))
local macro_rules | `(tactic| k_room) => `(tactic| ((try simp only [depth_mark, depth_under_make, depth_under_kw, depth_in1, depth_deeper, depth_caller]); omega))
local macro_rules | `(tactic| k_units) => `(tactic| first | exact Nat.le_of_ble_eq_true rfl | ((try simp only [units_in1, units_deeper, Around.mark_units, units_caller]); omega))
local macro_rules | `(tactic| units_room) => `(tactic| ((try simp only [units_in1, units_deeper, Around.mark_units, units_caller]); omega))
local macro_rules | `(tactic| walk_at "call ref") => `(tactic| (k_here; (with_reducible show wpAny _ _ (call (Value.ref 70) [Value.ref _]) _ _ _); k_dflt (refine' make_word (C := ⟨?k1, ?k2, ?k3, ?k4, ?k5, ?k6, ?k7⟩) ?k8 ?k9 ?k10 ?_; (case k1 => k_asm); (case k2 => k_asm); (case k3 => k_asm); (case k4 => k_asm); (case k5 => exact rfl); (case k6 => ((try simp only [depth_deeper, depth_mark]); omega)); (case k7 => ((try simp only [units_deeper, Around.mark_units, units_in1]); omega)); (case k8 => is_list); (case k9 => k_asm); (case k10 => omega); k_whole); intro h' tk' e' t' ws' news' S' R' U'))
set_option maxHeartbeats 8000000 in
theorem basic_word {w : World} {mean : ExcName → Option Value} {mg mb : Str → Option Value} {dp un : Nat} {gd : Option (List Code)} {cn : Str} {cs : Scope} {a : Addr} {ccd : Value} {outer : List Env} {A₀ : Around} {base h₀ : Heap} {L : Addr} {m : Str → Option Value} {s : Shared} {Q E : Value → Shared → Prop}
    (C : Cal w mean mg mb 2 dp un outer A₀ base h₀ L m cs s.heap)
    {l : Addr} {vs : List Value} {ns : List Int} {sx : Str} {tx : Tok} (hl : s.heap.IsList l (vs ++ [Value.str sx tx]).toArray) (hi : IntsAre vs ns) (hfit : ns.length < 2 ^ 20)
    (hexc : ∀ (h' : Heap) (tk' : Nat) (e t : Addr) (ws : List Value) (news : List (Addr × Obj)), RaisedS base s.heap (envOf cn cs L a ccd :: outer) e (.ref 37) t ws news h' → RaisedK base (envOf cn cs L a ccd :: outer) e (.ref 37) t ws news h' → s.heap.UpToSlots h' → E (.ref e) { s with heap := h', toks := tk' }) :
    wpAny (model PR w) (ktrTop dp un gd cn cs L a ccd [] outer) (call (.ref 85) [.ref l]) Q E s := by
  k_with_none
  have hdp := C.hdp
  have hun := C.hun
  refine wpAny_call ?_
  k_dflt (refine' enter C.B C.F C.X C.T ?kA ?kF ?kK ?k6 ?k7 ?k8 ?k9 ?kB ?_ ?c5 ?c2 ?c3 ?c4; (case kA => exact rfl); (case kF => exact rfl); (case kK => exact C.hk); (case k6 => k_is); (case k7 => k_is); (case k8 => k_room); (case k9 => first | exact BindsTo.of_eq rfl | exact binds_K (by k_in) rfl (by k_is) rfl rfl rfl); (case c5 => decide); (case kB => exact locs rfl); (case c2 => exact rfl); (case c3 => exact rfl); (case c4 => exact rfl); k_whole; intro L' h' F' N' B' X' T'; (try dsimp only); (try k_fold))
  have kdX := ktsDicts_nil (g := s.heap)
  k_steps
  all_goals exact hexc _ _ _ _ _ _ (by assumption) (by assumption) (by assumption)
set_option maxHeartbeats 8000000 in
theorem pseudo_word {w : World} {mean : ExcName → Option Value} {mg mb : Str → Option Value} {dp un : Nat} {gd : Option (List Code)} {cn : Str} {cs : Scope} {a : Addr} {ccd : Value} {outer : List Env} {A₀ : Around} {base h₀ : Heap} {L : Addr} {m : Str → Option Value} {s : Shared} {Q E : Value → Shared → Prop}
    (C : Cal w mean mg mb 2 dp un outer A₀ base h₀ L m cs s.heap) (XB : (hd.heap_39 w.params).In base) (TB : TopM mean mg mb base) (D : KtsDicts (outer.filterMap (·.frame)) h₀)
    {l : Addr} {vs : List Value} {ns : List Int} {sx : Str} {tx : Tok} (hl : s.heap.IsList l (vs ++ [Value.str sx tx]).toArray) (hi : IntsAre vs ns) (hfit : ns.length < 2 ^ 20)
    (hret : ∀ (h' : Heap) (tk' : Nat) h₀', Back w mean mg mb outer A₀ base h₀ L m s.heap h₀' h' → Q (.bool false) { s with heap := h', toks := tk' }) :
    wpAny (model PR w) (ktrTop dp un gd cn cs L a ccd [] outer) (call (.ref 113) [.ref l]) Q E s := by
  k_with_none
  have hdp := C.hdp
  have hun := C.hun
  have XS9 : (hd.heap_39 w.params).In s.heap := C.X.keeps C.F.keep
  refine wpAny_call ?_
  k_dflt (refine' enterS C.B C.F C.X C.T XB TB D ?kA ?k6 ?k7 ?k8 ?k9 ?kB ?_ ?kK ?c2 ?c3 ?c4 ?c5; (case kA => exact rfl); (case kK => exact C.hk); (case k6 => k_is); (case k7 => k_is); (case k8 => k_room); (case k9 => first | exact BindsTo.of_eq rfl | exact binds_K (by k_in) rfl (by k_is) rfl rfl rfl); (case kB => exact locs rfl); (case c2 => exact rfl); (case c3 => exact rfl); (case c4 => exact rfl); (case c5 => decide); k_whole; intro L' h' F' N' B' X' T' D'; (try dsimp only); (try k_fold))
  k_steps
  (rename KtsTurn _ _ _ => zT)
  (rename Fr _ _ _ _ => zF)
  exact ⟨_, _, _, zT, zF, fun h₀' hB => hret _ _ h₀' hB⟩
set_option maxHeartbeats 8000000 in
theorem multi_word {w : World} {mean : ExcName → Option Value} {mg mb : Str → Option Value} {dp un : Nat} {gd : Option (List Code)} {cn : Str} {cs : Scope} {a : Addr} {ccd : Value} {outer : List Env} {A₀ : Around} {base h₀ : Heap} {L : Addr} {m : Str → Option Value} {s : Shared} {Q E : Value → Shared → Prop}
    (C : Cal w mean mg mb 2 dp un outer A₀ base h₀ L m cs s.heap) (XB : (hd.heap_39 w.params).In base) (TB : TopM mean mg mb base) (D : KtsDicts (outer.filterMap (·.frame)) h₀)
    {l : Addr} {vs : List Value} {ns : List Int} {sx : Str} {tx : Tok} (hl : s.heap.IsList l (vs ++ [Value.str sx tx]).toArray) (hi : IntsAre vs ns) (hfit : ns.length < 2 ^ 20)
    (hret : ∀ (h' : Heap) (tk' : Nat) h₀', Back w mean mg mb outer A₀ base h₀ L m s.heap h₀' h' → Q (.bool false) { s with heap := h', toks := tk' }) :
    wpAny (model PR w) (ktrTop dp un gd cn cs L a ccd [] outer) (call (.ref 106) [.ref l]) Q E s := by
  k_with_none
  have hdp := C.hdp
  have hun := C.hun
  have XS9 : (hd.heap_39 w.params).In s.heap := C.X.keeps C.F.keep
  refine wpAny_call ?_
  k_dflt (refine' enterS C.B C.F C.X C.T XB TB D ?kA ?k6 ?k7 ?k8 ?k9 ?kB ?_ ?kK ?c2 ?c3 ?c4 ?c5; (case kA => exact rfl); (case kK => exact C.hk); (case k6 => k_is); (case k7 => k_is); (case k8 => k_room); (case k9 => first | exact BindsTo.of_eq rfl | exact binds_K (by k_in) rfl (by k_is) rfl rfl rfl); (case kB => exact locs rfl); (case c2 => exact rfl); (case c3 => exact rfl); (case c4 => exact rfl); (case c5 => decide); k_whole; intro L' h' F' N' B' X' T' D'; (try dsimp only); (try k_fold))
  k_steps
  (rename KtsTurn _ _ _ => zT)
  (rename Fr _ _ _ _ => zF)
  exact ⟨_, _, _, zT, zF, fun h₀' hB => hret _ _ h₀' hB⟩
end Mine

open PySem PySem.W PyProof.Rows PySem.Calls PySem.Spec
set_option Elab.async false
set_option maxRecDepth 100000
namespace Mine
theorem fill_W3 : Challenge.rw_am6015_01.name = Challenge.rw_am6015_01.name ∧ hd.heap_39 = hd.heap_39 := by
  w_top off
  k_fill
  exact ⟨rfl, rfl⟩
local macro_rules | `(tactic| walk_at "eval BinOp") => `(tactic| (k_here; k_gentoks; (try dsimp only)))
local macro_rules | `(tactic| walk_at "eval Name") => `(tactic| (k_here; k_gentoks; (try dsimp only)))
local macro_rules | `(tactic| walk_at "compareOp") => `(tactic| (k_here; k_gentoks; (try dsimp only)))
local macro_rules | `(tactic| k_room) => `(tactic| ((try simp only [depth_mark, depth_under_make, depth_under_kw, depth_in1, depth_deeper, depth_caller]); omega))
local macro_rules | `(tactic| k_units) => `(tactic| first | exact Nat.le_of_ble_eq_true rfl | ((try simp only [units_in1, units_deeper, Around.mark_units, units_caller]); omega))
local macro_rules | `(tactic| units_room) => `(tactic| ((try simp only [units_in1, units_deeper, Around.mark_units, units_caller]); omega))
local macro_rules | `(tactic| walk_at "call ref") => `(tactic| (k_here; (with_reducible show wpAny _ _ (call (Value.ref 85) [Value.ref _]) _ _ _); k_dflt (refine' basic_word (C := ⟨?k1, ?k2, ?k3, ?k4, ?k5, ?k6, ?k7⟩) ?k8 ?k9 ?k10 ?_; (case k1 => k_asm); (case k2 => k_asm); (case k3 => k_asm); (case k4 => k_asm); (case k5 => exact rfl); (case k6 => ((try simp only [depth_deeper, depth_mark]); omega)); (case k7 => ((try simp only [units_deeper, Around.mark_units, units_in1]); omega)); (case k8 => is_list); (case k9 => k_asm); (case k10 => omega); k_whole); intro h' tk' e' t' ws' news' S' R' U'))
set_option maxHeartbeats 8000000 in
theorem eg_word {w : World} {mean : ExcName → Option Value} {mg mb : Str → Option Value} {dp un : Nat} {gd : Option (List Code)} {cn : Str} {cs : Scope} {a : Addr} {ccd : Value} {outer : List Env} {A₀ : Around} {base h₀ : Heap} {L : Addr} {m : Str → Option Value} {s : Shared} {Q E : Value → Shared → Prop}
    (C : Cal w mean mg mb 3 dp un outer A₀ base h₀ L m cs s.heap) (XB : (hd.heap_39 w.params).In base) (TB : TopM mean mg mb base) (D : KtsDicts (outer.filterMap (·.frame)) h₀)
    {l : Addr} {vs : List Value} {ns : List Int} {sx : Str} {tx : Tok} (hl : s.heap.IsList l (vs ++ [Value.str sx tx]).toArray) (hi : IntsAre vs ns) (hfit : ns.length < 2 ^ 20)
    (hexc : ∀ (h' : Heap) (tk' : Nat) (e t : Addr) (ws : List Value) (news : List (Addr × Obj)), RaisedS base s.heap (envOf cn cs L a ccd :: outer) e (.ref 37) t ws news h' → RaisedK base (envOf cn cs L a ccd :: outer) e (.ref 37) t ws news h' → s.heap.UpToSlots h' → E (.ref e) { s with heap := h', toks := tk' }) :
    wpAny (model PR w) (ktrTop dp un gd cn cs L a ccd [] outer) (call (.ref 99) [.ref l]) Q E s := by
  k_with_none
  have hdp := C.hdp
  have hun := C.hun
  have XS9 : (hd.heap_39 w.params).In s.heap := C.X.keeps C.F.keep
  refine wpAny_call ?_
  k_dflt (refine' enterS C.B C.F C.X C.T XB TB D ?kA ?k6 ?k7 ?k8 ?k9 ?kB ?_ ?kK ?c2 ?c3 ?c4 ?c5; (case kA => exact rfl); (case kK => exact C.hk); (case k6 => k_is); (case k7 => k_is); (case k8 => k_room); (case k9 => first | exact BindsTo.of_eq rfl | exact binds_K (by k_in) rfl (by k_is) rfl rfl rfl); (case kB => exact locs rfl); (case c2 => exact rfl); (case c3 => exact rfl); (case c4 => exact rfl); (case c5 => decide); k_whole; intro L' h' F' N' B' X' T' D'; (try dsimp only); (try k_fold))
  k_steps
  all_goals exact hexc _ _ _ _ _ _ (by assumption) (by assumption) (by assumption)
set_option maxHeartbeats 8000000 in
theorem hh_word {w : World} {mean : ExcName → Option Value} {mg mb : Str → Option Value} {dp un : Nat} {gd : Option (List Code)} {cn : Str} {cs : Scope} {a : Addr} {ccd : Value} {outer : List Env} {A₀ : Around} {base h₀ : Heap} {L : Addr} {m : Str → Option Value} {s : Shared} {Q E : Value → Shared → Prop}
    (C : Cal w mean mg mb 3 dp un outer A₀ base h₀ L m cs s.heap) (XB : (hd.heap_39 w.params).In base) (TB : TopM mean mg mb base) (D : KtsDicts (outer.filterMap (·.frame)) h₀)
    {l : Addr} {vs : List Value} {ns : List Int} {sx : Str} {tx : Tok} (hl : s.heap.IsList l (vs ++ [Value.str sx tx]).toArray) (hi : IntsAre vs ns) (hfit : ns.length < 2 ^ 20)
    (hexc : ∀ (h' : Heap) (tk' : Nat) (e t : Addr) (ws : List Value) (news : List (Addr × Obj)), RaisedS base s.heap (envOf cn cs L a ccd :: outer) e (.ref 37) t ws news h' → RaisedK base (envOf cn cs L a ccd :: outer) e (.ref 37) t ws news h' → s.heap.UpToSlots h' → E (.ref e) { s with heap := h', toks := tk' }) :
    wpAny (model PR w) (ktrTop dp un gd cn cs L a ccd [] outer) (call (.ref 92) [.ref l]) Q E s := by
  k_with_none
  have hdp := C.hdp
  have hun := C.hun
  have XS9 : (hd.heap_39 w.params).In s.heap := C.X.keeps C.F.keep
  refine wpAny_call ?_
  k_dflt (refine' enterS C.B C.F C.X C.T XB TB D ?kA ?k6 ?k7 ?k8 ?k9 ?kB ?_ ?kK ?c2 ?c3 ?c4 ?c5; (case kA => exact rfl); (case kK => exact C.hk); (case k6 => k_is); (case k7 => k_is); (case k8 => k_room); (case k9 => first | exact BindsTo.of_eq rfl | exact binds_K (by k_in) rfl (by k_is) rfl rfl rfl); (case kB => exact locs rfl); (case c2 => exact rfl); (case c3 => exact rfl); (case c4 => exact rfl); (case c5 => decide); k_whole; intro L' h' F' N' B' X' T' D'; (try dsimp only); (try k_fold))
  k_steps
  all_goals exact hexc _ _ _ _ _ _ (by assumption) (by assumption) (by assumption)
end Mine

open PySem PySem.W PyProof.Rows PySem.Calls PySem.Spec
set_option Elab.async false
set_option maxRecDepth 100000
namespace Mine
theorem fill_W4 : Challenge.rw_am6015_01.name = Challenge.rw_am6015_01.name ∧ hd.heap_39 = hd.heap_39 := by
  w_top off
  k_fill
  exact ⟨rfl, rfl⟩
local macro_rules | `(tactic| walk_at "eval BinOp") => `(tactic| (k_here; k_gentoks; (try dsimp only)))
local macro_rules | `(tactic| walk_at "eval Name") => `(tactic| (k_here; k_gentoks; (try dsimp only)))
local macro_rules | `(tactic| walk_at "compareOp") => `(tactic| (k_here; k_gentoks; (try dsimp only)))
local macro_rules | `(tactic| k_room) => `(tactic| ((try simp only [depth_mark, depth_under_make, depth_under_kw, depth_in1, depth_deeper, depth_caller]); omega))
local macro_rules | `(tactic| k_units) => `(tactic| first | exact Nat.le_of_ble_eq_true rfl | ((try simp only [units_in1, units_deeper, Around.mark_units, units_caller]); omega))
local macro_rules | `(tactic| units_room) => `(tactic| ((try simp only [units_in1, units_deeper, Around.mark_units, units_caller]); omega))
local macro_rules | `(tactic| walk_at "call ref") => `(tactic| (k_here; (with_reducible show wpAny _ _ (call (Value.ref 99) [Value.ref _]) _ _ _); k_dflt (refine' eg_word (C := ⟨?k1, ?k2, ?k3, ?k4, ?k5, ?k6, ?k7⟩) ?kx ?ky ?kz ?k8 ?k9 ?k10 ?_; (case k1 => k_asm); (case k2 => k_asm); (case k3 => k_asm); (case k4 => k_asm); (case k5 => exact rfl); (case k6 => ((try simp only [depth_deeper, depth_mark]); omega)); (case k7 => ((try simp only [units_deeper, Around.mark_units, units_in1]); omega)); (case kx => assumption); (case ky => assumption); (case kz => assumption); (case k8 => is_list); (case k9 => k_asm); (case k10 => omega); k_whole); intro h' tk' e' t' ws' news' S' R' U'))
local macro_rules | `(tactic| walk_at "call ref") => `(tactic| (k_here; (with_reducible show wpAny _ _ (call (Value.ref 92) [Value.ref _]) _ _ _); k_dflt (refine' hh_word (C := ⟨?k1, ?k2, ?k3, ?k4, ?k5, ?k6, ?k7⟩) ?kx ?ky ?kz ?k8 ?k9 ?k10 ?_; (case k1 => k_asm); (case k2 => k_asm); (case k3 => k_asm); (case k4 => k_asm); (case k5 => exact rfl); (case k6 => ((try simp only [depth_deeper, depth_mark]); omega)); (case k7 => ((try simp only [units_deeper, Around.mark_units, units_in1]); omega)); (case kx => assumption); (case ky => assumption); (case kz => assumption); (case k8 => is_list); (case k9 => k_asm); (case k10 => omega); k_whole); intro h' tk' e' t' ws' news' S' R' U'))
theorem add_word {prog : Program} {w : World} {A : Around} {E : Value → Shared → Prop} {s : Shared} {h₀ : Heap} {L l b : Addr} {m : Str → Option Value} {news : List (Addr × Obj)} {vs : List Value} {sx : Str} {tx : Tok} {Q : Value → Shared → Prop}
    (F : Fr h₀ L s.heap m) (N : News h₀ L s.heap news) (hl : s.heap.IsList l vs.toArray) (hb : s.heap.IsList b [Value.str sx tx].toArray) (hsz : vs.length + 1 ≤ sizeLine)
    (h : ∀ D h', (∀ q ∈ news, q.1 < D) → Fr h₀ L h' m → News h₀ L h' ((D, W.listOf (vs ++ [Value.str sx tx]).toArray 0) :: news) → Q (.ref D) { s with heap := h' }) :
    wpAny (model prog w) A (binaryOp .Add (.ref l) (.ref b)) Q E s :=
  add_lists (vs := vs) (ws := [Value.str sx tx]) (hsz := hsz) F N hl hb fun h' F' N' => h _ h' (fun q hq => Heap.lt_size (N q hq).1) F' N'
local macro_rules | `(tactic| walk_at "binaryOp Add ref ref") => `(tactic| (k_here; (with_reducible show wpAny _ _ (binaryOp _ (Value.ref _) (Value.ref _)) _ _ _); k_dflt (refine' add_word ?F ?N ?l ?b ?z ?_; (case F => k_asm); (case N => k_asm); (case l => is_list); (case b => exact News.isList (by k_asm) (.head _)); (case z => ((have hL9 := IntsAre.length (by assumption)); (simp only [PySem.sizeLine_eq]); omega))); intro D' h' l1 F' N'; (try k_lt l1)))
theorem list_turn {fs : List Addr} {g g' : Heap} {l : Addr} {items : Array Value} (D : KtsDicts fs g) (T : KtsTurn fs g g') (hl : g.IsList l items) : g'.IsList l items := by
  obtain ⟨o, ho, hc, n, hd⟩ := hl
  refine ⟨o, T.other l o ho fun hm => ?_, hc, n, hd⟩
  obtain ⟨o', es, k, ho', hd'⟩ := D l hm
  rw [ho] at ho'
  cases ho'
  rw [hd] at hd'
  cases hd'
set_option maxHeartbeats 8000000 in
theorem no_word {w : World} {mean : ExcName → Option Value} {mg mb : Str → Option Value} {dp un : Nat} {gd : Option (List Code)} {cn : Str} {cs : Scope} {a : Addr} {ccd : Value} {outer : List Env} {A₀ : Around} {base h₀ : Heap} {L : Addr} {m : Str → Option Value} {s : Shared} {Q E : Value → Shared → Prop}
    (C : Cal w mean mg mb 4 dp un outer A₀ base h₀ L m cs s.heap) (XB : (hd.heap_39 w.params).In base) (TB : TopM mean mg mb base) (D : KtsDicts (outer.filterMap (·.frame)) h₀)
    {l : Addr} {vs : List Value} {ns : List Int} (hl : s.heap.IsList l vs.toArray) (hi : IntsAre vs ns) (hfit : ns.length ≤ 12)
    (hret : ∀ (h' : Heap) (tk' : Nat) h₀', Back w mean mg mb outer A₀ base h₀ L m s.heap h₀' h' → Q (.bool true) { s with heap := h', toks := tk' }) :
    wpAny (model PR w) (ktrTop dp un gd cn cs L a ccd [] outer) (call (.ref 135) [.ref l]) Q E s := by
  k_with_none
  have hdp := C.hdp
  have hun := C.hun
  have XS9 : (hd.heap_39 w.params).In s.heap := C.X.keeps C.F.keep
  refine wpAny_call ?_
  k_dflt (refine' enterS C.B C.F C.X C.T XB TB D ?kA ?k6 ?k7 ?k8 ?k9 ?kB ?_ ?kK ?c2 ?c3 ?c4 ?c5; (case kA => exact rfl); (case kK => exact C.hk); (case k6 => k_is); (case k7 => k_is); (case k8 => k_room); (case k9 => first | exact BindsTo.of_eq rfl | exact binds_K (by k_in) rfl (by k_is) rfl rfl rfl); (case kB => exact locs rfl); (case c2 => exact rfl); (case c3 => exact rfl); (case c4 => exact rfl); (case c5 => decide); k_whole; intro L' h' F' N' B' X' T' D'; (try dsimp only); (try k_fold))
  k_steps
  (rename KtsTurn _ _ _ => zT)
  have hl2 := list_turn D' zT hl
  k_steps
  (rename KtsTurn _ _ _ => zT2)
  (rename Fr _ _ _ _ => zF)
  exact ⟨_, _, _, zT2, zF, fun h₀' hB => hret _ _ h₀' hB⟩
end Mine

open PySem PySem.W PyProof.Rows PySem.Calls PySem.Spec
set_option Elab.async false
set_option maxRecDepth 100000
namespace Mine
theorem fill_G1 : Challenge.rw_am6015_01.name = Challenge.rw_am6015_01.name ∧ hd.heap_39 = hd.heap_39 := by
  w_top off
  k_fill
  exact ⟨rfl, rfl⟩
local macro_rules | `(tactic| walk_at "eval BinOp") => `(tactic| (k_here; k_gentoks; (try dsimp only)))
local macro_rules | `(tactic| walk_at "eval Name") => `(tactic| (k_here; k_gentoks; (try dsimp only)))
local macro_rules | `(tactic| walk_at "compareOp") => `(tactic| (k_here; k_gentoks; (try dsimp only)))
local macro_rules | `(tactic| k_room) => `(tactic| ((try simp only [depth_mark, depth_under_make, depth_under_kw, depth_in1, depth_deeper, depth_caller]); omega))
local macro_rules | `(tactic| k_units) => `(tactic| first | exact Nat.le_of_ble_eq_true rfl | ((try simp only [units_in1, units_deeper, Around.mark_units, units_caller]); omega))
local macro_rules | `(tactic| units_room) => `(tactic| ((try simp only [units_in1, units_deeper, Around.mark_units, units_caller]); omega))
local macro_rules | `(tactic| walk_at "call ref") => `(tactic| (k_here; (with_reducible show wpAny _ _ (call (Value.ref 99) [Value.ref _]) _ _ _); k_dflt (refine' eg_int (C := ⟨?k1, ?k2, ?k3, ?k4, ?k5, ?k6, ?k7⟩) ?kx ?ky ?kz ?k8 ?k9 ?k10 ?k11 ?_; (case k1 => k_asm); (case k2 => k_asm); (case k3 => k_asm); (case k4 => k_asm); (case k5 => exact rfl); (case k6 => ((try simp only [depth_deeper, depth_mark]); omega)); (case k7 => ((try simp only [units_deeper, Around.mark_units, units_in1]); omega)); (case kx => assumption); (case ky => assumption); (case kz => assumption); (case k8 => first | is_list | exact News.isList (by k_asm) (by repeat (first | exact List.Mem.head _ | apply List.Mem.tail))); (case k9 => k_asm); (case k10 => omega); (case k11 => assumption); k_whole); intro h' tk' g' b' hb' hBk'; (rename News _ _ _ _ => lN'); have N' := hBk'.N _ lN'; obtain ⟨T', F', _, B', X', P', D'⟩ := hBk'; clear lN'))
local macro_rules | `(tactic| walk_at "call ref") => `(tactic| (k_here; (with_reducible show wpAny _ _ (call (Value.ref 92) [Value.ref _]) _ _ _); k_dflt (refine' hh_int (C := ⟨?k1, ?k2, ?k3, ?k4, ?k5, ?k6, ?k7⟩) ?kx ?ky ?kz ?k8 ?k9 ?k10 ?k11 ?_; (case k1 => k_asm); (case k2 => k_asm); (case k3 => k_asm); (case k4 => k_asm); (case k5 => exact rfl); (case k6 => ((try simp only [depth_deeper, depth_mark]); omega)); (case k7 => ((try simp only [units_deeper, Around.mark_units, units_in1]); omega)); (case kx => assumption); (case ky => assumption); (case kz => assumption); (case k8 => first | is_list | exact News.isList (by k_asm) (by repeat (first | exact List.Mem.head _ | apply List.Mem.tail))); (case k9 => k_asm); (case k10 => omega); (case k11 => assumption); k_whole); intro h' tk' g' b' hb' hBk'; (rename News _ _ _ _ => lN'); have N' := hBk'.N _ lN'; obtain ⟨T', F', _, B', X', P', D'⟩ := hBk'; clear lN'))
set_option maxHeartbeats 8000000 in
theorem graph_eg {w : World} {mean : ExcName → Option Value} {mg mb : Str → Option Value} {dp un : Nat} {gd : Option (List Code)} {cn : Str} {cs : Scope} {a : Addr} {ccd : Value} {outer : List Env} {A₀ : Around} {base h₀ : Heap} {L : Addr} {m : Str → Option Value} {s : Shared} {Q E : Value → Shared → Prop}
    (C : Cal w mean mg mb 5 dp un outer A₀ base h₀ L m cs s.heap) (XB : (hd.heap_39 w.params).In base) (TB : TopM mean mg mb base) (D : KtsDicts (outer.filterMap (·.frame)) h₀)
    {l : Addr} {vs : List Value} {ns : List Int} (hl : IsTup s.heap l vs.toArray) (hi : IntsAre vs ns) (hfit : ns.length ≤ 12) (hbd : ∀ x ∈ ns, -100 ≤ x ∧ x ≤ 100)
    (hret : ∀ (h' : Heap) (tk' : Nat) h₀' b, (b = true ↔ Due ns) → Back w mean mg mb outer A₀ base h₀ L m s.heap h₀' h' → Q (.bool b) { s with heap := h', toks := tk' }) :
    wpAny (model PR w) (ktrTop dp un gd cn cs L a ccd [] outer) (call (.ref 78) [.ref l]) Q E s := by
  k_with_none
  have hdp := C.hdp
  have hun := C.hun
  have XS9 : (hd.heap_39 w.params).In s.heap := C.X.keeps C.F.keep
  refine wpAny_call ?_
  k_dflt (refine' enterS C.B C.F C.X C.T XB TB D ?kA ?k6 ?k7 ?k8 ?k9 ?kB ?_ ?kK ?c2 ?c3 ?c4 ?c5; (case kA => exact rfl); (case kK => exact C.hk); (case k6 => k_is); (case k7 => k_is); (case k8 => k_room); (case k9 => first | exact BindsTo.of_eq rfl | exact binds_K (by k_in) rfl (by k_is) rfl rfl rfl); (case kB => exact locs rfl); (case c2 => exact rfl); (case c3 => exact rfl); (case c4 => exact rfl); (case c5 => decide); k_whole; intro L' h' F' N' B' X' T' D'; (try dsimp only); (try k_fold))
  k_steps
  all_goals ((rename KtsTurn _ _ _ => zT); (rename Fr _ _ _ _ => zF); exact ⟨_, _, _, zT, zF, fun h₀' hB => hret _ _ h₀' _ (by assumption) hB⟩)
set_option maxHeartbeats 8000000 in
theorem graph_hh {w : World} {mean : ExcName → Option Value} {mg mb : Str → Option Value} {dp un : Nat} {gd : Option (List Code)} {cn : Str} {cs : Scope} {a : Addr} {ccd : Value} {outer : List Env} {A₀ : Around} {base h₀ : Heap} {L : Addr} {m : Str → Option Value} {s : Shared} {Q E : Value → Shared → Prop}
    (C : Cal w mean mg mb 5 dp un outer A₀ base h₀ L m cs s.heap) (XB : (hd.heap_39 w.params).In base) (TB : TopM mean mg mb base) (D : KtsDicts (outer.filterMap (·.frame)) h₀)
    {l : Addr} {tk : Tok} {vs : List Value} {ns : List Int} (hl : IsTup s.heap l vs.toArray) (hi : IntsAre vs ns) (hfit : ns.length ≤ 12) (hbd : ∀ x ∈ ns, -100 ≤ x ∧ x ≤ 100)
    (hret : ∀ (h' : Heap) (tk' : Nat) h₀' b, (b = true ↔ Due ns) → Back w mean mg mb outer A₀ base h₀ L m s.heap h₀' h' → Q (.bool b) { s with heap := h', toks := tk' }) :
    wpAny (model PR w) (ktrTop dp un gd cn cs L a ccd [] outer) (call (.ref 78) [.ref l] [(Str.ofString "method", .str (Str.ofString "hh") tk)]) Q E s := by
  k_with_none
  have hdp := C.hdp
  have hun := C.hun
  have XS9 : (hd.heap_39 w.params).In s.heap := C.X.keeps C.F.keep
  refine wpAny_call ?_
  k_dflt (refine' enterS C.B C.F C.X C.T XB TB D ?kA ?k6 ?k7 ?k8 ?k9 ?kB ?_ ?kK ?c2 ?c3 ?c4 ?c5; (case kA => exact rfl); (case kK => exact C.hk); (case k6 => k_is); (case k7 => k_is); (case k8 => k_room); (case k9 => first | exact BindsTo.of_eq rfl | exact binds_K (by k_in) rfl (by k_is) rfl rfl rfl); (case kB => exact locs rfl); (case c2 => exact rfl); (case c3 => exact rfl); (case c4 => exact rfl); (case c5 => decide); k_whole; intro L' h' F' N' B' X' T' D'; (try dsimp only); (try k_fold))
  k_steps
  all_goals ((rename KtsTurn _ _ _ => zT); (rename Fr _ _ _ _ => zF); exact ⟨_, _, _, zT, zF, fun h₀' hB => hret _ _ h₀' _ (by assumption) hB⟩)
end Mine

open PySem PySem.W PyProof.Rows PySem.Calls PySem.Spec
set_option Elab.async false
set_option maxRecDepth 100000
namespace Mine
theorem fill_N1 : Challenge.rw_am6015_01.name = Challenge.rw_am6015_01.name ∧ hd.heap_39 = hd.heap_39 := by
  w_top off
  k_fill
  exact ⟨rfl, rfl⟩
local macro_rules | `(tactic| walk_at "eval BinOp") => `(tactic| (k_here; k_gentoks; (try dsimp only)))
local macro_rules | `(tactic| walk_at "eval Name") => `(tactic| (k_here; k_gentoks; (try dsimp only)))
local macro_rules | `(tactic| walk_at "compareOp") => `(tactic| (k_here; k_gentoks; (try dsimp only)))
local macro_rules | `(tactic| k_room) => `(tactic| ((try simp only [depth_mark, depth_under_make, depth_under_kw, depth_in1, depth_deeper, depth_caller]); omega))
local macro_rules | `(tactic| k_units) => `(tactic| first | exact Nat.le_of_ble_eq_true rfl | ((try simp only [units_in1, units_deeper, Around.mark_units, units_caller]); omega))
local macro_rules | `(tactic| units_room) => `(tactic| ((try simp only [units_in1, units_deeper, Around.mark_units, units_caller]); omega))
set_option maxHeartbeats 8000000 in
theorem numbers {w : World} {mean : ExcName → Option Value} {mg mb : Str → Option Value} {dp un : Nat} {gd : Option (List Code)} {cn : Str} {cs : Scope} {a : Addr} {ccd : Value} {outer : List Env} {A₀ : Around} {base h₀ : Heap} {L : Addr} {m : Str → Option Value} {s : Shared} {Q E : Value → Shared → Prop}
    (C : Cal w mean mg mb 1 dp un outer A₀ base h₀ L m cs s.heap)
    {l : Addr} {vs : List Value} {ns : List Int} {t24 : Tok} (hl : s.heap.IsList l vs.toArray) (hi : IntsAre vs ns) (hlay : (PyData.list (List.map PyData.int ns)).layable0 = true) (hfit : ns.length ≤ 63)
    (hret : ∀ (h' : Heap) (tk' : Nat) l' us ms n', ms.length = 24 → IntsAre us ms → Kept s.heap h' → s.heap.get? l' = none → h'.get? l' = some (W.listOf us.toArray n') → Q (.ref l') { s with heap := h', toks := tk' }) :
    wpAny (model PR w) (ktrTop dp un gd cn cs L a ccd [] outer) (call (.ref 118) [.ref l, .int 24 t24]) Q E s := by
  k_with_none
  k_with "exec While Compare cons nil" => k_while (fun _ found last => 0 ≤ last ∧ last < 2147483648 ∧ (found.length : Int) ≤ 24) (fun _ found last => 24 - found.length) "found" "last"
  k_with "pyIter ref" => k_state (fun pre last => 0 ≤ last ∧ last < 2147483648) "last"
  have hdp := C.hdp
  have hun := C.hun
  refine wpAny_call ?_
  k_dflt (refine' enter C.B C.F C.X C.T ?kA ?kF ?kK ?k6 ?k7 ?k8 ?k9 ?kB ?_ ?c5 ?c2 ?c3 ?c4; (case kA => exact rfl); (case kF => exact rfl); (case kK => exact C.hk); (case k6 => k_is); (case k7 => k_is); (case k8 => k_room); (case k9 => first | exact BindsTo.of_eq rfl | exact binds_K (by k_in) rfl (by k_is) rfl rfl rfl); (case c5 => decide); (case kB => exact locs rfl); (case c2 => exact rfl); (case c3 => exact rfl); (case c4 => exact rfl); k_whole; intro L' h' F' N' B' X' T'; (try dsimp only); (try k_fold))
  k_steps
  refine hret _ _ _ _ ?ms _ ?a ?b kFr.keep (kNews _ (.head _)).2.2 (kNews _ (.head _)).1
  case b => assumption
  case a => omega
end Mine

open PySem PySem.W PyProof.Rows PySem.Calls PySem.Spec
set_option Elab.async false
set_option maxRecDepth 100000
namespace Mine
/-- the rows of _law_row, kinds 0 and 1: behind b whole turns and a steps -/
def RI (row : List Int) (b a k : Int) : Prop := 2 * k = b * (b - 1) + 2 * a ∧ ∀ x ∈ row, 0 ≤ x ∧ x ≤ k

theorem x_getD {row : List Int} {k : Int} (h : ∀ x ∈ row, 0 ≤ x ∧ x ≤ k) (h0 : 0 ≤ k) (i : Nat) : 0 ≤ row.getD i 0 ∧ row.getD i 0 ≤ k := by
  rw [List.getD_eq_getElem?_getD]
  cases e : row[i]? with
  | none => exact ⟨Int.le_refl _, h0⟩
  | some v => exact h v (List.mem_of_getElem? e)
theorem x_set {row : List Int} {i : Nat} {v x : Int} (h : x ∈ row.set i v) : x ∈ row ∨ x = v := List.mem_or_eq_of_mem_set h
theorem x_getD_set {row : List Int} {i j : Nat} {v : Int} (h : i ≠ j) : (row.set i v).getD j 0 = row.getD j 0 := by
  rw [List.getD_eq_getElem?_getD, List.getD_eq_getElem?_getD, List.getElem?_set_ne h]

theorem x_start {n : Nat} : (0:Int) ≤ 0 ∧ (0:Int) ≤ 12 * (([] : List Int).length : Int) ∧ (List.replicate n [(0:Int)]).flatten.length = (List.replicate n [(0:Int)]).flatten.length ∧ RI (List.replicate n [(0:Int)]).flatten (([] : List Int).length : Int) 0 0 := by
  refine ⟨Int.le_refl _, by simp, rfl, ⟨by simp, fun x hx => ?_⟩⟩
  obtain ⟨l, hl, hx⟩ := List.mem_flatten.mp hx
  rw [(List.mem_replicate.mp hl).2] at hx
  rw [List.mem_singleton.mp hx]
  exact ⟨Int.le_refl _, Int.le_refl _⟩
theorem x_in {row pre : List Int} {k x : Int} (h : RI row (pre.length : Int) 0 k) (hx : x = 0 + (pre.length : Int)) (h0 : 0 ≤ k) :
    0 ≤ k ∧ k = k + (([] : List Int).length : Int) ∧ row.length = row.length ∧ RI row x (([] : List Int).length : Int) k := by
  rw [Int.zero_add] at hx
  rw [hx]
  exact ⟨h0, by simp, rfl, h⟩
theorem x_s1 {row pre : List Int} {b x k k0 : Int} {N : Nat} (h : RI row b (pre.length : Int) k) (hx : x = 0 + (pre.length : Int)) (hlt : pre.length < (b - 0).toNat) (hk : k = k0 + (pre.length : Int)) (h0 : 0 ≤ k0) (hl : row.length = N) :
    0 ≤ k0 ∧ k + 1 = k0 + ((pre ++ [x]).length : Int) ∧ ((row.set x.toNat (row.getD x.toNat 0 + 1)).set b.toNat ((row.set x.toNat (row.getD x.toNat 0 + 1)).getD b.toNat 0 + 1)).length = N ∧
      RI ((row.set x.toNat (row.getD x.toNat 0 + 1)).set b.toNat ((row.set x.toNat (row.getD x.toNat 0 + 1)).getD b.toNat 0 + 1)) b ((pre ++ [x]).length : Int) (k + 1) := by
  have e : ((pre ++ [x]).length : Int) = (pre.length : Int) + 1 := by rw [List.length_append]; simp
  rw [e, List.length_set, List.length_set]
  obtain ⟨h1, h2⟩ := h
  have hk0 : 0 ≤ k := by omega
  refine ⟨h0, by omega, hl, ⟨by omega, fun y hy => ?_⟩⟩
  have g1 := x_getD h2 hk0 x.toNat
  have g2 := x_getD h2 hk0 b.toNat
  rcases x_set hy with hy | hy
  · rcases x_set hy with hy | hy
    · have := h2 y hy
      omega
    · omega
  · rw [x_getD_set (by omega)] at hy
    omega
theorem x_s0 {row pre : List Int} {b x k k0 : Int} {N : Nat} (h : RI row b (pre.length : Int) k) (hk : k = k0 + (pre.length : Int)) (h0 : 0 ≤ k0) (hl : row.length = N) :
    0 ≤ k0 ∧ k + 1 = k0 + ((pre ++ [x]).length : Int) ∧ row.length = N ∧ RI row b ((pre ++ [x]).length : Int) (k + 1) := by
  have e : ((pre ++ [x]).length : Int) = (pre.length : Int) + 1 := by rw [List.length_append]; simp
  rw [e]
  obtain ⟨h1, h2⟩ := h
  refine ⟨h0, by omega, hl, ⟨by omega, fun y hy => ?_⟩⟩
  have := h2 y hy
  omega
theorem x_out {row pre : List Int} {b k k0 n : Int} {N N2 L : Nat} (h : RI row b (L : Int) k) (hb : b = 0 + (pre.length : Int)) (hL : L = (b - 0).toNat) (hk : k = k0 + (L : Int)) (h0 : 0 ≤ k0) (hk0 : k0 ≤ 12 * (pre.length : Int)) (hlt : pre.length < (n - 0).toNat) (hn : n ≤ 12)
    (hl : row.length = N) (hl2 : N = N2) :
    0 ≤ k ∧ k ≤ 12 * ((pre ++ [b]).length : Int) ∧ row.length = N2 ∧ RI row ((pre ++ [b]).length : Int) 0 k := by
  have e : ((pre ++ [b]).length : Int) = (pre.length : Int) + 1 := by rw [List.length_append]; simp
  rw [e]
  obtain ⟨h1, h2⟩ := h
  have eb : b = (pre.length : Int) := by omega
  have eL : (L : Int) = b := by omega
  refine ⟨by omega, by omega, hl.trans hl2, ⟨?_, h2⟩⟩
  rw [eL, eb] at h1
  rw [h1, Int.add_sub_cancel, Int.add_mul, Int.mul_sub]
  omega
theorem x_bd {row : List Int} {k n : Int} {L : Nat} (h : RI row (L : Int) 0 k) (hL : L = (n - 0).toNat) (hn : n ≤ 12) : ∀ x ∈ row, 0 ≤ x ∧ x ≤ 66 := by
  obtain ⟨h1, h2⟩ := h
  have : L ≤ 12 := by omega
  have hk : k ≤ 66 := by
    rcases (by omega : L = 0 ∨ L = 1 ∨ L = 2 ∨ L = 3 ∨ L = 4 ∨ L = 5 ∨ L = 6 ∨ L = 7 ∨ L = 8 ∨ L = 9 ∨ L = 10 ∨ L = 11 ∨ L = 12) with e | e | e | e | e | e | e | e | e | e | e | e | e <;> subst e <;> omega
  intro x hx
  have := h2 x hx
  omega
theorem x_bd1 {row : List Int} {i j : Nat} (h : ∀ x ∈ row, 0 ≤ x ∧ x ≤ 66) : ∀ x ∈ (row.set i (row.getD i 0 + 1)).set j ((row.set i (row.getD i 0 + 1)).getD j 0 - 1), -100 ≤ x ∧ x ≤ 100 := by
  have b1 : ∀ x ∈ row.set i (row.getD i 0 + 1), 0 ≤ x ∧ x ≤ 67 := by
    intro x hx
    rcases x_set hx with hx | hx
    · have := h x hx; omega
    · have := x_getD h (by omega) i; omega
  intro x hx
  rcases x_set hx with hx | hx
  · have := b1 x hx; omega
  · have := x_getD b1 (by omega) j; omega
theorem x_bd2 {row : List Int} {i : Nat} (h : ∀ x ∈ row, -99 ≤ x ∧ x ≤ 99) : ∀ x ∈ row.set i (row.getD i 0 + 1), -100 ≤ x ∧ x ≤ 100 := by
  intro x hx
  rcases x_set hx with hx | hx
  · have := h x hx; omega
  · have g : -99 ≤ row.getD i 0 ∧ row.getD i 0 ≤ 99 := by
      rw [List.getD_eq_getElem?_getD]
      cases e : row[i]? with
      | none => exact ⟨by decide, by decide⟩
      | some v => exact h v (List.mem_of_getElem? e)
    omega
theorem x_loose {row : List Int} (h : ∀ x ∈ row, -99 ≤ x ∧ x ≤ 99) : ∀ x ∈ row, -100 ≤ x ∧ x ≤ 100 := fun x hx => by
  have := h x hx; omega
theorem x_loose2 {row : List Int} (h : ∀ x ∈ row, 0 ≤ x ∧ x ≤ 66) : ∀ x ∈ row, -100 ≤ x ∧ x ≤ 100 := fun x hx => by
  have := h x hx; omega
theorem x_mod (a m : Int) (h : 0 < m) : 0 ≤ Int.fmod a m ∧ Int.fmod a m < m := ⟨Int.fmod_nonneg_of_pos a h, Int.fmod_lt_of_pos a h⟩
theorem x_map {α : Type} {g : α → Int} {xs : List α} (h : ∀ a, -99 ≤ g a ∧ g a ≤ 99) : ∀ x ∈ xs.map g, -99 ≤ x ∧ x ≤ 99 := by
  intro x hx
  obtain ⟨a, _, e⟩ := List.mem_map.mp hx
  rw [← e]
  exact h a
end Mine

open PySem PySem.W PyProof.Rows PySem.Calls PySem.Spec
set_option Elab.async false
set_option maxRecDepth 100000
namespace Mine
theorem fill_N2a : Challenge.rw_am6015_01.name = Challenge.rw_am6015_01.name ∧ hd.heap_39 = hd.heap_39 := by
  w_top off
  k_fill
  exact ⟨rfl, rfl⟩
local macro_rules | `(tactic| walk_at "pad0") => `(tactic| skip)
local macro_rules | `(tactic| walk_at "eval BinOp") => `(tactic| (k_here; k_gentoks; (try dsimp only)))
local macro_rules | `(tactic| walk_at "eval Name") => `(tactic| (k_here; k_gentoks; (try dsimp only)))
local macro_rules | `(tactic| walk_at "compareOp") => `(tactic| (k_here; k_gentoks; (try dsimp only)))
local macro_rules | `(tactic| k_room) => `(tactic| ((try simp only [depth_mark, depth_under_make, depth_under_kw, depth_in1, depth_deeper, depth_caller]); omega))
local macro_rules | `(tactic| k_units) => `(tactic| first | exact Nat.le_of_ble_eq_true rfl | ((try simp only [units_in1, units_deeper, Around.mark_units, units_caller]); omega))
local macro_rules | `(tactic| units_room) => `(tactic| ((try simp only [units_in1, units_deeper, Around.mark_units, units_caller]); omega))
local macro_rules | `(tactic| mul_fits) => `(tactic| first | exact PySem.IntMulOk.of_left (PySem.intBits_le_64 (by omega) (by omega)) | exact PySem.IntMulOk.of_right (PySem.intBits_le_64 (by omega) (by omega)))
set_option maxHeartbeats 8000000 in
theorem row_a {w : World} {mean : ExcName → Option Value} {mg mb : Str → Option Value} {dp un : Nat} {gd : Option (List Code)} {cn : Str} {cs : Scope} {a : Addr} {ccd : Value} {outer : List Env} {A₀ : Around} {base h₀ : Heap} {L : Addr} {m : Str → Option Value} {s : Shared} {Q E : Value → Shared → Prop}
    (C : Cal w mean mg mb 1 dp un outer A₀ base h₀ L m cs s.heap)
    {l : Addr} {vs : List Value} {fs : List Int} (hl : s.heap.IsList l vs.toArray) (hi : IntsAre vs fs) (hfit : fs.length = 24) (hkind : Int.fmod (fs.getD (Int.toNat 1) 0) 5 < 2)
    (hret : ∀ (h' : Heap) (tk' : Nat) l' us ns n', 6 ≤ ns.length → ns.length ≤ 12 → (∀ x ∈ ns, -100 ≤ x ∧ x ≤ 100) → IntsAre us ns → Kept s.heap h' → s.heap.get? l' = none → h'.get? l' = some (W.listOf us.toArray n') → Q (.ref l') { s with heap := h', toks := tk' }) :
    wpAny (model PR w) (ktrTop dp un gd cn cs L a ccd [] outer) (call (.ref 123) [.ref l]) Q E s := by
  have hm0 := x_mod (fs.getD (Int.toNat 0) 0) 7 (by decide)
  have hm1 := x_mod (fs.getD (Int.toNat 1) 0) 5 (by decide)
  have hm5 := x_mod (fs.getD (Int.toNat 5) 0) (6 + (fs.getD (Int.toNat 0) 0).fmod 7) (by omega)
  have hm6 := x_mod (fs.getD (Int.toNat 6) 0) (6 + (fs.getD (Int.toNat 0) 0).fmod 7) (by omega)
  have hm2 := x_mod (fs.getD (Int.toNat 2) 0) (6 + (fs.getD (Int.toNat 0) 0).fmod 7 - 1) (by omega)
  have hm3 := x_mod (fs.getD (Int.toNat 3) 0) (6 + (fs.getD (Int.toNat 0) 0).fmod 7) (by omega)
  have hm4 := x_mod (fs.getD (Int.toNat 4) 0) 3 (by decide)
  obtain ⟨hm0a, hm0b⟩ := hm0
  obtain ⟨hm2a, hm2b⟩ := hm2
  obtain ⟨hm3a, hm3b⟩ := hm3
  obtain ⟨hm4a, hm4b⟩ := hm4
  obtain ⟨hm1a, hm1b⟩ := hm1
  obtain ⟨hm5a, hm5b⟩ := hm5
  obtain ⟨hm6a, hm6b⟩ := hm6
  k_with_none
  k_with "pyIter ref" => k_of "b" => k_state_given ["row!"] (fun r0 pre row k => 0 ≤ k ∧ k ≤ 12 * (pre.length : Int) ∧ row.length = r0.length ∧ RI row (pre.length : Int) 0 k) "row" "k"
  k_with "pyIter ref" => k_of "a" => k_state_given ["row!", "k!", "b"] (fun r0 k0 b pre row k => 0 ≤ k0 ∧ k = k0 + (pre.length : Int) ∧ row.length = r0.length ∧ RI row b (pre.length : Int) k) "row" "k"
  k_with "state" => first
    | exact x_start
    | exact x_in (by assumption) (by assumption) (by assumption)
    | exact x_s1 (by assumption) (by assumption) (by assumption) (by assumption) (by assumption) (by assumption)
    | exact x_s0 (by assumption) (by assumption) (by assumption) (by assumption)
    | exact x_out (by assumption) (by assumption) (rangeKs_length _ _) (by assumption) (by assumption) (by assumption) (by assumption) (by omega) (by assumption) (by assumption)
  have hdp := C.hdp
  have hun := C.hun
  refine wpAny_call ?_
  k_dflt (refine' enterC C.B C.F C.X C.T ?kA ?kF ?kK ?k6 ?k7 ?k8 ?k9 ?kB ?kD ?_ ?c2 ?c3 ?c4; (case kA => exact rfl); (case kF => exact rfl); (case kK => exact C.hk); (case k6 => k_is); (case k7 => k_is); (case k8 => k_room); (case k9 => first | exact BindsTo.of_eq rfl | exact binds_K (by k_in) rfl (by k_is) rfl rfl rfl); (case kB => exact rfl); (case kD => decide +kernel); (case c2 => exact rfl); (case c3 => exact rfl); (case c4 => exact rfl); k_whole; intro L' h' tk' cells' F' N' Y' B' X' T'; k_cells Y'; (try simp only [List.cons_append, List.nil_append, List.append_nil] at N'); (try dsimp only); (try k_fold))
  k_steps
  · (rename Fr _ _ _ _ => zF)
    (rename News _ _ _ _ => zN)
    refine hret _ _ _ _ ?msa _ ?k1a ?k2a ?k3a ?k4a zF.keep (zN _ (.head _)).2.2 (zN _ (.head _)).1
    case k4a => assumption
    case k3a => exact x_bd1 (x_bd (by assumption) (rangeKs_length _ _) (by omega))
    case k1a => omega
    case k2a => omega
  · (rename Fr _ _ _ _ => zF)
    (rename News _ _ _ _ => zN)
    refine hret _ _ _ _ ?msb _ ?k1b ?k2b ?k3b ?k4b zF.keep (zN _ (.head _)).2.2 (zN _ (.head _)).1
    case k4b => assumption
    case k3b => exact x_loose2 (x_bd (by assumption) (rangeKs_length _ _) (by omega))
    case k1b => omega
    case k2b => omega
end Mine

open PySem PySem.W PyProof.Rows PySem.Calls PySem.Spec
set_option Elab.async false
set_option maxRecDepth 100000
namespace Mine
theorem fill_N2b : Challenge.rw_am6015_01.name = Challenge.rw_am6015_01.name ∧ hd.heap_39 = hd.heap_39 := by
  w_top off
  k_fill
  exact ⟨rfl, rfl⟩
local macro_rules | `(tactic| walk_at "pad0") => `(tactic| skip)
local macro_rules | `(tactic| walk_at "eval BinOp") => `(tactic| (k_here; k_gentoks; (try dsimp only)))
local macro_rules | `(tactic| walk_at "eval Name") => `(tactic| (k_here; k_gentoks; (try dsimp only)))
local macro_rules | `(tactic| walk_at "compareOp") => `(tactic| (k_here; k_gentoks; (try dsimp only)))
local macro_rules | `(tactic| k_room) => `(tactic| ((try simp only [depth_mark, depth_under_make, depth_under_kw, depth_in1, depth_deeper, depth_caller]); omega))
local macro_rules | `(tactic| k_units) => `(tactic| first | exact Nat.le_of_ble_eq_true rfl | ((try simp only [units_in1, units_deeper, Around.mark_units, units_caller]); omega))
local macro_rules | `(tactic| units_room) => `(tactic| ((try simp only [units_in1, units_deeper, Around.mark_units, units_caller]); omega))
local macro_rules | `(tactic| mul_fits) => `(tactic| first | exact PySem.IntMulOk.of_left (PySem.intBits_le_64 (by omega) (by omega)) | exact PySem.IntMulOk.of_right (PySem.intBits_le_64 (by omega) (by omega)))
local macro_rules | `(tactic| walk_at "ite") => `(tactic| (k_here; k_openite; (rename (Int.fmod (List.getD _ (Int.toNat 1) 0) 5 = _) => hk9); first | (refine ite_pos (by (rw [hk9]; decide)) ?_; walk_say "PRUNED K") | (refine ite_neg (by (rw [hk9]; decide)) ?_; walk_say "PRUNED K")))
local macro_rules | `(tactic| l_idx) => `(tactic| ((try simp only [List.length_map, rangeKs_length]); omega))
set_option maxHeartbeats 8000000 in
theorem row_b {w : World} {mean : ExcName → Option Value} {mg mb : Str → Option Value} {dp un : Nat} {gd : Option (List Code)} {cn : Str} {cs : Scope} {a : Addr} {ccd : Value} {outer : List Env} {A₀ : Around} {base h₀ : Heap} {L : Addr} {m : Str → Option Value} {s : Shared} {Q E : Value → Shared → Prop}
    (C : Cal w mean mg mb 1 dp un outer A₀ base h₀ L m cs s.heap)
    {l : Addr} {vs : List Value} {fs : List Int} (hl : s.heap.IsList l vs.toArray) (hi : IntsAre vs fs) (hfit : fs.length = 24) (hkind : Int.fmod (fs.getD (Int.toNat 1) 0) 5 = 2)
    (hret : ∀ (h' : Heap) (tk' : Nat) l' us ns n', 6 ≤ ns.length → ns.length ≤ 12 → (∀ x ∈ ns, -100 ≤ x ∧ x ≤ 100) → IntsAre us ns → Kept s.heap h' → s.heap.get? l' = none → h'.get? l' = some (W.listOf us.toArray n') → Q (.ref l') { s with heap := h', toks := tk' }) :
    wpAny (model PR w) (ktrTop dp un gd cn cs L a ccd [] outer) (call (.ref 123) [.ref l]) Q E s := by
  have hm0 := x_mod (fs.getD (Int.toNat 0) 0) 7 (by decide)
  have hm1 := x_mod (fs.getD (Int.toNat 1) 0) 5 (by decide)
  have hm5 := x_mod (fs.getD (Int.toNat 5) 0) (6 + (fs.getD (Int.toNat 0) 0).fmod 7) (by omega)
  have hm6 := x_mod (fs.getD (Int.toNat 6) 0) (6 + (fs.getD (Int.toNat 0) 0).fmod 7) (by omega)
  have hm2 := x_mod (fs.getD (Int.toNat 2) 0) (6 + (fs.getD (Int.toNat 0) 0).fmod 7 - 1) (by omega)
  have hm3 := x_mod (fs.getD (Int.toNat 3) 0) (6 + (fs.getD (Int.toNat 0) 0).fmod 7) (by omega)
  have hm4 := x_mod (fs.getD (Int.toNat 4) 0) 3 (by decide)
  obtain ⟨hm0a, hm0b⟩ := hm0
  obtain ⟨hm2a, hm2b⟩ := hm2
  obtain ⟨hm3a, hm3b⟩ := hm3
  obtain ⟨hm4a, hm4b⟩ := hm4
  obtain ⟨hm1a, hm1b⟩ := hm1
  obtain ⟨hm5a, hm5b⟩ := hm5
  obtain ⟨hm6a, hm6b⟩ := hm6
  k_with_none
  k_with "pyIter ref" => k_of "b" => k_state_given ["row!"] (fun r0 pre row k => 0 ≤ k ∧ k ≤ 12 * (pre.length : Int) ∧ row.length = r0.length ∧ RI row (pre.length : Int) 0 k) "row" "k"
  k_with "pyIter ref" => k_of "a" => k_state_given ["row!", "k!", "b"] (fun r0 k0 b pre row k => 0 ≤ k0 ∧ k = k0 + (pre.length : Int) ∧ row.length = r0.length ∧ RI row b (pre.length : Int) k) "row" "k"
  k_with "state" => first
    | exact x_start
    | exact x_in (by assumption) (by assumption) (by assumption)
    | exact x_s1 (by assumption) (by assumption) (by assumption) (by assumption) (by assumption) (by assumption)
    | exact x_s0 (by assumption) (by assumption) (by assumption) (by assumption)
    | exact x_out (by assumption) (by assumption) (rangeKs_length _ _) (by assumption) (by assumption) (by assumption) (by assumption) (by omega) (by assumption) (by assumption)
  have hdp := C.hdp
  have hun := C.hun
  refine wpAny_call ?_
  k_dflt (refine' enterC C.B C.F C.X C.T ?kA ?kF ?kK ?k6 ?k7 ?k8 ?k9 ?kB ?kD ?_ ?c2 ?c3 ?c4; (case kA => exact rfl); (case kF => exact rfl); (case kK => exact C.hk); (case k6 => k_is); (case k7 => k_is); (case k8 => k_room); (case k9 => first | exact BindsTo.of_eq rfl | exact binds_K (by k_in) rfl (by k_is) rfl rfl rfl); (case kB => exact rfl); (case kD => decide +kernel); (case c2 => exact rfl); (case c3 => exact rfl); (case c4 => exact rfl); k_whole; intro L' h' tk' cells' F' N' Y' B' X' T'; k_cells Y'; (try simp only [List.cons_append, List.nil_append, List.append_nil] at N'); (try dsimp only); (try k_fold))
  k_steps
  · (rename Fr _ _ _ _ => zF)
    (rename News _ _ _ _ => zN)
    refine hret _ _ _ _ ?msa _ ?k1a ?k2a ?k3a ?k4a zF.keep (zN _ (.head _)).2.2 (zN _ (.head _)).1
    case k4a => assumption
    case k3a => exact x_bd2 (x_map (fun a => by have h9 := x_mod (fs.getD (6 + a).toNat 0) 3 (by decide); (try dsimp only); omega))
    case k1a => ((try simp only [List.length_set]); simp only [List.length_map, rangeKs_length]; omega)
    case k2a => ((try simp only [List.length_set]); simp only [List.length_map, rangeKs_length]; omega)
  · (rename Fr _ _ _ _ => zF)
    (rename News _ _ _ _ => zN)
    refine hret _ _ _ _ ?msb _ ?k1b ?k2b ?k3b ?k4b zF.keep (zN _ (.head _)).2.2 (zN _ (.head _)).1
    case k4b => assumption
    case k3b => exact x_loose (x_map (fun a => by have h9 := x_mod (fs.getD (6 + a).toNat 0) 3 (by decide); (try dsimp only); omega))
    case k1b => ((try simp only [List.length_set]); simp only [List.length_map, rangeKs_length]; omega)
    case k2b => ((try simp only [List.length_set]); simp only [List.length_map, rangeKs_length]; omega)
  · (rename Fr _ _ _ _ => zF)
    (rename News _ _ _ _ => zN)
    refine hret _ _ _ _ ?msc _ ?k1c ?k2c ?k3c ?k4c zF.keep (zN _ (.head _)).2.2 (zN _ (.head _)).1
    case k4c => assumption
    case k3c => exact x_loose (x_map (fun a => by have h9 := x_mod (fs.getD (6 + a).toNat 0) 3 (by decide); (try dsimp only); omega))
    case k1c => ((try simp only [List.length_set]); simp only [List.length_map, rangeKs_length]; omega)
    case k2c => ((try simp only [List.length_set]); simp only [List.length_map, rangeKs_length]; omega)
end Mine

open PySem PySem.W PyProof.Rows PySem.Calls PySem.Spec
set_option Elab.async false
set_option maxRecDepth 100000
namespace Mine
theorem fill_N2c : Challenge.rw_am6015_01.name = Challenge.rw_am6015_01.name ∧ hd.heap_39 = hd.heap_39 := by
  w_top off
  k_fill
  exact ⟨rfl, rfl⟩
local macro_rules | `(tactic| walk_at "eval BinOp") => `(tactic| (k_here; k_gentoks; (try dsimp only)))
local macro_rules | `(tactic| walk_at "eval Name") => `(tactic| (k_here; k_gentoks; (try dsimp only)))
local macro_rules | `(tactic| walk_at "compareOp") => `(tactic| (k_here; k_gentoks; (try dsimp only)))
local macro_rules | `(tactic| k_room) => `(tactic| ((try simp only [depth_mark, depth_under_make, depth_under_kw, depth_in1, depth_deeper, depth_caller]); omega))
local macro_rules | `(tactic| k_units) => `(tactic| first | exact Nat.le_of_ble_eq_true rfl | ((try simp only [units_in1, units_deeper, Around.mark_units, units_caller]); omega))
local macro_rules | `(tactic| units_room) => `(tactic| ((try simp only [units_in1, units_deeper, Around.mark_units, units_caller]); omega))
local macro_rules | `(tactic| mul_fits) => `(tactic| first | exact PySem.IntMulOk.of_left (PySem.intBits_le_64 (by omega) (by omega)) | exact PySem.IntMulOk.of_right (PySem.intBits_le_64 (by omega) (by omega)))
local macro_rules | `(tactic| walk_at "ite") => `(tactic| (k_here; k_openite; (rename (Int.fmod (List.getD _ (Int.toNat 1) 0) 5 = _) => hk9); first | (refine ite_pos (by (rw [hk9]; decide)) ?_; walk_say "PRUNED K") | (refine ite_neg (by (rw [hk9]; decide)) ?_; walk_say "PRUNED K")))
local macro_rules | `(tactic| l_idx) => `(tactic| ((try simp only [List.length_map, rangeKs_length]); omega))
set_option maxHeartbeats 8000000 in
theorem row_c {w : World} {mean : ExcName → Option Value} {mg mb : Str → Option Value} {dp un : Nat} {gd : Option (List Code)} {cn : Str} {cs : Scope} {a : Addr} {ccd : Value} {outer : List Env} {A₀ : Around} {base h₀ : Heap} {L : Addr} {m : Str → Option Value} {s : Shared} {Q E : Value → Shared → Prop}
    (C : Cal w mean mg mb 1 dp un outer A₀ base h₀ L m cs s.heap)
    {l : Addr} {vs : List Value} {fs : List Int} (hl : s.heap.IsList l vs.toArray) (hi : IntsAre vs fs) (hfit : fs.length = 24) (hkind : Int.fmod (fs.getD (Int.toNat 1) 0) 5 = 3)
    (hret : ∀ (h' : Heap) (tk' : Nat) l' us ns n', 6 ≤ ns.length → ns.length ≤ 12 → (∀ x ∈ ns, -100 ≤ x ∧ x ≤ 100) → IntsAre us ns → Kept s.heap h' → s.heap.get? l' = none → h'.get? l' = some (W.listOf us.toArray n') → Q (.ref l') { s with heap := h', toks := tk' }) :
    wpAny (model PR w) (ktrTop dp un gd cn cs L a ccd [] outer) (call (.ref 123) [.ref l]) Q E s := by
  have hm0 := x_mod (fs.getD (Int.toNat 0) 0) 7 (by decide)
  have hm1 := x_mod (fs.getD (Int.toNat 1) 0) 5 (by decide)
  have hm5 := x_mod (fs.getD (Int.toNat 5) 0) (6 + (fs.getD (Int.toNat 0) 0).fmod 7) (by omega)
  have hm6 := x_mod (fs.getD (Int.toNat 6) 0) (6 + (fs.getD (Int.toNat 0) 0).fmod 7) (by omega)
  have hm2 := x_mod (fs.getD (Int.toNat 2) 0) (6 + (fs.getD (Int.toNat 0) 0).fmod 7 - 1) (by omega)
  have hm3 := x_mod (fs.getD (Int.toNat 3) 0) (6 + (fs.getD (Int.toNat 0) 0).fmod 7) (by omega)
  have hm4 := x_mod (fs.getD (Int.toNat 4) 0) 3 (by decide)
  obtain ⟨hm0a, hm0b⟩ := hm0
  obtain ⟨hm2a, hm2b⟩ := hm2
  obtain ⟨hm3a, hm3b⟩ := hm3
  obtain ⟨hm4a, hm4b⟩ := hm4
  obtain ⟨hm1a, hm1b⟩ := hm1
  obtain ⟨hm5a, hm5b⟩ := hm5
  obtain ⟨hm6a, hm6b⟩ := hm6
  k_with_none
  k_with "pyIter ref" => k_of "b" => k_state_given ["row!"] (fun r0 pre row k => 0 ≤ k ∧ k ≤ 12 * (pre.length : Int) ∧ row.length = r0.length ∧ RI row (pre.length : Int) 0 k) "row" "k"
  k_with "pyIter ref" => k_of "a" => k_state_given ["row!", "k!", "b"] (fun r0 k0 b pre row k => 0 ≤ k0 ∧ k = k0 + (pre.length : Int) ∧ row.length = r0.length ∧ RI row b (pre.length : Int) k) "row" "k"
  k_with "state" => first
    | exact x_start
    | exact x_in (by assumption) (by assumption) (by assumption)
    | exact x_s1 (by assumption) (by assumption) (by assumption) (by assumption) (by assumption) (by assumption)
    | exact x_s0 (by assumption) (by assumption) (by assumption) (by assumption)
    | exact x_out (by assumption) (by assumption) (rangeKs_length _ _) (by assumption) (by assumption) (by assumption) (by assumption) (by omega) (by assumption) (by assumption)
  have hdp := C.hdp
  have hun := C.hun
  refine wpAny_call ?_
  k_dflt (refine' enterC C.B C.F C.X C.T ?kA ?kF ?kK ?k6 ?k7 ?k8 ?k9 ?kB ?kD ?_ ?c2 ?c3 ?c4; (case kA => exact rfl); (case kF => exact rfl); (case kK => exact C.hk); (case k6 => k_is); (case k7 => k_is); (case k8 => k_room); (case k9 => first | exact BindsTo.of_eq rfl | exact binds_K (by k_in) rfl (by k_is) rfl rfl rfl); (case kB => exact rfl); (case kD => decide +kernel); (case c2 => exact rfl); (case c3 => exact rfl); (case c4 => exact rfl); k_whole; intro L' h' tk' cells' F' N' Y' B' X' T'; k_cells Y'; (try simp only [List.cons_append, List.nil_append, List.append_nil] at N'); (try dsimp only); (try k_fold))
  k_steps
  · (rename Fr _ _ _ _ => zF)
    (rename News _ _ _ _ => zN)
    refine hret _ _ _ _ ?msa _ ?k1a ?k2a ?k3a ?k4a zF.keep (zN _ (.head _)).2.2 (zN _ (.head _)).1
    case k4a => assumption
    case k3a => exact x_bd2 (x_map (fun a => by have h9 := x_mod (fs.getD (6 + a).toNat 0) (6 + (fs.getD (Int.toNat 0) 0).fmod 7 + 2) (by omega); (try dsimp only); omega))
    case k1a => ((try simp only [List.length_set]); simp only [List.length_map, rangeKs_length]; omega)
    case k2a => ((try simp only [List.length_set]); simp only [List.length_map, rangeKs_length]; omega)
  · (rename Fr _ _ _ _ => zF)
    (rename News _ _ _ _ => zN)
    refine hret _ _ _ _ ?msb _ ?k1b ?k2b ?k3b ?k4b zF.keep (zN _ (.head _)).2.2 (zN _ (.head _)).1
    case k4b => assumption
    case k3b => exact x_loose (x_map (fun a => by have h9 := x_mod (fs.getD (6 + a).toNat 0) (6 + (fs.getD (Int.toNat 0) 0).fmod 7 + 2) (by omega); (try dsimp only); omega))
    case k1b => ((try simp only [List.length_set]); simp only [List.length_map, rangeKs_length]; omega)
    case k2b => ((try simp only [List.length_set]); simp only [List.length_map, rangeKs_length]; omega)
  · (rename Fr _ _ _ _ => zF)
    (rename News _ _ _ _ => zN)
    refine hret _ _ _ _ ?msc _ ?k1c ?k2c ?k3c ?k4c zF.keep (zN _ (.head _)).2.2 (zN _ (.head _)).1
    case k4c => assumption
    case k3c => exact x_loose (x_map (fun a => by have h9 := x_mod (fs.getD (6 + a).toNat 0) (6 + (fs.getD (Int.toNat 0) 0).fmod 7 + 2) (by omega); (try dsimp only); omega))
    case k1c => ((try simp only [List.length_set]); simp only [List.length_map, rangeKs_length]; omega)
    case k2c => ((try simp only [List.length_set]); simp only [List.length_map, rangeKs_length]; omega)
end Mine

open PySem PySem.W PyProof.Rows PySem.Calls PySem.Spec
set_option Elab.async false
set_option maxRecDepth 100000
namespace Mine
theorem fill_N2d : Challenge.rw_am6015_01.name = Challenge.rw_am6015_01.name ∧ hd.heap_39 = hd.heap_39 := by
  w_top off
  k_fill
  exact ⟨rfl, rfl⟩
local macro_rules | `(tactic| walk_at "pad0") => `(tactic| skip)
local macro_rules | `(tactic| walk_at "eval BinOp") => `(tactic| (k_here; k_gentoks; (try dsimp only)))
local macro_rules | `(tactic| walk_at "eval Name") => `(tactic| (k_here; k_gentoks; (try dsimp only)))
local macro_rules | `(tactic| walk_at "compareOp") => `(tactic| (k_here; k_gentoks; (try dsimp only)))
local macro_rules | `(tactic| k_room) => `(tactic| ((try simp only [depth_mark, depth_under_make, depth_under_kw, depth_in1, depth_deeper, depth_caller]); omega))
local macro_rules | `(tactic| k_units) => `(tactic| first | exact Nat.le_of_ble_eq_true rfl | ((try simp only [units_in1, units_deeper, Around.mark_units, units_caller]); omega))
local macro_rules | `(tactic| units_room) => `(tactic| ((try simp only [units_in1, units_deeper, Around.mark_units, units_caller]); omega))
local macro_rules | `(tactic| mul_fits) => `(tactic| first | exact PySem.IntMulOk.of_left (PySem.intBits_le_64 (by omega) (by omega)) | exact PySem.IntMulOk.of_right (PySem.intBits_le_64 (by omega) (by omega)))
local macro_rules | `(tactic| walk_at "ite") => `(tactic| (k_here; k_openite; (rename (Int.fmod (List.getD _ (Int.toNat 1) 0) 5 = _) => hk9); first | (refine ite_pos (by (rw [hk9]; decide)) ?_; walk_say "PRUNED K") | (refine ite_neg (by (rw [hk9]; decide)) ?_; walk_say "PRUNED K")))
local macro_rules | `(tactic| l_idx) => `(tactic| ((try simp only [List.length_map, rangeKs_length]); omega))
set_option maxHeartbeats 8000000 in
theorem row_d {w : World} {mean : ExcName → Option Value} {mg mb : Str → Option Value} {dp un : Nat} {gd : Option (List Code)} {cn : Str} {cs : Scope} {a : Addr} {ccd : Value} {outer : List Env} {A₀ : Around} {base h₀ : Heap} {L : Addr} {m : Str → Option Value} {s : Shared} {Q E : Value → Shared → Prop}
    (C : Cal w mean mg mb 1 dp un outer A₀ base h₀ L m cs s.heap)
    {l : Addr} {vs : List Value} {fs : List Int} (hl : s.heap.IsList l vs.toArray) (hi : IntsAre vs fs) (hfit : fs.length = 24) (hkind : Int.fmod (fs.getD (Int.toNat 1) 0) 5 = 4)
    (hret : ∀ (h' : Heap) (tk' : Nat) l' us ns n', 6 ≤ ns.length → ns.length ≤ 12 → (∀ x ∈ ns, -100 ≤ x ∧ x ≤ 100) → IntsAre us ns → Kept s.heap h' → s.heap.get? l' = none → h'.get? l' = some (W.listOf us.toArray n') → Q (.ref l') { s with heap := h', toks := tk' }) :
    wpAny (model PR w) (ktrTop dp un gd cn cs L a ccd [] outer) (call (.ref 123) [.ref l]) Q E s := by
  have hm0 := x_mod (fs.getD (Int.toNat 0) 0) 7 (by decide)
  have hm1 := x_mod (fs.getD (Int.toNat 1) 0) 5 (by decide)
  have hm5 := x_mod (fs.getD (Int.toNat 5) 0) (6 + (fs.getD (Int.toNat 0) 0).fmod 7) (by omega)
  have hm6 := x_mod (fs.getD (Int.toNat 6) 0) (6 + (fs.getD (Int.toNat 0) 0).fmod 7) (by omega)
  have hm2 := x_mod (fs.getD (Int.toNat 2) 0) (6 + (fs.getD (Int.toNat 0) 0).fmod 7 - 1) (by omega)
  have hm3 := x_mod (fs.getD (Int.toNat 3) 0) (6 + (fs.getD (Int.toNat 0) 0).fmod 7) (by omega)
  have hm4 := x_mod (fs.getD (Int.toNat 4) 0) 3 (by decide)
  obtain ⟨hm0a, hm0b⟩ := hm0
  obtain ⟨hm2a, hm2b⟩ := hm2
  obtain ⟨hm3a, hm3b⟩ := hm3
  obtain ⟨hm4a, hm4b⟩ := hm4
  obtain ⟨hm1a, hm1b⟩ := hm1
  obtain ⟨hm5a, hm5b⟩ := hm5
  obtain ⟨hm6a, hm6b⟩ := hm6
  k_with_none
  k_with "pyIter ref" => k_of "b" => k_state_given ["row!"] (fun r0 pre row k => 0 ≤ k ∧ k ≤ 12 * (pre.length : Int) ∧ row.length = r0.length ∧ RI row (pre.length : Int) 0 k) "row" "k"
  k_with "pyIter ref" => k_of "a" => k_state_given ["row!", "k!", "b"] (fun r0 k0 b pre row k => 0 ≤ k0 ∧ k = k0 + (pre.length : Int) ∧ row.length = r0.length ∧ RI row b (pre.length : Int) k) "row" "k"
  k_with "state" => first
    | exact x_start
    | exact x_in (by assumption) (by assumption) (by assumption)
    | exact x_s1 (by assumption) (by assumption) (by assumption) (by assumption) (by assumption) (by assumption)
    | exact x_s0 (by assumption) (by assumption) (by assumption) (by assumption)
    | exact x_out (by assumption) (by assumption) (rangeKs_length _ _) (by assumption) (by assumption) (by assumption) (by assumption) (by omega) (by assumption) (by assumption)
  have hdp := C.hdp
  have hun := C.hun
  refine wpAny_call ?_
  k_dflt (refine' enterC C.B C.F C.X C.T ?kA ?kF ?kK ?k6 ?k7 ?k8 ?k9 ?kB ?kD ?_ ?c2 ?c3 ?c4; (case kA => exact rfl); (case kF => exact rfl); (case kK => exact C.hk); (case k6 => k_is); (case k7 => k_is); (case k8 => k_room); (case k9 => first | exact BindsTo.of_eq rfl | exact binds_K (by k_in) rfl (by k_is) rfl rfl rfl); (case kB => exact rfl); (case kD => decide +kernel); (case c2 => exact rfl); (case c3 => exact rfl); (case c4 => exact rfl); k_whole; intro L' h' tk' cells' F' N' Y' B' X' T'; k_cells Y'; (try simp only [List.cons_append, List.nil_append, List.append_nil] at N'); (try dsimp only); (try k_fold))
  k_steps
  · (rename Fr _ _ _ _ => zF)
    (rename News _ _ _ _ => zN)
    refine hret _ _ _ _ ?msa _ ?k1a ?k2a ?k3a ?k4a zF.keep (zN _ (.head _)).2.2 (zN _ (.head _)).1
    case k4a => assumption
    case k3a => exact x_bd2 (x_map (fun a => by (try dsimp only); split <;> omega))
    case k1a => ((try simp only [List.length_set]); simp only [List.length_map, rangeKs_length]; omega)
    case k2a => ((try simp only [List.length_set]); simp only [List.length_map, rangeKs_length]; omega)
  · (rename Fr _ _ _ _ => zF)
    (rename News _ _ _ _ => zN)
    refine hret _ _ _ _ ?msb _ ?k1b ?k2b ?k3b ?k4b zF.keep (zN _ (.head _)).2.2 (zN _ (.head _)).1
    case k4b => assumption
    case k3b => exact x_loose (x_map (fun a => by (try dsimp only); split <;> omega))
    case k1b => ((try simp only [List.length_set]); simp only [List.length_map, rangeKs_length]; omega)
    case k2b => ((try simp only [List.length_set]); simp only [List.length_map, rangeKs_length]; omega)
  · (rename Fr _ _ _ _ => zF)
    (rename News _ _ _ _ => zN)
    refine hret _ _ _ _ ?msc _ ?k1c ?k2c ?k3c ?k4c zF.keep (zN _ (.head _)).2.2 (zN _ (.head _)).1
    case k4c => assumption
    case k3c => exact x_loose (x_map (fun a => by (try dsimp only); split <;> omega))
    case k1c => ((try simp only [List.length_set]); simp only [List.length_map, rangeKs_length]; omega)
    case k2c => ((try simp only [List.length_set]); simp only [List.length_map, rangeKs_length]; omega)
end Mine

open PySem PySem.W PyProof.Rows PySem.Calls PySem.Spec
set_option Elab.async false
set_option maxRecDepth 100000
namespace Mine
theorem row_int {w : World} {mean : ExcName → Option Value} {mg mb : Str → Option Value} {dp un : Nat} {gd : Option (List Code)} {cn : Str} {cs : Scope} {a : Addr} {ccd : Value} {outer : List Env} {A₀ : Around} {base h₀ : Heap} {L : Addr} {m : Str → Option Value} {s : Shared} {Q E : Value → Shared → Prop}
    (C : Cal w mean mg mb 1 dp un outer A₀ base h₀ L m cs s.heap)
    {l : Addr} {vs : List Value} {fs : List Int} (hl : s.heap.IsList l vs.toArray) (hi : IntsAre vs fs) (hfit : fs.length = 24)
    (hret : ∀ (h' : Heap) (tk' : Nat) l' us ns n', 6 ≤ ns.length → ns.length ≤ 12 → (∀ x ∈ ns, -100 ≤ x ∧ x ≤ 100) → IntsAre us ns → Kept s.heap h' → s.heap.get? l' = none → h'.get? l' = some (W.listOf us.toArray n') → Q (.ref l') { s with heap := h', toks := tk' }) :
    wpAny (model PR w) (ktrTop dp un gd cn cs L a ccd [] outer) (call (.ref 123) [.ref l]) Q E s := by
  have hm1 := x_mod (fs.getD (Int.toNat 1) 0) 5 (by decide)
  rcases (by omega : Int.fmod (fs.getD (Int.toNat 1) 0) 5 < 2 ∨ Int.fmod (fs.getD (Int.toNat 1) 0) 5 = 2 ∨ Int.fmod (fs.getD (Int.toNat 1) 0) 5 = 3 ∨ Int.fmod (fs.getD (Int.toNat 1) 0) 5 = 4) with hk | hk | hk | hk
  · exact row_a C hl hi hfit hk hret
  · exact row_b C hl hi hfit hk hret
  · exact row_c C hl hi hfit hk hret
  · exact row_d C hl hi hfit hk hret
end Mine

open PySem PySem.W PyProof.Rows PySem.Calls PySem.Spec
set_option Elab.async false
set_option maxRecDepth 100000
namespace Mine
theorem bne_same (b : Bool) : (b != b) = false := by cases b <;> rfl
theorem bne_of {b c : Bool} (h : b = c) : (b != c) = false := by rw [h]; exact bne_same c
theorem iff_bool {b c : Bool} {p : Prop} (h : b = true ↔ p) (h' : c = true ↔ p) : (b != c) = false := by
  refine bne_of ?_
  have e := h.trans h'.symm
  cases b <;> cases c <;> simp_all
theorem same_due {b b' : Bool} {p : Prop} (h' : b' = true ↔ p) (h : b = true ↔ p) : b = b' := by
  have e := h'.trans h.symm
  cases b <;> cases b' <;> simp_all
theorem y_nb {z : Int} (ho : z ≠ 0) : (z == 0) = false := beq_eq_false_iff_ne.mpr ho
theorem y_filt {ns : List Int} : ns.filter (fun a => decide (a < 0)) = [] ↔ ∀ x ∈ ns, 0 ≤ x := by
  rw [List.filter_eq_nil_iff]
  constructor
  · intro h x hx
    have := h x hx
    simp at this
    omega
  · intro h x hx
    have := h x hx
    simp
    omega
variable {ns : List Int} {b : Bool}
theorem y_pA (h : b = true ↔ (Int.fmod ns.sum 2 = 0 ∧ ∀ x ∈ ns, 0 ≤ x)) (ho : Int.fmod ns.sum 2 ≠ 0) : (b != (Int.fmod ns.sum 2 == 0)) = false :=
  iff_bool h ⟨fun q => absurd (by simpa using q) ho, fun q => absurd q.1 ho⟩
theorem y_pB (h : b = true ↔ (Int.fmod ns.sum 2 = 0 ∧ ∀ x ∈ ns, 0 ≤ x)) (he : Int.fmod ns.sum 2 = 0) : (b != decide (ns.filter (fun a => decide (a < 0)) = [])) = false :=
  iff_bool h ⟨fun q => ⟨he, y_filt.mp (of_decide_eq_true q)⟩, fun q => decide_eq_true (y_filt.mpr q.2)⟩
theorem y_qA (h : b = true ↔ Mul ns) (ho : Int.fmod ns.sum 2 ≠ 0) : (b != (Int.fmod ns.sum 2 == 0)) = false :=
  iff_bool h ⟨fun q => absurd (by simpa using q) ho, fun q => absurd q.1.1 ho⟩
theorem y_qB (h : b = true ↔ Mul ns) (hf : ns.filter (fun a => decide (a < 0)) ≠ []) : (b != decide (ns.filter (fun a => decide (a < 0)) = [])) = false :=
  iff_bool h ⟨fun q => absurd (of_decide_eq_true q) hf, fun q => absurd (y_filt.mpr q.1.2) hf⟩
theorem y_qC {M : Int} (h : b = true ↔ Mul ns) (he : Int.fmod ns.sum 2 = 0) (hf : ns.filter (fun a => decide (a < 0)) = []) (hm : M ∈ ns) (hM : ∀ a ∈ ns, a ≤ M) : (b != decide (2 * M ≤ ns.sum)) = false :=
  iff_bool h ⟨fun q => ⟨⟨he, y_filt.mp hf⟩, fun x hx => by
    have h1 := of_decide_eq_true q
    have h2 := hM x hx
    omega⟩, fun q => decide_eq_true (q.2 M hm)⟩
theorem z_pA (ho : Int.fmod ns.sum 2 ≠ 0) : (Int.fmod ns.sum 2 == 0) = true ↔ (Int.fmod ns.sum 2 = 0 ∧ ∀ x ∈ ns, 0 ≤ x) := ⟨fun q => absurd (by simpa using q) ho, fun q => absurd q.1 ho⟩
theorem z_pB (he : Int.fmod ns.sum 2 = 0) : decide (ns.filter (fun a => decide (a < 0)) = []) = true ↔ (Int.fmod ns.sum 2 = 0 ∧ ∀ x ∈ ns, 0 ≤ x) := ⟨fun q => ⟨he, y_filt.mp (of_decide_eq_true q)⟩, fun q => decide_eq_true (y_filt.mpr q.2)⟩
theorem z_qA (hb : b = true ↔ (Int.fmod ns.sum 2 = 0 ∧ ∀ x ∈ ns, 0 ≤ x)) (hf : b = false) : b = true ↔ Mul ns := by
  constructor
  · intro q; rw [hf] at q; cases q
  · intro q; exact hb.mpr q.1
theorem z_qF (hb : b = true ↔ (Int.fmod ns.sum 2 = 0 ∧ ∀ x ∈ ns, 0 ≤ x)) (hf : b = false) : false = true ↔ Mul ns := by
  rw [← hf]; exact z_qA hb hf
theorem z_qC {M : Int} (hb : b = true ↔ (Int.fmod ns.sum 2 = 0 ∧ ∀ x ∈ ns, 0 ≤ x)) (ht : b = true) (hm : M ∈ ns) (hM : ∀ a ∈ ns, a ≤ M) : decide (2 * M ≤ ns.sum) = true ↔ Mul ns := by
  have p := hb.mp ht
  constructor
  · intro q
    refine ⟨p, fun x hx => ?_⟩
    have h1 := of_decide_eq_true q
    have h2 := hM x hx
    omega
  · intro q; exact decide_eq_true (q.2 M hm)
theorem z_qD {M t : Int} {inst : Decidable (t ≤ ns.sum)} (hb : b = true ↔ (Int.fmod ns.sum 2 = 0 ∧ ∀ x ∈ ns, 0 ≤ x)) (ht : b = true) (hm : M ∈ ns) (hM : ∀ a ∈ ns, a ≤ M) (e : t = 2 * M) : @decide (t ≤ ns.sum) inst = true ↔ Mul ns := by
  have h := z_qC hb ht hm hM
  rw [← h]
  constructor
  · intro q
    have q' := of_decide_eq_true q
    exact decide_eq_true (by omega)
  · intro q
    have q' := of_decide_eq_true q
    exact decide_eq_true (by omega)
end Mine

open PySem PySem.W PyProof.Rows PySem.Calls PySem.Spec
set_option Elab.async false
set_option maxRecDepth 100000
namespace Mine
theorem news_keeps {h₀ h h' : Heap} {L : Addr} {news : List (Addr × Obj)} (N : News h₀ L h news) (hk : Kept h h') : News h₀ L h' news := fun p hp => ⟨hk _ _ (N p hp).1, (N p hp).2⟩
theorem tup_news {h₀ h : Heap} {L l : Addr} {news : List (Addr × Obj)} {xs : Array Value} {n : Nat} {sl : Array (Option Value)} {dd : Option Addr} (N : News h₀ L h ((l, ⟨.type "tuple", dd, .seq xs n, sl⟩) :: news)) : IsTup h l xs := ⟨_, (N _ (.head _)).1, rfl, n, rfl⟩
theorem kd0 {h₀ h : Heap} {L : Addr} {m : Str → Option Value} (_F : Fr h₀ L h m) : KtsDicts (([] : List Env).filterMap (·.frame)) h₀ := ktsDicts_nil
def JoinQ (P : Prop) (h₀ : Heap) (L : Addr) (m : Str → Option Value) (news : List (Addr × Obj)) (s : Shared) (v : Value) (s' : Shared) : Prop :=
  ∃ b h' tk', v = .bool b ∧ (b = true ↔ P) ∧ Fr h₀ L h' m ∧ News h₀ L h' news ∧ s' = { s with heap := h', toks := tk' }
theorem join_plain {prog : Program} {w : World} {A : Around} {E Q : Value → Shared → Prop} {s : Shared} {h₀ : Heap} {L : Addr} {m : Str → Option Value} {news : List (Addr × Obj)} {ns : List Int} {b₀ : Bool} {t : Sem Value}
    (_hD : b₀ = true ↔ Due ns) (F : Fr h₀ L s.heap m) (N : News h₀ L s.heap news) (h1 : wpAny (model prog w) A t (JoinQ (Int.fmod ns.sum 2 = 0 ∧ ∀ x ∈ ns, 0 ≤ x) h₀ L m news s) E s)
    (h2 : ∀ b h' tk', (b = true ↔ (Int.fmod ns.sum 2 = 0 ∧ ∀ x ∈ ns, 0 ≤ x)) → Fr h₀ L h' m → News h₀ L h' news → Q (.bool b) { s with heap := h', toks := tk' }) : wpAny (model prog w) A t Q E s :=
  wpAny_mono h1 (fun v s' ⟨b, h', tk', e1, hb, F', N', e2⟩ => by subst e1 e2; exact h2 b h' tk' hb F' N') fun _ _ x => x
theorem join_mul {prog : Program} {w : World} {A : Around} {E Q : Value → Shared → Prop} {s : Shared} {h₀ : Heap} {L : Addr} {m : Str → Option Value} {news : List (Addr × Obj)} {ns : List Int} {b₀ : Bool} {t : Sem Value}
    (_hD : b₀ = true ↔ Due ns) (F : Fr h₀ L s.heap m) (N : News h₀ L s.heap news) (h1 : wpAny (model prog w) A t (JoinQ (Mul ns) h₀ L m news s) E s)
    (h2 : ∀ b h' tk', (b = true ↔ Mul ns) → Fr h₀ L h' m → News h₀ L h' news → Q (.bool b) { s with heap := h', toks := tk' }) : wpAny (model prog w) A t Q E s :=
  wpAny_mono h1 (fun v s' ⟨b, h', tk', e1, hb, F', N', e2⟩ => by subst e1 e2; exact h2 b h' tk' hb F' N') fun _ _ x => x
theorem post_ok (z : List Int) : Challenge.rw_am6015_01.row.claim.post [ofPy (PyData.list (List.map PyData.int z))] (.bool true) [ofPy (PyData.list (List.map PyData.int z))] = true := by
  refine postW_of (X := true == true) (by wrow_shape) ?_ rfl
  simp [OpenLaw.row, WTm.value, W.same]
theorem fill_LW : Challenge.rw_am6015_01.name = Challenge.rw_am6015_01.name ∧ hd.heap_39 = hd.heap_39 := by
  w_top off
  k_fill
  exact ⟨rfl, rfl⟩
local macro_rules | `(tactic| walk_at "eval BinOp") => `(tactic| (k_here; k_gentoks; (try dsimp only)))
local macro_rules | `(tactic| walk_at "eval Name") => `(tactic| (k_here; k_gentoks; (try dsimp only)))
local macro_rules | `(tactic| walk_at "compareOp") => `(tactic| (k_here; k_gentoks; (try dsimp only)))
local macro_rules | `(tactic| k_room) => `(tactic| ((try simp only [depth_mark, depth_under_make, depth_under_kw, depth_in1, depth_deeper, depth_caller]); omega))
local macro_rules | `(tactic| k_units) => `(tactic| first | exact Nat.le_of_ble_eq_true rfl | ((try simp only [units_in1, units_deeper, Around.mark_units, units_caller]); omega))
local macro_rules | `(tactic| units_room) => `(tactic| ((try simp only [units_in1, units_deeper, Around.mark_units, units_caller]); omega))
theorem ints_id {vs : List Value} {ns : List Int} (h : IntsAre vs (ns.map fun a => a)) : IntsAre vs ns := by simpa using h
theorem tup_ints {prog : Program} {w : World} {A : Around} {E : Value → Shared → Prop} {s : Shared} {h₀ : Heap} {L l : Addr} {m : Str → Option Value} {news : List (Addr × Obj)} {vs : List Value} {ns : List Int} {Q : Value → Shared → Prop}
    (F : Fr h₀ L s.heap m) (N : News h₀ L s.heap news) (hl : s.heap.IsList l vs.toArray) (hi : IntsAre vs ns) (hfit : ns.length ≤ 12)
    (h : ∀ D h', Fr h₀ L h' m → News h₀ L h' ((D, ({ cls := .type "tuple", data := .seq vs.toArray } : Obj)) :: news) → (∀ p ∈ news, p.1 < D) → Q (.ref D) { s with heap := h' }) :
    wpAny (model prog w) A (call (.type "tuple") [.ref l]) Q E s :=
  kde_tupleOf F N hl (by have := hi.length; simp only [List.size_toArray]; omega) rfl h
theorem end_law {c : ClaimW} {cl : Str → Option Addr} {mean : ExcName → Option Value} {args : List WData} {s₁ s' : Shared} {L : Addr} {m : Str → Option Value} {A₀ : Around} {g : Heap}
    (B : Below A₀ s₁.heap [] g) (F : Fr g L s'.heap m) (hg : s'.gens = #[]) (hn : ∀ cls, c.raises args cls = false) (hp : c.post args (.bool true) args = true) (hos : s'.os = s₁.os := by rfl) : GoodW c cl mean args s₁ (.ok (.ret (.bool true))) s' :=
  ⟨.inl ⟨_, _, [], rfl, hn, .bool true, hp, unshared_nil⟩, fun b o e => F.keep b o (B.stays b o e), hos, hg⟩
local macro_rules | `(tactic| walk_at "call ref") => `(tactic| (k_here; (with_reducible show wpAny _ _ (call (Value.ref 118) [Value.ref _, Value.int 24 _]) _ _ _); k_dflt (refine' numbers (C := ⟨?k1, ?k2, ?k3, ?k4, ?k5, ?k6, ?k7⟩) ?k8 ?k9 ?k10 ?k11 ?_; (case k1 => k_asm); (case k2 => k_asm); (case k3 => k_asm); (case k4 => k_asm); (case k5 => exact rfl); (case k6 => first | exact Nat.le_of_ble_eq_true rfl | ((try simp only [depth_deeper, depth_mark]); omega)); (case k7 => first | exact Nat.le_of_ble_eq_true rfl | ((try simp only [units_deeper, Around.mark_units, units_in1]); omega)); (case k8 => first | is_list | exact News.isList (by k_asm) (by repeat (first | exact List.Mem.head _ | apply List.Mem.tail))); (case k9 => k_asm); (case k10 => assumption); (case k11 => omega); k_whole); intro h' tk' l' us' ms' n' hlen' hI' kK' kN' kO'; (rename Fr _ _ _ _ => lF'); (rename News _ _ _ _ => lN'); have F' := lF'.keeps kK'; have N' := news_add lF' lN' kK' kN' kO'; have l1 := news_off lN' kN'; clear kK' kN' kO' lF' lN' ))
local macro_rules | `(tactic| walk_at "call ref") => `(tactic| (k_here; (with_reducible show wpAny _ _ (call (Value.ref 123) [Value.ref _]) _ _ _); k_dflt (refine' row_int (C := ⟨?k1, ?k2, ?k3, ?k4, ?k5, ?k6, ?k7⟩) ?k8 ?k9 ?k10 ?_; (case k1 => k_asm); (case k2 => k_asm); (case k3 => k_asm); (case k4 => k_asm); (case k5 => exact rfl); (case k6 => first | exact Nat.le_of_ble_eq_true rfl | ((try simp only [depth_deeper, depth_mark]); omega)); (case k7 => first | exact Nat.le_of_ble_eq_true rfl | ((try simp only [units_deeper, Around.mark_units, units_in1]); omega)); (case k8 => first | is_list | exact News.isList (by k_asm) (by repeat (first | exact List.Mem.head _ | apply List.Mem.tail))); (case k9 => k_asm); (case k10 => assumption); k_whole); intro h' tk' l' us' ns' n' hlo' hhi' hbd' hI' kK' kN' kO'; (rename Fr _ _ _ _ => lF'); (rename News _ _ _ _ => lN'); have F' := lF'.keeps kK'; have N' := news_add lF' lN' kK' kN' kO'; have l1 := news_off lN' kN'; clear kK' kN' kO' lF' lN' ))
local macro_rules | `(tactic| walk_at "call ref") => `(tactic| (k_here; (with_reducible show wpAny _ _ (call (Value.ref 128) [Value.ref _]) _ _ _); k_dflt (refine' due_int (C := ⟨?k1, ?k2, ?k3, ?k4, ?k5, ?k6, ?k7⟩) ?k8 ?k9 ?k10 ?k11 ?_; (case k1 => k_asm); (case k2 => k_asm); (case k3 => k_asm); (case k4 => k_asm); (case k5 => exact rfl); (case k6 => first | exact Nat.le_of_ble_eq_true rfl | ((try simp only [depth_deeper, depth_mark]); omega)); (case k7 => first | exact Nat.le_of_ble_eq_true rfl | ((try simp only [units_deeper, Around.mark_units, units_in1]); omega)); (case k8 => first | is_list | exact News.isList (by k_asm) (by repeat (first | exact List.Mem.head _ | apply List.Mem.tail))); (case k9 => k_asm); (case k10 => omega); (case k11 => assumption); k_whole); intro h' tk' b' kK' hDue'; (rename Fr _ _ _ _ => lF'); (rename News _ _ _ _ => lN'); have F' := lF'.keeps kK'; have N' := news_keeps lN' kK'; clear kK' lF' lN' ))
local macro_rules | `(tactic| walk_at "call ref") => `(tactic| (k_here; (with_reducible show wpAny _ _ (call (Value.ref 99) [Value.ref _]) _ _ _); k_dflt (refine' eg_int (C := ⟨?k1, ?k2, ?k3, ?k4, ?k5, ?k6, ?k7⟩) ?kx ?ky ?kz ?k8 ?k9 ?k10 ?k11 ?_; (case k1 => k_asm); (case k2 => k_asm); (case k3 => k_asm); (case k4 => k_asm); (case k5 => exact rfl); (case k6 => first | exact Nat.le_of_ble_eq_true rfl | ((try simp only [depth_deeper, depth_mark]); omega)); (case k7 => first | exact Nat.le_of_ble_eq_true rfl | ((try simp only [units_deeper, Around.mark_units, units_in1]); omega)); (case kx => assumption); (case ky => assumption); (case kz => assumption); (case k8 => is_list); (case k9 => k_asm); (case k10 => omega); (case k11 => assumption); k_whole); (rename (_ = true ↔ Due _) => hb8'); intro h' tk' g' b' hb' hBk'; have hbe' := same_due hb' hb8'; subst hbe'; clear hb'; (rename News _ _ _ _ => lN'); have N' := hBk'.N _ lN'; obtain ⟨T', F', _, B', X', P', D'⟩ := hBk'; clear lN' ))
local macro_rules | `(tactic| walk_at "call ref") => `(tactic| (k_here; (with_reducible show wpAny _ _ (call (Value.ref 92) [Value.ref _]) _ _ _); k_dflt (refine' hh_int (C := ⟨?k1, ?k2, ?k3, ?k4, ?k5, ?k6, ?k7⟩) ?kx ?ky ?kz ?k8 ?k9 ?k10 ?k11 ?_; (case k1 => k_asm); (case k2 => k_asm); (case k3 => k_asm); (case k4 => k_asm); (case k5 => exact rfl); (case k6 => first | exact Nat.le_of_ble_eq_true rfl | ((try simp only [depth_deeper, depth_mark]); omega)); (case k7 => first | exact Nat.le_of_ble_eq_true rfl | ((try simp only [units_deeper, Around.mark_units, units_in1]); omega)); (case kx => assumption); (case ky => assumption); (case kz => assumption); (case k8 => is_list); (case k9 => k_asm); (case k10 => omega); (case k11 => assumption); k_whole); (rename (_ = true ↔ Due _) => hb8'); intro h' tk' g' b' hb' hBk'; have hbe' := same_due hb' hb8'; subst hbe'; clear hb'; (rename News _ _ _ _ => lN'); have N' := hBk'.N _ lN'; obtain ⟨T', F', _, B', X', P', D'⟩ := hBk'; clear lN' ))
local macro_rules | `(tactic| walk_at "call ref") => `(tactic| (k_here; (with_reducible show wpAny _ _ (call (Value.ref 78) [Value.ref _]) _ _ _); k_dflt (refine' graph_eg (C := ⟨?k1, ?k2, ?k3, ?k4, ?k5, ?k6, ?k7⟩) ?kx ?ky ?kz ?k8 ?k9 ?k10 ?k11 ?_; (case k1 => k_asm); (case k2 => k_asm); (case k3 => k_asm); (case k4 => k_asm); (case k5 => exact rfl); (case k6 => first | exact Nat.le_of_ble_eq_true rfl | ((try simp only [depth_deeper, depth_mark]); omega)); (case k7 => first | exact Nat.le_of_ble_eq_true rfl | ((try simp only [units_deeper, Around.mark_units, units_in1]); omega)); (case kx => assumption); (case ky => assumption); (case kz => assumption); (case k8 => exact tup_news (by k_asm)); (case k9 => k_asm); (case k10 => omega); (case k11 => assumption); k_whole); (rename (_ = true ↔ Due _) => hb8'); intro h' tk' g' b' hb' hBk'; have hbe' := same_due hb' hb8'; subst hbe'; clear hb'; (rename News _ _ _ _ => lN'); have N' := hBk'.N _ lN'; obtain ⟨T', F', _, B', X', P', D'⟩ := hBk'; clear lN' ))
local macro_rules | `(tactic| walk_at "call ref") => `(tactic| (k_here; (with_reducible show wpAny _ _ (call (Value.ref 78) [Value.ref _] _) _ _ _); k_dflt (refine' graph_hh (C := ⟨?k1, ?k2, ?k3, ?k4, ?k5, ?k6, ?k7⟩) ?kx ?ky ?kz ?k8 ?k9 ?k10 ?k11 ?_; (case k1 => k_asm); (case k2 => k_asm); (case k3 => k_asm); (case k4 => k_asm); (case k5 => exact rfl); (case k6 => first | exact Nat.le_of_ble_eq_true rfl | ((try simp only [depth_deeper, depth_mark]); omega)); (case k7 => first | exact Nat.le_of_ble_eq_true rfl | ((try simp only [units_deeper, Around.mark_units, units_in1]); omega)); (case kx => assumption); (case ky => assumption); (case kz => assumption); (case k8 => exact tup_news (by k_asm)); (case k9 => k_asm); (case k10 => omega); (case k11 => assumption); k_whole); (rename (_ = true ↔ Due _) => hb8'); intro h' tk' g' b' hb' hBk'; have hbe' := same_due hb' hb8'; subst hbe'; clear hb'; (rename News _ _ _ _ => lN'); have N' := hBk'.N _ lN'; obtain ⟨T', F', _, B', X', P', D'⟩ := hBk'; clear lN' ))
local macro_rules | `(tactic| walk_at "call ref") => `(tactic| (k_here; (with_reducible show wpAny _ _ (call (Value.ref 113) [Value.ref _]) _ _ _); k_dflt (refine' pseudo_word (C := ⟨?k1, ?k2, ?k3, ?k4, ?k5, ?k6, ?k7⟩) ?kx ?ky ?kz ?k8 ?k9 ?k10 ?_; (case k1 => k_asm); (case k2 => k_asm); (case k3 => k_asm); (case k4 => k_asm); (case k5 => exact rfl); (case k6 => first | exact Nat.le_of_ble_eq_true rfl | ((try simp only [depth_deeper, depth_mark]); omega)); (case k7 => first | exact Nat.le_of_ble_eq_true rfl | ((try simp only [units_deeper, Around.mark_units, units_in1]); omega)); (case kx => assumption); (case ky => assumption); (case kz => assumption); (case k8 => first | is_list | exact News.isList (by k_asm) (by repeat (first | exact List.Mem.head _ | apply List.Mem.tail))); (case k9 => k_asm); (case k10 => omega); k_whole); intro h' tk' g' hBk'; (rename News _ _ _ _ => lN'); have N' := hBk'.N _ lN'; obtain ⟨T', F', _, B', X', P', D'⟩ := hBk'; clear lN' ))
local macro_rules | `(tactic| walk_at "call ref") => `(tactic| (k_here; (with_reducible show wpAny _ _ (call (Value.ref 106) [Value.ref _]) _ _ _); k_dflt (refine' multi_word (C := ⟨?k1, ?k2, ?k3, ?k4, ?k5, ?k6, ?k7⟩) ?kx ?ky ?kz ?k8 ?k9 ?k10 ?_; (case k1 => k_asm); (case k2 => k_asm); (case k3 => k_asm); (case k4 => k_asm); (case k5 => exact rfl); (case k6 => first | exact Nat.le_of_ble_eq_true rfl | ((try simp only [depth_deeper, depth_mark]); omega)); (case k7 => first | exact Nat.le_of_ble_eq_true rfl | ((try simp only [units_deeper, Around.mark_units, units_in1]); omega)); (case kx => assumption); (case ky => assumption); (case kz => assumption); (case k8 => first | is_list | exact News.isList (by k_asm) (by repeat (first | exact List.Mem.head _ | apply List.Mem.tail))); (case k9 => k_asm); (case k10 => omega); k_whole); intro h' tk' g' hBk'; (rename News _ _ _ _ => lN'); have N' := hBk'.N _ lN'; obtain ⟨T', F', _, B', X', P', D'⟩ := hBk'; clear lN' ))
local macro_rules | `(tactic| walk_at "call ref") => `(tactic| (k_here; (with_reducible show wpAny _ _ (call (Value.ref 113) [Value.ref _]) _ _ _); k_dflt (refine' pseudo_int (C := ⟨?k1, ?k2, ?k3, ?k4, ?k5, ?k6, ?k7⟩) ?k8 ?k9 ?k10 ?k11 ?_; (case k1 => k_asm); (case k2 => k_asm); (case k3 => k_asm); (case k4 => k_asm); (case k5 => exact rfl); (case k6 => first | exact Nat.le_of_ble_eq_true rfl | ((try simp only [depth_deeper, depth_mark]); omega)); (case k7 => first | exact Nat.le_of_ble_eq_true rfl | ((try simp only [units_deeper, Around.mark_units, units_in1]); omega)); (case k8 => first | is_list | exact News.isList (by k_asm) (by repeat (first | exact List.Mem.head _ | apply List.Mem.tail))); (case k9 => k_asm); (case k10 => omega); (case k11 => omega); k_whole); intro h' tk' b' kK' hPs'; (rename Fr _ _ _ _ => lF'); (rename News _ _ _ _ => lN'); have F' := lF'.keeps kK'; have N' := news_keeps lN' kK'; clear kK' lF' lN' ))
local macro_rules | `(tactic| walk_at "call ref") => `(tactic| (k_here; (with_reducible show wpAny _ _ (call (Value.ref 106) [Value.ref _]) _ _ _); k_dflt (refine' multi_int (C := ⟨?k1, ?k2, ?k3, ?k4, ?k5, ?k6, ?k7⟩) ?k8 ?k9 ?k10 ?k11 ?_; (case k1 => k_asm); (case k2 => k_asm); (case k3 => k_asm); (case k4 => k_asm); (case k5 => exact rfl); (case k6 => first | exact Nat.le_of_ble_eq_true rfl | ((try simp only [depth_deeper, depth_mark]); omega)); (case k7 => first | exact Nat.le_of_ble_eq_true rfl | ((try simp only [units_deeper, Around.mark_units, units_in1]); omega)); (case k8 => first | is_list | exact News.isList (by k_asm) (by repeat (first | exact List.Mem.head _ | apply List.Mem.tail))); (case k9 => k_asm); (case k10 => omega); (case k11 => assumption); k_whole); intro h' tk' b' kK' hMu'; (rename Fr _ _ _ _ => lF'); (rename News _ _ _ _ => lN'); have F' := lF'.keeps kK'; have N' := news_keeps lN' kK'; clear kK' lF' lN' ))
local macro_rules | `(tactic| walk_at "call ref") => `(tactic| (k_here; (with_reducible show wpAny _ _ (call (Value.ref 135) [Value.ref _]) _ _ _); k_dflt (refine' no_word (C := ⟨?k1, ?k2, ?k3, ?k4, ?k5, ?k6, ?k7⟩) ?kx ?ky ?kz ?k8 ?k9 ?k10 ?_; (case k1 => k_asm); (case k2 => k_asm); (case k3 => k_asm); (case k4 => k_asm); (case k5 => exact rfl); (case k6 => first | exact Nat.le_of_ble_eq_true rfl | ((try simp only [depth_deeper, depth_mark]); omega)); (case k7 => first | exact Nat.le_of_ble_eq_true rfl | ((try simp only [units_deeper, Around.mark_units, units_in1]); omega)); (case kx => assumption); (case ky => assumption); (case kz => assumption); (case k8 => first | is_list | exact News.isList (by k_asm) (by repeat (first | exact List.Mem.head _ | apply List.Mem.tail))); (case k9 => k_asm); (case k10 => omega); k_whole); intro h' tk' g' hBk'; (rename News _ _ _ _ => lN'); have N' := hBk'.N _ lN'; obtain ⟨T', F', _, B', X', P', D'⟩ := hBk'; clear lN' ))
local macro_rules | `(tactic| walk_at "binaryOp Add ref ref") => `(tactic| (k_here; (with_reducible show wpAny _ _ (binaryOp _ (Value.ref _) (Value.ref _)) _ _ _); k_dflt (refine' add_word ?F ?N ?l ?b ?z ?_; (case F => k_asm); (case N => k_asm); (case l => is_list); (case b => exact News.isList (by k_asm) (.head _)); (case z => ((have hL9 := IntsAre.length (by assumption)); (simp only [PySem.sizeLine_eq]); omega))); intro D' h' l1 F' N'; (try k_lt l1)))
local macro_rules | `(tactic| walk_at "call type:tuple") => `(tactic| (k_here; (with_reducible show wpAny _ _ (call (Value.type _) [Value.ref _]) _ _ _); k_dflt (refine' tup_ints ?k1 ?k2 ?k3 ?k4 ?k5 ?_; (case k1 => k_asm); (case k2 => k_asm); (case k3 => is_list); (case k4 => k_asm); (case k5 => omega); k_whole); intro D' h' F' N' l1; (try k_lt l1)))
local macro_rules | `(tactic| walk_at "newList") => `(tactic| (k_here; (with_reducible rename CarriedAll _ _ => hc0'); (rename Fr _ _ _ _ => F'); (rename News _ _ _ _ => N'); (rename Heap.IsList _ _ _ => x'); k_dflt (refine newList_NK F' N' ?_); intro h2' F2' N2' hk'; have y' := lstKept x' hk'; clear x' hk'; have iX' := ints_id (CarriedAll.intsOf hc0'); clear hc0'))
local macro_rules | `(tactic| walk_at "eval BoolOp") => `(tactic| (k_here; (fail_if_success (with_reducible show wpAny _ _ _ (JoinQ _ _ _ _ _ _) _ _)); (with_reducible show wpAny _ _ (eval (Expr.BoolOp _ [Expr.Compare _ _ _ _, _] _) _) _ _ _); k_dflt (refine' join_plain ?kd ?kf ?kn ?_ ?_; (case kd => assumption); (case kf => k_asm); (case kn => k_asm); k_whole); walk_say "JOIN1"; rotate_left; intro b' h' tk' hPl' F' N'; rotate_right))
local macro_rules | `(tactic| walk_at "eval BoolOp") => `(tactic| (k_here; (fail_if_success (with_reducible show wpAny _ _ _ (JoinQ _ _ _ _ _ _) _ _)); (with_reducible show wpAny _ _ (eval (Expr.BoolOp _ [Expr.Name _ _, _] _) _) _ _ _); k_dflt (refine' join_mul ?kd ?kf ?kn ?_ ?_; (case kd => assumption); (case kf => k_asm); (case kn => k_asm); k_whole); walk_say "JOIN2"; rotate_left; intro b' h' tk' hMp' F' N'; rotate_right))
local macro_rules | `(tactic| walk_at "ite") => `(tactic| (k_here; k_openite; first | (refine ite_isFalse (by first | exact bne_same _ | exact iff_bool (by assumption) (by assumption)) ?_; walk_say "SAME")))
set_option maxHeartbeats 8000000 in
theorem law_x : PySem.Challenge.rw_am6015_01.Holds := hd (by
  k_go0
  all_goals try k_fold
  (rename Fr _ _ _ _ => zF0)
  try ((rename Ground _ _ _ _ _ _ _ _ _ => z1); clear z1)
  try ((rename Glob _ _ _ _ _ _ _ _ => z1); clear z1)
  try ((rename Tables _ _ _ _ => z1); clear z1)
  try ((rename TopE _ _ _ _ => z1); clear z1)
  try ((rename TopW _ _ _ => z1); clear z1)
  try ((rename BMod _ _ _ _ _ => z1); clear z1)
  try ((rename LooseAre _ _ _ => z1); clear z1)
  try ((rename Flt.MathXP _ _ _ => z1); clear z1)
  try ((rename Well _ _ _ _ => z1); clear z1)
  try ((rename Reads _ _ _ _ => z1); clear z1)
  try ((rename ReadsAllW _ _ _ _ _ _ => z1); clear z1)
  try ((rename ReadsAll _ _ _ _ => z1); clear z1)
  try ((rename Dflts _ _ _ => z1); clear z1)
  try ((rename Heap.CodeRec _ _ _ => z1); clear z1)
  have zD0 := kd0 zF0
  k_steps
  · (rename Fr _ _ _ _ => zF); (rename News _ _ _ _ => zN)
    exact ⟨_, _, _, rfl, by first | exact z_pB (by assumption) | exact z_pA (by assumption) | exact z_qC (by assumption) (by assumption) (by assumption) (by assumption) | exact z_qF (by assumption) (by assumption) | exact z_qA (by assumption) (by assumption), zF, by first | exact zN | exact fun p hp => zN p (.tail _ hp), rfl⟩
  · (rename Fr _ _ _ _ => zF); (rename News _ _ _ _ => zN)
    exact ⟨_, _, _, rfl, by first | exact z_pB (by assumption) | exact z_pA (by assumption) | exact z_qC (by assumption) (by assumption) (by assumption) (by assumption) | exact z_qF (by assumption) (by assumption) | exact z_qA (by assumption) (by assumption), zF, by first | exact zN | exact fun p hp => zN p (.tail _ hp), rfl⟩
  · (rename Fr _ _ _ _ => zF); (rename News _ _ _ _ => zN)
    exact ⟨_, _, _, rfl, by first | ((rename (_ = true) => zt); exact z_qC (by assumption) zt (by assumption) (by assumption)) | ((rename (_ = true) => zt); exact z_qD (by assumption) zt (by assumption) (by assumption) (by first | rfl | omega)) | ((rename (_ = false) => zt); exact z_qF (by assumption) zt) | ((rename (_ = false) => zt); exact z_qA (by assumption) zt) | exact z_qC (by assumption) (by assumption) (by assumption) (by assumption) | exact z_qD (by assumption) (by assumption) (by assumption) (by assumption) (by first | rfl | omega) | exact z_qF (by assumption) (by assumption) | exact z_qA (by assumption) (by assumption), zF, by first | exact zN | exact fun p hp => zN p (.tail _ hp), rfl⟩
  · (rename Fr _ _ _ _ => zF); (rename News _ _ _ _ => zN)
    exact ⟨_, _, _, rfl, by first | ((rename (_ = true) => zt); exact z_qC (by assumption) zt (by assumption) (by assumption)) | ((rename (_ = true) => zt); exact z_qD (by assumption) zt (by assumption) (by assumption) (by first | rfl | omega)) | ((rename (_ = false) => zt); exact z_qF (by assumption) zt) | ((rename (_ = false) => zt); exact z_qA (by assumption) zt) | exact z_qC (by assumption) (by assumption) (by assumption) (by assumption) | exact z_qD (by assumption) (by assumption) (by assumption) (by assumption) (by first | rfl | omega) | exact z_qF (by assumption) (by assumption) | exact z_qA (by assumption) (by assumption), zF, by first | exact zN | exact fun p hp => zN p (.tail _ hp), rfl⟩
  · show GoodW _ _ _ _ _ (.ok (.ret (.bool true))) _
    (rename Below _ _ _ _ => zB); (rename Fr _ _ _ _ => zF)
    refine end_law zB zF ?_ ?_ ?_
    · assumption
    · exact raisesW_false (by wrow_none_raised)
    · exact post_ok _)
end Mine

set_option maxRecDepth 100000 in
theorem PySem.Challenge.cw_am6015_01_holds : PySem.Challenge.rw_am6015_01.Holds :=
  Mine.law_x
