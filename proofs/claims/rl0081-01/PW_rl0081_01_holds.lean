import PyProof.Rows.All
import Wide.All
import OpenK.AllK
import Wide.FinOn
import PySem.Challenge.RW_rl0081_01
open PySem PySem.W PyProof.Rows PySem.Calls
set_option Elab.async false
set_option maxRecDepth 100000
set_option maxHeartbeats 8000000
set_option linter.all false
set_option pp.deepTerms false
set_option compiler.extract_closed false
namespace Mine81
open_top hd for PySem.Challenge.rw_rl0081_01
theorem walk_off : True := by
  w_top off
  trivial
end Mine81
namespace Mine81
section
local macro_rules | `(tactic| walk_at "zz") => `(tactic| skip)
/-- a step, under a name that no line takes -/
noncomputable def StopW {α : Type} (M : Model) (A : Around) (t : Sem α) (Q : α → Shared → Prop) (E : Value → Shared → Prop) (s : Shared) : Prop := wpAny M A t Q E s
theorem stop_ {α : Type} {M : Model} {A : Around} {t : Sem α} {Q : α → Shared → Prop} {E : Value → Shared → Prop} {s : Shared} (h : StopW M A t Q E s) : wpAny M A t Q E s := h
theorem stopL {M : Model} {A : Around} {a : Addr} {Q : Value → Shared → Prop} {E : Value → Shared → Prop} {s : Shared} (h : StopW M A (call (.builtin "len") [.ref a]) Q E s) : wpAny M A (call (.builtin "len") [.ref a]) Q E s := h
theorem stopIf {M : Model} {A : Around} {c : Expr} {a b : List Stmt} {r : List Stmt} {ps : Pos} {env : Env} {Q : Flow → Shared → Prop} {E : Value → Shared → Prop} {s : Shared} (h : StopW M A (execs (.If c a b ps :: r) env) Q E s) : wpAny M A (execs (.If c a b ps :: r) env) Q E s := h
/-- the top's facts at a heap -/
structure Gd (w : World) (mean : ExcName → Option Value) (mg mb : Str → Option Value) (h : Heap) : Prop where
  T : Top hd.view_39 (looseW hd.view_39 [Str.ofString "Whitespace"]) mean mg mb h
  X : (hd.heap_39 w.params).In h
noncomputable abbrev PG : Program := Challenge.rw_rl0081_01.row.toRowW.prog
noncomputable abbrev NoE : Value → Shared → Prop := fun _ _ => False
/-- what a call leaves: all elder objects, the rest of the state -/
structure Keep (s s' : Shared) : Prop where
  heap : ∀ b o, s.heap.get? b = some o → s'.heap.get? b = some o
  os : s'.os = s.os
  drawn : s'.drawn = s.drawn
  bare : AllBare s.gens → AllBare s'.gens
theorem Keep.refl (s : Shared) : Keep s s := ⟨fun _ _ e => e, rfl, rfl, id⟩
theorem Keep.trans {a b c : Shared} (x : Keep a b) (y : Keep b c) : Keep a c :=
  ⟨fun p o e => y.heap p o (x.heap p o e), y.os.trans x.os, y.drawn.trans x.drawn, fun h => y.bare (x.bare h)⟩
theorem Gd.keeps {w mean mg mb} {h h' : Heap} (g : Gd w mean mg mb h) (hk : ∀ b o, h.get? b = some o → h'.get? b = some o) : Gd w mean mg mb h' :=
  ⟨g.T.keeps hk, g.X.keeps hk⟩
theorem Fr.keeps' {h₀ h h' : Heap} {L : Addr} {m : Str → Option Value} (F : Fr h₀ L h m) (hk : ∀ b o, h.get? b = some o → h'.get? b = some o) : Fr h₀ L h' m :=
  ⟨F.ns.at' fun o e => hk _ o e, fun b o e => hk b o (F.keep b o e), F.above⟩
theorem News.keeps' {h₀ h h' : Heap} {L : Addr} {news : List (Addr × Obj)} (N : News h₀ L h news) (hk : ∀ b o, h.get? b = some o → h'.get? b = some o) : News h₀ L h' news :=
  fun p hp => ⟨hk _ _ (N p hp).1, (N p hp).2⟩
section
variable {prog : Program} {w : World} {A : Around} {E : Value → Shared → Prop} {s : Shared} {K : Frag} {mg mb : Str → Option Value} {p : Program} {loose : List Str} {mean : ExcName → Option Value} {Q : Value → Shared → Prop}
/-- entering a def of the text that raises nothing: its whole heap is the ground -/
theorem enterP {name qual : Str} {params : Arguments} {body : List Stmt} {scope : Scope} {dV kV doc pm cdv ct oc : Value} {an od : Option Addr} {osl : Array (Option Value)} {f : Addr} {args : List Value} {binds : List (Str × Value)}
    (G : Gd w mean mg mb s.heap) (ho : (hd.heap_39 w.params).lookup f = some ⟨oc, od, .func (fnOf name qual params body scope dV kV doc pm an cdv ct), osl⟩)
    (hcd : codeIn (hd.heap_39 w.params) cdv qual = true) (hroom : A.depth < recursionLimit)
    (hbind : BindsTo s (fnOf name qual params body scope dV kV doc pm an cdv ct) ⟨args, []⟩ binds) (hloc : ∀ y ∈ binds, scope.names.lookup y.1 = some .local)
    (h : ∀ h₁, Fr s.heap s.heap.objs.size h₁ (fun y => binds.reverse.lookup y) → News s.heap s.heap.objs.size h₁ [] →
      wpAny (model prog w) (A.deeper (envOf qual scope s.heap.objs.size f cdv)) (execs body (envOf qual scope s.heap.objs.size f cdv))
        (fun fl s' => Q (match fl with | .ret v => v | _ => .none) s') NoE { s with heap := h₁, toks := s.toks + binds.length })
    (hco : scope.isCoroutine = false) (hgen : scope.isGenerator = false) (hk : scope.kind = .function)
    (hcell : ∀ x ∈ scope.names, x.2 ≠ .cell) : wpAny (model prog w) A (call (.ref f) args) Q E s := by
  refine wpAny_call (codeAny_call_def (fd := fnOf name qual params body scope dV kV doc pm an cdv ct) (body := body) (binds := binds) hroom (G.X _ _ ho) rfl G.T.nolimit (codeRec_of G.X hcd) rfl hbind hcell hloc (fun h₁ hns hk₁ => ?_) hco hgen hk)
  exact wpAny_mono (h h₁ ⟨hns, hk₁, Nat.le_refl _⟩ News.nil) (fun _ _ x => x) (fun _ _ x => x.elim)
/-- the ground without the objects of «own» -/
structure Hid (w : World) (mean : ExcName → Option Value) (mg mb : Str → Option Value) (s : Shared) (own : List (Addr × Obj)) (g : Heap) : Prop where
  T : Top hd.view_39 (looseW hd.view_39 [Str.ofString "Whitespace"]) mean mg mb g
  X : (hd.heap_39 w.params).In g
  get : ∀ p ∈ own, s.heap.get? p.1 = some p.2
  none : ∀ p ∈ own, g.get? p.1 = Option.none
  sub : ∀ b o, g.get? b = some o → s.heap.get? b = some o
  all : ∀ b o, s.heap.get? b = some o → b ∉ own.map (·.1) → g.get? b = some o
  size : g.objs.size = s.heap.objs.size
theorem hid_of {own : List (Addr × Obj)} {g : Heap} (G : Gd w mean mg mb g) (hg : ∀ b o, g.get? b = some o → s.heap.get? b = some o)
    (hown : ∀ p ∈ own, s.heap.get? p.1 = some p.2 ∧ g.get? p.1 = none) : Hid w mean mg mb s own (hideAll s.heap (own.map (·.1))) := by
  have st : ∀ b o, g.get? b = some o → (hideAll s.heap (own.map (·.1))).get? b = some o := fun b o e => hideAll_get _ (hg b o e) fun q => by
    obtain ⟨p, hp, rfl⟩ := List.mem_map.mp q
    rw [(hown p hp).2] at e; cases e
  exact ⟨G.T.keeps st, G.X.keeps st, fun p hp => (hown p hp).1, fun p hp => hideAll_none _ (List.mem_map_of_mem hp), fun b o e => of_hideAll _ e, fun b o e n => hideAll_get _ e n, hideAll_size _ _⟩
/-- all elder objects stand behind a walk over a hidden ground -/
theorem Hid.keep {own news : List (Addr × Obj)} {g h' : Heap} {L : Addr} {m : Str → Option Value} (H : Hid w mean mg mb s own g) (F : Fr g L h' m) (N : News g L h' news) (hs : ∀ p ∈ own, p ∈ news) :
    ∀ b o, s.heap.get? b = some o → h'.get? b = some o := fun b o e => by
  by_cases hb : b ∈ own.map (·.1)
  · obtain ⟨p, hp, rfl⟩ := List.mem_map.mp hb
    have e' := H.get p hp
    rw [e] at e'
    cases e'
    exact (N p (hs p hp)).1
  · exact F.keep b o (H.all b o e hb)
theorem enterH {name qual : Str} {params : Arguments} {body : List Stmt} {scope : Scope} {dV kV doc pm cdv ct oc : Value} {an od : Option Addr} {osl : Array (Option Value)} {f : Addr} {args : List Value} {binds : List (Str × Value)}
    {own : List (Addr × Obj)} {g : Heap} (H : Hid w mean mg mb s own g) (ho : (hd.heap_39 w.params).lookup f = some ⟨oc, od, .func (fnOf name qual params body scope dV kV doc pm an cdv ct), osl⟩)
    (hcd : codeIn (hd.heap_39 w.params) cdv qual = true) (hroom : A.depth < recursionLimit)
    (hbind : BindsTo s (fnOf name qual params body scope dV kV doc pm an cdv ct) ⟨args, []⟩ binds) (hloc : ∀ y ∈ binds, scope.names.lookup y.1 = some .local)
    (h : ∀ L h₁, Fr g L h₁ (fun y => binds.reverse.lookup y) → News g L h₁ own → (∀ p ∈ own, p.1 < L) →
      wpAny (model prog w) (A.deeper (envOf qual scope L f cdv)) (execs body (envOf qual scope L f cdv))
        (fun fl s' => Q (match fl with | .ret v => v | _ => .none) s') NoE { s with heap := h₁, toks := s.toks + binds.length })
    (hco : scope.isCoroutine = false) (hgen : scope.isGenerator = false) (hk : scope.kind = .function)
    (hcell : ∀ x ∈ scope.names, x.2 ≠ .cell) : wpAny (model prog w) A (call (.ref f) args) Q E s := by
  have hX := H.X.keeps H.sub
  have hlim := H.T.nolimit.keeps H.sub
  refine wpAny_call (codeAny_call_def (fd := fnOf name qual params body scope dV kV doc pm an cdv ct) (body := body) (binds := binds) hroom (hX _ _ ho) rfl hlim (codeRec_of hX hcd) rfl hbind hcell hloc (fun h₁ hns hk₁ => ?_) hco hgen hk)
  exact wpAny_mono (h _ h₁ ⟨hns, fun b o e => hk₁ b o (H.sub b o e), Nat.le_of_eq H.size⟩ (fun p hp => ⟨hk₁ _ _ (H.get p hp), Nat.ne_of_lt (Heap.lt_size (H.get p hp)), H.none p hp⟩) (fun p hp => Heap.lt_size (H.get p hp))) (fun _ _ x => x) (fun _ _ x => x.elim)
theorem enterX {R : Result → Shared → Prop} {name qual : Str} {params : Arguments} {body : List Stmt} {scope : Scope} {dV kV doc pm cdv ct oc : Value} {an od : Option Addr} {osl : Array (Option Value)} {f : Addr} {args : List Value} {binds : List (Str × Value)}
    {own : List (Addr × Obj)} {g : Heap} (H : Hid w mean mg mb s own g) (ho : (hd.heap_39 w.params).lookup f = some ⟨oc, od, .func (fnOf name qual params body scope dV kV doc pm an cdv ct), osl⟩)
    (hcd : codeIn (hd.heap_39 w.params) cdv qual = true) (hroom : A.depth < recursionLimit)
    (hbind : BindsTo s (fnOf name qual params body scope dV kV doc pm an cdv ct) ⟨args, []⟩ binds) (hloc : ∀ y ∈ binds, scope.names.lookup y.1 = some .local)
    (h : ∀ L h₁, Fr g L h₁ (fun y => binds.reverse.lookup y) → News g L h₁ own → (∀ p ∈ own, p.1 < L) →
      wpAny (model prog w) (A.deeper (envOf qual scope L f cdv)) (execs body (envOf qual scope L f cdv))
        (fun fl s' => R (.ok (.ret (match fl with | .ret v => v | _ => .none))) s') NoE { s with heap := h₁, toks := s.toks + binds.length })
    (hco : scope.isCoroutine = false) (hgen : scope.isGenerator = false) (hk : scope.kind = .function)
    (hcell : ∀ x ∈ scope.names, x.2 ≠ .cell) : codeAny (model prog w) A (.call (.ref f) ⟨args, []⟩) R s := by
  have hX := H.X.keeps H.sub
  have hlim := H.T.nolimit.keeps H.sub
  refine codeAny_call_def (fd := fnOf name qual params body scope dV kV doc pm an cdv ct) (body := body) (binds := binds) hroom (hX _ _ ho) rfl hlim (codeRec_of hX hcd) rfl hbind hcell hloc (fun h₁ hns hk₁ => ?_) hco hgen hk
  exact wpAny_mono (h _ h₁ ⟨hns, fun b o e => hk₁ b o (H.sub b o e), Nat.le_of_eq H.size⟩ (fun p hp => ⟨hk₁ _ _ (H.get p hp), Nat.ne_of_lt (Heap.lt_size (H.get p hp)), H.none p hp⟩) (fun p hp => Heap.lt_size (H.get p hp))) (fun _ _ x => x) (fun _ _ x => x.elim)
theorem enterHC {name qual : Str} {params : Arguments} {body : List Stmt} {scope : Scope} {dV kV doc pm cdv ct oc : Value} {an od : Option Addr} {osl : Array (Option Value)} {f : Addr} {args : List Value} {binds : List (Str × Value)}
    {own : List (Addr × Obj)} {g : Heap} (H : Hid w mean mg mb s own g) (ho : (hd.heap_39 w.params).lookup f = some ⟨oc, od, .func (fnOf name qual params body scope dV kV doc pm an cdv ct), osl⟩)
    (hcd : codeIn (hd.heap_39 w.params) cdv qual = true) (hroom : A.depth < recursionLimit)
    (hbind : BindsTo s (fnOf name qual params body scope dV kV doc pm an cdv ct) ⟨args, []⟩ binds)
    (hkind : (binds.all fun y => scope.names.lookup y.1 == some .local || scope.names.lookup y.1 == some .cell) = true)
    (hnd : ((cellsFrom 0 scope.names []).map (·.1)).Nodup)
    (h : ∀ L h₁ tk cells, Fr g L h₁ (bindL (envOfC qual scope L f cdv).kindOf binds fun _ => none) → News g L h₁ (cells ++ own) →
      CellsAre (bindC (envOfC qual scope L f cdv).kindOf binds fun _ => none) (cellsFrom (L + 1) scope.names []) cells → (∀ p ∈ own, p.1 < L) →
      wpAny (model prog w) (A.deeper (envOfC qual scope L f cdv)) (execs body (envOfC qual scope L f cdv))
        (fun fl s' => Q (match fl with | .ret v => v | _ => .none) s') NoE { s with heap := h₁, toks := tk })
    (hco : scope.isCoroutine = false) (hgen : scope.isGenerator = false) (hk : scope.kind = .function) : wpAny (model prog w) A (call (.ref f) args) Q E s := by
  have hX := H.X.keeps H.sub
  have hlim := H.T.nolimit.keeps H.sub
  refine wpAny_call (codeAny_call_function hroom (hX _ _ ho) rfl hco hgen rfl (codeRec_of hX hcd) (hbind _ _ _ _ ?_))
  refine wpAny_newFunctionEnv_cells hk (kindsX hkind _) fun env' he s' x => ?_
  subst he
  refine ⟨hlim.keeps x.toInCall.keep, codeAny_func ?_⟩
  obtain ⟨h₁, tk, rfl, _⟩ := x.done
  have hk₁ := x.toInCall.keep
  obtain ⟨cells, NC, Y⟩ := Cl.news (h₀ := s.heap) (Nat.le_refl _) fun n c hm => ⟨x.cell n c (lookup_of_mem_nodup (cellsFrom_names scope.names 0 (s.heap.objs.size + 1) [] [] rfl ▸ hnd) hm), x.above n c hm⟩
  refine wpAny_mono (h s.heap.objs.size h₁ tk cells ⟨x.toInCall.ns, fun b o e => hk₁ b o (H.sub b o e), Nat.le_of_eq H.size⟩ (fun p hp => ?_) Y (fun p hp => Heap.lt_size (H.get p hp))) (fun _ _ x => x) (fun _ _ x => x.elim)
  rcases List.mem_append.mp hp with hp | hp
  · refine ⟨(NC p hp).1, (NC p hp).2.1, ?_⟩
    cases q : g.get? p.1 with
    | none => rfl
    | some o => have := H.sub _ _ q; rw [(NC p hp).2.2] at this; cases this
  · exact ⟨hk₁ _ _ (H.get p hp), Nat.ne_of_lt (Heap.lt_size (H.get p hp)), H.none p hp⟩
end
end
end Mine81
namespace Mine81
section
section
variable {prog : Program} {w : World} {A : Around} {s : Shared} {env : Env} {h₀ : Heap} {x : Str} {body : List Stmt} {Q : Flow → Shared → Prop}
/-- a turn's end: the iterator stands, the word holds again -/
noncomputable def StepW (h₀ : Heap) (L I : Addr) (oI : Obj) (J : (Str → Option Value) → List (Addr × Obj) → Prop) (Q : Flow → Shared → Prop) (s₁ : Shared) (f : Flow) (s₂ : Shared) : Prop :=
  match f with
  | .ret v => Q (.ret v) s₂
  | .brk => Q .next s₂
  | _ => ∃ h' tk' g' m₂ news₂, s₂ = ⟨h', g', s₁.drawn, tk', s₁.os⟩ ∧ (AllBare s₁.gens → AllBare g') ∧ Fr h₀ L h' m₂ ∧ News h₀ L h' news₂ ∧ h'.get? I = some oI ∧ (∀ p ∈ news₂, p.1 ≠ I) ∧ J m₂ news₂
theorem StepW.next {L I : Addr} {oI : Obj} {J : (Str → Option Value) → List (Addr × Obj) → Prop} {s₁ : Shared} {h' : Heap} {tk : Nat} {g' : Array GenState} {m₂ : Str → Option Value} {N2 : List (Addr × Obj)} (news₂ : List (Addr × Obj))
    (F : Fr h₀ L h' m₂) (N : News h₀ L h' N2) (hI : (I, oI) ∈ N2) (hsub : ∀ p ∈ news₂, p ∈ N2) (hne : ∀ p ∈ news₂, p.1 ≠ I) (hJ : J m₂ news₂) (hb : AllBare s₁.gens → AllBare g' := by exact id) :
    StepW h₀ L I oI J Q s₁ .next ⟨h', g', s₁.drawn, tk, s₁.os⟩ :=
  ⟨h', tk, g', m₂, news₂, rfl, hb, F, fun p hp => N p (hsub p hp), (N _ hI).1, hne, hJ⟩
theorem loopW {I : Addr} {fp : List Addr} {n : Nat} {P : Nat → Value → Prop} {St : Nat → Heap → Prop} {m : Str → Option Value} {news : List (Addr × Obj)} {px : Pos}
    (W : Walks prog w A I fp [I] n P St) (hx : env.kindOf x = some .local)
    (hp : (env.scope.kind == .class || (env.scope.kind == .module && env.locals != env.globals)) = false)
    (hLf : env.locals ∉ fp) (hI : h₀.get? I = none) (hliv : ∀ i h, St i h → ∃ o, h.get? I = some o)
    (J : Nat → (Str → Option Value) → List (Addr × Obj) → Prop)
    (keepfp : ∀ b ∈ fp, b = I ∨ (∃ o, h₀.get? b = some o) ∨ (∃ o, ∀ i m₁ news₁, J i m₁ news₁ → (b, o) ∈ news₁))
    (hst : St 0 s.heap) (F : Fr h₀ env.locals s.heap m) (N : News h₀ env.locals s.heap news) (hnI : ∀ p ∈ news, p.1 ≠ I) (h0 : J 0 m news)
    (step : ∀ i v m₁ news₁ h tk g oI, (AllBare s.gens → AllBare g) → i < n → P i v → J i m₁ news₁ → (∀ p ∈ news₁, p.1 ≠ I) →
      Fr h₀ env.locals h (fun y => if y = x then some v else m₁ y) → News h₀ env.locals h (news₁ ++ [(I, oI)]) →
      wpAny (model prog w) A (execs body env) (StepW h₀ env.locals I oI (J (i + 1)) Q ⟨h, g, s.drawn, tk, s.os⟩) NoE ⟨h, g, s.drawn, tk, s.os⟩)
    (done : ∀ m₁ news₁ h tk g, (AllBare s.gens → AllBare g) → J n m₁ news₁ → Fr h₀ env.locals h m₁ → News h₀ env.locals h news₁ → Q .next ⟨h, g, s.drawn, tk, s.os⟩)
    {R : Result → Shared → Prop} (hR : ∀ f s', Q f s' → R (.ok f) s') :
    codeAny (model prog w) A (.forLoop (.Name x px) (.ref I) body [] env) R s := by
  have hIf : I ∈ fp := W.sub I (by simp)
  have hLI : env.locals ≠ I := fun e => hLf (e ▸ hIf)
  have old : ∀ b o, h₀.get? b = some o → b ≠ I := fun b o e hb => by rw [hb, hI] at e; cases e
  refine codeAny_forLoop
    (fun k s' => ∃ h' tk g' m' news' i, s' = ⟨h', g', s.drawn, tk, s.os⟩ ∧ (AllBare s.gens → AllBare g') ∧ St i h' ∧ Fr h₀ env.locals h' m' ∧ News h₀ env.locals h' news' ∧ (∀ p ∈ news', p.1 ≠ I) ∧ J i m' news' ∧ i ≤ n ∧ k = n + 1 - i) ?_ (n + 1)
    ⟨s.heap, s.toks, s.gens, m, news, 0, rfl, id, hst, F, N, hnI, h0, Nat.zero_le _, rfl⟩
  rintro k s' ⟨h', tk, g', m', news', i, rfl, hb, hst', F', N', hnI', hJ, hi, rfl⟩
  have next : ∀ h₁ : Heap, (∀ b o, b ∉ [I] → h'.get? b = some o → h₁.get? b = some o) → Fr h₀ env.locals h₁ m' ∧ News h₀ env.locals h₁ news' := fun h₁ hk₁ =>
    ⟨⟨F'.ns.at' fun o e => hk₁ _ o (by simpa using hLI) e, fun b o e => hk₁ b o (by simpa using old b o e) (F'.keep b o e), F'.above⟩, fun p hp => ⟨hk₁ _ _ (by simpa using hnI' p hp) (N' p hp).1, (N' p hp).2⟩⟩
  by_cases hlt : i < n
  · refine W.item i _ _ _ hlt hst' fun v h₁ tk₁ hP hst₁ hk₁ => ?_
    obtain ⟨F₁, N₁⟩ := next h₁ hk₁
    refine wpAny_assign_Name (wpAny_storeName_local hx F₁.ns (fun h₂ hn₂ hs₂ => ?_) hp)
    have F₂ := F₁.set hn₂ hs₂
    have N₂ := N₁.set hs₂
    have hst₂ : St (i + 1) h₂ := W.frame _ _ _ hst₁ fun b hb o e => (hs₂.2 b fun q => hLf (q ▸ hb)).trans e
    obtain ⟨oI, hoI⟩ := hliv _ _ hst₂
    refine wpAny_mono (step i v m' news' h₂ _ g' oI hb hlt hP hJ hnI' F₂ ?_) (fun f s₃ h₃ => ?_) fun _ _ e => e.elim
    · intro p hp
      rcases List.mem_append.mp hp with hp | hp
      · exact N₂ p hp
      · rw [List.mem_singleton.mp hp]; exact ⟨hoI, hLI.symm, hI⟩
    · have fin : (∃ h' tk' g'' m₂ news₂, s₃ = ⟨h', g'', s.drawn, tk', s.os⟩ ∧ (AllBare g' → AllBare g'') ∧ Fr h₀ env.locals h' m₂ ∧ News h₀ env.locals h' news₂ ∧ h'.get? I = some oI ∧ (∀ p ∈ news₂, p.1 ≠ I) ∧ J (i + 1) m₂ news₂) → ∃ m, m < n + 1 - i ∧ ∃ h' tk g' m' news' i, s₃ = ⟨h', g', s.drawn, tk, s.os⟩ ∧ (AllBare s.gens → AllBare g') ∧ St i h' ∧ Fr h₀ env.locals h' m' ∧ News h₀ env.locals h' news' ∧ (∀ p ∈ news', p.1 ≠ I) ∧ J i m' news' ∧ i ≤ n ∧ m = n + 1 - i := by
        rintro ⟨h₃', tk₃, g₃, m₂, news₂, rfl, hb₃, F₃, N₃, hI₃, hn₃, hJ₃⟩
        refine ⟨n + 1 - (i + 1), by omega, h₃', tk₃, g₃, m₂, news₂, i + 1, rfl, fun z => hb₃ (hb z), ?_, F₃, N₃, hn₃, hJ₃, hlt, rfl⟩
        refine W.frame _ _ _ hst₂ fun b hb o e => ?_
        rcases keepfp b hb with rfl | ⟨o₀, ho₀⟩ | ⟨o₀, ho₀⟩
        · rw [hoI] at e; cases e; exact hI₃
        · have := F₂.keep b o₀ ho₀
          rw [e] at this; cases this
          exact F₃.keep b o ho₀
        · have := (N₂ _ (ho₀ i m' news' hJ)).1
          rw [show h₂.get? b = some o₀ from this] at e
          cases e
          exact (N₃ _ (ho₀ _ _ _ hJ₃)).1
      cases f with
      | ret v => exact hR _ _ h₃
      | brk => exact hR _ _ h₃
      | cont => exact fin h₃
      | next => exact fin h₃
  · have hin : i = n := by omega
    subst hin
    refine W.done _ _ _ hst' fun h₁ tk₁ hk₁ => wpAny_execs_nil ?_
    obtain ⟨F₁, N₁⟩ := next h₁ hk₁
    exact hR _ _ (done m' news' h₁ tk₁ g' hb hJ F₁ N₁)
/-- the for statement: its source is walked, then the loop -/
noncomputable def LoopW (prog : Program) (w : World) (A : Around) (env : Env) (x : Str) (px : Pos) (body : List Stmt) (Q : Flow → Shared → Prop) (it : Value) (s₂ : Shared) : Prop :=
  ∀ {R : Result → Shared → Prop}, (∀ f s', Q f s' → R (.ok f) s') → codeAny (model prog w) A (.forLoop (.Name x px) it body [] env) R s₂
theorem For_W {px pos : Pos} {iter : Expr} (h : wpAny (model prog w) A (eval iter env) (fun xv s₁ => wpAny (model prog w) A (pyIter xv) (fun it s₂ => LoopW prog w A env x px body Q it s₂) NoE s₁) NoE s)
    (hs : ∀ x, foldedSetIterable iter env x = pure x := by intro _; rfl) :
    wpAny (model prog w) A (exec (.For (.Name x px) iter body [] pos) env) Q NoE s := by
  refine wpAny_For (wpAny_mono h (fun xv s₁ h₁ => wpAny_mono h₁ (fun it s₂ h₂ => ?_) fun _ _ e => e) fun _ _ e => e) hs
  exact h₂ (R := fun r s' => match r with | .ok f => Q f s' | .error e => cameBackBy (model prog w) A env NoE e s') fun f s' q => q
/-- a text's signs -/
theorem iterW_str {xt : Str} {tx : Tok} {m : Str → Option Value} {news : List (Addr × Obj)} {px : Pos} (J : Nat → (Str → Option Value) → List (Addr × Obj) → Prop)
    (hh : A.handled = none) (hx : env.kindOf x = some .local)
    (hp : (env.scope.kind == .class || (env.scope.kind == .module && env.locals != env.globals)) = false)
    (F : Fr h₀ env.locals s.heap m) (N : News h₀ env.locals s.heap news) (h0 : J 0 m news)
    (step : ∀ i c t m₁ news₁ h tk g oI I, (∀ p ∈ news, p.1 < I) → (AllBare s.gens → AllBare g) → xt.cps[i]? = some c → J i m₁ news₁ → (∀ p ∈ news₁, p.1 ≠ I) →
      Fr h₀ env.locals h (fun y => if y = x then some (.str ⟨#[c]⟩ t) else m₁ y) → News h₀ env.locals h (news₁ ++ [(I, oI)]) →
      wpAny (model prog w) A (execs body env) (StepW h₀ env.locals I oI (J (i + 1)) Q ⟨h, g, s.drawn, tk, s.os⟩) NoE ⟨h, g, s.drawn, tk, s.os⟩)
    (done : ∀ m₁ news₁ h tk g, (AllBare s.gens → AllBare g) → J xt.length m₁ news₁ → Fr h₀ env.locals h m₁ → News h₀ env.locals h news₁ → Q .next ⟨h, g, s.drawn, tk, s.os⟩) :
    wpAny (model prog w) A (pyIter (.str xt tx)) (fun it s₂ => LoopW prog w A env x px body Q it s₂) NoE s := by
  have key : ∀ (o : Obj) (ty : String), (∀ A' : Around, A'.handled = none → Walks prog w A' s.heap.objs.size [s.heap.objs.size] [s.heap.objs.size] xt.cps.size (SignAt xt) (fun i h => h.IsStrIter s.heap.objs.size ty xt tx i)) → (s.heap.push o).IsStrIter s.heap.objs.size ty xt tx 0 →
      LoopW prog w A env x px body Q (.ref s.heap.objs.size) { s with heap := s.heap.push o } := by
    intro o ty hW hst R hR
    refine loopW (s := { s with heap := s.heap.push o }) (h₀ := h₀) (hW A hh) hx hp ?_ (next_is_new F) (fun i h ⟨o', ho', _⟩ => ⟨o', ho'⟩) J ?_ hst (F.push _) (fun p hp => ⟨Heap.get?_push_of_some _ (N p hp).1, (N p hp).2⟩) (fun p hp hI => absurd (Heap.lt_size (N p hp).1) (hI ▸ Nat.lt_irrefl _)) h0 ?_ done hR
    · intro hm
      exact absurd F.ns.lt ((List.mem_singleton.mp hm) ▸ Nat.lt_irrefl _)
    · intro b hb
      exact .inl (List.mem_singleton.mp hb)
    · rintro i v m₁ news₁ h tk g oI hb hi ⟨c, t, hc, rfl⟩ hJ hn F₁ N₁
      exact step i c t m₁ news₁ h tk g oI _ (fun p hp => Heap.lt_size (N p hp).1) hb hc hJ hn F₁ N₁
  cases ha : xt.cps.all (· < 128)
  · exact wpAny_pyIter_wide ha (key _ _ (fun A' hA => Walks.strWide hA _ xt tx) ⟨_, Heap.get?_push_size _ rfl, rfl, rfl⟩)
  · exact wpAny_pyIter_ascii ha (key _ _ (fun A' hA => Walks.strAscii hA _ xt tx) ⟨_, Heap.get?_push_size _ rfl, rfl, rfl⟩)
/-- a turn's end where a break has its own word -/
noncomputable def StepB (h₀ : Heap) (L I : Addr) (oI : Obj) (J Jb : (Str → Option Value) → List (Addr × Obj) → Prop) (Q : Flow → Shared → Prop) (s₁ : Shared) (f : Flow) (s₂ : Shared) : Prop :=
  match f with
  | .ret v => Q (.ret v) s₂
  | .brk => ∃ h' tk' g' m₂ news₂, s₂ = ⟨h', g', s₁.drawn, tk', s₁.os⟩ ∧ (AllBare s₁.gens → AllBare g') ∧ Fr h₀ L h' m₂ ∧ News h₀ L h' news₂ ∧ Jb m₂ news₂
  | f => StepW h₀ L I oI J Q s₁ f s₂
theorem StepB.next {L I : Addr} {oI : Obj} {J Jb : (Str → Option Value) → List (Addr × Obj) → Prop} {s₁ : Shared} {h' : Heap} {tk : Nat} {g' : Array GenState} {m₂ : Str → Option Value} {N2 : List (Addr × Obj)} (news₂ : List (Addr × Obj))
    (F : Fr h₀ L h' m₂) (N : News h₀ L h' N2) (hI : (I, oI) ∈ N2) (hsub : ∀ p ∈ news₂, p ∈ N2) (hne : ∀ p ∈ news₂, p.1 ≠ I) (hJ : J m₂ news₂) (hb : AllBare s₁.gens → AllBare g' := by exact id) :
    StepB h₀ L I oI J Jb Q s₁ .next ⟨h', g', s₁.drawn, tk, s₁.os⟩ := StepW.next (Q := Q) news₂ F N hI hsub hne hJ hb
theorem StepB.brk {L I : Addr} {oI : Obj} {J Jb : (Str → Option Value) → List (Addr × Obj) → Prop} {s₁ : Shared} {h' : Heap} {tk : Nat} {g' : Array GenState} {m₂ : Str → Option Value} {N2 : List (Addr × Obj)} (news₂ : List (Addr × Obj))
    (F : Fr h₀ L h' m₂) (N : News h₀ L h' N2) (hsub : ∀ p ∈ news₂, p ∈ N2) (hJ : Jb m₂ news₂) (hb : AllBare s₁.gens → AllBare g' := by exact id) :
    StepB h₀ L I oI J Jb Q s₁ .brk ⟨h', g', s₁.drawn, tk, s₁.os⟩ := ⟨h', tk, g', m₂, news₂, rfl, hb, F, fun p hp => N p (hsub p hp), hJ⟩
theorem StepB.toW {L I : Addr} {oI : Obj} {J Jb : (Str → Option Value) → List (Addr × Obj) → Prop} {s₁ s₂ : Shared} {f : Flow} (h : StepB h₀ L I oI J Jb Q s₁ f s₂)
    (fin : ∀ m₁ news₁ h tk g, (AllBare s₁.gens → AllBare g) → Jb m₁ news₁ → Fr h₀ L h m₁ → News h₀ L h news₁ → Q .next ⟨h, g, s₁.drawn, tk, s₁.os⟩) : StepW h₀ L I oI J Q s₁ f s₂ := by
  cases f with
  | ret v => exact h
  | next => exact h
  | cont => exact h
  | brk =>
    obtain ⟨h', tk', g', m₂, news₂, rfl, hb, F, N, hJ⟩ := h
    exact fin _ _ _ _ _ hb hJ F N
theorem iterB_str {xt : Str} {tx : Tok} {m : Str → Option Value} {news : List (Addr × Obj)} {px : Pos} (J : Nat → (Str → Option Value) → List (Addr × Obj) → Prop) (Jb : (Str → Option Value) → List (Addr × Obj) → Prop)
    (hh : A.handled = none) (hx : env.kindOf x = some .local)
    (hp : (env.scope.kind == .class || (env.scope.kind == .module && env.locals != env.globals)) = false)
    (F : Fr h₀ env.locals s.heap m) (N : News h₀ env.locals s.heap news) (h0 : J 0 m news) (hend : ∀ m₁ news₁, J xt.length m₁ news₁ → Jb m₁ news₁)
    (step : ∀ i c t m₁ news₁ h tk g oI I, (∀ p ∈ news, p.1 < I) → (AllBare s.gens → AllBare g) → xt.cps[i]? = some c → J i m₁ news₁ → (∀ p ∈ news₁, p.1 ≠ I) →
      Fr h₀ env.locals h (fun y => if y = x then some (.str ⟨#[c]⟩ t) else m₁ y) → News h₀ env.locals h (news₁ ++ [(I, oI)]) →
      wpAny (model prog w) A (execs body env) (StepB h₀ env.locals I oI (J (i + 1)) Jb Q ⟨h, g, s.drawn, tk, s.os⟩) NoE ⟨h, g, s.drawn, tk, s.os⟩)
    (done : ∀ m₁ news₁ h tk g, (AllBare s.gens → AllBare g) → Jb m₁ news₁ → Fr h₀ env.locals h m₁ → News h₀ env.locals h news₁ → Q .next ⟨h, g, s.drawn, tk, s.os⟩) :
    wpAny (model prog w) A (pyIter (.str xt tx)) (fun it s₂ => LoopW prog w A env x px body Q it s₂) NoE s := by
  refine iterW_str J hh hx hp F N h0 (fun i c t m₁ news₁ h tk g oI I hI hb hc hJ hn F₁ N₁ => ?_) fun m₁ news₁ h tk g hb hJ F₁ N₁ => done m₁ news₁ h tk g hb (hend _ _ hJ) F₁ N₁
  exact wpAny_mono (step i c t m₁ news₁ h tk g oI I hI hb hc hJ hn F₁ N₁) (fun f s₂ z => z.toW fun m₁ news₁ h tk g' hb' hJ F₁ N₁ => done m₁ news₁ h tk g' (fun q => hb' (hb q)) hJ F₁ N₁) fun _ _ e => e
/-- a list, in the ground or in the ledger -/
theorem iterW_list {l : Addr} {vs : List Value} {m : Str → Option Value} {news : List (Addr × Obj)} {px : Pos} (J : Nat → (Str → Option Value) → List (Addr × Obj) → Prop)
    (hh : A.handled = none) (hx : env.kindOf x = some .local)
    (hp : (env.scope.kind == .class || (env.scope.kind == .module && env.locals != env.globals)) = false)
    (F : Fr h₀ env.locals s.heap m) (N : News h₀ env.locals s.heap news) (h0 : J 0 m news)
    (hl : h₀.IsList l vs.toArray ∨ ∃ k, ∀ i m₁ news₁, J i m₁ news₁ → (l, W.listOf vs.toArray k) ∈ news₁)
    (step : ∀ i v m₁ news₁ h tk g oI I, (∀ p ∈ news, p.1 < I) → (AllBare s.gens → AllBare g) → vs[i]? = some v → J i m₁ news₁ → (∀ p ∈ news₁, p.1 ≠ I) →
      Fr h₀ env.locals h (fun y => if y = x then some v else m₁ y) → News h₀ env.locals h (news₁ ++ [(I, oI)]) →
      wpAny (model prog w) A (execs body env) (StepW h₀ env.locals I oI (J (i + 1)) Q ⟨h, g, s.drawn, tk, s.os⟩) NoE ⟨h, g, s.drawn, tk, s.os⟩)
    (done : ∀ m₁ news₁ h tk g, (AllBare s.gens → AllBare g) → J vs.length m₁ news₁ → Fr h₀ env.locals h m₁ → News h₀ env.locals h news₁ → Q .next ⟨h, g, s.drawn, tk, s.os⟩) :
    wpAny (model prog w) A (pyIter (.ref l)) (fun it s₂ => LoopW prog w A env x px body Q it s₂) NoE s := by
  have hls : s.heap.IsList l vs.toArray := by
    rcases hl with hl | ⟨k, hl⟩
    · exact hl.at fun o e => F.keep l o e
    · exact News.isList N (hl _ _ _ h0)
  obtain ⟨ol, hol, _⟩ := id hls
  have hlt : l < s.heap.objs.size := Heap.lt_size hol
  have hlL : env.locals ≠ l := by
    rcases hl with hl | ⟨k, hl⟩
    · obtain ⟨o₁, ho₁, _⟩ := hl
      exact fun e => absurd (Nat.lt_of_lt_of_le (Heap.lt_size ho₁) F.above) (e ▸ Nat.lt_irrefl _)
    · exact fun e => (N _ (hl _ _ _ h0)).2.1 e.symm
  refine wpAny_pyIter_list hls ?_
  have W := Walks.list (prog := prog) (w := w) hh s.heap.objs.size l (Nat.ne_of_lt hlt) vs.toArray
  have hlen : vs.toArray.size = vs.length := by simp
  rw [hlen] at W
  intro R hR
  refine loopW (s := { s with heap := s.heap.push _ }) (h₀ := h₀) W hx hp ?_ (next_is_new F) (fun i h ⟨⟨o', ho', _⟩, _⟩ => ⟨o', ho'⟩) J ?_ ⟨⟨_, Heap.get?_push_size _ rfl, rfl, rfl⟩, hls.at fun o e => Heap.get?_push_of_some _ e⟩ (F.push _) (fun p hp => ⟨Heap.get?_push_of_some _ (N p hp).1, (N p hp).2⟩) (fun p hp hI => absurd (Heap.lt_size (N p hp).1) (hI ▸ Nat.lt_irrefl _)) h0 ?_ done hR
  · intro hm
    rcases List.mem_cons.mp hm with e | hm
    · exact absurd F.ns.lt (e ▸ Nat.lt_irrefl _)
    · exact hlL (List.mem_singleton.mp hm)
  · intro b hb
    rcases List.mem_cons.mp hb with e | hb
    · exact .inl e
    · rw [List.mem_singleton.mp hb]
      rcases hl with ⟨o₁, ho₁, _⟩ | ⟨k, hl⟩
      · exact .inr (.inl ⟨o₁, ho₁⟩)
      · exact .inr (.inr ⟨_, hl⟩)
  · rintro i v m₁ news₁ h tk g oI hb hi hv hJ hn F₁ N₁
    exact step i v m₁ news₁ h tk g oI _ (fun p hp => Heap.lt_size (N p hp).1) hb (by simpa using hv) hJ hn F₁ N₁
/-- a range upwards by ones -/
theorem iterW_range {r : Addr} {a₀ b₀ : Int} {t₀ u₀ v₀ : Tok} {n : Nat} {m : Str → Option Value} {news : List (Addr × Obj)} {px : Pos} (J : Nat → (Str → Option Value) → List (Addr × Obj) → Prop)
    (hh : A.handled = none) (hx : env.kindOf x = some .local)
    (hp : (env.scope.kind == .class || (env.scope.kind == .module && env.locals != env.globals)) = false)
    (hr : IsRange s.heap r a₀ b₀ 1 t₀ u₀ v₀) (hsmall : Builtin.Range.small a₀ b₀ 1 = true) (hn : Builtin.Range.rangeSize a₀ b₀ 1 = (n : Int))
    (F : Fr h₀ env.locals s.heap m) (N : News h₀ env.locals s.heap news) (h0 : J 0 m news)
    (step : ∀ (i : Nat) t m₁ news₁ h tk g oI I, (∀ p ∈ news, p.1 < I) → (AllBare s.gens → AllBare g) → i < n → J i m₁ news₁ → (∀ p ∈ news₁, p.1 ≠ I) →
      Fr h₀ env.locals h (fun y => if y = x then some (.int (a₀ + (i : Int)) t) else m₁ y) → News h₀ env.locals h (news₁ ++ [(I, oI)]) →
      wpAny (model prog w) A (execs body env) (StepW h₀ env.locals I oI (J (i + 1)) Q ⟨h, g, s.drawn, tk, s.os⟩) NoE ⟨h, g, s.drawn, tk, s.os⟩)
    (done : ∀ m₁ news₁ h tk g, (AllBare s.gens → AllBare g) → J n m₁ news₁ → Fr h₀ env.locals h m₁ → News h₀ env.locals h news₁ → Q .next ⟨h, g, s.drawn, tk, s.os⟩) :
    wpAny (model prog w) A (pyIter (.ref r)) (fun it s₂ => LoopW prog w A env x px body Q it s₂) NoE s := by
  refine wpAny_pyIter_range hr hsmall ?_
  have W : Walks prog w A s.heap.objs.size [s.heap.objs.size] [s.heap.objs.size] n (fun i v => i < n ∧ ∃ t, v = .int (a₀ + i * 1) t)
      (fun i h => IsRangeIter h s.heap.objs.size (a₀ + (i : Nat) * 1) ((n : Int) - (i : Nat)) 1) := (Walks.range hh _ a₀ 1 n).bound
  intro R hR
  refine loopW (s := { s with heap := s.heap.push _ }) (h₀ := h₀) W hx hp ?_ (next_is_new F) (fun i h st => ⟨_, st⟩) J ?_ (by show IsRangeIter _ _ _ _ _; rw [hn]; simpa using Heap.get?_push_size _ rfl) (F.push _) (fun p hp => ⟨Heap.get?_push_of_some _ (N p hp).1, (N p hp).2⟩) (fun p hp hI => absurd (Heap.lt_size (N p hp).1) (hI ▸ Nat.lt_irrefl _)) h0 ?_ done hR
  · intro hm
    exact absurd F.ns.lt ((List.mem_singleton.mp hm) ▸ Nat.lt_irrefl _)
  · intro b hb
    exact .inl (List.mem_singleton.mp hb)
  · rintro i v m₁ news₁ h tk g oI hb hi ⟨_, t, rfl⟩ hJ hn' F₁ N₁
    rw [Int.mul_one] at F₁
    exact step i t m₁ news₁ h tk g oI _ (fun p hp => Heap.lt_size (N p hp).1) hb hi hJ hn' F₁ N₁
end
theorem ints_rep (c : Int) (t : Tok) : ∀ k : Nat, IntsAre (List.replicate k [Value.int c t]).flatten (List.replicate k c)
  | 0 => .nil
  | k + 1 => by
    rw [List.replicate_succ, List.replicate_succ, List.flatten_cons]
    exact .cons c t (ints_rep c t k)
section
variable {prog : Program} {w : World} {A : Around} {E : Value → Shared → Prop} {s : Shared} {h₀ : Heap} {L : Addr} {m : Str → Option Value} {news : List (Addr × Obj)}
/-- [c] * x -/
theorem mulK {l : Addr} {c : Int} {t : Tok} {k : Nat} {x : Int} {u : Tok} {Q : Value → Shared → Prop}
    (Fm : Fr h₀ L s.heap m) (N : News h₀ L s.heap news) (hl : (l, W.listOf #[Value.int c t] k) ∈ news) (hlo : -100 ≤ x) (hhi : x ≤ 1000000)
    (h : ∀ D ws h', Fr h₀ L h' m → News h₀ L h' ((D, W.listOf ws.toArray 0) :: news) → (∀ p ∈ news, p.1 < D) → IntsAre ws (List.replicate x.toNat c) → Q (.ref D) { s with heap := h' }) :
    wpAny (model prog w) A (binaryOp .Mult (.ref l) (.int x u)) Q E s := by
  refine mul_list (items := #[Value.int c t]) (k := k) Fm N (N _ hl).1 (by omega) (by omega) (by simp; omega) fun h' F' N' => ?_
  rw [listMul_foldl_if] at N'
  exact h _ _ h' F' N' (fun p hp => Heap.lt_size (N p hp).1) (ints_rep c t _)
end
theorem maps_eq {m m' : Str → Option Value} (keys : List Str) (h1 : ∀ y ∈ keys, m y = m' y) (h2 : ∀ y, y ∉ keys → m y = m' y) : m = m' := by
  funext y
  by_cases h : y ∈ keys
  · exact h1 y h
  · exact h2 y h
theorem News.skip1 {h₀ h : Heap} {L : Addr} {a b : Addr × Obj} {r : List (Addr × Obj)} (N : News h₀ L h (a :: b :: r)) : News h₀ L h (a :: r) :=
  fun p hp => N p ((List.mem_cons.mp hp).elim (fun e => e ▸ List.mem_cons_self) fun e => List.mem_cons_of_mem _ (List.mem_cons_of_mem _ e))
theorem sign_eq (c d : Nat) : ((⟨#[c]⟩ : Str) == (⟨#[d]⟩ : Str)) = decide (c = d) := by
  by_cases h : c = d
  · subst h; simp
  · simp [h]
/-- statements of the text, by their place -/
noncomputable def mainB : List Stmt := Challenge.pw_rl0081_01.main.body
noncomputable def peel : Stmt → List Stmt × List Stmt × Scope × Expr
  | .FunctionDef _ _ b _ _ _ sc _ _ _ => (b, [], sc, default)
  | .ClassDef _ _ _ b _ _ _ _ _ _ _ => (b, [], default, default)
  | .If _ b o _ => (b, o, default, default)
  | .For _ _ b _ _ => (b, [], default, default)
  | .While e b _ _ => (b, [], default, e)
  | _ => ([], [], default, default)
noncomputable def bodyAt (k : Nat) (l : List Stmt) : List Stmt := (peel (l.getD k default)).1
noncomputable def orAt (k : Nat) (l : List Stmt) : List Stmt := (peel (l.getD k default)).2.1
noncomputable def scopeIn (k : Nat) (l : List Stmt) : Scope := (peel (l.getD k default)).2.2.1
noncomputable abbrev scopeAt (k : Nat) : Scope := scopeIn k mainB
noncomputable def testAt (k : Nat) (l : List Stmt) : Expr := (peel (l.getD k default)).2.2.2
/-- a frame's map, some of its names pinned -/
noncomputable def pinM : List (Str × Value) → (Str → Option Value) → Str → Option Value
  | [], m => m
  | (n, v) :: l, m => fun y => if y = n then some v else pinM l m y
noncomputable def PinOk (m : Str → Option Value) : List (Str × Value) → Prop
  | [] => True
  | (n, v) :: l => m n = some v ∧ PinOk m l
theorem pin_self {m : Str → Option Value} : ∀ {l : List (Str × Value)}, PinOk m l → m = pinM l m
  | [], _ => rfl
  | (n, v) :: l, h => by
    funext y
    show m y = if y = n then some v else pinM l m y
    by_cases e : y = n
    · rw [if_pos e, e]; exact h.1
    · rw [if_neg e, ← pin_self h.2]
theorem Fr.pin {g h : Heap} {L : Addr} {m : Str → Option Value} {l : List (Str × Value)} (F : Fr g L h m) (hm : PinOk m l) : Fr g L h (pinM l m) := pin_self hm ▸ F
section
variable {prog : Program} {w : World} {A : Around} {E : Value → Shared → Prop} {s : Shared} {h₀ : Heap} {L : Addr} {m : Str → Option Value} {news : List (Addr × Obj)}
theorem lenK {l : Addr} {vs : List Value} {ns : List Int} {k : Nat} {Q : Value → Shared → Prop} (N : News h₀ L s.heap news) (hm : (l, W.listOf vs.toArray k) ∈ news) (hi : IntsAre vs ns) (hz : ns.length ≤ 1000000)
    (h : ∀ t tk, Q (.int (ns.length : Int) t) { s with toks := tk }) : wpAny (model prog w) A (call (.builtin "len") [.ref l]) Q E s := by
  have e : vs.toArray.size = ns.length := by simp [hi.length]
  refine len_list (News.isList N hm) (by rw [e]; omega) ?_
  rw [e]
  exact h _ _
theorem lenT {l : Addr} {vs : List Value} {ns : List Int} {Q : Value → Shared → Prop} (N : News h₀ L s.heap news) (hm : (l, ({ cls := .type "tuple", data := .seq vs.toArray } : Obj)) ∈ news) (hi : IntsAre vs ns) (hz : ns.length ≤ 1000000)
    (h : ∀ t tk, Q (.int (ns.length : Int) t) { s with toks := tk }) : wpAny (model prog w) A (call (.builtin "len") [.ref l]) Q E s := by
  have e : vs.toArray.size = ns.length := by simp [hi.length]
  refine PyProof.Rows.len_tuple (News.isTup N hm) (by rw [e]; omega) ?_
  rw [e]
  exact h _ _
theorem subT {value slice : PySem.Expr} {l : Addr} {vs : List Value} {ns : List Int} {k : Int} {u : Tok} {Q : Value → Shared → Prop} (N : News h₀ L s.heap news) (hm : (l, ({ cls := .type "tuple", data := .seq vs.toArray } : Obj)) ∈ news) (hi : IntsAre vs ns) (h0 : 0 ≤ k) (h1 : k < ns.length) (hz : ns.length ≤ 1000000)
    (h : ∀ t, Q (.int (ns.getD k.toNat 0) t) s) (hs : subscripted slice false (.ref l) (.int k u) = operate [.ref l, .int k u] (getItem (.ref l) (.int k u)) := by with_unfolding_all rfl) :
    wpAny (model prog w) A (subscriptTail value slice (.ref l) (.int k u)) Q E s := by
  have hj : k.toNat < ns.length := by omega
  obtain ⟨t, hx⟩ := hi.get k.toNat ns[k.toNat] (by simp [hj])
  have e : ns.getD k.toNat 0 = ns[k.toNat] := by simp [hj]
  refine item_tupleT (j := k.toNat) (x := .int ns[k.toNat] t) (News.isTup N hm) (by omega) (by omega) ?_ hx (by rw [← e]; exact h t) hs
  unfold seqIndex?
  have := hi.length
  simp only []
  split <;> (first | omega | skip)
  all_goals (first | (split <;> first | rfl | omega) | rfl | (simp; omega))
end
theorem rng_size (a b : Int) : Builtin.Range.rangeSize a b 1 = (((b - a).toNat : Nat) : Int) := by
  unfold Builtin.Range.rangeSize
  simp
  split <;> omega
theorem rng_small {a b : Int} (h1 : -1000000 ≤ a) (h2 : a ≤ 1000000) (h3 : -1000000 ≤ b) (h4 : b ≤ 1000000) : Builtin.Range.small a b 1 = true := by
  unfold Builtin.Range.small
  rw [rng_size]
  have e : ∀ x : Int, -10000000 ≤ x → x ≤ 10000000 → Builtin.Range.rangeFitsLong x = true := fun x h1 h2 => by
    unfold Builtin.Range.rangeFitsLong
    simp
    omega
  simp [e a (by omega) (by omega), e b (by omega) (by omega), e 1 (by omega) (by omega)]
  exact e _ (by omega) (by omega)
end
end Mine81
namespace Mine81
section
local macro_rules | `(tactic| walk_at "zz") => `(tactic| skip)
local macro_rules
  | `(tactic| walk_at "exec For Name Name cons nil") => `(tactic| refine stop_ ?_)
open Builtin Builtin.Str in
noncomputable def find4 (x y : Str) (i j : Int) : Int := match occurrences x y (fromIndex x.length i) (min (fromIndex x.length j) x.length) 1 with | k :: _ => (k : Int) | [] => -1
open Builtin Builtin.Str in
theorem gives_find4 (x y : Str) (i j : Int) (t u v z : Tok) : Gives («str.find» ⟨[.str x t, .str y u, .int i v, .int j z], []⟩) (.int (find4 x y i j)) := by
  show Gives (match occurrences x y (fromIndex x.length i) (min (fromIndex x.length j) x.length) 1 with | k :: _ => retInt k | [] => (do rule "str.find.not-found"; retInt (-1))) _
  unfold find4
  cases occurrences x y (fromIndex x.length i) (min (fromIndex x.length j) x.length) 1 with
  | nil => exact .rule (.of_eq rfl)
  | cons k _ => exact .of_eq rfl
theorem call_find4 {prog : Program} {w : World} {A : Around} {E : Value → Shared → Prop} {s : Shared} {x y : Str} {t u v z : Tok} {i j : Int} {Q : Value → Shared → Prop}
    (hq : Q (.int (find4 x y i j) s.toks) { s with toks := s.toks + 1 }) : wpAny (model prog w) A (call (.builtin "str.find") [.str x t, .str y u, .int i v, .int j z]) Q E s :=
  call_gives F.slot_str_find (typeIs_str _ _ _) F.entry_str_find (F.args_str_find_4 _ _ _ _) (gives_find4 x y i j t u v z) hq
/-- what _ellipsis_match tells of the written pattern: blank, then tab, somewhere -/
noncomputable def ellGo (got : Str) : Int → List Str → Bool
  | _, [] => true
  | sp, x :: r => if find4 got x sp got.length < 0 then false else ellGo got (find4 got x sp got.length + x.length) r
noncomputable def pcs : List Str := [⟨#[]⟩, ⟨#[32]⟩, ⟨#[9]⟩, ⟨#[]⟩]
noncomputable def ellF (got : Str) : Bool := ellGo got 0 pcs
noncomputable def ellJ (got : Str) (te t2 : Tok) (news₀ : List (Addr × Obj)) (i : Nat) (m : Str → Option Value) (news : List (Addr × Obj)) : Prop :=
  ∃ (sp : Int) (ts : Tok) (m₁ : Str → Option Value), m = pinM [(Str.ofString "startpos", .int sp ts), (Str.ofString "endpos", .int got.length te), (Str.ofString "got", .str got t2)] m₁ ∧ news = news₀ ∧ ellGo got sp (pcs.drop i) = ellF got
theorem ellGo_step {got x : Str} {sp : Int} {i : Nat} {b : Bool} (hx : pcs[i]? = some x) (h : ellGo got sp (pcs.drop i) = b) : x.length ≤ 1 ∧ (find4 got x sp got.length < 0 → b = false) ∧ (¬ find4 got x sp got.length < 0 → ellGo got (find4 got x sp got.length + x.length) (pcs.drop (i + 1)) = b) := by
  obtain ⟨hi, rfl⟩ := List.getElem?_eq_some_iff.mp hx
  rw [List.drop_eq_getElem_cons hi, ellGo] at h
  refine ⟨?_, fun q => ?_, fun q => ?_⟩
  · exact (by decide : ∀ x ∈ pcs, x.length ≤ 1) _ (List.getElem_mem hi)
  · rw [if_pos q] at h; exact h.symm
  · rw [if_neg q] at h; exact h
theorem Keep.ofFr {s : Shared} {L : Addr} {h' : Heap} {m : Str → Option Value} {tk : Nat} (F : Fr s.heap L h' m) : Keep s ⟨h', s.gens, s.drawn, tk, s.os⟩ :=
  ⟨F.keep, rfl, rfl, id⟩
theorem ell81 {w : World} {mean : ExcName → Option Value} {mg mb : Str → Option Value} {dp un : Nat} {fr : Option (List Env)} {gd : Option (List Code)} {s : Shared} {Q E : Value → Shared → Prop} {got : Str} {t1 t2 : Tok} (hg : got.length ≤ 100)
    (G : Gd w mean mg mb s.heap) (hA : dp + 1 < recursionLimit) (hu : un + 8 < cLine) (hret : ∀ s', Keep s s' → Q (.bool (ellF got)) s') :
    wpAny (model Challenge.rw_rl0081_01.row.prog w) (Around.mk none dp fr gd un) (call (.ref 94) [.str (Str.ofString "... ...\t...") t1, .str got t2]) Q E s := by
  have hT := G.T
  have hX := G.X
  revert hX
  k_fill
  intro hX
  refine' enterP ?kG ?k6 ?k7 ?k8 ?k9 ?kB ?_ ?c2 ?c3 ?c4 ?c5; (case kG => k_asm); (case k6 => k_is); (case k7 => k_is); (case k8 => (show dp < recursionLimit; omega)); (case k9 => exact BindsTo.of_eq rfl); (case c5 => decide); (case kB => exact locs rfl); (case c2 => exact rfl); (case c3 => exact rfl); (case c4 => exact rfl)
  intro h' F' N'; (try dsimp only)
  k_steps
  · exact absurd (by assumption) (by decide +kernel : ¬ (Builtin.Str.occurrences (Str.ofString "... ...\t...") (Str.ofString "...") 0 (Str.ofString "... ...\t...").length 1).isEmpty = true)
  refine For_W ?_
  k_steps
  rename Fr _ _ _ _ => F1
  rename News _ _ _ _ => N1
  rename StrsAre _ _ => hS
  obtain ⟨o2, vs, N1, hS⟩ : ∃ o2 vs, News s.heap s.heap.objs.size _ [(_, o2), (_, W.listOf vs.toArray 0)] ∧ StrsAre vs pcs := ⟨_, _, N1, hS⟩
  refine iterW_list (vs := vs) (J := ellJ got _ t2 _) rfl rfl rfl F1 N1 ⟨_, _, _, pin_self ⟨rfl, rfl, rfl, trivial⟩, rfl, rfl⟩ (.inr ⟨0, ?_⟩) ?_ ?_
  · rintro i m₁ news₁ ⟨sp, ts, m₂, _, rfl, _⟩
    exact .tail _ (.head _)
  · rintro i v m₁ news₁ h tk g' oI I hI hb hv ⟨sp, ts, m₂, rfl, rfl, hgo⟩ hn F2 N3
    obtain ⟨x, t, rfl, hx⟩ := hS.item i v hv
    obtain ⟨hx1, hx2, hx3⟩ := ellGo_step hx hgo
    dsimp only [pinM] at F2
    clear N1 F1
    k_steps
    refine call_find4 ?_
    k_steps
    · have hE := hx2 (by assumption)
      rename Fr _ _ _ _ => F9
      rw [hE] at hret
      exact hret _ ⟨F9.keep, rfl, rfl, hb⟩
    · rename Fr _ _ _ _ => F9
      rename News _ _ _ _ => N9
      exact StepW.next _ F9 N9 (.tail _ (.tail _ (.head _))) (fun e he => List.mem_append_left _ he) hn ⟨_, _, _, pin_self ⟨rfl, rfl, rfl, trivial⟩, rfl, hx3 (by assumption)⟩
  · rintro m₁ news₁ h tk g' hb ⟨sp, ts, m₂, rfl, rfl, hgo⟩ F2 N3
    have hE : ellF got = true := by
      rw [← hgo, hS.len_eq, List.drop_length, ellGo]
    rw [← hE]
    dsimp only [pinM] at F2
    clear N1 F1
    k_steps
    exact hret _ ⟨F2.keep, rfl, rfl, hb⟩
end
end Mine81
namespace Mine81
section
local macro_rules | `(tactic| walk_at "zz") => `(tactic| skip)
local macro_rules | `(tactic| walk_at "zz") => `(tactic| skip)
local macro_rules | `(tactic| walk_at "zz") => `(tactic| skip)
/-- what __init__ reckons of a lead -/
structure WS where
  b : Nat
  n : Int
  nt : Int
  cs : List Int
noncomputable def wpad (b : Nat) (cs : List Int) : List Int := if cs.length ≤ b then cs ++ List.replicate (b - cs.length + 1) 0 else cs
noncomputable def wstep (σ : WS) (c : Nat) : WS :=
  if c = 32 then { σ with b := σ.b + 1, n := σ.n + 1 } else ⟨0, σ.n + 1, σ.nt + 1, (wpad σ.b σ.cs).set σ.b ((wpad σ.b σ.cs).getD σ.b 0 + 1)⟩
noncomputable def wgo : WS → List Nat → WS
  | σ, [] => σ
  | σ, c :: r => if c = 32 ∨ c = 9 then wgo (wstep σ c) r else σ
noncomputable def wOf (ws : Str) : WS := wgo ⟨0, 0, 0, []⟩ ws.cps.toList
theorem rep_flat (k : Nat) : (List.replicate k [(0 : Int)]).flatten = List.replicate k 0 := by
  induction k with
  | zero => rfl
  | succ k ih => rw [List.replicate_succ, List.replicate_succ, List.flatten_cons, ih]; rfl
theorem pad1 {b : Nat} {cs : List Int} (h : (cs.length : Int) ≤ b) : cs ++ (List.replicate ((b : Int) - cs.length + 1).toNat [(0 : Int)]).flatten = wpad b cs := by
  unfold wpad
  rw [if_pos (by omega), rep_flat]
  congr 2
  omega
theorem pad2 {b : Nat} {cs : List Int} (h : ¬ (cs.length : Int) ≤ b) : cs = wpad b cs := by
  unfold wpad
  rw [if_neg (by omega)]
theorem pad_len (b : Nat) (cs : List Int) : (wpad b cs).length ≤ max cs.length (b + 1) := by
  unfold wpad
  split
  · simp; omega
  · omega
theorem sp_eq {c : Nat} (h : ((⟨#[c]⟩ : Str) == Str.ofString " ") = true) : c = 32 := by
  rw [show Str.ofString " " = ⟨#[32]⟩ from by decide +kernel, sign_eq] at h
  exact of_decide_eq_true h
theorem sp_ne {c : Nat} (h : ((⟨#[c]⟩ : Str) == Str.ofString " ") = false) : c ≠ 32 := by
  rw [show Str.ofString " " = ⟨#[32]⟩ from by decide +kernel, sign_eq] at h
  exact of_decide_eq_false h
theorem tab_eq {c : Nat} (h : ((⟨#[c]⟩ : Str) == Str.ofString "\t") = true) : c = 9 := by
  rw [show Str.ofString "\t" = ⟨#[9]⟩ from by decide +kernel, sign_eq] at h
  exact of_decide_eq_true h
theorem tab_ne {c : Nat} (h : ((⟨#[c]⟩ : Str) == Str.ofString "\t") = false) : c ≠ 9 := by
  rw [show Str.ofString "\t" = ⟨#[9]⟩ from by decide +kernel, sign_eq] at h
  exact of_decide_eq_false h
theorem drop_at {ws : Str} {i c : Nat} (h : ws.cps[i]? = some c) : ws.cps.toList.drop i = c :: ws.cps.toList.drop (i + 1) := by
  obtain ⟨h1, h2⟩ := Array.getElem?_eq_some_iff.mp h
  rw [List.drop_eq_getElem_cons (by simpa using h1)]
  simp [h2]
theorem wgo_go {ws : Str} {i c : Nat} {σ r : WS} (hc : ws.cps[i]? = some c) (h : wgo σ (ws.cps.toList.drop i) = r) (hcc : c = 32 ∨ c = 9) : wgo (wstep σ c) (ws.cps.toList.drop (i + 1)) = r := by
  rw [drop_at hc, wgo, if_pos hcc] at h
  exact h
theorem wgo_stop {ws : Str} {i c : Nat} {σ r : WS} (hc : ws.cps[i]? = some c) (h : wgo σ (ws.cps.toList.drop i) = r) (h1 : c ≠ 32) (h2 : c ≠ 9) : σ = r := by
  rw [drop_at hc, wgo, if_neg (by omega)] at h
  exact h
noncomputable def initL (x D : Addr) (σ : WS) (tb tn tt tS tT : Tok) : List (Str × Value) :=
  [(Str.ofString "nt", .int σ.nt tt), (Str.ofString "n", .int σ.n tn), (Str.ofString "b", .int σ.b tb), (Str.ofString "count", .ref D), (Str.ofString "self", .ref x), (Str.ofString "S", .str (Str.ofString " ") tS), (Str.ofString "T", .str (Str.ofString "\t") tT)]
noncomputable def initJ (ws : Str) (x : Addr) (rest : List (Addr × Obj)) (i : Nat) (m : Str → Option Value) (news : List (Addr × Obj)) : Prop :=
  ∃ (σ : WS) (D : Addr) (vs : List Value) (kk : Nat) (tb tn tt tS tT : Tok) (m₁ : Str → Option Value), wgo σ (ws.cps.toList.drop i) = wOf ws ∧ σ.b ≤ i ∧ σ.cs.length ≤ i + 1 ∧ m = pinM (initL x D σ tb tn tt tS tT) m₁ ∧ news = (D, W.listOf vs.toArray kk) :: rest ∧ IntsAre vs σ.cs ∧ (∀ p ∈ rest, p.1 < D)
noncomputable def initE (ws : Str) (x : Addr) (rest : List (Addr × Obj)) (m : Str → Option Value) (news : List (Addr × Obj)) : Prop :=
  ∃ (D : Addr) (vs : List Value) (kk : Nat) (tb tn tt tS tT : Tok) (m₁ : Str → Option Value), (wOf ws).b ≤ ws.length ∧ (wOf ws).cs.length ≤ ws.length + 1 ∧ m = pinM (initL x D (wOf ws) tb tn tt tS tT) m₁ ∧ news = (D, W.listOf vs.toArray kk) :: rest ∧ IntsAre vs (wOf ws).cs ∧ (∀ p ∈ rest, p.1 < D)
local macro_rules
  | `(tactic| walk_at "exec For Name Attribute cons nil") => `(tactic| refine stop_ ?_)
  | `(tactic| walk_at "call builtin:len") => `(tactic| refine stopL ?_)
  | `(tactic| walk_at "call type:tuple") => `(tactic| refine stop_ ?_)
/-- a lead as it lies: its object, its dict, its two tuples -/
structure WP where
  x : Addr
  dx : Addr
  an : Addr
  at' : Addr
  raw : Str
  tr : Tok
  k1 : Tok
  k2 : Tok
  k3 : Tok
  k4 : Tok
  k5 : Tok
  tn : Tok
  tt : Tok
  tb : Tok
  sm : Bool
  vs : List Value
  σ : WS
noncomputable def WP.dct (w : World) (p : WP) : Obj :=
  dictOf [⟨PyData.keyHash w.params (Str.ofString "raw"), .str (Str.ofString "raw") p.k1, .str p.raw p.tr⟩, ⟨PyData.keyHash w.params (Str.ofString "n"), .str (Str.ofString "n") p.k2, .int p.σ.n p.tn⟩, ⟨PyData.keyHash w.params (Str.ofString "nt"), .str (Str.ofString "nt") p.k3, .int p.σ.nt p.tt⟩, ⟨PyData.keyHash w.params (Str.ofString "norm"), .str (Str.ofString "norm") p.k4, .ref p.an⟩, ⟨PyData.keyHash w.params (Str.ofString "is_simple"), .str (Str.ofString "is_simple") p.k5, .bool p.sm⟩] 5
noncomputable def WP.ann (p : WP) : Obj := { cls := .type "tuple", data := .seq #[.ref p.at', .int p.σ.b p.tb] }
noncomputable def WP.own (w : World) (p : WP) : List (Addr × Obj) :=
  [(p.x, instObj 83 p.dx), (p.dx, p.dct w),
   (p.an, p.ann), (p.at', { cls := .type "tuple", data := .seq p.vs.toArray })]
structure WP.Ok (p : WP) (ws : Str) : Prop where
  σ : p.σ = wOf ws
  hi : IntsAre p.vs p.σ.cs
  l1 : @LT.lt Nat _ p.dx p.x
  l2 : @LT.lt Nat _ p.x p.at'
  l3 : @LT.lt Nat _ p.at' p.an
  b : p.σ.b ≤ 1000
  cs : p.σ.cs.length ≤ 1001
section
variable {w : World} {mean : ExcName → Option Value} {mg mb : Str → Option Value} {dp un : Nat} {fr : Option (List Env)} {gd : Option (List Code)} {s : Shared} {Q : Flow → Shared → Prop} {g : Heap} {L f : Addr} {cd : Value} {m : Str → Option Value} {sc : Scope} {bd : List Stmt} {ws : Str} {x dx D : Addr} {σ : WS} {vs : List Value} {kk : Nat} {tb tn tt tS tT : Tok}
theorem pad_lt (b : Nat) (cs : List Int) : b < (wpad b cs).length := by
  unfold wpad
  split
  · simp; omega
  · omega
noncomputable abbrev elifB : List Stmt := bodyAt 0 (orAt 0 (bodyAt 4 (bodyAt 1 (bodyAt 2 mainB))))
theorem stopSub {M : Model} {A : Around} {a b e : Expr} {p ps : Pos} {r : List Stmt} {env : Env} {Q : Flow → Shared → Prop} {E : Value → Shared → Prop} {s : Shared} (h : StopW M A (execs (.Assign [.Subscript a b p] e ps :: r) env) Q E s) : wpAny M A (execs (.Assign [.Subscript a b p] e ps :: r) env) Q E s := h
local macro_rules
  | `(tactic| walk_at "execs cons") => `(tactic| first | refine stopSub ?_ | refine stopIf ?_)
theorem initV {P : Flow → Shared → Prop} {I : Addr} {oX oDx oI : Obj} (hsc : sc = scopeIn 1 (bodyAt 2 mainB)) (hbd : bd = elifB.drop 3) (hT : Top hd.view_39 (looseW hd.view_39 [Str.ofString "Whitespace"]) mean mg mb g) (hX : (hd.heap_39 w.params).In g)
    (hb : σ.b < σ.cs.length) (hl : σ.cs.length ≤ 1001) (hvs : IntsAre vs σ.cs) (hDx : @LT.lt Nat _ x D) (hDd : @LT.lt Nat _ dx D) (hDI : @Ne Nat D I)
    (F : Fr g L s.heap (pinM (initL x D σ tb tn tt tS tT) m)) (N : News g L s.heap [(D, W.listOf vs.toArray kk), (x, oX), (dx, oDx), (I, oI)])
    (next : ∀ h' tk' vs' kk' tb' m', IntsAre vs' (σ.cs.set σ.b (σ.cs.getD σ.b 0 + 1)) → Fr g L h' (pinM (initL x D ⟨0, σ.n, σ.nt, σ.cs.set σ.b (σ.cs.getD σ.b 0 + 1)⟩ tb' tn tt tS tT) m') → News g L h' [(D, W.listOf vs'.toArray kk'), (x, oX), (dx, oDx), (I, oI)] → P .next ⟨h', s.gens, s.drawn, tk', s.os⟩) :
    wpAny (model Challenge.rw_rl0081_01.row.prog w) ((Around.mk none dp fr gd un).deeper (envOf (Str.ofString "Whitespace.__init__") sc L f cd)) (execs bd (envOf (Str.ofString "Whitespace.__init__") sc L f cd)) P NoE s := by
  conv at hsc => rhs; whnf
  conv at hbd => rhs; whnf
  subst hsc hbd
  revert hX
  k_fill
  intro hX
  dsimp only [initL, pinM] at F
  refine wpAny_execs_cons ?_
  k_steps
  rename Fr _ _ _ _ => F9
  rename News _ _ _ _ => N9
  exact next _ _ _ _ _ _ (by assumption) (Fr.pin F9 ⟨rfl, rfl, rfl, rfl, rfl, rfl, rfl, trivial⟩) N9
theorem initU {P : Flow → Shared → Prop} {bd3 : List Stmt} {I : Addr} {oX oDx oI : Obj} (hsc : sc = scopeIn 1 (bodyAt 2 mainB)) (hbd : bd = elifB.drop 2) (hbd3 : bd3 = elifB.drop 3) (hT : Top hd.view_39 (looseW hd.view_39 [Str.ofString "Whitespace"]) mean mg mb g) (hX : (hd.heap_39 w.params).In g)
    (hb : σ.b ≤ 1000) (hl : σ.cs.length ≤ 1001) (hvs : IntsAre vs σ.cs) (hne : @LT.lt Nat _ dx x) (hDx : @LT.lt Nat _ x D) (hDd : @LT.lt Nat _ dx D) (hDI : @Ne Nat D I) (hxI : @Ne Nat x I) (hdI : @Ne Nat dx I)
    (F : Fr g L s.heap (pinM (initL x D σ tb tn tt tS tT) m)) (N : News g L s.heap [(D, W.listOf vs.toArray kk), (x, oX), (dx, oDx), (I, oI)])
    (next : ∀ h' tk' D' vs' kk' m', IntsAre vs' (wpad σ.b σ.cs) → @LT.lt Nat _ x D' → @LT.lt Nat _ dx D' → @Ne Nat D' I → Fr g L h' (pinM (initL x D' ⟨σ.b, σ.n, σ.nt, wpad σ.b σ.cs⟩ tb tn tt tS tT) m') → News g L h' [(D', W.listOf vs'.toArray kk'), (x, oX), (dx, oDx), (I, oI)] →
      wpAny (model Challenge.rw_rl0081_01.row.prog w) ((Around.mk none dp fr gd un).deeper (envOf (Str.ofString "Whitespace.__init__") sc L f cd)) (execs bd3 (envOf (Str.ofString "Whitespace.__init__") sc L f cd)) P NoE ⟨h', s.gens, s.drawn, tk', s.os⟩) :
    wpAny (model Challenge.rw_rl0081_01.row.prog w) ((Around.mk none dp fr gd un).deeper (envOf (Str.ofString "Whitespace.__init__") sc L f cd)) (execs bd (envOf (Str.ofString "Whitespace.__init__") sc L f cd)) P NoE s := by
  conv at hsc => rhs; whnf
  conv at hbd => rhs; whnf
  conv at hbd3 => rhs; whnf
  subst hsc hbd hbd3
  revert hX
  k_fill
  intro hX
  have F0 := F
  dsimp only [initL, pinM] at F
  refine wpAny_execs_cons ?_
  k_steps
  repeat' (refine' lenK (by k_asm) (by k_mem) (by assumption) (by omega) ?_; intro _ _; k_steps)
  · have hpad := pad1 (b := σ.b) (cs := σ.cs) (by assumption)
    rename Fr _ _ _ _ => F9
    rename News _ _ _ _ => N9
    rename _ ∧ _ ∧ _ ∧ _ ∧ _ ∧ _ => l9
    rename IntsAre _ (σ.cs ++ _) => hI9
    rw [hpad] at hI9
    exact next _ _ _ _ _ _ hI9 l9.2.2.2.1 l9.2.2.2.2.1 (Nat.ne_of_gt l9.2.2.2.2.2) (Fr.pin F9 ⟨rfl, rfl, rfl, rfl, rfl, rfl, rfl, trivial⟩) (cb_drop N9 (by kcj_all))
  · have hpad := pad2 (b := σ.b) (cs := σ.cs) (by assumption)
    refine next _ _ D vs kk m ?_ hDx hDd hDI ?_ N
    · rw [← hpad]; exact hvs
    · rw [← hpad]; exact F0
theorem initT {i c : Nat} {t : Tok} {I : Addr} {oX oDx oI : Obj} (hsc : sc = scopeIn 1 (bodyAt 2 mainB)) (hbd : bd = bodyAt 4 (bodyAt 1 (bodyAt 2 mainB))) (hT : Top hd.view_39 (looseW hd.view_39 [Str.ofString "Whitespace"]) mean mg mb g) (hX : (hd.heap_39 w.params).In g)
    (hg : ws.length ≤ 1000) (hne : @LT.lt Nat _ dx x) (hc : ws.cps[i]? = some c) (hgo : wgo σ (ws.cps.toList.drop i) = wOf ws) (hb1 : σ.b ≤ i) (hc1 : σ.cs.length ≤ i + 1) (hvs : IntsAre vs σ.cs) (hD : ∀ p ∈ [(x, oX), (dx, oDx)], p.1 < D)
    (hn : ∀ p ∈ [(D, W.listOf vs.toArray kk), (x, oX), (dx, oDx)], p.1 ≠ I) (F2 : Fr g L s.heap (pinM ((Str.ofString "ch", .str ⟨#[c]⟩ t) :: initL x D σ tb tn tt tS tT) m)) (N3 : News g L s.heap [(D, W.listOf vs.toArray kk), (x, oX), (dx, oDx), (I, oI)]) :
    wpAny (model Challenge.rw_rl0081_01.row.prog w) ((Around.mk none dp fr gd un).deeper (envOf (Str.ofString "Whitespace.__init__") sc L f cd)) (execs bd (envOf (Str.ofString "Whitespace.__init__") sc L f cd)) (StepB g L I oI (initJ ws x [(x, oX), (dx, oDx)] (i + 1)) (initE ws x [(x, oX), (dx, oDx)]) Q s) NoE s := by
  have hi1 : i < 1000 := Nat.lt_of_lt_of_le (Array.getElem?_eq_some_iff.mp hc).1 hg
  have hxD : @LT.lt Nat _ x D := hD _ (.head _)
  have hdD : @LT.lt Nat _ dx D := hD _ (.tail _ (.head _))
  have hDI : @Ne Nat D I := hn _ (.head _)
  have hxI : @Ne Nat x I := hn _ (.tail _ (.head _))
  have hdI : @Ne Nat dx I := hn _ (.tail _ (.tail _ (.head _)))
  have hpl := pad_len σ.b σ.cs
  have hpb : σ.b < (wpad σ.b σ.cs).length := pad_lt σ.b σ.cs
  generalize hbd2 : elifB.drop 2 = bd2
  have cut : c = 9 → ∀ (P : Flow → Shared → Prop), (∀ s₂, StepB g L I oI (initJ ws x [(x, oX), (dx, oDx)] (i + 1)) (initE ws x [(x, oX), (dx, oDx)]) Q s .next s₂ → P .next s₂) → ∀ (h₁ : Heap) (tk : Nat) (m₁ : Str → Option Value) tn' tt', Fr g L h₁ (pinM (initL x D ⟨σ.b, σ.n + 1, σ.nt + 1, σ.cs⟩ tb tn' tt' tS tT) m₁) → News g L h₁ [(D, W.listOf vs.toArray kk), (x, oX), (dx, oDx), (I, oI)] →
      wpAny (model Challenge.rw_rl0081_01.row.prog w) ((Around.mk none dp fr gd un).deeper (envOf (Str.ofString "Whitespace.__init__") sc L f cd)) (execs bd2 (envOf (Str.ofString "Whitespace.__init__") sc L f cd)) P NoE ⟨h₁, s.gens, s.drawn, tk, s.os⟩ := by
    intro h9 P hP h₁ tk m₁ tn' tt' F N
    subst h9
    refine initU (s := ⟨h₁, s.gens, s.drawn, tk, s.os⟩) (σ := ⟨σ.b, σ.n + 1, σ.nt + 1, σ.cs⟩) (bd3 := elifB.drop 3) hsc hbd2.symm rfl hT hX (by dsimp only; omega) (by dsimp only; omega) hvs hne hxD hdD hDI hxI hdI F N ?_
    intro h1 tk1 D1 vs1 kk1 m1 hI1 hx1 hd1 hDI1 F1 N1
    refine initV (s := ⟨h1, s.gens, s.drawn, tk1, s.os⟩) (σ := ⟨σ.b, σ.n + 1, σ.nt + 1, wpad σ.b σ.cs⟩) hsc rfl hT hX hpb (by dsimp only; omega) hI1 hx1 hd1 hDI1 F1 N1 ?_
    intro h2 tk2 vs2 kk2 tb2 m2 hI2 F2 N2
    refine hP _ (StepB.next [_, _, _] F2 N2 (.tail _ (.tail _ (.tail _ (.head _)))) (fun e he => List.mem_append_left [(I, oI)] he) ?_ ⟨wstep σ 9, D1, vs2, kk2, _, _, _, _, _, _, wgo_go hc hgo (.inr rfl), Nat.zero_le _, ?_, rfl, rfl, hI2, ?_⟩)
    · exact List.forall_mem_cons.mpr ⟨hDI1, fun p hp => hn p (.tail _ hp)⟩
    · show ((wpad σ.b σ.cs).set σ.b _).length ≤ i + 1 + 1
      rw [List.length_set]
      omega
    · exact List.forall_mem_cons.mpr ⟨hx1, List.forall_mem_cons.mpr ⟨hd1, List.forall_mem_nil _⟩⟩
  have hbd2' := hbd2.symm
  clear hbd2
  conv at hsc => rhs; whnf
  conv at hbd => rhs; whnf
  conv at hbd2' => rhs; whnf
  subst hsc hbd hbd2'
  revert hX
  k_fill
  intro hX
  clear hD hn hpl hpb
  refine wpAny_execs_cons ?_
  k_steps
  · have hcc := sp_eq (by assumption)
    subst hcc
    rename Fr _ _ _ _ => F9
    rename News _ _ _ _ => N9
    refine StepB.next [_, _, _] F9 N9 (.tail _ (.tail _ (.tail _ (.head _)))) (fun e he => List.mem_append_left [(I, oI)] he) ?_ ⟨wstep σ 32, D, vs, kk, _, _, _, _, _, _, wgo_go hc hgo (.inl rfl), ?_, ?_, pin_self ⟨rfl, rfl, rfl, rfl, rfl, rfl, rfl, trivial⟩, rfl, hvs, ?_⟩
    · exact List.forall_mem_cons.mpr ⟨hDI, List.forall_mem_cons.mpr ⟨hxI, List.forall_mem_cons.mpr ⟨hdI, List.forall_mem_nil _⟩⟩⟩
    · exact Nat.succ_le_succ hb1
    · exact Nat.le_succ_of_le hc1
    · exact List.forall_mem_cons.mpr ⟨hxD, List.forall_mem_cons.mpr ⟨hdD, List.forall_mem_nil _⟩⟩
  · have hc1' := sp_ne (by assumption)
    refine wpAny_execs_cons ?_
    k_steps
    · rename Fr _ _ _ _ => F9
      rename News _ _ _ _ => N9
      unfold StopW
      exact cut (tab_eq (by assumption)) _ (fun s₂ z => wpAny_execs_nil (wpAny_execs_nil z)) _ _ _ _ _ (Fr.pin F9 ⟨rfl, rfl, rfl, rfl, rfl, rfl, rfl, trivial⟩) N9
    · have e := wgo_stop hc hgo hc1' (tab_ne (by assumption))
      have hz := (Array.getElem?_eq_some_iff.mp hc).1
      subst e
      exact StepB.brk [_, _, _] F2 N3 (fun e he => List.mem_append_left [(I, oI)] he) ⟨D, vs, kk, _, _, _, _, _, _, Nat.le_trans hb1 (Nat.le_of_lt hz), Nat.le_trans hc1 (Nat.succ_le_succ (Nat.le_of_lt hz)), pin_self ⟨rfl, rfl, rfl, rfl, rfl, rfl, rfl, trivial⟩, rfl, hvs, List.forall_mem_cons.mpr ⟨hxD, List.forall_mem_cons.mpr ⟨hdD, List.forall_mem_nil _⟩⟩⟩
theorem initZ {k1 t2 : Tok} (hsc : sc = scopeIn 1 (bodyAt 2 mainB)) (hbd : bd = (bodyAt 1 (bodyAt 2 mainB)).drop 5) (hT : Top hd.view_39 (looseW hd.view_39 [Str.ofString "Whitespace"]) mean mg mb g) (hX : (hd.heap_39 w.params).In g)
    (hne : @LT.lt Nat _ dx x) (hxD : @LT.lt Nat _ x D) (hcs : σ.cs.length ≤ 1001) (hvs : IntsAre vs σ.cs)
    (F : Fr g L s.heap (pinM (initL x D σ tb tn tt tS tT) m)) (N : News g L s.heap [(D, W.listOf vs.toArray kk), (x, instObj 83 dx), (dx, dictOf [⟨PyData.keyHash w.params (Str.ofString "raw"), .str (Str.ofString "raw") k1, .str ws t2⟩] 1)])
    (next : ∀ h' tk' m' (p : WP), p.x = x → p.dx = dx → p.σ = σ → p.vs = vs → Fr g L h' m' → News g L h' (p.own w) → @LT.lt Nat _ x p.at' → @LT.lt Nat _ p.at' p.an → Q .next ⟨h', s.gens, s.drawn, tk', s.os⟩) :
    wpAny (model Challenge.rw_rl0081_01.row.prog w) ((Around.mk none dp fr gd un).deeper (envOf (Str.ofString "Whitespace.__init__") sc L f cd)) (execs bd (envOf (Str.ofString "Whitespace.__init__") sc L f cd)) Q NoE s := by
  conv at hsc => rhs; whnf
  conv at hbd => rhs; whnf
  subst hsc hbd
  revert hX
  k_fill
  intro hX
  dsimp only [initL, pinM] at F
  have hlen := hvs.length
  k_steps
  refine' kde_tupleOf (by k_asm) (by k_asm) (by exact News.isList (by k_asm) (by k_mem)) (by simp only [List.size_toArray]; omega) rfl ?_; intro D' h' F' N' l1; (try k_lt l1); (try k_sweep)
  k_steps
  refine' lenK (by k_asm) (by k_mem) (by assumption) (by omega) ?_; intro _ _
  k_steps
  rename Fr _ _ _ _ => F9
  rename News _ _ _ _ => N9
  refine next _ _ _ ⟨x, dx, _, _, ws, t2, _, _, _, _, _, tn, tt, tb, _, vs, σ⟩ rfl rfl rfl rfl F9 (cb_drop N9 (by dsimp only [WP.own]; kcj_all)) ?_ ?_
  · dsimp only; omega
  · dsimp only; omega
theorem stopFor {M : Model} {A : Around} {x it : Expr} {a b : List Stmt} {r : List Stmt} {ps : Pos} {env : Env} {Q : Flow → Shared → Prop} {E : Value → Shared → Prop} {s : Shared} (h : StopW M A (execs (.For x it a b ps :: r) env) Q E s) : wpAny M A (execs (.For x it a b ps :: r) env) Q E s := h
local macro_rules
  | `(tactic| walk_at "execs cons") => `(tactic| first | refine stopFor ?_)
theorem initA {bd4 : List Stmt} {t2 : Tok} (hsc : sc = scopeIn 1 (bodyAt 2 mainB)) (hbd : bd = bodyAt 1 (bodyAt 2 mainB)) (hbd4 : bd4 = (bodyAt 1 (bodyAt 2 mainB)).drop 4) (hT : Top hd.view_39 (looseW hd.view_39 [Str.ofString "Whitespace"]) mean mg mb g) (hX : (hd.heap_39 w.params).In g)
    (hne : @LT.lt Nat _ dx x) (F : Fr g L s.heap (pinM [(Str.ofString "ws", .str ws t2), (Str.ofString "self", .ref x)] m)) (N : News g L s.heap [(x, instObj 83 dx), (dx, dictOf [] 0)])
    (next : ∀ h' tk' D tb tn tt tS tT k1 m', Fr g L h' (pinM (initL x D ⟨0, 0, 0, []⟩ tb tn tt tS tT) m') → News g L h' [(D, W.listOf #[] 0), (x, instObj 83 dx), (dx, dictOf [⟨PyData.keyHash w.params (Str.ofString "raw"), .str (Str.ofString "raw") k1, .str ws t2⟩] 1)] → @LT.lt Nat _ x D → @LT.lt Nat _ dx D →
      wpAny (model Challenge.rw_rl0081_01.row.prog w) ((Around.mk none dp fr gd un).deeper (envOf (Str.ofString "Whitespace.__init__") sc L f cd)) (execs bd4 (envOf (Str.ofString "Whitespace.__init__") sc L f cd)) Q NoE ⟨h', s.gens, s.drawn, tk', s.os⟩) :
    wpAny (model Challenge.rw_rl0081_01.row.prog w) ((Around.mk none dp fr gd un).deeper (envOf (Str.ofString "Whitespace.__init__") sc L f cd)) (execs bd (envOf (Str.ofString "Whitespace.__init__") sc L f cd)) Q NoE s := by
  conv at hsc => rhs; whnf
  conv at hbd => rhs; whnf
  conv at hbd4 => rhs; whnf
  subst hsc hbd hbd4
  revert hX
  k_fill
  intro hX
  k_steps
  rename Fr _ _ _ _ => F9
  rename News _ _ _ _ => N9
  rename _ ∧ _ ∧ _ => l9
  exact next _ _ _ _ _ _ _ _ _ _ (Fr.pin F9 ⟨rfl, rfl, rfl, rfl, rfl, rfl, rfl, trivial⟩) (News.skip1 N9) l9.2.1 l9.2.2
end
theorem init81 {w : World} {mean : ExcName → Option Value} {mg mb : Str → Option Value} {dp un : Nat} {fr : Option (List Env)} {gd : Option (List Code)} {s : Shared} {R : Result → Shared → Prop} {ws : Str} {t2 : Tok} {x dx : Addr} {g : Heap} (hne : dx < x) (hg : ws.length ≤ 1000)
    (H : Hid w mean mg mb s [(x, instObj 83 dx), (dx, dictOf [] 0)] g) (hA : dp + 1 < recursionLimit) (hu : un + 8 < cLine)
    (hret : ∀ h' tk' g' (p : WP), p.x = x → p.dx = dx → p.Ok ws → (∀ q ∈ p.own w, h'.get? q.1 = some q.2) → s.heap.get? p.an = none → s.heap.get? p.at' = none →
      (∀ b o, b ≠ dx → s.heap.get? b = some o → h'.get? b = some o) → (AllBare s.gens → AllBare g') → R (.ok (.ret .none)) ⟨h', g', s.drawn, tk', s.os⟩) :
    codeAny (model Challenge.rw_rl0081_01.row.prog w) (Around.mk none dp fr gd un) (.call (.ref 38) ⟨[.ref x, .str ws t2], []⟩) R s := by
  have hT := H.T
  have hX := H.X
  revert hX
  k_fill
  intro hX
  refine' enterX ?kG ?k6 ?k7 ?k8 ?k9 ?kB ?_ ?c2 ?c3 ?c4 ?c5; (case kG => exact H); (case k6 => k_is); (case k7 => k_is); (case k8 => (show dp < recursionLimit; omega)); (case k9 => exact BindsTo.of_eq rfl); (case c5 => decide); (case kB => exact locs rfl); (case c2 => exact rfl); (case c3 => exact rfl); (case c4 => exact rfl)
  intro L' h' F' N' l1; (try dsimp only)
  replace hne := ltN hne
  refine initA (f := 38) (bd4 := (bodyAt 1 (bodyAt 2 mainB)).drop 4) rfl rfl rfl hT hX hne (Fr.pin F' ⟨rfl, rfl, trivial⟩) N' ?_
  intro h1 tk1 D tb tn tt tS tT k1 m1 F1 N2 hxD hdD
  refine wpAny_execs_cons ?_
  refine For_W ?_
  k_steps
  refine' iterB_str (J := initJ ws x ?rest) (Jb := initE ws x ?rest) rfl rfl rfl F1 N2 ?_ ?_ ?_ ?_
  rotate_left
  · refine' ⟨⟨0, 0, 0, []⟩, _, [], 0, _, _, _, _, _, _, rfl, Nat.le_refl _, Nat.zero_le _, rfl, rfl, .nil, ?_⟩
    exact List.forall_mem_cons.mpr ⟨hxD, List.forall_mem_cons.mpr ⟨hdD, List.forall_mem_nil _⟩⟩
  · rintro m₁ news₁ ⟨σ, D, vs, kk, tb, tn, tt, tS, tT, m₂, hgo, hb1, hc1, rfl, rfl, hvs, hD⟩
    have e : σ = wOf ws := by
      rw [List.drop_eq_nil_of_le (by simp [Str.length]), wgo] at hgo
      exact hgo
    subst e
    exact ⟨D, vs, kk, tb, tn, tt, tS, tT, m₂, hb1, hc1, rfl, rfl, hvs, hD⟩
  · rintro i c t m₁ news₁ h tk g' oI I hI hb hc ⟨σ, D, vs, kk, tb, tn, tt, tS, tT, m₂, hgo, hb1, hc1, rfl, rfl, hvs, hD⟩ hn F2 N3
    exact initT rfl rfl hT hX hg hne hc hgo hb1 hc1 hvs hD hn F2 N3
  · rintro m₁ news₁ h tk g' hb ⟨D, vs, kk, tb, tn, tt, tS, tT, m₂, hb1, hc1, rfl, rfl, hvs, hD⟩ F2 N3
    refine initZ (s := ⟨h, g', s.drawn, tk, s.os⟩) (f := 38) (D := D) rfl rfl hT hX hne (hD _ (.head _)) (Nat.le_trans hc1 (Nat.succ_le_succ hg)) hvs F2 N3 ?_
    intro h9 tk9 m9 p px pdx pσ pvs F9 N9 la lb
    clear F1 N2 F2 N3
    subst px pdx
    have e1 := (N9 (p.x, instObj 83 p.dx) (.head _)).1
    have f3 := (N9 (p.an, _) (.tail _ (.tail _ (.head _)))).2.2
    have f4 := (N9 (p.at', _) (.tail _ (.tail _ (.tail _ (.head _))))).2.2
    have new : ∀ a : Addr, g.get? a = none → @LT.lt Nat _ p.x a → s.heap.get? a = none := by
      intro a ha hx
      cases q : s.heap.get? a with
      | none => rfl
      | some o =>
        have z := H.all a o q (by
          intro hm
          simp only [List.map_cons, List.map_nil, List.mem_cons, List.not_mem_nil, or_false] at hm
          rcases hm with rfl | rfl
          · exact absurd hx (Nat.lt_irrefl _)
          · exact absurd hx (Nat.lt_asymm hne))
        rw [ha] at z
        cases z
    refine hret _ _ _ p rfl rfl ⟨pσ, by rw [pvs, pσ]; exact hvs, hne, la, lb, ?_, ?_⟩ (fun q hq => (N9 q hq).1) (new _ f3 (Nat.lt_trans la lb)) (new _ f4 la) ?_ hb
    · rw [pσ]; exact Nat.le_trans hb1 hg
    · rw [pσ]; exact Nat.le_trans hc1 (Nat.succ_le_succ hg)
    · intro b o hbd hbo
      by_cases hbx : b = p.x
      · subst hbx
        rw [H.get _ (.head _)] at hbo
        cases hbo
        exact e1
      · exact F9.keep b o (H.all b o hbo (by simp [hbx, hbd]))
end
end Mine81
namespace Mine81
section
local macro_rules
  | `(tactic| walk_at "exec For Name Call cons nil") => `(tactic| refine stop_ ?_)
  | `(tactic| walk_at "call builtin:len") => `(tactic| refine stopL ?_)
  | `(tactic| walk_at "subscriptTail") => `(tactic| refine stop_ ?_)
  | `(tactic| walk_at "binaryOp Mult int int") => `(tactic| refine stop_ ?_)
theorem mulB {prog : Program} {w : World} {A : Around} {E : Value → Shared → Prop} {s : Shared} {a b : Int} {t u : Tok} {Q : Value → Shared → Prop} (h1 : -1000000 ≤ a) (h2 : a ≤ 1000000) (h : Q (.int (a * b) s.toks) { s with toks := s.toks + 1 }) : wpAny (model prog w) A (binaryOp .Mult (.int a t) (.int b u)) Q E s :=
  PyProof.Rows.mul_int h (IntMulOk.of_left (intBits_le_64 (by omega) (by omega)))
theorem fdiv_bound {a b : Int} (h0 : 0 ≤ a) (h1 : a ≤ 3000) (hb : 1 ≤ b) : 0 ≤ a.fdiv b ∧ a.fdiv b ≤ 3000 := by
  rw [Int.fdiv_eq_ediv_of_nonneg _ (by omega)]
  constructor
  · exact Int.ediv_nonneg h0 (by omega)
  · exact Int.le_trans (Int.ediv_le_self _ h0) h1
noncomputable def longF (σ : WS) : Int := max ((σ.cs.length : Int) - 1) σ.b
theorem long81 {w : World} {mean : ExcName → Option Value} {mg mb : Str → Option Value} {dp un : Nat} {fr : Option (List Env)} {gd : Option (List Code)} {s : Shared} {Q E : Value → Shared → Prop} {ws : Str} {p : WP} {g : Heap} (hp : p.Ok ws)
    (H : Hid w mean mg mb s (p.own w) g) (hA : dp + 1 < recursionLimit) (hu : un + 8 < cLine)
    (hret : ∀ t s', Keep s s' → Q (.int (longF p.σ) t) s') :
    wpAny (model Challenge.rw_rl0081_01.row.prog w) (Around.mk none dp fr gd un) (call (.ref 45) [.ref p.x]) Q E s := by
  have hT := H.T
  have hX := H.X
  have hl1 := ltN hp.l1
  have hl2 := ltN hp.l2
  have hl3 := ltN hp.l3
  have hI := hp.hi
  have hb9 := hp.b
  have hc9 := hp.cs
  revert hX
  k_fill
  intro hX
  refine' enterH ?kG ?k6 ?k7 ?k8 ?k9 ?kB ?_ ?c2 ?c3 ?c4 ?c5; (case kG => exact H); (case k6 => k_is); (case k7 => k_is); (case k8 => (show dp < recursionLimit; omega)); (case k9 => exact BindsTo.of_eq rfl); (case c5 => decide); (case kB => exact locs rfl); (case c2 => exact rfl); (case c3 => exact rfl); (case c4 => exact rfl)
  intro L' h' F' N' l1; (try dsimp only [WP.own] at N' l1); (try k_lt l1); (try dsimp only)
  k_steps
  ((refine' lenT ?N ?m ?i ?z ?_; (case N => k_asm); (case m => k_mem); (case i => assumption); (case z => omega)); intro _ _; k_steps)
  rename Fr _ _ _ _ => F9
  rename News _ _ _ _ => N9
  have e : longF p.σ = if (p.σ.b : Int) > (p.σ.cs.length : Int) - 1 then (p.σ.b : Int) else (p.σ.cs.length : Int) - 1 := by
    unfold longF
    split <;> omega
  rw [← e]
  exact hret _ _ ⟨H.keep F9 N9 (fun _ h => h), rfl, rfl, id⟩
noncomputable def ilF (ts : Int) (cs : List Int) : Nat → Int
  | 0 => 0
  | k + 1 => ilF ts cs k + Int.fdiv (ts + k) ts * cs.getD (ts + k).toNat 0
noncomputable def indF (σ : WS) (ts : Int) : Int := σ.b + ts * (ilF ts σ.cs (σ.cs.length - ts).toNat + σ.nt)
noncomputable def indL (p : WP) (ts : Int) (i : Nat) (til tts : Tok) : List (Str × Value) :=
  [(Str.ofString "il", .int (ilF ts p.σ.cs i) til), (Str.ofString "count", .ref p.at'), (Str.ofString "trailing", .int p.σ.b p.tb), (Str.ofString "tabsize", .int ts tts), (Str.ofString "self", .ref p.x)]
noncomputable def indJ (p : WP) (ts : Int) (w : World) (i : Nat) (m : Str → Option Value) (news : List (Addr × Obj)) : Prop :=
  ∃ (til tts : Tok) (m₁ : Str → Option Value), m = pinM (indL p ts i til tts) m₁ ∧ news = p.own w
theorem ind81 {w : World} {mean : ExcName → Option Value} {mg mb : Str → Option Value} {dp un : Nat} {fr : Option (List Env)} {gd : Option (List Code)} {s : Shared} {Q E : Value → Shared → Prop} {ws : Str} {p : WP} {g : Heap} {ts : Int} {t0 : Tok} (hp : p.Ok ws) (hts : 1 ≤ ts) (hts' : ts ≤ 100)
    (H : Hid w mean mg mb s (p.own w) g) (hA : dp + 1 < recursionLimit) (hu : un + 8 < cLine)
    (hret : ∀ t s', Keep s s' → Q (.int (indF p.σ ts) t) s') :
    wpAny (model Challenge.rw_rl0081_01.row.prog w) (Around.mk none dp fr gd un) (call (.ref 52) [.ref p.x, .int ts t0]) Q E s := by
  have hT := H.T
  have hX := H.X
  have hl1 := ltN hp.l1
  have hl2 := ltN hp.l2
  have hl3 := ltN hp.l3
  have hI := hp.hi
  have hb9 := hp.b
  have hc9 := hp.cs
  revert hX
  k_fill
  intro hX
  refine' enterH ?kG ?k6 ?k7 ?k8 ?k9 ?kB ?_ ?c2 ?c3 ?c4 ?c5; (case kG => exact H); (case k6 => k_is); (case k7 => k_is); (case k8 => (show dp < recursionLimit; omega)); (case k9 => exact BindsTo.of_eq rfl); (case c5 => decide); (case kB => exact locs rfl); (case c2 => exact rfl); (case c3 => exact rfl); (case c4 => exact rfl)
  intro L' h' F' N' l1; (try dsimp only [WP.own] at N' l1); (try k_lt l1); (try dsimp only)
  k_steps
  refine For_W ?_
  k_steps
  ((refine' lenT ?N ?m ?i ?z ?_; (case N => k_asm); (case m => k_mem); (case i => assumption); (case z => omega)); intro _ _; k_steps)
  rename Fr _ _ _ _ => F1
  rename News _ _ _ _ => N1
  refine iterW_range (J := indJ p ts w) rfl rfl rfl (by assumption) (rng_small (by omega) (by omega) (by omega) (by omega)) (rng_size _ _) F1 N1 ?_ ?_ ?_
  · exact ⟨_, _, _, pin_self ⟨rfl, rfl, rfl, rfl, rfl, trivial⟩, rfl⟩
  · rintro i t m₁ news₁ h tk g' oI I hI hb hi ⟨til, tts, m₂, rfl, rfl⟩ hn F2 N3
    dsimp only [indL, pinM] at F2
    dsimp only [WP.own] at N3
    clear N1 F1
    simp only [List.cons_append, List.nil_append] at N3
    have hq := fdiv_bound (a := ts + (i : Int)) (b := ts) (by omega) (by omega) hts
    k_steps
    ((refine' subT ?N ?m ?i ?a ?b ?z ?_ ?k7; (case N => k_asm); (case m => k_mem); (case i => assumption); (case a => omega); (case b => omega); (case z => omega); (case k7 => with_unfolding_all rfl)); intro _; k_steps)
    ((refine' mulB ?a ?b ?_; (case a => omega); (case b => omega)); k_steps)
    rename Fr _ _ _ _ => F9
    rename News _ _ _ _ => N9
    exact StepW.next _ F9 N9 (by k_mem) (by kcj_all) hn ⟨_, _, _, pin_self ⟨rfl, rfl, rfl, rfl, rfl, trivial⟩, rfl⟩
  · rintro m₁ news₁ h tk g' hb ⟨til, tts, m₂, rfl, rfl⟩ F2 N3
    dsimp only [indL, pinM] at F2
    dsimp only [WP.own] at N3
    clear N1 F1
    dsimp only
    k_steps
    ((refine' mulB ?a ?b ?_; (case a => omega); (case b => omega)); k_steps)
    rename Fr _ _ _ _ => F9
    rename News _ _ _ _ => N9
    exact hret _ _ ⟨H.keep F9 N9 (fun _ h => h), rfl, rfl, hb⟩
end
end Mine81
namespace Mine81
section
local macro_rules | `(tactic| walk_at "zz") => `(tactic| skip)
local macro_rules | `(tactic| walk_at "zz") => `(tactic| skip)
section
variable {w : World} {mean : ExcName → Option Value} {mg mb : Str → Option Value} {dp un : Nat} {fr : Option (List Env)} {gd : Option (List Code)} {s : Shared} {Q E : Value → Shared → Prop} {ws : Str} {p : WP} {g : Heap} {L : Addr} {m : Str → Option Value} {news : List (Addr × Obj)}
theorem hid_news {own : List (Addr × Obj)} (F : Fr g L s.heap m) (N : News g L s.heap news) (T : Top hd.view_39 (looseW hd.view_39 [Str.ofString "Whitespace"]) mean mg mb g) (X : (hd.heap_39 w.params).In g) (hs : ∀ e ∈ own, e ∈ news) :
    Hid w mean mg mb s own (hideAll s.heap (own.map (·.1))) :=
  hid_of ⟨T, X⟩ F.keep fun e he => ⟨(N e (hs e he)).1, (N e (hs e he)).2.2⟩
theorem keep_eta {s s' : Shared} (k : Keep s s') : s' = ⟨s'.heap, s'.gens, s.drawn, s'.toks, s.os⟩ := by
  obtain ⟨h, g, d, t, o⟩ := s'
  obtain ⟨_, h1, h2, _⟩ := k
  simp only at h1 h2
  subst h1 h2
  rfl
theorem ind81K {ts : Int} {t0 : Tok} (F : Fr g L s.heap m) (N : News g L s.heap news) (T : Top hd.view_39 (looseW hd.view_39 [Str.ofString "Whitespace"]) mean mg mb g) (X : (hd.heap_39 w.params).In g) (hp : p.Ok ws) (hs : ∀ e ∈ p.own w, e ∈ news)
    (hts : 1 ≤ ts) (hts' : ts ≤ 100) (hA : dp + 1 < recursionLimit) (hu : un + 8 < cLine)
    (hret : ∀ t h' tk g', Fr g L h' m → News g L h' news → (AllBare s.gens → AllBare g') → Q (.int (indF p.σ ts) t) ⟨h', g', s.drawn, tk, s.os⟩) :
    wpAny (model Challenge.rw_rl0081_01.row.prog w) (Around.mk none dp fr gd un) (call (.ref 52) [.ref p.x, .int ts t0]) Q E s :=
  ind81 hp hts hts' (hid_news F N T X hs) hA hu fun t s' k => by
    rw [keep_eta k]
    exact hret t _ _ _ (Fr.keeps' F k.heap) (News.keeps' N k.heap) k.bare
theorem long81K (F : Fr g L s.heap m) (N : News g L s.heap news) (T : Top hd.view_39 (looseW hd.view_39 [Str.ofString "Whitespace"]) mean mg mb g) (X : (hd.heap_39 w.params).In g) (hp : p.Ok ws) (hs : ∀ e ∈ p.own w, e ∈ news)
    (hA : dp + 1 < recursionLimit) (hu : un + 8 < cLine)
    (hret : ∀ t h' tk g', Fr g L h' m → News g L h' news → (AllBare s.gens → AllBare g') → Q (.int (longF p.σ) t) ⟨h', g', s.drawn, tk, s.os⟩) :
    wpAny (model Challenge.rw_rl0081_01.row.prog w) (Around.mk none dp fr gd un) (call (.ref 45) [.ref p.x]) Q E s :=
  long81 hp (hid_news F N T X hs) hA hu fun t s' k => by
    rw [keep_eta k]
    exact hret t _ _ _ (Fr.keeps' F k.heap) (News.keeps' N k.heap) k.bare
end
local macro_rules
  | `(tactic| walk_at "exec For Name Call cons nil") => `(tactic| refine stop_ ?_)
  | `(tactic| walk_at "call ref") => `(tactic| refine stop_ ?_)
inductive All2 {α β : Type} (P : α → β → Prop) : List α → List β → Prop where
  | nil : All2 P [] []
  | cons {a : α} {b : β} {l : List α} {m : List β} : P a b → All2 P l m → All2 P (a :: l) (b :: m)
theorem All2.snoc {α β : Type} {P : α → β → Prop} {a : α} {b : β} : ∀ {l : List α} {m : List β}, All2 P l m → P a b → All2 P (l ++ [a]) (m ++ [b])
  | _, _, .nil, h => .cons h .nil
  | _, _, .cons x y, h => .cons x (y.snoc h)
theorem All2.mono {α β : Type} {P P' : α → β → Prop} (f : ∀ a b, P a b → P' a b) : ∀ {l : List α} {m : List β}, All2 P l m → All2 P' l m
  | _, _, .nil => .nil
  | _, _, .cons x y => .cons (f _ _ x) (y.mono f)
theorem All2.len {α β : Type} {P : α → β → Prop} : ∀ {l : List α} {m : List β}, All2 P l m → l.length = m.length
  | _, _, .nil => rfl
  | _, _, .cons _ y => by rw [List.length_cons, List.length_cons, y.len]
noncomputable abbrev tup3 (a b c : Int) (t u v : Tok) : Obj := { cls := .type "tuple", data := .seq #[.int a t, .int b u, .int c v] }
/-- a value that is a made triple of ints -/
noncomputable def TupV (tl : List (Addr × Obj)) (v : Value) (r : Int × Int × Int) : Prop := ∃ a t1 t2 t3, v = .ref a ∧ (a, tup3 r.1 r.2.1 r.2.2 t1 t2 t3) ∈ tl
noncomputable def neRows (σ τ : WS) : Nat → List (Int × Int × Int)
  | 0 => []
  | k + 1 => neRows σ τ k ++ if indF σ (1 + (k : Int)) = indF τ (1 + (k : Int)) then [] else [(1 + (k : Int), indF σ (1 + (k : Int)), indF τ (1 + (k : Int)))]
theorem neRows_len (σ τ : WS) : ∀ k, (neRows σ τ k).length ≤ k
  | 0 => Nat.le_refl _
  | k + 1 => by
    have := neRows_len σ τ k
    rw [neRows, List.length_append]
    split <;> simp <;> omega
theorem neN' {a b : Nat} (h : a ≠ b) : a ≠ b := h
noncomputable def neN (σ τ : WS) : Int := (if longF τ > longF σ then longF τ else longF σ) + 1
noncomputable def neL (p q : WP) (D : Addr) : List (Str × Value) := [(Str.ofString "a", .ref D), (Str.ofString "self", .ref p.x), (Str.ofString "other", .ref q.x)]
noncomputable def neJ (p q : WP) (w : World) (D : Addr) (i : Nat) (m : Str → Option Value) (news : List (Addr × Obj)) : Prop :=
  ∃ (vs : List Value) (kk : Nat) (tl : List (Addr × Obj)) (m₁ : Str → Option Value), m = pinM (neL p q D) m₁ ∧ news = (D, W.listOf vs.toArray kk) :: (p.own w ++ q.own w ++ tl) ∧ All2 (TupV tl) vs (neRows p.σ q.σ i) ∧ (∀ e ∈ tl, @LT.lt Nat _ D e.1)
theorem neT {w : World} {mean : ExcName → Option Value} {mg mb : Str → Option Value} {dp un : Nat} {fr : Option (List Env)} {gd : Option (List Code)} {s : Shared} {Q : Flow → Shared → Prop} {ws ws' : Str} {p q : WP} {g : Heap} {L f D I : Addr} {cd : Value} {m : Str → Option Value} {oI : Obj} {vs : List Value} {kk : Nat} {tl : List (Addr × Obj)} {i : Nat} {t : Tok} {sc : Scope} {bd : List Stmt} (hsc : sc = scopeIn 5 (bodyAt 2 mainB)) (hbd : bd = bodyAt 2 (bodyAt 5 (bodyAt 2 mainB)))
    (hT : Top hd.view_39 (looseW hd.view_39 [Str.ofString "Whitespace"]) mean mg mb g) (hX : (hd.heap_39 w.params).In g) (hp : p.Ok ws) (hq : q.Ok ws') (hA : dp + 3 < recursionLimit) (hu : un + 20 < cLine) (hi' : i < 60) (hI1 : @LT.lt Nat _ D I) (hlt : ∀ e ∈ p.own w ++ q.own w, e.1 < D)
    (hA2 : All2 (TupV tl) vs (neRows p.σ q.σ i)) (hne : ∀ e ∈ tl, @LT.lt Nat _ D e.1) (hn : ∀ e ∈ (D, W.listOf vs.toArray kk) :: (p.own w ++ q.own w ++ tl), e.1 ≠ I)
    (F2 : Fr g L s.heap (pinM ((Str.ofString "ts", .int (1 + (i : Int)) t) :: neL p q D) m)) (N3 : News g L s.heap ((D, W.listOf vs.toArray kk) :: (p.own w ++ q.own w ++ tl) ++ [(I, oI)])) :
    wpAny (model Challenge.rw_rl0081_01.row.prog w) ((Around.mk none dp fr gd un).deeper (envOf (Str.ofString "Whitespace.not_equal_witness") sc L f cd)) (execs bd (envOf (Str.ofString "Whitespace.not_equal_witness") sc L f cd)) (StepW g L I oI (neJ p q w D (i + 1)) Q s) NoE s := by
  conv at hsc => rhs; whnf
  conv at hbd => rhs; whnf
  subst hsc hbd
  revert hX
  k_fill
  intro hX
  replace hlt := allLt_of hlt
  simp only [WP.own, List.cons_append, List.nil_append, AllLt, and_true] at hlt
  have hb9 := hp.b
  have hc9 := hp.cs
  have hb8 := hq.b
  have hc8 := hq.cs
  have hvl : vs.length ≤ 60 := by have := hA2.len; have := neRows_len p.σ q.σ i; omega
  have hnI := hn _ (.head _)
  have hOff : OwnOff tl [D] := fun e he b hb => by rw [List.mem_singleton.mp hb]; exact Nat.ne_of_gt (hne e he)
  have N4 : News g L s.heap ((D, W.listOf vs.toArray kk) :: (I, oI) :: (p.own w ++ q.own w ++ tl)) := by
    refine cb_drop N3 ?_
    intro e he
    rcases List.mem_cons.mp he with rfl | he
    · exact .head _
    · rcases List.mem_cons.mp he with rfl | he
      · exact List.mem_append_right _ (.head _)
      · exact List.mem_append_left _ (.tail _ he)
  clear N3
  simp only [WP.own, List.cons_append, List.nil_append] at N4
  have hnI' := neN' hnI
  dsimp only at hnI'
  k_steps
  repeat' (refine' ind81K (by k_asm) (by k_asm) (by k_asm) (by k_asm) (by assumption) (by dsimp only [WP.own]; kcj_all) (by omega) (by omega) (by simp only [depth_deeper]; omega) (by simp only [units_deeper]; omega) ?_; intro _ _ _ _ _ _ _; k_steps)
  · rename Fr _ _ _ _ => F9
    rename News _ _ _ _ => N9
    rename_i b3 _ _ _ _ b2 ha tA _ _ _ b1 tB _ _ _ b0 D2 _ lD2 _
    rw [List.push_toArray] at N9
    have lD3 := lD2.1
    have lI3 := lD2.2.1
    refine StepW.next ((D, W.listOf (vs ++ [Value.ref D2]).toArray (kk + 1)) :: (p.own w ++ q.own w ++ (D2, tup3 (1 + (i : Int)) (indF p.σ (1 + (i : Int))) (indF q.σ (1 + (i : Int))) t tA tB) :: tl)) F9 N9 (.tail _ (.tail _ (.head _))) ?_ ?_ ⟨_, _, _, _, pin_self ⟨rfl, rfl, rfl, trivial⟩, rfl, ?_, ?_⟩ (fun z => b0 (b1 (b2 (b3 z))))
    · intro e he
      rcases List.mem_cons.mp he with rfl | he
      · exact .tail _ (.head _)
      · rcases List.mem_append.mp he with he | he
        · exact .tail _ (.tail _ (.tail _ (show e ∈ p.own w ++ q.own w ++ tl from List.mem_append_left _ he)))
        · rcases List.mem_cons.mp he with rfl | he
          · exact .head _
          · exact .tail _ (.tail _ (.tail _ (show e ∈ p.own w ++ q.own w ++ tl from List.mem_append_right _ he)))
    · intro e he
      rcases List.mem_cons.mp he with rfl | he
      · exact hnI
      · rcases List.mem_append.mp he with he | he
        · exact hn _ (.tail _ (List.mem_append_left _ he))
        · rcases List.mem_cons.mp he with rfl | he
          · exact Nat.ne_of_gt lI3
          · exact hn _ (.tail _ (List.mem_append_right _ he))
    · rw [neRows, if_neg ha]
      exact (hA2.mono fun a b ⟨ad, t1, t2, t3, e, hm⟩ => ⟨ad, t1, t2, t3, e, .tail _ hm⟩).snoc ⟨D2, _, _, _, rfl, .head _⟩
    · intro e he
      rcases List.mem_cons.mp he with rfl | he
      · exact lD3
      · exact hne e he
  · rename_i b1 _ _ _ _ F9 N9 b0 ha
    refine StepW.next ((D, W.listOf vs.toArray kk) :: (p.own w ++ q.own w ++ tl)) F9 N9 (.tail _ (.head _)) ?_ hn ⟨_, _, _, _, pin_self ⟨rfl, rfl, rfl, trivial⟩, rfl, ?_, hne⟩ (fun z => b0 (b1 z))
    · intro e he
      rcases List.mem_cons.mp he with rfl | he
      · exact .head _
      · exact .tail _ (.tail _ he)
    · rw [neRows, if_pos ha, List.append_nil]
      exact hA2
theorem ne81 {w : World} {mean : ExcName → Option Value} {mg mb : Str → Option Value} {dp un : Nat} {fr : Option (List Env)} {gd : Option (List Code)} {s : Shared} {Q E : Value → Shared → Prop} {ws ws' : Str} {p q : WP} {g : Heap} (hp : p.Ok ws) (hq : q.Ok ws')
    (hlp : longF p.σ ≤ 50) (hlq : longF q.σ ≤ 50)
    (H : Hid w mean mg mb s (p.own w ++ q.own w) g) (hA : dp + 3 < recursionLimit) (hu : un + 20 < cLine)
    (hret : ∀ h' tk' g' D vs kk tl, All2 (TupV tl) vs (neRows p.σ q.σ (neN p.σ q.σ).toNat) → (∀ e ∈ (D, W.listOf vs.toArray kk) :: tl, h'.get? e.1 = some e.2 ∧ s.heap.get? e.1 = none) → (∀ e ∈ tl, @LT.lt Nat _ D e.1) →
      (∀ b o, s.heap.get? b = some o → h'.get? b = some o) → (AllBare s.gens → AllBare g') → Q (.ref D) ⟨h', g', s.drawn, tk', s.os⟩) :
    wpAny (model Challenge.rw_rl0081_01.row.prog w) (Around.mk none dp fr gd un) (call (.ref 66) [.ref p.x, .ref q.x]) Q E s := by
  have hT := H.T
  have hX := H.X
  have hb9 := hp.b
  have hc9 := hp.cs
  have hb8 := hq.b
  have hc8 := hq.cs
  revert hX
  k_fill
  intro hX
  refine' enterH ?kG ?k6 ?k7 ?k8 ?k9 ?kB ?_ ?c2 ?c3 ?c4 ?c5; (case kG => exact H); (case k6 => k_is); (case k7 => k_is); (case k8 => (show dp < recursionLimit; omega)); (case k9 => exact BindsTo.of_eq rfl); (case c5 => decide); (case kB => exact locs rfl); (case c2 => exact rfl); (case c3 => exact rfl); (case c4 => exact rfl)
  intro L' h' F' N' l1; (try simp only [WP.own, List.cons_append, List.nil_append] at N' l1); (try k_lt l1); (try dsimp only)
  k_steps
  iterate 2 (refine' long81K (by k_asm) (by k_asm) (by k_asm) (by k_asm) (by assumption) (by dsimp only [WP.own]; kcj_all) (by simp only [depth_deeper]; omega) (by simp only [units_deeper]; omega) ?_; intro _ _ _ _ _ _ _; k_steps)
  refine For_W ?_
  k_steps
  rename Fr _ _ _ _ => F1
  rename News _ _ _ _ => N1
  have hN : -1000 ≤ neN p.σ q.σ ∧ neN p.σ q.σ ≤ 51 := by unfold neN longF at *; split <;> omega
  rename_i hb1 _ _ _ _ hb0 _ _ _ _ D hh0 lD hh1 F0 N0 hh2 tk2 t1 u1 v1 hR hk
  clear F0 N0 hk
  have hlt : ∀ e ∈ p.own w ++ q.own w, e.1 < D := by
    obtain ⟨a1, a2, a3, a4, a5, a6, a7, a8⟩ := lD
    simp only [WP.own, List.cons_append, List.nil_append, List.forall_mem_cons]
    exact ⟨a1, a2, a3, a4, a5, a6, a7, a8, List.forall_mem_nil _⟩
  refine iterW_range (J := neJ p q w D) rfl rfl rfl (by assumption) (rng_small (by omega) (by omega) (show _ ≤ neN p.σ q.σ + 1 by omega) (show neN p.σ q.σ + 1 ≤ _ by omega)) (rng_size _ _) F1 N1 ?_ ?_ ?_
  · refine ⟨[], 0, [], _, pin_self ⟨rfl, rfl, rfl, trivial⟩, ?_, .nil, fun _ h => nomatch h⟩
    simp only [WP.own, List.cons_append, List.nil_append, List.append_nil]
  · rintro i t m₁ news₁ h tk g' oI I hI hb hi ⟨vs, kk, tl, m₂, rfl, rfl, hA2, hne⟩ hn F2 N3
    exact neT rfl rfl hT hX hp hq hA hu (by have : i < (neN p.σ q.σ + 1 - 1).toNat := hi; omega) (hI _ (.head _)) hlt hA2 hne hn F2 N3
  · rintro m₁ news₁ h tk g' hb ⟨vs, kk, tl, m₂, rfl, rfl, hA2, hne⟩ F2 N3
    dsimp only [neL, pinM] at F2
    clear N1 F1
    dsimp only
    k_steps
    have en : (neN p.σ q.σ + 1 - 1).toNat = (neN p.σ q.σ).toNat := by omega
    replace hA2 : All2 (TupV tl) vs (neRows p.σ q.σ (neN p.σ q.σ + 1 - 1).toNat) := hA2
    rw [en] at hA2
    have out : ∀ a : Addr, a ∈ (p.own w ++ q.own w).map (·.1) → @LT.lt Nat _ a D := by
      intro a ha
      simp only [WP.own, List.cons_append, List.nil_append, List.map_cons, List.map_nil, List.mem_cons, List.not_mem_nil, or_false] at ha
      rcases ha with rfl | rfl | rfl | rfl | rfl | rfl | rfl | rfl <;> omega
    have new : ∀ a : Addr, g.get? a = none → @LE.le Nat _ D a → s.heap.get? a = none := by
      intro a ha hx
      cases q' : s.heap.get? a with
      | none => rfl
      | some o =>
        have z := H.all a o q' (fun hm => absurd (out a hm) (Nat.not_lt.mpr hx))
        rw [ha] at z
        cases z
    refine hret h tk g' D vs kk tl hA2 ?_ hne (H.keep F2 N3 fun e he => .tail _ (List.mem_append_left _ he)) ?_
    · intro e he
      rcases List.mem_cons.mp he with rfl | he
      · exact ⟨(N3 _ (.head _)).1, new _ (N3 _ (.head _)).2.2 (Nat.le_refl _)⟩
      · have z := N3 e (.tail _ (List.mem_append_right _ he))
        exact ⟨z.1, new _ z.2.2 (Nat.le_of_lt (hne e he))⟩
    · exact fun z => hb (hb0 (hb1 z))
end
end Mine81
namespace Mine81
section
section
variable {w : World} {mean : ExcName → Option Value} {mg mb : Str → Option Value} {dp un : Nat} {fr : Option (List Env)} {gd : Option (List Code)} {s : Shared} {Q E : Value → Shared → Prop} {ws : Str} {g : Heap} {L : Addr} {m : Str → Option Value} {news : List (Addr × Obj)}
theorem new81K {t : Tok} (F : Fr g L s.heap m) (N : News g L s.heap news) (T : Top hd.view_39 (looseW hd.view_39 [Str.ofString "Whitespace"]) mean mg mb g) (X : (hd.heap_39 w.params).In g)
    (hw : ws.length ≤ 1000) (hA : dp + 5 < recursionLimit) (hu : un + 20 < cLine)
    (hret : ∀ (p : WP) h' tk g', p.Ok ws → Fr g L h' m → News g L h' (p.own w ++ news) → (∀ e ∈ news, e.1 < p.dx) → (AllBare s.gens → AllBare g') → Q (.ref p.x) ⟨h', g', s.drawn, tk, s.os⟩) :
    wpAny (model Challenge.rw_rl0081_01.row.prog w) (Around.mk none dp fr gd un) (call (.ref 83) [.str ws t]) Q E s := by
  revert X
  k_fill
  intro X
  refine call_cls (fI := 38) F X N (by k_is) (by k_is) (by k_is) fun x dx h' F' N' l1 l2 => ?_
  refine init81 (s := { s with heap := h' }) l2 hw (hid_news (s := { s with heap := h' }) F' N' T X ?_) ?_ ?_ ?_
  · intro e he
    rcases List.mem_cons.mp he with rfl | he
    · exact .head _
    · rw [List.mem_singleton.mp he]; exact .tail _ (.head _)
  · exact (show dp + 1 + 1 < recursionLimit by omega)
  · exact (show un + 1 + 8 < cLine by omega)
  · intro h'' tk' g' p hx hdx hp hown hn1 hn2 hk hb
    refine ⟨rfl, ?_⟩
    show Q (.ref x) _
    rw [← hx]
    have Nx := N' _ (.head _)
    have Nd := N' _ (.tail _ (.head _))
    have gnone : ∀ a : Addr, h'.get? a = none → g.get? a = none := fun a ha => by
      cases q : g.get? a with
      | none => rfl
      | some o => rw [F'.keep a o q] at ha; cases ha
    have gL : ∀ a : Addr, h'.get? a = none → a ≠ L := fun a ha e => by
      obtain ⟨oL, _, _, hL, _⟩ := F'.ns
      rw [e, hL] at ha; cases ha
    refine hret p h'' tk' g' hp ⟨F'.ns.at' fun o e => hk _ o ?_ e, fun b o e => hk b o ?_ (F'.keep b o e), F'.above⟩ ?_ ?_ hb
    · exact fun e => Nd.2.1 e.symm
    · rintro rfl
      rw [Nd.2.2] at e; cases e
    · intro e he
      rcases List.mem_append.mp he with he | he
      · refine ⟨hown e he, ?_⟩
        rcases List.mem_cons.mp he with rfl | he
        · show p.x ≠ L ∧ g.get? p.x = none
          rw [hx]; exact ⟨Nx.2.1, Nx.2.2⟩
        · rcases List.mem_cons.mp he with rfl | he
          · show p.dx ≠ L ∧ g.get? p.dx = none
            rw [hdx]; exact ⟨Nd.2.1, Nd.2.2⟩
          · rcases List.mem_cons.mp he with rfl | he
            · exact ⟨gL _ hn1, gnone _ hn1⟩
            · rw [List.mem_singleton.mp he]
              exact ⟨gL _ hn2, gnone _ hn2⟩
      · have z := N' e (.tail _ (.tail _ he))
        exact ⟨hk _ _ (Nat.ne_of_lt (l1 e he)) z.1, z.2⟩
    · rw [hdx]; exact l1
theorem ne81K {ws' : Str} {p q : WP} (F : Fr g L s.heap m) (N : News g L s.heap news) (T : Top hd.view_39 (looseW hd.view_39 [Str.ofString "Whitespace"]) mean mg mb g) (X : (hd.heap_39 w.params).In g)
    (hp : p.Ok ws) (hq : q.Ok ws') (hlp : longF p.σ ≤ 50) (hlq : longF q.σ ≤ 50) (h1 : ∀ e ∈ p.own w, e ∈ news) (h2 : ∀ e ∈ q.own w, e ∈ news) (hA : dp + 3 < recursionLimit) (hu : un + 20 < cLine)
    (hret : ∀ h' tk' g' D vs kk tl, All2 (TupV tl) vs (neRows p.σ q.σ (neN p.σ q.σ).toNat) → Fr g L h' m → News g L h' ((D, W.listOf vs.toArray kk) :: (news ++ tl)) → (AllBare s.gens → AllBare g') → Q (.ref D) ⟨h', g', s.drawn, tk', s.os⟩) :
    wpAny (model Challenge.rw_rl0081_01.row.prog w) (Around.mk none dp fr gd un) (call (.ref 66) [.ref p.x, .ref q.x]) Q E s := by
  refine ne81 hp hq hlp hlq (hid_news (own := p.own w ++ q.own w) F N T X fun e he => (List.mem_append.mp he).elim (h1 e) (h2 e)) hA hu fun h' tk' g' D vs kk tl hA2 hnew _ hk hb => ?_
  have F' : Fr g L h' m := Fr.keeps' F hk
  have N' : News g L h' news := News.keeps' N hk
  have one : ∀ e ∈ (D, W.listOf vs.toArray kk) :: tl, h'.get? e.1 = some e.2 ∧ e.1 ≠ L ∧ g.get? e.1 = none := fun e he => by
    obtain ⟨z1, z2⟩ := hnew e he
    refine ⟨z1, fun q => ?_, ?_⟩
    · obtain ⟨oL, _, _, hL, _⟩ := F.ns
      rw [q, hL] at z2; cases z2
    · cases q : g.get? e.1 with
      | none => rfl
      | some o => rw [F.keep _ o q] at z2; cases z2
  refine hret h' tk' g' D vs kk tl hA2 F' (fun e he => ?_) hb
  rcases List.mem_cons.mp he with rfl | he
  · exact one _ (.head _)
  · rcases List.mem_append.mp he with he | he
    · exact N' e he
    · exact one e (.tail _ he)
end
end
end Mine81
namespace Mine81
section
local macro_rules | `(tactic| walk_at "zz") => `(tactic| skip)
open PySem.W.X (SegX s_call s_again s_pop s_end s_yield)
section
variable {prog : Program} {w : World} {A : Around} {c : Code} {fs : List Frame} {s : Shared} {env : Env} {P : End → Shared → Prop}
  {K : Flow → Sem Fin} {H : Value → Sem Fin} {gd : Bool → Bool} {lv : List Value → List Value}
theorem sx_wrap {α : Type} {m : Sem α} {K : α → Sem Fin} (h : wpAny (model prog w) (A.over c fs) m (fun a s' => SegX (model prog w) A c (K a) fs s' P) NoE s) :
    SegX (model prog w) A c (m.wrap K H gd lv) fs s P := by
  rintro Γ p rfl hΓ
  obtain ⟨e, s', hr, hq⟩ := runs_wrap_of_wp (Φ := fun e s' => e.quiet = true ∧ P e s') K H gd lv m (h (Γ.over fs) p (hΓ.over fs)) (fun a p' s' h' => h' Γ p' rfl hΓ) (fun x p' s' h' => h'.elim)
  exact ⟨e, s', hr, hq⟩
theorem sx_at {q : Pos} {k : Unit → Sem Fin} (h : SegX (model prog w) A c (k ()) fs s P) : SegX (model prog w) A c (.at q k) fs s P :=
  PySem.W.X.s_skim prog w A c fs P s _ 1 h
theorem sx_point {l : List Value} {k : Unit → Sem Fin} (h : SegX (model prog w) A c (k ()) fs s P) : SegX (model prog w) A c (.point l k) fs s P :=
  PySem.W.X.s_skim prog w A c fs P s _ 1 h
theorem sx_nil (h : SegX (model prog w) A c (K .next) fs s P) : SegX (model prog w) A c ((execs [] env).wrap K H gd lv) fs s P := h
theorem sx_cons {st : Stmt} {rest : List Stmt}
    (h : SegX (model prog w) A c ((exec st env).wrap (fun f => match f with | .next => (execs rest env).wrap K H gd lv | f => K f) H gd lv) fs s P) :
    SegX (model prog w) A c ((execs (st :: rest) env).wrap K H gd lv) fs s P := by rw [execs_cons_wrap]; exact h
theorem sx_cmd {st : Stmt} (h : wpAny (model prog w) (A.over c fs) (exec st env) (fun f s' => SegX (model prog w) A c (K f) fs s' P) NoE s) :
    SegX (model prog w) A c ((exec st env).wrap K H gd lv) fs s P := sx_wrap h
theorem sx_If {test : Expr} {body orelse : List Stmt} {pos : Pos}
    (h : wpAny (model prog w) (A.over c fs) (isTrue test env (eval test env)) (fun b s' => if b = true then SegX (model prog w) A c ((execs body env).wrap K H gd lv) fs s' P else SegX (model prog w) A c ((execs orelse env).wrap K H gd lv) fs s' P) NoE s) :
    SegX (model prog w) A c ((exec (.If test body orelse pos) env).wrap K H gd lv) fs s P := by
  rw [exec_If]
  show SegX _ A c (.at pos fun _ => ((isTrue test env (eval test env)) >>= fun b => if b = true then execs body env else execs orelse env).wrap K H gd lv) fs s P
  refine sx_at ?_
  rw [Sem.bind_eq_wrap', Sem.wrap_wrap]
  refine sx_wrap (wpAny_mono h (fun b s' hb => ?_) fun _ _ e => e)
  cases b with
  | true => rw [if_pos rfl] at hb; exact hb
  | false => rw [if_neg Bool.false_ne_true] at hb; exact hb
theorem sx_For {target iter : Expr} {body orelse : List Stmt} {pos : Pos}
    (h : wpAny (model prog w) (A.over c fs) (eval iter env) (fun xv s₁ => wpAny (model prog w) (A.over c fs) (pyIter xv) (fun it s₂ => ∀ p, SegX (model prog w) A (.forLoop target it body orelse env) ((model prog w).den (.forLoop target it body orelse env))
      (.ret (fun r => ((match r with | .ok f => (.pure f : Sem Flow) | .error e => .raise e).onRaise fun (x : Value) => do
        if (← field x 1) == Value.none then unsupported "frame.own-activation:exception-without-traceback"
        setFlight x env.frame).wrap K H gd lv) none (gd false) (lv []) c p [] :: fs) s₂ P) NoE s₁) NoE s)
    (hs : ∀ x, foldedSetIterable iter env x = pure x := by intro _; rfl) :
    SegX (model prog w) A c ((exec (.For target iter body orelse pos) env).wrap K H gd lv) fs s P := by
  rw [exec_For]
  show SegX _ A c (.at pos fun _ => ((eval iter env) >>= fun v => foldedSetIterable iter env v >>= fun x => standAt iter.pos >>= fun _ => holding [x] (pyIter x) >>= fun it => runOwn (.forLoop target it body orelse env) env).wrap K H gd lv) fs s P
  refine sx_at ?_
  rw [Sem.bind_eq_wrap', Sem.wrap_wrap]
  refine sx_wrap (wpAny_mono h (fun v s₁ h₁ => ?_) fun _ _ e => e)
  rw [hs v]
  show SegX _ A c (.at iter.pos fun _ => ((holding [v] (pyIter v)) >>= fun it => runOwn (.forLoop target it body orelse env) env).wrap K H gd lv) fs s₁ P
  refine sx_at ?_
  rw [Sem.bind_eq_wrap', Sem.wrap_wrap]
  refine sx_wrap (wpAny_holding (wpAny_mono h₁ (fun it s₂ h₂ => ?_) fun _ _ e => e))
  exact s_call _ _ _ _ _ _ _ _ _ _ _ _ h₂
theorem sx_While {test : Expr} {body orelse : List Stmt} {pos : Pos}
    (h : ∀ p, SegX (model prog w) A (.whileLoop test body orelse env) ((model prog w).den (.whileLoop test body orelse env))
      (.ret (fun r => ((match r with | .ok f => (.pure f : Sem Flow) | .error e => .raise e).onRaise fun (x : Value) => do
        if (← field x 1) == Value.none then unsupported "frame.own-activation:exception-without-traceback"
        setFlight x env.frame).wrap K H gd lv) none (gd false) (lv []) c p [] :: fs) s P) :
    SegX (model prog w) A c ((exec (.While test body orelse pos) env).wrap K H gd lv) fs s P :=
  sx_at (s_call _ _ _ _ _ _ _ _ _ _ _ _ h)
theorem sx_Yield {e : Expr} {ypos pos : Pos} (hfs : splitAtGen fs = none) (hgd : gd false = false) (hfg : fs.any Frame.guarded = false)
    (h : wpAny (model prog w) (A.over c fs) (eval e env) (fun v s' => ∀ (l : List Value) (k : Resume → Sem Fin) (p : Pos),
        (∀ (P' : End → Shared → Prop) (A' : Around) s'', SegX (model prog w) A' c (K .next) fs s'' P' → SegX (model prog w) A' c (k (.send .none)) fs s'' P') → P (.susp v false l k c p fs) s') NoE s)
    (hco : env.scope.isCoroutine = false := by rfl) (hi : interactive env = false := by rfl) :
    SegX (model prog w) A c ((exec (.Expr (.Yield (some e) ypos) pos) env).wrap K H gd lv) fs s P := by
  rw [exec_Expr env _ pos hi rfl]
  show SegX _ A c (.at pos fun _ => ((eval e env >>= fun v => (standAt ypos >>= fun _ => yieldOut env v)) >>= fun x =>
    dropValue (.Yield (some e) ypos) pos x).wrap K H gd lv) fs s P
  have hy : ∀ v, yieldOut env v = yieldValue v := fun v => by simp only [yieldOut, hco, Bool.false_eq_true, if_false]
  simp only [hy]
  refine sx_at ?_
  rw [Sem.bind_eq_wrap', Sem.bind_eq_wrap', Sem.wrap_wrap, Sem.wrap_wrap]
  refine sx_wrap (wpAny_mono h (fun v s' h' => ?_) fun _ _ x => x)
  refine sx_at ?_
  have e0 : gd false = false := hgd
  show SegX _ A c (.yield v (gd false) _ _) fs s' P
  rw [e0]
  refine s_yield _ _ _ _ _ _ _ _ _ _ hfs hfg fun p => ?_
  exact h' _ _ p (fun P' A' s'' x => x)
end
section
variable {prog : Program} {w : World} {A : Around} {fs : List Frame} {s : Shared} {env : Env} {P : End → Shared → Prop}
/-- what a raise in a loop's code does: never met here -/
noncomputable abbrev forH (env : Env) : Value → Sem Fin := fun e => (do noteFrame e env; theTreesLotGoes e : Sem Unit).wrap (fun _ => .raise e) .raise id id
noncomputable abbrev forK (target : Expr) (it : Value) (body orelse : List Stmt) (env : Env) : Flow → Sem Fin := fun f => match f with
  | .next | .cont => .pure (.again (.forLoop target it body orelse env))
  | .brk => .pure (.done .next)
  | .ret v => .pure (.done (.ret v))
noncomputable abbrev whileK (test : Expr) (body orelse : List Stmt) (env : Env) : Flow → Sem Fin := fun f => match f with
  | .next | .cont => .pure (.again (.whileLoop test body orelse env))
  | .brk => .pure (.done .next)
  | .ret v => .pure (.done (.ret v))
theorem sx_forLoop {target : Expr} {it : Value} {body orelse : List Stmt}
    (h : wpAny (model prog w) (A.over (.forLoop target it body orelse env) fs) (pyNext it) (fun r s₁ => match r with
      | none => SegX (model prog w) A (.forLoop target it body orelse env) (.pure (.again (.block orelse env))) fs s₁ P
      | some v => wpAny (model prog w) (A.over (.forLoop target it body orelse env) fs) (assign target env v) (fun _ s₂ =>
          SegX (model prog w) A (.forLoop target it body orelse env) ((execs body env).wrap (forK target it body orelse env) (forH env) id id) fs s₂ P) NoE s₁) NoE s)
    (ht : ∀ v, letOwnedTupleGo target it v = pure () := by intro _; rfl) :
    SegX (model prog w) A (.forLoop target it body orelse env) ((model prog w).den (.forLoop target it body orelse env)) fs s P := by
  show SegX _ A _ ((forTurn target it body orelse env).onRaise (fun x => do noteFrame x env; theTreesLotGoes x)) fs s P
  unfold forTurn
  rw [Sem.onRaise_eq_wrap]
  show SegX _ A _ (.at target.pos fun _ => (((pyNext it).onRaise (fun _ => standAt { target.pos with line := 0 })) >>= fun r => match r with
      | none => again (.block orelse env)
      | some v => (letOwnedTupleGo target it v >>= fun _ => assign target env v >>= fun _ => execs body env >>= fun f => match f with
        | .next | .cont => again (.forLoop target it body orelse env)
        | .brk => pure (.done .next)
        | .ret v => pure (.done (.ret v)))).wrap .pure (fun e => ((do noteFrame e env; theTreesLotGoes e : Sem Unit)).bind fun _ => .raise e) id id) fs s P
  refine sx_at ?_
  rw [Sem.bind_eq_wrap', Sem.wrap_wrap]
  refine sx_wrap (wpAny_onRaise (wpAny_mono h (fun r s₁ h₁ => ?_) fun _ _ e => e.elim))
  cases r with
  | none => exact h₁
  | some v =>
    dsimp only
    rw [ht v]
    show SegX _ A _ ((assign target env v >>= fun _ => execs body env >>= fun f => match f with
        | .next | .cont => again (.forLoop target it body orelse env)
        | .brk => pure (.done .next)
        | .ret v => pure (.done (.ret v))).wrap .pure (fun e => ((do noteFrame e env; theTreesLotGoes e : Sem Unit)).bind fun _ => .raise e) id id) fs s₁ P
    rw [Sem.bind_eq_wrap', Sem.wrap_wrap]
    refine sx_wrap (wpAny_mono h₁ (fun _ s₂ h₂ => ?_) fun _ _ e => e)
    rw [Sem.bind_eq_wrap', Sem.wrap_wrap]
    rw [Sem.wrap_congr (execs body env) _ _ (K' := forK target it body orelse env) (H' := forH env) (fun f => by cases f <;> rfl) (fun e => by
      show ((do noteFrame e env; theTreesLotGoes e : Sem Unit)).bind (fun _ => .raise e) = _
      rw [Sem.bind_eq_wrap])]
    exact h₂
theorem sx_whileLoop {test : Expr} {body orelse : List Stmt}
    (h : wpAny (model prog w) (A.over (.whileLoop test body orelse env) fs) (isTrue test env (eval test env)) (fun b s' => b = true ∧
          SegX (model prog w) A (.whileLoop test body orelse env) ((execs body env).wrap (whileK test body orelse env) (forH env) id id) fs s' P) NoE s) :
    SegX (model prog w) A (.whileLoop test body orelse env) ((model prog w).den (.whileLoop test body orelse env)) fs s P := by
  show SegX _ A _ ((whileTurn test body orelse env).onRaise (fun x => do noteFrame x env; theTreesLotGoes x)) fs s P
  unfold whileTurn
  rw [Sem.onRaise_eq_wrap, Sem.bind_eq_wrap', Sem.wrap_wrap]
  refine sx_wrap (wpAny_mono h (fun b s' hb => ?_) fun x s' hx => hx)
  obtain ⟨rfl, hb⟩ := hb
  show SegX _ A _ (Sem.wrap _ _ _ _ (if true = true then _ else _)) fs s' P
  rw [if_pos rfl, Sem.bind_eq_wrap', Sem.wrap_wrap]
  rw [Sem.wrap_congr (execs body env) _ _ (K' := whileK test body orelse env) (H' := forH env) (fun f => by cases f <;> rfl) (fun e => by
      show ((do noteFrame e env; theTreesLotGoes e : Sem Unit)).bind (fun _ => .raise e) = _
      rw [Sem.bind_eq_wrap])]
  exact hb
theorem sx_func {body : List Stmt}
    (h : SegX (model prog w) A (.func body env) ((execs body env).wrap (fun f => .pure (.done (.ret (match f with | .ret v => v | _ => .none))))
      (fun e => (leaving env e).wrap (fun _ => .raise e) .raise id id) id id) fs s P) :
    SegX (model prog w) A (.func body env) ((model prog w).den (.func body env)) fs s P := by
  show SegX _ A _ (.point [] fun _ => ((execs body env).onRaise (leaving env)) >>= _) fs s P
  refine sx_point ?_
  rw [Sem.onRaise_eq_wrap, Sem.bind_eq_wrap', Sem.wrap_wrap]
  rw [Sem.wrap_congr (execs body env) _ _ (K' := fun f => .pure (.done (.ret (match f with | .ret v => v | _ => .none))))
    (H' := fun e => (leaving env e).wrap (fun _ => .raise e) .raise id id) (fun f => by cases f <;> rfl)
    (fun e => by rw [Sem.bind_eq_wrap, Sem.wrap_wrap]; rfl)]
  exact h
/-- the end of a for: no else -/
theorem sx_blockNil {c : Code} (h : SegX (model prog w) A (.block [] env) (.pure (.done .next)) fs s P) :
    SegX (model prog w) A c (.pure (.again (.block [] env))) fs s P := s_again _ _ _ _ _ _ _ _ rfl h
end
end
end Mine81
namespace Mine81
section
open PySem.W.X (SegX s_call s_again s_pop s_end s_yield)
theorem enterG {w : World} {A : Around} {s : Shared} {Q E : Value → Shared → Prop} {K : Frag} {prog : Program} {name qual : Str} {params : Arguments} {body : List Stmt} {scope : Scope} {dV kV doc pm cdv ct oc : Value} {an od : Option Addr} {osl : Array (Option Value)} {f : Addr} {args : List Value} {binds : List (Str × Value)}
    (hX : K.In s.heap) (hlim : s.heap.NoLimit) (ho : K.lookup f = some ⟨oc, od, .func (fnOf name qual params body scope dV kV doc pm an cdv ct), osl⟩)
    (hcd : codeIn K cdv qual = true) (hroom : A.depth < recursionLimit)
    (hbind : bindArgs (fnOf name qual params body scope dV kV doc pm an cdv ct) ⟨args, []⟩ = pure binds) (hloc : ∀ y ∈ binds, scope.names.lookup y.1 = some .local)
    (h : ∀ (h₁ : Heap) (tk : Nat) (t1 t2 : Tok), h₁.Ns s.heap.objs.size (fun y => binds.reverse.lookup y) → (∀ b o, s.heap.get? b = some o → h₁.get? b = some o) →
      Q (.ref h₁.objs.size) ⟨h₁.push { cls := .type "generator", data := .fields #[.int (s.gens.size : Int) 0, .str name t1, .str qual t2] }, s.gens.push (.fresh (.func body (envOf qual scope s.heap.objs.size f cdv))), s.drawn, tk, s.os⟩)
    (hco : scope.isCoroutine = false) (hgen : scope.isGenerator = true) (hk : scope.kind = .function)
    (hcell : ∀ x ∈ scope.names, x.2 ≠ .cell) : wpAny (model prog w) A (call (.ref f) args) Q E s := by
  refine wpAny_call (codeAny_call_generator (fd := fnOf name qual params body scope dV kV doc pm an cdv ct) (body := body) hroom (hX _ _ ho) rfl hco hgen rfl (codeRec_of hX hcd) ?_)
  rw [hbind]
  refine wpAny_pure (wpAny_newFunctionEnv hcell hloc (fun h₁ hns hsb => ⟨hlim.fresh _ hsb, ?_⟩) hk)
  exact h h₁ _ _ _ hns fun b o e => hsb.extBut b o (Nat.ne_of_lt (Heap.lt_size e)) (Heap.get?_push_of_some _ e)
/-- what the generator tells, from a last size on: none is its end -/
noncomputable def gAt : Option Int → List Int → Nat → Option Int
  | _, [], _ => none
  | last, x :: r, i => if x = 127 then none else if x = 0 then last else match i with
    | 0 => some x
    | i + 1 => gAt (some x) r i
theorem gAt_stop {last : Option Int} {x : Int} {r : List Int} {i : Nat} (h : x = 127) : gAt last (x :: r) i = none := by unfold gAt; rw [if_pos h]
theorem gAt_rep {last : Option Int} {x : Int} {r : List Int} {i : Nat} (h : x ≠ 127) (h0 : x = 0) : gAt last (x :: r) i = last := by unfold gAt; rw [if_neg h, if_pos h0]
theorem gAt_zero {last : Option Int} {x : Int} {r : List Int} (h : x ≠ 127) (h0 : x ≠ 0) : gAt last (x :: r) 0 = some x := by unfold gAt; rw [if_neg h, if_neg h0]
theorem gAt_succ {last : Option Int} {x : Int} {r : List Int} {i : Nat} (h : x ≠ 127) (h0 : x ≠ 0) : gAt last (x :: r) (i + 1) = gAt (some x) r i := by rw [gAt.eq_def]; simp only [if_neg h, if_neg h0]
structure GCond (g : Heap) (l : Addr) (vs : List Value) (own : List (Addr × Obj)) (s : Shared) : Prop where
  ground : ∀ b o, g.get? b = some o → s.heap.get? b = some o
  own : ∀ e ∈ own, s.heap.get? e.1 = some e.2
  list : s.heap.IsList l vs.toArray
structure GKeep (own : List (Addr × Obj)) (s s₁ : Shared) : Prop where
  heap : ∀ b o, b ∉ own.map (·.1) → s.heap.get? b = some o → s₁.heap.get? b = some o
  gens : s₁.gens = s.gens
  os : s₁.os = s.os
  drawn : s₁.drawn = s.drawn
noncomputable def GRun (w : World) (A : Around) (gs : GenState) (s : Shared) (P : End → Shared → Prop) : Prop := match gs with
  | .fresh c => SegX (model Challenge.rw_rl0081_01.row.prog w) A c (denote table c) [] s P
  | .suspended k _ c _ fs _ => SegX (model Challenge.rw_rl0081_01.row.prog w) A c (k (.send .none)) fs s P
  | _ => False
/-- one waking's end -/
noncomputable def GPost (g : Heap) (l : Addr) (ok : (Nat → Option Int) → GenState → List (Addr × Obj) → Prop) (f : Nat → Option Int) (own : List (Addr × Obj)) (s : Shared) (e : End) (s₁ : Shared) : Prop :=
  GKeep own s s₁ ∧ match f 0 with
    | none => e = .ret (.ok (.ret .none))
    | some x => ∃ t gs' own', e.result = .yielded (.int x t) ∧ e.genState = gs' ∧ gs'.bare = true ∧ (∀ q ∈ own', s₁.heap.get? q.1 = some q.2 ∧ g.get? q.1 = none ∧ q.1 ≠ l) ∧
          (∀ q ∈ own', q.1 ∈ own.map (·.1) ∨ s.heap.get? q.1 = none) ∧ ok (fun k => f (k + 1)) gs' own'
/-- the generator goes on as the row tells, n times at least -/
noncomputable def GOk (w : World) (g : Heap) (l : Addr) (vs : List Value) : Nat → (Nat → Option Int) → GenState → List (Addr × Obj) → Prop
  | 0, _, _, _ => True
  | n + 1, f, gs, own => ∀ (dp un : Nat) (fr : Option (List Env)) (gd : Option (List Code)) (s : Shared), dp + 5 < recursionLimit → un + 20 < cLine → GCond g l vs own s →
      GRun w (Around.mk none dp fr gd un) gs s (GPost g l (GOk w g l vs n) f own s)
/-- all that a heap holds beyond the ground and some places -/
noncomputable def frzOf (g h : Heap) (ex : List Addr) : List (Addr × Obj) :=
  (List.range h.objs.size).filterMap fun b => if b ∈ ex then none else match g.get? b with
    | some _ => none
    | none => (h.get? b).map fun o => (b, o)
theorem frz_mem {g h : Heap} {ex : List Addr} {e : Addr × Obj} : e ∈ frzOf g h ex ↔ e.1 ∉ ex ∧ g.get? e.1 = none ∧ h.get? e.1 = some e.2 := by
  unfold frzOf
  rw [List.mem_filterMap]
  constructor
  · rintro ⟨b, hb, he⟩
    by_cases hx : b ∈ ex
    · simp [hx] at he
    · simp only [hx, if_false] at he
      cases q : g.get? b with
      | some o => rw [q] at he; cases he
      | none =>
        rw [q] at he
        cases r : h.get? b with
        | none => rw [r] at he; cases he
        | some o => rw [r] at he; cases he; exact ⟨hx, q, r⟩
  · rintro ⟨h1, h2, h3⟩
    exact ⟨e.1, List.mem_range.mpr (Heap.lt_size h3), by simp [h1, h2, h3]⟩
theorem frz_news {g h : Heap} {ex : List Addr} {L : Addr} (hL : L ∈ ex) : News g L h (frzOf g h ex) := fun e he => by
  obtain ⟨h1, h2, h3⟩ := frz_mem.mp he
  exact ⟨h3, fun q => h1 (q ▸ hL), h2⟩
theorem frz_keep {g h h' : Heap} {ex : List Addr} {L : Addr} {m : Str → Option Value} (F : Fr g L h m) (F' : Fr g L h' m') (N' : News g L h' (frzOf g h ex)) : ∀ b o, b ∉ ex → h.get? b = some o → h'.get? b = some o := fun b o hb e => by
  cases q : g.get? b with
  | some o' =>
    have := F.keep b o' q
    rw [e] at this
    cases this
    exact F'.keep b o q
  | none => exact (N' (b, o) (frz_mem.mpr ⟨hb, q, e⟩)).1
/-- the frame's last size as a value -/
noncomputable def lastV (t : Tok) : Option Int → Value
  | none => .none
  | some v => .int v t
/-- what stands at the loop's head -/
structure HeadC (g : Heap) (Lg l it : Addr) (vs : List Value) (ns : List Int) (f : Nat → Option Int) (last : Option Int) (j : Nat) (own₀ : List (Addr × Obj)) (s₀ : Shared) (h : Heap) (tl : Tok) (m₁ : Str → Option Value) : Prop where
  hf : ∀ k, f k = gAt last (ns.drop j) k
  hlast : last = none → (ns.drop j).head? ≠ some 0
  fr : Fr g Lg h (pinM [(Str.ofString "last_interval", lastV tl last)] m₁)
  iter : h.IsListIter it l j
  list : h.IsList l vs.toArray
  keep : ∀ b o, b ∉ own₀.map (·.1) → s₀.heap.get? b = some o → h.get? b = some o
  l0 : Lg ∈ own₀.map (·.1)
  i0 : it ∈ own₀.map (·.1) ∨ s₀.heap.get? it = none
  iL : it ≠ Lg
  il : l ≠ it
  lL : l ≠ Lg
  ig : g.get? it = none
structure RepC (g : Heap) (Lg l : Addr) (v : Int) (f : Nat → Option Int) (own₀ : List (Addr × Obj)) (s₀ : Shared) (h : Heap) (tl : Tok) (m₁ : Str → Option Value) : Prop where
  hf : ∀ k, f k = some v
  fr : Fr g Lg h (pinM [(Str.ofString "last_interval", .int v tl)] m₁)
  keep : ∀ b o, b ∉ own₀.map (·.1) → s₀.heap.get? b = some o → h.get? b = some o
  l0 : Lg ∈ own₀.map (·.1)
  lL : l ≠ Lg
theorem above_none {g h : Heap} {L : Addr} {m : Str → Option Value} (F : Fr g L h m) : g.get? L = none := by
  cases q : g.get? L with
  | none => rfl
  | some o => exact absurd (Nat.lt_of_lt_of_le (Heap.lt_size q) F.above) (Nat.lt_irrefl _)
theorem gen_make {w : World} {mean : ExcName → Option Value} {mg mb : Str → Option Value} {dp un : Nat} {fr : Option (List Env)} {gd : Option (List Code)} {s : Shared} {Q E : Value → Shared → Prop} {g : Heap} {L l : Addr} {m : Str → Option Value} {vs : List Value} {ns : List Int}
    (F : Fr g L s.heap m) (T : Top hd.view_39 (looseW hd.view_39 [Str.ofString "Whitespace"]) mean mg mb g) (X : (hd.heap_39 w.params).In g) (hA : dp + 1 < recursionLimit)
    (hl : s.heap.IsList l vs.toArray) (hi : IntsAre vs ns) (hns : ns.head? ≠ some 0)
    (hret : ∀ (h' : Heap) (tk : Nat) (G : Addr) (gs : GenState) (own : List (Addr × Obj)), (∀ n, GOk w g l vs n (gAt none ns) gs own) → gs.bare = true → (∀ b o, s.heap.get? b = some o → h'.get? b = some o) →
      h'.IsGen G s.gens.size → s.heap.get? G = none → (∀ q ∈ own, h'.get? q.1 = some q.2 ∧ s.heap.get? q.1 = none ∧ q.1 ≠ G) → Q (.ref G) ⟨h', s.gens.push gs, s.drawn, tk, s.os⟩) :
    wpAny (model Challenge.rw_rl0081_01.row.prog w) (Around.mk none dp fr gd un) (call (.ref 101) [.ref l]) Q E s := by
  revert X
  k_fill
  intro X
  have hX := X.keeps F.keep
  have hT := T.keeps F.keep
  refine' enterG hX hT.nolimit ?k6 ?k7 ?k8 ?k9 ?kB ?_ ?c2 ?c3 ?c4 ?c5; (case k6 => k_is); (case k7 => k_is); (case k8 => (show dp < recursionLimit; omega)); (case k9 => exact rfl); (case c5 => decide); (case kB => exact locs rfl); (case c2 => exact rfl); (case c3 => exact rfl); (case c4 => exact rfl)
  intro h₁ tk t1 t2 hns₁ hk
  obtain ⟨oL, hoL⟩ : ∃ oL, h₁.get? s.heap.objs.size = some oL := by
    obtain ⟨oL, _, _, hL, _⟩ := hns₁
    exact ⟨oL, hL⟩
  have hsz : h₁.get? h₁.objs.size = none := by
    cases q : h₁.get? h₁.objs.size with
    | none => rfl
    | some o => exact absurd (Heap.lt_size q) (Nat.lt_irrefl _)
  have hs0 : s.heap.get? s.heap.objs.size = none := by
    cases q : s.heap.get? s.heap.objs.size with
    | none => rfl
    | some o => exact absurd (Heap.lt_size q) (Nat.lt_irrefl _)
  refine hret _ tk _ _ [(s.heap.objs.size, oL)] ?gok rfl (fun b o e => Heap.get?_push_of_some _ (hk b o e)) ⟨_, _, _, Heap.get?_push_size _ rfl, rfl, rfl, rfl⟩ ?_ ?_
  case gok =>
    intro n
    cases n with
    | zero => trivial
    | succ n =>
      intro dp un fr gd s' hdp hun C
      have hLg := hns₁.at' (h' := s'.heap) fun o e => by
        rw [hoL] at e; cases e; exact C.own _ (.head _)
      have F1 : Fr g s.heap.objs.size s'.heap _ := ⟨hLg, C.ground, Nat.le_trans F.above (Nat.le_of_lt F.ns.lt)⟩
      have N1 : News g s.heap.objs.size s'.heap (frzOf g s'.heap [s.heap.objs.size]) := frz_news (.head _)
      have keep1 : ∀ {h' : Heap} {m' : Str → Option Value}, Fr g s.heap.objs.size h' m' → News g s.heap.objs.size h' (frzOf g s'.heap [s.heap.objs.size]) → ∀ b o, b ≠ s.heap.objs.size → s'.heap.get? b = some o → h'.get? b = some o := fun F' N' b o hb e => frz_keep F1 F' N' b o (by simpa using hb) e
      generalize frzOf g s'.heap [s.heap.objs.size] = frz at N1 keep1
      have hlL : l ≠ s.heap.objs.size := by
        obtain ⟨ol, hol, _⟩ := hl
        exact Nat.ne_of_lt (Heap.lt_size hol)
      refine sx_func ?_
      refine sx_cons (sx_cmd ?_)
      clear F hX hT hns₁ hLg
      k_steps
      rename Fr _ _ _ _ => F2
      rename News _ _ _ _ => N2
      have k2 := keep1 F2 N2
      refine sx_cons (sx_For ?_)
      k_steps
      rename_i hq
      have hls : hq.IsList l vs.toArray := C.list.at fun o e => k2 l o hlL e
      refine wpAny_pyIter_list hls ?_
      intro p
      have hltl : l < hq.objs.size := by
        obtain ⟨ol, hol, _⟩ := hls
        exact Heap.lt_size hol
      obtain ⟨m2, F3, hm2⟩ : ∃ m2 : Str → Option Value, Fr g s.heap.objs.size hq m2 ∧ m2 (Str.ofString "last_interval") = some .none := ⟨_, F2, rfl⟩
      refine' (?key : ∀ (n : Nat) (f : Nat → Option Int) (last : Option Int) (j : Nat) (it : Addr) (own₀ : List (Addr × Obj)) (s₀ : Shared) (h : Heap) (tk dp un : Nat) (fr : Option (List Env)) (gd : Option (List Code)) (m₁ : Str → Option Value) (tl : Tok),
        dp + 5 < recursionLimit → un + 20 < cLine → HeadC g s.heap.objs.size l it vs ns f last j own₀ s₀ h tl m₁ →
        SegX (model Challenge.rw_rl0081_01.row.prog w) (Around.mk none dp fr gd un) (.forLoop ?T (.ref it) ?B [] ?env) ((model Challenge.rw_rl0081_01.row.prog w).den (.forLoop ?T (.ref it) ?B [] ?env)) ?FS ⟨h, s₀.gens, s₀.drawn, tk, s₀.os⟩ (GPost g l (GOk w g l vs n) f own₀ s₀)) n (gAt none ns) none 0 hq.objs.size [(s.heap.objs.size, oL)] s' _ _ dp un fr gd m2 0 hdp hun ?hc
      case hc =>
        refine ⟨fun k => rfl, fun _ => hns, ?_, ⟨_, Heap.get?_push_size _ rfl, rfl, rfl⟩, hls.at fun o e => Heap.get?_push_of_some _ e, ?_, .head _, ?_, ?_, Nat.ne_of_lt hltl, hlL, next_is_new F2⟩
        · exact Fr.pin (F3.push _) ⟨hm2, trivial⟩
        · intro b o hb e
          exact Heap.get?_push_of_some _ (k2 b o (fun q => hb (q ▸ .head _)) e)
        · right
          cases q : s'.heap.get? hq.objs.size with
          | none => rfl
          | some o => exact absurd (Heap.lt_size (k2 _ o (Nat.ne_of_gt F2.ns.lt) q)) (Nat.lt_irrefl _)
        · exact Nat.ne_of_gt F2.ns.lt
      case key =>
        clear F2 F3 hm2 N2 k2 keep1 C hls hltl hq frz hret hsz hs0 hk hoL hl
        intro n
        induction n using Nat.strongRecOn with
        | _ n ih =>
        intro f last j it own₀ s₀ h tk dp un fr gd m₁ tl hdp hun HC
        refine sx_forLoop ?_
        have hLi : s.heap.objs.size ≠ it := fun e => HC.iL e.symm
        by_cases hj : j < vs.toArray.size
        · refine (Walks.list ?hh it l HC.il vs.toArray).item j _ _ _ hj ⟨HC.iter, HC.list⟩ fun v h₁ tk₁ hv hst hk₁ => ?_
          case hh => rfl
          obtain ⟨x, t, hx, rfl⟩ : ∃ x t, ns[j]? = some x ∧ v = .int x t := by
            have hj' : j < ns.length := by rw [← hi.length]; simpa using hj
            obtain ⟨t, hx⟩ := hi.get j ns[j] (by simp [hj'])
            refine ⟨ns[j], t, by simp [hj'], ?_⟩
            have hv' : vs[j]? = some v := by simpa using hv
            rw [hx] at hv'; exact (Option.some.inj hv').symm
          have hk1 : ∀ b o, b ≠ it → h.get? b = some o → h₁.get? b = some o := fun b o hb e => hk₁ b o (by simpa using hb) e
          have F1 : Fr g s.heap.objs.size h₁ _ := ⟨HC.fr.ns.at' fun o e => hk1 _ o hLi e, fun b o e => hk1 b o (fun q => by rw [q, HC.ig] at e; cases e) (HC.fr.keep b o e), HC.fr.above⟩
          dsimp only
          refine wpAny_assign_Name (wpAny_storeName_local rfl F1.ns (fun h₂ hn₂ hs₂ => ?_) rfl)
          have F2 := F1.set hn₂ hs₂
          have hk2 : ∀ b o, b ∉ [s.heap.objs.size, it] → h.get? b = some o → h₂.get? b = some o := fun b o hb e => by
            simp only [List.mem_cons, List.not_mem_nil, or_false, not_or] at hb
            exact hs₂.extBut b o hb.1 (hk1 b o hb.2 e)
          have hit2 : h₂.IsListIter it l (j + 1) := hst.1.at fun o e => hs₂.extBut it o HC.iL e
          have N2 : News g s.heap.objs.size h₂ (frzOf g h₂ [s.heap.objs.size]) := frz_news (.head _)
          have keep2 : ∀ {h' : Heap} {m' : Str → Option Value}, Fr g s.heap.objs.size h' m' → News g s.heap.objs.size h' (frzOf g h₂ [s.heap.objs.size]) → ∀ b o, b ≠ s.heap.objs.size → h₂.get? b = some o → h'.get? b = some o := fun F' N' b o hb e => frz_keep F2 F' N' b o (by simpa using hb) e
          generalize frzOf g h₂ [s.heap.objs.size] = frz at N2 keep2
          have hdrop : ns.drop j = x :: ns.drop (j + 1) := by
            obtain ⟨h1, h2⟩ := List.getElem?_eq_some_iff.mp hx
            rw [List.drop_eq_getElem_cons h1, h2]
          dsimp only [pinM] at F2
          clear F1 hk₁ hk1 hn₂ hs₂ hst
          have kp : ∀ {h' : Heap} {m' : Str → Option Value} {tk' : Nat}, Fr g s.heap.objs.size h' m' → News g s.heap.objs.size h' frz → GKeep own₀ s₀ ⟨h', s₀.gens, s₀.drawn, tk', s₀.os⟩ := fun F' N' => ⟨fun b o hb e => by
            have hbL : b ≠ s.heap.objs.size := fun q => hb (q ▸ HC.l0)
            have hbi : b ≠ it := fun q => HC.i0.elim (fun z => hb (q ▸ z)) (fun z => by rw [q, z] at e; cases e)
            exact keep2 F' N' b o hbL (hk2 b o (by simp [hbL, hbi]) (HC.keep b o hb e)), rfl, rfl, rfl⟩
          refine sx_cons (sx_If ?_)
          k_steps
          · rename_i hx127
            refine sx_cons (sx_cmd ?_)
            k_steps
            rename Fr _ _ _ _ => F9
            rename News _ _ _ _ => N9
            refine s_pop _ _ _ _ _ _ _ (.ok (.ret .none)) _ rfl _ _ _ _ _ _ _ ?_
            refine s_end _ _ _ _ _ _ (.ok (.ret .none)) _ rfl ?_
            refine ⟨kp F9 N9, ?_⟩
            have hf0 : f 0 = none := by rw [HC.hf, hdrop, gAt_stop hx127]
            rw [hf0]
          · rename_i hx127
            refine sx_nil ?_
            refine sx_cons (sx_If ?_)
            k_steps
            · rename_i hx0
              rename Fr _ _ _ _ => F9
              rename News _ _ _ _ => N9
              cases last with
              | none => exact absurd (by rw [hdrop, hx0]; rfl) (HC.hlast rfl)
              | some v =>
              dsimp only [lastV] at F9
              refine sx_cons (sx_If ?_)
              k_steps
              rename Fr _ _ _ _ => F8
              rename News _ _ _ _ => N8
              refine sx_nil ?_
              refine sx_cons (sx_While fun pw => ?_)
              have hfv : ∀ k, f k = some v := fun k => by rw [HC.hf, hdrop, gAt_rep hx127 hx0]
              have kk8 := (kp F8 N8 (tk' := 0)).heap
              obtain ⟨m8, F7, hm8⟩ : ∃ m8 : Str → Option Value, Fr g s.heap.objs.size _ m8 ∧ m8 (Str.ofString "last_interval") = some (.int v tl) := ⟨_, F8, rfl⟩
              refine' (?key2 : ∀ (n : Nat) (f : Nat → Option Int) (own₀ : List (Addr × Obj)) (s₀ : Shared) (h : Heap) (tk dp un : Nat) (fr : Option (List Env)) (gd : Option (List Code)) (m₁ : Str → Option Value) (tl : Tok),
                dp + 5 < recursionLimit → un + 20 < cLine → RepC g s.heap.objs.size l v f own₀ s₀ h tl m₁ →
                SegX (model Challenge.rw_rl0081_01.row.prog w) (Around.mk none dp fr gd un) (.whileLoop ?T2 ?B2 [] ?env2) ((model Challenge.rw_rl0081_01.row.prog w).den (.whileLoop ?T2 ?B2 [] ?env2)) ?FS2 ⟨h, s₀.gens, s₀.drawn, tk, s₀.os⟩ (GPost g l (GOk w g l vs n) f own₀ s₀)) n f own₀ s₀ _ _ dp un fr gd m8 tl hdp hun ⟨hfv, Fr.pin F7 ⟨hm8, trivial⟩, kk8, HC.l0, HC.lL⟩
              have hlL' := HC.lL
              clear ih HC F8 N8 F7 hm8 kk8 kp keep2 hk2 hit2 hfv
              intro n
              induction n using Nat.strongRecOn with
              | _ n ih =>
              intro f own₀ s₀ h tk dp un fr gd m₁ tl hdp hun RC
              have F2 := RC.fr
              have N2 : News g s.heap.objs.size h (frzOf g h [s.heap.objs.size]) := frz_news (.head _)
              have keep2 : ∀ {h' : Heap} {m' : Str → Option Value}, Fr g s.heap.objs.size h' m' → News g s.heap.objs.size h' (frzOf g h [s.heap.objs.size]) → ∀ b o, b ≠ s.heap.objs.size → h.get? b = some o → h'.get? b = some o := fun F' N' b o hb e => frz_keep F2 F' N' b o (by simpa using hb) e
              generalize frzOf g h [s.heap.objs.size] = frz at N2 keep2
              dsimp only [pinM] at F2
              have kp : ∀ {h' : Heap} {m' : Str → Option Value} {tk' : Nat}, Fr g s.heap.objs.size h' m' → News g s.heap.objs.size h' frz → GKeep own₀ s₀ ⟨h', s₀.gens, s₀.drawn, tk', s₀.os⟩ := fun F' N' => ⟨fun b o hb e => keep2 F' N' b o (fun q => hb (q ▸ RC.l0)) (RC.keep b o hb e), rfl, rfl, rfl⟩
              refine sx_whileLoop ?_
              k_steps
              refine sx_cons (sx_Yield rfl rfl rfl ?_)
              k_steps
              rename Fr _ _ _ _ => F9
              rename News _ _ _ _ => N9
              rename_i hgen
              refine ⟨kp F9 N9, ?_⟩
              rw [RC.hf 0]
              obtain ⟨oLg, hoLg⟩ : ∃ o, h.get? s.heap.objs.size = some o := by
                obtain ⟨o, _, _, ho, _⟩ := F9.ns
                exact ⟨o, ho⟩
              refine ⟨tl, _, [(s.heap.objs.size, oLg)], rfl, rfl, rfl, ?_, ?_, ?_⟩
              · intro q hq
                rw [List.mem_singleton.mp hq]
                exact ⟨hoLg, above_none F9, hlL'.symm⟩
              · intro q hq
                rw [List.mem_singleton.mp hq]
                exact .inl RC.l0
              · cases n with
                | zero => trivial
                | succ n =>
                intro dp' un' fr' gd' s'' hdp' hun' C'
                refine hgen _ _ _ ?_
                have F4 : Fr g s.heap.objs.size s''.heap _ := ⟨F9.ns.at' fun o e => by rw [hoLg] at e; cases e; exact C'.own _ (.head _), C'.ground, F9.above⟩
                refine sx_nil ?_
                refine s_again _ _ _ _ _ _ _ _ rfl ?_
                refine ih n (Nat.lt_succ_self _) (fun k => f (k + 1)) [(s.heap.objs.size, oLg)] s'' _ _ dp' un' fr' gd' _ tl hdp' hun' ⟨fun k => RC.hf (k + 1), Fr.pin F4 ⟨rfl, trivial⟩, fun b o _ e => e, .head _, hlL'⟩
            · rename_i hx0
              refine sx_nil ?_
              refine sx_cons (sx_Yield rfl rfl rfl ?_)
              k_steps
              rename Fr _ _ _ _ => F9
              rename News _ _ _ _ => N9
              rename_i hgen
              have hf0 : f 0 = some x := by rw [HC.hf, hdrop, gAt_zero hx127 hx0]
              have hf1 : ∀ k, f (k + 1) = gAt (some x) (ns.drop (j + 1)) k := fun k => by rw [HC.hf, hdrop, gAt_succ hx127 hx0]
              refine ⟨kp F9 N9, ?_⟩
              rw [hf0]
              obtain ⟨oLg, hoLg⟩ : ∃ o, h₂.get? s.heap.objs.size = some o := by
                obtain ⟨o, _, _, ho, _⟩ := F9.ns
                exact ⟨o, ho⟩
              obtain ⟨oit, hoit, hoc, hod⟩ := id hit2
              refine ⟨t, _, [(s.heap.objs.size, oLg), (it, oit)], rfl, rfl, rfl, ?_, ?_, ?_⟩
              · intro q hq
                rcases List.mem_cons.mp hq with rfl | hq
                · exact ⟨hoLg, above_none F9, HC.lL.symm⟩
                · rw [List.mem_singleton.mp hq]
                  exact ⟨hoit, HC.ig, HC.il.symm⟩
              · intro q hq
                rcases List.mem_cons.mp hq with rfl | hq
                · exact .inl HC.l0
                · rw [List.mem_singleton.mp hq]
                  exact HC.i0
              · cases n with
                | zero => trivial
                | succ n =>
                intro dp' un' fr' gd' s'' hdp' hun' C'
                refine hgen _ _ _ ?_
                have F4 : Fr g s.heap.objs.size s''.heap _ := ⟨F9.ns.at' fun o e => by rw [hoLg] at e; cases e; exact C'.own _ (.head _), C'.ground, F9.above⟩
                have N4 : News g s.heap.objs.size s''.heap (frzOf g s''.heap [s.heap.objs.size]) := frz_news (.head _)
                have keep4 : ∀ {h' : Heap} {m' : Str → Option Value}, Fr g s.heap.objs.size h' m' → News g s.heap.objs.size h' (frzOf g s''.heap [s.heap.objs.size]) → ∀ b o, b ≠ s.heap.objs.size → s''.heap.get? b = some o → h'.get? b = some o := fun F' N' b o hb e => frz_keep F4 F' N' b o (by simpa using hb) e
                generalize frzOf g s''.heap [s.heap.objs.size] = frz' at N4 keep4
                have hit4 : s''.heap.IsListIter it l (j + 1) := ⟨oit, C'.own _ (.tail _ (.head _)), hoc, hod⟩
                have hC2 := HC
                clear HC kp keep2 F9 N9 hk2 hit2 hoLg hoit hgen
                refine sx_cons (sx_cmd ?_)
                k_steps
                rename Fr _ _ _ _ => F5
                rename News _ _ _ _ => N5
                refine sx_nil ?_
                refine s_again _ _ _ _ _ _ _ _ rfl ?_
                refine ih n (Nat.lt_succ_self _) (fun k => f (k + 1)) (some x) (j + 1) it [(s.heap.objs.size, oLg), (it, oit)] s'' _ _ dp' un' fr' gd' _ t hdp' hun' ⟨hf1, (fun h => nomatch h), Fr.pin F5 ⟨rfl, trivial⟩, hit4.at fun o e => keep4 F5 N5 _ o hC2.iL e, C'.list.at fun o e => keep4 F5 N5 _ o hC2.lL e, ?_, .head _, .inl (.tail _ (.head _)), hC2.iL, hC2.il, hC2.lL, hC2.ig⟩
                intro b o hb e
                exact keep4 F5 N5 b o (fun q => hb (q ▸ .head _)) e
        · have hj2 : vs.toArray.size ≤ j := Nat.not_lt.mp hj
          have hdrop : ns.drop j = [] := List.drop_eq_nil_of_le (by rw [← hi.length]; simpa using hj2)
          refine wpAny_pyNext_list_end ?hh HC.iter HC.list (by simpa using hj2) fun h₁ he₁ => ?_
          case hh => rfl
          have hk1 : ∀ b o, b ≠ it → h.get? b = some o → h₁.get? b = some o := fun b o hb e => he₁ b o hb e
          refine sx_blockNil ?_
          refine s_pop _ _ _ _ _ _ _ (.ok .next) _ rfl _ _ _ _ _ _ _ ?_
          refine s_end _ _ _ _ _ _ (.ok (.ret .none)) _ rfl ?_
          refine ⟨⟨fun b o hb e => ?_, rfl, rfl, rfl⟩, ?_⟩
          · have hbi : b ≠ it := fun q => HC.i0.elim (fun z => hb (q ▸ z)) (fun z => by rw [q, z] at e; cases e)
            exact hk1 b o hbi (HC.keep b o hb e)
          · have hf0 : f 0 = none := by rw [HC.hf, hdrop]; rfl
            rw [hf0]
  · cases q : s.heap.get? h₁.objs.size with
    | none => rfl
    | some o => rw [hk _ o q] at hsz; cases hsz
  · intro q hq
    rw [List.mem_singleton.mp hq]
    exact ⟨Heap.get?_push_of_some _ hoL, hs0, Nat.ne_of_lt (Heap.lt_size hoL)⟩
end
end Mine81
namespace Mine81
section
local macro_rules | `(tactic| walk_at "zz") => `(tactic| skip)
open PySem.W.X (SegX s_call s_again s_pop s_end s_yield wake_any)
section
variable {w : World} {dp un : Nat} {fr : Option (List Env)} {gd : Option (List Code)} {s : Shared} {E : Value → Shared → Prop} {g : Heap}
theorem pyNextG {l G : Addr} {vs : List Value} {gid n : Nat} {f : Nat → Option Int} {gs : GenState} {own : List (Addr × Obj)} {Q : Option Value → Shared → Prop}
    (hg : s.heap.IsGen G gid) (hgs : s.gens[gid]? = some gs) (hl : s.heap.NoLimit) (hdp : dp + 10 < recursionLimit) (hun : un + 30 < cLine)
    (ok : GOk w g l vs (n + 1) f gs own) (C : GCond g l vs own s)
    (hY : ∀ x t gs' own' s₁, f 0 = some x → gs'.bare = true → GKeep own (s.setGen gid .running) s₁ → (∀ q ∈ own', s₁.heap.get? q.1 = some q.2 ∧ g.get? q.1 = none ∧ q.1 ≠ l) →
      (∀ q ∈ own', q.1 ∈ own.map (·.1) ∨ s.heap.get? q.1 = none) → GOk w g l vs n (fun k => f (k + 1)) gs' own' → Q (some (.int x t)) (s₁.setGen gid gs'))
    (hP : f 0 = none → ∀ s₁ h', GKeep own (s.setGen gid .running) s₁ → (∀ b o, s₁.heap.get? b = some o → h'.get? b = some o) → Q none { s₁.setGen gid .finished with heap := h' }) :
    wpAny (model Challenge.rw_rl0081_01.row.prog w) (Around.mk none dp fr gd un) (pyNext (.ref G)) Q E s := by
  have ok' := ok ((Around.mk none dp fr gd un).in1.depth) ((Around.mk none dp fr gd un).in1.units) ((Around.mk none dp fr gd un).in1.frames) ((Around.mk none dp fr gd un).in1.guards) (s.setGen gid .running) (show dp + 5 < recursionLimit by omega) (show un + 1 + 20 < cLine by omega) ⟨C.ground, C.own, C.list⟩
  unfold pyNext
  refine wpAny_bind (wpAny_attempt (wpAny_callSpecial?_slot (name := Str.ofString "__next__") hg.typeIs slot_gen_next
    (wpAny_call_entry slot_gen_next hg.typeIs entry_gen_next ?_ (args_gen_next _))))
  show wpAny _ _ (Builtin.Generator.genWake (.ref G) (.send .none)) _ _ s
  unfold Builtin.Generator.genWake
  refine wpAny_bind (wpAny_holding (wpAny_genNumber hg (wpAny_bind (wpAny_genState hgs ?_))))
  cases gs
  case running => exact ok'.elim
  case finished => exact ok'.elim
  all_goals
    refine wpAny_bind (wpAny_roomToWake hl (show dp < recursionLimit by omega) ?_)
    show wpAny _ _ (.resume gid (.send .none) [] _) _ _ s
    refine wake_any _ _ _ hgs (by first | exact .inl ⟨rfl, rfl, rfl, rfl⟩ | exact .inr ⟨_, _, _, _, rfl, rfl⟩) (fun Γ => Γ.In _) (fun _ h => h) (SegX.mono ok' fun e s₁ h => ?_)
    obtain ⟨hk, hm⟩ := h
    cases hf : f 0 with
    | none =>
      rw [hf] at hm
      dsimp only at hm
      subst hm
      show wpAny (model Challenge.rw_rl0081_01.row.prog w) (Around.mk none dp fr gd un).in1 (newExc (.type "StopIteration") [] >>= _) _ _ _
      refine wpAny_bind ?_
      simp only [newExc, newTuple]
      refine wpAny_bind (wpAny_newObj_type ?_ (by size_fits))
      refine wpAny_bind (m := firstArgMember _ _) (wpAny_of_eq (a := Value.none) (by first | rfl | (simp only [firstArgMember]; rfl)) ?_)
      refine wpAny_newObj_type ?_ (by size_fits)
      simp only [raiseNew]
      refine wpAny_bind (wpAny_bind (wpAny_handled ?_))
      rw [show (Around.mk none dp fr gd un).in1.handled = none from rfl]
      refine wpAny_throw ?_
      refine wpAny_bind (wpAny_isInstance (T := "StopIteration") (b := true) ⟨_, Heap.get?_push_size _ rfl, rfl⟩ isSubtype_stop ?_)
      exact wpAny_pure (hP hf s₁ _ hk fun b o hb => Heap.get?_push_of_some _ (Heap.get?_push_of_some _ hb))
    | some x =>
      rw [hf] at hm
      obtain ⟨t, gs', own', hr, hgs', hb, ho, hfr, hok⟩ := hm
      rw [hr, hgs']
      exact wpAny_pure ⟨_, rfl, wpAny_pure (hY x t gs' own' s₁ hf hb hk ho hfr hok)⟩
end
theorem bare_set {gens : Array GenState} {k : Nat} {x : GenState} (h : AllBare gens) (hx : x.bare = true) : AllBare (gens.setIfInBounds k x) := by
  intro y hy
  obtain ⟨i, hi, he⟩ := Array.getElem_of_mem hy
  rw [Array.getElem_setIfInBounds] at he
  · split at he
    · rw [← he]; exact hx
    · rw [← he]; exact h _ (Array.getElem_mem _)
  · simpa using hi
/-- a turn's end in a loop over the generator -/
noncomputable def StepG (g : Heap) (L : Addr) (own : List (Addr × Obj)) (J Jb : (Str → Option Value) → List (Addr × Obj) → Prop) (Q : Flow → Shared → Prop) (s₁ : Shared) (f : Flow) (s₂ : Shared) : Prop :=
  match f with
  | .ret v => Q (.ret v) s₂
  | .brk => ∃ h' tk' m₂ news₂, s₂ = ⟨h', s₁.gens, s₁.drawn, tk', s₁.os⟩ ∧ Fr g L h' m₂ ∧ News g L h' news₂ ∧ Jb m₂ news₂
  | _ => ∃ h' tk' m₂ news₂, s₂ = ⟨h', s₁.gens, s₁.drawn, tk', s₁.os⟩ ∧ Fr g L h' m₂ ∧ News g L h' news₂ ∧ (∀ e ∈ own, h'.get? e.1 = some e.2) ∧ (∀ e ∈ own, ∀ q ∈ news₂, q.1 ≠ e.1) ∧ J m₂ news₂
theorem StepG.next {g : Heap} {L : Addr} {own : List (Addr × Obj)} {J Jb : (Str → Option Value) → List (Addr × Obj) → Prop} {Q : Flow → Shared → Prop} {s₁ : Shared} {h' : Heap} {tk : Nat} {m₂ : Str → Option Value} {N2 : List (Addr × Obj)} (news₂ : List (Addr × Obj))
    (F : Fr g L h' m₂) (N : News g L h' N2) (ho : ∀ e ∈ own, e ∈ N2) (hsub : ∀ p ∈ news₂, p ∈ N2) (hne : ∀ e ∈ own, ∀ q ∈ news₂, q.1 ≠ e.1) (hJ : J m₂ news₂) :
    StepG g L own J Jb Q s₁ .next ⟨h', s₁.gens, s₁.drawn, tk, s₁.os⟩ := ⟨h', tk, m₂, news₂, rfl, F, fun p hp => N p (hsub p hp), fun e he => (N e (ho e he)).1, hne, hJ⟩
theorem StepG.brk {g : Heap} {L : Addr} {own : List (Addr × Obj)} {J Jb : (Str → Option Value) → List (Addr × Obj) → Prop} {Q : Flow → Shared → Prop} {s₁ : Shared} {h' : Heap} {tk : Nat} {m₂ : Str → Option Value} {N2 : List (Addr × Obj)} (news₂ : List (Addr × Obj))
    (F : Fr g L h' m₂) (N : News g L h' N2) (hsub : ∀ p ∈ news₂, p ∈ N2) (hJ : Jb m₂ news₂) :
    StepG g L own J Jb Q s₁ .brk ⟨h', s₁.gens, s₁.drawn, tk, s₁.os⟩ := ⟨h', tk, m₂, news₂, rfl, F, fun p hp => N p (hsub p hp), hJ⟩
theorem loopG {w : World} {dp un : Nat} {fr : Option (List Env)} {gd : Option (List Code)} {s : Shared} {env : Env} {g : Heap} {x : Str} {body : List Stmt} {Q : Flow → Shared → Prop} {px : Pos}
    {l G : Addr} {vs : List Value} {gid N : Nat} {f : Nat → Option Int} {gs : GenState} {own : List (Addr × Obj)} {m : Str → Option Value} {news : List (Addr × Obj)}
    (hx : env.kindOf x = some .local) (hp : (env.scope.kind == .class || (env.scope.kind == .module && env.locals != env.globals)) = false)
    (hlim : g.NoLimit) (hdp : dp + 10 < recursionLimit) (hun : un + 30 < cLine)
    (J : Nat → (Str → Option Value) → List (Addr × Obj) → Prop) (Jb : (Str → Option Value) → List (Addr × Obj) → Prop)
    (hJN : ∀ i m₁ news₁, J i m₁ news₁ → i < N)
    (hl : g.IsList l vs.toArray ∨ ∃ k, ∀ i m₁ news₁, J i m₁ news₁ → (l, W.listOf vs.toArray k) ∈ news₁)
    (hG : s.heap.IsGen G gid) (hgs : s.gens[gid]? = some gs) (hok : GOk w g l vs N f gs own) (hGg : g.get? G = none) (hGL : G ≠ env.locals) (hGl : G ≠ l)
    (hown : ∀ q ∈ own, s.heap.get? q.1 = some q.2 ∧ g.get? q.1 = none ∧ q.1 ≠ env.locals ∧ q.1 ≠ G ∧ q.1 ≠ l) (hdis : ∀ q ∈ own, ∀ e ∈ news, e.1 ≠ q.1) (hGn : ∀ e ∈ news, e.1 ≠ G)
    (F : Fr g env.locals s.heap m) (Nw : News g env.locals s.heap news) (h0 : J 0 m news)
    (hend : ∀ i m₁ news₁, f i = none → J i m₁ news₁ → Jb m₁ news₁)
    (step : ∀ i v t m₁ news₁ h tk gens own', f i = some v → J i m₁ news₁ → (∀ q ∈ own', ∀ e ∈ news₁, e.1 ≠ q.1) →
      Fr g env.locals h (fun y => if y = x then some (.int v t) else m₁ y) → News g env.locals h (news₁ ++ own') →
      wpAny (model Challenge.rw_rl0081_01.row.prog w) (Around.mk none dp fr gd un) (execs body env) (StepG g env.locals own' (J (i + 1)) Jb Q ⟨h, gens, s.drawn, tk, s.os⟩) NoE ⟨h, gens, s.drawn, tk, s.os⟩)
    (done : ∀ m₁ news₁ h tk gens, (AllBare s.gens → AllBare gens) → Jb m₁ news₁ → Fr g env.locals h m₁ → News g env.locals h news₁ → Q .next ⟨h, gens, s.drawn, tk, s.os⟩)
    {R : Result → Shared → Prop} (hR : ∀ f s', Q f s' → R (.ok f) s') :
    codeAny (model Challenge.rw_rl0081_01.row.prog w) (Around.mk none dp fr gd un) (.forLoop (.Name x px) (.ref G) body [] env) R s := by
  have isl : ∀ i m₁ news₁ (h : Heap), J i m₁ news₁ → Fr g env.locals h m₁ → News g env.locals h news₁ → h.IsList l vs.toArray := fun i m₁ news₁ h hJ F N => by
    rcases hl with hl | ⟨k, hl⟩
    · exact hl.at fun o e => F.keep l o e
    · exact News.isList N (hl _ _ _ hJ)
  refine codeAny_forLoop
    (fun k s' => ∃ h tk gens gs own m' news' i, s' = ⟨h, gens, s.drawn, tk, s.os⟩ ∧ (AllBare s.gens → AllBare gens) ∧ h.IsGen G gid ∧ gens[gid]? = some gs ∧ GOk w g l vs (N - i) (fun k => f (i + k)) gs own ∧
      (∀ q ∈ own, h.get? q.1 = some q.2 ∧ g.get? q.1 = none ∧ q.1 ≠ env.locals ∧ q.1 ≠ G ∧ q.1 ≠ l) ∧ (∀ q ∈ own, ∀ e ∈ news', e.1 ≠ q.1) ∧ (∀ e ∈ news', e.1 ≠ G) ∧
      Fr g env.locals h m' ∧ News g env.locals h news' ∧ J i m' news' ∧ k = N - i) ?_ N
    ⟨s.heap, s.toks, s.gens, gs, own, m, news, 0, rfl, id, hG, hgs, by simpa using hok, hown, hdis, hGn, F, Nw, h0, rfl⟩
  rintro k s' ⟨h, tk, gens, gs, own, m', news', i, rfl, hb, hG, hgs, hok, hown, hdis, hGn, F, Nw, hJ, rfl⟩
  have hiN := hJN i m' news' hJ
  obtain ⟨n, hn⟩ : ∃ n, N - i = n + 1 := ⟨N - i - 1, by omega⟩
  rw [hn] at hok
  have hsz : gid < gens.size := (Array.getElem?_eq_some_iff.mp hgs).1
  refine pyNextG (s := ⟨h, gens, s.drawn, tk, s.os⟩) hG hgs (hlim.keeps F.keep) hdp hun hok ⟨F.keep, fun e he => (hown e he).1, isl i m' news' h hJ F Nw⟩ ?_ ?_
  · intro v t gs' own' s₁ hf hbare hk ho hfr hok'
    have hf' : f i = some v := hf
    have hkeep : ∀ b o, (∀ q ∈ own, q.1 ≠ b) → h.get? b = some o → s₁.heap.get? b = some o := fun b o hb e => hk.heap b o (fun hm => by
      obtain ⟨q, hq, he⟩ := List.mem_map.mp hm
      exact hb q hq he) e
    have F1 : Fr g env.locals s₁.heap m' := ⟨F.ns.at' fun o e => hkeep _ o (fun q hq => (hown q hq).2.2.1) e, fun b o e => hkeep b o (fun q hq he => by rw [← he, (hown q hq).2.1] at e; cases e) (F.keep b o e), F.above⟩
    have N1 : News g env.locals s₁.heap news' := fun e he => ⟨hkeep _ _ (fun q hq he' => hdis q hq e he he'.symm) (Nw e he).1, (Nw e he).2⟩
    obtain ⟨oG, nm, qn, hoG, hcG, hdG, hsG⟩ := hG
    have hoG1 : s₁.heap.get? G = some oG := hkeep _ _ (fun q hq => (hown q hq).2.2.2.1) hoG
    have old : ∀ q ∈ own', q.1 ≠ env.locals ∧ q.1 ≠ G ∧ (∀ e ∈ news', e.1 ≠ q.1) := fun q hq => by
      rcases hfr q hq with hm | hm
      · obtain ⟨q', hq', he⟩ := List.mem_map.mp hm
        rw [← he]
        exact ⟨(hown q' hq').2.2.1, (hown q' hq').2.2.2.1, hdis q' hq'⟩
      · have hm' : h.get? q.1 = none := hm
        refine ⟨fun e => ?_, fun e => ?_, fun e he he' => ?_⟩
        · obtain ⟨oL, _, _, hL, _⟩ := F.ns
          rw [e, hL] at hm'; cases hm'
        · rw [e, hoG] at hm'; cases hm'
        · rw [← he', (Nw e he).1] at hm'; cases hm'
    dsimp only
    refine wpAny_assign_Name (wpAny_storeName_local hx (show (s₁.setGen gid gs').heap.Ns env.locals m' from F1.ns) (fun h₂ hn₂ hs₂ => ?_) hp)
    have F2 := F1.set hn₂ hs₂
    have N2 := N1.set hs₂
    have hsL : ∀ b o, b ≠ env.locals → s₁.heap.get? b = some o → h₂.get? b = some o := fun b o hb e => hs₂.extBut b o hb e
    have hgens : s₁.gens.setIfInBounds gid gs' = gens.setIfInBounds gid gs' := by
      have := hk.gens
      rw [show s₁.gens = gens.setIfInBounds gid .running from this]
      simp
    have e1 : s₁.drawn = s.drawn := hk.drawn
    have e2 : s₁.os = s.os := hk.os
    have hst : ({ s₁.setGen gid gs' with heap := h₂, toks := (s₁.setGen gid gs').toks + 1 } : Shared) = ⟨h₂, gens.setIfInBounds gid gs', s.drawn, s₁.toks + 1, s.os⟩ := by
      rw [← hgens, ← e1, ← e2]; rfl
    rw [hst]
    have hnew : News g env.locals h₂ (news' ++ ((G, oG) :: own')) := fun e he => by
      rcases List.mem_append.mp he with he | he
      · exact N2 e he
      · rcases List.mem_cons.mp he with rfl | he
        · exact ⟨hsL _ _ hGL hoG1, hGL, hGg⟩
        · exact ⟨hsL _ _ (old e he).1 (ho e he).1, (old e he).1, (ho e he).2.1⟩
    have hdis2 : ∀ q ∈ (G, oG) :: own', ∀ e ∈ news', e.1 ≠ q.1 := fun q hq e he => by
      rcases List.mem_cons.mp hq with rfl | hq
      · exact hGn e he
      · exact (old q hq).2.2 e he
    refine wpAny_mono (step i v t m' news' h₂ _ _ _ hf' hJ hdis2 F2 hnew) (fun fl s₃ h₃ => ?_) fun _ _ e => e.elim
    have hb2 : AllBare s.gens → AllBare (gens.setIfInBounds gid gs') := fun z => bare_set (hb z) hbare
    cases fl
    case ret v => exact hR _ _ h₃
    case brk =>
      obtain ⟨h', tk', m₂, news₂, rfl, F3, N3, hJ3⟩ := h₃
      exact hR _ _ (done _ _ _ _ _ hb2 hJ3 F3 N3)
    all_goals
      obtain ⟨h', tk', m₂, news₂, rfl, F3, N3, ho3, hd3, hJ3⟩ := h₃
      have hi3 := hJN _ _ _ hJ3
      refine ⟨N - (i + 1), by omega, h', tk', _, gs', own', m₂, news₂, i + 1, rfl, hb2, ⟨oG, nm, qn, ho3 _ (.head _), hcG, hdG, hsG⟩, by simp [hsz], ?_, fun q hq => ⟨ho3 q (.tail _ hq), (ho q hq).2.1, (old q hq).1, (old q hq).2.1, (ho q hq).2.2⟩, fun q hq e he => hd3 q (.tail _ hq) e he, fun e he => hd3 _ (.head _) e he, F3, N3, hJ3, rfl⟩
      have e3 : N - (i + 1) = n := by omega
      rw [e3]
      have e4 : (fun k => f (i + 1 + k)) = fun k => f (i + (k + 1)) := by funext k; congr 1; omega
      rw [e4]
      exact hok'
  · intro hf s₁ h' hk hk'
    have hf' : f i = none := hf
    have hkeep : ∀ b o, (∀ q ∈ own, q.1 ≠ b) → h.get? b = some o → h'.get? b = some o := fun b o hb e => hk' b o (hk.heap b o (fun hm => by
      obtain ⟨q, hq, he⟩ := List.mem_map.mp hm
      exact hb q hq he) e)
    have F1 : Fr g env.locals h' m' := ⟨F.ns.at' fun o e => hkeep _ o (fun q hq => (hown q hq).2.2.1) e, fun b o e => hkeep b o (fun q hq he => by rw [← he, (hown q hq).2.1] at e; cases e) (F.keep b o e), F.above⟩
    have N1 : News g env.locals h' news' := fun e he => ⟨hkeep _ _ (fun q hq he' => hdis q hq e he he'.symm) (Nw e he).1, (Nw e he).2⟩
    dsimp only
    refine wpAny_execs_nil ?_
    have hgens : s₁.gens.setIfInBounds gid .finished = gens.setIfInBounds gid .finished := by
      rw [show s₁.gens = gens.setIfInBounds gid .running from hk.gens]
      simp
    have hst : ({ s₁.setGen gid .finished with heap := h' } : Shared) = ⟨h', gens.setIfInBounds gid .finished, s.drawn, s₁.toks, s.os⟩ := by
      rw [← hgens, ← (show s₁.drawn = s.drawn from hk.drawn), ← (show s₁.os = s.os from hk.os)]; rfl
    rw [hst]
    exact hR _ _ (done _ _ _ _ _ (fun z => bare_set (hb z) rfl) (hend i m' news' hf' hJ) F1 N1)
end
end Mine81
namespace Mine81
section
local macro_rules | `(tactic| walk_at "zz") => `(tactic| skip)
local macro_rules | `(tactic| walk_at "zz") => `(tactic| skip)
/-- the line's signs, from the sizes that the generator tells -/
noncomputable def lnRun : Nat → (Nat → Option Int) → Int → List Nat → List Nat
  | 0, _, _, acc => acc
  | n + 1, f, most, acc => match f 0 with
    | none => acc
    | some x => if (acc.length : Int) + x > most then acc else lnRun n (fun k => f (k + 1)) most (acc ++ (List.replicate (x - 1).toNat 32 ++ [9]))
noncomputable def lnAll (ns : List Int) (most : Int) : List Nat := lnRun 20 (gAt none ns) most []
noncomputable def lineF (ns : List Int) (most : Int) : Str := ⟨(lnAll ns most ++ List.replicate (most - (lnAll ns most).length).toNat 32).toArray⟩
theorem frN {g h : Heap} {L a : Addr} {m : Str → Option Value} (F : Fr g L h m) (ha : h.get? a = none) : g.get? a = none := by
  cases q : g.get? a with
  | none => rfl
  | some o => rw [F.keep a o q] at ha; cases ha
theorem frL {g h : Heap} {L a : Addr} {m : Str → Option Value} (F : Fr g L h m) (ha : h.get? a = none) : a ≠ L := fun e => by
  obtain ⟨oL, _, _, hL, _⟩ := F.ns
  rw [e, hL] at ha; cases ha
theorem frI {g h : Heap} {L a l : Addr} {vs : List Value} {m : Str → Option Value} (F : Fr g L h m) (hl : g.IsList l vs.toArray) (ha : h.get? a = none) : a ≠ l := fun e => by
  obtain ⟨ol, hol, _⟩ := hl
  rw [e, F.keep l ol hol] at ha; cases ha
theorem blanks (n : Int) : Txt.mul (Str.ofString " ") n = ⟨(List.replicate n.toNat 32).toArray⟩ := by
  have e := mul_one_list 32 n
  rw [show Str.ofString " " = ⟨#[32]⟩ from by decide +kernel]
  cases h : Txt.mul ⟨#[32]⟩ n
  rw [h] at e
  congr 1
  rw [← e]
theorem glue (a b : List Nat) : (⟨a.toArray⟩ : Str) ++ (⟨b.toArray⟩ : Str) = ⟨(a ++ b).toArray⟩ := by
  show Str.append _ _ = _
  unfold Str.append
  simp
theorem tabS : Str.ofString "\t" = ⟨[9].toArray⟩ := by decide +kernel
noncomputable def lnJ (ns : List Int) (most : Int) (tm : Tok) (i : Nat) (m : Str → Option Value) (news : List (Addr × Obj)) : Prop :=
  ∃ (acc : List Nat) (t : Tok) (m₁ : Str → Option Value), m = pinM [(Str.ofString "line", .str ⟨acc.toArray⟩ t), (Str.ofString "most", .int most tm)] m₁ ∧ news = [] ∧
    lnRun (20 - i) (fun k => gAt none ns (i + k)) most acc = lnAll ns most ∧ i ≤ acc.length ∧ (acc.length : Int) ≤ most
noncomputable def lnE (ns : List Int) (most : Int) (tm : Tok) (m : Str → Option Value) (news : List (Addr × Obj)) : Prop :=
  ∃ (t : Tok) (m₁ : Str → Option Value), m = pinM [(Str.ofString "line", .str ⟨(lnAll ns most).toArray⟩ t), (Str.ofString "most", .int most tm)] m₁ ∧ news = [] ∧ ((lnAll ns most).length : Int) ≤ most
local macro_rules
  | `(tactic| walk_at "exec For Name Call cons nil") => `(tactic| refine stop_ ?_)
theorem e20 {j : Nat} (h : j ≤ 7) : 20 - j = (19 - j) + 1 := Nat.succ_sub (Nat.le_trans h (by decide))
theorem e20' (j : Nat) : 20 - (j + 1) = 19 - j := Nat.succ_sub_succ 19 j
section
variable {w : World} {mean : ExcName → Option Value} {mg mb : Str → Option Value} {dp un : Nat} {fr : Option (List Env)} {gd : Option (List Code)} {s : Shared} {Q : Flow → Shared → Prop} {g : Heap} {L f : Addr} {cd : Value} {m : Str → Option Value} {sc : Scope} {bd : List Stmt} {ns : List Int} {most : Int} {t2 : Tok}
theorem lineR {acc : List Nat} {i : Nat} {v : Int} {tv ta : Tok} {own : List (Addr × Obj)} (hsc : sc = scopeAt 10) (hbd : bd = bodyAt 1 (bodyAt 10 mainB)) (hT : Top hd.view_39 (looseW hd.view_39 [Str.ofString "Whitespace"]) mean mg mb g) (hX : (hd.heap_39 w.params).In g)
    (hm : 5 ≤ most) (hm' : most ≤ 7) (hv : 1 ≤ v ∧ v ≤ 200) (hf : gAt none ns i = some v) (hrun : lnRun (20 - i) (fun k => gAt none ns (i + k)) most acc = lnAll ns most) (h1 : i ≤ acc.length) (h2 : (acc.length : Int) ≤ most)
    (F : Fr g L s.heap (pinM [(Str.ofString "size", .int v tv), (Str.ofString "line", .str ⟨acc.toArray⟩ ta), (Str.ofString "most", .int most t2)] m)) (N : News g L s.heap own) :
    wpAny (model Challenge.rw_rl0081_01.row.prog w) ((Around.mk none dp fr gd un).deeper (envOf (Str.ofString "_law_line") sc L f cd)) (execs bd (envOf (Str.ofString "_law_line") sc L f cd)) (StepG g L own (lnJ ns most t2 (i + 1)) (lnE ns most t2) Q s) NoE s := by
  conv at hsc => rhs; whnf
  conv at hbd => rhs; whnf
  subst hsc hbd
  revert hX
  k_fill
  intro hX
  have hlen : (Str.mk acc.toArray).length = acc.length := by simp [Str.length]
  have hi : i ≤ 7 := Int.ofNat_le.mp (Int.le_trans (Int.le_trans (Int.ofNat_le.mpr h1) h2) hm')
  rw [e20 hi, lnRun] at hrun
  simp only [Nat.add_zero, hf] at hrun
  k_steps
  · rename _ > _ => hp
    rw [hlen] at hp
    rw [if_pos hp] at hrun
    subst hrun
    exact StepG.brk [] F N (fun _ h => nomatch h) ⟨ta, _, pin_self ⟨rfl, rfl, trivial⟩, rfl, h2⟩
  · rename ¬ _ > _ => hp
    rw [hlen] at hp
    rename Fr _ _ _ _ => F9
    rename News _ _ _ _ => N9
    rw [blanks, tabS, glue, glue] at F9
    rw [if_neg hp] at hrun
    have hl9 : (acc ++ (List.replicate (v - 1).toNat 32 ++ [9])).length = acc.length + v.toNat := by
      rw [List.length_append, List.length_append, List.length_replicate]; show _ + ((v - 1).toNat + 1) = _; omega
    refine StepG.next [] F9 N9 (fun _ h => h) (fun _ h => nomatch h) (fun _ _ _ h => nomatch h) ⟨_, _, _, pin_self ⟨rfl, rfl, trivial⟩, rfl, ?_, ?_, ?_⟩
    · rw [← hrun, e20']
      congr 1
      funext k; congr 1; omega
    · rw [hl9]; omega
    · rw [hl9]; omega
end
theorem line81 {w : World} {mean : ExcName → Option Value} {mg mb : Str → Option Value} {dp un : Nat} {fr : Option (List Env)} {gd : Option (List Code)} {s : Shared} {Q E : Value → Shared → Prop} {l : Addr} {vs : List Value} {ns : List Int} {most : Int} {t2 : Tok}
    (G : Gd w mean mg mb s.heap) (hA : dp + 20 < recursionLimit) (hu : un + 50 < cLine) (hl : s.heap.IsList l vs.toArray) (hi : IntsAre vs ns) (hns : ns.head? ≠ some 0) (hm : 5 ≤ most) (hm' : most ≤ 7)
    (hpos : ∀ i x, gAt none ns i = some x → 1 ≤ x ∧ x ≤ 200) (hret : ∀ t s', Keep s s' → Q (.str (lineF ns most) t) s') :
    wpAny (model Challenge.rw_rl0081_01.row.prog w) (Around.mk none dp fr gd un) (call (.ref 108) [.ref l, .int most t2]) Q E s := by
  have hT := G.T
  have hX := G.X
  revert hX
  k_fill
  intro hX
  refine' enterP ?kG ?k6 ?k7 ?k8 ?k9 ?kB ?_ ?c2 ?c3 ?c4 ?c5; (case kG => exact G); (case k6 => k_is); (case k7 => k_is); (case k8 => (show dp < recursionLimit; omega)); (case k9 => exact BindsTo.of_eq rfl); (case c5 => decide); (case kB => exact locs rfl); (case c2 => exact rfl); (case c3 => exact rfl); (case c4 => exact rfl)
  intro h' F' N'; (try dsimp only)
  k_steps
  refine For_W ?_
  k_steps
  rename Fr _ _ _ _ => F1
  rename News _ _ _ _ => N1
  refine gen_make (g := s.heap) F1 hT hX (show dp + 1 + 1 < recursionLimit by omega) (hl.at fun o e => F1.keep l o e) hi hns ?_
  intro h2 tk2 Gn gs own hok hbare hk2 hGen hGnone hown
  refine wpAny_pyIter_gen (hGen) ?_
  intro R hR
  have F2 := Fr.keeps' F1 hk2
  refine loopG (g := s.heap) (news := []) (f := gAt none ns) (N := 20) rfl rfl hT.nolimit (show dp + 1 + 10 < recursionLimit by omega) (show un + 3 + 30 < cLine by omega) (lnJ ns most t2) (lnE ns most t2) ?_ (.inl hl) hGen (by simp) (hok 20) (frN F1 hGnone) (frL F1 hGnone) (frI F1 hl hGnone)
    (fun q hq => ⟨(hown q hq).1, frN F1 (hown q hq).2.1, frL F1 (hown q hq).2.1, (hown q hq).2.2, frI F1 hl (hown q hq).2.1⟩) (fun _ _ _ he => nomatch he) (fun _ he => nomatch he) F2 News.nil ?_ ?_ ?_ ?_ hR
  · rintro i m₁ news₁ ⟨acc, t, m₂, rfl, rfl, hrun, h1, h2⟩
    omega
  · exact ⟨[], _, _, pin_self ⟨rfl, rfl, trivial⟩, rfl, rfl, Nat.le_refl _, by simp; omega⟩
  · rintro i m₁ news₁ hf ⟨acc, t, m₂, rfl, rfl, hrun, h1, h2⟩
    have e : acc = lnAll ns most := by
      rw [e20 (Int.ofNat_le.mp (Int.le_trans (Int.le_trans (Int.ofNat_le.mpr h1) h2) hm')), lnRun] at hrun
      simp only [Nat.add_zero, hf] at hrun
      exact hrun
    subst e
    exact ⟨t, m₂, rfl, rfl, h2⟩
  · rintro i v t m₁ news₁ h tk gens own' hf ⟨acc, ta, m₂, rfl, rfl, hrun, h1, h2⟩ hdis F3 N3
    exact lineR rfl rfl hT hX hm hm' (hpos i v hf) hf hrun h1 h2 F3 N3
  · rintro m₁ news₁ h tk gens hb ⟨t, m₂, rfl, rfl, h2⟩ F3 N3
    dsimp only [pinM] at F3
    clear F1 N1 F2
    dsimp only
    have hlen : (Str.mk (lnAll ns most).toArray).length = (lnAll ns most).length := by simp [Str.length]
    k_steps
    rename Fr _ _ _ _ => F9
    rw [blanks, hlen, glue]
    exact hret _ _ ⟨F9.keep, rfl, rfl, fun z => hb (z.push hbare)⟩
end
end Mine81
namespace Mine81
section
theorem Hid.refl {w : World} {mean : ExcName → Option Value} {mg mb : Str → Option Value} {s : Shared} (G : Gd w mean mg mb s.heap) : Hid w mean mg mb s [] s.heap :=
  ⟨G.T, G.X, fun _ h => (nomatch h), fun _ h => (nomatch h), fun _ _ e => e, fun _ _ e _ => e, rfl⟩
section
variable {prog : Program} {w : World} {A : Around} {E : Value → Shared → Prop} {s : Shared} {h₀ : Heap} {L : Addr} {m : Str → Option Value} {env : Env} {news : List (Addr × Obj)}
theorem ints_ints : ∀ {vs : List Value} {ns : List Int}, IntsAre vs ns → kf_ints vs = true
  | _, _, .nil => rfl
  | _, _, .cons _ _ r => by have := ints_ints r; simpa [kf_ints] using this
theorem ints_at {k : Int} : ∀ {vs : List Value} {ns : List Int}, IntsAre vs ns → (ns.any fun x => x == k) = true → kf_at k vs = some (ns.idxOf k)
  | _, _, .nil, h => by simp at h
  | _, _, .cons x t r, h => by
    rw [List.any_cons] at h
    rw [List.idxOf_cons]
    unfold kf_at
    by_cases hx : x = k
    · subst hx; simp [isInt]
    · have hx' : (x == k) = false := by simpa using hx
      rw [hx', Bool.false_or] at h
      have := ints_at r h
      simp [isInt, hx', this]
theorem idxK {D : Addr} {vs : List Value} {ns : List Int} {n : Nat} {k : Int} {t : Tok} {Q : Value → Shared → Prop} (N : News h₀ L s.heap news) (hm : (D, W.listOf vs.toArray n) ∈ news) (hi : IntsAre vs ns) (hin : (ns.any fun x => x == k) = true) (hz : ns.length ≤ 1000000)
    (h : Q (.int (ns.idxOf k : Nat) s.toks) { s with toks := s.toks + 1 }) : wpAny (model prog w) A (call (.builtin "list.index") [.ref D, .int k t]) Q E s :=
  kf_index N hm (by simpa using ints_ints hi) (by simpa using ints_at hi hin) rfl (by rw [sizeLine_eq]; simp [hi.length]; omega) h
/-- what a comprehension's source must serve, under a name that no line takes -/
noncomputable def CSrcU (prog : Program) (w : World) (A : Around) (h₀ : Heap) (L : Addr) (m : Str → Option Value) (env : Env) (elt : Expr) (x : Str) (scope : Scope) (cl : List (Str × Addr)) (Fin : Shared → List Value → List (Addr × Obj) → Prop) (xv : Value) (s₁ : Shared) : Prop :=
  LCg.CompSrc prog w A h₀ L m env elt x scope cl Fin xv s₁
noncomputable def CSrcT (prog : Program) (w : World) (A : Around) (h₀ : Heap) (L : Addr) (m : Str → Option Value) (env : Env) (ct elt : Expr) (x : Str) (scope : Scope) (cl : List (Str × Addr)) (Fin : Shared → List Value → List (Addr × Obj) → Prop) (xv : Value) (s₁ : Shared) : Prop :=
  LCt.CompSrcT prog w A h₀ L m env ct elt x scope cl Fin xv s₁
theorem filt_rest {ct elt : Expr} {x : Str} {scope : Scope} {cl : List (Str × Addr)} {S : List (Addr × Obj) → Prop} {Fin : List Value → List (Addr × Obj) → Prop} {vs : List Value} {ns : List Int} (p : Int → Bool) (hi : IntsAre vs ns)
    (turn : ∀ k t I oI C oC D m₂ ys h tk (E' : Value → Shared → Prop), k ∈ ns → LCg.NsObj oC m₂ → m₂ x = some (.int k t) → Fr h₀ L h m → News h₀ L h ((I, oI) :: (C, oC) :: (D, LCg.lst ys) :: news) → LCg.Off3 I C D news → ((@Ne Nat I C) ∧ (@Ne Nat I D) ∧ (@Ne Nat C D)) →
      wpAny (model prog w) A (isTrue ct (compEnvC scope cl C env) (eval ct (compEnvC scope cl C env))) (fun ok s' => if ok = true then
        wpAny (model prog w) A (eval elt (compEnvC scope cl C env)) (LCg.CompEnd h₀ L m { s with heap := h, toks := tk } I oI C oC D (LCg.lst ys) S (fun y news' => p k = true ∧ KCfEl news k y news')) E' s'
        else LCg.CompEnd h₀ L m { s with heap := h, toks := tk } I oI C oC D (LCg.lst ys) S (fun _ news' => p k = false ∧ news' = news) Value.none s') E' { s with heap := h, toks := tk })
    (fin : ∀ ys, IntsAre ys (ns.filter p) → Fin ys news) :
    LCt.CompRestT prog w A h₀ L m env ct elt x scope cl s S (fun i v => vs.toArray[i]? = some v) Fin vs.toArray.size 0 [] news := by
  have key : ∀ (j i : Nat) (ys : List Value), i + j = vs.toArray.size → IntsAre ys ((ns.take i).filter p) → LCt.CompRestT prog w A h₀ L m env ct elt x scope cl s S (fun i v => vs.toArray[i]? = some v) Fin j i ys news := by
    intro j
    induction j with
    | zero =>
      intro i ys hij hy
      have e : i = ns.length := by rw [List.size_toArray, hi.length] at hij; omega
      subst e
      rw [List.take_length] at hy
      exact LCt.CompRestT.zero (fin ys hy)
    | succ j ih =>
      intro i ys hij hy
      refine LCt.CompRestT.succ ?_
      intro v I oI C oC D m₂ h tk E' hv hC hx F N off ne
      obtain ⟨k, t, rfl, hk⟩ := IntsAre.at hi i v (by simpa using hv)
      refine wpAny_mono (turn k t I oI C oC D m₂ ys h tk E' (List.mem_of_getElem? hk) hC hx F N off ne) (fun ok s₂ hq => ?_) fun _ _ e => e
      cases ok with
      | true =>
        simp only [if_true] at hq ⊢
        refine wpAny_mono hq (fun y s₃ hq => ?_) fun _ _ e => e
        obtain ⟨h', tk', nw, e, F', N', off', hS, hp, hn, t', hy'⟩ := hq
        rw [hn] at N' off' hS
        refine ⟨h', tk', news, e, F', N', off', hS, ?_⟩
        rw [hy']
        refine ih (i + 1) _ (by omega) ?_
        rw [List.take_add_one, hk, List.filter_append]
        have : IntsAre [Value.int k t'] (List.filter p (some k).toList) := by simp [hp]; exact .cons k t' .nil
        exact IntsAre.append hy this
      | false =>
        simp only [Bool.false_eq_true, if_false] at hq ⊢
        obtain ⟨h', tk', nw, e, F', N', off', hS, hp, hn⟩ := hq
        rw [hn] at N' off' hS
        refine ⟨h', tk', news, e, F', N', off', hS, ?_⟩
        refine ih (i + 1) _ (by omega) ?_
        rw [List.take_add_one, hk, List.filter_append]
        have : List.filter p (some k).toList = [] := by simp [hp]
        rw [this, List.append_nil]
        exact hy
  exact key _ 0 [] (by omega) (by simp only [List.take_zero, List.filter_nil]; exact .nil)
end
section
variable {prog : Program} {w : World} {A : Around} {E : Value → Shared → Prop} {s : Shared} {h₀ : Heap} {L : Addr} {m : Str → Option Value} {env : Env}
theorem AssignComp_W {elt iter : Expr} {x y : Str} {px py : Pos} {scope : Scope} {cl : List (Str × Addr)} {pos spos : Pos} {Q : Flow → Shared → Prop} (F₀ : Fr h₀ L s.heap m) (hLe : env.locals = L)
    (hsw : swapsWith (.ListComp elt [⟨.Name x px, iter, [], 0⟩] scope pos) (some (.Name y py)) spos.line env = pure true)
    (hclos : closureFor scope env = pure cl) (hcell : ∀ z ∈ scope.names, z.2 ≠ .cell) (hkind : scope.kind = .function)
    (hnames : ∀ z ∈ scope.names, z.2 = .local → scope.names.lookup z.1 = some .local) (hx : scope.names.lookup x = some .local)
    (hy : env.kindOf y = some .local) (hp : (env.scope.kind == .class || (env.scope.kind == .module && env.locals != env.globals)) = false)
    (h : wpAny (model prog w) A (eval iter env) (CSrcU prog w A h₀ L m env elt x scope cl (fun s₂ => LCg.FinA h₀ L m s₂ y Q)) E s)
    (hs : ∀ x, foldedSetIterable iter env x = pure x := by intro _; rfl) :
    wpAny (model prog w) A (exec (.Assign [.Name y py] (.ListComp elt [⟨.Name x px, iter, [], 0⟩] scope pos) spos) env) Q E s :=
  LCg.Assign_ListComp_U F₀ hLe hsw hclos hcell hkind hnames hx hy hp h hs
theorem CompT_W {ct elt iter : Expr} {x : Str} {px : Pos} {scope : Scope} {cl : List (Str × Addr)} {pos : Pos} {Q : Value → Shared → Prop} (F₀ : Fr h₀ L s.heap m)
    (hclos : closureFor scope env = pure cl) (hcell : ∀ y ∈ scope.names, y.2 ≠ .cell) (hkind : scope.kind = .function)
    (hnames : ∀ y ∈ scope.names, y.2 = .local → scope.names.lookup y.1 = some .local) (hx : scope.names.lookup x = some .local)
    (h : wpAny (model prog w) A (eval iter env) (CSrcT prog w A h₀ L m env ct elt x scope cl (fun s₂ => LCg.FinE h₀ L m s₂ Q)) E s)
    (hs : ∀ x, foldedSetIterable iter env x = pure x := by intro _; rfl) :
    wpAny (model prog w) A (eval (.ListComp elt [⟨.Name x px, iter, [ct], 0⟩] scope pos) env) Q E s :=
  LCt.ListComp_T F₀ hclos hcell hkind hnames hx h hs
end
section
variable {prog : Program} {w : World} {A : Around} {E : Value → Shared → Prop} {s : Shared} {h₀ : Heap} {L : Addr} {m : Str → Option Value} {env : Env} {news : List (Addr × Obj)}
noncomputable def mkSums (ns : List Int) : List Int := (rangeKs 0 ns.length).map fun k => (ns.take (k + 1).toNat).sum
theorem srcSum {elt : Expr} {x : Str} {scope : Scope} {cl : List (Str × Addr)} {Fin : Shared → List Value → List (Addr × Obj) → Prop} {r : Addr} {t u v : Tok} {told : List Int}
    (F : Fr h₀ L s.heap m) (N : News h₀ L s.heap news) (hr : IsRange s.heap r 0 told.length 1 t u v) (hl : told.length ≤ 20) (hh : A.handled = none)
    (turn : ∀ (g : Heap) k t I oI C oC D m₂ ys h tk (E' : Value → Shared → Prop), 0 ≤ k → k < (told.length : Int) → LCg.NsObj oC m₂ → m₂ x = some (.int k t) → Fr h₀ L h m → News h₀ L h ((I, oI) :: (C, oC) :: (D, LCg.lst ys) :: news) → LCg.Off3 I C D news → ((@Ne Nat I C) ∧ (@Ne Nat I D) ∧ (@Ne Nat C D)) →
      wpAny (model prog w) A (eval elt (compEnvC scope cl C env)) (LCg.CompEnd h₀ L m ⟨h, s.gens, s.drawn, tk, s.os⟩ I oI C oC D (LCg.lst ys) (fun _ => True) (fun y news' => KCfEl news (told.take (k + 1).toNat).sum y news')) E' ⟨h, s.gens, s.drawn, tk, s.os⟩)
    (fin : ∀ (g : Heap) ys, IntsAre ys (mkSums told) → Fin { s with heap := g } ys news) : CSrcU prog w A h₀ L m env elt x scope cl Fin (.ref r) s := by
  refine LCg.CompSrc.range hh F N hr (rng_small (by omega) (by omega) (by omega) (by omega)) (rng_size _ _) (by rw [sizeLine_eq]; omega) fun g => ?_
  have e : ((told.length : Int) - 0).toNat = told.length := by omega
  rw [e]
  refine kcf_range (fun k => (told.take (k + 1).toNat).sum) (fun k t I oI C oC D m₂ ys h tk E' h1 h2 hC hx F N off ne mk => ?_) (fin g)
  exact turn g k t I oI C oC D m₂ ys h tk E' h1 (by omega) hC hx F N off ne
theorem srcFilt {ct elt : Expr} {x : Str} {scope : Scope} {cl : List (Str × Addr)} {Fin : Shared → List Value → List (Addr × Obj) → Prop} {vs : List Value} {ns : List Int} {ax : Addr} {k : Nat} (p : Int → Bool) (hi : IntsAre vs ns) (hl : ns.length ≤ 20)
    (F : Fr h₀ L s.heap m) (N : News h₀ L s.heap news) (hm : (ax, W.listOf vs.toArray k) ∈ news) (hh : A.handled = none)
    (turn : ∀ (g : Heap) k t I oI C oC D m₂ ys h tk (E' : Value → Shared → Prop), k ∈ ns → LCg.NsObj oC m₂ → m₂ x = some (.int k t) → Fr h₀ L h m → News h₀ L h ((I, oI) :: (C, oC) :: (D, LCg.lst ys) :: news) → LCg.Off3 I C D news → ((@Ne Nat I C) ∧ (@Ne Nat I D) ∧ (@Ne Nat C D)) →
      wpAny (model prog w) A (isTrue ct (compEnvC scope cl C env) (eval ct (compEnvC scope cl C env))) (fun ok s' => if ok = true then
        wpAny (model prog w) A (eval elt (compEnvC scope cl C env)) (LCg.CompEnd h₀ L m ⟨h, s.gens, s.drawn, tk, s.os⟩ I oI C oC D (LCg.lst ys) (LCg.SrcAt h₀ ax vs.toArray) (fun y news' => p k = true ∧ KCfEl news k y news')) E' s'
        else LCg.CompEnd h₀ L m ⟨h, s.gens, s.drawn, tk, s.os⟩ I oI C oC D (LCg.lst ys) (LCg.SrcAt h₀ ax vs.toArray) (fun _ news' => p k = false ∧ news' = news) Value.none s') E' ⟨h, s.gens, s.drawn, tk, s.os⟩)
    (fin : ∀ (g : Heap) ys, IntsAre ys (ns.filter p) → Fin { s with heap := g } ys news) : CSrcT prog w A h₀ L m env ct elt x scope cl Fin (.ref ax) s := by
  refine LCt.CompSrcT.ledger hh F N hm (by rw [sizeLine_eq]; simp [hi.length]; omega) fun g => ?_
  exact filt_rest p hi (fun k t I oI C oC D m₂ ys h tk E' hk hC hx F N off ne => turn g k t I oI C oC D m₂ ys h tk E' hk hC hx F N off ne) (fin g)
end
theorem catLe {l : List Int} {k : Int} (h : l.length ≤ 8) (hk : k ≤ 7) : l.length + (List.replicate k.toNat (l.drop (l.length - 1))).flatten.length ≤ 15 := by
  have h1 : (l.drop (l.length - 1)).length ≤ 1 := by rw [List.length_drop]; omega
  have h2 : k.toNat ≤ 7 := by omega
  have h3 : (List.replicate k.toNat (l.drop (l.length - 1))).flatten.length ≤ 7 := by
    simp only [List.length_flatten, List.map_replicate, List.sum_replicate_nat]
    exact Nat.le_trans (Nat.mul_le_mul h2 h1) (Nat.le_refl _)
  omega
theorem lenK' {prog : Program} {w : World} {A : Around} {E : Value → Shared → Prop} {s : Shared} {h₀ : Heap} {L l : Addr} {news : List (Addr × Obj)} {vs : List Value} {ns : List Int} {k : Nat} {Q : Value → Shared → Prop} (N : News h₀ L s.heap news) (hm : (l, W.listOf vs.toArray k) ∈ news) (hi : IntsAre vs ns) (hz : ns.length ≤ 20)
    (h : ∀ t tk, ns.length ≤ 20 → Q (.int (ns.length : Int) t) { s with toks := tk }) : wpAny (model prog w) A (call (.builtin "len") [.ref l]) Q E s :=
  lenK N hm hi (by omega) fun t tk => h t tk hz
noncomputable def mk127 (ns : List Int) : List Int := if (ns.any fun x => x == 127) = true then ns.take (ns.idxOf 127) else ns
noncomputable def mk0 (most : Int) (ns : List Int) : List Int := if (ns.any fun x => x == 0) = true then ns.take (ns.idxOf 0) ++ (List.replicate most.toNat ((ns.take (ns.idxOf 0)).drop ((ns.take (ns.idxOf 0)).length - 1))).flatten else ns
noncomputable def marksF (ns : List Int) (most : Int) : List Int := (mkSums (mk0 most (mk127 ns))).filter fun k => decide (k ≤ most)
theorem mkSums_len (ns : List Int) : (mkSums ns).length = ns.length := by unfold mkSums; rw [List.length_map, rangeKs_length]
section
variable {ns : List Int} {most : Int}
theorem mk_tt (a : (ns.any fun x => x == 127) = true) (b : ((ns.take (ns.idxOf 127 : Int).toNat).any fun x => x == 0) = true) :
    mk0 most (mk127 ns) = (ns.take (ns.idxOf 127 : Int).toNat).take (((ns.take (ns.idxOf 127 : Int).toNat).idxOf 0 : Nat) : Int).toNat ++ (List.replicate most.toNat (((ns.take (ns.idxOf 127 : Int).toNat).take (((ns.take (ns.idxOf 127 : Int).toNat).idxOf 0 : Nat) : Int).toNat).drop (((ns.take (ns.idxOf 127 : Int).toNat).take (((ns.take (ns.idxOf 127 : Int).toNat).idxOf 0 : Nat) : Int).toNat).length - 1))).flatten := by
  simp only [Int.toNat_natCast] at *
  simp only [mk0, mk127, a, b, if_true]
theorem mk_tf (a : (ns.any fun x => x == 127) = true) (b : ((ns.take (ns.idxOf 127 : Int).toNat).any fun x => x == 0) = false) :
    mk0 most (mk127 ns) = ns.take (ns.idxOf 127 : Int).toNat := by
  simp only [Int.toNat_natCast] at *
  simp only [mk0, mk127, a, b, if_true, Bool.false_eq_true, if_false]
theorem mk_ft (a : (ns.any fun x => x == 127) = false) (b : (ns.any fun x => x == 0) = true) :
    mk0 most (mk127 ns) = ns.take (ns.idxOf 0 : Int).toNat ++ (List.replicate most.toNat ((ns.take (ns.idxOf 0 : Int).toNat).drop ((ns.take (ns.idxOf 0 : Int).toNat).length - 1))).flatten := by
  simp only [Int.toNat_natCast] at *
  simp only [mk0, mk127, a, b, if_true, Bool.false_eq_true, if_false]
theorem mk_ff (a : (ns.any fun x => x == 127) = false) (b : (ns.any fun x => x == 0) = false) : mk0 most (mk127 ns) = ns := by
  simp only [mk0, mk127, a, b, Bool.false_eq_true, if_false]
end
theorem stopLC {M : Model} {A : Around} {ts : List Expr} {e : Expr} {gs : List Comprehension} {sc : Scope} {p : Pos} {r : List Stmt} {ps : Pos} {env : Env} {Q : Flow → Shared → Prop} {E : Value → Shared → Prop} {s : Shared} (h : StopW M A (execs (.Assign ts (.ListComp e gs sc p) ps :: r) env) Q E s) : wpAny M A (execs (.Assign ts (.ListComp e gs sc p) ps :: r) env) Q E s := h
local macro_rules
  | `(tactic| walk_at "execs cons") => `(tactic| first | refine stopIf ?_ | refine stopLC ?_)
  | `(tactic| walk_at "call builtin:len") => `(tactic| refine stopL ?_)
  | `(tactic| walk_at "exec Assign cons ListComp") => `(tactic| refine stop_ ?_)
  | `(tactic| walk_at "eval ListComp") => `(tactic| refine stop_ ?_)
section
variable {w : World} {mean : ExcName → Option Value} {mg mb : Str → Option Value} {dp un : Nat} {fr : Option (List Env)} {gd : Option (List Code)} {s : Shared} {Q : Flow → Shared → Prop} {g : Heap} {L D : Addr} {f : Addr} {cd : Value} {m : Str → Option Value} {oT oM : Obj} {vs : List Value} {ns : List Int} {k : Nat} {most : Int} {t2 : Tok} {sc : Scope} {bd bd3 : List Stmt}
theorem marksC (hsc : sc = scopeAt 11) (hbd : bd = (bodyAt 11 mainB).drop 3) (T : Top hd.view_39 (looseW hd.view_39 [Str.ofString "Whitespace"]) mean mg mb g) (X : (hd.heap_39 w.params).In g)
    (hA : dp + 20 < recursionLimit) (hu : un + 50 < cLine) (F : Fr g L s.heap m) (N : News g L s.heap [(D, W.listOf vs.toArray k), (L + 1 + 1, oT), (L + 1, oM)]) (hT : oT.data = .cell (some (.ref D))) (hM : oM.data = .cell (some (.int most t2)))
    (hD : L + 1 + 1 < D) (hi : IntsAre vs ns) (hlen : ns.length ≤ 20)
    (hret : ∀ h' tk' D' vs' kk, IntsAre vs' ((mkSums ns).filter fun k => decide (k ≤ most)) → h'.get? D' = some (W.listOf vs'.toArray kk) → g.get? D' = none → (∀ b o, g.get? b = some o → h'.get? b = some o) → Q (.ret (.ref D')) ⟨h', s.gens, s.drawn, tk', s.os⟩) :
    wpAny (model Challenge.rw_rl0081_01.row.prog w) ((Around.mk none dp fr gd un).deeper (envOfC (Str.ofString "_law_marks") sc L f cd)) (execs bd (envOfC (Str.ofString "_law_marks") sc L f cd)) Q NoE s := by
  conv at hsc => rhs; whnf
  conv at hbd => rhs; whnf
  subst hsc hbd
  revert X
  k_fill
  intro X
  replace hD := ltN hD
  refine wpAny_execs_cons ?_
  k_steps
  refine AssignComp_W (F₀ := by k_asm) (by rfl) (by with_unfolding_all rfl) (by with_unfolding_all rfl) (by decide) (by rfl) (by decide) (by rfl) (by rfl) (by rfl) ?_ (by intro _; rfl)
  k_steps
  refine' lenK' (by k_asm) (by k_mem) hi hlen ?_
  intro _ _ _
  k_steps
  rename Fr _ _ _ _ => F9
  rename News _ _ _ _ => N9
  rename IsRange _ _ _ _ _ _ _ _ => hR9
  refine srcSum F9 N9 hR9 hlen rfl ?_ ?_
  · intro g k t I oI C oC D m₂ ys h tk E' h1 h2 hC hx F N off ne
    clear F9 N9
    k_steps
    exact ⟨rfl, _, rfl⟩
  · intro g ys hys D h tk F N o1
    clear F9 N9
    k_steps
    refine CompT_W (F₀ := by k_asm) (by with_unfolding_all rfl) (by decide) (by rfl) (by decide) (by rfl) ?_ (by intro _; rfl)
    k_steps
    rename Fr _ _ _ _ => F9
    rename News _ _ _ _ => N9
    refine srcFilt (fun k => decide (k ≤ most)) hys (by rw [mkSums_len]; exact hlen) F9 N9 (by k_mem) rfl ?_ ?_
    · intro g k t I oI C oC D m₂ ys h tk E' hk hC hx F N off ne
      clear F9 N9
      k_steps
      · exact ⟨rfl, _, rfl⟩
      · refine LCg.CompEnd.intro F N _ (fun _ h => h) off (.inr ⟨_, .head _, rfl, _, rfl⟩) ⟨decide_eq_false (by assumption), rfl⟩
    · intro g ys' hys' D' h' tk' F' N' o'
      clear F9 N9
      exact hret _ _ D' ys' _ hys' (N' _ (.head _)).1 (N' _ (.head _)).2.2 F'.keep
theorem marksB (hsc : sc = scopeAt 11) (hbd : bd = (bodyAt 11 mainB).drop 2) (hbd3 : bd3 = (bodyAt 11 mainB).drop 3) (T : Top hd.view_39 (looseW hd.view_39 [Str.ofString "Whitespace"]) mean mg mb g) (X : (hd.heap_39 w.params).In g)
    (hA : dp + 20 < recursionLimit) (hu : un + 50 < cLine) (F : Fr g L s.heap m) (N : News g L s.heap [(D, W.listOf vs.toArray k), (L + 1 + 1, oT), (L + 1, oM)]) (hT : oT.data = .cell (some (.ref D))) (hM : oM.data = .cell (some (.int most t2)))
    (hD : L + 1 + 1 < D) (hi : IntsAre vs ns) (hlen : ns.length ≤ 8) (hm : 5 ≤ most) (hm' : most ≤ 7)
    (next : ∀ h' tk' D' oT' vs' k', Fr g L h' m → News g L h' [(D', W.listOf vs'.toArray k'), (L + 1 + 1, oT'), (L + 1, oM)] → oT'.data = .cell (some (.ref D')) → L + 1 + 1 < D' → IntsAre vs' (mk0 most ns) → (mk0 most ns).length ≤ 20 →
      wpAny (model Challenge.rw_rl0081_01.row.prog w) ((Around.mk none dp fr gd un).deeper (envOfC (Str.ofString "_law_marks") sc L f cd)) (execs bd3 (envOfC (Str.ofString "_law_marks") sc L f cd)) Q NoE ⟨h', s.gens, s.drawn, tk', s.os⟩) :
    wpAny (model Challenge.rw_rl0081_01.row.prog w) ((Around.mk none dp fr gd un).deeper (envOfC (Str.ofString "_law_marks") sc L f cd)) (execs bd (envOfC (Str.ofString "_law_marks") sc L f cd)) Q NoE s := by
  conv at hsc => rhs; whnf
  conv at hbd => rhs; whnf
  conv at hbd3 => rhs; whnf
  subst hsc hbd hbd3
  revert X
  k_fill
  intro X
  replace hD := ltN hD
  refine wpAny_execs_cons ?_
  k_steps
  · refine' idxK (by k_asm) (by k_mem) (by assumption) (by assumption) (by omega) ?_
    k_steps
    refine' kmk_add_ints (by k_asm) (by k_asm) (by kmk_list) (by kmk_list) (by l_ints) (by l_ints) ?_ (by exact Nat.le_trans (catLe (by simp only [List.length_take]; omega) (by assumption)) (by rw [sizeLine_eq]; omega)); intro D' ws' h' F' N' l1 hI'; (try k_lt l1); (try k_sweep)
    k_steps
    unfold StopW
    rename Fr _ _ _ _ => F9
    rename News _ _ _ _ => N9
    rename Obj.data _ = _ => hT9
    have e : mk0 most ns = ns.take (ns.idxOf 0) ++ (List.replicate most.toNat ((ns.take (ns.idxOf 0)).drop ((ns.take (ns.idxOf 0)).length - 1))).flatten := by
      unfold mk0
      rw [if_pos (by assumption)]
    refine next _ _ D' _ ws' _ F9 (cb_drop N9 (by kcj_all)) hT9 l1.2.2.2.2.1 ?_ ?_
    · rw [e]; exact hI'
    · rw [e, List.length_append]
      exact Nat.le_trans (catLe (by simp only [List.length_take]; omega) hm') (by omega)
  · unfold StopW
    refine next _ _ D oT vs k F N hT hD ?_ ?_
    · rw [show mk0 most ns = ns from by unfold mk0; rw [if_neg (Bool.eq_false_iff.mp (by assumption))]]; exact hi
    · rw [show mk0 most ns = ns from by unfold mk0; rw [if_neg (Bool.eq_false_iff.mp (by assumption))]]; omega
theorem marksA {l : Addr} {bd2 : List Stmt} (hsc : sc = scopeAt 11) (hbd : bd = bodyAt 11 mainB) (hbd2 : bd2 = (bodyAt 11 mainB).drop 2) (T : Top hd.view_39 (looseW hd.view_39 [Str.ofString "Whitespace"]) mean mg mb g) (X : (hd.heap_39 w.params).In g)
    (hA : dp + 20 < recursionLimit) (hu : un + 50 < cLine) (hl : g.IsList l vs.toArray) (F : Fr g L s.heap (pinM [(Str.ofString "row", .ref l)] m)) (N : News g L s.heap [(L + 1 + 1, oT), (L + 1, oM)]) (hT : oT.data = .cell none) (hM : oM.data = .cell (some (.int most t2)))
    (hi : IntsAre vs ns) (hlen : ns.length ≤ 8)
    (next : ∀ h' tk' D' oT' vs' k', Fr g L h' (pinM [(Str.ofString "row", .ref l)] m) → News g L h' [(D', W.listOf vs'.toArray k'), (L + 1 + 1, oT'), (L + 1, oM)] → oT'.data = .cell (some (.ref D')) → L + 1 + 1 < D' → IntsAre vs' (mk127 ns) → (mk127 ns).length ≤ 8 →
      wpAny (model Challenge.rw_rl0081_01.row.prog w) ((Around.mk none dp fr gd un).deeper (envOfC (Str.ofString "_law_marks") sc L f cd)) (execs bd2 (envOfC (Str.ofString "_law_marks") sc L f cd)) Q NoE ⟨h', s.gens, s.drawn, tk', s.os⟩) :
    wpAny (model Challenge.rw_rl0081_01.row.prog w) ((Around.mk none dp fr gd un).deeper (envOfC (Str.ofString "_law_marks") sc L f cd)) (execs bd (envOfC (Str.ofString "_law_marks") sc L f cd)) Q NoE s := by
  conv at hsc => rhs; whnf
  conv at hbd => rhs; whnf
  conv at hbd2 => rhs; whnf
  subst hsc hbd hbd2
  revert X
  k_fill
  intro X
  have hvl := hi.length
  have F0 := F
  dsimp only [pinM] at F
  k_steps
  unfold StopW
  refine wpAny_execs_cons ?_
  k_steps
  · refine' idxK (by k_asm) (by k_mem) (by assumption) (by assumption) (by omega) ?_
    k_steps
    unfold StopW
    rename Fr _ _ _ _ => F9
    rename News _ _ _ _ => N9
    rename Obj.data _ = _ => hT9
    rename _ ∧ _ ∧ _ => l9
    rename IntsAre _ (List.take _ _) => hI9
    have e : mk127 ns = ns.take (ns.idxOf 127) := by
      unfold mk127
      rw [if_pos (by assumption)]
    refine next _ _ _ _ _ _ F9 (cb_drop N9 (by kcj_all)) hT9 l9.2.1 ?_ ?_
    · rw [e]; exact hI9
    · rw [e, List.length_take]; omega
  · unfold StopW
    rename Fr _ _ _ _ => F9
    rename News _ _ _ _ => N9
    rename Obj.data _ = _ => hT9
    rename _ ∧ _ => l9
    have e : mk127 ns = ns := by
      unfold mk127
      rw [if_neg (Bool.eq_false_iff.mp (by assumption))]
    refine next _ _ _ _ _ _ F9 N9 hT9 l9.1 ?_ ?_
    · rw [e]; exact hi
    · rw [e]; exact hlen
end
theorem marks81 {w : World} {mean : ExcName → Option Value} {mg mb : Str → Option Value} {dp un : Nat} {fr : Option (List Env)} {gd : Option (List Code)} {s : Shared} {Q E : Value → Shared → Prop} {l : Addr} {vs : List Value} {ns : List Int} {most : Int} {t2 : Tok}
    (G : Gd w mean mg mb s.heap) (hA : dp + 20 < recursionLimit) (hu : un + 50 < cLine) (hl : s.heap.IsList l vs.toArray) (hi : IntsAre vs ns) (hm : 5 ≤ most) (hm' : most ≤ 7) (hlen : ns.length ≤ 8)
    (hret : ∀ h' tk' g' D vs' kk, IntsAre vs' (marksF ns most) → h'.get? D = some (W.listOf vs'.toArray kk) → s.heap.get? D = none → (∀ b o, s.heap.get? b = some o → h'.get? b = some o) → (AllBare s.gens → AllBare g') → Q (.ref D) ⟨h', g', s.drawn, tk', s.os⟩) :
    wpAny (model Challenge.rw_rl0081_01.row.prog w) (Around.mk none dp fr gd un) (call (.ref 113) [.ref l, .int most t2]) Q E s := by
  have hT := G.T
  have hX := G.X
  revert hX
  k_fill
  intro hX
  refine' enterHC (Hid.refl G) ?k6 ?k7 ?k8 ?k9 ?kB ?kD ?_ ?c2 ?c3 ?c4; (case k6 => k_is); (case k7 => k_is); (case k8 => (show dp < recursionLimit; omega)); (case k9 => exact BindsTo.of_eq rfl); (case kB => exact rfl); (case kD => decide +kernel); (case c2 => exact rfl); (case c3 => exact rfl); (case c4 => exact rfl)
  intro L' h' tk' cells' F' N' Y' l1; (try k_lt l1); k_cells Y'; (try simp only [List.cons_append, List.nil_append] at N'); (try dsimp only)
  rename_i oT oM dT dM
  refine marksA (l := l) (bd2 := (bodyAt 11 mainB).drop 2) rfl rfl rfl hT hX hA hu hl (Fr.pin F' ⟨rfl, trivial⟩) N' dT dM hi hlen ?_
  intro h1 tk1 D1 oT1 vs1 k1 F1 N1 hT1 hD1 hi1 hl1
  refine marksB (bd3 := (bodyAt 11 mainB).drop 3) rfl rfl rfl hT hX hA hu F1 N1 hT1 dM hD1 hi1 hl1 hm hm' ?_
  intro h2 tk2 D2 oT2 vs2 k2 F2 N2 hT2 hD2 hi2 hl2
  refine marksC rfl rfl hT hX hA hu F2 N2 hT2 dM hD2 hi2 hl2 ?_
  intro h3 tk3 D3 vs3 kk3 hi3 e1 e2 e3
  exact hret _ _ _ D3 vs3 kk3 hi3 e1 e2 e3 id
end
end Mine81
namespace Mine81
section
/-- blanks ahead of tabs, pair by pair -/
noncomputable def inv : List Nat → Nat
  | [] => 0
  | c :: r => (if c = 32 then r.count 9 else 0) + inv r
theorem inv_le : ∀ l : List Nat, inv l ≤ l.length * l.length
  | [] => Nat.zero_le _
  | c :: r => by
    have h1 := inv_le r
    have h2 : r.count 9 ≤ r.length := List.count_le_length
    rw [inv, List.length_cons]
    have : (r.length + 1) * (r.length + 1) = r.length * r.length + 2 * r.length + 1 := by
      rw [Nat.add_mul, Nat.mul_add]; omega
    split <;> omega
noncomputable def BinL (l : List Nat) : Prop := ∀ c ∈ l, c = 32 ∨ c = 9
noncomputable def bins : Nat → List (List Nat)
  | 0 => [[]]
  | n + 1 => (bins n).flatMap fun l => [32 :: l, 9 :: l]
theorem mem_bins : ∀ {l : List Nat}, BinL l → l ∈ bins l.length
  | [], _ => List.mem_singleton.mpr rfl
  | c :: r, h => by
    have h1 := mem_bins (fun x hx => h x (List.mem_cons_of_mem _ hx) : BinL r)
    rw [List.length_cons, bins, List.mem_flatMap]
    refine ⟨r, h1, ?_⟩
    rcases h c List.mem_cons_self with rfl | rfl
    · exact List.mem_cons_self
    · exact List.mem_cons_of_mem _ List.mem_cons_self
/-- one tab a place ahead -/
noncomputable def rotF (r : List Nat) (k : Int) : Str := Txt.slice ⟨r.toArray⟩ none (some k) ++ Str.ofString "\t " ++ Txt.slice ⟨r.toArray⟩ (some (k + 2)) none
noncomputable def stepOk (r : List Nat) (k : Int) : Bool := decide (0 ≤ k) && (inv (rotF r k).cps.toList + 1 == inv r && ((rotF r k).cps.toList.length == r.length && (rotF r k).cps.toList.all fun c => c == 32 || c == 9))
noncomputable def turnOk (r : List Nat) : Bool := if ellF ⟨r.toArray⟩ then stepOk r (Txt.find ⟨r.toArray⟩ (Str.ofString " \t")) && stepOk r (Txt.rfind ⟨r.toArray⟩ (Str.ofString " \t")) else inv r == 0
theorem turns0 : (bins 0).all turnOk = true := by decide +kernel
theorem turns1 : (bins 1).all turnOk = true := by decide +kernel
theorem turns2 : (bins 2).all turnOk = true := by decide +kernel
theorem turns3 : (bins 3).all turnOk = true := by decide +kernel
theorem turns4 : (bins 4).all turnOk = true := by decide +kernel
theorem turns5 : (bins 5).all turnOk = true := by decide +kernel
theorem turns6 : (bins 6).all turnOk = true := by decide +kernel
theorem all_cut {α : Type} {p : α → Bool} {l : List α} (n : Nat) (a : (l.take n).all p = true) (b : (l.drop n).all p = true) : l.all p = true := by
  have h : (l.take n ++ l.drop n).all p = true := by rw [List.all_append, a, b]; rfl
  rwa [List.take_append_drop] at h
theorem turns7a : ((bins 7).take 64).all turnOk = true := by decide +kernel
theorem turns7b : ((bins 7).drop 64).all turnOk = true := by decide +kernel
theorem turns7 : (bins 7).all turnOk = true := all_cut 64 turns7a turns7b
theorem turn_ok {r : List Nat} (h : BinL r) (hl : r.length ≤ 7) : turnOk r = true := by
  have hm := mem_bins h
  have : ∀ n, n ≤ 7 → (bins n).all turnOk = true
    | 0, _ => turns0 | 1, _ => turns1 | 2, _ => turns2 | 3, _ => turns3 | 4, _ => turns4 | 5, _ => turns5 | 6, _ => turns6 | 7, _ => turns7
    | n + 8, h => absurd h (by omega)
  exact List.all_eq_true.mp (this _ hl) _ hm
theorem step_ok {r : List Nat} {k : Int} (h : stepOk r k = true) : ∃ r', rotF r k = ⟨r'.toArray⟩ ∧ 0 ≤ k ∧ inv r' + 1 = inv r ∧ r'.length = r.length ∧ BinL r' := by
  unfold stepOk at h
  simp only [Bool.and_eq_true, decide_eq_true_eq, beq_iff_eq] at h
  refine ⟨(rotF r k).cps.toList, ?_, h.1, h.2.1, h.2.2.1, fun c hc => ?_⟩
  · cases rotF r k; simp
  · have := List.all_eq_true.mp h.2.2.2 c hc
    simpa using this
theorem turn_find {r : List Nat} (h : BinL r) (hl : r.length ≤ 7) (he : ellF ⟨r.toArray⟩ = true) : stepOk r (Txt.find ⟨r.toArray⟩ (Str.ofString " \t")) = true := by
  have := turn_ok h hl
  rw [turnOk, if_pos he, Bool.and_eq_true] at this
  exact this.1
theorem turn_rfind {r : List Nat} (h : BinL r) (hl : r.length ≤ 7) (he : ellF ⟨r.toArray⟩ = true) : stepOk r (Txt.rfind ⟨r.toArray⟩ (Str.ofString " \t")) = true := by
  have := turn_ok h hl
  rw [turnOk, if_pos he, Bool.and_eq_true] at this
  exact this.2
theorem turn_no {r : List Nat} (h : BinL r) (hl : r.length ≤ 7) (he : ellF ⟨r.toArray⟩ = false) : inv r = 0 := by
  have := turn_ok h hl
  rw [turnOk, if_neg (by rw [he]; decide)] at this
  simpa using this
end
end Mine81
namespace Mine81
section
local macro_rules | `(tactic| walk_at "zz") => `(tactic| skip)
section
variable {prog : Program} {w : World} {A : Around} {s : Shared} {env : Env} {h₀ : Heap} {body : List Stmt} {Q : Flow → Shared → Prop}
/-- a turn's end in a while -/
noncomputable def StepWh (h₀ : Heap) (L : Addr) (n : Nat) (J : Nat → (Str → Option Value) → List (Addr × Obj) → Prop) (Q : Flow → Shared → Prop) (s₁ : Shared) (f : Flow) (s₂ : Shared) : Prop :=
  match f with
  | .ret v => Q (.ret v) s₂
  | .brk => Q .next s₂
  | _ => ∃ h' tk' g' m₂ news₂ n', s₂ = ⟨h', g', s₁.drawn, tk', s₁.os⟩ ∧ (AllBare s₁.gens → AllBare g') ∧ Fr h₀ L h' m₂ ∧ News h₀ L h' news₂ ∧ n' < n ∧ J n' m₂ news₂
theorem StepWh.next {L : Addr} {n : Nat} {J : Nat → (Str → Option Value) → List (Addr × Obj) → Prop} {s₁ : Shared} {h' : Heap} {tk : Nat} {g' : Array GenState} {m₂ : Str → Option Value} {N2 : List (Addr × Obj)} (news₂ : List (Addr × Obj)) (n' : Nat)
    (F : Fr h₀ L h' m₂) (N : News h₀ L h' N2) (hsub : ∀ p ∈ news₂, p ∈ N2) (hn : n' < n) (hJ : J n' m₂ news₂) (hb : AllBare s₁.gens → AllBare g' := by exact id) :
    StepWh h₀ L n J Q s₁ .next ⟨h', g', s₁.drawn, tk, s₁.os⟩ := ⟨h', tk, g', m₂, news₂, n', rfl, hb, F, fun p hp => N p (hsub p hp), hn, hJ⟩
theorem whileW {test : Expr} {pos : Pos} {m : Str → Option Value} {news : List (Addr × Obj)} (J : Nat → (Str → Option Value) → List (Addr × Obj) → Prop) (n₀ : Nat)
    (F : Fr h₀ env.locals s.heap m) (N : News h₀ env.locals s.heap news) (h0 : J n₀ m news)
    (turn : ∀ n m₁ news₁ h tk g, (AllBare s.gens → AllBare g) → J n m₁ news₁ → Fr h₀ env.locals h m₁ → News h₀ env.locals h news₁ →
      wpAny (model prog w) A (isTrue test env (eval test env)) (fun b s₂ => if b = true then wpAny (model prog w) A (execs body env) (StepWh h₀ env.locals n J Q ⟨h, g, s.drawn, tk, s.os⟩) NoE s₂ else Q .next s₂) NoE ⟨h, g, s.drawn, tk, s.os⟩) :
    wpAny (model prog w) A (exec (.While test body [] pos) env) Q NoE s := by
  refine wpAny_While (codeAny_whileLoop
    (fun n s' => ∃ h' tk g' m' news', s' = ⟨h', g', s.drawn, tk, s.os⟩ ∧ (AllBare s.gens → AllBare g') ∧ Fr h₀ env.locals h' m' ∧ News h₀ env.locals h' news' ∧ J n m' news') ?_ n₀
    ⟨s.heap, s.toks, s.gens, m, news, rfl, id, F, N, h0⟩)
  rintro n s' ⟨h', tk, g', m', news', rfl, hb, F', N', hJ⟩
  refine wpAny_mono (turn n m' news' h' tk g' hb hJ F' N') (fun b s₂ h₂ => ?_) fun _ _ e => e.elim
  cases b with
  | false =>
    simp only [Bool.false_eq_true, if_false] at h₂ ⊢
    exact wpAny_execs_nil h₂
  | true =>
    simp only [if_true] at h₂ ⊢
    refine wpAny_mono h₂ (fun f s₃ h₃ => ?_) fun _ _ e => e.elim
    have fin : (∃ h'' tk' g'' m₂ news₂ n', s₃ = ⟨h'', g'', s.drawn, tk', s.os⟩ ∧ (AllBare g' → AllBare g'') ∧ Fr h₀ env.locals h'' m₂ ∧ News h₀ env.locals h'' news₂ ∧ n' < n ∧ J n' m₂ news₂) →
        ∃ m, m < n ∧ ∃ h' tk g' m' news', s₃ = ⟨h', g', s.drawn, tk, s.os⟩ ∧ (AllBare s.gens → AllBare g') ∧ Fr h₀ env.locals h' m' ∧ News h₀ env.locals h' news' ∧ J m m' news' := by
      rintro ⟨h₃', tk₃, g₃, m₂, news₂, n', rfl, hb₃, F₃, N₃, hn, hJ₃⟩
      exact ⟨n', hn, h₃', tk₃, g₃, m₂, news₂, rfl, fun z => hb₃ (hb z), F₃, N₃, hJ₃⟩
    cases f with
    | ret v => exact h₃
    | brk => exact h₃
    | cont => exact fin h₃
    | next => exact fin h₃
end
theorem ell81K {w : World} {mean : ExcName → Option Value} {mg mb : Str → Option Value} {dp un : Nat} {fr : Option (List Env)} {gd : Option (List Code)} {s : Shared} {Q E : Value → Shared → Prop} {g : Heap} {L : Addr} {m : Str → Option Value} {news : List (Addr × Obj)} {got : Str} {t1 t2 : Tok}
    (F : Fr g L s.heap m) (N : News g L s.heap news) (T : Top hd.view_39 (looseW hd.view_39 [Str.ofString "Whitespace"]) mean mg mb g) (X : (hd.heap_39 w.params).In g)
    (hg : got.length ≤ 100) (hA : dp + 1 < recursionLimit) (hu : un + 8 < cLine)
    (hret : ∀ h' tk g', Fr g L h' m → News g L h' news → (AllBare s.gens → AllBare g') → Q (.bool (ellF got)) ⟨h', g', s.drawn, tk, s.os⟩) :
    wpAny (model Challenge.rw_rl0081_01.row.prog w) (Around.mk none dp fr gd un) (call (.ref 94) [.str (Str.ofString "... ...\t...") t1, .str got t2]) Q E s :=
  ell81 hg ⟨T.keeps F.keep, X.keeps F.keep⟩ hA hu fun s' k => by
    obtain ⟨h', g', d', tk', o'⟩ := s'
    obtain ⟨k1, k2, k3, k4⟩ := k
    simp only at k1 k2 k3 k4
    subst k2 k3
    exact hret _ _ _ (Fr.keeps' F k1) (News.keeps' N k1) k4
theorem newsNe {h₀ h : Heap} {L a : Addr} {news : List (Addr × Obj)} {e : Addr × Obj} (N : News h₀ L h news) (he : e ∈ news) (ha : h.get? a = none) : e.1 ≠ a := fun q => by rw [← q, (N e he).1] at ha; cases ha
noncomputable def rdRun : Nat → (Nat → Option Int) → Int → List Nat → List Nat → List Nat
  | 0, _, _, _, acc => acc
  | n + 1, f, place, line, acc => match f 0 with
    | none => acc
    | some x => if place + x > (line.length : Int) then acc else rdRun n (fun k => f (k + 1)) (place + x) line (acc ++ [line.getD (place + x - 1).toNat 0])
noncomputable def readF (line : List Nat) (first step : Int) : List Nat := rdRun 20 (gAt none [first, step, 0]) 0 line []
theorem gAt_read {first step : Int} (h1 : 1 ≤ first) (h2 : first ≤ 8) (h3 : 1 ≤ step) (h4 : step ≤ 8) : ∀ i, gAt none [first, step, 0] i = some (if i = 0 then first else step)
  | 0 => gAt_zero (by omega) (by omega)
  | 1 => by rw [gAt_succ (by omega) (by omega), gAt_zero (by omega) (by omega)]; rfl
  | i + 2 => by rw [gAt_succ (by omega) (by omega), gAt_succ (by omega) (by omega), gAt_rep (by omega) rfl]; rfl
theorem item_at {line : List Nat} {i : Int} (h0 : 0 ≤ i) (h1 : i < line.length) : Txt.item ⟨line.toArray⟩ i = ⟨[line.getD i.toNat 0].toArray⟩ := by
  have hlt : i.toNat < line.length := by omega
  have e : Txt.charAt ⟨line.toArray⟩ i = some (line.getD i.toNat 0) := by
    unfold Txt.charAt seqIndex?
    simp only [Str.length, List.size_toArray]
    simp [h0, h1, hlt, show ¬ i < 0 by omega]
  unfold Txt.item
  rw [e]; rfl
noncomputable def tsum (line : List Nat) (step : Int) : Nat → Nat
  | 0 => 0
  | k + 1 => tsum line step k + inv (readF line (1 + (k : Int)) step)
noncomputable def rdL (line acc : List Nat) (step order first place : Int) (times : Nat) (t1 t2 t3 t4 t5 t6 t7 : Tok) : List (Str × Value) :=
  [(Str.ofString "read", .str ⟨acc.toArray⟩ t4), (Str.ofString "place", .int place t5), (Str.ofString "times", .int (times : Int) t6), (Str.ofString "line", .str ⟨line.toArray⟩ t1), (Str.ofString "step", .int step t2), (Str.ofString "order", .int order t3), (Str.ofString "first", .int first t7)]
noncomputable def rdJ (line : List Nat) (step order first : Int) (times : Nat) (t1 t2 t3 t6 t7 : Tok) (news₀ : List (Addr × Obj)) (i : Nat) (m : Str → Option Value) (news : List (Addr × Obj)) : Prop :=
  ∃ (acc : List Nat) (place : Int) (t4 t5 : Tok) (m₁ : Str → Option Value), m = pinM (rdL line acc step order first place times t1 t2 t3 t4 t5 t6 t7) m₁ ∧ news = news₀ ∧
    rdRun (20 - i) (fun k => gAt none [first, step, 0] (i + k)) place line acc = readF line first step ∧ (i : Int) ≤ place ∧ place ≤ line.length ∧ acc.length ≤ i ∧ BinL acc
noncomputable def rdE (line : List Nat) (step order first : Int) (times : Nat) (t1 t2 t3 t6 t7 : Tok) (news₀ : List (Addr × Obj)) (m : Str → Option Value) (news : List (Addr × Obj)) : Prop :=
  ∃ (place : Int) (t4 t5 : Tok) (m₁ : Str → Option Value), m = pinM (rdL line (readF line first step) step order first place times t1 t2 t3 t4 t5 t6 t7) m₁ ∧ news = news₀ ∧ (readF line first step).length ≤ 7 ∧ BinL (readF line first step)
noncomputable def oL (line : List Nat) (step order : Int) (times : Nat) (t1 t2 t3 t6 : Tok) : List (Str × Value) :=
  [(Str.ofString "times", .int (times : Int) t6), (Str.ofString "line", .str ⟨line.toArray⟩ t1), (Str.ofString "step", .int step t2), (Str.ofString "order", .int order t3)]
noncomputable def oJ (line : List Nat) (step order : Int) (t1 t2 t3 : Tok) (i : Nat) (m : Str → Option Value) (news : List (Addr × Obj)) : Prop :=
  ∃ (t6 : Tok) (m₁ : Str → Option Value), m = pinM (oL line step order (tsum line step i) t1 t2 t3 t6) m₁ ∧ news = [] ∧ tsum line step i ≤ 49 * i
noncomputable def whL (line read : List Nat) (step order : Int) (times : Nat) (t1 t2 t3 t4 t6 : Tok) : List (Str × Value) :=
  [(Str.ofString "read", .str ⟨read.toArray⟩ t4), (Str.ofString "times", .int (times : Int) t6), (Str.ofString "line", .str ⟨line.toArray⟩ t1), (Str.ofString "step", .int step t2), (Str.ofString "order", .int order t3)]
noncomputable def whJ (line : List Nat) (step order : Int) (t1 t2 t3 : Tok) (T : Nat) (news₀ : List (Addr × Obj)) (n : Nat) (m : Str → Option Value) (news : List (Addr × Obj)) : Prop :=
  ∃ (read : List Nat) (times : Nat) (t4 t6 : Tok) (m₁ : Str → Option Value), m = pinM (whL line read step order times t1 t2 t3 t4 t6) m₁ ∧ news = news₀ ∧ n = inv read ∧ times + inv read = T ∧ BinL read ∧ read.length ≤ 7
local macro_rules
  | `(tactic| walk_at "exec For Name Call cons nil") => `(tactic| refine stop_ ?_)
  | `(tactic| walk_at "exec While Call cons nil") => `(tactic| refine stop_ ?_)
  | `(tactic| walk_at "call ref") => `(tactic| refine stop_ ?_)
section
variable {w : World} {mean : ExcName → Option Value} {mg mb : Str → Option Value} {dp un : Nat} {fr : Option (List Env)} {gd : Option (List Code)} {s : Shared} {Q : Flow → Shared → Prop} {g : Heap} {L f : Addr} {cd : Value} {m : Str → Option Value} {sc : Scope} {line : List Nat} {step order : Int} {t1 t2 t3 : Tok}
theorem timesR {rb : List Stmt} {acc : List Nat} {first place v : Int} {times j : Nat} {t4 t5 t6 t7 tv : Tok} {news own : List (Addr × Obj)} (hsc : sc = scopeAt 12) (hrb : rb = bodyAt 2 (bodyAt 1 (bodyAt 12 mainB))) (T : Top hd.view_39 (looseW hd.view_39 [Str.ofString "Whitespace"]) mean mg mb g) (X : (hd.heap_39 w.params).In g)
    (hl : line.length ≤ 7) (hb : BinL line) (hv : 1 ≤ v ∧ v ≤ 8) (hf : gAt none [first, step, 0] j = some v) (hrun : rdRun (20 - j) (fun k => gAt none [first, step, 0] (j + k)) place line acc = readF line first step) (h1 : (j : Int) ≤ place) (h2 : place ≤ line.length) (h3 : acc.length ≤ j) (h4 : BinL acc)
    (F : Fr g L s.heap (pinM ((Str.ofString "size", .int v tv) :: rdL line acc step order first place times t1 t2 t3 t4 t5 t6 t7) m)) (N : News g L s.heap (news ++ own)) (hdis : ∀ q ∈ own, ∀ e ∈ news, e.1 ≠ q.1) :
    wpAny (model Challenge.rw_rl0081_01.row.prog w) ((Around.mk none dp fr gd un).deeper (envOf (Str.ofString "_law_times") sc L f cd)) (execs rb (envOf (Str.ofString "_law_times") sc L f cd))
      (StepG g L own (rdJ line step order first times t1 t2 t3 t6 t7 news (j + 1)) (rdE line step order first times t1 t2 t3 t6 t7 news) Q s) NoE s := by
  conv at hsc => rhs; whnf
  conv at hrb => rhs; whnf
  subst hsc hrb
  revert X
  k_fill
  intro X
  dsimp only [rdL, pinM] at F
  have hj : j ≤ 7 := by omega
  have hlen : (Str.mk line.toArray).length = line.length := by simp [Str.length]
  rw [e20 hj, rdRun] at hrun
  simp only [Nat.add_zero] at hrun
  rw [hf] at hrun
  dsimp only at hrun
  k_steps
  · rename _ > _ => hp
    rw [hlen] at hp
    rw [if_pos hp] at hrun
    subst hrun
    rename Fr _ _ _ _ => F9
    rename News _ _ _ _ => N9
    exact StepG.brk news F9 N9 (fun e he => List.mem_append_left _ he) ⟨_, _, _, _, pin_self ⟨rfl, rfl, rfl, rfl, rfl, rfl, rfl, trivial⟩, rfl, by omega, h4⟩
  · rename Fr _ _ _ _ => F9
    rename News _ _ _ _ => N9
    rename ¬ _ > _ => hp
    rw [hlen] at hp
    rw [if_neg hp] at hrun
    have p0 : 0 ≤ place + v - 1 := by omega
    have p1 : place + v - 1 < line.length := by omega
    rw [item_at p0 p1, glue] at F9
    refine StepG.next news F9 N9 (fun e he => List.mem_append_right _ he) (fun e he => List.mem_append_left _ he) hdis ⟨_, _, _, _, _, pin_self ⟨rfl, rfl, rfl, rfl, rfl, rfl, rfl, trivial⟩, rfl, ?_, ?_, ?_, ?_, ?_⟩
    · rw [← hrun, e20']
      congr 1
      funext k; congr 1; omega
    · omega
    · omega
    · rw [List.length_append]; exact Nat.add_le_add_right h3 1
    · intro c hc
      rcases List.mem_append.mp hc with hc | hc
      · exact h4 c hc
      · rw [List.mem_singleton.mp hc]
        have hlt : (place + v - 1).toNat < line.length := by omega
        have e : line.getD (place + v - 1).toNat 0 = line[(place + v - 1).toNat] := by rw [List.getD_eq_getElem?_getD, List.getElem?_eq_getElem hlt]; rfl
        rw [e]
        exact hb _ (List.getElem_mem _)
local macro_rules
  | `(tactic| walk_at "execs cons") => `(tactic| refine stopIf ?_)
theorem timesT {tb : List Stmt} {P : Flow → Shared → Prop} {read : List Nat} {times : Nat} {c : Int} {t4 t6 tc : Tok} {e : Addr × Obj} (hsc : sc = scopeAt 12) (htb : tb = (bodyAt 3 (bodyAt 1 (bodyAt 12 mainB))).drop 1) (T : Top hd.view_39 (looseW hd.view_39 [Str.ofString "Whitespace"]) mean mg mb g) (X : (hd.heap_39 w.params).In g)
    (hq1 : (times : Int) ≤ 392) (h3 : read.length ≤ 7) (hk : stepOk read c = true)
    (F : Fr g L s.heap (pinM ((Str.ofString "cut", .int c tc) :: whL line read step order times t1 t2 t3 t4 t6) m)) (N : News g L s.heap [e])
    (next : ∀ h' tk' r' t4' t6' m', inv r' + 1 = inv read → r'.length ≤ 7 → BinL r' → Fr g L h' (pinM (whL line r' step order (times + 1) t1 t2 t3 t4' t6') m') → News g L h' [e] → P .next ⟨h', s.gens, s.drawn, tk', s.os⟩) :
    wpAny (model Challenge.rw_rl0081_01.row.prog w) ((Around.mk none dp fr gd un).deeper (envOf (Str.ofString "_law_times") sc L f cd)) (execs tb (envOf (Str.ofString "_law_times") sc L f cd)) P NoE s := by
  conv at hsc => rhs; whnf
  conv at htb => rhs; whnf
  subst hsc htb
  revert X
  k_fill
  intro X
  obtain ⟨r', e', k0, ei, el, eb⟩ := step_ok hk
  dsimp only [whL, pinM] at F
  have hlen : (Str.mk read.toArray).length = read.length := by simp [Str.length]
  refine wpAny_execs_cons ?_
  k_steps
  rename Fr _ _ _ _ => F9
  rename News _ _ _ _ => N9
  unfold rotF at e'
  rw [e'] at F9
  exact next _ _ r' _ _ _ ei (el ▸ h3) eb (Fr.pin F9 ⟨rfl, rfl, rfl, rfl, rfl, trivial⟩) N9
theorem timesW {wb : List Stmt} {te : Expr} {read : List Nat} {times Tt : Nat} {t4 t6 : Tok} {e : Addr × Obj} (hsc : sc = scopeAt 12) (hte : te = testAt 3 (bodyAt 1 (bodyAt 12 mainB))) (hwb : wb = bodyAt 3 (bodyAt 1 (bodyAt 12 mainB))) (T : Top hd.view_39 (looseW hd.view_39 [Str.ofString "Whitespace"]) mean mg mb g) (X : (hd.heap_39 w.params).In g)
    (hA : dp + 30 < recursionLimit) (hu : un + 80 < cLine) (ho : 0 ≤ order) (ho' : order < 4096) (hq1 : (times : Int) ≤ 392) (hT9 : times + inv read = Tt) (h4 : BinL read) (h3 : read.length ≤ 7)
    (F : Fr g L s.heap (pinM (whL line read step order times t1 t2 t3 t4 t6) m)) (N : News g L s.heap [e])
    (done : ∀ h' tk' g' t6' m', Fr g L h' (pinM (oL line step order Tt t1 t2 t3 t6') m') → News g L h' [e] → (AllBare s.gens → AllBare g') → Q .next ⟨h', g', s.drawn, tk', s.os⟩) :
    wpAny (model Challenge.rw_rl0081_01.row.prog w) ((Around.mk none dp fr gd un).deeper (envOf (Str.ofString "_law_times") sc L f cd)) (isTrue te (envOf (Str.ofString "_law_times") sc L f cd) (eval te (envOf (Str.ofString "_law_times") sc L f cd)))
      (fun b s₂ => if b = true then wpAny (model Challenge.rw_rl0081_01.row.prog w) ((Around.mk none dp fr gd un).deeper (envOf (Str.ofString "_law_times") sc L f cd)) (execs wb (envOf (Str.ofString "_law_times") sc L f cd)) (StepWh g L (inv read) (whJ line step order t1 t2 t3 Tt [e]) Q s) NoE s₂ else Q .next s₂) NoE s := by
  generalize htb : (bodyAt 3 (bodyAt 1 (bodyAt 12 mainB))).drop 1 = tb
  have htb' := htb.symm
  have hsc' := hsc
  conv at hsc => rhs; whnf
  conv at hte => rhs; whnf
  conv at hwb => rhs; whnf
  conv at htb' => rhs; whnf
  subst hsc hte hwb htb'
  have tail := fun (P : Flow → Shared → Prop) (s₁ : Shared) m₁ c tc t4 => timesT (s := s₁) (f := f) (cd := cd) (m := m₁) (dp := dp) (un := un) (fr := fr) (gd := gd) (times := times) (read := read) (c := c) (tc := tc) (t4 := t4) (t6 := t6) (line := line) (step := step) (order := order) (t1 := t1) (t2 := t2) (t3 := t3) (L := L) (e := e) (P := P) hsc' htb.symm T X hq1 h3
  clear htb hsc'
  have fin : ∀ {s₁ : Shared} {h' tk' r' t4' t6' m'}, s₁.drawn = s.drawn → s₁.os = s.os → (AllBare s.gens → AllBare s₁.gens) → inv r' + 1 = inv read → r'.length ≤ 7 → BinL r' → Fr g L h' (pinM (whL line r' step order (times + 1) t1 t2 t3 t4' t6') m') → News g L h' [e] → StepWh g L (inv read) (whJ line step order t1 t2 t3 Tt [e]) Q s .next ⟨h', s₁.gens, s₁.drawn, tk', s₁.os⟩ := by
    intro s₁ h' tk' r' t4' t6' m' e1 e2 hb q1 q2 q3 F' N'
    rw [e1, e2]
    exact StepWh.next [e] (inv r') F' N' (fun _ h => h) (by omega) ⟨r', times + 1, _, _, _, rfl, rfl, rfl, by omega, q3, q2⟩ hb
  revert X
  k_fill
  intro X
  dsimp only [whL, pinM] at F
  have hlen : (Str.mk read.toArray).length = read.length := by simp [Str.length]
  have hq0 : (0 : Int) ≤ (times : Int) := Int.natCast_nonneg _
  k_steps
  refine' ell81K (by k_asm) (by k_asm) (by k_asm) (by k_asm) (by omega) (by simp only [depth_deeper]; omega) (by simp only [units_deeper]; omega) ?_; intro _ _ _ F' N' hb
  k_steps
  · refine wpAny_execs_cons ?_
    k_steps
    · rename Fr _ _ _ _ => F9
      rename News _ _ _ _ => N9
      exact tail _ _ _ _ _ _ (turn_find h4 h3 (by assumption)) (Fr.pin F9 ⟨rfl, rfl, rfl, rfl, rfl, rfl, trivial⟩) N9 fun _ _ _ _ _ _ => fin rfl rfl hb
    · rename Fr _ _ _ _ => F9
      rename News _ _ _ _ => N9
      exact tail _ _ _ _ _ _ (turn_rfind h4 h3 (by assumption)) (Fr.pin F9 ⟨rfl, rfl, rfl, rfl, rfl, rfl, trivial⟩) N9 fun _ _ _ _ _ _ => fin rfl rfl hb
  · have e0 := turn_no h4 h3 (by assumption)
    obtain rfl : times = Tt := by omega
    exact done _ _ _ _ _ (Fr.pin F' ⟨rfl, rfl, rfl, rfl, trivial⟩) N' hb
end
section
variable {w : World} {mean : ExcName → Option Value} {mg mb : Str → Option Value} {dp un : Nat} {fr : Option (List Env)} {gd : Option (List Code)} {s : Shared} {Q : Flow → Shared → Prop} {g : Heap} {L f : Addr} {cd : Value} {m : Str → Option Value} {sc : Scope} {line : List Nat} {step order : Int} {t1 t2 t3 : Tok}
theorem timesF {fb : List Stmt} {i : Nat} {t t6 : Tok} {I : Addr} {oI : Obj} (hsc : sc = scopeAt 12) (hfb : fb = bodyAt 1 (bodyAt 12 mainB)) (hT : Top hd.view_39 (looseW hd.view_39 [Str.ofString "Whitespace"]) mean mg mb g) (hX : (hd.heap_39 w.params).In g)
    (hA : dp + 30 < recursionLimit) (hu : un + 80 < cLine) (hl : line.length ≤ 7) (hb : BinL line) (hm : 1 ≤ step) (hm' : step ≤ 8) (ho : 0 ≤ order) (ho' : order < 4096) (hi : i < 8) (hts : tsum line step i ≤ 49 * i)
    (F2 : Fr g L s.heap (pinM ((Str.ofString "first", .int (1 + (i : Int)) t) :: oL line step order (tsum line step i) t1 t2 t3 t6) m)) (N3 : News g L s.heap [(I, oI)]) :
    wpAny (model Challenge.rw_rl0081_01.row.prog w) ((Around.mk none dp fr gd un).deeper (envOf (Str.ofString "_law_times") sc L f cd)) (execs fb (envOf (Str.ofString "_law_times") sc L f cd)) (StepW g L I oI (oJ line step order t1 t2 t3 (i + 1)) Q s) NoE s := by
  conv at hsc => rhs; whnf
  conv at hfb => rhs; whnf
  subst hsc hfb
  revert hX
  k_fill
  intro hX
  dsimp only [oL, pinM] at F2
  have hi2 : i < 8 := by omega
  k_steps
  refine For_W ?_
  k_steps
  rename Fr _ _ _ _ => F4
  rename News _ _ _ _ => N4
  rename_i ha1 ha2 l4 ha3 hlI
  obtain ⟨t0, N4⟩ : ∃ t0, News g L ha3 [(l4, W.listOf #[Value.int (1 + (i : Int)) t, Value.int step t2, Value.int 0 t0] 0), (I, oI)] := ⟨_, N4⟩
  refine gen_make (g := g) (ns := [1 + (i : Int), step, 0]) F4 hT hX (show dp + 1 + 1 < recursionLimit by omega) (News.isList N4 (.head _)) (.cons _ _ (.cons _ _ (.cons _ _ .nil))) (by simp; omega) ?_
  intro h2 tk2 Gn gs own hok hbare hk2 hGen hGnone hown
  refine wpAny_pyIter_gen (hGen) ?_
  intro R hR
  have F5 := Fr.keeps' F4 hk2
  have N5 := News.keeps' N4 hk2
  refine loopG (g := g) (f := gAt none [1 + (i : Int), step, 0]) (N := 20) rfl rfl hT.nolimit (show dp + 1 + 10 < recursionLimit by omega) (show un + 3 + 30 < cLine by omega) (rdJ line step order (1 + (i : Int)) (tsum line step i) t1 t2 t3 t6 t [(l4, W.listOf #[Value.int (1 + (i : Int)) t, Value.int step t2, Value.int 0 t0] 0), (I, oI)]) (rdE line step order (1 + (i : Int)) (tsum line step i) t1 t2 t3 t6 t [(l4, W.listOf #[Value.int (1 + (i : Int)) t, Value.int step t2, Value.int 0 t0] 0), (I, oI)]) ?_ (.inr ⟨0, ?hlist⟩) hGen (by simp) (hok 20) (frN F4 hGnone) (frL F4 hGnone) (fun q => newsNe N4 (.head _) hGnone q.symm)
    (fun q hq => ⟨(hown q hq).1, frN F4 (hown q hq).2.1, frL F4 (hown q hq).2.1, (hown q hq).2.2, fun q' => newsNe N4 (.head _) (hown q hq).2.1 q'.symm⟩) (fun q hq e he => newsNe N4 he (hown q hq).2.1) (fun e he => newsNe N4 he hGnone) F5 N5 ?_ ?_ ?_ ?_ hR
  case hlist =>
    rintro i m₁ news₁ ⟨acc, place, t4, t5, m₁, rfl, rfl, _⟩
    exact .head _
  · rintro j m₁ news₁ ⟨acc, place, t4, t5, m₁, rfl, rfl, hrun, h1, h2, h3, h4⟩
    omega
  · exact ⟨[], 0, _, _, _, pin_self ⟨rfl, rfl, rfl, rfl, rfl, rfl, rfl, trivial⟩, rfl, rfl, Int.le_refl _, by omega, Nat.le_refl _, fun _ h => nomatch h⟩
  · rintro j m₁ news₁ hf ⟨acc, place, t4, t5, m₁, rfl, rfl, hrun, h1, h2, h3, h4⟩
    rw [gAt_read (by omega) (by omega) (by omega) (by omega)] at hf
    cases hf
  · rintro j v t' m₁ news₁ h tk gens own' hf ⟨acc, place, t4, t5, m₂, rfl, rfl, hrun, h1, h2, h3, h4⟩ hdis F6 N6
    have hf' := hf
    rw [gAt_read (by omega) (by omega) (by omega) (by omega)] at hf'
    have hv : 1 ≤ v ∧ v ≤ 8 := by split at hf' <;> cases hf' <;> omega
    exact timesR rfl rfl hT hX hl hb hv hf hrun h1 h2 h3 h4 F6 N6 hdis
  · rintro m₁ news₁ h tk gens hb2 ⟨place, t4, t5, m₂, rfl, rfl, hlr, h4⟩ F6 N6
    dsimp only [rdL, pinM] at F6
    clear F4 N4 F5 N5
    dsimp only
    k_steps
    unfold StopW
    have hTb : tsum line step (i + 1) ≤ 49 * (i + 1) := by
      have := inv_le (readF line (1 + (i : Int)) step)
      have := Nat.mul_le_mul hlr hlr
      rw [tsum]; omega
    refine whileW (whJ line step order t1 t2 t3 (tsum line step (i + 1)) [(I, oI)]) (inv (readF line (1 + (i : Int)) step)) F6 (news := [(I, oI)]) (fun p hp => N6 p (.tail _ hp)) ?_ ?_
    · exact ⟨_, _, _, _, _, pin_self ⟨rfl, rfl, rfl, rfl, rfl, trivial⟩, rfl, rfl, rfl, h4, hlr⟩
    · rintro n m₁ news₁ h tk g3 hb3 ⟨read, times, t4, t6, m₂, rfl, rfl, rfl, hT9, h4, h3⟩ F7 N7
      clear F6 N6
      refine timesW (s := ⟨h, g3, s.drawn, tk, s.os⟩) (f := f) rfl rfl rfl hT hX hA hu ho ho' (by omega) hT9 h4 h3 F7 N7 ?_
      intro h' tk' g' t6' m' F9 N9 hb'
      dsimp only
      k_steps
      exact StepW.next [] F9 N9 (.head _) (fun _ h => nomatch h) (fun _ h => nomatch h) (show oJ line step order t1 t2 t3 (i + 1) _ [] from ⟨_, _, rfl, rfl, hTb⟩) (fun z => hb' (hb3 (hb2 (z.push hbare))))
end
theorem times81 {w : World} {mean : ExcName → Option Value} {mg mb : Str → Option Value} {dp un : Nat} {fr : Option (List Env)} {gd : Option (List Code)} {s : Shared} {Q E : Value → Shared → Prop} {line : List Nat} {step order : Int} {t1 t2 t3 : Tok}
    (G : Gd w mean mg mb s.heap) (hA : dp + 30 < recursionLimit) (hu : un + 80 < cLine) (hl : line.length ≤ 7) (hb : BinL line) (hm : 1 ≤ step) (hm' : step ≤ 8) (ho : 0 ≤ order) (ho' : order < 4096)
    (hret : ∀ t s', Keep s s' → Q (.int (tsum line step step.toNat : Nat) t) s') :
    wpAny (model Challenge.rw_rl0081_01.row.prog w) (Around.mk none dp fr gd un) (call (.ref 120) [.str ⟨line.toArray⟩ t1, .int step t2, .int order t3]) Q E s := by
  have hT := G.T
  have hX := G.X
  revert hX
  k_fill
  intro hX
  refine' enterP ?kG ?k6 ?k7 ?k8 ?k9 ?kB ?_ ?c2 ?c3 ?c4 ?c5; (case kG => exact G); (case k6 => k_is); (case k7 => k_is); (case k8 => (show dp < recursionLimit; omega)); (case k9 => exact BindsTo.of_eq rfl); (case c5 => decide); (case kB => exact locs rfl); (case c2 => exact rfl); (case c3 => exact rfl); (case c4 => exact rfl)
  intro h' F' N'; (try dsimp only)
  k_steps
  refine For_W ?_
  k_steps
  rename Fr _ _ _ _ => F1
  rename News _ _ _ _ => N1
  refine iterW_range (J := oJ line step order t1 t2 t3) rfl rfl rfl (by assumption) (rng_small (by omega) (by omega) (by omega) (by omega)) (rng_size _ _) F1 N1 ?_ ?_ ?_
  · exact ⟨_, _, pin_self ⟨rfl, rfl, rfl, rfl, trivial⟩, rfl, Nat.zero_le _⟩
  · rintro i t m₁ news₁ h tk g' oI I hI hb1 hi ⟨t6, m₂, rfl, rfl, hts⟩ hn F2 N3
    exact timesF rfl rfl hT hX hA hu hl hb hm hm' ho ho' (by omega) hts F2 N3
  · rintro m₁ news₁ h tk g' hb1 ⟨t6, m₂, rfl, rfl, hts⟩ F2 N3
    dsimp only [oL, pinM] at F2
    clear N1 F1
    dsimp only
    k_steps
    have e : (step + 1 - 1).toNat = step.toNat := by omega
    rw [e]
    rename Fr _ _ _ _ => F9
    exact hret _ _ ⟨F9.keep, rfl, rfl, hb1⟩
end
end Mine81
namespace Mine81
section
open PySem.W.X (SegX s_call s_again s_pop s_end s_yield wake_any)
section
variable {prog : Program} {w : World} {A : Around} {c : Code} {fs : List Frame} {s : Shared} {env : Env} {P : End → Shared → Prop}
  {K : Flow → Sem Fin} {H : Value → Sem Fin} {gd : Bool → Bool} {lv : List Value → List Value}
theorem sx_wrapE {α : Type} {m : Sem α} {K : α → Sem Fin} (h : wpAny (model prog w) (A.over c fs) m (fun a s' => SegX (model prog w) A c (K a) fs s' P) (fun x s' => SegX (model prog w) A c (H x) fs s' P) s) :
    SegX (model prog w) A c (m.wrap K H gd lv) fs s P := by
  rintro Γ p rfl hΓ
  obtain ⟨e, s', hr, hq⟩ := runs_wrap_of_wp (Φ := fun e s' => e.quiet = true ∧ P e s') K H gd lv m (h (Γ.over fs) p (hΓ.over fs)) (fun a p' s' h' => h' Γ p' rfl hΓ) (fun x p' s' h' => h' Γ p' rfl hΓ)
  exact ⟨e, s', hr, hq⟩
theorem sx_cmdE {st : Stmt} (h : wpAny (model prog w) (A.over c fs) (exec st env) (fun f s' => SegX (model prog w) A c (K f) fs s' P) (fun x s' => SegX (model prog w) A c (H x) fs s' P) s) :
    SegX (model prog w) A c ((exec st env).wrap K H gd lv) fs s P := sx_wrapE h
/-- a raise that passes a handler that only looks on -/
theorem sx_onRaise {m : Value → Sem Unit} {x : Value} {K : Flow → Sem Fin}
    (h : wpAny (model prog w) (A.over c fs) (m x) (fun _ s' => SegX (model prog w) A c (H x) fs s' P) (fun x' s' => SegX (model prog w) A c (H x') fs s' P) s) :
    SegX (model prog w) A c ((((.raise x : Sem Flow)).onRaise m).wrap K H gd lv) fs s P := by
  show SegX _ A c (((m x).bind fun _ => (.raise x : Sem Flow)).wrap K H gd lv) fs s P
  rw [Sem.bind_eq_wrap, Sem.wrap_wrap]
  exact sx_wrapE h
end
section
variable {M : Model} {A : Around} {E : Value → Shared → Prop} {s : Shared}
/-- the flight's frame is set: a held exception stays held -/
theorem setFlight_heldW {base : Heap} {l : List Env} {e L : Addr} {cls a0 : Value} {Q : Unit → Shared → Prop} (hh : Heap.HeldW base l e cls a0 L s.heap)
    (hQ : ∀ h', Heap.HeldW base l e cls a0 L h' → s.heap.UpToSlots h' → Q () { s with heap := h' }) : wpAny M A (setFlight (.ref e) (some L)) Q E s := by
  obtain ⟨hkb, hen, hl, oe, vs, T, oT, ts, he, hcls, hd, h1, hnT, hTe, hT, hdT, h3⟩ := hh
  have hsz3 : 3 < ts.size := (Array.getElem?_eq_some_iff.mp h3).1
  have other : ∀ b, b ≠ T → (s.heap.update T (Obj.mapFields (·.setIfInBounds 3 ((some L : Option Addr).elim Value.none fun f => rawInt f)))).get? b = s.heap.get? b :=
    fun b hb => Heap.get?_update_other _ _ (Ne.symm hb)
  have noRecord : ∀ b o, s.heap.get? b = some o → (∀ vs, o.data ≠ .fields vs) → b ≠ T := fun b o hb hnf q => by
    rw [q, hT] at hb; injection hb with hb; subst hb; exact hnf ts hdT
  unfold setFlight
  refine wpAny_bind (wpAny_field he hd h1 ?_)
  rw [if_pos (show (Value.ref T != Value.none) = true from by simp)]
  refine wpAny_setField hT hdT hsz3 (hQ _ ⟨fun b o hbo => (other b fun q => by rw [q, hnT] at hbo; cases hbo).trans (hkb b o hbo), hen,
    hl.of_keeps fun b o hb hnf => ⟨o, (other b (noRecord b o hb hnf)).trans hb, rfl⟩, ?_⟩ fun b o hb hnf => ⟨o.slots, (other b (noRecord b o hb hnf)).trans hb⟩)
  exact ⟨oe, vs, T, _, _, (other e (Ne.symm hTe)).trans he, hcls, hd, h1, hnT, hTe, Heap.get?_update_self _ hT (Obj.isFreed_of_fields (Obj.data_mapFields hdT _)), Obj.data_mapFields hdT _, by simp [hsz3]⟩
/-- coming back over an own activation -/
theorem cameBack_heldW {base : Heap} {env : Env} {l : List Env} {e L : Addr} {cls a0 : Value} {Q : Unit → Shared → Prop} (hf : env.frame = some L) (hh : Heap.HeldW base l e cls a0 L s.heap)
    (hQ : ∀ h', Heap.HeldW base l e cls a0 L h' → s.heap.UpToSlots h' → Q () { s with heap := h' }) :
    wpAny M A (do
      if (← field (.ref e) 1) == Value.none then unsupported "frame.own-activation:exception-without-traceback"
      setFlight (.ref e) env.frame) Q E s := by
  have hh' := hh
  obtain ⟨hkb, hen, hl, oe, vs, T, oT, ts, he, hcls, hd, h1, hnT, hTe, hT, hdT, h3⟩ := hh
  refine wpAny_bind (wpAny_field he hd h1 ?_)
  rw [if_neg (by simp)]
  rw [hf]
  exact setFlight_heldW hh' hQ
/-- a new exception's first entry -/
theorem noteFrame_newW {base : Heap} {env : Env} {outer : List Env} {L e : Addr} {oe : Obj} {vs : Array Value} {a0 : Value} {Q : Unit → Shared → Prop}
    (hfr : A.frames = some (env :: outer)) (hl : s.heap.FunFrames base (env :: outer)) (hf : env.frame = some L)
    (he : s.heap.get? e = some oe) (hkb : base.StaysIn s.heap) (hen : base.get? e = none) (hd : oe.data = .fields vs) (h1 : vs[1]? = some .none) (h0 : vs[0]? = some a0)
    (h : ∀ h', Heap.HeldW base (env :: outer) e oe.cls a0 L h' → s.heap.UpToSlots h' → Q () { s with heap := h' }) : wpAny M A (noteFrame (.ref e) env) Q E s := by
  unfold noteFrame
  simp only [hf]
  refine wpAny_bind (wpAny_field he hd h1 ?_)
  rw [if_neg (by decide)]
  refine wpAny_entryW hfr hl hf he hkb hen hd (Array.getElem?_eq_some_iff.mp h1).1 h0 fun h' hN => ?_
  obtain ⟨k1, k2, k3, k4⟩ := hN
  exact h h' ⟨k1, hen, k2, k3⟩ k4
end
theorem leaves_heldU {M : Model} {A : Around} {E : Value → Shared → Prop} {s : Shared} {base : Heap} {env : Env} {outer : List Env} {L e : Addr} {cls a0 : Value} {Q : Unit → Shared → Prop} (hf : env.frame = some L)
    (hh : Heap.HeldW base (env :: outer) e cls a0 L s.heap) (hQ : ∀ h', Heap.FlyingW base outer e cls a0 h' → s.heap.UpToSlots h' → Q () { s with heap := h' }) : wpAny M A (leaving env (.ref e)) Q E s := by
  unfold leaving
  refine wpAny_bind (wpAny_noteFrame_againW hf hh.2.2.2 ?_)
  refine wpAny_landsW hh fun h' hfl hu => ?_
  obtain ⟨k1, k2, ⟨_, _, k3⟩, k4⟩ := hfl
  exact hQ h' ⟨k1, k2, k3, k4⟩ hu
theorem funFrames_on {h h' base : Heap} : ∀ {l : List Env}, h.FunFrames base l → (∀ b ∈ l.filterMap (·.frame), ∀ o, h.get? b = some o → (∀ vs, o.data ≠ .fields vs) → ∃ o', h'.get? b = some o' ∧ o'.data = o.data) → h'.FunFrames base l
  | [], _, _ => trivial
  | env :: r, ⟨hk, ⟨L, o, hf, hn, ho, hd⟩, hr⟩, k => by
    obtain ⟨o', ho', hd'⟩ := k L (List.mem_filterMap.mpr ⟨env, List.mem_cons_self, hf⟩) o ho hd
    refine ⟨hk, ⟨L, o', hf, hn, ho', fun vs => hd' ▸ hd vs⟩, funFrames_on hr fun b hb => k b ?_⟩
    obtain ⟨e, he, hfe⟩ := List.mem_filterMap.mp hb
    exact List.mem_filterMap.mpr ⟨e, List.mem_cons_of_mem _ he, hfe⟩
noncomputable def UpB (ex : List Addr) (h h' : Heap) : Prop := ∀ b o, b ∉ ex → h.get? b = some o → (∀ vs, o.data ≠ .fields vs) → ∃ sl, h'.get? b = some { o with slots := sl }
theorem UpB.trans {ex : List Addr} {h h' h'' : Heap} (x : UpB ex h h') (y : h'.UpToSlots h'') : UpB ex h h'' := fun b o hb e hn =>
  let ⟨_, e1⟩ := x b o hb e hn
  let ⟨sl, e2⟩ := y b _ e1 hn
  ⟨sl, e2⟩
/-- the woken generator raises -/
noncomputable def GXok (w : World) (B : Heap) (Lg : Addr) (oL : Obj) (gs : GenState) : Prop :=
  ∀ (dp un : Nat) (outer : List Env) (gd : Option (List Code)) (s : Shared) (Bx : Heap), dp + 5 < recursionLimit → un + 20 < cLine → B.StaysIn s.heap → Bx.StaysIn s.heap → Bx.get? Lg = none → s.heap.get? Lg = some oL → s.heap.FunFrames Bx outer → (∀ b ∈ outer.filterMap (·.frame), b ≠ Lg) →
    GRun w (Around.mk none dp (some outer) gd un) gs s (fun e s₁ => ∃ x a0, e = .ret (.error (.ref x)) ∧ Heap.FlyingW Bx outer x (.type "ValueError") a0 s₁.heap ∧ UpB [Lg] s.heap s₁.heap ∧ s₁.gens = s.gens ∧ s₁.drawn = s.drawn ∧ s₁.os = s.os)
theorem genX_make {w : World} {mean : ExcName → Option Value} {mg mb : Str → Option Value} {dp un : Nat} {fr : Option (List Env)} {gd : Option (List Code)} {s : Shared} {Q E : Value → Shared → Prop} {g : Heap} {L l : Addr} {m : Str → Option Value} {vs : List Value} {ns : List Int}
    (F : Fr g L s.heap m) (T : Top hd.view_39 (looseW hd.view_39 [Str.ofString "Whitespace"]) mean mg mb g) (X : (hd.heap_39 w.params).In g) (hA : dp + 1 < recursionLimit)
    (hl : g.IsList l vs.toArray) (hi : IntsAre vs ns) (hns : ns.head? = some 0)
    (hret : ∀ (h' : Heap) (tk : Nat) (G Lg : Addr) (oL : Obj) (gs : GenState), GXok w g Lg oL gs → gs.bare = true → (∀ b o, s.heap.get? b = some o → h'.get? b = some o) →
      h'.IsGen G s.gens.size → s.heap.get? G = none → h'.get? Lg = some oL → s.heap.get? Lg = none → G ≠ Lg → Q (.ref G) ⟨h', s.gens.push gs, s.drawn, tk, s.os⟩) :
    wpAny (model Challenge.rw_rl0081_01.row.prog w) (Around.mk none dp fr gd un) (call (.ref 101) [.ref l]) Q E s := by
  revert X
  k_fill
  intro X
  have hX := X.keeps F.keep
  have hT := T.keeps F.keep
  refine' enterG hX hT.nolimit ?k6 ?k7 ?k8 ?k9 ?kB ?_ ?c2 ?c3 ?c4 ?c5; (case k6 => k_is); (case k7 => k_is); (case k8 => (show dp < recursionLimit; omega)); (case k9 => exact rfl); (case c5 => decide); (case kB => exact locs rfl); (case c2 => exact rfl); (case c3 => exact rfl); (case c4 => exact rfl)
  intro h₁ tk t1 t2 hns₁ hk
  obtain ⟨oL, hoL⟩ : ∃ oL, h₁.get? s.heap.objs.size = some oL := by
    obtain ⟨oL, _, _, hL, _⟩ := hns₁
    exact ⟨oL, hL⟩
  have hsz : h₁.get? h₁.objs.size = none := by
    cases q : h₁.get? h₁.objs.size with
    | none => rfl
    | some o => exact absurd (Heap.lt_size q) (Nat.lt_irrefl _)
  have hs0 : s.heap.get? s.heap.objs.size = none := by
    cases q : s.heap.get? s.heap.objs.size with
    | none => rfl
    | some o => exact absurd (Heap.lt_size q) (Nat.lt_irrefl _)
  have hgL : g.get? s.heap.objs.size = none := by
    cases q : g.get? s.heap.objs.size with
    | none => rfl
    | some o => have := F.keep _ o q; rw [hs0] at this; cases this
  have habove := Nat.le_trans F.above (Nat.le_of_lt F.ns.lt)
  refine hret _ tk _ s.heap.objs.size oL _ ?gok rfl (fun b o e => Heap.get?_push_of_some _ (hk b o e)) ⟨_, _, _, Heap.get?_push_size _ rfl, rfl, rfl, rfl⟩ ?_ (Heap.get?_push_of_some _ hoL) hs0 (Nat.ne_of_gt (Heap.lt_size hoL))
  case gok =>
    intro dp un outer gd s' Bx hdp hun hB hBx hBL hL hFF hne
    have hLg := hns₁.at' (h' := s'.heap) fun o e => by
      rw [hoL] at e; cases e; exact hL
    have F1 : Fr g s.heap.objs.size s'.heap _ := ⟨hLg, hB, habove⟩
    have N1 : News g s.heap.objs.size s'.heap (frzOf g s'.heap [s.heap.objs.size]) := frz_news (.head _)
    have keep1 : ∀ {h' : Heap} {m' : Str → Option Value}, Fr g s.heap.objs.size h' m' → News g s.heap.objs.size h' (frzOf g s'.heap [s.heap.objs.size]) → ∀ b o, b ≠ s.heap.objs.size → s'.heap.get? b = some o → h'.get? b = some o := fun F' N' b o hb e => frz_keep F1 F' N' b o (by simpa using hb) e
    generalize frzOf g s'.heap [s.heap.objs.size] = frz at N1 keep1
    refine sx_func ?_
    refine sx_cons (sx_cmd ?_)
    clear F hX hT hns₁ hLg
    k_steps
    refine sx_cons (sx_For ?_)
    k_steps
    rename Fr _ _ _ _ => F2
    rename News _ _ _ _ => N2
    have k2 := keep1 F2 N2
    rename_i hq
    have hls : hq.IsList l vs.toArray := hl.at fun o e => F2.keep l o e
    refine wpAny_pyIter_list hls ?_
    intro p
    refine sx_forLoop ?_
    have hltl : l < hq.objs.size := by
      obtain ⟨ol, hol, _⟩ := hls
      exact Heap.lt_size hol
    have hLq : s.heap.objs.size < hq.objs.size := F2.ns.lt
    obtain ⟨t, vs0, ns0, rfl, rfl⟩ : ∃ t vs0 ns0, vs = Value.int 0 t :: vs0 ∧ ns = 0 :: ns0 := by
      cases hi with
      | nil => cases hns
      | cons x t hi0 =>
        have hx0 : x = 0 := by simpa using hns
        subst hx0
        exact ⟨_, _, _, rfl, rfl⟩
    refine (Walks.list ?hh hq.objs.size l (Nat.ne_of_lt hltl) (Value.int 0 t :: vs0).toArray).item 0 _ _ _ (by simp) ⟨⟨_, Heap.get?_push_size _ rfl, rfl, rfl⟩, hls.at fun o e => Heap.get?_push_of_some _ e⟩ fun v h₁' tk₁ hv hst hk₁ => ?_
    case hh => rfl
    have hv' : v = Value.int 0 t := by simpa using hv.symm
    subst hv'
    have hk1 : ∀ b o, hq.get? b = some o → h₁'.get? b = some o := fun b o e => hk₁ b o (by simpa using Nat.ne_of_lt (Heap.lt_size e)) (Heap.get?_push_of_some _ e)
    have F3 := Fr.keeps' F2 hk1
    dsimp only
    refine wpAny_assign_Name (wpAny_storeName_local rfl F3.ns (fun h₂ hn₂ hs₂ => ?_) rfl)
    have F4 := F3.set hn₂ hs₂
    have k4 : ∀ b o, b ≠ s.heap.objs.size → s'.heap.get? b = some o → h₂.get? b = some o := fun b o hb e => hs₂.extBut b o hb (hk1 b o (k2 b o hb e))
    have N4 : News g s.heap.objs.size h₂ (frzOf g h₂ [s.heap.objs.size]) := frz_news (.head _)
    have keep4 : ∀ {h' : Heap} {m' : Str → Option Value}, Fr g s.heap.objs.size h' m' → News g s.heap.objs.size h' (frzOf g h₂ [s.heap.objs.size]) → ∀ b o, b ≠ s.heap.objs.size → h₂.get? b = some o → h'.get? b = some o := fun F' N' b o hb e => frz_keep F4 F' N' b o (by simpa using hb) e
    generalize frzOf g h₂ [s.heap.objs.size] = frz4 at N4 keep4
    clear F2 F3 N2 hk₁ hk1 hn₂ hs₂ hst keep1
    refine sx_cons (sx_If ?_)
    k_steps
    refine sx_nil ?_
    refine sx_cons (sx_If ?_)
    k_steps
    refine sx_cons (sx_If ?_)
    k_steps
    refine sx_cons (sx_cmdE ?_)
    k_steps
    rename_i h5 e hx
    have kB : ∀ b o, Bx.get? b = some o → h₂.get? b = some o := fun b o hb => k4 b o (fun q => by rw [q, hBL] at hb; cases hb) (hBx b o hb)
    have hen : Bx.get? e = none := by
      cases q : Bx.get? e with
      | none => rfl
      | some o => have := kB _ _ q; rw [hx.new] at this; cases this
    obtain ⟨ob, tv, hee, hcls, hd⟩ := hx.there
    refine sx_wrap (wpAny_bind (noteFrame_newW (outer := outer) (base := Bx) rfl ?hFF rfl hee (fun b o hb => hx.keeps _ _ (kB b o hb)) hen hd rfl rfl fun h6 hH6 hU6 => wpAny_theTreesLotGoes ?_))
    case hFF => exact Heap.FunFrames.cons (by intro q; cases q) rfl (Fr.keeps' F4 hx.keeps).ns hBL (funFrames_on hFF fun b hb o ho _ => ⟨o, hx.keeps _ _ (k4 b o (hne b hb) ho), rfl⟩)
    refine s_pop _ _ _ _ _ _ _ (.error (.ref e)) _ rfl _ _ _ _ _ _ _ ?_
    refine sx_onRaise (m := fun x => do
        if (← field x 1) == Value.none then unsupported "frame.own-activation:exception-without-traceback"
        setFlight x _) ?_
    refine cameBack_heldW rfl hH6 fun h7 hH7 hU7 => ?_
    refine sx_wrap (leaves_heldU rfl hH7 fun h8 hF8 hU8 => ?_)
    refine s_end _ _ _ _ _ _ (.error (.ref e)) _ rfl ?_
    refine ⟨e, _, rfl, by rw [← hcls]; exact hF8, ?_, rfl, rfl, rfl⟩
    refine UpB.trans (UpB.trans (UpB.trans ?_ hU6) hU7) hU8
    intro b o hb ho hn
    exact ⟨o.slots, hx.keeps _ _ (k4 b o (by simpa using hb) ho)⟩
  · cases q : s.heap.get? h₁.objs.size with
    | none => rfl
    | some o => have := hk _ o q; rw [hsz] at this; cases this
theorem notStop : isSubtype (.type "ValueError") (.type "StopIteration") = pure false := by rw [isSubtype_type]; kernel_rfl
theorem pyNextX {w : World} {dp un : Nat} {outer : List Env} {gd : Option (List Code)} {s : Shared} {E : Value → Shared → Prop} {Q : Option Value → Shared → Prop} {B : Heap} {G Lg : Addr} {oL : Obj} {gid : Nat} {gs : GenState}
    (hg : s.heap.IsGen G gid) (hgs : s.gens[gid]? = some gs) (hl : s.heap.NoLimit) (hdp : dp + 10 < recursionLimit) (hun : un + 30 < cLine)
    (ok : GXok w B Lg oL gs) (hB : B.StaysIn s.heap) (hL : s.heap.get? Lg = some oL) (hFF : s.heap.FunFrames B outer) (hne : ∀ b ∈ outer.filterMap (·.frame), b ≠ Lg) (hG : G ∉ Lg :: outer.filterMap (·.frame))
    (hE : ∀ (e : Addr) (a0 : Value) (s₁ : Shared), Heap.FlyingW (hideAll s.heap (Lg :: outer.filterMap (·.frame))) outer e (.type "ValueError") a0 s₁.heap → UpB [Lg] s.heap s₁.heap → s₁.gens = (s.setGen gid .running).gens → s₁.drawn = s.drawn → s₁.os = s.os → E (.ref e) (s₁.setGen gid .finished)) :
    wpAny (model Challenge.rw_rl0081_01.row.prog w) (Around.mk none dp (some outer) gd un) (pyNext (.ref G)) Q E s := by
  have hFF' : (s.setGen gid .running).heap.FunFrames (hideAll s.heap (Lg :: outer.filterMap (·.frame))) outer := by
    have key : ∀ l : List Env, s.heap.FunFrames B l → (∀ b ∈ l.filterMap (·.frame), b ∈ Lg :: outer.filterMap (·.frame)) → s.heap.FunFrames (hideAll s.heap (Lg :: outer.filterMap (·.frame))) l := by
      intro l
      induction l with
      | nil => exact fun _ _ => trivial
      | cons env r ih =>
        rintro ⟨hk, ⟨L, o, hf, hn, ho, hd⟩, hr⟩ hin
        refine ⟨hk, ⟨L, o, hf, hideAll_none _ (hin L (List.mem_filterMap.mpr ⟨env, List.mem_cons_self, hf⟩)), ho, hd⟩, ih hr fun b hb => hin b ?_⟩
        obtain ⟨e, he, hfe⟩ := List.mem_filterMap.mp hb
        exact List.mem_filterMap.mpr ⟨e, List.mem_cons_of_mem _ he, hfe⟩
    exact key outer hFF fun b hb => List.mem_cons_of_mem _ hb
  have ok' := ok ((Around.mk none dp (some outer) gd un).in1.depth) ((Around.mk none dp (some outer) gd un).in1.units) outer ((Around.mk none dp (some outer) gd un).in1.guards) (s.setGen gid .running) (hideAll s.heap (Lg :: outer.filterMap (·.frame))) (show dp + 5 < recursionLimit by omega) (show un + 1 + 20 < cLine by omega) hB (fun b o e => of_hideAll _ e) (hideAll_none _ List.mem_cons_self) hL hFF' hne
  unfold pyNext
  refine wpAny_bind (wpAny_attempt (wpAny_callSpecial?_slot (name := Str.ofString "__next__") hg.typeIs slot_gen_next
    (wpAny_call_entry slot_gen_next hg.typeIs entry_gen_next ?_ (args_gen_next _))))
  show wpAny _ _ (Builtin.Generator.genWake (.ref G) (.send .none)) _ _ s
  unfold Builtin.Generator.genWake
  refine wpAny_bind (wpAny_holding (wpAny_genNumber hg (wpAny_bind (wpAny_genState hgs ?_))))
  cases gs
  case running => exact ok'.elim
  case finished => exact ok'.elim
  all_goals
    refine wpAny_bind (wpAny_roomToWake hl (show dp < recursionLimit by omega) ?_)
    show wpAny _ _ (.resume gid (.send .none) [] _) _ _ s
    refine wake_any _ _ _ hgs (by first | exact .inl ⟨rfl, rfl, rfl, rfl⟩ | exact .inr ⟨_, _, _, _, rfl, rfl⟩) (fun Γ => Γ.In _) (fun _ h => h) (SegX.mono ok' fun e s₁ h => ?_)
    obtain ⟨x, a0, rfl, hfl, hU, h1, h2, h3⟩ := h
    obtain ⟨ob, hob, hoc⟩ := hfl.there
    have hT : ∀ s2 : Shared, s2.heap = s₁.heap → s2.TypeIs (.ref x) "ValueError" := fun s2 q => ⟨ob, by rw [q]; exact hob, hoc⟩
    obtain ⟨oG, nm, qn, hoG, hcG, hdG, hsG⟩ := id hg
    have hoG1 : s₁.heap.get? G = some oG := hfl.1 G oG (hideAll_get _ hoG hG)
    show wpAny (model Challenge.rw_rl0081_01.row.prog w) (Around.mk none dp (some outer) gd un).in1 (Builtin.Generator.genLeft (.ref G) (.ref x)) _ _ _
    unfold Builtin.Generator.genLeft Builtin.Generator.madeByALambda
    refine wpAny_bind (wpAny_bind (wpAny_load (o := oG) hoG1 (wpAny_pure ?_)))
    refine wpAny_bind (wpAny_isInstance (T := "ValueError") (b := false) (hT _ rfl) notStop ?_)
    simp only [Bool.and_false, Bool.false_eq_true, if_false]
    unfold Builtin.Generator.genEscaped
    refine wpAny_bind (wpAny_isInstance (T := "ValueError") (b := false) (hT _ rfl) notStop ?_)
    simp only [Bool.not_false, if_true]
    refine wpAny_throw ?_
    refine wpAny_bind (wpAny_isInstance (T := "ValueError") (b := false) (hT _ rfl) notStop ?_)
    simp only [Bool.false_eq_true, if_false]
    refine wpAny_throw ?_
    exact hE x a0 s₁ hfl hU h1 h2 h3
section
variable {prog : Program} {w : World} {A : Around} {s : Shared} {env : Env} {x : Str} {body : List Stmt} {Q : Flow → Shared → Prop} {E : Value → Shared → Prop} {mg mb : Str → Option Value} {mean : ExcName → Option Value}
noncomputable def LoopX (prog : Program) (w : World) (A : Around) (env : Env) (x : Str) (px : Pos) (body : List Stmt) (Q : Flow → Shared → Prop) (E : Value → Shared → Prop) (it : Value) (s₂ : Shared) : Prop :=
  codeAny (model prog w) A (.forLoop (.Name x px) it body [] env) (fun r s' => match r with | .ok f => Q f s' | .error e => cameBackBy (model prog w) A env E e s') s₂
theorem For_X {px pos : Pos} {iter : Expr} (h : wpAny (model prog w) A (eval iter env) (fun xv s₁ => wpAny (model prog w) A (pyIter xv) (fun it s₂ => LoopX prog w A env x px body Q E it s₂) E s₁) E s)
    (hs : ∀ x, foldedSetIterable iter env x = pure x := by intro _; rfl) :
    wpAny (model prog w) A (exec (.For (.Name x px) iter body [] pos) env) Q E s := wpAny_For h hs
theorem enterE {Q : Value → Shared → Prop} {name qual : Str} {params : Arguments} {body : List Stmt} {scope : Scope} {dV kV doc pm cdv ct oc : Value} {an od : Option Addr} {osl : Array (Option Value)} {f : Addr} {args : List Value} {binds : List (Str × Value)}
    {B : Heap} (T : Top hd.view_39 (looseW hd.view_39 [Str.ofString "Whitespace"]) mean mg mb B) (X : (hd.heap_39 w.params).In B) (hB : ∀ b o, B.get? b = some o → s.heap.get? b = some o) (hsz : B.objs.size ≤ s.heap.objs.size)
    (ho : (hd.heap_39 w.params).lookup f = some ⟨oc, od, .func (fnOf name qual params body scope dV kV doc pm an cdv ct), osl⟩)
    (hcd : codeIn (hd.heap_39 w.params) cdv qual = true) (hroom : A.depth < recursionLimit)
    (hbind : BindsTo s (fnOf name qual params body scope dV kV doc pm an cdv ct) ⟨args, []⟩ binds) (hloc : ∀ y ∈ binds, scope.names.lookup y.1 = some .local)
    (h : ∀ h₁, Fr B s.heap.objs.size h₁ (fun y => binds.reverse.lookup y) → (∀ b o, s.heap.get? b = some o → h₁.get? b = some o) →
      wpAny (model prog w) (A.deeper (envOf qual scope s.heap.objs.size f cdv)) (execs body (envOf qual scope s.heap.objs.size f cdv))
        (fun fl s' => Q (match fl with | .ret v => v | _ => .none) s')
        (fun e s' => wpAny (model prog w) (A.deeper (envOf qual scope s.heap.objs.size f cdv)) (leaving (envOf qual scope s.heap.objs.size f cdv) e) (fun _ s'' => E e s'') (fun e' s'' => E e' s'') s') { s with heap := h₁, toks := s.toks + binds.length })
    (hco : scope.isCoroutine = false) (hgen : scope.isGenerator = false) (hk : scope.kind = .function)
    (hcell : ∀ x ∈ scope.names, x.2 ≠ .cell) : wpAny (model prog w) A (call (.ref f) args) Q E s := by
  have hX := X.keeps hB
  have hlim := T.nolimit.keeps hB
  refine wpAny_call (codeAny_call_def (fd := fnOf name qual params body scope dV kV doc pm an cdv ct) (body := body) (binds := binds) hroom (hX _ _ ho) rfl hlim (codeRec_of hX hcd) rfl hbind hcell hloc (fun h₁ hns hk₁ => ?_) hco hgen hk)
  exact h h₁ ⟨hns, fun b o e => hk₁ b o (hB b o e), hsz⟩ hk₁
end
local macro_rules
  | `(tactic| walk_at "exec For Name Call cons nil") => `(tactic| refine stop_ ?_)
theorem lineX81 {w : World} {mean : ExcName → Option Value} {mg mb : Str → Option Value} {dp un : Nat} {outer : List Env} {gd : Option (List Code)} {s : Shared} {Q E : Value → Shared → Prop} {B : Heap} {l : Addr} {vs : List Value} {ns : List Int} {most : Int} {t2 : Tok}
    (T : Top hd.view_39 (looseW hd.view_39 [Str.ofString "Whitespace"]) mean mg mb B) (X : (hd.heap_39 w.params).In B) (hB : ∀ b o, B.get? b = some o → s.heap.get? b = some o) (hsz : B.objs.size ≤ s.heap.objs.size) (hFF : s.heap.FunFrames B outer)
    (hA : dp + 20 < recursionLimit) (hu : un + 50 < cLine) (hl : B.IsList l vs.toArray) (hi : IntsAre vs ns) (hns : ns.head? = some 0)
    (hE : ∀ (e : Addr) (a0 : Value) (h' : Heap) (tk : Nat) (g' : Array GenState), Heap.FlyingW B outer e (.type "ValueError") a0 h' → s.heap.UpToSlots h' → (AllBare s.gens → AllBare g') → E (.ref e) ⟨h', g', s.drawn, tk, s.os⟩) :
    wpAny (model Challenge.rw_rl0081_01.row.prog w) (Around.mk none dp (some outer) gd un) (call (.ref 108) [.ref l, .int most t2]) Q E s := by
  revert X
  k_fill
  intro X
  refine' enterE T X hB hsz ?k6 ?k7 ?k8 ?k9 ?kB ?_ ?c2 ?c3 ?c4 ?c5; (case k6 => k_is); (case k7 => k_is); (case k8 => (show dp < recursionLimit; omega)); (case k9 => exact BindsTo.of_eq rfl); (case c5 => decide); (case kB => exact locs rfl); (case c2 => exact rfl); (case c3 => exact rfl); (case c4 => exact rfl)
  intro h1 F1 hk1
  have N1 : News B s.heap.objs.size h1 (frzOf B h1 [s.heap.objs.size]) := frz_news (.head _)
  have keep1 : ∀ {h' : Heap} {m' : Str → Option Value}, Fr B s.heap.objs.size h' m' → News B s.heap.objs.size h' (frzOf B h1 [s.heap.objs.size]) → ∀ b o, b ≠ s.heap.objs.size → h1.get? b = some o → h'.get? b = some o := fun F' N' b o hb e => frz_keep F1 F' N' b o (by simpa using hb) e
  generalize frzOf B h1 [s.heap.objs.size] = frz at N1 keep1
  k_steps
  refine For_X ?_
  k_steps
  rename Fr _ _ _ _ => F2
  rename News _ _ _ _ => N2
  have k2 := keep1 F2 N2
  refine genX_make (g := B) F2 T X (show dp + 1 + 1 < recursionLimit by omega) hl hi hns ?_
  intro h3 tk3 G Lg oL gs hok hbare hk3 hGen hGnone hLg hLgnone hGL
  refine wpAny_pyIter_gen hGen ?_
  rename_i h2
  have hBL := above_none F2
  have hdT := T.nolimit.keeps (Fr.keeps' F2 hk3).keep
  have hlt : ∀ b o, s.heap.get? b = some o → b ≠ s.heap.objs.size := fun b o e => Nat.ne_of_lt (Heap.lt_size e)
  have kall : ∀ b o, s.heap.get? b = some o → h3.get? b = some o := fun b o e => hk3 _ _ (k2 b o (hlt b o e) (hk1 b o e))
  unfold LoopX
  refine codeAny_forLoop (fun _ s' => s' = ⟨h3, s.gens.push gs, s.drawn, tk3, s.os⟩) ?_ 0 rfl
  rintro n s' rfl
  have hfr : ∀ b ∈ outer.filterMap (·.frame), ∃ o, s.heap.get? b = some o := fun b hb => by
    obtain ⟨_, o, ho, _⟩ := hFF.mem hb
    exact ⟨o, ho⟩
  have hL2 : ∃ o, h2.get? s.heap.objs.size = some o := by
    obtain ⟨o, _, _, ho, _⟩ := F2.ns
    exact ⟨o, ho⟩
  have hin : ∀ b ∈ s.heap.objs.size :: outer.filterMap (·.frame), ∃ o, h2.get? b = some o := fun b hb => by
    rcases List.mem_cons.mp hb with rfl | hb
    · exact hL2
    · obtain ⟨o, ho⟩ := hfr b hb
      exact ⟨o, k2 b o (hlt b o ho) (hk1 b o ho)⟩
  refine pyNextX (s := ⟨h3, s.gens.push gs, s.drawn, tk3, s.os⟩) (B := B) (outer := envOf _ _ s.heap.objs.size 108 _ :: outer) hGen (by simp) hdT (show dp + 1 + 10 < recursionLimit by omega) (show un + 3 + 30 < cLine by omega) hok (Fr.keeps' F2 hk3).keep hLg ?_ ?_ ?_ ?_
  · exact Heap.FunFrames.cons (by intro q; cases q) rfl (Fr.keeps' F2 hk3).ns hBL (funFrames_on hFF fun b hb o ho _ => ⟨o, kall b o ho, rfl⟩)
  · intro b hb q
    obtain ⟨o, ho⟩ := hin b hb
    rw [q] at ho
    rw [show h2.get? Lg = none from hLgnone] at ho; cases ho
  · intro hm
    rcases List.mem_cons.mp hm with e | hm
    · exact hGL e
    · obtain ⟨o, ho⟩ := hin G hm
      rw [show h2.get? G = none from hGnone] at ho; cases ho
  · intro e a0 s₁ hfl hU hg hd ho
    refine wpAny_looks_onW (outer := outer) rfl rfl hfl fun h6 hH6 hU6 => ?_
    show cameBackBy _ _ _ _ _ _
    unfold cameBackBy
    refine cameBack_heldW rfl hH6 fun h7 hH7 hU7 => ?_
    refine leaves_heldU rfl hH7 fun h8 hF8 hU8 => ?_
    have hgens : s₁.gens.setIfInBounds s.gens.size .finished = (s.gens.push gs).setIfInBounds s.gens.size .finished := by
      rw [hg]; simp [Shared.setGen]
    have hst : ({ ({ ({ (s₁.setGen s.gens.size .finished) with heap := h6 } : Shared) with heap := h7 } : Shared) with heap := h8 } : Shared) = ⟨h8, (s.gens.push gs).setIfInBounds s.gens.size .finished, s.drawn, s₁.toks, s.os⟩ := by
      rw [← hgens, ← (show s₁.drawn = s.drawn from hd), ← (show s₁.os = s.os from ho)]; rfl
    have hbL : ∀ b o, s.heap.get? b = some o → b ≠ Lg := fun b o e q => by
      have := k2 b o (hlt b o e) (hk1 b o e)
      rw [q, show h2.get? Lg = none from hLgnone] at this; cases this
    have hfin : B.FlyingW outer e (.type "ValueError") a0 h8 := by
      refine flyingW_base (fun b o hb => hideAll_get _ ((Fr.keeps' F2 hk3).keep b o hb) fun hm => ?_) hF8
      rcases List.mem_cons.mp hm with q | hm
      · exact hbL b o (hB b o hb) q
      · rcases List.mem_cons.mp hm with q | hm
        · exact hlt b o (hB b o hb) q
        · rw [(hFF.mem hm).1] at hb; cases hb
    have hup : s.heap.UpToSlots h8 := fun b o hb hn => by
      have u := UpB.trans (UpB.trans (UpB.trans hU hU6) hU7) hU8
      exact u b o (by simpa using hbL b o hb) (kall b o hb) hn
    have r := hE e a0 h8 s₁.toks _ hfin hup (fun z => bare_set (x := .finished) (k := s.gens.size) (z.push hbare) rfl)
    rw [← hst] at r
    exact r
end
end Mine81
namespace Mine81
section
noncomputable abbrev lawBody : List Stmt := bodyAt 13 mainB
noncomputable abbrev lawScope : Scope := scopeAt 13
/-- the law's frame -/
noncomputable abbrev lawEnv (sc : Scope) (L f : Addr) (cd : Value) : Env := envOfC (Str.ofString "law") sc L f cd
/-- what the script draws -/
noncomputable def menuF (n : Int) : Int := [1, 2, 3, 4, 0, 127].getD (n.fmod 6).toNat 0
noncomputable def drawnF (ns : List Int) : List Int := (ns.take 4).map menuF
noncomputable def zerosF (ds : List Int) : Nat := (ds.takeWhile fun x => x == 0).length
noncomputable def rowF (ns : List Int) : List Int := (drawnF ns).drop (zerosF (drawnF ns)) ++ [2, 2, 1, 0]
theorem zeros_iff : ∀ (ds : List Int) (k : Nat), ds.take (k + 1) = List.replicate (k + 1) 0 ↔ k < zerosF ds
  | [], k => by simp [zerosF, List.replicate_succ]
  | d :: r, k => by
    rw [List.take_succ_cons, List.replicate_succ]
    unfold zerosF
    rw [List.takeWhile_cons]
    by_cases hd : d = 0
    · subst hd
      simp only [beq_self_eq_true, if_true, List.length_cons]
      cases k with
      | zero => simp
      | succ k =>
        have := zeros_iff r k
        unfold zerosF at this
        constructor
        · intro h
          have h2 := (List.cons.inj h).2
          have := this.mp h2
          omega
        · intro h
          rw [this.mpr (by omega)]
    · have e : (d == 0) = false := by simpa using hd
      rw [e]
      simp only [Bool.false_eq_true, if_false, List.length_nil, Nat.not_lt_zero, iff_false]
      intro h
      exact hd (List.cons.inj h).1
theorem zeros_le (ns : List Int) : zerosF (drawnF ns) ≤ 4 := by
  unfold zerosF drawnF
  have h1 := (List.takeWhile_sublist (p := fun x : Int => x == 0) (l := (ns.take 4).map menuF)).length_le
  simp only [List.length_map, List.length_take] at h1
  omega
noncomputable def totalF (ns : List Int) : Int := (ns.take 4).sum
noncomputable def mostF (ns : List Int) : Int := 5 + (totalF ns).fmod 3
section
variable {prog : Program} {w : World} {A : Around} {E : Value → Shared → Prop} {s : Shared} {h₀ : Heap} {L : Addr} {m : Str → Option Value} {env : Env} {news : List (Addr × Obj)}
theorem srcMap {elt : Expr} {x : Str} {scope : Scope} {cl : List (Str × Addr)} {Fin : Shared → List Value → List (Addr × Obj) → Prop} {vs : List Value} {ns : List Int} {ax : Addr} {k : Nat} (gf : Int → Int) (hi : IntsAre vs ns) (hl : ns.length ≤ 1000)
    (F : Fr h₀ L s.heap m) (N : News h₀ L s.heap news) (hm : (ax, W.listOf vs.toArray k) ∈ news) (hh : A.handled = none)
    (turn : ∀ (g : Heap) k t I oI C oC D m₂ ys h tk (E' : Value → Shared → Prop), k ∈ ns → LCg.NsObj oC m₂ → m₂ x = some (.int k t) → Fr h₀ L h m → News h₀ L h ((I, oI) :: (C, oC) :: (D, LCg.lst ys) :: news) → LCg.Off3 I C D news → ((@Ne Nat I C) ∧ (@Ne Nat I D) ∧ (@Ne Nat C D)) →
      wpAny (model prog w) A (eval elt (compEnvC scope cl C env)) (LCg.CompEnd h₀ L m ⟨h, s.gens, s.drawn, tk, s.os⟩ I oI C oC D (LCg.lst ys) (LCg.SrcAt h₀ ax vs.toArray) (fun y news' => KCfEl news (gf k) y news')) E' ⟨h, s.gens, s.drawn, tk, s.os⟩)
    (fin : ∀ (g : Heap) ys, IntsAre ys (ns.map gf) → Fin { s with heap := g } ys news) : CSrcU prog w A h₀ L m env elt x scope cl Fin (.ref ax) s := by
  refine LCg.CompSrc.ledger hh F N hm (by rw [sizeLine_eq]; simp [hi.length]; omega) fun g => ?_
  exact kcf_list gf hi (fun k t I oI C oC D m₂ ys h tk E' hk hC hx F N off ne mk => turn g k t I oI C oC D m₂ ys h tk E' hk hC hx F N off ne) (fin g)
end
end
end Mine81
namespace Mine81
section
local macro_rules | `(tactic| walk_at "zz") => `(tactic| skip)
local macro_rules | `(tactic| kmk_nums) => `(tactic| first | ((with_reducible refine' kmk_upto ?kI ?kS); (case kI => l_ints); (case kS => first | omega | kmk_sign)) | ((with_reducible refine' kmk_from ?kI ?kS); (case kI => l_ints); (case kS => first | omega | kmk_sign)))
theorem stopTry {M : Model} {A : Around} {a : List Stmt} {b : List ExceptHandler} {c d : List Stmt} {r : List Stmt} {ps : Pos} {env : Env} {Q : Flow → Shared → Prop} {E : Value → Shared → Prop} {s : Shared} (h : StopW M A (execs (.Try a b c d ps :: r) env) Q E s) : wpAny M A (execs (.Try a b c d ps :: r) env) Q E s := h
local macro_rules
  | `(tactic| walk_at "exec Assign cons ListComp") => `(tactic| refine stop_ ?_)
  | `(tactic| walk_at "exec While Compare cons nil") => `(tactic| refine stop_ ?_)
  | `(tactic| walk_at "binaryOp Mult ref int") => `(tactic| refine stop_ ?_)
  | `(tactic| walk_at "compareOp Eq ref ref") => `(tactic| refine stop_ ?_)
  | `(tactic| walk_at "execs cons") => `(tactic| refine stopTry ?_)
noncomputable def whAL (D : Addr) (k : Nat) (total most : Int) (t1 t2 t4 : Tok) : List (Str × Value) :=
  [(Str.ofString "noughts", .int (k : Int) t4), (Str.ofString "drawn", .ref D), (Str.ofString "total", .int total t1), (Str.ofString "most", .int most t2)]
noncomputable def whA (D : Addr) (ys : List Value) (total most : Int) (t1 t2 : Tok) (news₀ : List (Addr × Obj)) (z : Nat) (n : Nat) (m : Str → Option Value) (news : List (Addr × Obj)) : Prop :=
  ∃ (k : Nat) (t4 : Tok) (m₁ : Str → Option Value), m = pinM (whAL D k total most t1 t2 t4) m₁ ∧ news = news₀ ∧ k + n = z
theorem phaseA2 {w : World} {mean : ExcName → Option Value} {mg mb : Str → Option Value} {dp un : Nat} {fr : Option (List Env)} {gd : Option (List Code)} {s : Shared} {Q : Flow → Shared → Prop} {g : Heap} {L f D : Addr} {cd : Value} {m : Str → Option Value} {oc : Obj} {ys : List Value} {ns : List Int} {t1 t2 : Tok} {sc : Scope} {bd bd7 : List Stmt} (hsc : sc = lawScope) (hbd : bd = lawBody.drop 3) (hbd7 : bd7 = lawBody.drop 7)
    (F : Fr g L s.heap (pinM [(Str.ofString "drawn", .ref D), (Str.ofString "total", .int (totalF ns) t1), (Str.ofString "most", .int (mostF ns) t2)] m)) (N : News g L s.heap [(D, LCg.lst ys), (L + 1, oc)]) (T : Top hd.view_39 (looseW hd.view_39 [Str.ofString "Whitespace"]) mean mg mb g) (X : (hd.heap_39 w.params).In g) (hA : dp + 30 < recursionLimit) (hu : un + 80 < cLine)
    (hys : IntsAre ys ((ns.take 4).map menuF))
    (next : ∀ m₁ h' tk g' Dr rvs kk, Fr g L h' (pinM [(Str.ofString "refused", .bool false), (Str.ofString "row", .ref Dr), (Str.ofString "total", .int (totalF ns) t1), (Str.ofString "most", .int (mostF ns) t2)] m₁) → News g L h' [(Dr, W.listOf rvs.toArray kk), (L + 1, oc)] → @LT.lt Nat _ (L + 1) Dr → IntsAre rvs (rowF ns) → (AllBare s.gens → AllBare g') →
      wpAny (model Challenge.rw_rl0081_01.row.prog w) ((Around.mk none dp fr gd un).deeper (lawEnv sc L f cd)) (execs bd7 (lawEnv sc L f cd)) Q NoE ⟨h', g', s.drawn, tk, s.os⟩) :
    wpAny (model Challenge.rw_rl0081_01.row.prog w) ((Around.mk none dp fr gd un).deeper (lawEnv sc L f cd)) (execs bd (lawEnv sc L f cd)) Q NoE s := by
  conv at hsc => rhs; whnf
  conv at hbd => rhs; whnf
  conv at hbd7 => rhs; whnf
  subst hsc hbd hbd7
  revert X
  k_fill
  intro X
  k_steps
  rename Fr _ _ _ _ => F9
  rename News _ _ _ _ => N9
  obtain ⟨m9, t3, F9⟩ : ∃ m9 t3, Fr g L _ (pinM (whAL D 0 (totalF ns) (mostF ns) t1 t2 t3) m9) := ⟨_, _, Fr.pin F9 ⟨rfl, rfl, rfl, rfl, trivial⟩⟩
  have hz : zerosF (drawnF ns) ≤ 4 := zeros_le ns
  unfold StopW
  refine whileW (whA D ys (totalF ns) (mostF ns) t1 t2 [(D, LCg.lst ys), (L + 1, oc)] (zerosF (drawnF ns))) (zerosF (drawnF ns)) F9 (news := [(D, LCg.lst ys), (L + 1, oc)]) (cb_drop N9 (by kcj_all)) ?_ ?_
  · exact ⟨0, _, _, rfl, rfl, by omega⟩
  · rintro n m₁ news₁ h tk g3 hb3 ⟨k, t4, m₂, rfl, rfl, hk⟩ F7 N7
    dsimp only [whAL, pinM] at F7
    clear F9 N9
    k_steps
    refine' mulK (by k_asm) (by k_asm) (by k_mem) (by omega) (by omega) ?_; intro D' ws' h' F' N' l1 hI'; (try k_lt l1); (try k_sweep)
    k_steps
    refine' eq_intsK (by exact News.isList (by k_asm) (by k_mem)) (by assumption) (by exact News.isList (by k_asm) (by k_mem)) (by assumption) (by simp only [units_deeper]; omega) ?_
    k_steps
    · have ek : ((k : Int) + 1).toNat = k + 1 := by omega
      rename (List.take _ _ = List.replicate _ _) => heq
      rw [ek] at heq
      have hlt := (zeros_iff _ k).mp heq
      rename Fr _ _ _ _ => F8
      rename News _ _ _ _ => N8
      refine StepWh.next [(D, LCg.lst ys), (L + 1, oc)] (n - 1) F8 N8 (by kcj_all) ?_ ⟨k + 1, _, _, pin_self ⟨rfl, rfl, rfl, rfl, trivial⟩, rfl, ?_⟩
      · unfold drawnF at hk; omega
      · unfold drawnF at hk; unfold drawnF; omega
    · have ek : ((k : Int) + 1).toNat = k + 1 := by omega
      rename (¬ List.take _ _ = List.replicate _ _) => heq
      rw [ek] at heq
      have hge : ¬ k < zerosF (drawnF ns) := fun q => heq ((zeros_iff _ k).mpr q)
      have hkz : k = zerosF (drawnF ns) := by omega
      rename Fr _ _ _ _ => F8
      rename News _ _ _ _ => N8
      rename IntsAre _ _ => hI8
      have e : List.drop (k : Int).toNat (List.map menuF (List.take 4 ns)) ++ [2, 2, 1, 0] = rowF ns := by
        rw [Int.toNat_natCast, hkz]; rfl
      rw [e] at hI8
      refine next _ _ _ _ _ _ _ (Fr.pin F8 ⟨rfl, rfl, rfl, rfl, trivial⟩) (cb_drop N8 (by kcj_all)) (by omega) hI8 hb3
theorem phaseA {w : World} {mean : ExcName → Option Value} {mg mb : Str → Option Value} {dp un : Nat} {fr : Option (List Env)} {gd : Option (List Code)} {s : Shared} {Q : Flow → Shared → Prop} {g : Heap} {L f S : Addr} {cd : Value} {m : Str → Option Value} {oc : Obj} {vs : List Value} {ns : List Int} {tS : Tok} {sc : Scope} {bd bd7 : List Stmt} (hsc : sc = lawScope) (hbd : bd = lawBody) (hbd7 : bd7 = lawBody.drop 7)
    (F : Fr g L s.heap (pinM [(Str.ofString "script", .ref S)] m)) (N : News g L s.heap [(L + 1, oc)]) (hoc : oc.data = .cell none) (T : Top hd.view_39 (looseW hd.view_39 [Str.ofString "Whitespace"]) mean mg mb g) (X : (hd.heap_39 w.params).In g) (hA : dp + 30 < recursionLimit) (hu : un + 80 < cLine)
    (hl : g.IsList S vs.toArray) (hi : IntsAre vs ns) (hn : ns.length ≤ 63)
    (next : ∀ m₁ h' tk g' Dr rvs kk t1 t2, Fr g L h' (pinM [(Str.ofString "refused", .bool false), (Str.ofString "row", .ref Dr), (Str.ofString "total", .int (totalF ns) t1), (Str.ofString "most", .int (mostF ns) t2)] m₁) → News g L h' [(Dr, W.listOf rvs.toArray kk), (L + 1, oc)] → @LT.lt Nat _ (L + 1) Dr → IntsAre rvs (rowF ns) → (AllBare s.gens → AllBare g') →
      wpAny (model Challenge.rw_rl0081_01.row.prog w) ((Around.mk none dp fr gd un).deeper (lawEnv sc L f cd)) (execs bd7 (lawEnv sc L f cd)) Q NoE ⟨h', g', s.drawn, tk, s.os⟩) :
    wpAny (model Challenge.rw_rl0081_01.row.prog w) ((Around.mk none dp fr gd un).deeper (lawEnv sc L f cd)) (execs bd (lawEnv sc L f cd)) Q NoE s := by
  conv at hsc => rhs; whnf
  conv at hbd => rhs; whnf
  subst hsc hbd
  revert X
  k_fill
  intro X
  dsimp only [pinM] at F
  have hlen := hi.length
  k_steps
  refine AssignComp_W (F₀ := by k_asm) (by rfl) (by with_unfolding_all rfl) (by with_unfolding_all rfl) (by decide) (by rfl) (by decide) (by rfl) (by rfl) (by rfl) ?_ (by intro _; rfl)
  k_steps
  rename Fr _ _ _ _ => F9
  rename News _ _ _ _ => N9
  rename IntsAre _ _ => hT9
  refine srcMap menuF hT9 (by simp only [List.length_take]; omega) F9 N9 (.head _) rfl ?_ ?_
  · intro g k t I oI C oC D m₂ ys h tk E' hk hC hx F N off ne
    clear F9 N9
    k_steps
    all_goals
      rename (Int.fmod _ _ = _) => hq
      refine kcf_el (?_ : menuF k = _) rfl rfl
      unfold menuF
      rw [hq]
      rfl
  · intro _ ys hys D h tk F N o1
    dsimp only
    refine phaseA2 (D := D) rfl rfl hbd7 (Fr.pin F ⟨rfl, rfl, rfl, trivial⟩) (cb_drop N (by kcj_all)) T X hA hu hys ?_
    intro m₁ h' tk' g' Dr rvs kk F9 N9 l9 hI9 hb9
    exact next _ _ _ _ _ _ _ _ _ F9 N9 l9 hI9 hb9
end
end Mine81
namespace Mine81
section
theorem stopCall {M : Model} {A : Around} {ts : List Expr} {f : Expr} {xs : List Expr} {ks : List Keyword} {p : Pos} {r : List Stmt} {ps : Pos} {env : Env} {Q : Flow → Shared → Prop} {E : Value → Shared → Prop} {s : Shared} (h : StopW M A (execs (.Assign ts (.Call f xs ks p) ps :: r) env) Q E s) : wpAny M A (execs (.Assign ts (.Call f xs ks p) ps :: r) env) Q E s := h
local macro_rules
  | `(tactic| walk_at "call ref") => `(tactic| refine stop_ ?_)
  | `(tactic| walk_at "exec Try") => `(tactic| refine stop_ ?_)
  | `(tactic| walk_at "execs cons") => `(tactic| refine stopCall ?_)
noncomputable def bL (Dr : Addr) (total most : Int) (b : Bool) (t1 t2 : Tok) : List (Str × Value) := [(Str.ofString "refused", .bool b), (Str.ofString "row", .ref Dr), (Str.ofString "total", .int total t1), (Str.ofString "most", .int most t2)]
theorem phaseB {w : World} {mean : ExcName → Option Value} {mg mb : Str → Option Value} {s : Shared} {Q : Flow → Shared → Prop} {g : Heap} {L f Dr : Addr} {cd : Value} {m : Str → Option Value} {oc : Obj} {rvs : List Value} {row : List Int} {kk : Nat} {total most : Int} {t1 t2 : Tok} {sc : Scope} {bd bd9 : List Stmt} (hsc : sc = lawScope) (hbd : bd = lawBody.drop 7) (hbd9 : bd9 = lawBody.drop 9)
    (F : Fr g L s.heap (pinM (bL Dr total most false t1 t2) m)) (N : News g L s.heap [(Dr, W.listOf rvs.toArray kk), (L + 1, oc)]) (hD : @LT.lt Nat _ (L + 1) Dr) (T : Top hd.view_39 (looseW hd.view_39 [Str.ofString "Whitespace"]) mean mg mb g) (X : (hd.heap_39 w.params).In g) (K0 : Below callerA g [] g)
    (hi : IntsAre rvs row) (hrow : row.length ≤ 8)
    (next : ∀ m₁ h' tk g', Fr g L h' (pinM (bL Dr total most true t1 t2) m₁) → News g L h' [(Dr, W.listOf rvs.toArray kk), (L + 1, oc)] → (AllBare s.gens → AllBare g') →
      wpAny (model Challenge.rw_rl0081_01.row.prog w) (callerA.deeper (lawEnv sc L f cd)) (execs bd9 (lawEnv sc L f cd)) Q NoE ⟨h', g', s.drawn, tk, s.os⟩) :
    wpAny (model Challenge.rw_rl0081_01.row.prog w) (callerA.deeper (lawEnv sc L f cd)) (execs bd (lawEnv sc L f cd)) Q NoE s := by
  conv at hsc => rhs; whnf
  conv at hbd => rhs; whnf
  conv at hbd9 => rhs; whnf
  subst hsc hbd hbd9
  revert X
  k_fill
  intro X
  dsimp only [bL, pinM] at F
  have hlen := hi.length
  k_steps
  unfold StopW
  refine wpAny_Try_except ?_
  k_steps
  rename Fr _ _ _ _ => F1
  rename News _ _ _ _ => N1
  rename IntsAre _ _ => hI1
  rename_i Dx wx hx hlx
  have hLx := F1.ns.lt
  have hbx : ∀ b o, g.get? b = some o → b ∉ [L] := fun b o e hm => by
    rw [List.mem_singleton.mp hm] at e
    exact absurd (Nat.lt_of_lt_of_le (Heap.lt_size e) F1.above) (Nat.lt_irrefl _)
  have kB : ∀ b o, g.get? b = some o → (hideAll hx [L]).get? b = some o := fun b o e => hideAll_get _ (F1.keep b o e) (hbx b o e)
  have hnb : ∀ e ∈ [(Dr, W.listOf rvs.toArray kk), (L + 1, oc)], (hideAll hx [L]).get? e.1 = some e.2 := fun e he => hideAll_get _ (N1 e (.tail _ (.tail _ he))).1 (by simpa using (N1 e (.tail _ (.tail _ he))).2.1)
  unfold StopW
  refine lineX81 (B := hideAll hx [L]) (outer := [lawEnv _ L f cd]) (T.keeps kB) (X.keeps kB) (fun b o e => of_hideAll _ e) (Nat.le_of_eq (hideAll_size _ _)) ?_ (by decide +kernel) (by decide +kernel) ?_ hI1 rfl ?_
  · exact Heap.FunFrames.cons (by intro q; cases q) rfl F1.ns (hideAll_none _ (.head _)) trivial
  · exact ⟨_, hideAll_get _ (N1 _ (.head _)).1 (by simpa using (N1 _ (.head _)).2.1), rfl, _, rfl⟩
  · intro e a0 h3 tk3 g3 hfl hup hb
    refine wpAny_looks_onW (outer := []) rfl rfl hfl fun h4 hH4 hU4 => ?_
    refine wpAny_landsW hH4 fun h5 hF5 hU5 => ?_
    obtain ⟨ob, hob, hoc⟩ := hF5.there
    have F5 : Fr g L h5 _ := Fr.of_stays F1 (fun b o e => hF5.1 b o (kB b o e)) ((hup.trans hU4).trans hU5)
    have N5 : News g L h5 [(Dr, W.listOf rvs.toArray kk), (L + 1, oc)] := fun e he => ⟨hF5.1 _ _ (hnb e he), (N1 e (.tail _ (.tail _ he))).2⟩
    refine wpAny_handleBy_builtin (X := "ValueError") (T := "ValueError") (b := true) PySem.F.isExc_ValueError PySem.F.notTuple_ValueError (by rw [isSubtype_type]; kernel_rfl) ?_
    clear F1 N1
    k_steps
    · exact ⟨ob, hob, hoc⟩
    · refine lands_againW hF5 fun h6 hF6 hU6 => ?_
      have F6 : Fr g L h6 _ := Fr.of_stays F5 (fun b o e => hF6.1 b o (kB b o e)) hU6
      have N6 : News g L h6 [(Dr, W.listOf rvs.toArray kk), (L + 1, oc)] := fun e he => ⟨hF6.1 _ _ (hnb e he), (N5 e he).2⟩
      clear F5 N5
      k_steps
      rename Fr _ _ _ _ => F9
      rename News _ _ _ _ => N9
      exact next _ _ _ _ (Fr.pin F9 ⟨rfl, rfl, rfl, rfl, trivial⟩) N9 hb
end
end Mine81
namespace Mine81
section
/-- a comprehension of two clauses, the second with one test -/
noncomputable abbrev comp2 (elt it1 it2 ct tx ty : Expr) (scope : Scope) (pos : Pos) : Expr := .ListComp elt [⟨tx, it1, [], 0⟩, ⟨ty, it2, [ct], 0⟩] scope pos
theorem compTurn2_0 (elt it1 it2 ct tx ty : Expr) (scope : Scope) (pos : Pos) (it acc : Value) (env : Env) :
    compTurn (comp2 elt it1 it2 ct tx ty scope pos) 0 it acc env = (do
      standAt it1.pos
      match ← pyNext it with
      | none => pure (.done .next)
      | some v =>
        letOwnedTupleGo tx it v
        assign tx env v
        let x ← eval it2 env
        standAt it2.pos
        let x ← foldedSetIterable it2 env x
        let _ ← runOwn (.compStart (comp2 elt it1 it2 ct tx ty scope pos) 1 (← holding [x] (pyIter x)) acc env) env
        again (.compLoop (comp2 elt it1 it2 ct tx ty scope pos) 0 it acc env)) := by rfl
theorem compTurn2_1 (elt it1 it2 ct tx ty : Expr) (scope : Scope) (pos : Pos) (it acc : Value) (env : Env) :
    compTurn (comp2 elt it1 it2 ct tx ty scope pos) 1 it acc env = (do
      standAt it2.pos
      match ← pyNext it with
      | none => pure (.done .next)
      | some v =>
        letOwnedTupleGo ty it v
        assign ty env v
        let mut ok := true
        for c in [ct] do
          if ok then ok ← isTrue c env (eval c env)
        if ok then
          (do let _ ← call (.builtin "list.append") [acc, ← eval elt env])
        again (.compLoop (comp2 elt it1 it2 ct tx ty scope pos) 1 it acc env)) := by rfl
section
variable {prog : Program} {w : World} {A : Around} {s : Shared} {env : Env} {R : Result → Shared → Prop} {elt it1 it2 ct tx ty : Expr} {scope : Scope} {pos : Pos} {it acc : Value}
theorem noteNo {E : Value → Shared → Prop} {α : Type} {m : Sem α} {Q : α → Shared → Prop} (h : wpAny (model prog w) A m Q NoE s) : wpAny (model prog w) A m Q E s := wpAny_mono h (fun _ _ x => x) fun _ _ x => x.elim
theorem codeAny_inner (I : Nat → Shared → Prop)
    (turn : ∀ n s, I n s → wpAny (model prog w) A (pyNext it) (fun r s₁ => match r with
      | none => R (.ok .next) s₁
      | some v => wpAny (model prog w) A (assign ty env v) (fun _ s₂ => wpAny (model prog w) A (isTrue ct env (eval ct env)) (fun ok s₃ =>
          if ok = true then wpAny (model prog w) A (eval elt env) (fun x s₄ => wpAny (model prog w) A (call (.builtin "list.append") [acc, x]) (fun _ s₅ => ∃ m, m < n ∧ I m s₅) NoE s₄) NoE s₃
          else ∃ m, m < n ∧ I m s₃) NoE s₂) NoE s₁) NoE s)
    (n : Nat) (h : I n s) (ht : ∀ v, letOwnedTupleGo ty it v = pure () := by intro _; rfl) :
    codeAny (model prog w) A (.compLoop (comp2 elt it1 it2 ct tx ty scope pos) 1 it acc env) R s := by
  refine codeAny_loop rfl I (fun n s hI => ?_) n h
  show wpAny _ A ((compTurn (comp2 elt it1 it2 ct tx ty scope pos) 1 it acc env).onRaise (fun x => do noteFrame x env; theTreesLotGoes x)) _ _ s
  refine wpAny_noted (noteNo ?_)
  rw [compTurn2_1]
  refine wpAny_bind (wpAny_standAt (wpAny_bind (wpAny_mono (turn n s hI) (fun r s₁ h₁ => ?_) fun _ _ h' => h')))
  cases r with
  | none => exact wpAny_pure h₁
  | some v =>
    refine wpAny_bind (wpAny_of_eq (ht v) ?_)
    refine wpAny_bind (wpAny_mono h₁ (fun _ s₂ h₂ => wpAny_bind (wpAny_tests_one (wpAny_mono h₂ (fun ok s₃ h₃ => ?_) fun _ _ h' => h'))) fun _ _ h' => h')
    cases ok with
    | false => exact wpAny_pure ⟨rfl, h₃⟩
    | true => exact wpAny_bind (wpAny_bind (wpAny_mono h₃ (fun x s₄ h₄ => wpAny_bind (wpAny_mono h₄ (fun _ s₅ h₅ => wpAny_pure (wpAny_pure ⟨rfl, h₅⟩)) fun _ _ h' => h')) fun _ _ h' => h'))
theorem codeAny_start1 (h0 : codeAny (model prog w) A (.compLoop (comp2 elt it1 it2 ct tx ty scope pos) 1 it acc env) R s)
    (h : wpAny (model prog w) A (pyIter it) (fun it' s' => codeAny (model prog w) A (.compLoop (comp2 elt it1 it2 ct tx ty scope pos) 1 it' acc env) R s') NoE s) :
    codeAny (model prog w) A (.compStart (comp2 elt it1 it2 ct tx ty scope pos) 1 it acc env) R s := by
  refine codeAny_of_tree ?_
  show wpAny _ _ ((compStart (comp2 elt it1 it2 ct tx ty scope pos) 1 it acc env).onRaise (fun x => do noteFrame x env; standAt theWindowsPlace)) _ _ s
  refine wpAny_notedAt (noteNo ?_)
  unfold compStart
  show wpAny _ _ (ask >>= _) _ _ s
  refine wpAny_bind (wpAny_askSetting (wpAny_ite ?_))
  split
  · first
      | exact wpAny_bind (wpAny_pure (wpAny_pure (And.intro rfl h0)))
      | exact wpAny_pure (And.intro rfl h0)
  · first
      | exact wpAny_bind (wpAny_rule (wpAny_bind (wpAny_standAt (wpAny_bind (wpAny_mono h (fun it' s' h' => wpAny_pure (And.intro rfl h')) fun _ _ x => x)))))
      | (refine wpAny_bind (wpAny_rule ?_); show wpAny _ _ (standAt it2.pos >>= _) _ _ s; exact wpAny_bind (wpAny_standAt (wpAny_bind (wpAny_mono h (fun it' s' h' => wpAny_pure (And.intro rfl h')) fun _ _ x => x))))
theorem codeAny_outer (I : Nat → Shared → Prop)
    (turn : ∀ n s, I n s → wpAny (model prog w) A (pyNext it) (fun r s₁ => match r with
      | none => R (.ok .next) s₁
      | some v => wpAny (model prog w) A (assign tx env v) (fun _ s₂ => wpAny (model prog w) A (eval it2 env) (fun xv s₃ => wpAny (model prog w) A (pyIter xv) (fun it' s₄ =>
          codeAny (model prog w) A (.compStart (comp2 elt it1 it2 ct tx ty scope pos) 1 it' acc env) (fun r s₅ => match r with | .ok _ => ∃ m, m < n ∧ I m s₅ | .error _ => False) s₄) NoE s₃) NoE s₂) NoE s₁) NoE s)
    (n : Nat) (h : I n s) (ht : ∀ v, letOwnedTupleGo tx it v = pure () := by intro _; rfl) (hs : ∀ x, foldedSetIterable it2 env x = pure x := by intro _; rfl) :
    codeAny (model prog w) A (.compLoop (comp2 elt it1 it2 ct tx ty scope pos) 0 it acc env) R s := by
  refine codeAny_loop rfl I (fun n s hI => ?_) n h
  show wpAny _ A ((compTurn (comp2 elt it1 it2 ct tx ty scope pos) 0 it acc env).onRaise (fun x => do noteFrame x env; theTreesLotGoes x)) _ _ s
  refine wpAny_noted (noteNo ?_)
  rw [compTurn2_0]
  refine wpAny_bind (wpAny_standAt (wpAny_bind (wpAny_mono (turn n s hI) (fun r s₁ h₁ => ?_) fun _ _ h' => h')))
  cases r with
  | none => exact wpAny_pure h₁
  | some v =>
    refine wpAny_bind (wpAny_of_eq (ht v) ?_)
    refine wpAny_bind (wpAny_mono h₁ (fun _ s₂ h₂ => wpAny_bind (wpAny_mono h₂ (fun xv s₃ h₃ => ?_) fun _ _ h' => h')) fun _ _ h' => h')
    refine wpAny_bind (wpAny_standAt (wpAny_bind (wpAny_of_eq (hs xv) (wpAny_bind (wpAny_holding (wpAny_mono h₃ (fun it' s₄ h₄ => ?_) fun _ _ h' => h'))))))
    refine wpAny_bind (wpAny_runOwn (codeAny_mono h₄ fun r s₅ h₅ => ?_))
    cases r with
    | ok f => exact wpAny_pure ⟨rfl, h₅⟩
    | error e => exact h₅.elim
end
section
open LCg (NsObj Off3 Off1 lst ns_obj lst_snoc fr_but news_but)
variable {prog : Program} {w : World} {A : Around} {s : Shared} {env : Env} {h₀ : Heap} {L : Addr} {m : Str → Option Value}
noncomputable def comb (p : Int → Int → Bool) (gf : Int → Int → Int) (ks : List Int) : List Int := ks.flatMap fun k => ((rangeKs 1 (k - 1).toNat).filter (p k)).map (gf k)
theorem comb_snoc (p : Int → Int → Bool) (gf : Int → Int → Int) (ks : List Int) (k : Int) : comb p gf (ks ++ [k]) = comb p gf ks ++ ((rangeKs 1 (k - 1).toNat).filter (p k)).map (gf k) := by
  unfold comb; rw [List.flatMap_append]; simp
/-- the state behind a walk that changes nothing written -/
noncomputable def SameR (h₀ : Heap) (L : Addr) (m : Str → Option Value) (s₁ : Shared) (all : List (Addr × Obj)) (s' : Shared) : Prop := ∃ h' tk', s' = ⟨h', s₁.gens, s₁.drawn, tk', s₁.os⟩ ∧ Fr h₀ L h' m ∧ News h₀ L h' all
noncomputable def IterR (h₀ : Heap) (L : Addr) (m : Str → Option Value) (s₁ : Shared) (all : List (Addr × Obj)) (k : Int) (v : Value) (s' : Shared) : Prop := (∃ r t u z, v = .ref r ∧ IsRange s'.heap r 1 k 1 t u z) ∧ SameR h₀ L m s₁ all s'
noncomputable def ElR (h₀ : Heap) (L : Addr) (m : Str → Option Value) (s₁ : Shared) (all : List (Addr × Obj)) (b : Bool) (r : Int) (v : Value) (s' : Shared) : Prop := b = true ∧ (∃ t, v = .int r t) ∧ SameR h₀ L m s₁ all s'
noncomputable def ElN (h₀ : Heap) (L : Addr) (m : Str → Option Value) (s₁ : Shared) (all : List (Addr × Obj)) (b : Bool) (s' : Shared) : Prop := b = false ∧ SameR h₀ L m s₁ all s'
structure Turns2 (prog : Program) (w : World) (A : Around) (h₀ : Heap) (L : Addr) (m : Str → Option Value) (env : Env) (elt it2 ct : Expr) (x y : Str) (scope : Scope) (cl : List (Str × Addr)) (s₁ : Shared) (news : List (Addr × Obj)) (ks : List Int) (p : Int → Int → Bool) (gf : Int → Int → Int) : Prop where
  iter : ∀ k t I oI C oC D ys m₂ h tk, k ∈ ks → NsObj oC m₂ → m₂ x = some (.int k t) → Fr h₀ L h m → News h₀ L h ((I, oI) :: (C, oC) :: (D, lst ys) :: news) → Off3 I C D news → ((@Ne Nat I C) ∧ (@Ne Nat I D) ∧ (@Ne Nat C D)) →
    wpAny (model prog w) A (eval it2 (compEnvC scope cl C env)) (IterR h₀ L m s₁ ((I, oI) :: (C, oC) :: (D, lst ys) :: news) k) NoE ⟨h, s₁.gens, s₁.drawn, tk, s₁.os⟩
  turn : ∀ k t j u J oJ I oI C oC D ys m₂ h tk, k ∈ ks → 1 ≤ j → j < k → NsObj oC m₂ → m₂ x = some (.int k t) → m₂ y = some (.int j u) → Fr h₀ L h m → News h₀ L h ((J, oJ) :: (I, oI) :: (C, oC) :: (D, lst ys) :: news) → Off3 I C D news → ((@Ne Nat I C) ∧ (@Ne Nat I D) ∧ (@Ne Nat C D)) →
    wpAny (model prog w) A (isTrue ct (compEnvC scope cl C env) (eval ct (compEnvC scope cl C env))) (fun ok s' => if ok = true then wpAny (model prog w) A (eval elt (compEnvC scope cl C env)) (ElR h₀ L m s₁ ((J, oJ) :: (I, oI) :: (C, oC) :: (D, lst ys) :: news) (p k j) (gf k j)) NoE s'
      else ElN h₀ L m s₁ ((J, oJ) :: (I, oI) :: (C, oC) :: (D, lst ys) :: news) (p k j) s') NoE ⟨h, s₁.gens, s₁.drawn, tk, s₁.os⟩
noncomputable def Src2 (prog : Program) (w : World) (A : Around) (h₀ : Heap) (L : Addr) (m : Str → Option Value) (env : Env) (elt it2 ct : Expr) (x y : Str) (scope : Scope) (cl : List (Str × Addr)) (z : Str) (Q : Flow → Shared → Prop) (xv : Value) (s₁ : Shared) : Prop :=
  ∃ ax vs ks kk news p gf, xv = .ref ax ∧ Fr h₀ L s₁.heap m ∧ News h₀ L s₁.heap news ∧ (ax, W.listOf vs.toArray kk) ∈ news ∧ IntsAre vs ks ∧ ks.length ≤ 50 ∧ (∀ a ∈ ks, -50 ≤ a ∧ a ≤ 50) ∧
    Turns2 prog w A h₀ L m env elt it2 ct x y scope cl s₁ news ks p gf ∧
    ∀ D h tk ys, IntsAre ys (comb p gf ks) → Fr h₀ L h (fun q => if q = z then some (.ref D) else m q) → News h₀ L h ((D, lst ys) :: news) → Off1 D news → Q .next ⟨h, s₁.gens, s₁.drawn, tk, s₁.os⟩
theorem comb_le (p : Int → Int → Bool) (gf : Int → Int → Int) : ∀ ks : List Int, (∀ a ∈ ks, a ≤ 50) → (comb p gf ks).length ≤ 50 * ks.length
  | [], _ => Nat.le_refl _
  | k :: r, h => by
    have ih := comb_le p gf r fun a ha => h a (List.mem_cons_of_mem _ ha)
    have h1 := h k List.mem_cons_self
    have h2 : ((rangeKs 1 (k - 1).toNat).filter (p k)).length ≤ (k - 1).toNat := by
      have := List.length_filter_le (p k) (rangeKs 1 (k - 1).toNat)
      rw [rangeKs_length] at this; exact this
    unfold comb at ih ⊢
    rw [List.flatMap_cons, List.length_append, List.length_map, List.length_cons]
    omega
/-- the inner loop -/
theorem inner2 {elt it1 it2 ct : Expr} {x y : Str} {px py pos : Pos} {scope : Scope} {cl : List (Str × Addr)} {s₁ : Shared} {news : List (Addr × Obj)} {ks : List Int} {p : Int → Int → Bool} {gf : Int → Int → Int}
    {I I2 C D : Addr} {oI : Obj} {k : Int} {t : Tok} {base : List Int} {ys : List Value} {m₂ : Str → Option Value} {R : Result → Shared → Prop} {h : Heap} {tk : Nat}
    (TT : Turns2 prog w A h₀ L m env elt it2 ct x y scope cl s₁ news ks p gf) (hh : A.handled = none) (hk : k ∈ ks) (hxy : x ≠ y) (hkind : scope.kind = .function) (hy : scope.names.lookup y = some .local) (hsz : base.length ≤ 10000) (hk50 : k ≤ 50)
    (hIC : I ≠ C) (hID : I ≠ D) (hCD : C ≠ D) (hI2 : I2 ≠ I ∧ I2 ≠ C ∧ I2 ≠ D ∧ I2 ≠ L) (off : Off3 I C D news) (off2 : ∀ e ∈ news, e.1 ≠ I2) (hI0 : I ≠ L ∧ h₀.get? I = none) (hC0 : C ≠ L ∧ h₀.get? C = none) (hD0 : D ≠ L ∧ h₀.get? D = none) (hI20 : h₀.get? I2 = none)
    (hys : IntsAre ys base) (hit : IsRangeIter h I2 (1 + ((0 : Nat) : Int) * 1) (((k - 1).toNat : Int) - ((0 : Nat) : Int)) 1) (hI : h.get? I = some oI) (F : Fr h₀ L h m) (hC : h.Ns C m₂) (hx : m₂ x = some (.int k t)) (N : News h₀ L h ((D, lst ys) :: news))
    (fin : ∀ h' tk' ys' m₃, IntsAre ys' (base ++ ((rangeKs 1 (k - 1).toNat).filter (p k)).map (gf k)) → h'.get? I = some oI → Fr h₀ L h' m → h'.Ns C m₃ → News h₀ L h' ((D, lst ys') :: news) → R (.ok .next) ⟨h', s₁.gens, s₁.drawn, tk', s₁.os⟩) :
    codeAny (model prog w) A (.compLoop (comp2 elt it1 it2 ct (.Name x px) (.Name y py) scope pos) 1 (.ref I2) (.ref D) (compEnvC scope cl C env)) R ⟨h, s₁.gens, s₁.drawn, tk, s₁.os⟩ := by
  refine codeAny_inner (fun n s' => ∃ h' tk' j ys' m₃, s' = ⟨h', s₁.gens, s₁.drawn, tk', s₁.os⟩ ∧ j ≤ (k - 1).toNat ∧ n = (k - 1).toNat + 1 - j ∧ IntsAre ys' (base ++ ((rangeKs 1 j).filter (p k)).map (gf k)) ∧
      IsRangeIter h' I2 (1 + ((j : Nat) : Int) * 1) (((k - 1).toNat : Int) - ((j : Nat) : Int)) 1 ∧ h'.get? I = some oI ∧ Fr h₀ L h' m ∧ h'.Ns C m₃ ∧ m₃ x = some (.int k t) ∧ News h₀ L h' ((D, lst ys') :: news)) ?_ ((k - 1).toNat + 1)
    ⟨h, tk, 0, ys, m₂, rfl, Nat.zero_le _, rfl, by simpa [rangeKs] using hys, hit, hI, F, hC, hx, N⟩
  rintro n s' ⟨h', tk', j, ys', m₃, rfl, hj, rfl, hys', hit', hI', F', hC', hx', N'⟩
  have W := LCg.range_walks (prog := prog) (w := w) (I := I2) hh 1 (k - 1).toNat
  have off3 := off.mem
  by_cases hlt : j < (k - 1).toNat
  · refine W.item j _ _ _ hlt hit' fun v h1 tk1 hP hst1 hk1 => ?_
    obtain ⟨u, rfl⟩ := hP
    have kb : ∀ b o, b ≠ I2 → h'.get? b = some o → h1.get? b = some o := fun b o hb e => hk1 b o (by simpa using hb) e
    dsimp only
    refine wpAny_assign_Name (wpAny_storeName_local (lookup_relabel_local hy) (hC'.at' fun o e => kb _ o hI2.2.1.symm e) (fun h2 hn2 hs2 => ?_) (by simp [compEnvC, relabel, hkind]))
    have kc : ∀ b o, b ≠ I2 → b ≠ C → h'.get? b = some o → h2.get? b = some o := fun b o h1 h2 e => hs2.extBut b o h2 (kb b o h1 e)
    have F2 : Fr h₀ L h2 m := ⟨F'.ns.at' fun o e => kc _ o hI2.2.2.2.symm hC0.1.symm e, fun b o e => kc b o (fun q => by rw [q, hI20] at e; cases e) (fun q => by rw [q, hC0.2] at e; cases e) (F'.keep b o e), F'.above⟩
    have hit2 : IsRangeIter h2 I2 (1 + ((j + 1 : Nat) : Int) * 1) (((k - 1).toNat : Int) - ((j + 1 : Nat) : Int)) 1 := hs2.extBut I2 _ hI2.2.1 hst1
    obtain ⟨oC, hoC, hNC⟩ := ns_obj hn2
    obtain ⟨oJ, hoJ⟩ : ∃ oJ, h2.get? I2 = some oJ := ⟨_, hit2⟩
    have N2 : News h₀ L h2 ((I2, oJ) :: (I, oI) :: (C, oC) :: (D, lst ys') :: news) := fun e he => by
      rcases List.mem_cons.mp he with rfl | he
      · exact ⟨hoJ, hI2.2.2.2, hI20⟩
      · rcases List.mem_cons.mp he with rfl | he
        · exact ⟨kc _ _ hI2.1.symm hIC hI', hI0⟩
        · rcases List.mem_cons.mp he with rfl | he
          · exact ⟨hoC, hC0⟩
          · have z := N' e he
            refine ⟨kc _ _ ?_ ?_ z.1, z.2⟩
            · rcases List.mem_cons.mp he with rfl | he
              · exact hI2.2.2.1.symm
              · exact off2 e he
            · rcases List.mem_cons.mp he with rfl | he
              · exact hCD.symm
              · exact (off3 e he).2.1
    have go := TT.turn k t (1 + (j : Int)) u I2 oJ I oI C oC D ys' _ h2 (tk1 + 1) hk (by omega) (by omega) hNC (by simp only [if_neg hxy]; exact hx') (by simp) F2 N2 off ⟨hIC, hID, hCD⟩
    have hrk : (rangeKs 1 (j + 1)) = rangeKs 1 j ++ [1 + (j : Int)] := by simp [rangeKs, List.range_succ]
    refine wpAny_mono go (fun ok s3 h3 => ?_) fun _ _ e => e
    cases ok with
    | false =>
      simp only [Bool.false_eq_true, if_false] at h3 ⊢
      obtain ⟨hp, h4, tk4, rfl, F4, N4⟩ := h3
      refine ⟨(k - 1).toNat + 1 - (j + 1), by omega, h4, tk4, j + 1, ys', _, rfl, hlt, rfl, ?_, LCg.range_st _ _ _ _ _ hit2 hoJ (N4 _ (.head _)).1 F4.keep N4 trivial, (N4 _ (.tail _ (.head _))).1, F4, hNC.ns (N4 _ (.tail _ (.tail _ (.head _)))).1, by simp only [if_neg hxy]; exact hx', fun e he => N4 e (.tail _ (.tail _ (.tail _ he)))⟩
      rw [hrk, List.filter_append]
      simpa [hp] using hys'
    | true =>
      simp only [if_true] at h3 ⊢
      refine wpAny_mono h3 (fun v s4 h4 => ?_) fun _ _ e => e
      obtain ⟨hp, ⟨tv, rfl⟩, h4, tk4, rfl, F4, N4⟩ := h4
      have hyl : ys'.length ≤ 10050 := by
        rw [hys'.length, List.length_append, List.length_map]
        have := List.length_filter_le (p k) (rangeKs 1 j)
        rw [rangeKs_length] at this
        omega
      refine append_at (hsz := by rw [List.size_toArray, sizeLine_eq]; omega) (N4 _ (.tail _ (.tail _ (.tail _ (.head _))))).1 fun h5 hs5 hD5 => ?_
      have kd : ∀ b o, b ≠ D → h4.get? b = some o → h5.get? b = some o := fun b o hb e => hs5.extBut b o hb e
      have z := fun e (he : e ∈ (I2, oJ) :: (I, oI) :: (C, oC) :: (D, lst ys') :: news) => N4 e he
      refine ⟨(k - 1).toNat + 1 - (j + 1), by omega, h5, tk4, j + 1, ys' ++ [.int (gf k (1 + (j : Int))) tv], _, rfl, hlt, rfl, ?_, LCg.range_st _ _ _ _ _ hit2 hoJ (kd _ _ hI2.2.2.1 (z _ (.head _)).1) (F4.change hs5 hD0.1 hD0.2).keep (News.nil (L := L)) trivial,
        kd _ _ hID (z _ (.tail _ (.head _))).1, F4.change hs5 hD0.1 hD0.2, (hNC.ns (z _ (.tail _ (.tail _ (.head _)))).1).sameBut hs5 hCD, by simp only [if_neg hxy]; exact hx', fun e he => ?_⟩
      · rw [hrk, List.filter_append, List.map_append, ← List.append_assoc]
        refine IntsAre.append hys' ?_
        simp [hp]
        exact .cons _ _ .nil
      · rcases List.mem_cons.mp he with rfl | he
        · exact ⟨hD5.trans (congrArg some (lst_snoc ys' _)), hD0⟩
        · have z' := N4 e (.tail _ (.tail _ (.tail _ (.tail _ he))))
          exact ⟨kd _ _ (off3 e he).2.2 z'.1, z'.2⟩
  · have hjn : j = (k - 1).toNat := by omega
    subst hjn
    refine W.done _ _ _ hit' fun h1 tk1 hk1 => ?_
    have kb : ∀ b o, b ≠ I2 → h'.get? b = some o → h1.get? b = some o := fun b o hb e => hk1 b o (by simpa using hb) e
    refine fin h1 tk1 ys' m₃ hys' (kb _ _ hI2.1.symm hI') ⟨F'.ns.at' fun o e => kb _ o hI2.2.2.2.symm e, fun b o e => kb b o (fun q => by rw [q, hI20] at e; cases e) (F'.keep b o e), F'.above⟩ (hC'.at' fun o e => kb _ o hI2.2.1.symm e) fun e he => ⟨kb _ _ ?_ (N' e he).1, (N' e he).2⟩
    rcases List.mem_cons.mp he with rfl | he
    · exact hI2.2.2.1.symm
    · exact off2 e he
theorem AssignComp2 {elt it1 it2 ct : Expr} {x y z : Str} {px py pz pos spos : Pos} {scope : Scope} {cl : List (Str × Addr)} {Q : Flow → Shared → Prop} (hh : A.handled = none) (F₀ : Fr h₀ L s.heap m) (hLe : env.locals = L)
    (hsw : swapsWith (comp2 elt it1 it2 ct (.Name x px) (.Name y py) scope pos) (some (.Name z pz)) spos.line env = pure true)
    (hclos : closureFor scope env = pure cl) (hcell : ∀ z ∈ scope.names, z.2 ≠ .cell) (hkind : scope.kind = .function)
    (hnames : ∀ z ∈ scope.names, z.2 = .local → scope.names.lookup z.1 = some .local) (hx : scope.names.lookup x = some .local) (hy : scope.names.lookup y = some .local) (hxy : x ≠ y)
    (hz : env.kindOf z = some .local) (hp : (env.scope.kind == .class || (env.scope.kind == .module && env.locals != env.globals)) = false)
    (h : wpAny (model prog w) A (eval it1 env) (Src2 prog w A h₀ L m env elt it2 ct x y scope cl z Q) NoE s)
    (hs : ∀ x, foldedSetIterable it1 env x = pure x := by intro _; rfl) (hs2 : ∀ C x, foldedSetIterable it2 (compEnvC scope cl C env) x = pure x := by intro _ _; rfl) :
    wpAny (model prog w) A (exec (.Assign [.Name z pz] (comp2 elt it1 it2 ct (.Name x px) (.Name y py) scope pos) spos) env) Q NoE s := by
  subst hLe
  rw [exec_Assign_Name_used _ _ _ _ hsw]
  refine wpAny_bind (wpAny_standAt (wpAny_bind ?_))
  show wpAny _ A (do let _ ← comprehension (comp2 elt it1 it2 ct (.Name x px) (.Name y py) scope pos) scope env _ (newList []) false (eval it1 env) (some (assign (.Name z pz) env))) _ _ s
  refine wpAny_bind (wpAny_mono (wpAny_comprehension_free (use := some (assign (.Name z pz) env)) (Q := fun _ s' => Q .next s') rfl hs hclos hkind hnames
    (wpAny_mono h (fun xv s₁ h₁ => ?_) fun _ _ e => e)) (fun _ s' hq => wpAny_pure (wpAny_pure hq)) fun _ _ e => e)
  obtain ⟨ax, vs, ks, kk, news, p, gf, rfl, F, N, hm, hi, hlen, hk, TT, fin⟩ := h₁
  have hl : s₁.heap.IsList ax vs.toArray := News.isList N hm
  have hlt : ax < s₁.heap.objs.size := by obtain ⟨_, e, _⟩ := hl; exact Heap.lt_size e
  refine wpAny_pyIter_list hl ?_
  generalize hH1 : s₁.heap.push { cls := .type "list_iterator", data := .fields #[.ref ax, .int 0 0] } = H1
  have k1 : ∀ b o, s₁.heap.get? b = some o → H1.get? b = some o := fun b o e => by rw [← hH1]; exact Heap.get?_push_of_some _ e
  have hI1 : H1.IsListIter s₁.heap.objs.size ax 0 := by rw [← hH1]; exact ⟨_, Heap.get?_push_size _ rfl, rfl, rfl⟩
  have hs1 : H1.objs.size = s₁.heap.objs.size + 1 := by rw [← hH1, Heap.size_push]
  have hI0 := next_is_new F
  have hIL : s₁.heap.objs.size ≠ env.locals := Nat.ne_of_gt F.ns.lt
  refine wpAny_newObj_type (wpAny_newFunctionEnv hcell (by intro y hy; simp at hy) (fun h₁ hns₁ hsb₁ => ?_) hkind)
  dsimp only at hns₁ hsb₁ ⊢
  generalize hH2 : H1.push { cls := .type "list", dict := none, data := .seq ([] : List Value).toArray } = H2 at hns₁ hsb₁ ⊢
  have hC : H2.objs.size = H1.objs.size + 1 := by rw [← hH2, Heap.size_push]
  generalize hCe : H2.objs.size = C at hns₁ hsb₁ hC ⊢
  generalize hIe : s₁.heap.objs.size = I at hI1 hs1 hI0 hIL ⊢
  generalize hDe : H1.objs.size = D at hC hs1 ⊢
  have ltI : ∀ b o, s₁.heap.get? b = some o → @LT.lt Nat _ b I := fun b o e => by have := Heap.lt_size e; rw [hIe] at this; exact this
  have hLI : @LT.lt Nat _ env.locals I := by have := F.ns.lt; rw [hIe] at this; exact this
  have k2 : ∀ b o, H1.get? b = some o → h₁.get? b = some o := fun b o e => by
    have hb : @LT.lt Nat _ b D := by have := Heap.lt_size e; rw [hDe] at this; exact this
    exact hsb₁.extBut b o (Nat.ne_of_lt (by omega)) (Heap.get?_push_of_some _ (hH2 ▸ Heap.get?_push_of_some _ e))
  have k12 : ∀ b o, s₁.heap.get? b = some o → h₁.get? b = some o := fun b o e => k2 b o (k1 b o e)
  have hD1 : h₁.get? D = some (lst []) := hsb₁.extBut D _ (Nat.ne_of_lt (by omega)) (Heap.get?_push_of_some _ (by rw [← hH2, ← hDe]; exact Heap.get?_push_size _ rfl))
  have h0none : ∀ a : Nat, I ≤ a → h₀.get? a = none := fun a ha => by
    cases q : h₀.get? a with
    | none => rfl
    | some o => exact absurd (ltI a o (F.keep a o q)) (Nat.not_lt.mpr ha)
  have hIC : I ≠ C := by omega
  have hID : I ≠ D := by omega
  have hCD : C ≠ D := by omega
  have hCL : C ≠ env.locals := by intro q; rw [q] at hC; omega
  have hDL : D ≠ env.locals := by intro q; rw [q] at hs1; omega
  have off : Off3 I C D news := Off3.of fun e he => by
    have hb : @LT.lt Nat _ e.1 I := ltI _ _ (N e he).1
    exact ⟨Nat.ne_of_lt hb, Nat.ne_of_lt (by omega), Nat.ne_of_lt (by omega)⟩
  have off3 := off.mem
  have F1 : Fr h₀ env.locals h₁ m := Fr.keeps' F k12
  have N1 : News h₀ env.locals h₁ ((D, lst []) :: news) := fun e he => by
    rcases List.mem_cons.mp he with rfl | he
    · exact ⟨hD1, hDL, h0none D (by omega)⟩
    · exact ⟨k12 _ _ (N e he).1, (N e he).2⟩
  have hIt : h₁.IsListIter I ax 0 := hI1.at fun o e => k2 I o e
  have loop : codeAny (model prog w) A (.compLoop (comp2 elt it1 it2 ct (.Name x px) (.Name y py) scope pos) 0 (.ref I) (.ref D) (compEnvC scope cl C env))
      (compPost (model prog w) A NoE (some (assign (.Name z pz) env)) (fun x s' => Q Flow.next s') (.ref D) C) ⟨h₁, s₁.gens, s₁.drawn, s₁.toks, s₁.os⟩ := by
    refine codeAny_outer (fun n s' => ∃ h' tk' i ys m', s' = ⟨h', s₁.gens, s₁.drawn, tk', s₁.os⟩ ∧ i ≤ ks.length ∧ n = ks.length + 1 - i ∧ IntsAre ys (comb p gf (ks.take i)) ∧ h'.IsListIter I ax i ∧ Fr h₀ env.locals h' m ∧ h'.Ns C m' ∧ News h₀ env.locals h' ((D, lst ys) :: news)) ?_ (ks.length + 1)
      ⟨h₁, _, 0, [], _, rfl, Nat.zero_le _, rfl, by simp [comb]; exact .nil, hIt, F1, hns₁, N1⟩ (hs := fun x => hs2 C x)
    rintro n s' ⟨h', tk', i, ys, m', rfl, hin, rfl, hys, hit, F', hC', N'⟩
    have hneI : ax ≠ I := Nat.ne_of_lt (by rw [← hIe]; exact hlt)
    have W := Walks.list (prog := prog) (w := w) hh I ax hneI vs.toArray
    have hvl : vs.toArray.size = ks.length := by simp [hi.length]
    have hl' : h'.IsList ax vs.toArray := News.isList N' (.tail _ hm)
    have hit' : h'.IsListIter I ax i ∧ h'.IsList ax vs.toArray := ⟨hit, hl'⟩
    by_cases hlt' : i < ks.length
    · refine W.item i _ _ _ (by rw [hvl]; exact hlt') hit' fun v h2 tk2 hv hst2 hk2 => ?_
      obtain ⟨k, t, rfl, hkk⟩ := IntsAre.at hi i v (by simpa using hv)
      have hkm : k ∈ ks := List.mem_of_getElem? hkk
      have kb : ∀ b o, b ≠ I → h'.get? b = some o → h2.get? b = some o := fun b o hb e => hk2 b o (by simpa using hb) e
      dsimp only
      refine wpAny_assign_Name (wpAny_storeName_local (lookup_relabel_local hx) (hC'.at' fun o e => kb _ o hIC.symm e) (fun h3 hn3 hs3 => ?_) (by simp [compEnvC, relabel, hkind]))
      have kc : ∀ b o, b ≠ I → b ≠ C → h'.get? b = some o → h3.get? b = some o := fun b o h1 h2 e => hs3.extBut b o h2 (kb b o h1 e)
      have F3 : Fr h₀ env.locals h3 m := ⟨F'.ns.at' fun o e => kc _ o (fun q => hIL q.symm) (fun q => hCL q.symm) e, fun b o e => kc b o (fun q => by rw [q, hI0] at e; cases e) (fun q => by rw [q, h0none C (by omega)] at e; cases e) (F'.keep b o e), F'.above⟩
      obtain ⟨oC, hoC, hNC⟩ := ns_obj hn3
      have hst3 : h3.IsListIter I ax (i + 1) := hst2.1.at fun o e => hs3.extBut I o hIC e
      obtain ⟨oI, hoI, hoI2⟩ := id hst3
      have N3 : News h₀ env.locals h3 ((I, oI) :: (C, oC) :: (D, lst ys) :: news) := fun e he => by
        rcases List.mem_cons.mp he with rfl | he
        · exact ⟨hoI, hIL, hI0⟩
        · rcases List.mem_cons.mp he with rfl | he
          · exact ⟨hoC, hCL, h0none C (by omega)⟩
          · have z := N' e he
            refine ⟨kc _ _ ?_ ?_ z.1, z.2⟩
            · rcases List.mem_cons.mp he with rfl | he
              · exact hID.symm
              · exact (off3 e he).1
            · rcases List.mem_cons.mp he with rfl | he
              · exact hCD.symm
              · exact (off3 e he).2.1
      have go := TT.iter k t I oI C oC D ys _ h3 (tk2 + 1) hkm hNC (by simp) F3 N3 off ⟨hIC, hID, hCD⟩
      refine wpAny_mono go (fun xv s4 h4 => ?_) fun _ _ e => e
      obtain ⟨⟨r, t4, u4, z4, rfl, hR⟩, h4', tk4, rfl, F4, N4⟩ := h4
      have hk50 := hk k hkm
      refine wpAny_pyIter_range hR (rng_small (by omega) (by omega) (by omega) (by omega)) ?_
      have hI2s : ∀ b o, h4'.get? b = some o → @Ne Nat b h4'.objs.size := fun b o e => Nat.ne_of_lt (Heap.lt_size e)
      have k5 : ∀ b o, h4'.get? b = some o → (h4'.push { cls := .type "range_iterator", data := .fields #[rawInt 1, rawInt (Builtin.Range.rangeSize 1 k 1), rawInt 1] }).get? b = some o := fun b o e => Heap.get?_push_of_some _ e
      have hit5 : IsRangeIter (h4'.push { cls := .type "range_iterator", data := .fields #[rawInt 1, rawInt (Builtin.Range.rangeSize 1 k 1), rawInt 1] }) h4'.objs.size (1 + ((0 : Nat) : Int) * 1) (((k - 1).toNat : Int) - ((0 : Nat) : Int)) 1 := by
        show IsRangeIter _ _ _ _ _
        rw [rng_size]
        simpa using Heap.get?_push_size _ rfl
      have hcl := comb_le p gf (ks.take i) fun a ha => (hk a (List.mem_of_mem_take ha)).2
      have loop2 := inner2 (R := fun r s₅ => match r with
          | .ok _ => ∃ m_1, m_1 < ks.length + 1 - i ∧ ∃ h' tk' i ys m', s₅ = ⟨h', s₁.gens, s₁.drawn, tk', s₁.os⟩ ∧ i ≤ ks.length ∧ m_1 = ks.length + 1 - i ∧ IntsAre ys (comb p gf (ks.take i)) ∧ h'.IsListIter I ax i ∧ Fr h₀ env.locals h' m ∧ h'.Ns C m' ∧ News h₀ env.locals h' ((D, lst ys) :: news)
          | .error _ => False) (elt := elt) (it1 := it1) (it2 := it2) (ct := ct) (px := px) (py := py) (pos := pos) (tk := tk4) (t := t) (h := h4'.push { cls := .type "range_iterator", data := .fields #[rawInt 1, rawInt (Builtin.Range.rangeSize 1 k 1), rawInt 1] }) (m₂ := fun y => if y = x then some (.int k t) else m' y)
        TT hh hkm hxy hkind hy (by rw [List.length_take] at hcl; omega) (base := comb p gf (ks.take i)) hk50.2 hIC hID hCD
        ⟨(hI2s _ _ (N4 _ (.head _)).1).symm, (hI2s _ _ (N4 _ (.tail _ (.head _))).1).symm, (hI2s _ _ (N4 _ (.tail _ (.tail _ (.head _)))).1).symm, (Nat.ne_of_gt F4.ns.lt)⟩ off
        (fun e he => hI2s _ _ (N4 e (.tail _ (.tail _ (.tail _ he)))).1) ⟨hIL, hI0⟩ ⟨hCL, h0none C (by omega)⟩ ⟨hDL, h0none D (by omega)⟩ (next_is_new F4) hys hit5 (k5 _ _ (N4 _ (.head _)).1) (Fr.keeps' F4 k5) ((hNC.ns (N4 _ (.tail _ (.head _))).1).at' fun o e => k5 _ o e) (by simp)
        (fun e he => ⟨k5 _ _ (N4 e (.tail _ (.tail _ he))).1, (N4 e (.tail _ (.tail _ he))).2⟩)
        (fun h6 tk6 ys6 m6 hys6 hI6 F6 hC6 N6 => ⟨ks.length + 1 - (i + 1), by omega, h6, tk6, i + 1, ys6, m6, rfl, hlt', rfl, by
          rw [List.take_add_one, hkk]
          show IntsAre ys6 (comb p gf (ks.take i ++ [k]))
          rw [comb_snoc]; exact hys6, ⟨oI, hI6, hoI2⟩, F6, hC6, N6⟩)
      exact codeAny_start1 loop2 ((LCg.range_walks hh 1 (k - 1).toNat).self 0 _ _ _ hit5 loop2)
    · have hin' : i = ks.length := by omega
      subst hin'
      refine W.done _ _ _ (by rw [hvl]; exact hit') fun h2 tk2 hk2 => ?_
      have kb : ∀ b o, b ≠ I → h'.get? b = some o → h2.get? b = some o := fun b o hb e => hk2 b o (by simpa using hb) e
      show wpAny _ A (assign (.Name z pz) env (.ref D)) _ _ _
      have F2 : Fr h₀ env.locals h2 m := fr_but F' hk2 (fun q => hIL q.symm) hI0
      refine wpAny_assign_Name (wpAny_storeName_local hz F2.ns (fun h3 hn3 hs3 => ?_) hp)
      have F3 := F2.set hn3 hs3
      refine ⟨m', (hC'.at' fun o e => kb _ o hIC.symm e).sameBut hs3 hCL, fun h'' hs'' => fin D h'' _ ys (by rw [List.take_length] at hys; exact hys) (F3.change hs'' hCL (h0none C (by omega))) (fun e he => ?_) off.one⟩
      have z := N' e he
      refine ⟨hs''.extBut _ _ ?_ (hs3.extBut _ _ z.2.1 (kb _ _ ?_ z.1)), z.2⟩
      · rcases List.mem_cons.mp he with rfl | he
        · exact hCD.symm
        · exact (off3 e he).2.1
      · rcases List.mem_cons.mp he with rfl | he
        · exact hID.symm
        · exact (off3 e he).1
  exact codeAny_compStart_list loop (Walks.self (Walks.list (prog := prog) (w := w) hh I ax (Nat.ne_of_lt (by rw [← hIe]; exact hlt)) vs.toArray) 0 _ _ _ ⟨hIt, hl.at fun o e => k12 ax o e⟩ loop)
end
end
end Mine81
namespace Mine81
section
local macro_rules | `(tactic| walk_at "zz") => `(tactic| skip)
section
variable {w : World} {mean : ExcName → Option Value} {mg mb : Str → Option Value} {dp un : Nat} {fr : Option (List Env)} {gd : Option (List Code)} {s : Shared} {Q E : Value → Shared → Prop} {g : Heap} {L l : Addr} {m : Str → Option Value} {news : List (Addr × Obj)} {vs : List Value} {ns : List Int} {most : Int} {t2 : Tok} {k : Nat}
theorem line81K (F : Fr g L s.heap m) (N : News g L s.heap news) (T : Top hd.view_39 (looseW hd.view_39 [Str.ofString "Whitespace"]) mean mg mb g) (X : (hd.heap_39 w.params).In g) (hm : (l, W.listOf vs.toArray k) ∈ news)
    (hA : dp + 20 < recursionLimit) (hu : un + 50 < cLine) (hi : IntsAre vs ns) (hns : ns.head? ≠ some 0) (h5 : 5 ≤ most) (h7 : most ≤ 7) (hpos : ∀ i x, gAt none ns i = some x → 1 ≤ x ∧ x ≤ 200)
    (hret : ∀ t h' tk g', Fr g L h' m → News g L h' news → (AllBare s.gens → AllBare g') → Q (.str (lineF ns most) t) ⟨h', g', s.drawn, tk, s.os⟩) :
    wpAny (model Challenge.rw_rl0081_01.row.prog w) (Around.mk none dp fr gd un) (call (.ref 108) [.ref l, .int most t2]) Q E s :=
  line81 ⟨T.keeps F.keep, X.keeps F.keep⟩ hA hu (News.isList N hm) hi hns h5 h7 hpos fun t s' k => by
    rw [keep_eta k]
    exact hret t _ _ _ (Fr.keeps' F k.heap) (News.keeps' N k.heap) k.bare
theorem marks81K (F : Fr g L s.heap m) (N : News g L s.heap news) (T : Top hd.view_39 (looseW hd.view_39 [Str.ofString "Whitespace"]) mean mg mb g) (X : (hd.heap_39 w.params).In g) (hm : (l, W.listOf vs.toArray k) ∈ news)
    (hA : dp + 20 < recursionLimit) (hu : un + 50 < cLine) (hi : IntsAre vs ns) (h5 : 5 ≤ most) (h7 : most ≤ 7) (hlen : ns.length ≤ 8)
    (hret : ∀ h' tk g' D vs' kk, IntsAre vs' (marksF ns most) → Fr g L h' m → News g L h' ((D, W.listOf vs'.toArray kk) :: news) → LCg.Off1 D news → (AllBare s.gens → AllBare g') → Q (.ref D) ⟨h', g', s.drawn, tk, s.os⟩) :
    wpAny (model Challenge.rw_rl0081_01.row.prog w) (Around.mk none dp fr gd un) (call (.ref 113) [.ref l, .int most t2]) Q E s :=
  marks81 ⟨T.keeps F.keep, X.keeps F.keep⟩ hA hu (News.isList N hm) hi h5 h7 hlen fun h' tk' g' D vs' kk hI hD hn hk hb => by
    have off : ∀ {l : List (Addr × Obj)}, (∀ e ∈ l, e ∈ news) → LCg.Off1 D l := by
      intro l
      induction l with
      | nil => exact fun _ => trivial
      | cons e r ih => exact fun hs => ⟨newsNe N (hs e (.head _)) hn, ih fun q hq => hs q (.tail _ hq)⟩
    refine hret h' tk' g' D vs' kk hI (Fr.keeps' F hk) (fun e he => ?_) (off fun _ h => h) hb
    rcases List.mem_cons.mp he with rfl | he
    · exact ⟨hD, frL F hn, frN F hn⟩
    · exact News.keeps' N hk e he
theorem srcStr {prog : Program} {A : Around} {h₀ : Heap} {env : Env} {elt : Expr} {x : Str} {scope : Scope} {cl : List (Str × Addr)} {Fin : Shared → List Value → List (Addr × Obj) → Prop} {ax : Addr} (gf : Int → Str) (hi : IntsAre vs ns) (hl : ns.length ≤ 1000)
    (F : Fr h₀ L s.heap m) (N : News h₀ L s.heap news) (hm : (ax, W.listOf vs.toArray k) ∈ news) (hh : A.handled = none)
    (turn : ∀ (g : Heap) k t I oI C oC D m₂ ys h tk (E' : Value → Shared → Prop), k ∈ ns → LCg.NsObj oC m₂ → m₂ x = some (.int k t) → Fr h₀ L h m → News h₀ L h ((I, oI) :: (C, oC) :: (D, LCg.lst ys) :: news) → LCg.Off3 I C D news → ((@Ne Nat I C) ∧ (@Ne Nat I D) ∧ (@Ne Nat C D)) →
      wpAny (model prog w) A (eval elt (compEnvC scope cl C env)) (LCg.CompEnd h₀ L m ⟨h, s.gens, s.drawn, tk, s.os⟩ I oI C oC D (LCg.lst ys) (LCg.SrcAt h₀ ax vs.toArray) (fun y news' => KCtEl news (gf k) y news')) E' ⟨h, s.gens, s.drawn, tk, s.os⟩)
    (fin : ∀ (g : Heap) ys, CarriedAll ys (ns.map fun k => PyData.str (gf k)) → Fin { s with heap := g } ys news) : CSrcU prog w A h₀ L m env elt x scope cl Fin (.ref ax) s := by
  refine LCg.CompSrc.ledger hh F N hm (by rw [sizeLine_eq]; simp [hi.length]; omega) fun g => ?_
  exact kct_list gf hi (fun k t I oI C oC D m₂ ys h tk E' hk hC hx F N off ne mk => turn g k t I oI C oC D m₂ ys h tk E' hk hC hx F N off ne) (fun ys hc _ => fin g ys hc)
theorem Comp_W {prog : Program} {A : Around} {h₀ : Heap} {env : Env} {elt iter : Expr} {x : Str} {px : Pos} {scope : Scope} {cl : List (Str × Addr)} {pos : Pos} {Q : Value → Shared → Prop} (F₀ : Fr h₀ L s.heap m)
    (hclos : closureFor scope env = pure cl) (hcell : ∀ y ∈ scope.names, y.2 ≠ .cell) (hkind : scope.kind = .function)
    (hnames : ∀ y ∈ scope.names, y.2 = .local → scope.names.lookup y.1 = some .local) (hx : scope.names.lookup x = some .local)
    (h : wpAny (model prog w) A (eval iter env) (CSrcU prog w A h₀ L m env elt x scope cl (fun s₂ => LCg.FinE h₀ L m s₂ Q)) E s)
    (hs : ∀ x, foldedSetIterable iter env x = pure x := by intro _; rfl) :
    wpAny (model prog w) A (eval (.ListComp elt [⟨.Name x px, iter, [], 0⟩] scope pos) env) Q E s :=
  LCg.ListComp_U F₀ hclos hcell hkind hnames hx h hs
end
theorem any_ints {k : Int} : ∀ {vs : List Value} {ns : List Int}, IntsAre vs ns → vs.any (isInt k) = ns.any fun x => x == k
  | _, _, .nil => rfl
  | _, _, .cons x t r => by
    have := any_ints (k := k) r
    simp only [List.any_cons, this]
    rfl
theorem notinK {prog : Program} {w : World} {A : Around} {E : Value → Shared → Prop} {s : Shared} {h₀ : Heap} {L D : Addr} {news : List (Addr × Obj)} {vs : List Value} {ns : List Int} {n : Nat} {k : Int} {t : Tok} {Q : Value → Shared → Prop} (N : News h₀ L s.heap news) (hm : (D, W.listOf vs.toArray n) ∈ news) (hi : IntsAre vs ns)
    (h : Q (.bool (!(ns.any fun x => x == k))) s) : wpAny (model prog w) A (compareOp .NotIn (.int k t) (.ref D)) Q E s :=
  kf_notin N hm (by simpa using ints_ints hi) (by rw [← any_ints (k := k) hi]) h
/-- the gaps: each tab, each blank ahead of it -/
noncomputable def gapsF (marks : List Int) : List Int := comb (fun _ j => !(marks.any fun x => x == j)) (fun k j => k - j) marks
noncomputable def sgn0 (gap : Int) : Str := Txt.mul (Str.ofString " ") (gap - 1) ++ Str.ofString "\t"
noncomputable def sgn1 (gap : Int) : Str := Txt.mul (Str.ofString " ") gap ++ Str.ofString "\t"
noncomputable def leadF (f : Int → Str) (gaps : List Int) : Str := Txt.join (Str.ofString "") (gaps.map f)
theorem sgn_len (n : Int) : (Txt.mul (Str.ofString " ") n ++ Str.ofString "\t").length = n.toNat + 1 := by
  rw [blanks, tabS, glue]; simp [Str.length]
theorem gaps_mem {marks : List Int} (h : ∀ a ∈ marks, 1 ≤ a ∧ a ≤ 7) : ∀ a ∈ gapsF marks, 1 ≤ a ∧ a ≤ 6 := by
  intro a ha
  unfold gapsF comb at ha
  obtain ⟨k, hk, ha⟩ := List.mem_flatMap.mp ha
  obtain ⟨j, hj, rfl⟩ := List.mem_map.mp ha
  have := mem_rangeKs (List.mem_filter.mp hj).1
  have := h k hk
  dsimp only
  omega
theorem gaps_len {marks : List Int} (h : ∀ a ∈ marks, 1 ≤ a ∧ a ≤ 7) : (gapsF marks).length ≤ 6 * marks.length := by
  unfold gapsF
  generalize (fun (_ j : Int) => !(marks.any fun x => x == j)) = p
  induction marks with
  | nil => exact Nat.le_refl _
  | cons k r ih =>
    have ih := ih fun a ha => h a (List.mem_cons_of_mem _ ha)
    have h1 := h k List.mem_cons_self
    have h2 : ((rangeKs 1 (k - 1).toNat).filter (p k)).length ≤ (k - 1).toNat := by
      have := List.length_filter_le (p k) (rangeKs 1 (k - 1).toNat)
      rw [rangeKs_length] at this; exact this
    unfold comb at ih ⊢
    rw [List.flatMap_cons, List.length_append, List.length_map, List.length_cons]
    omega
theorem lead_len (f : Int → Str) {gaps : List Int} (h : ∀ a ∈ gaps, (f a).length ≤ 8) (hl : gaps.length ≤ 42) : (Txt.join (Str.ofString "") (gaps.map f)).length ≤ 336 := by
  have h1 := StrLaws.join_length_le (Str.ofString "") (gaps.map f)
  have h2 : ((gaps.map f).map (·.length)).sum ≤ 8 * gaps.length := by
    clear h1 hl
    induction gaps with
    | nil => simp
    | cons a r ih =>
      have := ih fun x hx => h x (List.mem_cons_of_mem _ hx)
      have := h a List.mem_cons_self
      simp only [List.map_cons, List.sum_cons, List.length_cons] at *
      omega
  have h3 : (Str.ofString "").length = 0 := by decide +kernel
  have h4 : Txt.join (Str.ofString "") (gaps.map f) = Str.join (Str.ofString "") (gaps.map f) := StrLaws.glued_eq_join _ _
  rw [h4]
  rw [h3] at h1
  omega
local macro_rules
  | `(tactic| walk_at "call ref") => `(tactic| refine stop_ ?_)
  | `(tactic| walk_at "eval ListComp") => `(tactic| refine stop_ ?_)
  | `(tactic| walk_at "exec Assign cons ListComp") => `(tactic| refine stop_ ?_)
  | `(tactic| walk_at "compareOp NotIn int ref") => `(tactic| refine stop_ ?_)
  | `(tactic| walk_at "call builtin:str.join") => `(tactic| refine stop_ ?_)
  | `(tactic| walk_at "execs cons") => `(tactic| refine stopFor ?_)
noncomputable def cL (Dr : Addr) (total most : Int) (t1 t2 : Tok) : List (Str × Value) := [(Str.ofString "row", .ref Dr), (Str.ofString "total", .int total t1), (Str.ofString "most", .int most t2)]
noncomputable def dL (Dw Dd Dg : Addr) (p1 p2 p3 : WP) (line : Str) (total most : Int) (t1 t2 tl : Tok) : List (Str × Value) :=
  [(Str.ofString "wide", .ref Dw), (Str.ofString "due", .ref Dd), (Str.ofString "third", .ref p3.x), (Str.ofString "shorter", .ref p2.x), (Str.ofString "longer", .ref p1.x), (Str.ofString "gaps", .ref Dg), (Str.ofString "line", .str line tl), (Str.ofString "total", .int total t1), (Str.ofString "most", .int most t2)]
theorem phaseC2 {w : World} {mean : ExcName → Option Value} {mg mb : Str → Option Value} {s : Shared} {Q : Flow → Shared → Prop} {g : Heap} {L f D : Addr} {cd : Value} {m : Str → Option Value} {ys : List Value} {gaps : List Int} {kg : Nat} {line : Str} {total most : Int} {t1 t2 tl : Tok} {sc : Scope} {bd bd18 : List Stmt} (hsc : sc = lawScope) (hbd : bd = lawBody.drop 12) (hbd18 : bd18 = lawBody.drop 18)
    (F : Fr g L s.heap (pinM [(Str.ofString "gaps", .ref D), (Str.ofString "line", .str line tl), (Str.ofString "total", .int total t1), (Str.ofString "most", .int most t2)] m)) (N : News g L s.heap [(D, W.listOf ys.toArray kg)]) (T : Top hd.view_39 (looseW hd.view_39 [Str.ofString "Whitespace"]) mean mg mb g) (X : (hd.heap_39 w.params).In g)
    (hg : IntsAre ys gaps) (hgm : ∀ a ∈ gaps, 1 ≤ a ∧ a ≤ 6) (hgl : gaps.length ≤ 42) (h5 : 5 ≤ most) (h7 : most ≤ 7)
    (next : ∀ m₁ h' tk g' Dw Dd p1 p2 p3, Fr g L h' (pinM (dL Dw Dd D p1 p2 p3 line total most t1 t2 tl) m₁) →
      News g L h' ((Dw, W.listOf #[] 0) :: (Dd, W.listOf #[] 0) :: (p3.own w ++ (p2.own w ++ (p1.own w ++ [(D, W.listOf ys.toArray kg)])))) →
      p1.Ok (Txt.join (Str.ofString "") (gaps.map sgn1) ++ Str.ofString "x") → p2.Ok (Txt.join (Str.ofString "") (gaps.map sgn0) ++ Str.ofString "x") →
      p3.Ok (Txt.join (Str.ofString "") (gaps.map sgn0) ++ Txt.mul (Str.ofString " ") most ++ Str.ofString "x") →
      @LT.lt Nat _ D p1.dx → @LT.lt Nat _ p1.an p2.dx → @LT.lt Nat _ p2.an p3.dx → @LT.lt Nat _ p3.an Dd → @LT.lt Nat _ Dd Dw → (AllBare s.gens → AllBare g') →
      wpAny (model Challenge.rw_rl0081_01.row.prog w) (callerA.deeper (lawEnv sc L f cd)) (execs bd18 (lawEnv sc L f cd)) Q NoE ⟨h', g', s.drawn, tk, s.os⟩) :
    wpAny (model Challenge.rw_rl0081_01.row.prog w) (callerA.deeper (lawEnv sc L f cd)) (execs bd (lawEnv sc L f cd)) Q NoE s := by
  conv at hsc => rhs; whnf
  conv at hbd => rhs; whnf
  conv at hbd18 => rhs; whnf
  subst hsc hbd hbd18
  revert X
  k_fill
  intro X
  have hb0 : ∀ a ∈ gaps, (sgn0 a).length ≤ 16 := fun a ha => by have := hgm a ha; rw [sgn0, sgn_len]; omega
  have hb1 : ∀ a ∈ gaps, (sgn1 a).length ≤ 16 := fun a ha => by have := hgm a ha; rw [sgn1, sgn_len]; omega
  have hn6 : gaps.length ≤ 1048576 := by omega
  have hx1 : (Str.ofString "x").length = 1 := by decide +kernel
  have hm1 : (Txt.mul (Str.ofString " ") most).length = most.toNat := by rw [blanks]; simp [Str.length]
  have hL0 := lead_len sgn0 (gaps := gaps) (fun a ha => by have := hgm a ha; rw [sgn0, sgn_len]; omega) (by omega)
  have hL1 := lead_len sgn1 (gaps := gaps) (fun a ha => by have := hgm a ha; rw [sgn1, sgn_len]; omega) (by omega)
  have hw1 : (Txt.join (Str.ofString "") (gaps.map sgn1) ++ Str.ofString "x").length ≤ 1000 := by rw [Str.length_append]; omega
  have hw2 : (Txt.join (Str.ofString "") (gaps.map sgn0) ++ Str.ofString "x").length ≤ 1000 := by rw [Str.length_append]; omega
  have hw3 : (Txt.join (Str.ofString "") (gaps.map sgn0) ++ Txt.mul (Str.ofString " ") most ++ Str.ofString "x").length ≤ 1000 := by rw [Str.length_append, Str.length_append]; omega
  k_steps
  refine Comp_W (F₀ := by k_asm) (by with_unfolding_all rfl) (by decide) (by rfl) (by decide) (by rfl) ?_ (by intro _; rfl)
  k_steps
  refine srcStr sgn0 hg (by omega) F N (.head _) rfl ?_ ?_
  · intro g k t I oI C oC D ys m₂ h tk E' hk hC hx F N off ne
    have hkb := hgm k hk
    k_steps
    refine LCg.CompEnd.intro F N _ (fun _ h => h) off (.inr ⟨_, .head _, rfl, _, rfl⟩) ⟨rfl, _, rfl⟩
  · intro _ ys2 hc2 D2 h2 tk2 F2 N2 o2
    clear F N
    simp only [LCg.Off1, and_true] at o2
    k_steps
    refine' KT.join_B 16 (by exact News.isList (by k_asm) (by k_mem)) (by k_asm) (by k_asm) (by k_asm) (by decide +kernel) ?_; intro _ _; k_steps
    refine Comp_W (F₀ := by k_asm) (by with_unfolding_all rfl) (by decide) (by rfl) (by decide) (by rfl) ?_ (by intro _; rfl)
    k_steps
    rename Fr _ _ _ _ => F9
    rename News _ _ _ _ => N9
    clear hc2
    refine srcStr sgn1 hg (by omega) F9 N9 (.tail _ (.head _)) rfl ?_ ?_
    · intro g k t I oI C oC D ys m₂ h tk E' hk hC hx F N off ne
      have hkb := hgm k hk
      clear F9 N9
      k_steps
      refine LCg.CompEnd.intro F N _ (fun _ h => h) off (.inr ⟨_, .tail _ (.head _), rfl, _, rfl⟩) ⟨rfl, _, rfl⟩
    · intro _ ys3 hc3 D3 h3 tk3 F3 N3 o3
      clear F9 N9
      simp only [LCg.Off1, and_true] at o3
      k_steps
      refine' KT.join_B 16 (by exact News.isList (by k_asm) (by k_mem)) (by k_asm) (by k_asm) (by k_asm) (by decide +kernel) ?_; intro _ _; k_steps
      iterate 3 (refine' new81K (by k_asm) (by k_asm) (by k_asm) (by k_asm) (by assumption) (by decide +kernel) (by decide +kernel) ?_; intro p' h' tk' g' hp' F' N' l1 hb'; (try k_lt l1); (have hw1' := ltN (WP.Ok.l1 hp')); (have hw2' := ltN (WP.Ok.l2 hp')); (have hw3' := ltN (WP.Ok.l3 hp')); (try simp only [WP.own, List.cons_append, List.nil_append] at N'); k_steps)
      rename Fr _ _ _ _ => F9
      rename News _ _ _ _ => N9
      clear hb0 hb1 hn6 hx1 hm1 hL0 hL1 hw1 hw2 hw3 hgm hgl hc3
      refine next _ _ _ _ _ _ _ _ _ (Fr.pin F9 ⟨rfl, rfl, rfl, rfl, rfl, rfl, rfl, rfl, rfl, trivial⟩) (cb_drop N9 (by simp only [WP.own, List.cons_append, List.nil_append]; kcj_all)) (by assumption) (by assumption) (by assumption) (by omega) (by omega) (by omega) (by omega) (by omega) ?_
      intro z
      repeat (first | exact z | (rename (AllBare _ → AllBare _) => hb; first | (refine hb ?_; clear hb) | clear hb))

theorem phaseC {w : World} {mean : ExcName → Option Value} {mg mb : Str → Option Value} {s : Shared} {Q : Flow → Shared → Prop} {g : Heap} {L f Dr : Addr} {cd : Value} {m : Str → Option Value} {oc : Obj} {rvs : List Value} {row : List Int} {kk : Nat} {total most : Int} {t1 t2 : Tok} {sc : Scope} {bd bd18 : List Stmt} (hsc : sc = lawScope) (hbd : bd = lawBody.drop 9) (hbd18 : bd18 = lawBody.drop 18)
    (F : Fr g L s.heap (pinM (cL Dr total most t1 t2) m)) (N : News g L s.heap [(Dr, W.listOf rvs.toArray kk), (L + 1, oc)]) (hoc : oc.data = .cell none) (hD : @LT.lt Nat _ (L + 1) Dr) (T : Top hd.view_39 (looseW hd.view_39 [Str.ofString "Whitespace"]) mean mg mb g) (X : (hd.heap_39 w.params).In g)
    (hi : IntsAre rvs row) (hrow : row.length ≤ 8) (hns : row.head? ≠ some 0) (h5 : 5 ≤ most) (h7 : most ≤ 7) (hpos : ∀ i x, gAt none row i = some x → 1 ≤ x ∧ x ≤ 200) (hmk : (marksF row most).length ≤ 7 ∧ ∀ a ∈ marksF row most, 1 ≤ a ∧ a ≤ 7)
    (next : ∀ m₁ h' tk g' Dw Dd Dg gvs kg p1 p2 p3 tl, Fr g L h' (pinM (dL Dw Dd Dg p1 p2 p3 (lineF row most) total most t1 t2 tl) m₁) →
      News g L h' ((Dw, W.listOf #[] 0) :: (Dd, W.listOf #[] 0) :: (p3.own w ++ (p2.own w ++ (p1.own w ++ [(Dg, W.listOf gvs.toArray kg)])))) → IntsAre gvs (gapsF (marksF row most)) →
      p1.Ok (Txt.join (Str.ofString "") ((gapsF (marksF row most)).map sgn1) ++ Str.ofString "x") → p2.Ok (Txt.join (Str.ofString "") ((gapsF (marksF row most)).map sgn0) ++ Str.ofString "x") →
      p3.Ok (Txt.join (Str.ofString "") ((gapsF (marksF row most)).map sgn0) ++ Txt.mul (Str.ofString " ") most ++ Str.ofString "x") →
      @LT.lt Nat _ Dg p1.dx → @LT.lt Nat _ p1.an p2.dx → @LT.lt Nat _ p2.an p3.dx → @LT.lt Nat _ p3.an Dd → @LT.lt Nat _ Dd Dw → (AllBare s.gens → AllBare g') →
      wpAny (model Challenge.rw_rl0081_01.row.prog w) (callerA.deeper (lawEnv sc L f cd)) (execs bd18 (lawEnv sc L f cd)) Q NoE ⟨h', g', s.drawn, tk, s.os⟩) :
    wpAny (model Challenge.rw_rl0081_01.row.prog w) (callerA.deeper (lawEnv sc L f cd)) (execs bd (lawEnv sc L f cd)) Q NoE s := by
  conv at hsc => rhs; whnf
  conv at hbd => rhs; whnf
  subst hsc hbd
  revert X
  k_fill
  intro X
  dsimp only [cL, pinM] at F
  have hlen := hi.length
  k_steps
  refine' line81K (by k_asm) (by k_asm) (by k_asm) (by k_asm) (by k_mem) (by decide +kernel) (by decide +kernel) (by assumption) (by assumption) (by assumption) (by assumption) (by assumption) ?_; intro t' h' tk' g' F' N' hb'
  k_steps
  refine' marks81K (by k_asm) (by k_asm) (by k_asm) (by k_asm) (by k_mem) (by decide +kernel) (by decide +kernel) (by assumption) (by assumption) (by assumption) (by assumption) ?_; intro h' tk' g' D' vs' kk' hI' F' N' o1' hb'; (try simp only [LCg.Off1, and_true] at o1')
  k_steps
  refine AssignComp2 rfl (F₀ := by k_asm) (by rfl) (by with_unfolding_all rfl) (by with_unfolding_all rfl) (by decide) (by rfl) (by decide) (by rfl) (by rfl) (by decide) (by rfl) (by rfl) ?_ (by intro _; rfl) (by intro _ _; rfl)
  k_steps
  rename Fr _ _ _ _ => F9
  rename News _ _ _ _ => N9
  rename IntsAre _ _ => hI9
  refine ⟨_, _, _, _, _, fun _ j => !((marksF row most).any fun x => x == j), fun k j => k - j, rfl, F9, N9, .head _, hI9, by omega, fun a ha => by have := hmk.2 a ha; omega, ⟨?_, ?_⟩, ?_⟩
  · intro k t I oI C oC D ys m₂ h tk hk hC hx F N off ne
    have hkb := hmk.2 k hk
    clear F9 N9
    k_steps
    rename Fr _ _ _ _ => F9
    rename News _ _ _ _ => N9
    rename IsRange _ _ _ _ _ _ _ _ => hR9
    exact ⟨⟨_, _, _, _, rfl, hR9⟩, _, _, rfl, F9, N9⟩
  · intro k t j u J oJ I oI C oC D ys m₂ h tk hk h1 h2 hC hx hy F N off ne
    have hkb := hmk.2 k hk
    clear F9 N9
    k_steps
    refine' notinK (by k_asm) (by k_mem) (by assumption) ?_
    k_steps
    · rename (List.any _ _ = true) => hq
      exact ⟨by rw [hq]; rfl, _, _, rfl, F, N⟩
    · rename (List.any _ _ = false) => hq
      exact ⟨by rw [hq]; rfl, ⟨_, rfl⟩, _, _, rfl, F, N⟩
  · intro D h tk ys hys F N o1
    clear F9 N9
    simp only [LCg.Off1, and_true] at o1
    have hg : IntsAre ys (gapsF (marksF row most)) := hys
    clear hys
    have hgl := gaps_len hmk.2
    dsimp only
    refine phaseC2 (D := D) rfl rfl hbd18 (Fr.pin F ⟨rfl, rfl, rfl, rfl, trivial⟩) (fun e he => N e (by rw [List.mem_singleton.mp he]; exact .head _)) T X hg (gaps_mem hmk.2) (Nat.le_trans hgl (Nat.mul_le_mul_left 6 hmk.1)) h5 h7 ?_
    intro m₁ h' tk' g' Dw Dd p1 p2 p3 F9 N9 a1 a2 a3 b1 b2 b3 b4 b5 hb9
    refine next _ _ _ _ _ _ D ys _ _ _ _ _ F9 N9 hg a1 a2 a3 b1 b2 b3 b4 b5 ?_
    intro z
    refine hb9 ?_
    clear hb9
    repeat (first | exact z | (rename (AllBare _ → AllBare _) => hb; first | (refine hb ?_; clear hb) | clear hb))
end
end Mine81
namespace Mine81
section
theorem times81K {w : World} {mean : ExcName → Option Value} {mg mb : Str → Option Value} {dp un : Nat} {fr : Option (List Env)} {gd : Option (List Code)} {s : Shared} {Q E : Value → Shared → Prop} {g : Heap} {L : Addr} {m : Str → Option Value} {news : List (Addr × Obj)} {line : List Nat} {step order : Int} {t1 t2 t3 : Tok}
    (F : Fr g L s.heap m) (N : News g L s.heap news) (T : Top hd.view_39 (looseW hd.view_39 [Str.ofString "Whitespace"]) mean mg mb g) (X : (hd.heap_39 w.params).In g)
    (hA : dp + 30 < recursionLimit) (hu : un + 80 < cLine) (hl : line.length ≤ 7) (hb : BinL line) (hm : 1 ≤ step) (hm' : step ≤ 8) (ho : 0 ≤ order ∧ order < 4096)
    (hret : ∀ t h' tk g', Fr g L h' m → News g L h' news → (AllBare s.gens → AllBare g') → Q (.int (tsum line step step.toNat : Nat) t) ⟨h', g', s.drawn, tk, s.os⟩) :
    wpAny (model Challenge.rw_rl0081_01.row.prog w) (Around.mk none dp fr gd un) (call (.ref 120) [.str ⟨line.toArray⟩ t1, .int step t2, .int order t3]) Q E s :=
  times81 ⟨T.keeps F.keep, X.keeps F.keep⟩ hA hu hl hb hm hm' ho.1 ho.2 fun t s' k => by
    rw [keep_eta k]
    exact hret t _ _ _ (Fr.keeps' F k.heap) (News.keeps' N k.heap) k.bare
noncomputable def lineL (row : List Int) (most : Int) : List Nat := lnAll row most ++ List.replicate (most - (lnAll row most).length).toNat 32
theorem lineF_eq (row : List Int) (most : Int) : lineF row most = ⟨(lineL row most).toArray⟩ := rfl
noncomputable def colStep (step c gap : Int) : Int := (c + gap - 1).fdiv step * step + step
noncomputable def colF (gaps : List Int) (step : Int) : Int := gaps.foldl (colStep step) 0
noncomputable def tmF (ln : List Nat) (step : Int) : Int := ((tsum ln step step.toNat : Nat) : Int)
noncomputable def dueR (ln : List Nat) (gaps : List Int) : Nat → List (Int × Int × Int)
  | 0 => []
  | k + 1 => dueR ln gaps k ++ if tmF ln (1 + (k : Int)) > 0 then [(1 + (k : Int), colF gaps (1 + (k : Int)) + (1 + (k : Int)) * tmF ln (1 + (k : Int)), colF gaps (1 + (k : Int)))] else []
noncomputable def wideR (ln : List Nat) (gaps : List Int) (most : Int) : Nat → List (Int × Int × Int)
  | 0 => []
  | k + 1 => wideR ln gaps most k ++ if (1 + (k : Int)) * tmF ln (1 + (k : Int)) ≠ most then [(1 + (k : Int), colF gaps (1 + (k : Int)) + (1 + (k : Int)) * tmF ln (1 + (k : Int)), colF gaps (1 + (k : Int)) + most)] else []
theorem dueR_len (ln : List Nat) (gaps : List Int) : ∀ k, (dueR ln gaps k).length ≤ k
  | 0 => Nat.le_refl _
  | k + 1 => by
    have := dueR_len ln gaps k
    rw [dueR, List.length_append]
    split <;> simp <;> omega
theorem wideR_len (ln : List Nat) (gaps : List Int) (most : Int) : ∀ k, (wideR ln gaps most k).length ≤ k
  | 0 => Nat.le_refl _
  | k + 1 => by
    have := wideR_len ln gaps most k
    rw [wideR, List.length_append]
    split <;> simp <;> omega
noncomputable def dBase (w : World) (Dg : Addr) (p1 p2 p3 : WP) (gvs : List Value) (kg : Nat) : List (Addr × Obj) := p3.own w ++ (p2.own w ++ (p1.own w ++ [(Dg, W.listOf gvs.toArray kg)]))
noncomputable def dJ (w : World) (Dw Dd Dg : Addr) (p1 p2 p3 : WP) (gvs : List Value) (kg : Nat) (ln : List Nat) (gaps : List Int) (total most : Int) (t1 t2 tl : Tok) (i : Nat) (m : Str → Option Value) (news : List (Addr × Obj)) : Prop :=
  ∃ (ds ws : List Value) (kd kw : Nat) (tt : List (Addr × Obj)) (m₁ : Str → Option Value), m = pinM (dL Dw Dd Dg p1 p2 p3 ⟨ln.toArray⟩ total most t1 t2 tl) m₁ ∧
    news = (Dw, W.listOf ws.toArray kw) :: (Dd, W.listOf ds.toArray kd) :: (dBase w Dg p1 p2 p3 gvs kg ++ tt) ∧ All2 (TupV tt) ds (dueR ln gaps i) ∧ All2 (TupV tt) ws (wideR ln gaps most i) ∧ (∀ e ∈ tt, @LT.lt Nat _ Dw e.1)
noncomputable def cpL (Dw Dd Dg : Addr) (p1 p2 p3 : WP) (line : Str) (total most : Int) (t1 t2 tl : Tok) (c tm step : Int) (tc tt ts : Tok) : List (Str × Value) :=
  (Str.ofString "column", .int c tc) :: (Str.ofString "times", .int tm tt) :: (Str.ofString "step", .int step ts) :: dL Dw Dd Dg p1 p2 p3 line total most t1 t2 tl
noncomputable def cpJ (Dw Dd Dg : Addr) (p1 p2 p3 : WP) (line : Str) (total most : Int) (t1 t2 tl : Tok) (gaps : List Int) (tm step : Int) (tt ts : Tok) (news₀ : List (Addr × Obj)) (i : Nat) (m : Str → Option Value) (news : List (Addr × Obj)) : Prop :=
  ∃ (tc : Tok) (m₁ : Str → Option Value), m = pinM (cpL Dw Dd Dg p1 p2 p3 line total most t1 t2 tl (colF (gaps.take i) step) tm step tc tt ts) m₁ ∧ news = news₀ ∧ 0 ≤ colF (gaps.take i) step ∧ colF (gaps.take i) step ≤ 20 * (i : Int)
theorem colF_snoc {gaps : List Int} {i : Nat} {v step : Int} (h : gaps[i]? = some v) : colF (gaps.take (i + 1)) step = colStep step (colF (gaps.take i) step) v := by
  unfold colF
  rw [List.take_add_one, h, List.foldl_append]; rfl
theorem col_bound {c v step : Int} (h0 : 0 ≤ c) (hv : 1 ≤ v ∧ v ≤ 6) (h1 : 1 ≤ step) (h8 : step ≤ 8) : 0 ≤ colStep step c v ∧ colStep step c v ≤ c + 20 := by
  unfold colStep
  rw [Int.fdiv_eq_ediv_of_nonneg _ (by omega)]
  have e1 := Int.ediv_mul_le (c + v - 1) (b := step) (by omega)
  have e2 := Int.mul_nonneg (Int.ediv_nonneg (a := c + v - 1) (b := step) (by omega) (by omega)) (show (0 : Int) ≤ step by omega)
  omega
section
variable {α : Type} {A B I G x y : α} {bs tt rest : List α}
theorem sub_2 (h : ∀ e ∈ bs ++ tt, e ∈ G :: rest) : ∀ e ∈ A :: B :: (bs ++ ([x, y] ++ tt)), e ∈ x :: y :: A :: B :: I :: G :: rest := by
  intro e he
  have := h e
  simp only [List.mem_cons, List.mem_append, List.not_mem_nil, or_false] at *; grind
theorem sub_1 (h : ∀ e ∈ bs ++ tt, e ∈ G :: rest) : ∀ e ∈ A :: B :: (bs ++ ([x] ++ tt)), e ∈ x :: A :: B :: I :: G :: rest := by
  intro e he
  have := h e
  simp only [List.mem_cons, List.mem_append, List.not_mem_nil, or_false] at *; grind
theorem sub_0 (h : ∀ e ∈ bs ++ tt, e ∈ G :: rest) : ∀ e ∈ A :: B :: (bs ++ tt), e ∈ A :: B :: I :: G :: rest := by
  intro e he
  have := h e
  simp only [List.mem_cons, List.mem_append, List.not_mem_nil, or_false] at *; grind
theorem base_of {P Q R : List α} : ∀ e ∈ (P ++ (Q ++ (R ++ [G]))) ++ tt, e ∈ G :: ((P ++ (Q ++ R)) ++ tt) := by
  intro e he
  simp only [List.mem_cons, List.mem_append, List.not_mem_nil, or_false] at *; grind
theorem base_to {P Q R : List α} : ∀ e ∈ A :: B :: I :: G :: ((P ++ (Q ++ R)) ++ tt), e ∈ (A :: B :: ((P ++ (Q ++ (R ++ [G]))) ++ tt)) ++ [I] := by
  intro e he
  simp only [List.mem_cons, List.mem_append, List.not_mem_nil, or_false] at *; grind
theorem base_0 {P Q R : List α} : ∀ e ∈ A :: B :: G :: (P ++ (Q ++ R)), e ∈ A :: B :: (P ++ (Q ++ (R ++ [G]))) := by
  intro e he
  simp only [List.mem_cons, List.mem_append, List.not_mem_nil, or_false] at *; grind
theorem base_1 {P Q R : List α} : ∀ e ∈ A :: B :: (P ++ (Q ++ (R ++ [G]))), e ∈ A :: B :: G :: (P ++ (Q ++ R)) := by
  intro e he
  simp only [List.mem_cons, List.mem_append, List.not_mem_nil, or_false] at *; grind
end
theorem own_le {w : World} {p : WP} {ws : Str} (hp : p.Ok ws) : ∀ e ∈ p.own w, @LE.le Nat _ e.1 p.an := by
  intro e he
  have q1 : @LT.lt Nat _ p.dx p.x := hp.l1
  have q2 : @LT.lt Nat _ p.x p.at' := hp.l2
  have q3 : @LT.lt Nat _ p.at' p.an := hp.l3
  simp only [WP.own, List.mem_cons, List.not_mem_nil, or_false] at he
  rcases he with rfl | rfl | rfl | rfl <;> dsimp only <;> omega
theorem neI {a b : Addr} {oa ob oa' ob' : Obj} {I : Addr} {bs tt new : List (Addr × Obj)} (h : ∀ p ∈ (a, oa) :: (b, ob) :: (bs ++ tt), p.1 ≠ I) (hnew : ∀ p ∈ new, p.1 ≠ I) : ∀ p ∈ (a, oa') :: (b, ob') :: (bs ++ (new ++ tt)), p.1 ≠ I := by
  intro p hp
  rcases List.mem_cons.mp hp with rfl | hp
  · exact h (a, oa) (.head _)
  · rcases List.mem_cons.mp hp with rfl | hp
    · exact h (b, ob) (.tail _ (.head _))
    · rcases List.mem_append.mp hp with hp | hp
      · exact h p (.tail _ (.tail _ (List.mem_append_left _ hp)))
      · rcases List.mem_append.mp hp with hp | hp
        · exact hnew p hp
        · exact h p (.tail _ (.tail _ (List.mem_append_right _ hp)))
theorem All2.grow {tt new : List (Addr × Obj)} {vs : List Value} {rs : List (Int × Int × Int)} (h : All2 (TupV tt) vs rs) : All2 (TupV (new ++ tt)) vs rs :=
  h.mono fun _ _ ⟨a, t1, t2, t3, e, hm⟩ => ⟨a, t1, t2, t3, e, List.mem_append_right _ hm⟩
theorem stopIfC {M : Model} {A : Around} {f : Expr} {xs : List Expr} {ks : List Keyword} {p p2 ps : Pos} {ops : List CmpOp} {cs : List Expr} {a b : List Stmt} {r : List Stmt} {env : Env} {Q : Flow → Shared → Prop} {E : Value → Shared → Prop} {s : Shared} (h : StopW M A (execs (.If (.Compare (.Call f xs ks p) ops cs p2) a b ps :: r) env) Q E s) : wpAny M A (execs (.If (.Compare (.Call f xs ks p) ops cs p2) a b ps :: r) env) Q E s := h
local macro_rules
  | `(tactic| walk_at "call ref") => `(tactic| refine stop_ ?_)
  | `(tactic| walk_at "exec For Name Call cons nil") => `(tactic| refine stop_ ?_)
  | `(tactic| walk_at "exec For Name Name cons nil") => `(tactic| refine stop_ ?_)
  | `(tactic| walk_at "binaryOp Mult int int") => `(tactic| refine stop_ ?_)
  | `(tactic| walk_at "execs cons") => `(tactic| refine stopIfC ?_)
theorem colR {w : World} {mean : ExcName → Option Value} {mg mb : Str → Option Value} {s : Shared} {Q : Flow → Shared → Prop} {g : Heap} {L f Dw Dd Dg I : Addr} {cd : Value} {m : Str → Option Value} {p1 p2 p3 : WP} {ln : Str} {gaps : List Int} {total most tm step gv : Int} {t1 t2 tl tc tt ts tg : Tok} {oI : Obj} {news : List (Addr × Obj)} {j : Nat} {sc : Scope} {bd : List Stmt} (hsc : sc = lawScope) (hbd : bd = bodyAt 3 (bodyAt 18 lawBody))
    (T : Top hd.view_39 (looseW hd.view_39 [Str.ofString "Whitespace"]) mean mg mb g) (X : (hd.heap_39 w.params).In g) (h1 : 1 ≤ step) (h8 : step ≤ 8) (hv : gaps[j]? = some gv) (hgb : 1 ≤ gv ∧ gv ≤ 6) (hj : j < 42) (hc0 : 0 ≤ colF (gaps.take j) step) (hc1 : colF (gaps.take j) step ≤ 20 * (j : Int))
    (F : Fr g L s.heap (pinM ((Str.ofString "gap", .int gv tg) :: cpL Dw Dd Dg p1 p2 p3 ln total most t1 t2 tl (colF (gaps.take j) step) tm step tc tt ts) m)) (N : News g L s.heap (news ++ [(I, oI)])) (hn : ∀ p ∈ news, p.1 ≠ I) :
    wpAny (model Challenge.rw_rl0081_01.row.prog w) (callerA.deeper (lawEnv sc L f cd)) (execs bd (lawEnv sc L f cd)) (StepW g L I oI (cpJ Dw Dd Dg p1 p2 p3 ln total most t1 t2 tl gaps tm step tt ts news (j + 1)) Q s) NoE s := by
  conv at hsc => rhs; whnf
  conv at hbd => rhs; whnf
  subst hsc hbd
  revert X
  k_fill
  intro X
  have hcb := col_bound (step := step) hc0 hgb h1 h8
  have hcs := colF_snoc (step := step) hv
  have hq := fdiv_bound (a := colF (gaps.take j) step + gv - 1) (b := step) (by omega) (by omega) h1
  have hq1 : -1000000 ≤ (colF (gaps.take j) step + gv - 1).fdiv step := Int.le_trans (by decide) hq.1
  have hq2 : (colF (gaps.take j) step + gv - 1).fdiv step ≤ 1000000 := Int.le_trans hq.2 (by decide)
  k_steps
  refine mulB hq1 hq2 ?_
  k_steps
  rename Fr _ _ _ _ => F8
  rename News _ _ _ _ => N8
  refine StepW.next news F8 N8 (List.mem_append_right _ (.head _)) (fun e he => List.mem_append_left _ he) hn ?_
  unfold cpJ
  rw [hcs]
  exact ⟨_, _, pin_self ⟨rfl, rfl, rfl, rfl, rfl, rfl, rfl, rfl, rfl, rfl, rfl, rfl, trivial⟩, rfl, hcb.1, by omega⟩
theorem StepW.up {h₀ : Heap} {L I : Addr} {oI : Obj} {J : (Str → Option Value) → List (Addr × Obj) → Prop} {Q : Flow → Shared → Prop} {s s₁ s₂ : Shared} {f : Flow} (z : StepW h₀ L I oI J Q s f s₂) (e1 : s.drawn = s₁.drawn) (e2 : s.os = s₁.os) (hb : AllBare s₁.gens → AllBare s.gens) : StepW h₀ L I oI J Q s₁ f s₂ := by
  cases f with
  | ret v => exact z
  | brk => exact z
  | next =>
    obtain ⟨h', tk', g', m₂, n₂, e, hb', r⟩ := z
    exact ⟨h', tk', g', m₂, n₂, by rw [e, e1, e2], fun q => hb' (hb q), r⟩
  | cont =>
    obtain ⟨h', tk', g', m₂, n₂, e, hb', r⟩ := z
    exact ⟨h', tk', g', m₂, n₂, by rw [e, e1, e2], fun q => hb' (hb q), r⟩
theorem duesT {w : World} {mean : ExcName → Option Value} {mg mb : Str → Option Value} {s : Shared} {Q : Flow → Shared → Prop} {g : Heap} {L f Dw Dd Dg I : Addr} {cd : Value} {m : Str → Option Value} {p1 p2 p3 : WP} {gvs : List Value} {kg : Nat} {ln : List Nat} {gaps : List Int} {total most : Int} {t1 t2 tl tc tt9 ts : Tok} {oI : Obj} {i : Nat} {ds ws : List Value} {kd kw : Nat} {tt rest : List (Addr × Obj)} {sc : Scope} {bd : List Stmt} (hsc : sc = lawScope) (hbd : bd = (bodyAt 18 lawBody).drop 4)
    (T : Top hd.view_39 (looseW hd.view_39 [Str.ofString "Whitespace"]) mean mg mb g) (X : (hd.heap_39 w.params).In g) (h5 : 5 ≤ most) (h7 : most ≤ 7) (hi8 : i < 8) (hdl : ds.length ≤ 8) (hwl : ws.length ≤ 8) (l5 : @LT.lt Nat _ Dd Dw) (hDg : @LT.lt Nat _ Dg Dd) (hI1 : @LT.lt Nat _ Dw I)
    (hA2 : All2 (TupV tt) ds (dueR ln gaps i)) (hB2 : All2 (TupV tt) ws (wideR ln gaps most i)) (htt : ∀ e ∈ tt, @LT.lt Nat _ Dw e.1) (hOff : OwnOff rest [Dw, Dd]) (hb : ∀ e ∈ dBase w Dg p1 p2 p3 gvs kg ++ tt, e ∈ (Dg, W.listOf gvs.toArray kg) :: rest)
    (hn : ∀ p ∈ (Dw, W.listOf ws.toArray kw) :: (Dd, W.listOf ds.toArray kd) :: (dBase w Dg p1 p2 p3 gvs kg ++ tt), p.1 ≠ I)
    (F6 : Fr g L s.heap (pinM (cpL Dw Dd Dg p1 p2 p3 ⟨ln.toArray⟩ total most t1 t2 tl (colF gaps (1 + (i : Int))) (tmF ln (1 + (i : Int))) (1 + (i : Int)) tc tt9 ts) m)) (N6 : News g L s.heap ((Dw, W.listOf ws.toArray kw) :: (Dd, W.listOf ds.toArray kd) :: (I, oI) :: (Dg, W.listOf gvs.toArray kg) :: rest)) :
    wpAny (model Challenge.rw_rl0081_01.row.prog w) (callerA.deeper (lawEnv sc L f cd)) (execs bd (lawEnv sc L f cd)) (StepW g L I oI (dJ w Dw Dd Dg p1 p2 p3 gvs kg ln gaps total most t1 t2 tl (i + 1)) Q s) NoE s := by
  conv at hsc => rhs; whnf
  conv at hbd => rhs; whnf
  subst hsc hbd
  revert X
  k_fill
  intro X
  k_steps
  all_goals repeat' (refine' mulB (by omega) (by omega) ?_; k_steps)
  · rename Fr _ _ _ _ => F9
    rename News _ _ _ _ => N9
    rename_i c1 _ D2 _ e2 _ _ c2 _ D3 _ e3 _
    simp only [List.push_toArray] at N9
    refine StepW.next ((Dw, W.listOf (ws ++ [Value.ref D3]).toArray (kw + 1)) :: (Dd, W.listOf (ds ++ [Value.ref D2]).toArray (kd + 1)) :: (dBase w Dg p1 p2 p3 gvs kg ++ ([(D3, _), (D2, _)] ++ tt))) F9 N9 (.tail _ (.tail _ (.tail _ (.tail _ (.head _))))) (sub_2 hb) (neI hn ?_)
      ⟨_, _, _, _, _, _, pin_self ⟨rfl, rfl, rfl, rfl, rfl, rfl, rfl, rfl, rfl, trivial⟩, rfl, ?_, ?_, ?_⟩ ?_
    · intro p hp
      rcases List.mem_cons.mp hp with rfl | hp
      · exact Nat.ne_of_gt e3.2.2.2.1
      · rw [List.mem_singleton.mp hp]; exact Nat.ne_of_gt e2.2.2.1
    · rw [dueR, if_pos c1]
      exact hA2.grow.snoc ⟨D2, _, _, _, rfl, .tail _ (.head _)⟩
    · rw [wideR, if_pos c2]
      exact hB2.grow.snoc ⟨D3, _, _, _, rfl, .head _⟩
    · intro e he
      rcases List.mem_cons.mp he with rfl | he
      · exact e3.2.1
      · rcases List.mem_cons.mp he with rfl | he
        · exact e2.1
        · exact htt e he
    · intro z; repeat (first | exact z | (rename (AllBare _ → AllBare _) => hb; first | (refine hb ?_; clear hb) | clear hb))
  · rename Fr _ _ _ _ => F9
    rename News _ _ _ _ => N9
    rename_i c1 _ D2 _ e2 _ _ c2
    simp only [List.push_toArray] at N9
    refine StepW.next ((Dw, W.listOf ws.toArray kw) :: (Dd, W.listOf (ds ++ [Value.ref D2]).toArray (kd + 1)) :: (dBase w Dg p1 p2 p3 gvs kg ++ ([(D2, _)] ++ tt))) F9 N9 (.tail _ (.tail _ (.tail _ (.head _)))) (sub_1 hb) (neI hn ?_)
      ⟨_, _, _, _, _, _, pin_self ⟨rfl, rfl, rfl, rfl, rfl, rfl, rfl, rfl, rfl, trivial⟩, rfl, ?_, ?_, ?_⟩ ?_
    · intro p hp
      rw [List.mem_singleton.mp hp]; exact Nat.ne_of_gt e2.2.2.1
    · rw [dueR, if_pos c1]
      exact hA2.grow.snoc ⟨D2, _, _, _, rfl, .head _⟩
    · rw [wideR, if_neg (fun h => h c2), List.append_nil]
      exact hB2.grow
    · intro e he
      rcases List.mem_cons.mp he with rfl | he
      · exact e2.1
      · exact htt e he
    · intro z; repeat (first | exact z | (rename (AllBare _ → AllBare _) => hb; first | (refine hb ?_; clear hb) | clear hb))
  · rename Fr _ _ _ _ => F9
    rename News _ _ _ _ => N9
    rename_i c1 _ c2 _ D3 _ e3 _
    simp only [List.push_toArray] at N9
    refine StepW.next ((Dw, W.listOf (ws ++ [Value.ref D3]).toArray (kw + 1)) :: (Dd, W.listOf ds.toArray kd) :: (dBase w Dg p1 p2 p3 gvs kg ++ ([(D3, _)] ++ tt))) F9 N9 (.tail _ (.tail _ (.tail _ (.head _)))) (sub_1 hb) (neI hn ?_)
      ⟨_, _, _, _, _, _, pin_self ⟨rfl, rfl, rfl, rfl, rfl, rfl, rfl, rfl, rfl, trivial⟩, rfl, ?_, ?_, ?_⟩ ?_
    · intro p hp
      rw [List.mem_singleton.mp hp]; exact Nat.ne_of_gt e3.2.2.1
    · rw [dueR, if_neg c1, List.append_nil]
      exact hA2.grow
    · rw [wideR, if_pos c2]
      exact hB2.grow.snoc ⟨D3, _, _, _, rfl, .head _⟩
    · intro e he
      rcases List.mem_cons.mp he with rfl | he
      · exact e3.1
      · exact htt e he
    · intro z; repeat (first | exact z | (rename (AllBare _ → AllBare _) => hb; first | (refine hb ?_; clear hb) | clear hb))
  · rename_i c1 _ c2
    refine StepW.next ((Dw, W.listOf ws.toArray kw) :: (Dd, W.listOf ds.toArray kd) :: (dBase w Dg p1 p2 p3 gvs kg ++ tt)) F6 N6 (.tail _ (.tail _ (.head _))) (sub_0 hb) hn
      ⟨_, _, _, _, _, _, pin_self ⟨rfl, rfl, rfl, rfl, rfl, rfl, rfl, rfl, rfl, trivial⟩, rfl, ?_, ?_, htt⟩ ?_
    · rw [dueR, if_neg c1, List.append_nil]
      exact hA2
    · rw [wideR, if_neg (fun h => h c2), List.append_nil]
      exact hB2
    · intro z; repeat (first | exact z | (rename (AllBare _ → AllBare _) => hb; first | (refine hb ?_; clear hb) | clear hb))
theorem phaseD {w : World} {mean : ExcName → Option Value} {mg mb : Str → Option Value} {s : Shared} {Q : Flow → Shared → Prop} {g : Heap} {L f Dw Dd Dg : Addr} {cd : Value} {m : Str → Option Value} {p1 p2 p3 : WP} {gvs : List Value} {kg : Nat} {ln : List Nat} {gaps : List Int} {total most : Int} {t1 t2 tl : Tok} {ws1 ws2 ws3 : Str} {sc : Scope} {bd bd19 : List Stmt} (hsc : sc = lawScope) (hbd : bd = lawBody.drop 18) (hbd19 : bd19 = lawBody.drop 19)
    (F : Fr g L s.heap (pinM (dL Dw Dd Dg p1 p2 p3 ⟨ln.toArray⟩ total most t1 t2 tl) m)) (N : News g L s.heap ((Dw, W.listOf #[] 0) :: (Dd, W.listOf #[] 0) :: dBase w Dg p1 p2 p3 gvs kg)) (T : Top hd.view_39 (looseW hd.view_39 [Str.ofString "Whitespace"]) mean mg mb g) (X : (hd.heap_39 w.params).In g)
    (hi : IntsAre gvs gaps) (hp1 : p1.Ok ws1) (hp2 : p2.Ok ws2) (hp3 : p3.Ok ws3) (l1 : @LT.lt Nat _ Dg p1.dx) (l2 : @LT.lt Nat _ p1.an p2.dx) (l3 : @LT.lt Nat _ p2.an p3.dx) (l4 : @LT.lt Nat _ p3.an Dd) (l5 : @LT.lt Nat _ Dd Dw)
    (h5 : 5 ≤ most) (h7 : most ≤ 7) (hln : ln.length ≤ 7) (hbn : BinL ln) (hgb : ∀ a ∈ gaps, 1 ≤ a ∧ a ≤ 6) (hgl : gaps.length ≤ 42)
    (next : ∀ m₁ h' tk g' n₁, dJ w Dw Dd Dg p1 p2 p3 gvs kg ln gaps total most t1 t2 tl (most + 1).toNat m₁ n₁ → Fr g L h' m₁ → News g L h' n₁ → (AllBare s.gens → AllBare g') →
      wpAny (model Challenge.rw_rl0081_01.row.prog w) (callerA.deeper (lawEnv sc L f cd)) (execs bd19 (lawEnv sc L f cd)) Q NoE ⟨h', g', s.drawn, tk, s.os⟩) :
    wpAny (model Challenge.rw_rl0081_01.row.prog w) (callerA.deeper (lawEnv sc L f cd)) (execs bd (lawEnv sc L f cd)) Q NoE s := by
  conv at hsc => rhs; whnf
  conv at hbd => rhs; whnf
  conv at hbd19 => rhs; whnf
  subst hsc hbd hbd19
  revert X
  k_fill
  intro X
  have F0 := F
  have N0 := N
  dsimp only [dL, pinM] at F
  have hlen := hi.length
  have ho : 0 ≤ (total.fdiv 6).fmod 4096 ∧ (total.fdiv 6).fmod 4096 < 4096 := ⟨Int.fmod_nonneg_of_pos _ (by decide), Int.fmod_lt_of_pos _ (by decide)⟩
  have hown : ∀ e ∈ p3.own w ++ (p2.own w ++ p1.own w), @LT.lt Nat _ e.1 Dd := fun e he => by
    have q1 : @LT.lt Nat _ p1.dx p1.x := hp1.l1
    have q2 : @LT.lt Nat _ p1.x p1.at' := hp1.l2
    have q3 : @LT.lt Nat _ p1.at' p1.an := hp1.l3
    have q4 : @LT.lt Nat _ p2.dx p2.x := hp2.l1
    have q5 : @LT.lt Nat _ p2.x p2.at' := hp2.l2
    have q6 : @LT.lt Nat _ p2.at' p2.an := hp2.l3
    have q7 : @LT.lt Nat _ p3.dx p3.x := hp3.l1
    have q8 : @LT.lt Nat _ p3.x p3.at' := hp3.l2
    have q9 : @LT.lt Nat _ p3.at' p3.an := hp3.l3
    rcases List.mem_append.mp he with he | he
    · have := own_le hp3 e he; omega
    · rcases List.mem_append.mp he with he | he
      · have := own_le hp2 e he; omega
      · have := own_le hp1 e he; omega
  have hDg : @LT.lt Nat _ Dg Dd := by
    have q1 : @LT.lt Nat _ p1.dx p1.x := hp1.l1
    have q2 : @LT.lt Nat _ p1.x p1.at' := hp1.l2
    have q3 : @LT.lt Nat _ p1.at' p1.an := hp1.l3
    have q4 : @LT.lt Nat _ p2.dx p2.x := hp2.l1
    have q5 : @LT.lt Nat _ p2.x p2.at' := hp2.l2
    have q6 : @LT.lt Nat _ p2.at' p2.an := hp2.l3
    have q7 : @LT.lt Nat _ p3.dx p3.x := hp3.l1
    have q8 : @LT.lt Nat _ p3.x p3.at' := hp3.l2
    have q9 : @LT.lt Nat _ p3.at' p3.an := hp3.l3
    omega
  clear hp1 hp2 hp3 l1 l2 l3 l4
  replace N : News g L s.heap ((Dw, W.listOf #[] 0) :: (Dd, W.listOf #[] 0) :: (Dg, W.listOf gvs.toArray kg) :: (p3.own w ++ (p2.own w ++ p1.own w))) := fun e he => N e (base_0 e he)
  have hOwn : OwnOff (p3.own w ++ (p2.own w ++ p1.own w)) [Dw, Dd] := fun e he b hb => by
    have := hown e he
    rcases List.mem_cons.mp hb with rfl | hb
    · exact Nat.ne_of_lt (Nat.lt_trans this l5)
    · rw [List.mem_singleton.mp hb]; exact Nat.ne_of_lt this
  have hsb := fun tt => base_of (G := (Dg, W.listOf gvs.toArray kg)) (tt := tt) (P := p3.own w) (Q := p2.own w) (R := p1.own w)
  have hst := fun A B I tt => base_to (A := A) (B := B) (I := I) (G := (Dg, W.listOf gvs.toArray kg)) (tt := tt) (P := p3.own w) (Q := p2.own w) (R := p1.own w)
  have hs1 := fun A B => base_1 (A := A) (B := B) (G := (Dg, W.listOf gvs.toArray kg)) (P := p3.own w) (Q := p2.own w) (R := p1.own w)
  generalize p3.own w ++ (p2.own w ++ p1.own w) = own at N hown hOwn hsb hst hs1
  k_steps
  refine For_W ?_
  k_steps
  rename Fr _ _ _ _ => F1
  rename News _ _ _ _ => Nw
  have N1 : News g L _ ((Dw, W.listOf #[] 0) :: (Dd, W.listOf #[] 0) :: dBase w Dg p1 p2 p3 gvs kg) := fun e he => Nw e (hs1 _ _ e he)
  refine iterW_range (J := dJ w Dw Dd Dg p1 p2 p3 gvs kg ln gaps total most t1 t2 tl) rfl rfl rfl (by assumption) (rng_small (by omega) (by omega) (by omega) (by omega)) (rng_size _ _) F1 N1 ?_ ?_ ?_
  · exact ⟨[], [], 0, 0, [], m, rfl, by rw [List.append_nil], .nil, .nil, fun _ h => nomatch h⟩
  · rintro i t m₁ news₁ h tk g' oI I hI hb1 hi1 ⟨ds, ws, kd, kw, tt, m₂, rfl, rfl, hA2, hB2, htt⟩ hn F2 N3
    have hi8 : i < 8 := by omega
    have hdl : ds.length ≤ 8 := by have := hA2.len; have := dueR_len ln gaps i; omega
    have hwl : ws.length ≤ 8 := by have := hB2.len; have := wideR_len ln gaps most i; omega
    dsimp only [dL, pinM] at F2
    clear N1 F1 F
    have hOff : OwnOff (own ++ tt) [Dw, Dd] := fun e he b hb => (List.mem_append.mp he).elim (fun he => hOwn e he b hb) fun he => by
      have := htt e he
      rcases List.mem_cons.mp hb with rfl | hb
      · exact Nat.ne_of_gt this
      · rw [List.mem_singleton.mp hb]; exact Nat.ne_of_gt (Nat.lt_trans l5 this)
    have N4 : News g L h ((Dw, W.listOf ws.toArray kw) :: (Dd, W.listOf ds.toArray kd) :: (I, oI) :: (Dg, W.listOf gvs.toArray kg) :: (own ++ tt)) := fun e he => N3 e (hst _ _ _ _ e he)
    have hb := hsb tt
    clear N3 hOwn hown hst hsb hs1 Nw N0
    generalize own ++ tt = rest at N4 hOff hb
    have hI1 := ltN (hI _ (.head _))
    dsimp only at hI1
    k_steps
    refine' times81K (by k_asm) (by k_asm) (by k_asm) (by k_asm) (by decide +kernel) (by decide +kernel) (by assumption) (by assumption) (by omega) (by omega) (by assumption) ?_; intro _ _ _ _ _ _ _
    k_steps
    refine For_W ?_
    k_steps
    · rename Fr _ _ _ _ => F5
      rename News _ _ _ _ => N5
      refine' iterW_list (vs := gvs) (J := cpJ Dw Dd Dg p1 p2 p3 ⟨ln.toArray⟩ total most t1 t2 tl gaps (tmF ln (1 + (i : Int))) (1 + (i : Int)) ?tt ?ts ?nw) rfl rfl rfl F5 N5 ⟨_, _, pin_self ⟨rfl, rfl, rfl, rfl, rfl, rfl, rfl, rfl, rfl, rfl, rfl, rfl, trivial⟩, rfl, Int.le_refl _, Int.le_refl _⟩ (.inr ⟨kg, ?_⟩) ?_ ?_
      · rintro j m₁ news₁ ⟨tc, m₃, rfl, rfl, _⟩
        k_mem
      · rintro j v m₁ news₁ h tk g5 oI2 I2 hI2 hb5 hv ⟨tc, m₃, rfl, rfl, hc0, hc1⟩ hn5 F6 N6
        obtain ⟨gv, tg, rfl, hgv⟩ := IntsAre.at hi j v hv
        exact colR rfl rfl T X (by omega) (by omega) hgv (hgb gv (List.mem_of_getElem? hgv)) (by have := (List.getElem?_eq_some_iff.mp hgv).1; omega) hc0 hc1 F6 N6 hn5
      · rintro m₁ news₁ h tk g5 hb5 ⟨tc, m₃, rfl, rfl, hc0, hc1⟩ F6 N6
        clear F5 N5
        have ht : gaps.take gvs.length = gaps := by rw [hlen, List.take_length]
        rw [ht] at F6
        dsimp only
        refine wpAny_mono (duesT rfl rfl T X h5 h7 hi8 hdl hwl l5 hDg hI1 hA2 hB2 htt hOff hb hn F6 N6) (fun _ _ z => StepW.up z rfl rfl ?_) fun _ _ e => e
        intro z; repeat (first | exact z | (rename (AllBare _ → AllBare _) => hb; first | (refine hb ?_; clear hb) | clear hb))
  · rintro m₁ news₁ h tk g5 hb5 hJ F6 N6
    have e : (most + 2 - 1).toNat = (most + 1).toNat := by omega
    rw [e] at hJ
    exact next m₁ h tk g5 news₁ hJ F6 N6 hb5
end
end Mine81
namespace Mine81
section
section
open LCg (NsObj Off3 Off1 lst ns_obj lst_snoc fr_but news_but)
variable {prog : Program} {w : World} {A : Around} {s : Shared} {env : Env} {h₀ : Heap} {L : Addr} {m : Str → Option Value}
noncomputable def swapR (r : Int × Int × Int) : Int × Int × Int := (r.1, r.2.2, r.2.1)
noncomputable abbrev comp3 (elt iter : Expr) (x y z : Str) (px py pz tp : Pos) (tk : Nat) (scope : Scope) (pos : Pos) : Expr := .ListComp elt [⟨.Tuple [.Name x px, .Name y py, .Name z pz] tk tp, iter, [], 0⟩] scope pos
noncomputable def SwR (h₀ : Heap) (L : Addr) (m : Str → Option Value) (s₁ : Shared) (all : List (Addr × Obj)) (I C D : Addr) (a b c : Int) (v : Value) (s' : Shared) : Prop :=
  ∃ T t1 t2 t3 h' tk', v = .ref T ∧ s' = ⟨h', s₁.gens, s₁.drawn, tk', s₁.os⟩ ∧ Fr h₀ L h' m ∧ News h₀ L h' ((T, tup3 a b c t1 t2 t3) :: all) ∧ (@LT.lt Nat _ I T ∧ @LT.lt Nat _ C T ∧ @LT.lt Nat _ D T)
noncomputable def Src3 (prog : Program) (w : World) (A : Around) (h₀ : Heap) (L : Addr) (m : Str → Option Value) (env : Env) (elt : Expr) (x y z : Str) (scope : Scope) (cl : List (Str × Addr)) (Q : Value → Shared → Prop) (xv : Value) (s₁ : Shared) : Prop :=
  ∃ ax vs kk news rows tt, xv = .ref ax ∧ Fr h₀ L s₁.heap m ∧ News h₀ L s₁.heap news ∧ (ax, W.listOf vs.toArray kk) ∈ news ∧ All2 (TupV tt) vs rows ∧ (∀ e ∈ tt, e ∈ news) ∧ rows.length ≤ 50 ∧
    (∀ a b c ta tb tc I oI C oC D ys nw m₂ h tk, NsObj oC m₂ → m₂ x = some (.int a ta) → m₂ y = some (.int b tb) → m₂ z = some (.int c tc) → Fr h₀ L h m → News h₀ L h ((I, oI) :: (C, oC) :: (D, lst ys) :: nw) → ((@Ne Nat I C) ∧ (@Ne Nat I D) ∧ (@Ne Nat C D)) →
      wpAny (model prog w) A (eval elt (compEnvC scope cl C env)) (SwR h₀ L m s₁ ((I, oI) :: (C, oC) :: (D, lst ys) :: nw) I C D a c b) NoE ⟨h, s₁.gens, s₁.drawn, tk, s₁.os⟩) ∧
    ∀ D h tk ys tl, All2 (TupV tl) ys (rows.map swapR) → Fr h₀ L h m → News h₀ L h ((D, lst ys) :: (tl ++ news)) → Q (.ref D) ⟨h, s₁.gens, s₁.drawn, tk, s₁.os⟩
theorem All2.at {α β : Type} {P : α → β → Prop} : ∀ {l : List α} {m : List β} (i : Nat) (a : α), All2 P l m → l[i]? = some a → ∃ b, m[i]? = some b ∧ P a b
  | _, _, _, _, .nil, h => by simp at h
  | _, _, 0, _, .cons x _, h => by simp at h; subst h; exact ⟨_, rfl, x⟩
  | _, _, i + 1, a, .cons _ y, h => by simp at h; simpa using All2.at i a y h
theorem Comp3 {elt iter : Expr} {x y z : Str} {px py pz tp pos : Pos} {tk : Nat} {scope : Scope} {cl : List (Str × Addr)} {Q : Value → Shared → Prop} (hh : A.handled = none) (F₀ : Fr h₀ L s.heap m)
    (hclos : closureFor scope env = pure cl) (hcell : ∀ z ∈ scope.names, z.2 ≠ .cell) (hkind : scope.kind = .function)
    (hnames : ∀ z ∈ scope.names, z.2 = .local → scope.names.lookup z.1 = some .local) (hx : scope.names.lookup x = some .local) (hy : scope.names.lookup y = some .local) (hz : scope.names.lookup z = some .local) (hxy : x ≠ y) (hxz : x ≠ z) (hyz : y ≠ z)
    (h : wpAny (model prog w) A (eval iter env) (Src3 prog w A h₀ L m env elt x y z scope cl Q) NoE s)
    (hs : ∀ x, foldedSetIterable iter env x = pure x := by intro _; rfl) :
    wpAny (model prog w) A (eval (comp3 elt iter x y z px py pz tp tk scope pos) env) Q NoE s := by
  unfold comp3
  rw [eval_ListComp]
  refine wpAny_comprehension_free (use := none) rfl hs hclos hkind hnames (wpAny_mono h (fun xv s₁ h₁ => ?_) fun _ _ e => e)
  obtain ⟨ax, vs, kk, news, rows, tt, rfl, F, N, hm, hA, htt, hlen, turn, fin⟩ := h₁
  have hl : s₁.heap.IsList ax vs.toArray := News.isList N hm
  have hlt : ax < s₁.heap.objs.size := by obtain ⟨_, e, _⟩ := hl; exact Heap.lt_size e
  refine wpAny_pyIter_list hl ?_
  generalize hH1 : s₁.heap.push { cls := .type "list_iterator", data := .fields #[.ref ax, .int 0 0] } = H1
  have k1 : ∀ b o, s₁.heap.get? b = some o → H1.get? b = some o := fun b o e => by rw [← hH1]; exact Heap.get?_push_of_some _ e
  have hI1 : H1.IsListIter s₁.heap.objs.size ax 0 := by rw [← hH1]; exact ⟨_, Heap.get?_push_size _ rfl, rfl, rfl⟩
  have hs1 : H1.objs.size = s₁.heap.objs.size + 1 := by rw [← hH1, Heap.size_push]
  have hI0 := next_is_new F
  have hIL : s₁.heap.objs.size ≠ L := Nat.ne_of_gt F.ns.lt
  refine wpAny_newObj_type (wpAny_newFunctionEnv hcell (by intro y hy; simp at hy) (fun h₁ hns₁ hsb₁ => ?_) hkind)
  dsimp only at hns₁ hsb₁ ⊢
  generalize hH2 : H1.push { cls := .type "list", dict := none, data := .seq ([] : List Value).toArray } = H2 at hns₁ hsb₁ ⊢
  have hC : H2.objs.size = H1.objs.size + 1 := by rw [← hH2, Heap.size_push]
  generalize hCe : H2.objs.size = C at hns₁ hsb₁ hC ⊢
  generalize hIe : s₁.heap.objs.size = I at hI1 hs1 hI0 hIL ⊢
  generalize hDe : H1.objs.size = D at hC hs1 ⊢
  have ltI : ∀ b o, s₁.heap.get? b = some o → @LT.lt Nat _ b I := fun b o e => by have := Heap.lt_size e; rw [hIe] at this; exact this
  have hLI : @LT.lt Nat _ L I := by have := F.ns.lt; rw [hIe] at this; exact this
  have k2 : ∀ b o, H1.get? b = some o → h₁.get? b = some o := fun b o e => by
    have hb : @LT.lt Nat _ b D := by have := Heap.lt_size e; rw [hDe] at this; exact this
    exact hsb₁.extBut b o (Nat.ne_of_lt (by omega)) (Heap.get?_push_of_some _ (hH2 ▸ Heap.get?_push_of_some _ e))
  have k12 : ∀ b o, s₁.heap.get? b = some o → h₁.get? b = some o := fun b o e => k2 b o (k1 b o e)
  have hD1 : h₁.get? D = some (lst []) := hsb₁.extBut D _ (Nat.ne_of_lt (by omega)) (Heap.get?_push_of_some _ (by rw [← hH2, ← hDe]; exact Heap.get?_push_size _ rfl))
  have h0none : ∀ a : Nat, I ≤ a → h₀.get? a = none := fun a ha => by
    cases q : h₀.get? a with
    | none => rfl
    | some o => exact absurd (ltI a o (F.keep a o q)) (Nat.not_lt.mpr ha)
  have hIC : I ≠ C := by omega
  have hID : I ≠ D := by omega
  have hCD : C ≠ D := by omega
  have hCL : C ≠ L := by intro q; rw [q] at hC; omega
  have hDL : D ≠ L := by intro q; rw [q] at hs1; omega
  have off3 : ∀ e ∈ news, @Ne Nat e.1 I ∧ @Ne Nat e.1 C ∧ @Ne Nat e.1 D := fun e he => by
    have hb : @LT.lt Nat _ e.1 I := ltI _ _ (N e he).1
    exact ⟨Nat.ne_of_lt hb, Nat.ne_of_lt (by omega), Nat.ne_of_lt (by omega)⟩
  have F1 : Fr h₀ L h₁ m := Fr.keeps' F k12
  have N1 : News h₀ L h₁ ((D, lst []) :: ([] ++ news)) := fun e he => by
    rcases List.mem_cons.mp he with rfl | he
    · exact ⟨hD1, hDL, h0none D (by omega)⟩
    · exact ⟨k12 _ _ (N e he).1, (N e he).2⟩
  have hIt : h₁.IsListIter I ax 0 := hI1.at fun o e => k2 I o e
  have hneI : ax ≠ I := Nat.ne_of_lt (by rw [← hIe]; exact hlt)
  have loop : codeAny (model prog w) A (.compLoop (comp3 elt iter x y z px py pz tp tk scope pos) 0 (.ref I) (.ref D) (compEnvC scope cl C env))
      (compPost (model prog w) A NoE none Q (.ref D) C) ⟨h₁, s₁.gens, s₁.drawn, s₁.toks, s₁.os⟩ := by
    refine LCp.codeAny_compLoop_pair (fun n s' => ∃ h' tk' i ys m' tl, s' = ⟨h', s₁.gens, s₁.drawn, tk', s₁.os⟩ ∧ i ≤ rows.length ∧ n = rows.length + 1 - i ∧ All2 (TupV tl) ys ((rows.take i).map swapR) ∧ h'.IsListIter I ax i ∧ Fr h₀ L h' m ∧ h'.Ns C m' ∧ News h₀ L h' ((D, lst ys) :: (tl ++ news)) ∧ (∀ e ∈ tl, @Ne Nat e.1 I ∧ @Ne Nat e.1 C ∧ @Ne Nat e.1 D)) ?_ (rows.length + 1)
      ⟨h₁, _, 0, [], _, [], rfl, Nat.zero_le _, rfl, .nil, hIt, F1, hns₁, N1, fun _ h => nomatch h⟩
    rintro n s' ⟨h', tk', i, ys, m', tl, rfl, hin, rfl, hys, hit, F', hC', N', htl⟩
    have W := Walks.list (prog := prog) (w := w) hh I ax hneI vs.toArray
    have hvl : vs.toArray.size = rows.length := by simp [hA.len]
    have hl' : h'.IsList ax vs.toArray := News.isList N' (.tail _ (List.mem_append_right _ hm))
    have hit' : h'.IsListIter I ax i ∧ h'.IsList ax vs.toArray := ⟨hit, hl'⟩
    have offA : ∀ e ∈ tl ++ news, @Ne Nat e.1 I ∧ @Ne Nat e.1 C ∧ @Ne Nat e.1 D := fun e he => (List.mem_append.mp he).elim (htl e) (off3 e)
    by_cases hlt' : i < rows.length
    · refine noteNo (W.item i _ _ _ (by rw [hvl]; exact hlt') hit' fun v h2 tk2 hv hst2 hk2 => ?_)
      obtain ⟨r, hr, aT, u1, u2, u3, rfl, hmT⟩ := All2.at i v hA (by simpa using hv)
      have kb : ∀ b o, b ≠ I → h'.get? b = some o → h2.get? b = some o := fun b o hb e => hk2 b o (by simpa using hb) e
      have hTm := N' _ (.tail _ (List.mem_append_right _ (htt _ hmT)))
      have hT2 : h2.get? aT = some (tup3 r.1 r.2.1 r.2.2 u1 u2 u3) := kb _ _ (off3 _ (htt _ hmT)).1 hTm.1
      dsimp only
      refine noteNo (wpAny_letOwnedTupleGo_listiter hst2.1 ?_)
      refine noteNo (assign_Tuple_tuple hh (items := #[.int r.1 u1, .int r.2.1 u2, .int r.2.2 u3]) ⟨_, hT2, rfl, _, rfl⟩ rfl rfl fun h3 he => ?_)
      have he' : ∀ b o, h2.get? b = some o → h3.get? b = some o := fun b o e => he b o (Nat.ne_of_lt (Heap.lt_size e)) e
      refine assignInOrder_cons (wpAny_assign_Name (wpAny_storeName_local (lookup_relabel_local hx) ((hC'.at' fun o e => kb _ o hIC.symm e).at' fun o e => he' _ o e) (fun h4 hn4 hs4 => ?_) (by simp [compEnvC, relabel, hkind])))
      refine assignInOrder_cons (wpAny_assign_Name (wpAny_storeName_local (lookup_relabel_local hy) hn4 (fun h5 hn5 hs5 => ?_) (by simp [compEnvC, relabel, hkind])))
      refine assignInOrder_cons (wpAny_assign_Name (wpAny_storeName_local (lookup_relabel_local hz) hn5 (fun h6 hn6 hs6 => ?_) (by simp [compEnvC, relabel, hkind])))
      refine assignInOrder_nil (noteNo ?_)
      have kc2 : ∀ b o, b ≠ C → h2.get? b = some o → h6.get? b = some o := fun b o hb e => hs6.extBut b o hb (hs5.extBut b o hb (hs4.extBut b o hb (he' b o e)))
      have kc : ∀ b o, b ≠ I → b ≠ C → h'.get? b = some o → h6.get? b = some o := fun b o h1 h2 e => kc2 b o h2 (kb b o h1 e)
      have F6 : Fr h₀ L h6 m := ⟨F'.ns.at' fun o e => kc _ o (fun q => hIL q.symm) (fun q => hCL q.symm) e, fun b o e => kc b o (fun q => by rw [q, hI0] at e; cases e) (fun q => by rw [q, h0none C (by omega)] at e; cases e) (F'.keep b o e), F'.above⟩
      obtain ⟨oC, hoC, hNC⟩ := ns_obj hn6
      have hst6 : h6.IsListIter I ax (i + 1) := hst2.1.at fun o e => kc2 I o hIC e
      obtain ⟨oI, hoI, hoI2⟩ := id hst6
      have N6 : News h₀ L h6 ((I, oI) :: (C, oC) :: (D, lst ys) :: (tl ++ news)) := fun e he => by
        rcases List.mem_cons.mp he with rfl | he
        · exact ⟨hoI, hIL, hI0⟩
        · rcases List.mem_cons.mp he with rfl | he
          · exact ⟨hoC, hCL, h0none C (by omega)⟩
          · have z := N' e he
            refine ⟨kc _ _ ?_ ?_ z.1, z.2⟩
            · rcases List.mem_cons.mp he with rfl | he
              · exact hID.symm
              · exact (offA e he).1
            · rcases List.mem_cons.mp he with rfl | he
              · exact hCD.symm
              · exact (offA e he).2.1
      refine wpAny_mono (turn r.1 r.2.1 r.2.2 u1 u2 u3 I oI C oC D ys (tl ++ news) _ h6 _ hNC (by simp [hxy, hxz]) (by simp [hyz]) (by simp) F6 N6 ⟨hIC, hID, hCD⟩) (fun v s4 h4 => ?_) fun _ _ e => e.elim
      obtain ⟨T, v1, v2, v3, h7, tk7, rfl, rfl, F7, N7, hT1, hT2', hT3⟩ := h4
      have hyl : ys.length ≤ 50 := by have := hys.len; simp at this; omega
      refine noteNo (append_at (hsz := by rw [List.size_toArray, sizeLine_eq]; omega) (N7 _ (.tail _ (.tail _ (.tail _ (.head _))))).1 fun h8 hs8 hD8 => ?_)
      have kd : ∀ b o, b ≠ D → h7.get? b = some o → h8.get? b = some o := fun b o hb e => hs8.extBut b o hb e
      refine ⟨rows.length + 1 - (i + 1), by omega, h8, tk7, i + 1, ys ++ [.ref T], _, (T, tup3 r.1 r.2.2 r.2.1 v1 v2 v3) :: tl, rfl, hlt', rfl, ?_, ⟨oI, kd _ _ hID (N7 _ (.tail _ (.head _))).1, hoI2⟩, F7.change hs8 hDL (h0none D (by omega)), (hNC.ns (N7 _ (.tail _ (.tail _ (.head _)))).1).sameBut hs8 hCD, fun e he => ?_, fun e he => ?_⟩
      · rw [List.take_add_one, hr]
        simp only [Option.toList_some, List.map_append, List.map_cons, List.map_nil]
        exact (hys.mono fun _ _ ⟨a, t1, t2, t3, e, hm⟩ => ⟨a, t1, t2, t3, e, List.mem_cons_of_mem _ hm⟩).snoc ⟨T, _, _, _, rfl, List.mem_cons_self⟩
      · rcases List.mem_cons.mp he with rfl | he
        · exact ⟨hD8.trans (congrArg some (lst_snoc ys _)), hDL, h0none D (by omega)⟩
        · rcases List.mem_cons.mp he with rfl | he
          · have z := N7 _ (.head _)
            exact ⟨kd _ _ (Nat.ne_of_gt hT3) z.1, z.2⟩
          · have z := N7 e (.tail _ (.tail _ (.tail _ (.tail _ he))))
            exact ⟨kd _ _ (offA e he).2.2 z.1, z.2⟩
      · rcases List.mem_cons.mp he with rfl | he
        · exact ⟨Nat.ne_of_gt hT1, Nat.ne_of_gt hT2', Nat.ne_of_gt hT3⟩
        · exact htl e he
    · have hin' : i = rows.length := by omega
      subst hin'
      refine noteNo (W.done _ _ _ (by rw [hvl]; exact hit') fun h2 tk2 hk2 => ?_)
      have kb : ∀ b o, b ≠ I → h'.get? b = some o → h2.get? b = some o := fun b o hb e => hk2 b o (by simpa using hb) e
      have F2 : Fr h₀ L h2 m := fr_but F' hk2 (fun q => hIL q.symm) hI0
      refine ⟨m', hC'.at' fun o e => kb _ o hIC.symm e, fun h'' hs'' => fin D h'' _ ys tl (by rw [List.take_length] at hys; exact hys) (F2.change hs'' hCL (h0none C (by omega))) (fun e he => ?_)⟩
      have z := N' e he
      refine ⟨hs''.extBut _ _ ?_ (kb _ _ ?_ z.1), z.2⟩
      · rcases List.mem_cons.mp he with rfl | he
        · exact hCD.symm
        · exact (offA e he).2.1
      · rcases List.mem_cons.mp he with rfl | he
        · exact hID.symm
        · exact (offA e he).1
  exact codeAny_compStart_list loop (Walks.self (Walks.list (prog := prog) (w := w) hh I ax hneI vs.toArray) 0 _ _ _ ⟨hIt, hl.at fun o e => k12 ax o e⟩ loop)
end
end
end Mine81
namespace Mine81
section
local macro_rules | `(tactic| walk_at "zz") => `(tactic| skip)
/-- the places of a line's tabs -/
noncomputable def tabsFrom : Int → List Nat → List Int
  | _, [] => []
  | k, c :: r => if c = 9 then k :: tabsFrom (k + 1) r else tabsFrom (k + 1) r
noncomputable def L1F (gaps : List Int) : Str := Txt.join (Str.ofString "") (gaps.map sgn1) ++ Str.ofString "x"
noncomputable def L2F (gaps : List Int) : Str := Txt.join (Str.ofString "") (gaps.map sgn0) ++ Str.ofString "x"
noncomputable def L3F (gaps : List Int) (most : Int) : Str := Txt.join (Str.ofString "") (gaps.map sgn0) ++ Txt.mul (Str.ofString " ") most ++ Str.ofString "x"
noncomputable def lineOk (most : Int) (ln : List Nat) : Bool :=
  let gaps := gapsF (tabsFrom 1 ln)
  let s1 := wOf (L1F gaps)
  let s2 := wOf (L2F gaps)
  let s3 := wOf (L3F gaps most)
  let wide := wideR ln gaps most (most + 1).toNat
  decide (longF s1 ≤ 50) && (decide (longF s2 ≤ 50) && (decide (longF s3 ≤ 50) &&
  (decide (neRows s1 s3 (neN s1 s3).toNat = wide) && (decide (neRows s3 s1 (neN s3 s1).toNat = wide.map swapR) && decide (neRows s1 s2 (neN s1 s2).toNat = dueR ln gaps (most + 1).toNat)))))
theorem lines5 : (bins 5).all (lineOk 5) = true := by decide +kernel
theorem lines6a : ((bins 6).take 32).all (lineOk 6) = true := by decide +kernel
theorem lines6b : ((bins 6).drop 32).all (lineOk 6) = true := by decide +kernel
theorem lines6 : (bins 6).all (lineOk 6) = true := all_cut 32 lines6a lines6b
theorem lines7a : ((bins 7).take 32).all (lineOk 7) = true := by decide +kernel
theorem lines7b : (((bins 7).drop 32).take 32).all (lineOk 7) = true := by decide +kernel
theorem lines7c : ((((bins 7).drop 32).drop 32).take 32).all (lineOk 7) = true := by decide +kernel
theorem lines7d : ((((bins 7).drop 32).drop 32).drop 32).all (lineOk 7) = true := by decide +kernel
theorem lines7 : (bins 7).all (lineOk 7) = true := all_cut 32 lines7a (all_cut 32 lines7b (all_cut 32 lines7c lines7d))
end
end Mine81
namespace Mine81
section
local macro_rules | `(tactic| walk_at "zz") => `(tactic| skip)
local macro_rules | `(tactic| walk_at "zz") => `(tactic| skip)
section
variable {prog : Program} {w : World} {A : Around} {E : Value → Shared → Prop} {s : Shared} {h₀ : Heap} {L D1 D2 : Addr} {news t1 t2 : List (Addr × Obj)} {v1 v2 : List Value} {k1 k2 : Nat} {rows : List (Int × Int × Int)} {Q : Value → Shared → Prop}
noncomputable def rowD (r : Int × Int × Int) : PyData := .tuple [.int r.1, .int r.2.1, .int r.2.2]
theorem rows_reads {h : Heap} {tt : List (Addr × Obj)} (ht : ∀ e ∈ tt, h.get? e.1 = some e.2) : ∀ {vs : List Value} {rows : List (Int × Int × Int)}, All2 (TupV tt) vs rows → ReadsAll h vs (rows.map rowD) []
  | _, _, .nil => .nil
  | _, _, .cons (b := r0) ⟨a, u1, u2, u3, e, hm⟩ r => by
    subst e
    have h1 : ReadsAll h [Value.int r0.1 u1, Value.int r0.2.1 u2, Value.int r0.2.2 u3] [PyData.int r0.1, PyData.int r0.2.1, PyData.int r0.2.2] [] := .cons (.int _ _) (.cons (.int _ _) (.cons (.int _ _) .nil))
    exact .cons (as := []) (bs := []) (Reads.tuple (ht _ hm) rfl rfl h1) (rows_reads ht r)
theorem rows_can : ∀ rows : List (Int × Int × Int), PyData.canLayAll0 (rows.map rowD) = true
  | [] => by simp [PyData.canLayAll0]
  | r :: l => by simp [PyData.canLayAll0, rowD, PyData.canLay0, rows_can l]
theorem rows_depth : ∀ rows : List (Int × Int × Int), PyData.depthAll (rows.map rowD) ≤ 3
  | [] => by simp [PyData.depthAll]
  | r :: l => by
    have := rows_depth l
    simp only [List.map_cons, PyData.depthAll, rowD, PyData.depth]
    omega
theorem rows_can1 (rows : List (Int × Int × Int)) : PyData.canLay0 (.list (rows.map rowD)) = true := by simp only [PyData.canLay0]; exact rows_can rows
theorem rows_shaped (rows : List (Int × Int × Int)) : SeqAt.shaped (.list (rows.map rowD)) = true := by
  have h1 := rows_depth rows
  have h2 : PyData.depth (.list (rows.map rowD)) ≤ 64 := by simp only [PyData.depth]; omega
  show (PyData.canLay0 (.list (rows.map rowD)) && decide (PyData.depth (.list (rows.map rowD)) ≤ 64)) = true
  rw [Bool.and_eq_true]
  exact ⟨rows_can1 rows, decide_eq_true h2⟩
theorem rowsNe (N : News h₀ L s.heap news) (m1 : (D1, W.listOf v1.toArray k1) ∈ news) (m2 : (D2, W.listOf v2.toArray k2) ∈ news) (a1 : All2 (TupV t1) v1 rows) (a2 : All2 (TupV t2) v2 rows) (s1 : ∀ e ∈ t1, e ∈ news) (s2 : ∀ e ∈ t2, e ∈ news) (hu : A.units + 64 < cLine)
    (h : Q (.bool false) s) : wpAny (model prog w) A (compareOp .NotEq (.ref D1) (.ref D2)) Q E s :=
  ne_dataH (Reads.list (N _ m1).1 rfl rfl (by simpa using rows_reads (fun e he => (N e (s1 e he)).1) a1)) (Reads.list (N _ m2).1 rfl rfl (by simpa using rows_reads (fun e he => (N e (s2 e he)).1) a2)) (rows_shaped rows) (rows_shaped rows) hu (by rw [SeqAt.eqv_refl _ (rows_can1 rows)]; exact h)
theorem rowsEq (N : News h₀ L s.heap news) (m1 : (D1, W.listOf v1.toArray k1) ∈ news) (m2 : (D2, W.listOf v2.toArray k2) ∈ news) (a1 : All2 (TupV t1) v1 rows) (a2 : All2 (TupV t2) v2 rows) (s1 : ∀ e ∈ t1, e ∈ news) (s2 : ∀ e ∈ t2, e ∈ news) (hu : A.units + 64 < cLine)
    (h : Q (.bool true) s) : wpAny (model prog w) A (compareOp .Eq (.ref D1) (.ref D2)) Q E s :=
  eq_dataH (Reads.list (N _ m1).1 rfl rfl (by simpa using rows_reads (fun e he => (N e (s1 e he)).1) a1)) (Reads.list (N _ m2).1 rfl rfl (by simpa using rows_reads (fun e he => (N e (s2 e he)).1) a2)) (rows_shaped rows) (rows_shaped rows) hu (by rw [SeqAt.eqv_refl _ (rows_can1 rows)]; exact h)
end
local macro_rules
  | `(tactic| walk_at "call ref") => `(tactic| refine stop_ ?_)
  | `(tactic| walk_at "compareOp NotEq ref ref") => `(tactic| refine stop_ ?_)
  | `(tactic| walk_at "compareOp Eq ref ref") => `(tactic| refine stop_ ?_)
  | `(tactic| walk_at "eval ListComp") => `(tactic| refine stop_ ?_)
theorem phaseE {w : World} {mean : ExcName → Option Value} {mg mb : Str → Option Value} {s : Shared} {Q : Flow → Shared → Prop} {g : Heap} {L f Dw Dd Dg : Addr} {cd : Value} {m : Str → Option Value} {nn : List (Addr × Obj)} {p1 p2 p3 : WP} {gvs : List Value} {kg : Nat} {ln : List Nat} {gaps : List Int} {total most : Int} {t1 t2 tl : Tok} {ws1 ws2 ws3 : Str} {sc : Scope} {bd : List Stmt} (hsc : sc = lawScope) (hbd : bd = lawBody.drop 19)
    (F : Fr g L s.heap m) (N : News g L s.heap nn) (hJ : dJ w Dw Dd Dg p1 p2 p3 gvs kg ln gaps total most t1 t2 tl (most + 1).toNat m nn) (T : Top hd.view_39 (looseW hd.view_39 [Str.ofString "Whitespace"]) mean mg mb g) (X : (hd.heap_39 w.params).In g)
    (hp1 : p1.Ok ws1) (hp2 : p2.Ok ws2) (hp3 : p3.Ok ws3) (h5 : 5 ≤ most) (h7 : most ≤ 7)
    (hL1 : longF p1.σ ≤ 50) (hL2 : longF p2.σ ≤ 50) (hL3 : longF p3.σ ≤ 50)
    (h13 : neRows p1.σ p3.σ (neN p1.σ p3.σ).toNat = wideR ln gaps most (most + 1).toNat) (h31 : neRows p3.σ p1.σ (neN p3.σ p1.σ).toNat = (wideR ln gaps most (most + 1).toNat).map swapR) (h12 : neRows p1.σ p2.σ (neN p1.σ p2.σ).toNat = dueR ln gaps (most + 1).toNat)
    (hQ : ∀ h' tk g', (∀ b o, g.get? b = some o → h'.get? b = some o) → (AllBare s.gens → AllBare g') → Q (.ret (.bool true)) ⟨h', g', s.drawn, tk, s.os⟩) :
    wpAny (model Challenge.rw_rl0081_01.row.prog w) (callerA.deeper (lawEnv sc L f cd)) (execs bd (lawEnv sc L f cd)) Q NoE s := by
  conv at hsc => rhs; whnf
  conv at hbd => rhs; whnf
  subst hsc hbd
  revert X
  k_fill
  intro X
  obtain ⟨ds, ws, kd, kw, tt, m₁, rfl, rfl, hA2, hB2, htt⟩ := hJ
  dsimp only [dL, pinM] at F
  simp only [dBase, WP.own, List.cons_append, List.nil_append] at N
  have hWl : (wideR ln gaps most (most + 1).toNat).length ≤ 50 := by
    have := wideR_len ln gaps most (most + 1).toNat
    omega
  k_steps
  refine' ne81K (by k_asm) (by k_asm) (by k_asm) (by k_asm) (by assumption) (by assumption) (by assumption) (by assumption) (by dsimp only [WP.own]; kcj_all) (by dsimp only [WP.own]; kcj_all) (by decide +kernel) (by decide +kernel) ?_; intro _ _ _ _ _ _ _ _ _ N' _; (try simp only [List.cons_append, List.nil_append] at N')
  k_steps
  unfold StopW
  rename News _ _ _ _ => N9
  rename All2 _ _ _ => A9
  have hu : (callerA.units + 3) + 64 < cLine := by decide +kernel
  refine rowsNe N9 (.head _) (.tail _ (.head _)) (h13 ▸ A9) hB2 (fun e he => by simp [he]) (fun e he => by simp [he]) (by rw [units_deeper]; exact hu) ?_
  k_steps
  refine' ne81K (by k_asm) (by k_asm) (by k_asm) (by k_asm) (by assumption) (by assumption) (by assumption) (by assumption) (by dsimp only [WP.own]; kcj_all) (by dsimp only [WP.own]; kcj_all) (by decide +kernel) (by decide +kernel) ?_; intro _ _ _ _ _ _ _ _ _ N' _; (try simp only [List.cons_append, List.nil_append] at N')
  k_steps
  refine Comp3 rfl (F₀ := by k_asm) (by with_unfolding_all rfl) (by decide) (by rfl) (by decide) (by rfl) (by rfl) (by rfl) (by decide) (by decide) (by decide) ?_ (by intro _; rfl)
  k_steps
  rename News _ _ _ _ => N8
  rename Fr _ _ _ _ => F8
  refine ⟨Dw, ws, kw, _, wideR ln gaps most (most + 1).toNat, tt, rfl, F8, N8, .tail _ (.tail _ (.head _)), hB2, fun e he => by simp [he], hWl, ?_, ?_⟩
  · intro a b c ta tb tc I oI C oC D ys nw m₂ h tk nso x1 x2 x3 F4 N4 off
    k_steps
    rename Fr _ _ _ _ => F5
    rename News _ _ _ _ => N5
    rename _ ∧ _ ∧ _ ∧ AllLt _ _ => l5
    exact ⟨_, _, _, _, _, _, rfl, rfl, F5, N5, l5.1, l5.2.1, l5.2.2.1⟩
  · intro D h tk ys tl4 A4 F4 N4
    k_steps
    unfold StopW
    rename All2 _ _ (neRows p3.σ p1.σ _) => A8
    refine rowsNe N4 (.tail _ (List.mem_append_right _ (.head _))) (.head _) (h31 ▸ A8) A4 (fun e he => by simp [he]) (fun e he => by simp [he]) (by rw [units_deeper]; exact hu) ?_
    have N5 := (fun e he => N4 e (.tail _ (List.mem_append_right tl4 he)) : News g L h _)
    clear N4
    k_steps
    refine' ne81K (by k_asm) (by k_asm) (by k_asm) (by k_asm) (by assumption) (by assumption) (by assumption) (by assumption) (by dsimp only [WP.own]; kcj_all) (by dsimp only [WP.own]; kcj_all) (by decide +kernel) (by decide +kernel) ?_; intro _ _ _ _ _ _ _ _ _ N' _; (try simp only [List.cons_append, List.nil_append] at N')
    k_steps
    unfold StopW
    rename All2 _ _ (neRows p1.σ p2.σ _) => A7
    rename News _ _ h _ => N6
    rename News _ _ _ _ => N7
    refine rowsEq N7 (.head _) (.tail _ (.tail _ (.tail _ (.tail _ (.head _))))) (h12 ▸ A7) hA2 (fun e he => by simp [he]) (fun e he => by simp [he]) (by rw [units_deeper]; exact hu) ?_
    k_steps
    rename Fr _ _ _ _ => F9
    refine hQ _ _ _ F9.keep ?_
    intro z
    repeat (first | exact z | (rename (AllBare _ → AllBare _) => hb; first | (refine hb ?_; clear hb) | clear hb))
end
end Mine81
namespace Mine81
section
noncomputable def sumsF : Int → List Int → List Int
  | _, [] => []
  | a, x :: r => (a + x) :: sumsF (a + x) r
theorem sums_map : ∀ (ns : List Int) (a : Int), (List.range ns.length).map (fun i : Nat => a + (ns.take (i + 1)).sum) = sumsF a ns
  | [], _ => rfl
  | x :: r, a => by
    have ih := sums_map r (a + x)
    rw [List.length_cons, List.range_succ_eq_map, List.map_cons, List.map_map]
    unfold sumsF
    refine congr (congrArg List.cons ?_) ?_
    · simp
    · rw [← ih]
      refine List.map_congr_left fun i _ => ?_
      simp only [Function.comp, List.take_succ_cons, List.sum_cons]
      omega
theorem mk_sums (ns : List Int) : mkSums ns = sumsF 0 ns := by
  rw [← sums_map]
  unfold mkSums rangeKs
  rw [List.map_map]
  refine List.map_congr_left fun i _ => ?_
  have e : (0 + (i : Int) + 1).toNat = i + 1 := by omega
  simp only [Function.comp, e]
  omega
noncomputable def marksQ (row : List Int) (most : Int) : List Int := (sumsF 0 (mk0 most (mk127 row))).filter fun k => decide (k ≤ most)
theorem marks_Q (row : List Int) (most : Int) : marksF row most = marksQ row most := by unfold marksF marksQ; rw [mk_sums]
noncomputable def rowOk (most : Int) (ds : List Int) : Bool :=
  let row := ds ++ [2, 2, 1, 0]
  let ln := lineL row most
  (ln.length == most.toNat) && (ln.all (fun c => c == 32 || c == 9) && (decide (marksQ row most = tabsFrom 1 ln) && decide (row.head? ≠ some 0)))
noncomputable def menus : Nat → List (List Int)
  | 0 => [[]]
  | n + 1 => [] :: (menus n).flatMap fun l => [1 :: l, 2 :: l, 3 :: l, 4 :: l, 0 :: l, 127 :: l]
noncomputable def InMenu (x : Int) : Prop := x = 1 ∨ x = 2 ∨ x = 3 ∨ x = 4 ∨ x = 0 ∨ x = 127
theorem mem_menus : ∀ (n : Nat) (ds : List Int), ds.length ≤ n → (∀ x ∈ ds, InMenu x) → ds ∈ menus n
  | 0, ds, h, _ => by
    have : ds = [] := List.length_eq_zero_iff.mp (by omega)
    subst this
    exact List.mem_singleton.mpr rfl
  | n + 1, [], _, _ => List.mem_cons_self
  | n + 1, d :: r, h, hm => by
    refine List.mem_cons_of_mem _ (List.mem_flatMap.mpr ⟨r, mem_menus n r (by simpa using h) (fun x hx => hm x (List.mem_cons_of_mem _ hx)), ?_⟩)
    rcases hm d List.mem_cons_self with e | e | e | e | e | e <;> subst e <;> simp
theorem menu_in (n : Int) : InMenu (menuF n) := by
  unfold menuF InMenu
  have h1 := Int.fmod_nonneg_of_pos n (b := 6) (by decide)
  have h2 := Int.fmod_lt_of_pos n (b := 6) (by decide)
  have : n.fmod 6 = 0 ∨ n.fmod 6 = 1 ∨ n.fmod 6 = 2 ∨ n.fmod 6 = 3 ∨ n.fmod 6 = 4 ∨ n.fmod 6 = 5 := by omega
  rcases this with e | e | e | e | e | e <;> rw [e] <;> simp
theorem rows5a : ((menus 4).take 520).all (fun ds => rowOk 5 (ds.drop (zerosF ds))) = true := by decide +kernel
theorem rows5b : (((menus 4).drop 520).take 520).all (fun ds => rowOk 5 (ds.drop (zerosF ds))) = true := by decide +kernel
theorem rows5c : (((menus 4).drop 520).drop 520).all (fun ds => rowOk 5 (ds.drop (zerosF ds))) = true := by decide +kernel
theorem rows5 : (menus 4).all (fun ds => rowOk 5 (ds.drop (zerosF ds))) = true := all_cut 520 rows5a (all_cut 520 rows5b rows5c)
theorem rows6a : ((menus 4).take 520).all (fun ds => rowOk 6 (ds.drop (zerosF ds))) = true := by decide +kernel
theorem rows6b : (((menus 4).drop 520).take 520).all (fun ds => rowOk 6 (ds.drop (zerosF ds))) = true := by decide +kernel
theorem rows6c : (((menus 4).drop 520).drop 520).all (fun ds => rowOk 6 (ds.drop (zerosF ds))) = true := by decide +kernel
theorem rows6 : (menus 4).all (fun ds => rowOk 6 (ds.drop (zerosF ds))) = true := all_cut 520 rows6a (all_cut 520 rows6b rows6c)
theorem rows7a : ((menus 4).take 520).all (fun ds => rowOk 7 (ds.drop (zerosF ds))) = true := by decide +kernel
theorem rows7b : (((menus 4).drop 520).take 520).all (fun ds => rowOk 7 (ds.drop (zerosF ds))) = true := by decide +kernel
theorem rows7c : (((menus 4).drop 520).drop 520).all (fun ds => rowOk 7 (ds.drop (zerosF ds))) = true := by decide +kernel
theorem rows7 : (menus 4).all (fun ds => rowOk 7 (ds.drop (zerosF ds))) = true := all_cut 520 rows7a (all_cut 520 rows7b rows7c)
end
end Mine81
namespace Mine81
section
local macro_rules | `(tactic| walk_at "zz") => `(tactic| skip)
theorem gAt_of {P : Int → Prop} : ∀ (row : List Int) (last : Option Int) (i : Nat) (x : Int), (∀ y, last = some y → P y) → (∀ y ∈ row, y ≠ 127 → y ≠ 0 → P y) → gAt last row i = some x → P x
  | [], _, _, _, _, _, h => by simp [gAt] at h
  | y :: r, last, i, x, hl, hr, h => by
    by_cases h1 : y = 127
    · rw [gAt_stop h1] at h; cases h
    · by_cases h0 : y = 0
      · rw [gAt_rep h1 h0] at h; exact hl x h
      · have hy := hr y List.mem_cons_self h1 h0
        cases i with
        | zero => rw [gAt_zero h1 h0] at h; cases h; exact hy
        | succ i =>
          rw [gAt_succ h1 h0] at h
          exact gAt_of r (some y) i x (fun z e => by cases e; exact hy) (fun z hz => hr z (List.mem_cons_of_mem _ hz)) h
theorem drawn_in (ns : List Int) : ∀ x ∈ drawnF ns, InMenu x := by
  intro x hx
  obtain ⟨n, _, rfl⟩ := List.mem_map.mp hx
  exact menu_in n
theorem drawn_len (ns : List Int) : (drawnF ns).length ≤ 4 := by unfold drawnF; simp only [List.length_map, List.length_take]; omega
theorem most_in (ns : List Int) : mostF ns = 5 ∨ mostF ns = 6 ∨ mostF ns = 7 := by
  unfold mostF
  have h1 := Int.fmod_nonneg_of_pos (totalF ns) (b := 3) (by decide)
  have h2 := Int.fmod_lt_of_pos (totalF ns) (b := 3) (by decide)
  omega
theorem row_ok (ns : List Int) : rowOk (mostF ns) ((drawnF ns).drop (zerosF (drawnF ns))) = true := by
  have hm := mem_menus 4 _ (drawn_len ns) (drawn_in ns)
  rcases most_in ns with e | e | e <;> rw [e]
  · exact List.all_eq_true.mp rows5 _ hm
  · exact List.all_eq_true.mp rows6 _ hm
  · exact List.all_eq_true.mp rows7 _ hm
theorem row_len (ns : List Int) : (rowF ns).length ≤ 8 := by
  have := drawn_len ns
  unfold rowF
  simp only [List.length_append, List.length_drop, List.length_cons, List.length_nil]
  omega
theorem row_pos (ns : List Int) : ∀ i x, gAt none (rowF ns) i = some x → 1 ≤ x ∧ x ≤ 200 := by
  intro i x h
  refine gAt_of (P := fun x => 1 ≤ x ∧ x ≤ 200) (rowF ns) none i x (fun y e => by cases e) (fun y hy h1 h0 => ?_) h
  unfold rowF at hy
  rcases List.mem_append.mp hy with hy | hy
  · have := drawn_in ns y (List.mem_of_mem_drop hy)
    unfold InMenu at this
    omega
  · have : y = 2 ∨ y = 1 ∨ y = 0 := by
      simp at hy
      omega
    omega
theorem row_facts (ns : List Int) : (lineL (rowF ns) (mostF ns)).length = (mostF ns).toNat ∧ BinL (lineL (rowF ns) (mostF ns)) ∧ marksF (rowF ns) (mostF ns) = tabsFrom 1 (lineL (rowF ns) (mostF ns)) ∧ (rowF ns).head? ≠ some 0 := by
  have h := row_ok ns
  unfold rowOk at h
  simp only [Bool.and_eq_true, decide_eq_true_eq, beq_iff_eq] at h
  obtain ⟨a, b, c, d⟩ := h
  refine ⟨a, fun x hx => ?_, (marks_Q _ _).trans c, d⟩
  have := List.all_eq_true.mp b x hx
  simpa using this
theorem tabs_len : ∀ (ln : List Nat) (k : Int), (tabsFrom k ln).length ≤ ln.length
  | [], _ => Nat.le_refl _
  | c :: r, k => by
    have := tabs_len r (k + 1)
    unfold tabsFrom
    split
    · simp only [List.length_cons]; omega
    · simp only [List.length_cons]; omega
theorem tabs_in : ∀ (ln : List Nat) (k : Int), ∀ a ∈ tabsFrom k ln, k ≤ a ∧ a < k + ln.length
  | [], _, a, h => by simp [tabsFrom] at h
  | c :: r, k, a, h => by
    unfold tabsFrom at h
    simp only [List.length_cons]
    have key : a ∈ tabsFrom (k + 1) r → k ≤ a ∧ a < k + ((r.length + 1 : Nat) : Int) := fun hr => by
      have := tabs_in r (k + 1) a hr
      omega
    split at h
    · rcases List.mem_cons.mp h with e | h
      · omega
      · exact key h
    · exact key h
theorem marks_facts (ns : List Int) : (marksF (rowF ns) (mostF ns)).length ≤ 7 ∧ ∀ a ∈ marksF (rowF ns) (mostF ns), 1 ≤ a ∧ a ≤ 7 := by
  obtain ⟨h1, h2, h3, h4⟩ := row_facts ns
  rw [h3]
  have hm := most_in ns
  have hl := tabs_len (lineL (rowF ns) (mostF ns)) 1
  refine ⟨by omega, fun a ha => ?_⟩
  have := tabs_in _ 1 a ha
  omega
theorem line_ok (ns : List Int) : lineOk (mostF ns) (lineL (rowF ns) (mostF ns)) = true := by
  obtain ⟨h1, h2, h3, h4⟩ := row_facts ns
  have hb := mem_bins h2
  rw [h1] at hb
  rcases most_in ns with e | e | e <;> rw [e] at hb ⊢
  · exact List.all_eq_true.mp lines5 _ hb
  · exact List.all_eq_true.mp lines6 _ hb
  · exact List.all_eq_true.mp lines7 _ hb
theorem line_facts (ns : List Int) (ln : List Nat) (most : Int) (gaps : List Int) (s1 s2 s3 : WS) (hln : ln = lineL (rowF ns) (mostF ns)) (hm : most = mostF ns) (hg : gaps = gapsF (marksF (rowF ns) (mostF ns))) (e1 : s1 = wOf (L1F gaps)) (e2 : s2 = wOf (L2F gaps)) (e3 : s3 = wOf (L3F gaps most)) :
    longF s1 ≤ 50 ∧ longF s2 ≤ 50 ∧ longF s3 ≤ 50 ∧ neRows s1 s3 (neN s1 s3).toNat = wideR ln gaps most (most + 1).toNat ∧
      neRows s3 s1 (neN s3 s1).toNat = (wideR ln gaps most (most + 1).toNat).map swapR ∧ neRows s1 s2 (neN s1 s2).toNat = dueR ln gaps (most + 1).toNat := by
  have h := line_ok ns
  rw [(row_facts ns).2.2.1, ← hln] at hg
  subst hm
  rw [← hln] at h
  unfold lineOk at h
  simp only [Bool.and_eq_true, decide_eq_true_eq] at h
  rw [← hg, ← e1, ← e2, ← e3] at h
  exact h
end
end Mine81
namespace Mine81
section
theorem walk81 {w : World} {mean : ExcName → Option Value} {mg mb : Str → Option Value} {s : Shared} {Q : Flow → Shared → Prop} {g : Heap} {L f S : Addr} {cd : Value} {m : Str → Option Value} {oc : Obj} {vs : List Value} {ns : List Int} {sc : Scope} {bd : List Stmt} (hsc : sc = lawScope) (hbd : bd = lawBody)
    (F : Fr g L s.heap (pinM [(Str.ofString "script", .ref S)] m)) (N : News g L s.heap [(L + 1, oc)]) (hoc : oc.data = .cell none) (T : Top hd.view_39 (looseW hd.view_39 [Str.ofString "Whitespace"]) mean mg mb g) (X : (hd.heap_39 w.params).In g) (K0 : Below callerA g [] g)
    (hl : g.IsList S vs.toArray) (hi : IntsAre vs ns) (hn : ns.length ≤ 63)
    (hQ : ∀ h' tk g', (∀ b o, g.get? b = some o → h'.get? b = some o) → (AllBare s.gens → AllBare g') → Q (.ret (.bool true)) ⟨h', g', s.drawn, tk, s.os⟩) :
    wpAny (model Challenge.rw_rl0081_01.row.prog w) (callerA.deeper (lawEnv sc L f cd)) (execs bd (lawEnv sc L f cd)) Q NoE s := by
  have hm := most_in ns
  have h5 : 5 ≤ mostF ns := by omega
  have h7 : mostF ns ≤ 7 := by omega
  obtain ⟨r1, r2, r3, r4⟩ := row_facts ns
  have hmk := marks_facts ns
  refine phaseA (dp := callerA.depth) (un := callerA.units) (fr := callerA.frames) (gd := callerA.guards) (tS := default) hsc hbd rfl F N hoc T X (by decide +kernel) (by decide +kernel) hl hi hn ?_
  intro m₁ h1 tk1 g1 Dr rvs kk t1 t2 F1 N1 hD hir hb1
  refine phaseB hsc rfl rfl F1 N1 hD T X K0 hir (row_len ns) ?_
  intro m₂ h2 tk2 g2 F2 N2 hb2
  refine phaseC hsc rfl rfl (Fr.pin F2 ⟨rfl, rfl, rfl, trivial⟩ : Fr g L h2 (pinM (cL Dr (totalF ns) (mostF ns) t1 t2) _)) N2 hoc hD T X hir (row_len ns) r4 h5 h7 (row_pos ns) hmk ?_
  intro m₃ h3 tk3 g3 Dw Dd Dg gvs kg p1 p2 p3 tl F3 N3 hig hp1 hp2 hp3 l1 l2 l3 l4 l5 hb3
  obtain ⟨c1, c2, c3, c13, c31, c12⟩ := line_facts ns _ _ _ p1.σ p2.σ p3.σ rfl rfl rfl hp1.σ hp2.σ hp3.σ
  refine phaseD hsc rfl rfl F3 N3 T X hig hp1 hp2 hp3 l1 l2 l3 l4 l5 h5 h7 (ln := lineL (rowF ns) (mostF ns)) (by omega) r2 (gaps_mem hmk.2) ?_ ?_
  · have q1 := gaps_len hmk.2
    have q2 := hmk.1
    omega
  intro m₄ h4 tk4 g4 n₁ hJ F4 N4 hb4
  refine phaseE hsc rfl F4 N4 hJ T X hp1 hp2 hp3 h5 h7 c1 c2 c3 c13 c31 c12 ?_
  intro h5 tk5 g5 k5 hb5
  exact hQ _ _ _ k5 fun z => hb5 (hb4 (hb3 (hb2 (hb1 z))))
end
end Mine81
namespace Mine81
section
local macro_rules | `(tactic| walk_at "zz") => `(tactic| skip)
theorem top81 : PySem.Challenge.rw_rl0081_01.Holds := hd (by
  k_fill
  intro w s₀ s₁ mg mb G Y fa o pm cd doc dV kV ho hd hcd hD hmg hg args vals as hpre hlay hrd hwl hlo
  have KX := kIn_of Y
  have X := (Ground.X G).1
  have V := (Ground.X G).2
  try w_nolog (first | (have GL := glob_more (Ground.glob G (by first | k_qdec | decide +kernel) (by first | k_qdec | decide +kernel)) V) | (have GL := glob_more (Ground.glob G (by decide +kernel)) V))
  refine Ground.open G ?_
  intro T B D TE TW
  try (refine guard_noD D (by decide +kernel) ?_; clear D)
  obtain ⟨_, _, M⟩ := bmod_of_top T
  have TA := at_of_top T
  try (obtain ⟨_, _, he, B0⟩ := based_of_top T rfl hmg ho hd; have he' : cd = _ := he; subst he'; clear he)
  clear hmg
  wrow_args hpre hlay hrd hwl hlo
  all_goals (
    first | refine callC_kw (enter_call ?_) | refine enter_call ?_ | refine callC_kw (enter_callW ?_) | refine enter_callW ?_ | w_how
    w_top on
    have K0 := below_caller (Top.heap T)
    w_call any ho hd hcd hD T F
    clear hd TA
    k_drop
    skip)
  clear hcd hD
  rename IntsAre _ _ => hI
  rename Heap.IsList _ _ _ => hL
  rename ¬ _ < _ => hlen
  rename News _ _ _ _ => N0
  rename Obj.data _ = _ => hoc
  rename Heap => h₁
  refine wpAny_mono (walk81 (s := ⟨h₁, s₁.gens, s₁.drawn, _, s₁.os⟩) (Q := fun fl s' => fl = .ret (.bool true) ∧ (∀ b o, s₁.heap.get? b = some o → s'.heap.get? b = some o) ∧ (AllBare s₁.gens → AllBare s'.gens) ∧ s'.os = s₁.os) rfl rfl F N0 hoc T KX K0 hL hI (by omega) (fun h' tk g' k b => ⟨rfl, k, b, rfl⟩)) ?_ (fun _ _ e => e.elim)
  rintro fl s' ⟨rfl, k1, k2, k3⟩
  k_steps
  refine ⟨.inl ⟨.bool true, .bool true, [], rfl, fun _ => rfl, .bool _, ?_, fun _ => ⟨.nil, fun _ h => nomatch h⟩⟩, .of_keep k1, k3, k2 (by intro i h; rw [hg] at h; simp at h)⟩
  with_unfolding_all rfl)
end
end Mine81
set_option maxRecDepth 100000 in
set_option maxHeartbeats 8000000 in
theorem PySem.Challenge.cw_rl0081_01_holds : PySem.Challenge.rw_rl0081_01.Holds := by
  exact Mine81.top81
