import PyProof.Rows.All
import Wide.All
import OpenK.AllK
import Wide.FinOn
import PySem.Challenge.RW_fu0023_01
set_option Elab.async false
section
open PySem PySem.W PyProof.Rows
set_option Elab.async false
set_option maxRecDepth 100000 in
set_option maxHeartbeats 8000000 in
open_top hd for PySem.Challenge.rw_fu0023_01
end

section
set_option maxRecDepth 100000
set_option Elab.async false
namespace Mine
open PySem PySem.W PySem.Spec PySem.Calls PyProof.Rows

/-- what the entering of a def hands on: the heap g, the one that stood without the objects at hand -/
structure Ent (h₀ g h : Heap) (news : List (Addr × Obj)) : Prop where
  below : h₀.StaysIn g
  back : ∀ h', g.StaysIn h' → (∀ p ∈ news, h'.get? p.1 = some p.2) → h.StaysIn h'
  fresh : ∀ r, g.get? r = none → (∀ p ∈ news, r ≠ p.1) → h.get? r = none
  sub : g.StaysIn h

section
variable {prog : Program} {w : World} {A₀ A : Around} {s : Shared} {K : Frag} {L : Addr} {h₀ base : Heap} {m mg mb : Str → Option Value} {news : List (Addr × Obj)} {p : Program} {loose : List Str} {mean : ExcName → Option Value}
variable {env : Env} {outer : List Env} {R : Result → Shared → Prop} {name qual : Str} {params : Arguments} {body : List Stmt} {scope : Scope} {dV kV doc pm cdv ct oc : Value} {an od : Option Addr} {osl : Array (Option Value)} {f : Addr} {args : Args} {binds : List (Str × Value)}

theorem ent_of {h : Heap} (F : Fr h₀ L h m) (N : News h₀ L h news) : Ent h₀ (hideAll h (news.map (·.1))) h news := by
  have nm : ∀ b o, h₀.get? b = some o → b ∉ news.map (·.1) := fun b o e q => by
    obtain ⟨p, hp, rfl⟩ := List.mem_map.mp q
    rw [(N p hp).2.2] at e; cases e
  refine ⟨fun b o e => hideAll_get _ (F.keep b o e) (nm b o e), fun h' hg hn b o e => ?_, fun r hr hne => ?_, fun b o e => of_hideAll _ e⟩
  · by_cases hb : b ∈ news.map (·.1)
    · obtain ⟨p, hp, rfl⟩ := List.mem_map.mp hb
      rw [(N p hp).1] at e
      cases e
      exact hn p hp
    · exact hg b o (hideAll_get _ e hb)
  · cases q : h.get? r with
    | none => rfl
    | some o =>
      have hb : r ∉ news.map (·.1) := fun hb => by
        obtain ⟨p, hp, e⟩ := List.mem_map.mp hb
        exact hne p hp e.symm
      have := hideAll_get (news.map (·.1)) q hb
      rw [hr] at this; cases this

theorem ground_of (B : Below A₀ base outer h₀) (F : Fr h₀ L s.heap m) (N : News h₀ L s.heap news) (hA : A.frames = some (env :: outer)) (hf : env.frame = some L) (hke : env.scope.kind = .function) :
    Fr h₀ L (hideAll s.heap (news.map (·.1))) m ∧ Below A base (env :: outer) (hideAll s.heap (news.map (·.1))) :=
  ⟨(groundX (R := fun _ _ => True) B F N hA hf hke).1, (groundX (R := fun _ _ => True) B F N hA hf hke).2.1⟩

theorem enter_plain (B : Below A₀ base outer h₀) (F : Fr h₀ L s.heap m) (X₀ : K.In h₀) (N : News h₀ L s.heap news) (T : Top p loose mean mg mb h₀) (hA : A.frames = some (env :: outer)) (hf : env.frame = some L) (hke : env.scope.kind = .function)
    (ho : K.lookup f = some ⟨oc, od, .func (fnOf name qual params body scope dV kV doc pm an cdv ct), osl⟩) (hcd : codeIn K cdv qual = true) (hroom : A.depth < recursionLimit)
    (hbind : BindsTo s (fnOf name qual params body scope dV kV doc pm an cdv ct) args binds) (hloc : ∀ y ∈ binds, scope.names.lookup y.1 = some .local)
    (h : ∀ g L' h₁, Fr h₀ L g m → Fr g L' h₁ (fun y => binds.reverse.lookup y) → News g L' h₁ news → Below A base (env :: outer) g → K.In g → Top p loose mean mg mb g → (∀ p ∈ news, p.1 < L') → Ent h₀ g s.heap news →
      wpAny (model prog w) (A.deeper (envOf qual scope L' f cdv)) (execs body (envOf qual scope L' f cdv))
        (fun fl s' => R (.ok (.ret (match fl with | .ret v => v | _ => .none))) s')
        (fun e s' => wpAny (model prog w) (A.deeper (envOf qual scope L' f cdv)) (leaving (envOf qual scope L' f cdv) e) (fun _ s'' => R (.error e) s'') (fun e' s'' => R (.error e') s'') s')
        { s with heap := h₁, toks := s.toks + binds.length })
    (hco : scope.isCoroutine = false) (hgen : scope.isGenerator = false) (hk : scope.kind = .function)
    (hcell : ∀ x ∈ scope.names, x.2 ≠ .cell) : codeAny (model prog w) A (.call (.ref f) args) R s := by
  obtain ⟨FG, BG⟩ := ground_of (A := A) B F N hA hf hke
  have NT := ent_of F N
  refine codeAny_call_def (fd := fnOf name qual params body scope dV kV doc pm an cdv ct) (body := body) (binds := binds) hroom ((X₀.keeps F.keep) _ _ ho) rfl (T.nolimit.keeps F.keep) (codeRec_of (X₀.keeps F.keep) hcd) rfl hbind hcell hloc (fun h₁ hns hk₁ => ?_) hco hgen hk
  exact h _ s.heap.objs.size h₁ FG ⟨hns, fun b o e => hk₁ b o (of_hideAll _ e), Nat.le_of_eq (hideAll_size _ _)⟩
    (fun p hp => ⟨hk₁ _ _ (N p hp).1, Nat.ne_of_lt (Heap.lt_size (N p hp).1), hideAll_none _ (List.mem_map_of_mem hp)⟩) BG (X₀.keeps NT.below) (T.keeps NT.below) (fun p hp => Heap.lt_size (N p hp).1) NT

theorem enter_cells (B : Below A₀ base outer h₀) (F : Fr h₀ L s.heap m) (X₀ : K.In h₀) (N : News h₀ L s.heap news) (T : Top p loose mean mg mb h₀) (hA : A.frames = some (env :: outer)) (hf : env.frame = some L) (hke : env.scope.kind = .function)
    (ho : K.lookup f = some ⟨oc, od, .func (fnOf name qual params body scope dV kV doc pm an cdv ct), osl⟩) (hcd : codeIn K cdv qual = true) (hroom : A.depth < recursionLimit)
    (hbind : BindsTo s (fnOf name qual params body scope dV kV doc pm an cdv ct) args binds) (hkind : (binds.all fun y => scope.names.lookup y.1 == some .local || scope.names.lookup y.1 == some .cell) = true)
    (hnd : ((cellsFrom 0 scope.names []).map (·.1)).Nodup)
    (h : ∀ g L' h₁ tk cells, Fr h₀ L g m → Fr g L' h₁ (bindL (envOfC qual scope L' f cdv).kindOf binds fun _ => none) → News g L' h₁ (cells ++ news) →
      CellsAre (bindC (envOfC qual scope L' f cdv).kindOf binds fun _ => none) (cellsFrom (L' + 1) scope.names []) cells → Below A base (env :: outer) g → K.In g → Top p loose mean mg mb g → (∀ p ∈ news, p.1 < L') → Ent h₀ g s.heap news →
      wpAny (model prog w) (A.deeper (envOfC qual scope L' f cdv)) (execs body (envOfC qual scope L' f cdv))
        (fun fl s' => R (.ok (.ret (match fl with | .ret v => v | _ => .none))) s')
        (fun e s' => wpAny (model prog w) (A.deeper (envOfC qual scope L' f cdv)) (leaving (envOfC qual scope L' f cdv) e) (fun _ s'' => R (.error e) s'') (fun e' s'' => R (.error e') s'') s')
        { s with heap := h₁, toks := tk })
    (hco : scope.isCoroutine = false) (hgen : scope.isGenerator = false) (hk : scope.kind = .function) : codeAny (model prog w) A (.call (.ref f) args) R s := by
  obtain ⟨FG, BG⟩ := ground_of (A := A) B F N hA hf hke
  have NT := ent_of F N
  refine codeAny_call_function hroom ((X₀.keeps F.keep) _ _ ho) rfl hco hgen rfl (codeRec_of (X₀.keeps F.keep) hcd) (hbind _ _ _ _ ?_)
  refine wpAny_newFunctionEnv_cells hk (kindsX hkind _) fun env' he s' x => ?_
  subst he
  refine ⟨(T.nolimit.keeps F.keep).keeps x.toInCall.keep, codeAny_func ?_⟩
  obtain ⟨h₁, tk, rfl, _⟩ := x.done
  have hk₁ := x.toInCall.keep
  obtain ⟨cells, NC, Y⟩ := Cl.news (h₀ := s.heap) (Nat.le_refl _) fun n c hm => ⟨x.cell n c (lookup_of_mem_nodup (cellsFrom_names scope.names 0 (s.heap.objs.size + 1) [] [] rfl ▸ hnd) hm), x.above n c hm⟩
  refine h _ s.heap.objs.size h₁ tk cells FG ⟨x.toInCall.ns, fun b o e => hk₁ b o (of_hideAll _ e), Nat.le_of_eq (hideAll_size _ _)⟩ (fun p hp => ?_) Y BG (X₀.keeps NT.below) (T.keeps NT.below) (fun p hp => Heap.lt_size (N p hp).1) NT
  rcases List.mem_append.mp hp with hp | hp
  · refine ⟨(NC p hp).1, (NC p hp).2.1, ?_⟩
    cases q : (hideAll s.heap (news.map (·.1))).get? p.1 with
    | none => rfl
    | some o => have := of_hideAll _ q; rw [(NC p hp).2.2] at this; cases this
  · exact ⟨hk₁ _ _ (N p hp).1, Nat.ne_of_lt (Heap.lt_size (N p hp).1), hideAll_none _ (List.mem_map_of_mem hp)⟩

theorem push_old {h : Heap} {o x : Obj} {b : Addr} (hne : b ≠ h.objs.size) (e : (h.push o).get? b = some x) : h.get? b = some x := by
  obtain ⟨objs, l⟩ := h
  simp only [Heap.push, Heap.get?] at e ⊢
  rw [Array.getElem?_push] at e
  have h2 : ¬ (b = objs.size) := hne
  rw [if_neg h2] at e
  exact e

/-- a run that only looks, and makes one object -/
theorem wp_made1 {α : Type} {M : Model} {A : Around} {E : Value → Shared → Prop} {Q : α → Shared → Prop} {s : Shared} {o : Obj} {r : Addr → α} (X : K.In s.heap)
    (q : Q (r s.heap.objs.size) { s with heap := s.heap.push o }) :
    ∀ (t : Sem α) (g : Addr → Option α), peek1 K ⟨M.prog, M.w.params⟩ t = some (o, g) → (∀ D, g D = some (r D)) → wpAny M A t Q E s := by
  intro t
  induction t with
  | rule _ k ih => intro g e hg Γ p hΓ; exact ih () g e hg Γ p hΓ
  | point _ k ih => intro g e hg Γ p hΓ; exact ih () g e hg Γ p hΓ
  | ask k ih => intro g e hg Γ p hΓ; exact ih _ g e hg Γ p hΓ
  | load a _ k ih =>
    intro g e hg Γ p hΓ
    simp only [peek1] at e
    split at e
    · rename_i ob ho; exact ⟨ob, X _ _ ho, ih ob g e hg Γ p hΓ⟩
    · cases e
  | alloc ob k _ =>
    intro g e hg
    have e : some (ob, fun D => peek K ⟨M.prog, M.w.params⟩ (k D)) = some (o, g) := e
    obtain ⟨e1, e2⟩ := Prod.mk.inj (Option.some.inj e)
    subst e1
    subst e2
    have X' : K.In (s.heap.push ob) := X.keeps fun b x hb => Heap.get?_push_of_some _ hb
    show wpAny M A (alloc ob >>= k) Q E s
    refine wpAny_bind (wpAny_alloc ?_)
    exact (Looks.of_peek (M := M) (h := s.heap.push ob) X' (hg s.heap.objs.size)).here (s := { s with heap := s.heap.push ob }) q
  | _ => intro g e; cases e

abbrev tupOf (vs : List Value) : Obj := { cls := .type "tuple", data := .seq vs.toArray }

theorem enter_rest {vs : List Value} {g₁ : Addr → Option (List (Str × Value))} {binds : Addr → List (Str × Value)}
    (B : Below A₀ base outer h₀) (F : Fr h₀ L s.heap m) (X₀ : K.In h₀) (N : News h₀ L s.heap news) (T : Top p loose mean mg mb h₀) (hA : A.frames = some (env :: outer)) (hf : env.frame = some L) (hke : env.scope.kind = .function)
    (ho : K.lookup f = some ⟨oc, od, .func (fnOf name qual params body scope dV kV doc pm an cdv ct), osl⟩) (hcd : codeIn K cdv qual = true) (hroom : A.depth < recursionLimit)
    (hv : args.pos.drop (params.posonlyargs.length + params.args.length) = vs)
    (hp : peek1 K ⟨prog, w.params⟩ (bindArgs (fnOf name qual params body scope dV kV doc pm an cdv ct) args) = some (tupOf vs, g₁))
    (hg : ∀ D, g₁ D = some (binds D)) (hloc : ∀ D, ∀ y ∈ binds D, scope.names.lookup y.1 = some .local)
    (h : ∀ D g L' h₁, Fr h₀ L g m → Fr g L' h₁ (fun y => (binds D).reverse.lookup y) → News g L' h₁ ((D, tupOf vs) :: news) → Below A base (env :: outer) g → K.In g → Top p loose mean mg mb g → (∀ p ∈ news, p.1 < D) → D < L' → Ent h₀ g s.heap news →
      wpAny (model prog w) (A.deeper (envOf qual scope L' f cdv)) (execs body (envOf qual scope L' f cdv))
        (fun fl s' => R (.ok (.ret (match fl with | .ret v => v | _ => .none))) s')
        (fun e s' => wpAny (model prog w) (A.deeper (envOf qual scope L' f cdv)) (leaving (envOf qual scope L' f cdv) e) (fun _ s'' => R (.error e) s'') (fun e' s'' => R (.error e') s'') s')
        { s with heap := h₁, toks := s.toks + (binds D).length })
    (hco : scope.isCoroutine = false) (hgen : scope.isGenerator = false) (hk : scope.kind = .function)
    (hcell : ∀ x ∈ scope.names, x.2 ≠ .cell) : codeAny (model prog w) A (.call (.ref f) args) R s := by
  have _ := hv
  refine codeAny_call_function (fd := fnOf name qual params body scope dV kV doc pm an cdv ct) (body := body) hroom ((X₀.keeps F.keep) _ _ ho) rfl hco hgen rfl (codeRec_of (X₀.keeps F.keep) hcd) ?_
  refine wp_made1 (o := tupOf vs) (X₀.keeps F.keep) (r := binds) ?_ _ g₁ hp hg
  have NT := ent_of F N
  have F' : Fr h₀ L (s.heap.push (tupOf vs)) m := F.push _
  have N' : News h₀ L (s.heap.push (tupOf vs)) ((s.heap.objs.size, tupOf vs) :: news) := News.push F N _ rfl
  obtain ⟨FG, BG⟩ := ground_of (s := { s with heap := s.heap.push (tupOf vs) }) (A := A) B F' N' hA hf hke
  have st := ent_of F' N'
  have NT2 : Ent h₀ (hideAll (s.heap.push (tupOf vs)) (((s.heap.objs.size, tupOf vs) :: news).map (·.1))) s.heap news := by
    refine ⟨st.below, fun h' hg hn b o e => ?_, fun r hr hne => ?_, fun b o e => ?_⟩
    · by_cases hb : b ∈ news.map (·.1)
      · obtain ⟨p, hp, rfl⟩ := List.mem_map.mp hb
        rw [(N p hp).1] at e
        cases e
        exact hn p hp
      · refine hg b o (hideAll_get _ (Heap.get?_push_of_some _ e) ?_)
        intro hb'
        rcases List.mem_cons.mp hb' with e' | hb'
        · exact absurd (Heap.lt_size e) (e' ▸ Nat.lt_irrefl _)
        · exact hb hb'
    · cases q : s.heap.get? r with
      | none => rfl
      | some o =>
        have hb : r ∉ ((s.heap.objs.size, tupOf vs) :: news).map (·.1) := fun hb => by
          rcases List.mem_cons.mp hb with e' | hb'
          · exact absurd (Heap.lt_size q) (e' ▸ Nat.lt_irrefl _)
          · obtain ⟨p, hp, e⟩ := List.mem_map.mp hb'
            exact hne p hp e.symm
        have := hideAll_get (((s.heap.objs.size, tupOf vs) :: news).map (·.1)) (Heap.get?_push_of_some (tupOf vs) q) hb
        rw [hr] at this; cases this
    · have h1 := of_hideAll _ e
      have hne : b ≠ s.heap.objs.size := fun q => by
        have h2 : (hideAll (s.heap.push (tupOf vs)) (((s.heap.objs.size, tupOf vs) :: news).map (·.1))).get? s.heap.objs.size = none := hideAll_none _ (List.mem_cons_self ..)
        rw [q, h2] at e
        cases e
      exact push_old hne h1
  refine wpAny_newFunctionEnv hcell (hloc _) (fun h₁ hns hsb => ⟨(T.nolimit.keeps F'.keep).fresh _ hsb, codeAny_func ?_⟩) hk
  have hk₁ : ∀ b o, (s.heap.push (tupOf vs)).get? b = some o → h₁.get? b = some o := fun b o e => hsb.extBut b o (Nat.ne_of_lt (Heap.lt_size e)) (Heap.get?_push_of_some _ e)
  exact h _ _ (s.heap.push (tupOf vs)).objs.size h₁ FG ⟨hns, fun b o e => hk₁ b o (of_hideAll _ e), Nat.le_of_eq (hideAll_size _ _)⟩
    (fun p hp => ⟨hk₁ _ _ (N' p hp).1, Nat.ne_of_lt (Heap.lt_size (N' p hp).1), hideAll_none _ (List.mem_map_of_mem hp)⟩) BG (X₀.keeps st.below) (T.keeps st.below) (fun p hp => Heap.lt_size (N p hp).1) (by rw [Heap.size_push]; exact Nat.lt_succ_self _) NT2
end
end Mine
end

section
set_option maxRecDepth 100000
set_option Elab.async false
namespace Mine
open PySem PySem.W PySem.Spec PySem.Calls PyProof.Rows

theorem places {vs vs' : List Value} (hlen : vs'.length = vs.length) (hP : ∀ (j : Nat) v, vs'[j]? = some v → vs[j]? = some v) : vs' = vs := by
  refine List.ext_getElem? fun j => ?_
  cases e : vs'[j]? with
  | some v => exact (hP j v e).symm
  | none =>
    have h1 : vs'.length ≤ j := by simpa using e
    exact (List.getElem?_eq_none (by omega)).symm

def EltEnd (F : Value → Value → Prop) (v : Value) (s₃ : Shared) (y : Value) (s₄ : Shared) : Prop := F v y ∧ Keeps s₃ s₄
def TestEnd (b : Bool) (s₃ : Shared) (ok : Bool) (s₄ : Shared) : Prop := ok = b ∧ Keeps s₃ s₄
theorem EltEnd.mk {F : Value → Value → Prop} {v y : Value} {s₃ : Shared} {h' : Heap} {tk : Nat} (f : F v y) (k : s₃.heap.StaysIn h') : EltEnd F v s₃ y { s₃ with heap := h', toks := tk } := ⟨f, _, _, rfl, k⟩
theorem TestEnd.mk {b ok : Bool} {s₃ : Shared} {h' : Heap} {tk : Nat} (f : ok = b) (k : s₃.heap.StaysIn h') : TestEnd b s₃ ok { s₃ with heap := h', toks := tk } := ⟨f, _, _, rfl, k⟩

section
variable {prog : Program} {w : World} {A : Around} {E : Value → Shared → Prop} {s : Shared} {env : Env}

/-- a comprehension over a list that stands -/
theorem comp_base {elt iter : Expr} {x : Str} {px : Pos} {ifs : List Expr} {scope : Scope} {cl : List (Str × Addr)} {pos : Pos} {Q : Value → Shared → Prop} {ax : Addr} {vs : List Value}
    (p : Value → Bool) (F : Value → Value → Prop)
    (hit : ∀ Q' : Value → Shared → Prop, Q' (.ref ax) s → wpAny (model prog w) A (eval iter env) Q' E s)
    (hl : s.heap.IsList ax vs.toArray) (hsz : vs.length ≤ sizeLine)
    (htests : ∀ C v s₃ m₃ E', s.heap.objs.size ≤ C → v ∈ vs → s₃.heap.Ns C m₃ → m₃ x = some v → s.heap.StaysIn s₃.heap →
      wpAny (model prog w) A (forIn ifs true fun c r => if r = true then do let ok ← isTrue c (compEnvC scope cl C env) (eval c (compEnvC scope cl C env)); pure (ForInStep.yield ok) else pure (ForInStep.yield r)) (TestEnd (p v) s₃) E' s₃)
    (helt : ∀ C v s₃ m₃ E', s.heap.objs.size ≤ C → v ∈ vs → p v = true → s₃.heap.Ns C m₃ → m₃ x = some v → s.heap.StaysIn s₃.heap →
      wpAny (model prog w) A (eval elt (compEnvC scope cl C env)) (EltEnd F v s₃) E' s₃)
    (hQ : ∀ D ys h' tk, s.heap.get? D = none → h'.PlainList D ys → Paired F (vs.filter p) ys.toList → s.heap.StaysIn h' → Q (.ref D) { s with heap := h', toks := tk })
    (hclos : closureFor scope env = pure cl) (hcell : ∀ y ∈ scope.names, y.2 ≠ .cell) (hkind : scope.kind = .function)
    (hnames : ∀ y ∈ scope.names, y.2 = .local → scope.names.lookup y.1 = some .local) (hx : scope.names.lookup x = some .local)
    (hh : A.handled = none)
    (hs : ∀ x, foldedSetIterable iter env x = pure x := by intro _; rfl) :
    wpAny (model prog w) A (eval (.ListComp elt [⟨.Name x px, iter, ifs, 0⟩] scope pos) env) Q E s := by
  refine wpAny_ListComp_free p F hclos hcell hkind hnames hx (hit _ ?_) hs
  have hlt : ax < s.heap.objs.size := by obtain ⟨_, e, _⟩ := hl; exact Heap.lt_size e
  have up : ∀ (s₃ : Shared), (∀ b o, b ∉ [s.heap.objs.size] → (s.heap.push { cls := .type "list_iterator", data := .fields #[.ref ax, .int 0 0] }).get? b = some o → s₃.heap.get? b = some o) → ∀ b o, s.heap.get? b = some o → s₃.heap.get? b = some o :=
    fun s₃ hk b o e => hk b o (fun hm => by rcases List.mem_cons.mp hm with rfl | hm; exact Nat.lt_irrefl _ (Heap.lt_size e); cases hm) (Heap.get?_push_of_some _ e)
  refine wpAny_pyIter_list hl ⟨s.heap.objs.size, [s.heap.objs.size, ax], [s.heap.objs.size], vs.toArray.size, _, _, rfl, Walks.list hh _ _ (Nat.ne_of_lt hlt) vs.toArray, (by rw [List.size_toArray]; exact hsz), ⟨⟨_, Heap.get?_push_size _ rfl, rfl, rfl⟩, hl.push _⟩, ?_, ⟨?_, ?_⟩, ?_⟩
  · intro b hb
    show b < (s.heap.push _).objs.size
    rw [Heap.size_push]
    rcases List.mem_cons.mp hb with rfl | hb
    · exact Nat.lt_succ_self _
    · rcases List.mem_cons.mp hb with rfl | hb
      · exact Nat.lt_succ_of_lt hlt
      · cases hb
  · intro C i v s₃ m₃ E' hC hP hn hm hk _
    have hmem : v ∈ vs := by simpa using Array.mem_of_getElem? hP
    exact htests C v s₃ m₃ E' (Nat.le_of_succ_le (by simpa [Heap.size_push] using hC)) hmem hn hm (up s₃ hk)
  · intro C i v s₃ m₃ E' hC hP hp hn hm hk _
    have hmem : v ∈ vs := by simpa using Array.mem_of_getElem? hP
    exact helt C v s₃ m₃ E' (Nat.le_of_succ_le (by simpa [Heap.size_push] using hC)) hmem hp hn hm (up s₃ hk)
  · intro D h' tk ys vs' hnew hlD hplD hlen hP hF hk
    have e : vs' = vs := places (by simpa using hlen) (fun j v hj => by simpa using hP j v hj)
    subst e
    refine hQ D ys h' tk ?_ hplD hF (up { s with heap := h' } hk)
    cases q : s.heap.get? D with
    | none => rfl
    | some o => rw [Heap.get?_push_of_some _ q] at hnew; cases hnew

theorem paired_eq : ∀ {vs ys : List Value}, Paired (fun v y => y = v) vs ys → ys = vs
  | _, _, .nil => rfl
  | _, _, .cons h r => by rw [h, paired_eq r]
end
end Mine
end

section
set_option maxRecDepth 100000
set_option Elab.async false
namespace Mine
open PySem PySem.W PySem.Spec PySem.Calls PyProof.Rows PySem.SeqAt

def Halt (P : Prop) : Prop := P
theorem halt {P : Prop} (h : Halt P) : P := h
theorem go {P : Prop} (h : P) : Halt P := h
abbrev vtx (xs : List (Str × Tok)) : List Value := xs.map fun p => Value.str p.1 p.2
abbrev chs (x : Str) : List Nat := x.cps.toList

theorem in_comp {g h1 h3 : Heap} {L1 C : Addr} {m1 m3 : Str → Option Value} {news : List (Addr × Obj)} (F1 : Fr g L1 h1 m1) (N1 : News g L1 h1 news) (hC : h1.objs.size ≤ C) (hn : h3.Ns C m3) (hk : h1.StaysIn h3) : Fr g C h3 m3 ∧ News g C h3 news :=
  ⟨⟨hn, fun b o e => hk b o (F1.keep b o e), Nat.le_trans (Nat.le_trans F1.above (Nat.le_of_lt F1.ns.lt)) hC⟩,
    fun p hp => ⟨hk _ _ (N1 p hp).1, Nat.ne_of_lt (Nat.lt_of_lt_of_le (Heap.lt_size (N1 p hp).1) hC), (N1 p hp).2.2⟩⟩

theorem news_made {h₀ h h' : Heap} {L D : Addr} {m : Str → Option Value} {news : List (Addr × Obj)} {o : Obj} (F : Fr h₀ L h m) (N : News h₀ L h news) (hk : h.StaysIn h') (hD : h.get? D = none) (ho : h'.get? D = some o) :
    Fr h₀ L h' m ∧ News h₀ L h' ((D, o) :: news) ∧ ∀ p ∈ news, p.1 ≠ D := by
  refine ⟨F.keeps hk, fun p hp => ?_, fun p hp e => ?_⟩
  · rcases List.mem_cons.mp hp with rfl | hp
    · refine ⟨ho, fun e => ?_, ?_⟩
      · obtain ⟨_, _, _, hL, _⟩ := F.ns
        have e : D = L := e
        rw [← e, hD] at hL; cases hL
      · cases q : h₀.get? D with
        | none => rfl
        | some x => have := F.keep _ _ q; rw [hD] at this; cases this
    · exact ⟨hk _ _ (N p hp).1, (N p hp).2⟩
  · have := (N p hp).1
    rw [e, hD] at this; cases this

section
variable {prog : Program} {w : World} {A : Around} {E : Value → Shared → Prop} {s : Shared} {env : Env} {h₀ : Heap} {L : Addr} {Q : Flow → Shared → Prop}

def WEnd (h₀ : Heap) (L : Addr) (s : Shared) (P : (Str → Option Value) → List (Addr × Obj) → Prop) (s₂ : Shared) : Prop :=
  ∃ h' tk m' news', s₂ = { s with heap := h', toks := tk } ∧ Fr h₀ L h' m' ∧ News h₀ L h' news' ∧ P m' news'
def WStep (h₀ : Heap) (L : Addr) (s : Shared) (J : Nat → (Str → Option Value) → List (Addr × Obj) → Prop) (n : Nat) (f : Flow) (s₂ : Shared) : Prop :=
  f = .next ∧ ∃ h' tk m' news' n', s₂ = { s with heap := h', toks := tk } ∧ Fr h₀ L h' m' ∧ News h₀ L h' news' ∧ n' < n ∧ J n' m' news'

theorem WEnd.mk {s : Shared} {P : (Str → Option Value) → List (Addr × Obj) → Prop} {h' : Heap} {tk : Nat} {m' : Str → Option Value} {news' : List (Addr × Obj)} (F : Fr h₀ L h' m') (N : News h₀ L h' news') (p : P m' news') : WEnd h₀ L s P { s with heap := h', toks := tk } := ⟨h', tk, m', news', rfl, F, N, p⟩
theorem WStep.mk {s : Shared} {J : Nat → (Str → Option Value) → List (Addr × Obj) → Prop} {n : Nat} {h' : Heap} {tk : Nat} {m' : Str → Option Value} {news' : List (Addr × Obj)} (n' : Nat) (F : Fr h₀ L h' m') (N : News h₀ L h' news') (hn : n' < n) (j : J n' m' news') : WStep h₀ L s J n .next { s with heap := h', toks := tk } :=
  ⟨rfl, h', tk, m', news', n', rfl, F, N, hn, j⟩

/-- a while by what holds at its turns; what holds behind it -/
theorem while_cut {test : Expr} {body : List Stmt} {pos : Pos} {m : Str → Option Value} {news : List (Addr × Obj)} (J : Nat → (Str → Option Value) → List (Addr × Obj) → Prop) (P : (Str → Option Value) → List (Addr × Obj) → Prop) (n₀ : Nat)
    (F : Fr h₀ L s.heap m) (N : News h₀ L s.heap news) (hJ : J n₀ m news)
    (turn : ∀ n m₁ news₁ h₁ tk₁, Fr h₀ L h₁ m₁ → News h₀ L h₁ news₁ → J n m₁ news₁ →
      wpAny (model prog w) A (isTrue test env (eval test env)) (fun b s₂ => if b = true then wpAny (model prog w) A (execs body env) (WStep h₀ L s J n) E s₂ else WEnd h₀ L s P s₂) E { s with heap := h₁, toks := tk₁ })
    (done : ∀ m' news' h' tk', Fr h₀ L h' m' → News h₀ L h' news' → P m' news' → Q .next { s with heap := h', toks := tk' })
    (hE : PassesOwn (model prog w) A env E := by passes_own) :
    wpAny (model prog w) A (exec (.While test body [] pos) env) Q E s := by
  refine While_inv2 J F N hJ (fun n m₁ news₁ h₁ tk₁ F₁ N₁ J₁ => ?_) hE
  refine wpAny_mono (turn n m₁ news₁ h₁ tk₁ F₁ N₁ J₁) (fun b s₂ h₂ => ?_) fun _ _ e => e
  cases b with
  | false =>
    simp only [Bool.false_eq_true, if_false] at h₂ ⊢
    obtain ⟨h', tk, m', news', rfl, F', N', p⟩ := h₂
    exact done m' news' h' tk F' N' p
  | true =>
    simp only [if_true] at h₂ ⊢
    refine wpAny_mono h₂ (fun f s₃ h₃ => ?_) fun _ _ e => e
    obtain ⟨rfl, h', tk, m', news', n', rfl, F', N', hn, j⟩ := h₃
    exact ⟨h', tk, m', news', n', rfl, F', N', hn, j⟩

theorem item_base {value slice : Expr} {l : Addr} {vs : List Value} {k : Int} {u : Tok} {v : Value} {Q : Value → Shared → Prop}
    (hl : s.heap.IsList l vs.toArray) (h0 : 0 ≤ k) (hhi : k < 2 ^ 63) (hx : vs[k.toNat]? = some v) (h : Q v s)
    (hs : subscripted slice false (.ref l) (.int k u) = operate [.ref l, .int k u] (getItem (.ref l) (.int k u)) := by with_unfolding_all rfl) (ht : ∀ r, letTemporaryGo value (.ref l) r = pure () := by intro _; with_unfolding_all rfl) :
    wpAny (model prog w) A (subscriptTail value slice (.ref l) (.int k u)) Q E s :=
  subscriptTail_builtin hl.typeIs slot_list_getitem.lookup (wpAny_getItem_list hl h0 hhi (by simpa using hx) h) hs ht
end

theorem readsAll_txs {h : Heap} : ∀ xs : List (Str × Tok), ReadsAll h (vtx xs) (xs.map fun p => PyData.str p.1) []
  | [] => .nil
  | x :: r => by
    have := ReadsAll.cons (Reads.str (h := h) x.1 x.2) (readsAll_txs (h := h) r)
    simpa using this
theorem reads_txs {h : Heap} {a : Addr} {xs : List (Str × Tok)} (hl : h.IsList a (vtx xs).toArray) : Reads h (.ref a) (.list (xs.map fun p => PyData.str p.1)) [a] := by
  obtain ⟨o, ho, hc, n, hd⟩ := hl
  exact Reads.list ho hc hd (by simpa using readsAll_txs xs)
/-- a short text of low signs -/
structure Low (x : Str) : Prop where
  low : ∀ c ∈ chs x, c < 128
  short : x.length ≤ 15
theorem Low.strOk {x : Str} (h : Low x) : PyData.strOk x = true := by
  unfold PyData.strOk
  rw [← Array.all_toList, List.all_eq_true]
  exact fun c hc => decide_eq_true (Nat.lt_of_lt_of_le (h.low c hc) (by decide))
theorem canLayAll0_txs : ∀ xs : List (Str × Tok), (∀ x ∈ xs, Low x.1) → PyData.canLayAll0 (xs.map fun p => PyData.str p.1) = true
  | [], _ => by simp [PyData.canLayAll0]
  | n :: r, h => by
    have h1 := (h n (.head _)).strOk
    have h2 := canLayAll0_txs r fun x hx => h x (.tail _ hx)
    simp [PyData.canLayAll0, PyData.canLay0, h1, h2]
theorem depthAll_txs : ∀ xs : List (Str × Tok), PyData.depthAll (xs.map fun p => PyData.str p.1) ≤ 1
  | [] => by simp [PyData.depthAll]
  | n :: r => by
    have := depthAll_txs r
    simp only [List.map_cons, PyData.depthAll, PyData.depth]
    omega
theorem shaped_txs (xs : List (Str × Tok)) (hx : ∀ x ∈ xs, Low x.1) : shaped (.list (xs.map fun p => PyData.str p.1)) = true := by
  have h1 := depthAll_txs xs
  have h2 : PyData.depth (.list (xs.map fun p => PyData.str p.1)) ≤ 64 := by simp only [PyData.depth]; omega
  show (PyData.canLay0 (.list (xs.map fun p => PyData.str p.1)) && decide (PyData.depth (.list (xs.map fun p => PyData.str p.1)) ≤ 64)) = true
  rw [Bool.and_eq_true]
  exact ⟨by simp only [PyData.canLay0]; exact canLayAll0_txs xs hx, decide_eq_true h2⟩
section
variable {prog : Program} {w : World} {A : Around} {E : Value → Shared → Prop} {s : Shared}
/-- a list of texts and the empty list -/
theorem eq_nil {a b : Addr} {xs : List (Str × Tok)} {Q : Value → Shared → Prop} (hl : s.heap.IsList a (vtx xs).toArray) (hl' : s.heap.IsList b #[]) (hx : ∀ x ∈ xs, Low x.1) (hu : A.units + 64 < cLine)
    (h : Q (.bool (decide (xs = []))) s) : wpAny (model prog w) A (compareOp .Eq (.ref a) (.ref b)) Q E s := by
  refine eq_dataH_same (reads_txs hl) (reads_txs (xs := []) hl') (shaped_txs xs hx) (shaped_txs [] (fun _ h => nomatch h)) hu ?_ ?_
  · cases xs <;> simp [noMix, noMixAll]
  · have e : PySem.Spec.same (PyData.list (xs.map fun p => PyData.str p.1)) (PyData.list (([] : List (Str × Tok)).map fun p => PyData.str p.1)) = decide (xs = []) := by
      cases xs <;> simp [PySem.Spec.same, PySem.Spec.sameAll]
    rw [e]; exact h
end

/-- how far the texts agree -/
structure Off (sel : Str → Nat → Str) (xs : List (Str × Tok)) (x0 : Str) (M : Int) (k : Nat) : Prop where
  le : (k : Int) ≤ M
  agree : ∀ i, i < k → ∀ x ∈ xs, sel x.1 i = sel x0 i
  off : (k : Int) = M ∨ ∃ x ∈ xs, sel x.1 k ≠ sel x0 k
abbrev selA (x : Str) (k : Nat) : Str := Txt.item x (k : Int)
abbrev selB (x : Str) (k : Nat) : Str := Txt.item x (-1 - (k : Int))
def EndJ (sel : Str → Nat → Str) (xs : List (Str × Tok)) (x0 : Str) (M : Int) (led : Obj → List (Addr × Obj)) (m₀ : Str → Option Value) (n : Nat) (m : Str → Option Value) (nx : List (Addr × Obj)) : Prop :=
  ∃ (k : Nat) (tk : Tok) (o : Obj), (n : Int) + k = M ∧ nx = led o ∧ o.data = .cell (some (.int k tk)) ∧ m = m₀ ∧ ∀ i, i < k → ∀ x ∈ xs, sel x.1 i = sel x0 i
def EndP (sel : Str → Nat → Str) (xs : List (Str × Tok)) (x0 : Str) (M : Int) (led : Obj → List (Addr × Obj)) (m₀ : Str → Option Value) (m : Str → Option Value) (nx : List (Addr × Obj)) : Prop :=
  ∃ (k : Nat) (tk : Tok) (o : Obj), nx = led o ∧ o.data = .cell (some (.int k tk)) ∧ m = m₀ ∧ Off sel xs x0 M k

def offs (sel : Str → Nat → Str) (x0 : Str) (k : Nat) : Value → Bool
  | .str a _ => sel a k != sel x0 k
  | _ => false
theorem filter_vtx (p : Value → Bool) (xs : List (Str × Tok)) : (vtx xs).filter p = vtx (xs.filter fun x => p (.str x.1 x.2)) := by
  induction xs with
  | nil => rfl
  | cons x r ih =>
    simp only [vtx, List.map_cons, List.filter_cons] at ih ⊢
    split <;> simp [ih]

theorem offs_nil {sel : Str → Nat → Str} {x0 : Str} {k : Nat} {xs : List (Str × Tok)} (h : xs.filter (fun x => offs sel x0 k (.str x.1 x.2)) = []) : ∀ x ∈ xs, sel x.1 k = sel x0 k := fun x hx => by
  have := List.filter_eq_nil_iff.mp h x hx
  simpa [offs] using this
theorem offs_some {sel : Str → Nat → Str} {x0 : Str} {k : Nat} {xs : List (Str × Tok)} (h : ¬ xs.filter (fun x => offs sel x0 k (.str x.1 x.2)) = []) : ∃ x ∈ xs, sel x.1 k ≠ sel x0 k := by
  obtain ⟨x, hx⟩ := List.exists_mem_of_ne_nil _ h
  obtain ⟨h1, h2⟩ := List.mem_filter.mp hx
  exact ⟨x, h1, by simpa [offs] using h2⟩
theorem agree_succ {sel : Str → Nat → Str} {x0 : Str} {k : Nat} {xs : List (Str × Tok)} (h1 : ∀ i, i < k → ∀ x ∈ xs, sel x.1 i = sel x0 i) (h2 : ∀ x ∈ xs, sel x.1 k = sel x0 k) : ∀ i, i < k + 1 → ∀ x ∈ xs, sel x.1 i = sel x0 i := fun i hi x hx => by
  rcases Nat.lt_succ_iff_lt_or_eq.mp hi with h | rfl
  · exact h1 i h x hx
  · exact h2 x hx

def notIn (y : Str) : Value → Bool
  | .str a _ => !Txt.contains a y
  | _ => false
theorem notIn_nil {y : Str} {xs : List (Str × Tok)} (h : xs.filter (fun x => notIn y (.str x.1 x.2)) = []) : ∀ x ∈ xs, Txt.contains x.1 y = true := fun x hx => by
  have := List.filter_eq_nil_iff.mp h x hx
  simpa [notIn] using this
theorem notIn_some {y : Str} {xs : List (Str × Tok)} (h : ¬ xs.filter (fun x => notIn y (.str x.1 x.2)) = []) : ¬ ∀ x ∈ xs, Txt.contains x.1 y = true := fun h' => by
  obtain ⟨x, hx⟩ := List.exists_mem_of_ne_nil _ h
  obtain ⟨h1, h2⟩ := List.mem_filter.mp hx
  have := h' x h1
  simp [notIn, this] at h2
/-- the piece of x0 at j, n long, stands in every text -/
def Good (xs : List (Str × Tok)) (x0 : Str) (j n : Nat) : Prop := ∀ x ∈ xs, Txt.contains x.1 (Txt.slice x0 (some (j : Int)) (some ((j : Int) + (n : Int)))) = true
structure MostW (xs : List (Str × Tok)) (x0 : Str) (m i : Nat) : Prop where
  le : m ≤ x0.length
  has : m = 0 ∨ ∃ j, j + m ≤ x0.length ∧ Good xs x0 j m
  no : ∀ j, j < i → ∃ mj, mj ≤ m ∧ ¬ (j + mj < x0.length ∧ Good xs x0 j (mj + 1))

theorem MostW.succ {xs : List (Str × Tok)} {x0 : Str} {k i : Nat} (h : MostW xs x0 k i) (hik : i + k < x0.length) (g : Good xs x0 i (k + 1)) : MostW xs x0 (k + 1) i :=
  ⟨by omega, .inr ⟨i, by omega, g⟩, fun j hj => let ⟨mj, h1, h2⟩ := h.no j hj; ⟨mj, by omega, h2⟩⟩
theorem MostW.stop {xs : List (Str × Tok)} {x0 : Str} {k i : Nat} (h : MostW xs x0 k i) (g : ¬ (i + k < x0.length ∧ Good xs x0 i (k + 1))) : MostW xs x0 k (i + 1) :=
  ⟨h.le, h.has, fun j hj => by
    rcases Nat.lt_succ_iff_lt_or_eq.mp hj with h' | rfl
    · exact h.no j h'
    · exact ⟨k, Nat.le_refl _, g⟩⟩

theorem ints_of_lens : ∀ {xs : List (Str × Tok)} {ys : List Value}, Paired (fun v y => ∃ a t u, v = Value.str a t ∧ y = .int (a.length : Int) u) (vtx xs) ys → IntsAre ys (xs.map fun x => (x.1.length : Int))
  | [], _, .nil => .nil
  | _ :: _, _, .cons ⟨_, _, u, e, rfl⟩ r => by cases e; exact .cons _ u (ints_of_lens r)

theorem item_pos {x : Str} {k : Nat} (h : k < x.length) : (Txt.item x (k : Int)).cps.toList = [(chs x)[k]'(by have h' : k < x.cps.size := h; simpa using h')] := by
  unfold Txt.item Txt.charAt seqIndex?
  have h1 : ¬ ((k : Int) < 0) := by omega
  have h2 : (decide (0 ≤ (k : Int)) && decide ((k : Int) < (x.length : Int))) = true := by simp; omega
  simp only [h1, if_false, h2, if_true, Int.toNat_natCast, Option.bind_some]
  have h3 : k < x.cps.size := h
  simp [h3]
theorem item_neg {x : Str} {k : Nat} (h : k < x.length) : (Txt.item x (-1 - (k : Int))).cps.toList = [(chs x)[x.length - 1 - k]'(by have : k < x.cps.size := h; show _ < x.cps.toList.length; simp; show x.cps.size - 1 - k < x.cps.size; omega)] := by
  unfold Txt.item Txt.charAt seqIndex?
  have h3 : k < x.cps.size := h
  have h1 : (-1 - (k : Int) < 0) := by omega
  have h0 : (-1 - (k : Int) + (x.length : Int)) = ((x.length - 1 - k : Nat) : Int) := by omega
  simp only [h1, if_true, h0]
  have h2 : (decide (0 ≤ ((x.length - 1 - k : Nat) : Int)) && decide (((x.length - 1 - k : Nat) : Int) < (x.length : Int))) = true := by simp; omega
  simp only [h2, if_true, Int.toNat_natCast, Option.bind_some]
  have h4 : x.length - 1 - k < x.cps.size := by show x.cps.size - 1 - k < x.cps.size; omega
  simp [h4]
end Mine
end

section
set_option maxRecDepth 100000
set_option Elab.async false
namespace Mine
open PySem PySem.W PySem.Spec PySem.Calls PyProof.Rows PySem.SeqAt

/-- the end of a for's turn -/
def FStep (h₀ : Heap) (L : Addr) (s : Shared) (own : List (Addr × Obj)) (wr : List Addr) (J : (Str → Option Value) → List (Addr × Obj) → Prop) (B : Shared → Prop) (Rt : Value → Shared → Prop) (f : Flow) (s₃ : Shared) : Prop :=
  match f with
  | .brk => B s₃
  | .ret v => Rt v s₃
  | _ => ∃ h' tk m' nx', s₃ = { s with heap := h', toks := tk } ∧ Fr h₀ L h' m' ∧ News h₀ L h' (own ++ nx') ∧ (∀ p ∈ nx', p.1 ∉ wr) ∧ J m' nx'
section
variable {h₀ : Heap} {L : Addr} {s : Shared} {own : List (Addr × Obj)} {wr : List Addr} {J : (Str → Option Value) → List (Addr × Obj) → Prop} {B : Shared → Prop} {Rt : Value → Shared → Prop}
theorem FStep.next {h' : Heap} {tk : Nat} {m' : Str → Option Value} {nx' : List (Addr × Obj)} (F : Fr h₀ L h' m') (N : News h₀ L h' (own ++ nx')) (ha : ∀ p ∈ nx', p.1 ∉ wr) (j : J m' nx') : FStep h₀ L s own wr J B Rt .next { s with heap := h', toks := tk } := ⟨h', tk, m', nx', rfl, F, N, ha, j⟩
theorem FStep.cont {h' : Heap} {tk : Nat} {m' : Str → Option Value} {nx' : List (Addr × Obj)} (F : Fr h₀ L h' m') (N : News h₀ L h' (own ++ nx')) (ha : ∀ p ∈ nx', p.1 ∉ wr) (j : J m' nx') : FStep h₀ L s own wr J B Rt .cont { s with heap := h', toks := tk } := ⟨h', tk, m', nx', rfl, F, N, ha, j⟩
theorem FStep.brk {s₃ : Shared} (b : B s₃) : FStep h₀ L s own wr J B Rt .brk s₃ := b
theorem FStep.ret {s₃ : Shared} {v : Value} (b : Rt v s₃) : FStep h₀ L s own wr J B Rt (.ret v) s₃ := b
end

section
variable {prog : Program} {w : World} {A : Around} {E : Value → Shared → Prop} {s : Shared} {env : Env} {h₀ : Heap} {L : Addr} {Q : Flow → Shared → Prop}

/-- at a for's loop: all that is asked -/
def ForAt (prog : Program) (w : World) (A : Around) (E : Value → Shared → Prop) (Q : Flow → Shared → Prop) (env : Env) (target : Expr) (body orelse : List Stmt) (h₀ : Heap) (L : Addr) (it : Value) (s : Shared) : Prop :=
  ∃ (I : Addr) (fp wr : List Addr) (n : Nat) (P : Nat → Value → Prop) (St : Nat → Heap → Prop) (m : Str → Option Value) (nx : List (Addr × Obj)) (J : Nat → (Str → Option Value) → List (Addr × Obj) → Prop) (B : Shared → Prop) (Rt : Value → Shared → Prop),
    it = .ref I ∧ Walks prog w A I fp wr n P St ∧ (∀ b ∈ wr, h₀.get? b = none ∧ b ≠ L) ∧ (∀ i h, St i h → ∀ b ∈ wr, ∃ o, h.get? b = some o) ∧ (∀ b ∈ fp, b ∈ wr ∨ ∃ o, h₀.get? b = some o) ∧ St 0 s.heap ∧ Fr h₀ L s.heap m ∧ News h₀ L s.heap nx ∧ (∀ p ∈ nx, p.1 ∉ wr) ∧ J 0 m nx ∧
    (∀ i v m₁ nx₁ h tk own, i < n → P i v → own.map (·.1) = wr → (∀ p ∈ nx₁, p.1 ∉ wr) → J i m₁ nx₁ → Fr h₀ L h m₁ → News h₀ L h (own ++ nx₁) →
      wpAny (model prog w) A (assign target env v) (fun _ s₂ => wpAny (model prog w) A (execs body env) (FStep h₀ L s own wr (J (i + 1)) B Rt) E s₂) E { s with heap := h, toks := tk }) ∧
    (∀ m' nx' h' tk, Fr h₀ L h' m' → News h₀ L h' nx' → J n m' nx' → wpAny (model prog w) A (execs orelse env) Q E { s with heap := h', toks := tk }) ∧
    (∀ s', B s' → Q .next s') ∧ (∀ v s', Rt v s' → Q (.ret v) s')

def AllNe (d : Nat) : List (Addr × Obj) → Prop
  | [] => True
  | p :: r => @Ne Nat p.1 d ∧ AllNe d r
theorem allNe_of {d : Addr} : ∀ {l : List (Addr × Obj)}, (∀ p ∈ l, p.1 ≠ d) → AllNe d l
  | [], _ => trivial
  | p :: _, h => ⟨h p (.head _), allNe_of fun q hq => h q (.tail _ hq)⟩
theorem AllNe.off {d : Addr} {l : List (Addr × Obj)} (h : AllNe d l) : ∀ p ∈ l, p.1 ∉ [d] := by
  induction l with
  | nil => intro p hp; cases hp
  | cons q r ih =>
    intro p hp hm
    rcases List.mem_cons.mp hp with e | hp
    · exact h.1 (by rw [← e]; exact List.mem_singleton.mp hm)
    · exact ih h.2 p hp hm
theorem name_comp {M : Model} {A : Around} {E : Value → Shared → Prop} {s : Shared} {g : Heap} {C : Addr} {m : Str → Option Value} {x : Str} {pos : Pos} {v : Value} {Q : Value → Shared → Prop} {scope : Scope} {cl : List (Str × Addr)} {env : Env}
    (F : Fr g C s.heap m) (hv : m x = some v) (h : Q v s) (hk : (compEnvC scope cl C env).scope.kind = .function := by rfl) (hx : (compEnvC scope cl C env).kindOf x = some .local := by rfl) (hd : (x == ("__debug__" : Str)) = false := by decide) :
    wpAny M A (eval (.Name x pos) (compEnvC scope cl C env)) Q E s := wpAny_Name (wpAny_loadName_local hk hx F.ns hv h) hd

theorem keptStay {h : Heap} : KeptH (fun h' => h.StaysIn h') := fun _ _ k b o e => Heap.get?_push_of_some _ (k b o e)
section
variable {prog : Program} {w : World} {A : Around} {E : Value → Shared → Prop} {s : Shared} {value slice : Expr} {x : Str} {t : Tok} {Q : Value → Shared → Prop}
theorem sl_ss {i j : Int} {ui uj : Tok} (h : ∀ h' t' k, s.heap.StaysIn h' → (Txt.slice x (some i) (some j)).length ≤ x.length → Q (.str (Txt.slice x (some i) (some j)) t') { s with heap := h', toks := k }) (hsz : x.length ≤ sizeLine)
    (hs : subscripted slice false (.str x t) (.ref s.heap.objs.size) = operate [.ref s.heap.objs.size, .str x t] (getItem (.str x t) (.ref s.heap.objs.size)) := by with_unfolding_all rfl)
    (ht : ∀ r, letTemporaryGo value (.str x t) r = pure () := by intro _; with_unfolding_all rfl) :
    wpAny (model prog w) A (subscriptTail value slice (.str x t) (.ref s.heap.objs.size)) Q E { s with heap := s.heap.push { cls := .type "slice", data := .fields #[.int i ui, .int j uj, .none] } } :=
  tail_of_ItemOn (SBH.sliceItem_ss (P := fun h' => s.heap.StaysIn h') keptStay (fun _ _ e => e) (fun h' t' k hk => h h' t' k hk (PyProof.Txt.length_slice_le x _ _)) hsz) hs ht
theorem sl_ns {j : Int} {uj : Tok} (h : ∀ h' t' k, s.heap.StaysIn h' → (Txt.slice x none (some j)).length ≤ x.length → Q (.str (Txt.slice x none (some j)) t') { s with heap := h', toks := k }) (hsz : x.length ≤ sizeLine)
    (hs : subscripted slice false (.str x t) (.ref s.heap.objs.size) = operate [.ref s.heap.objs.size, .str x t] (getItem (.str x t) (.ref s.heap.objs.size)) := by with_unfolding_all rfl)
    (ht : ∀ r, letTemporaryGo value (.str x t) r = pure () := by intro _; with_unfolding_all rfl) :
    wpAny (model prog w) A (subscriptTail value slice (.str x t) (.ref s.heap.objs.size)) Q E { s with heap := s.heap.push { cls := .type "slice", data := .fields #[.none, .int j uj, .none] } } :=
  tail_of_ItemOn (SBH.sliceItem_ns (P := fun h' => s.heap.StaysIn h') keptStay (fun _ _ e => e) (fun h' t' k hk => h h' t' k hk (PyProof.Txt.length_slice_le x _ _)) hsz) hs ht
theorem sl_sn {i : Int} {ui : Tok} (h : ∀ h' t' k, s.heap.StaysIn h' → (Txt.slice x (some i) none).length ≤ x.length → Q (.str (Txt.slice x (some i) none) t') { s with heap := h', toks := k }) (hsz : x.length ≤ sizeLine)
    (hs : subscripted slice false (.str x t) (.ref s.heap.objs.size) = operate [.ref s.heap.objs.size, .str x t] (getItem (.str x t) (.ref s.heap.objs.size)) := by with_unfolding_all rfl)
    (ht : ∀ r, letTemporaryGo value (.str x t) r = pure () := by intro _; with_unfolding_all rfl) :
    wpAny (model prog w) A (subscriptTail value slice (.str x t) (.ref s.heap.objs.size)) Q E { s with heap := s.heap.push { cls := .type "slice", data := .fields #[.int i ui, .none, .none] } } :=
  tail_of_ItemOn (SBH.sliceItem_sn (P := fun h' => s.heap.StaysIn h') keptStay (fun _ _ e => e) (fun h' t' k hk => h h' t' k hk (PyProof.Txt.length_slice_le x _ _)) hsz) hs ht
end
theorem lkc (y k : Str) (v : Value) (l : List (Str × Value)) : List.lookup y ((k, v) :: l) = if y = k then some v else List.lookup y l := by
  rw [List.lookup_cons]
  by_cases e : y = k
  · subst e; simp
  · have : (y == k) = false := beq_false_of_ne e
    rw [this]; simp [e]
theorem lk1 {k : Str} {v : Value} : (fun y => List.lookup y [(k, v)].reverse) = fun y => if y = k then some v else none := by
  funext y
  simp only [List.reverse_cons, List.reverse_nil, List.nil_append, lkc, List.lookup_nil]
theorem lk2 {k₁ k₂ : Str} {v₁ v₂ : Value} : (fun y => List.lookup y [(k₁, v₁), (k₂, v₂)].reverse) = fun y => if y = k₂ then some v₂ else if y = k₁ then some v₁ else none := by
  funext y
  simp only [List.reverse_cons, List.reverse_nil, List.nil_append, List.cons_append, lkc, List.lookup_nil]
theorem lk3 {k₁ k₂ k₃ : Str} {v₁ v₂ v₃ : Value} : (fun y => List.lookup y [(k₁, v₁), (k₂, v₂), (k₃, v₃)].reverse) = fun y => if y = k₃ then some v₃ else if y = k₂ then some v₂ else if y = k₁ then some v₁ else none := by
  funext y
  simp only [List.reverse_cons, List.reverse_nil, List.nil_append, List.cons_append, lkc, List.lookup_nil]
theorem rangeSize_one (n : Nat) : Builtin.Range.rangeSize 0 (n : Int) 1 = (n : Int) := by
  unfold Builtin.Range.rangeSize
  simp only [show (1 : Int) > 0 by decide, if_true, Int.ediv_one]
  split <;> omega
theorem own_one {own : List (Addr × Obj)} {a : Addr} (e : own.map (·.1) = [a]) : ∃ o, own = [(a, o)] := by
  cases own with
  | nil => cases e
  | cons p r =>
    cases r with
    | nil => obtain ⟨b, o⟩ := p; simp only [List.map_cons, List.map_nil, List.cons.injEq, and_true] at e; exact ⟨o, by rw [e]⟩
    | cons q r => simp at e
theorem own_of {h : Heap} : ∀ {wr : List Addr}, (∀ b ∈ wr, ∃ o, h.get? b = some o) → ∃ own : List (Addr × Obj), own.map (·.1) = wr ∧ ∀ p ∈ own, h.get? p.1 = some p.2
  | [], _ => ⟨[], rfl, fun _ hp => nomatch hp⟩
  | b :: r, hb => by
    obtain ⟨o, ho⟩ := hb b (.head _)
    obtain ⟨own, e, hw⟩ := own_of (wr := r) fun c hc => hb c (.tail _ hc)
    refine ⟨(b, o) :: own, by simp [e], fun p hp => ?_⟩
    rcases List.mem_cons.mp hp with rfl | hp
    · exact ho
    · exact hw p hp

theorem for_at {target iter : Expr} {body orelse : List Stmt} {pos : Pos} (h₀ : Heap) (L : Addr)
    (h : wpAny (model prog w) A (eval iter env) (fun x s₁ => wpAny (model prog w) A (pyIter x) (fun it s₂ => ForAt prog w A E Q env target body orelse h₀ L it s₂) E s₁) E s)
    (hs : ∀ x, foldedSetIterable iter env x = pure x := by intro _; rfl) (ht : ∀ it v, letOwnedTupleGo target it v = pure () := by intro _ _; rfl)
    (hE : PassesOwn (model prog w) A env E := by passes_own) :
    wpAny (model prog w) A (exec (.For target iter body orelse pos) env) Q E s := by
  refine wpAny_For (wpAny_mono h (fun xv s₁ h₁ => wpAny_mono h₁ (fun it s₂ h₂ => ?_) fun _ _ e => e) fun _ _ e => e) hs
  obtain ⟨I, fp, wr, n, P, St, m, nx, J, B, Rt, rfl, W, hwr, hlive, hfp, hst, F, N, hnx, hJ, turn, done, hB, hRt⟩ := h₂
  have old : ∀ b o, h₀.get? b = some o → b ∉ wr := fun b o e hb => by rw [(hwr b hb).1] at e; cases e
  have hLw : L ∉ wr := fun hb => (hwr L hb).2 rfl
  refine codeAny_forLoop (R := fun r s' => match r with | .ok f => Q f s' | .error e => cameBackBy (model prog w) A env E e s')
    (fun k s' => ∃ h' tk m' nx' own i, s' = { s₂ with heap := h', toks := tk } ∧ St i h' ∧ own.map (·.1) = wr ∧ Fr h₀ L h' m' ∧ News h₀ L h' (own ++ nx') ∧ (∀ p ∈ nx', p.1 ∉ wr) ∧ J i m' nx' ∧ i ≤ n ∧ k = n + 1 - i) ?_ (n + 1) ?_ (ht _)
  · rintro k s' ⟨h', tk, m', nx', own, i, rfl, hst', hown, F', N', hnx', hJ', hi, rfl⟩
    have Nn : News h₀ L h' nx' := fun p hp => N' p (List.mem_append_right _ hp)
    have next : ∀ h₁ : Heap, (∀ b o, b ∉ wr → h'.get? b = some o → h₁.get? b = some o) → Fr h₀ L h₁ m' ∧ News h₀ L h₁ nx' := fun h₁ hk₁ =>
      ⟨⟨F'.ns.at' fun o e => hk₁ _ o hLw e, fun b o e => hk₁ b o (old b o e) (F'.keep b o e), F'.above⟩, fun p hp => ⟨hk₁ _ _ (hnx' p hp) (Nn p hp).1, (Nn p hp).2⟩⟩
    by_cases hlt : i < n
    · refine W.item i _ _ _ hlt hst' fun v h₁ tk₁ hP hst₁ hk₁ => ?_
      obtain ⟨F₁, N₁⟩ := next h₁ hk₁
      obtain ⟨own₁, e₁, hown₁⟩ := own_of (hlive _ _ hst₁)
      have N₂ : News h₀ L h₁ (own₁ ++ nx') := fun p hp => by
        rcases List.mem_append.mp hp with hp | hp
        · have hb : p.1 ∈ wr := e₁ ▸ List.mem_map_of_mem hp
          exact ⟨hown₁ p hp, (hwr _ hb).2, (hwr _ hb).1⟩
        · exact N₁ p hp
      refine wpAny_mono (turn i v m' nx' h₁ tk₁ own₁ hlt hP e₁ hnx' hJ' F₁ N₂) (fun _ s₃ h₃ => wpAny_mono h₃ (fun f s₄ h₄ => ?_) hE) hE
      have fin : ∀ {h₅ : Heap} {tk₅ m₅ nx₅}, Fr h₀ L h₅ m₅ → News h₀ L h₅ (own₁ ++ nx₅) → (∀ p ∈ nx₅, p.1 ∉ wr) → J (i + 1) m₅ nx₅ → ∃ m, m < n + 1 - i ∧ (fun k s' => ∃ h' tk m' nx' own i, s' = { s₂ with heap := h', toks := tk } ∧ St i h' ∧ own.map (·.1) = wr ∧ Fr h₀ L h' m' ∧ News h₀ L h' (own ++ nx') ∧ (∀ p ∈ nx', p.1 ∉ wr) ∧ J i m' nx' ∧ i ≤ n ∧ k = n + 1 - i) m { s₂ with heap := h₅, toks := tk₅ } := by
        intro h₅ tk₅ m₅ nx₅ F₅ N₅ ha j
        refine ⟨n + 1 - (i + 1), by omega, h₅, tk₅, m₅, nx₅, own₁, i + 1, rfl, ?_, e₁, F₅, N₅, ha, j, hlt, rfl⟩
        refine W.frame _ _ _ hst₁ fun b hb o e => ?_
        rcases hfp b hb with hb | ⟨o', ho'⟩
        · have hb' : b ∈ own₁.map (·.1) := e₁ ▸ hb
          obtain ⟨p, hp, rfl⟩ := List.mem_map.mp hb'
          have h6 := hown₁ p hp
          rw [e] at h6; cases h6
          exact (N₅ p (List.mem_append_left _ hp)).1
        · have h6 := F₁.keep b o' ho'
          rw [e] at h6; cases h6
          exact F₅.keep b _ ho'
      cases f with
      | brk => exact hB _ h₄
      | ret v => exact hRt _ _ h₄
      | next =>
        obtain ⟨h₅, tk₅, m₅, nx₅, rfl, F₅, N₅, ha, j⟩ := h₄
        exact fin F₅ N₅ ha j
      | cont =>
        obtain ⟨h₅, tk₅, m₅, nx₅, rfl, F₅, N₅, ha, j⟩ := h₄
        exact fin F₅ N₅ ha j
    · have hin : i = n := by omega
      subst hin
      refine W.done _ _ _ hst' fun h₁ tk₁ hk₁ => ?_
      obtain ⟨F₁, N₁⟩ := next h₁ hk₁
      exact wpAny_passesOwn hE (done m' nx' h₁ tk₁ F₁ N₁ hJ')
  · obtain ⟨own, e, hown⟩ := own_of (hlive _ _ hst)
    refine ⟨s₂.heap, s₂.toks, m, nx, own, 0, rfl, hst, e, F, fun p hp => ?_, hnx, hJ, Nat.zero_le _, rfl⟩
    rcases List.mem_append.mp hp with hp | hp
    · have hb : p.1 ∈ wr := e ▸ List.mem_map_of_mem hp
      exact ⟨hown p hp, (hwr _ hb).2, (hwr _ hb).1⟩
    · exact N p hp

/-- a for over a range -/
theorem at_range {target : Expr} {body orelse : List Stmt} {r : Addr} {a₀ b₀ : Int} {t₀ u₀ v₀ : Tok} {n : Nat} {m : Str → Option Value} {nx : List (Addr × Obj)}
    (J : Nat → (Str → Option Value) → List (Addr × Obj) → Prop) (B : Shared → Prop) (Rt : Value → Shared → Prop)
    (hh : A.handled = none) (hr : IsRange s.heap r a₀ b₀ 1 t₀ u₀ v₀) (hsmall : Builtin.Range.small a₀ b₀ 1 = true) (hn : Builtin.Range.rangeSize a₀ b₀ 1 = (n : Int))
    (F : Fr h₀ L s.heap m) (N : News h₀ L s.heap nx) (hJ : J 0 m nx)
    (turn : ∀ I i t m₁ nx₁ h tk oI, i < n → (∀ p ∈ nx₁, p.1 ≠ I) → s.heap.get? I = none → J i m₁ nx₁ → Fr h₀ L h m₁ → News h₀ L h ((I, oI) :: nx₁) →
      wpAny (model prog w) A (assign target env (.int (a₀ + (i : Int)) t)) (fun _ s₂ => wpAny (model prog w) A (execs body env) (FStep h₀ L s [(I, oI)] [I] (J (i + 1)) B Rt) E s₂) E { s with heap := h, toks := tk })
    (done : ∀ m' nx' h' tk, Fr h₀ L h' m' → News h₀ L h' nx' → J n m' nx' → wpAny (model prog w) A (execs orelse env) Q E { s with heap := h', toks := tk })
    (hB : ∀ s', B s' → Q .next s') (hRt : ∀ v s', Rt v s' → Q (.ret v) s') :
    wpAny (model prog w) A (pyIter (.ref r)) (fun it s₂ => ForAt prog w A E Q env target body orelse h₀ L it s₂) E s := by
  refine wpAny_pyIter_range hr hsmall ?_
  have W : Walks prog w A s.heap.objs.size [s.heap.objs.size] [s.heap.objs.size] n (fun i v => i < n ∧ ∃ t, v = .int (a₀ + i * 1) t)
      (fun i h => IsRangeIter h s.heap.objs.size (a₀ + (i : Nat) * 1) ((n : Int) - (i : Nat)) 1) := (Walks.range hh _ a₀ 1 n).bound
  have hnew : s.heap.get? s.heap.objs.size = none := by
    cases q : s.heap.get? s.heap.objs.size with
    | none => rfl
    | some o => exact absurd (Heap.lt_size q) (Nat.lt_irrefl _)
  have hold : ∀ p ∈ nx, p.1 ∉ [s.heap.objs.size] := fun p hp hm => by
    have := (N p hp).1
    rw [List.mem_singleton.mp hm, hnew] at this; cases this
  refine ⟨_, _, _, n, _, _, m, nx, J, B, Rt, rfl, W, ?_, ?_, ?_, (by show IsRangeIter _ _ _ _ _; rw [hn]; simpa using Heap.get?_push_size _ rfl), F.push _, (fun p hp => ⟨Heap.get?_push_of_some _ (N p hp).1, (N p hp).2⟩), hold, hJ, ?_, ?_, hB, hRt⟩
  · intro b hb
    rw [List.mem_singleton.mp hb]
    refine ⟨?_, Nat.ne_of_gt F.ns.lt⟩
    cases q : h₀.get? s.heap.objs.size with
    | none => rfl
    | some o => have := F.keep _ _ q; rw [hnew] at this; cases this
  · intro i h st b hb
    rw [List.mem_singleton.mp hb]
    exact ⟨_, st⟩
  · intro b hb; exact .inl hb
  · rintro i v m₁ nx₁ h tk own hlt ⟨_, t, rfl⟩ hown hne hJ₁ F₁ N₁
    obtain ⟨oI, rfl⟩ := own_one hown
    have e1 : a₀ + (i : Int) * 1 = a₀ + (i : Int) := by omega
    rw [e1]
    exact turn _ i t m₁ nx₁ h tk oI hlt (fun p hp e => hne p hp (List.mem_singleton.mpr e)) hnew hJ₁ F₁ N₁
  · exact fun m' nx' h' tk F' N' j => done m' nx' h' tk F' N' j
end
end Mine
end

section
theorem Mine.calm_Ends : True := by
  w_top off
  trivial
open PySem PySem.W PyProof.Rows PySem.Spec PySem.Calls
set_option Elab.async false
namespace Mine

local macro_rules | `(tactic| walk_at "eval ListComp") => `(tactic| refine halt ?_)
local macro_rules | `(tactic| walk_at "call builtin:min") => `(tactic| refine halt ?_)
local macro_rules | `(tactic| walk_at "compareOp Eq ref ref") => `(tactic| refine halt ?_)
local macro_rules | `(tactic| walk_at "exec While") => `(tactic| refine halt ?_)
local macro_rules | `(tactic| walk_at "subscriptTail") => `(tactic| ((with_reducible show wpAny _ _ (subscriptTail _ _ (Value.ref _) (Value.int _ _)) _ _ _); (refine item_base (by assumption) (by omega) (by omega) rfl ?_)))
local macro_rules | `(tactic| walk_at "call builtin:len") => `(tactic| ((with_reducible show wpAny _ _ (call (Value.builtin "len") [Value.str _ _]) _ _ _); refine len_str (by omega) ?_))
local macro_rules | `(tactic| walk_at "subscriptTail") => `(tactic| ((with_reducible show wpAny _ _ (subscriptTail _ _ (Value.str _ _) (Value.int _ _)) _ _ _); (refine item_str (fitsSsize_of (N := 9223372036854775808) (by omega) (by omega) (Int.le_refl _)) (by omega) (by omega) ?_); intro _))
set_option maxRecDepth 100000 in
set_option maxHeartbeats 8000000 in

theorem ends_spec {w : World} {p : Program} {loose : List Str} {mean : ExcName → Option Value} {mg mb : Str → Option Value}
    {dp un : Nat} {gd : Option (List Code)} {cn : Str} {cs : Scope} {a : Addr} {ccd : Value} {cl : List (Str × Addr)} {outer : List Env} {A₀ : Around} {base h₀ : Heap} {L : Addr} {m : Str → Option Value} {s : Shared}
    {Q E : Value → Shared → Prop} (B : Below A₀ base outer h₀) (F : Fr h₀ L s.heap m) (X : (hd.heap_39 w.params).In h₀) (T : Top p loose mean mg mb h₀) (hk : cs.kind = .function)
    (hd : dp + 10 < recursionLimit) (hu : un + 200 < cLine)
  (t : Addr) (x0 : Str × Tok) (xs : List (Str × Tok)) (hl : s.heap.IsList t (vtx (x0 :: xs)).toArray)
  (hx : ∀ x ∈ x0 :: xs, Low x.1) (hn4 : xs.length ≤ 3)
  (ret : ∀ r h' tk' (k j : Nat) (tk tj : Tok) (M : Int), s.heap.StaysIn h' → s.heap.get? r = none → h'.get? r = some (tupOf [.int k tk, .int j tj]) →
     M ∈ (x0 :: xs).map (fun x => (x.1.length : Int)) → (∀ a ∈ (x0 :: xs).map (fun x => (x.1.length : Int)), M ≤ a) → Off selA (x0 :: xs) x0.1 M k → Off selB (x0 :: xs) x0.1 M j → Q (.ref r) { s with heap := h', toks := tk' }) :
  wpAny (model PySem.Challenge.rw_fu0023_01.row.prog w) (ktrTop dp un gd cn cs L a ccd cl outer) (call (.ref 291) [.ref t]) Q E s := by
  revert X; k_fill; intro X
  have N : News h₀ L s.heap [] := News.nil
  refine wpAny_call ?_
  k_dflt (refine' enter_cells ?k1 ?k2 ?k3 ?k4 ?k5 ?kA ?kF ?kK ?k6 ?k7 ?k8 ?k9 ?kB ?kD ?_ ?c2 ?c3 ?c4; (case kA => exact rfl); (case kF => exact rfl); (case kK => first | exact rfl | assumption); (case k1 => k_asm); (case k2 => k_asm); (case k3 => k_asm); (case k4 => k_asm); (case k5 => k_asm); (case k6 => k_is); (case k7 => k_is); (case k8 => ktr_room); (case k9 => first | exact BindsTo.of_eq rfl | exact binds_K (by k_in) rfl (by k_is) rfl rfl rfl | fail "k_enter: no rule for these arguments"); (case kB => exact rfl); (case kD => decide +kernel); (case c2 => exact rfl); (case c3 => exact rfl); (case c4 => exact rfl); k_whole); intro g L1 h1 tk1 cells1 FG F1 N1 Y1 B1 X1 T1 l1 NT; (try k_lt l1)
  obtain ⟨ob, oa, ot, hE, cb, ca, ct⟩ := CellsAre.three Y1
  subst hE
  clear Y1
  replace cb : ob.data = .cell none := cb
  replace ca : oa.data = .cell none := ca
  replace ct : ot.data = .cell (some (.ref t)) := ct
  simp only [List.cons_append, List.nil_append] at N1
  replace F1 : Fr g L1 h1 (fun _ => none) := F1
  have hgl : g.IsList t (vtx (x0 :: xs)).toArray := hl.at fun o e => NT.back g (fun _ _ e => e) (fun _ hp => nomatch hp) t o e
  have hl1 : h1.IsList t (vtx (x0 :: xs)).toArray := hgl.at fun o e => F1.keep t o e
  all_goals (try k_fold)
  k_steps
  refine go (comp_base (ax := t) (vs := vtx (x0 :: xs)) (fun _ => true) (fun v y => ∃ a t u, v = .str a t ∧ y = .int (a.length : Int) u) ?hit ?hl ?hsz ?tests ?elt ?hQ rfl (by decide) rfl (by decide) rfl rfl)
  case hit => intro Q' hq; k_steps; exact hq
  case hl => exact hl1
  case hsz => rw [List.length_map]; exact Nat.le_trans (Nat.succ_le_succ hn4) (by decide)
  case tests => intro C v s3 m3 E' hC hv hn3 hm hk3; exact wpAny_tests_nil (.mk rfl fun _ _ e => e)
  case elt =>
    intro C v s3 m3 E' hC hv _ hn3 hm hk3
    obtain ⟨x, hx1, rfl⟩ := List.mem_map.mp hv
    have hlen := (hx x hx1).short
    obtain ⟨F3, N3⟩ := in_comp F1 N1 hC hn3 hk3
    k_steps
    exact .mk ⟨_, _, _, rfl, rfl⟩ fun _ _ e => e
  intro D ys h2 tk2 hD hpl hys hk2
  obtain ⟨F2, N2⟩ : Fr g L1 h2 _ ∧ News g L1 h2 _ := ⟨F1.keeps hk2, N1.grown hk2⟩
  clear F1 N1
  have hI := ints_of_lens (ys := ys.toList) (xs := x0 :: xs) (by rw [List.filter_eq_self.mpr (fun _ _ => rfl)] at hys; exact hys)
  have hDl : h2.IsList D ys.toList.toArray := by simpa using hpl.isList
  have hl2 : h2.IsList t (vtx (x0 :: xs)).toArray := hl1.at fun o e => hk2 t o e
  k_steps
  refine go (min_list_N rfl F2 N2 hDl hI (by simp) ?_)
  intro h3 M tM tk3 F3 N3 hM1 hM2
  clear hpl hys hI hDl hk2 F2 N2 hl2
  k_steps
  rename Fr _ _ _ _ => F4
  rename News _ _ _ _ => N4
  rename _ = Data.cell (some (Value.int 0 _)) => d4
  have hM0 : 0 ≤ M := by
    obtain ⟨x, _, rfl⟩ := List.mem_map.mp hM1
    exact Int.natCast_nonneg _
  refine go (while_cut (EndJ selA (x0 :: xs) x0.1 M (fun o => [(L1 + 1 + 1 + 1, ob), (L1 + 1 + 1, o), (L1 + 1, ot)]) (fun y => if y = Str.ofString "least" then some (Value.int M tM) else none)) (EndP selA (x0 :: xs) x0.1 M (fun o => [(L1 + 1 + 1 + 1, ob), (L1 + 1 + 1, o), (L1 + 1, ot)]) (fun y => if y = Str.ofString "least" then some (Value.int M tM) else none)) M.toNat F4 N4 ⟨0, _, _, by omega, rfl, d4, rfl, fun i hi => absurd hi (Nat.not_lt_zero _)⟩ ?turn2 ?done2)
  case turn2 =>
    clear F4 N4 d4
    rintro n m1 nx hh tkk F5 N5 ⟨k, tk, oa', hn, rfl, co, rfl, hag⟩
    replace N5 : News g L1 hh [(L1 + 1 + 1 + 1, ob), (L1 + 1 + 1, oa'), (L1 + 1, ot)] := N5
    have hlh : hh.IsList t (vtx (x0 :: xs)).toArray := hgl.at fun o e => F5.keep t o e
    k_steps
    · refine go (comp_base (ax := t) (vs := vtx (x0 :: xs)) (offs selA x0.1 k) (fun v y => y = v) ?hit2 ?hl2 ?hsz2 ?tests2 ?elt2 ?hQ2 rfl (by decide) rfl (by decide) rfl rfl)
      case hit2 => intro Q' hq; k_steps; exact hq
      case hl2 => exact hlh
      case hsz2 => rw [List.length_map]; exact Nat.le_trans (Nat.succ_le_succ hn4) (by decide)
      case tests2 =>
        intro C v s3 m3 E' hC hv hn3 hm hk3
        obtain ⟨x, hx1, rfl⟩ := List.mem_map.mp hv
        have hlen := (hx x hx1).short
        have hMx := hM2 _ (List.mem_map_of_mem hx1)
        have hM0 := hM2 _ (List.mem_map_of_mem (List.mem_cons_self ..))
        have hlen0 := (hx x0 (List.mem_cons_self ..)).short
        obtain ⟨F3, N3⟩ := in_comp F5 N5 hC hn3 hk3
        have hl3 : s3.heap.IsList t (vtx (x0 :: xs)).toArray := hlh.at fun o e => hk3 t o e
        refine wpAny_tests_one ?_
        k_steps
        exact .mk rfl fun _ _ e => e
      case elt2 => 
        intro C v s3 m3 E' hC hv hp hn3 hm hk3
        obtain ⟨F3, N3⟩ := in_comp F5 N5 hC hn3 hk3
        k_steps
        all_goals exact .mk rfl fun _ _ e => e
      intro D ys h6 tk6 hD hpl hys hk6
      rw [filter_vtx] at hys
      have hys' := paired_eq hys
      have hys2 : ys = (vtx ((x0 :: xs).filter fun x => offs selA x0.1 k (.str x.1 x.2))).toArray := by rw [← hys']
      subst hys2
      obtain ⟨ep, hpl⟩ := hpl
      obtain ⟨F6, N6, hne⟩ := news_made F5 N5 hk6 hD hpl
      clear F5 N5 hys hys' hpl
      k_steps
      rename Fr _ _ _ _ => F7
      rename News _ _ _ _ => N7
      refine go (eq_nil (News.isList N7 (.tail _ (.head _))) (News.isList N7 (.head _)) (fun x hx' => hx x (List.mem_filter.mp hx').1) (by ktr_units) ?_)
      have N8 : News g L1 _ [(L1 + 1 + 1 + 1, ob), (L1 + 1 + 1, oa'), (L1 + 1, ot)] := fun p hp => N7 p (.tail _ (.tail _ hp))
      clear N7
      k_steps
      · rename Fr _ _ _ _ => F9
        rename News _ _ _ _ => N9
        rename _ = Data.cell (some (Value.int (_ + 1) _)) => d9
        rename List.filter _ _ = [] => hf
        exact .mk (n - 1) F9 N9 (by omega) ⟨k + 1, _, _, by omega, rfl, d9, rfl, agree_succ hag (offs_nil hf)⟩
      · rename ¬ List.filter _ _ = [] => hf
        exact .mk F7 N8 ⟨k, _, _, rfl, co, rfl, by omega, hag, .inr (offs_some hf)⟩
    · exact .mk F5 N5 ⟨k, _, _, rfl, co, rfl, by omega, hag, .inl (by omega)⟩
  clear F4 N4 d4

  rintro m5 nx5 h5 tk5 F5 N5 ⟨ka, tka, oa1, rfl, coa, rfl, hka⟩
  replace N5 : News g L1 h5 [(L1 + 1 + 1 + 1, ob), (L1 + 1 + 1, oa1), (L1 + 1, ot)] := N5
  k_steps
  rename Fr _ _ _ _ => F4
  rename News _ _ _ _ => N4
  rename _ = Data.cell (some (Value.int 0 _)) => d4
  refine go (while_cut (EndJ selB (x0 :: xs) x0.1 M (fun o => [(L1 + 1 + 1 + 1, o), (L1 + 1 + 1, oa1), (L1 + 1, ot)]) (fun y => if y = Str.ofString "least" then some (Value.int M tM) else none)) (EndP selB (x0 :: xs) x0.1 M (fun o => [(L1 + 1 + 1 + 1, o), (L1 + 1 + 1, oa1), (L1 + 1, ot)]) (fun y => if y = Str.ofString "least" then some (Value.int M tM) else none)) M.toNat F4 N4 ⟨0, _, _, by omega, rfl, d4, rfl, fun i hi => absurd hi (Nat.not_lt_zero _)⟩ ?turn3 ?done3)
  case turn3 =>
    clear F4 N4 d4
    rintro n m1 nx hh tkk F5 N5 ⟨k, tk, oa', hn, rfl, co, rfl, hag⟩
    replace N5 : News g L1 hh [(L1 + 1 + 1 + 1, oa'), (L1 + 1 + 1, oa1), (L1 + 1, ot)] := N5
    have hlh : hh.IsList t (vtx (x0 :: xs)).toArray := hgl.at fun o e => F5.keep t o e
    k_steps
    · refine go (comp_base (ax := t) (vs := vtx (x0 :: xs)) (offs selB x0.1 k) (fun v y => y = v) ?hit3 ?hl3 ?hsz3 ?tests3 ?elt3 ?hQ3 rfl (by decide) rfl (by decide) rfl rfl)
      case hit3 => intro Q' hq; k_steps; exact hq
      case hl3 => exact hlh
      case hsz3 => rw [List.length_map]; exact Nat.le_trans (Nat.succ_le_succ hn4) (by decide)
      case tests3 =>
        intro C v s3 m3 E' hC hv hn3 hm hk3
        obtain ⟨x, hx1, rfl⟩ := List.mem_map.mp hv
        have hlen := (hx x hx1).short
        have hMx := hM2 _ (List.mem_map_of_mem hx1)
        have hM0 := hM2 _ (List.mem_map_of_mem (List.mem_cons_self ..))
        have hlen0 := (hx x0 (List.mem_cons_self ..)).short
        obtain ⟨F3, N3⟩ := in_comp F5 N5 hC hn3 hk3
        have hl3 : s3.heap.IsList t (vtx (x0 :: xs)).toArray := hlh.at fun o e => hk3 t o e
        refine wpAny_tests_one ?_
        k_steps
        exact .mk rfl fun _ _ e => e
      case elt3 => 
        intro C v s3 m3 E' hC hv hp hn3 hm hk3
        obtain ⟨F3, N3⟩ := in_comp F5 N5 hC hn3 hk3
        k_steps
        all_goals exact .mk rfl fun _ _ e => e
      intro D ys h6 tk6 hD hpl hys hk6
      rw [filter_vtx] at hys
      have hys' := paired_eq hys
      have hys2 : ys = (vtx ((x0 :: xs).filter fun x => offs selB x0.1 k (.str x.1 x.2))).toArray := by rw [← hys']
      subst hys2
      obtain ⟨ep, hpl⟩ := hpl
      obtain ⟨F6, N6, hne⟩ := news_made F5 N5 hk6 hD hpl
      clear F5 N5 hys hys' hpl
      k_steps
      rename Fr _ _ _ _ => F7
      rename News _ _ _ _ => N7
      refine go (eq_nil (News.isList N7 (.tail _ (.head _))) (News.isList N7 (.head _)) (fun x hx' => hx x (List.mem_filter.mp hx').1) (by ktr_units) ?_)
      have N8 : News g L1 _ [(L1 + 1 + 1 + 1, oa'), (L1 + 1 + 1, oa1), (L1 + 1, ot)] := fun p hp => N7 p (.tail _ (.tail _ hp))
      clear N7
      k_steps
      · rename Fr _ _ _ _ => F9
        rename News _ _ _ _ => N9
        rename _ = Data.cell (some (Value.int (_ + 1) _)) => d9
        rename List.filter _ _ = [] => hf
        exact .mk (n - 1) F9 N9 (by omega) ⟨k + 1, _, _, by omega, rfl, d9, rfl, agree_succ hag (offs_nil hf)⟩
      · rename ¬ List.filter _ _ = [] => hf
        exact .mk F7 N8 ⟨k, _, _, rfl, co, rfl, by omega, hag, .inr (offs_some hf)⟩
    · exact .mk F5 N5 ⟨k, _, _, rfl, co, rfl, by omega, hag, .inl (by omega)⟩
  clear F4 N4 d4

  rintro m5 nx5 h5 tk5 F5 N5 ⟨kb, tkb, ob1, rfl, cob, rfl, hkb⟩
  replace N5 : News g L1 h5 [(L1 + 1 + 1 + 1, ob1), (L1 + 1 + 1, oa1), (L1 + 1, ot)] := N5
  k_steps
  rename Fr _ _ _ _ => F9
  rename News _ _ _ _ => N9
  exact ret _ _ _ ka kb tka tkb M (NT.back _ F9.keep (fun _ hp => nomatch hp)) (NT.fresh _ (N9 _ (.head _)).2.2 (fun _ hp => nomatch hp)) (N9 _ (.head _)).1 hM1 hM2 hka hkb
end Mine
end

section
theorem Mine.calm_Most : True := by
  w_top off
  trivial
open PySem PySem.W PyProof.Rows PySem.Spec PySem.Calls
set_option Elab.async false
namespace Mine

local macro_rules | `(tactic| walk_at "eval ListComp") => `(tactic| refine halt ?_)
local macro_rules | `(tactic| walk_at "compareOp Eq ref ref") => `(tactic| refine halt ?_)
local macro_rules | `(tactic| walk_at "eval Name") => `(tactic| ((with_reducible show wpAny _ _ (eval (Expr.Name _ _) (compEnvC _ _ _ _)) _ _ _); (refine' name_comp ?F ?m ?_ ?a ?b ?c; (case F => assumption); (case m => assumption); (case a => rfl); (case b => rfl); (case c => decide))))
local macro_rules | `(tactic| walk_at "exec While") => `(tactic| refine halt ?_)
local macro_rules | `(tactic| walk_at "exec For") => `(tactic| refine halt ?_)
local macro_rules | `(tactic| walk_at "pyIter ref") => `(tactic| refine halt ?_)
local macro_rules | `(tactic| walk_at "subscriptTail") => `(tactic| ((with_reducible show wpAny _ _ (subscriptTail _ _ (Value.ref _) (Value.int _ _)) _ _ _); (refine item_base (by assumption) (by omega) (by omega) rfl ?_)))
local macro_rules | `(tactic| walk_at "subscriptTail") => `(tactic| ((with_reducible show wpAny _ _ (subscriptTail _ (Expr.Slice _ _ none _) (Value.str _ _) (Value.ref _)) _ _ _); ((with_reducible rename Fr _ _ _ _ => F'); (with_reducible rename News _ _ _ _ => N'); (first | refine' sl_ss (s := ⟨_, _, _, _, _⟩) ?_ ?hsz | refine' sl_ns (s := ⟨_, _, _, _, _⟩) ?_ ?hsz | refine' sl_sn (s := ⟨_, _, _, _, _⟩) ?_ ?hsz); (case hsz => (rw [sizeLine_eq]; omega)); intro h' t' k' hk' _; (have F2' := Fr.keeps F' hk'); (have N2' := News.grown N' hk'))))
local macro_rules | `(tactic| walk_at "call builtin:len") => `(tactic| ((with_reducible show wpAny _ _ (call (Value.builtin "len") [Value.str _ _]) _ _ _); refine len_str (by omega) ?_))

def MostJ (xs : List (Str × Tok)) (x0 : Str) (led : Obj → Obj → List (Addr × Obj)) (i : Nat) (m : Str → Option Value) (nx : List (Addr × Obj)) : Prop :=
  ∃ (k : Nat) (tk : Tok) (oi om : Obj), nx = led oi om ∧ om.data = .cell (some (.int k tk)) ∧ (∃ v, oi.data = .cell v) ∧ m = (fun _ => none) ∧ MostW xs x0 k i
def MostJ2 (xs : List (Str × Tok)) (x0 : Str) (i : Nat) (led : Obj → List (Addr × Obj)) (n : Nat) (m : Str → Option Value) (nx : List (Addr × Obj)) : Prop :=
  ∃ (k : Nat) (tk : Tok) (om : Obj), n = x0.length - (i + k) ∧ nx = led om ∧ om.data = .cell (some (.int k tk)) ∧ m = (fun _ => none) ∧ MostW xs x0 k i
def MostP2 (xs : List (Str × Tok)) (x0 : Str) (i : Nat) (led : Obj → List (Addr × Obj)) (m : Str → Option Value) (nx : List (Addr × Obj)) : Prop :=
  ∃ (k : Nat) (tk : Tok) (om : Obj), nx = led om ∧ om.data = .cell (some (.int k tk)) ∧ m = (fun _ => none) ∧ MostW xs x0 k (i + 1)
set_option maxRecDepth 100000 in
set_option maxHeartbeats 8000000 in

theorem most_spec {w : World} {p : Program} {loose : List Str} {mean : ExcName → Option Value} {mg mb : Str → Option Value}
    {dp un : Nat} {gd : Option (List Code)} {cn : Str} {cs : Scope} {a : Addr} {ccd : Value} {cl : List (Str × Addr)} {outer : List Env} {A₀ : Around} {base h₀ : Heap} {L : Addr} {m : Str → Option Value} {s : Shared}
    {Q E : Value → Shared → Prop} (B : Below A₀ base outer h₀) (F : Fr h₀ L s.heap m) (X : (hd.heap_39 w.params).In h₀) (T : Top p loose mean mg mb h₀) (hk : cs.kind = .function)
    (hd : dp + 10 < recursionLimit) (hu : un + 200 < cLine)
  (t : Addr) (x0 : Str × Tok) (xs : List (Str × Tok)) (hl : s.heap.IsList t (vtx (x0 :: xs)).toArray)
  (hx : ∀ x ∈ x0 :: xs, Low x.1) (hn4 : xs.length ≤ 3)
  (ret : ∀ h' tk' (k : Nat) (tk : Tok), s.heap.StaysIn h' → MostW (x0 :: xs) x0.1 k x0.1.length → Q (.int k tk) { s with heap := h', toks := tk' }) :
  wpAny (model PySem.Challenge.rw_fu0023_01.row.prog w) (ktrTop dp un gd cn cs L a ccd cl outer) (call (.ref 286) [.ref t]) Q E s := by
  revert X; k_fill; intro X
  have N : News h₀ L s.heap [] := News.nil
  refine wpAny_call ?_
  k_dflt (refine' enter_cells ?k1 ?k2 ?k3 ?k4 ?k5 ?kA ?kF ?kK ?k6 ?k7 ?k8 ?k9 ?kB ?kD ?_ ?c2 ?c3 ?c4; (case kA => exact rfl); (case kF => exact rfl); (case kK => first | exact rfl | assumption); (case k1 => k_asm); (case k2 => k_asm); (case k3 => k_asm); (case k4 => k_asm); (case k5 => k_asm); (case k6 => k_is); (case k7 => k_is); (case k8 => ktr_room); (case k9 => first | exact BindsTo.of_eq rfl | exact binds_K (by k_in) rfl (by k_is) rfl rfl rfl | fail "k_enter: no rule for these arguments"); (case kB => exact rfl); (case kD => decide +kernel); (case c2 => exact rfl); (case c3 => exact rfl); (case c4 => exact rfl); k_whole); intro g L1 h1 tk1 cells1 FG F1 N1 Y1 B1 X1 T1 l1 NT; (try k_lt l1)
  obtain ⟨oi, om, ot, hE, ci, cm, ct⟩ := CellsAre.three Y1
  subst hE
  clear Y1
  replace ci : oi.data = .cell none := ci
  replace cm : om.data = .cell none := cm
  replace ct : ot.data = .cell (some (.ref t)) := ct
  simp only [List.cons_append, List.nil_append] at N1
  replace F1 : Fr g L1 h1 (fun _ => none) := F1
  have hgl : g.IsList t (vtx (x0 :: xs)).toArray := hl.at fun o e => NT.back g (fun _ _ e => e) (fun _ hp => nomatch hp) t o e
  have hlen0 := (hx x0 (List.mem_cons_self ..)).short
  all_goals (try k_fold)
  k_steps
  rename Fr _ _ _ _ => F2
  rename News _ _ _ _ => N2
  rename _ = Data.cell (some (Value.int 0 _)) => d2
  have hl2 := hgl.at fun o e => F2.keep t o e
  refine go (for_at g L1 ?_)
  k_steps
  rename IsRange _ _ _ _ _ _ _ _ => hr
  rename Fr _ _ _ _ => F3
  rename News _ _ _ _ => N3
  refine go (at_range (n := x0.1.length) (MostJ (x0 :: xs) x0.1 (fun oi om => [(L1 + 1 + 1 + 1, oi), (L1 + 1 + 1, om), (L1 + 1, ot)])) (fun _ => False) (fun _ _ => False) rfl hr (small_one (by omega) (by omega) (by omega) (by omega)) (rangeSize_one _) F3 N3
    ⟨0, _, _, _, rfl, d2, ⟨_, ci⟩, rfl, Nat.zero_le _, .inl rfl, fun j hj => absurd hj (Nat.not_lt_zero _)⟩ ?turn ?done (fun _ h => h.elim) (fun _ _ h => h.elim))
  case turn =>
    clear hr F3 N3 d2 hl2
    rintro I i ti m1 nx1 h4 tk4 oI hi hne hI ⟨k, tk, oi', om', rfl, cm', ⟨vi, ci'⟩, rfl, hM⟩ F4 N4
    replace hne := allNe_of hne; have hne0 := hne; simp only [AllNe, and_true] at hne
    replace N4 : News g L1 h4 [(I, oI), (L1 + 1 + 1 + 1, oi'), (L1 + 1 + 1, om'), (L1 + 1, ot)] := N4
    rw [Int.zero_add]
    k_steps
    rename Fr _ _ _ _ => F5
    rename News _ _ _ _ => N5
    rename _ = Data.cell (some (Value.int (i : Int) _)) => di
    rename Obj => oi2
    clear ci'
    refine go (while_cut (MostJ2 (x0 :: xs) x0.1 i (fun om => [(I, oI), (L1 + 1 + 1 + 1, oi2), (L1 + 1 + 1, om), (L1 + 1, ot)])) (MostP2 (x0 :: xs) x0.1 i (fun om => [(I, oI), (L1 + 1 + 1 + 1, oi2), (L1 + 1 + 1, om), (L1 + 1, ot)])) (x0.1.length - (i + k)) F5 N5 ⟨k, _, _, rfl, rfl, cm', rfl, hM⟩ ?turn2 ?done2)
    case turn2 =>
      clear cm' hM F5 N5
      rintro n m1 nx hh tkk F5 N5 ⟨k, tk, om', hn, rfl, co, rfl, hM⟩
      dsimp only at N5
      have hlh : hh.IsList t (vtx (x0 :: xs)).toArray := hgl.at fun o e => F5.keep t o e
      have hkl := hM.le
      k_steps
      · rename ((i : Int) + (k : Int) < _) => hik
        have hik : i + k < x0.1.length := by omega
        have hsl : ((i : Int) + (k : Int) + 1) = (i : Int) + ((k + 1 : Nat) : Int) := by omega
        refine go (comp_base (ax := t) (vs := vtx (x0 :: xs)) (notIn (Txt.slice x0.1 (some (i : Int)) (some ((i : Int) + ((k + 1 : Nat) : Int))))) (fun v y => y = v) ?hit ?hl ?hsz ?tests ?elt ?hQ rfl (by decide) rfl (by decide) rfl rfl)
        case hit => intro Q' hq; k_steps; exact hq
        case hl => exact hlh
        case hsz => rw [List.length_map]; exact Nat.le_trans (Nat.succ_le_succ hn4) (by decide)
        case tests =>
          intro C v s3 m3 E' hC hv hn3 hm hk3
          obtain ⟨x, hx1, rfl⟩ := List.mem_map.mp hv
          have hlen := (hx x hx1).short
          obtain ⟨F3, N3⟩ := in_comp F5 N5 hC hn3 hk3
          have hl3 : s3.heap.IsList t (vtx (x0 :: xs)).toArray := hlh.at fun o e => hk3 t o e
          refine wpAny_tests_one ?_
          k_steps
          rename Heap.StaysIn _ _ => hk9
          exact .mk (by rw [hsl]; rfl) hk9
        case elt => 
          intro C v s3 m3 E' hC hv hp hn3 hm hk3
          obtain ⟨F3, N3⟩ := in_comp F5 N5 hC hn3 hk3
          k_steps
          all_goals exact .mk rfl fun _ _ e => e
        intro D ys h6 tk6 hD hpl hys hk6
        rw [filter_vtx] at hys
        have hys' := paired_eq hys
        have hys2 : ys = (vtx ((x0 :: xs).filter fun x => notIn (Txt.slice x0.1 (some (i : Int)) (some ((i : Int) + ((k + 1 : Nat) : Int)))) (.str x.1 x.2))).toArray := by rw [← hys']
        subst hys2
        obtain ⟨ep, hpl⟩ := hpl
        obtain ⟨F6, N6, hne2⟩ := news_made F5 N5 hk6 hD hpl
        clear F5 N5 hys hys' hpl
        k_steps
        rename Fr _ _ _ _ => F7
        rename News _ _ _ _ => N7
        refine go (eq_nil (News.isList N7 (.tail _ (.head _))) (News.isList N7 (.head _)) (fun x hx' => hx x (List.mem_filter.mp hx').1) (by ktr_units) ?_)
        have N8 : News g L1 _ [(I, oI), (L1 + 1 + 1 + 1, oi2), (L1 + 1 + 1, om'), (L1 + 1, ot)] := fun p hp => N7 p (.tail _ (.tail _ hp))
        clear N7
        k_steps
        · rename Fr _ _ _ _ => F9
          rename News _ _ _ _ => N9
          rename _ = Data.cell (some (Value.int (_ + 1) _)) => d9
          rename List.filter _ _ = [] => hf
          exact .mk (x0.1.length - (i + (k + 1))) F9 N9 (by omega) ⟨k + 1, _, _, rfl, rfl, d9, rfl, hM.succ hik (notIn_nil hf)⟩
        · rename ¬ List.filter _ _ = [] => hf
          exact .mk F7 N8 ⟨k, _, _, rfl, co, rfl, hM.stop fun h => notIn_some hf h.2⟩
      · exact .mk F5 N5 ⟨k, _, _, rfl, co, rfl, hM.stop fun h => by omega⟩
    case done2 =>
      clear F5 N5 cm' hM
      rintro m5 nx5 h5 tk5 F5 N5 ⟨k', tk', om5, rfl, co5, rfl, hM5⟩
      dsimp only at N5
      k_steps
      exact .next (nx' := [(L1 + 1 + 1 + 1, oi2), (L1 + 1 + 1, om5), (L1 + 1, ot)]) F5 N5 (AllNe.off hne0) ⟨k', _, _, _, rfl, co5, ⟨_, di⟩, rfl, hM5⟩
  case done =>
    clear hr F3 N3 d2 hl2
    rintro m5 nx5 h5 tk5 F5 N5 ⟨k', tk', oi5, om5, rfl, co5, ⟨v5, ci5⟩, rfl, hM5⟩
    dsimp only at N5
    k_steps
    exact ret _ _ k' tk' (NT.back _ F5.keep (fun _ hp => nomatch hp)) hM5
end Mine
end

section
theorem Mine.calm_SetTup : True := by
  w_top off
  trivial
set_option maxRecDepth 100000
set_option Elab.async false
namespace Mine
open PySem PySem.W PySem.Spec PySem.Calls PyProof.Rows PySem.SeqAt

/-- the values without repetition, in the order met -/
def stepS (σ : List Str) (v : Str) : List Str := if σ.any (· == v) then σ else σ ++ [v]
def met (val : Nat → Str) (i : Nat) : List Str := ((List.range i).map val).foldl stepS []
theorem met_zero (val : Nat → Str) : met val 0 = [] := rfl
theorem met_succ (val : Nat → Str) (i : Nat) : met val (i + 1) = stepS (met val i) (val i) := by
  unfold met; rw [List.range_succ, List.map_append, List.foldl_append]; rfl
theorem met_le (val : Nat → Str) : ∀ i, (met val i).length ≤ i
  | 0 => Nat.le_refl _
  | i + 1 => by
    have ih := met_le val i
    rw [met_succ]; unfold stepS
    split
    · omega
    · rw [List.length_append, List.length_singleton]; omega
theorem stepS_any (σ : List Str) (v k : Str) : (stepS σ v).any (· == k) = (σ.any (· == k) || decide (k = v)) := by
  unfold stepS
  by_cases h : σ.any (· == v) = true
  · rw [if_pos h]
    by_cases e : k = v
    · subst e; rw [h]; simp
    · simp [e]
  · rw [if_neg h, List.any_append]
    by_cases e : k = v
    · subst e; simp
    · have hb : (v == k) = false := by simpa [beq_iff_eq] using (fun h' : v = k => e h'.symm)
      simp [hb, e]
theorem stepS_length (σ : List Str) (v : Str) : (stepS σ v).length = if σ.any (· == v) then σ.length else σ.length + 1 := by
  unfold stepS; split <;> simp

section
variable {prog : Program} {w : World} {A : Around} {R : Result → Shared → Prop} {I : Addr} {fp wr : List Addr} {G : Array GenState → Array GenState → Prop} {n : Nat} {P : Nat → Value → Prop} {St : Nat → Shared → Prop}

theorem set_loop (W : WalksS prog w A.in1 I fp wr G n P St) (S : Addr) (hSf : S ∉ fp)
    (val : Nat → Str) (hval : ∀ i v, P i v → ∃ t, v = .str (val i) t) (hb : n + 1 < scanBound) :
    ∀ (k i : Nat) (s : Shared), n - i = k → i ≤ n → St i s →
      s.heap.SetOf (strKind prog w) S (fun k' => (met val i).any (· == k')) (met val i).length →
      (∀ s', Moved (S :: wr) G s s' → s'.heap.SetOf (strKind prog w) S (fun k' => (met val n).any (· == k')) (met val n).length → R (.ok (.ret .none)) s') →
      codeAny (model prog w) A (.builtin "set.update.loop" ⟨[.ref S, .ref I], []⟩) R s := by
  have hSw : S ∉ wr := fun h => hSf (W.sub _ h)
  have hsub : ∀ b ∈ wr, b ∈ S :: wr := fun b hb => List.mem_cons_of_mem _ hb
  intro k
  induction k with
  | zero =>
    intro i s hk hi hst hS hR
    obtain rfl : i = n := by omega
    refine codeAny_builtin PyProof.Rows.F.entry_set_update_loop ?_
    rw [Around.under_plainId PyProof.Rows.F.plain_set_update_loop _]
    show wpAny _ A.in1 (pyNext (.ref I) >>= _) _ _ s
    refine wpAny_bind (W.done s _ _ hst fun s' hm => ?_)
    show wpAny _ A.in1 (ret Value.none) _ _ s'
    obtain ⟨o, es, ep, t, ho, rest⟩ := hS
    exact wpAny_pure (hR s' (hm.mono hsub) ⟨o, es, ep, t, hm.heap S _ hSw ho, rest⟩)
  | succ k ih =>
    intro i s hk hi hst hS hR
    have hlt : i < n := by omega
    refine codeAny_builtin PyProof.Rows.F.entry_set_update_loop ?_
    rw [Around.under_plainId PyProof.Rows.F.plain_set_update_loop _]
    show wpAny _ A.in1 (pyNext (.ref I) >>= _) _ _ s
    refine wpAny_bind (W.item i s _ _ hlt hst fun v s' hP hst' hm => ?_)
    obtain ⟨t, rfl⟩ := hval i v hP
    have hS' : s'.heap.SetOf (strKind prog w) S (fun k' => (met val i).any (· == k')) (met val i).length := by
      obtain ⟨o, es, ep, tb, ho, rest⟩ := hS
      exact ⟨o, es, ep, tb, hm.heap S _ hSw ho, rest⟩
    show wpAny _ A.in1 (holding [Value.str (val i) t] (setAdd S (.str (val i) t)) >>= _) _ _ s'
    refine wpAny_bind (wpAny_holding ?_)
    unfold setAdd
    refine wpAny_holding ?_
    refine wpAny_bind ((strKind prog w).pyHash (k := val i) (strKind_is _ _ _ _) ?_)
    have hroom : (met val i).length + 1 < scanBound := by have := met_le val i; omega
    refine wpAny_setAddHashed_of (knd := strKind prog w) (s := { s' with toks := s'.toks + 1 }) (strKind_is _ _ _ _) rfl hS' hroom fun h' hsb hS2 => ?_
    have hSi : h'.SetOf (strKind prog w) S (fun k' => (met val (i + 1)).any (· == k')) (met val (i + 1)).length := by
      have e1 : (fun k' => (met val i).any (· == k') || decide (k' = val i)) = fun k' => (met val (i + 1)).any (· == k') := by
        funext k'; rw [met_succ, stepS_any]
      have e2 : (if (met val i).any (· == val i) then (met val i).length else (met val i).length + 1) = (met val (i + 1)).length := by rw [met_succ, stepS_length]
      rw [← e1, ← e2]
      exact hS2
    refine wpAny_pure ⟨plainId_quiet PyProof.Rows.F.plain_set_update_loop _, ih (i + 1) _ (by omega) hlt (W.frame _ s' _ _ hst' (Nat.le_succ _) fun b hb o e => ?_) hSi fun s'' hm'' hS'' => ?_⟩
    · rw [hsb.2 b (fun h : b = S => hSf (by rw [← h]; exact hb))]; exact e
    · refine hR s'' (Moved.trans W.gtrans ((hm.mono hsub).then_heap (Nat.le_succ _) fun b o hb e => ?_) hm'') hS''
      rw [hsb.2 b (fun h : b = S => hb (by rw [h]; exact List.mem_cons_self))]; exact e
end

section
variable {prog : Program} {w : World} {A : Around} {E : Value → Shared → Prop} {s : Shared}
theorem sub_tuple_set : isSubtype (.type "tuple") (.type "set") = pure false := by rw [isSubtype_type]; kernel_rfl
theorem sub_tuple_frozenset : isSubtype (.type "tuple") (.type "frozenset") = pure false := by rw [isSubtype_type]; kernel_rfl

set_option maxRecDepth 100000 in
set_option maxHeartbeats 3200000 in
/-- set(a tuple of texts) -/
theorem set_of_tuple {l : Addr} {items : Array Value} {val : Nat → Str} {Q : Value → Shared → Prop}
    (hh : A.handled = none) (hl : s.heap.IsTuple l items) (hval : ∀ (i : Nat) (v : Value), items[i]? = some v → ∃ t, v = .str (val i) t) (hb : items.size + 1 < scanBound)
    (h : ∀ (S : Addr) (h' : Heap) (tk : Nat), s.heap.get? S = none → h'.SetOf (strKind prog w) S (fun k' => (met val items.size).any (· == k')) (met val items.size).length →
      s.heap.StaysIn h' → Q (.ref S) { s with heap := h', toks := tk }) :
    wpAny (model prog w) A (call (.type "set") [.ref l]) Q E s := by
  obtain ⟨c, tl, hmro⟩ := PySem.F.called_set.mro
  have hmade := PySem.F.called_set.made
  have hsub := PySem.F.called_set.sub
  refine wpAny_call (codeAny_of_tree ?_)
  show wpAny _ _ (callAny (.type "set") _) _ _ _
  refine wpAny_pure ⟨Code.quiet_builtin _ (by decide +kernel), codeAny_builtin PySem.F.entry_type_call ?_⟩
  rw [Around.under_plain (weight_type_call_type "set" [.ref l] []) rfl]
  have h1 := PySem.F.called_set.notType
  have h2 := PySem.F.called_set.canCreate
  have hct := PySem.F.typeCall_set_1 (.ref l)
  repeat (any_goals (first | assumption | wp_step))
  refine codeAny_mono (code_set_new_1 (.ref l) (E := E) (Q₁ := fun obj s₁ => ∃ led : Bool, obj = .ref s.heap.objs.size ∧ s₁ = { s with heap := s.heap.push { cls := .type "set", dict := none, data := .set #[] 0 (.fresh 0 0 led) } }) fun led => ⟨led, rfl, rfl⟩) fun r s₁ hr => ?_
  cases r with
  | error e => exact hr
  | ok fl =>
    cases fl with
    | ret obj =>
      obtain ⟨led, rfl, rfl⟩ := hr
      have hS : (s.heap.push { cls := .type "set", dict := none, data := .set #[] 0 (.fresh 0 0 led) }).get? s.heap.objs.size = some { cls := .type "set", dict := none, data := .set #[] 0 (.fresh 0 0 led) } := Heap.get?_push_size _ rfl
      have hT : Shared.TypeIs { s with heap := s.heap.push { cls := .type "set", dict := none, data := .set #[] 0 (.fresh 0 0 led) } } (.ref s.heap.objs.size) "set" := ⟨_, hS, rfl⟩
      have hli := PySem.F.called_set.init.lookup
      have hbi := PySem.F.called_set.init.bind (.ref s.heap.objs.size)
      repeat (any_goals (first | assumption | wp_step))
      refine codeAny_mono (codeAny_call_builtin (R := wants (fun r s₂ => r = .none ∧ ∃ h' tk, s₂ = { s with heap := h', toks := tk } ∧
          h'.SetOf (strKind prog w) s.heap.objs.size (fun k' => (met val items.size).any (· == k')) (met val items.size).length ∧ s.heap.StaysIn h') E) PySem.F.called_set.init.plain PySem.F.entry_set_init (check_set_init_1 hT ?_)) fun r₂ s₂ hr₂ => ?_
      · obtain ⟨ol, hol, hcl, nl, hdl⟩ := hl
        obtain ⟨ocls, odict, odata, oslots⟩ := ol
        simp only at hcl hdl
        subst hcl; subst hdl
        have hol' : (s.heap.push { cls := .type "set", dict := none, data := .set #[] 0 (.fresh 0 0 led) }).get? l = some { cls := .type "tuple", dict := odict, data := .seq items nl, slots := oslots } := Heap.get?_push_of_some _ hol
        have hsls := sub_tuple_set
        have hslf := sub_tuple_frozenset
        have hne : (Value.type "tuple" == Value.type "dict") = false := by decide
        have hl1 : (s.heap.push { cls := .type "set", dict := none, data := .set #[] 0 (.fresh 0 0 led) }).IsTuple l items := ⟨_, hol', rfl, nl, rfl⟩
        unfold Builtin.«set.__init__» noKeywords Builtin.Frozenset.updateFrom
        generalize hPI : pyIter = PI
        wp_walk
        subst hPI
        refine wpAny_pyIter_tuple hl1 ?_
        refine wpAny_bind (wpAny_runValue ?_)
        have hlS : l < s.heap.objs.size := Heap.lt_size hol
        have hh3 : A.in1.in1.in1.handled = none := by simp [hh]
        have hneI : l ≠ (s.heap.push { cls := .type "set", dict := none, data := .set #[] 0 (.fresh 0 0 led) }).objs.size := by
          rw [Heap.size_push]; exact Nat.ne_of_lt (Nat.lt_succ_of_lt hlS)
        have hSf : s.heap.objs.size ∉ [(s.heap.push { cls := .type "set", dict := none, data := .set #[] 0 (.fresh 0 0 led) }).objs.size, l] := by
          rw [Heap.size_push]; simp only [List.mem_cons, List.mem_singleton, List.not_mem_nil, or_false, not_or]
          exact ⟨Nat.ne_of_lt (Nat.lt_succ_self _), Nat.ne_of_gt hlS⟩
        refine set_loop ((Walks.tuple hh3 _ l hneI items).toS) s.heap.objs.size hSf val hval hb (items.size - 0) 0 _ (by omega) (Nat.zero_le _)
          ⟨⟨_, Heap.get?_push_size _ rfl, rfl, rfl⟩, hl1.at fun o e => Heap.get?_push_of_some _ e⟩ ?hS0 ?hR
        case hS0 =>
          have hget : ((s.heap.push { cls := .type "set", dict := none, data := .set #[] 0 (.fresh 0 0 led) }).push { cls := .type "tuple_iterator", data := .fields #[.ref l, .int 0 0] }).get? s.heap.objs.size
              = some { cls := .type "set", dict := none, data := .set #[] 0 (.fresh 0 0 led) } := Heap.get?_push_of_some _ hS
          have := (PyProof.Rows.setObjOf_fresh (knd := strKind prog w) led).setOf hget (by unfold scanBound; omega)
          exact this
        case hR =>
          intro s' hm hS'
          obtain ⟨h', g', d', tk', os'⟩ := s'
          have eg : g' = s.gens := hm.gens
          have ed : d' = s.drawn := hm.drawn
          have eo : os' = s.os := hm.os
          subst eg; subst ed; subst eo
          show wpAny _ _ _ _ _ _
          refine wpAny_pure ?_
          show wpAny _ _ (ret Value.none) _ _ _
          refine wpAny_pure ⟨rfl, h', tk', rfl, hS', fun b o e => ?_⟩
          have hb := Heap.lt_size e
          have hb1 : b ≠ s.heap.objs.size := Nat.ne_of_lt hb
          have hb2 : b ≠ (s.heap.push { cls := .type "set", dict := none, data := .set #[] 0 (.fresh 0 0 led) }).objs.size := by
            rw [Heap.size_push]; exact Nat.ne_of_lt (Nat.lt_succ_of_lt hb)
          exact hm.heap b o (by simp only [List.mem_cons, List.mem_singleton, List.not_mem_nil, or_false, not_or]; exact ⟨hb1, hb2⟩) (Heap.get?_push_of_some _ (Heap.get?_push_of_some _ e))
      · cases r₂ with
        | error e => exact hr₂
        | ok fl₂ =>
          cases fl₂ with
          | ret r =>
            obtain ⟨rfl, h', tk, rfl, hS', hk'⟩ := hr₂
            repeat (any_goals (first | assumption | wp_step))
            refine h _ _ _ ?_ hS' hk'
            cases q : s.heap.get? s.heap.objs.size with
            | none => rfl
            | some o => exact absurd (Heap.lt_size q) (Nat.lt_irrefl _)
          | _ => exact hr₂.elim
    | _ => exact hr.elim
end
end Mine
end

section
theorem Mine.calm_Ident : True := by
  w_top off
  trivial
open PySem PySem.SeqAt PySem.W PyProof.Rows PySem.Spec PySem.Calls
set_option Elab.async false
namespace Mine

local macro_rules | `(tactic| walk_at "call type:set") => `(tactic| refine halt ?_)
local macro_rules | `(tactic| walk_at "call builtin:len") => `(tactic| refine halt ?_)

def same (xs : List (Str × Tok)) : Bool := decide (((met (fun i => (xs.map (·.1)).getD i Str.empty) xs.length).length : Int) = 1)
theorem val_at (xs : List (Str × Tok)) (i : Nat) (v : Value) (h : (vtx xs).toArray[i]? = some v) : ∃ t, v = .str ((xs.map (·.1)).getD i Str.empty) t := by
  have h' : (vtx xs)[i]? = some v := by simpa using h
  rw [vtx, List.getElem?_map] at h'
  cases e : xs[i]? with
  | none => rw [e] at h'; cases h'
  | some x =>
    rw [e] at h'
    have hv : Value.str x.1 x.2 = v := by simpa using h'
    refine ⟨x.2, ?_⟩
    rw [List.getD_eq_getElem?_getD, List.getElem?_map, e, ← hv]
    rfl
set_option maxRecDepth 100000 in
set_option maxHeartbeats 8000000 in

theorem ident_spec2 {w : World} {p : Program} {loose : List Str} {mean : ExcName → Option Value} {mg mb : Str → Option Value}
    {dp un : Nat} {gd : Option (List Code)} {cn : Str} {cs : Scope} {a : Addr} {ccd : Value} {cl : List (Str × Addr)} {outer : List Env} {A₀ : Around} {base h₀ : Heap} {L : Addr} {m : Str → Option Value} {s : Shared}
    {Q E : Value → Shared → Prop} (B : Below A₀ base outer h₀) (F : Fr h₀ L s.heap m) (X : (hd.heap_39 w.params).In h₀) (T : Top p loose mean mg mb h₀) (hk : cs.kind = .function)
    (hd : dp + 10 < recursionLimit) (hu : un + 200 < cLine)
  (x0 x1 : Str × Tok)
  (ret : ∀ h' tk', s.heap.StaysIn h' → Q (.bool (same [x0, x1])) { s with heap := h', toks := tk' }) :
  wpAny (model PySem.Challenge.rw_fu0023_01.row.prog w) (ktrTop dp un gd cn cs L a ccd cl outer) (call (.ref 100) [.str x0.1 x0.2, .str x1.1 x1.2]) Q E s := by
  revert X; k_fill; intro X
  have N : News h₀ L s.heap [] := News.nil
  refine wpAny_call ?_
  k_dflt (refine' enter_rest ?k1 ?k2 ?k3 ?k4 ?k5 ?kA ?kF ?kK ?k6 ?k7 ?k8 ?kV ?kP ?kG ?kB ?_ ?c2 ?c3 ?c4 ?c5; (case kA => exact rfl); (case kF => exact rfl); (case kK => first | exact rfl | assumption); (case k1 => k_asm); (case k2 => k_asm); (case k3 => k_asm); (case k4 => k_asm); (case k5 => k_asm); (case k6 => k_is); (case k7 => k_is); (case k8 => ktr_room); (case kV => first | kl_lit | exact rfl); (case kP => exact rfl); (case kG => exact fun _ => rfl); (case kB => exact fun _ => locs rfl); (case c5 => decide); (case c2 => exact rfl); (case c3 => exact rfl); (case c4 => exact rfl); k_whole); intro D g L1 h1 FG F1 N1 B1 X1 T1 lD lD1 NT; (try k_lt lD); (try dsimp only)
  replace F1 : Fr g L1 h1 _ := lk1 ▸ F1
  have hs1 : s.heap.StaysIn h1 := NT.back h1 F1.keep (fun _ hp => nomatch hp)
  all_goals (try k_fold)
  k_steps
  refine go (set_of_tuple (l := D) (items := (vtx [x0, x1]).toArray) (val := fun i => ([x0, x1].map (·.1)).getD i Str.empty) rfl ?ht (val_at [x0, x1]) (by show _ < 4096; simp) ?_)
  case ht => exact ⟨_, (N1 _ (.head _)).1, rfl, _, rfl⟩
  intro S h2 tk2 hS hset hk2
  obtain ⟨o, es, ep, t, ho, hex, hdt, hel, hmem, hbb, hf, hnn⟩ := hset
  obtain ⟨F2, N2, hne⟩ := news_made F1 N1 hk2 hS ho
  clear F1 N1
  k_steps
  refine go (call_len_set ho hex hdt hf (by have : es.size < 4096 := hbb; omega) ?_)
  k_steps
  have e : ((es.size : Int) == 1) = same [x0, x1] := by
    unfold same
    rw [hnn]
    rfl
  rw [e]
  exact ret _ _ (fun b o e => hk2 b o (hs1 b o e))
set_option maxRecDepth 100000 in
set_option maxHeartbeats 8000000 in

theorem ident_spec3 {w : World} {p : Program} {loose : List Str} {mean : ExcName → Option Value} {mg mb : Str → Option Value}
    {dp un : Nat} {gd : Option (List Code)} {cn : Str} {cs : Scope} {a : Addr} {ccd : Value} {cl : List (Str × Addr)} {outer : List Env} {A₀ : Around} {base h₀ : Heap} {L : Addr} {m : Str → Option Value} {s : Shared}
    {Q E : Value → Shared → Prop} (B : Below A₀ base outer h₀) (F : Fr h₀ L s.heap m) (X : (hd.heap_39 w.params).In h₀) (T : Top p loose mean mg mb h₀) (hk : cs.kind = .function)
    (hd : dp + 10 < recursionLimit) (hu : un + 200 < cLine)
  (x0 x1 x2 : Str × Tok)
  (ret : ∀ h' tk', s.heap.StaysIn h' → Q (.bool (same [x0, x1, x2])) { s with heap := h', toks := tk' }) :
  wpAny (model PySem.Challenge.rw_fu0023_01.row.prog w) (ktrTop dp un gd cn cs L a ccd cl outer) (call (.ref 100) [.str x0.1 x0.2, .str x1.1 x1.2, .str x2.1 x2.2]) Q E s := by
  revert X; k_fill; intro X
  have N : News h₀ L s.heap [] := News.nil
  refine wpAny_call ?_
  k_dflt (refine' enter_rest ?k1 ?k2 ?k3 ?k4 ?k5 ?kA ?kF ?kK ?k6 ?k7 ?k8 ?kV ?kP ?kG ?kB ?_ ?c2 ?c3 ?c4 ?c5; (case kA => exact rfl); (case kF => exact rfl); (case kK => first | exact rfl | assumption); (case k1 => k_asm); (case k2 => k_asm); (case k3 => k_asm); (case k4 => k_asm); (case k5 => k_asm); (case k6 => k_is); (case k7 => k_is); (case k8 => ktr_room); (case kV => first | kl_lit | exact rfl); (case kP => exact rfl); (case kG => exact fun _ => rfl); (case kB => exact fun _ => locs rfl); (case c5 => decide); (case c2 => exact rfl); (case c3 => exact rfl); (case c4 => exact rfl); k_whole); intro D g L1 h1 FG F1 N1 B1 X1 T1 lD lD1 NT; (try k_lt lD); (try dsimp only)
  replace F1 : Fr g L1 h1 _ := lk1 ▸ F1
  have hs1 : s.heap.StaysIn h1 := NT.back h1 F1.keep (fun _ hp => nomatch hp)
  all_goals (try k_fold)
  k_steps
  refine go (set_of_tuple (l := D) (items := (vtx [x0, x1, x2]).toArray) (val := fun i => ([x0, x1, x2].map (·.1)).getD i Str.empty) rfl ?ht (val_at [x0, x1, x2]) (by show _ < 4096; simp) ?_)
  case ht => exact ⟨_, (N1 _ (.head _)).1, rfl, _, rfl⟩
  intro S h2 tk2 hS hset hk2
  obtain ⟨o, es, ep, t, ho, hex, hdt, hel, hmem, hbb, hf, hnn⟩ := hset
  obtain ⟨F2, N2, hne⟩ := news_made F1 N1 hk2 hS ho
  clear F1 N1
  k_steps
  refine go (call_len_set ho hex hdt hf (by have : es.size < 4096 := hbb; omega) ?_)
  k_steps
  have e : ((es.size : Int) == 1) = same [x0, x1, x2] := by
    unfold same
    rw [hnn]
    rfl
  rw [e]
  exact ret _ _ (fun b o e => hk2 b o (hs1 b o e))
end Mine
end

section
set_option maxRecDepth 100000
set_option Elab.async false
namespace Mine
open PySem PySem.W PySem.Spec PySem.Calls PyProof.Rows PySem.SeqAt

section
variable {prog : Program} {w : World} {A : Around} {E : Value → Shared → Prop} {s : Shared}

theorem nextOf_ascii {it : Addr} {x : Str} {t : Tok} {i c : Nat} {Q : Value → Shared → Prop} (hit : s.heap.IsStrIter it "str_ascii_iterator" x t i) (hx : x.cps[i]? = some c)
    (hQ : ∀ h', h'.IsStrIter it "str_ascii_iterator" x t (i + 1) → Heap.SameBut it s.heap h' → Q (.str ⟨#[c]⟩ s.toks) { s with heap := h', toks := s.toks + 1 }) :
    wpAny (model prog w) A (Builtin.SmallTypes.nextOf (.ref it)) Q E s := by
  obtain ⟨o, ho, hc, hd⟩ := id hit
  unfold Builtin.SmallTypes.nextOf
  refine wpAny_bind (wpAny_callSpecial?_slot (name := Str.ofString "__next__") hit.typeIs PySem.F.slot_str_ascii_iterator_next
    (wpAny_call_entry PySem.F.slot_str_ascii_iterator_next hit.typeIs PySem.F.entry_str_ascii_iterator_next ?_ (PySem.F.args_str_ascii_iterator_next_1 _)))
  show wpAny _ _ (field (.ref it) 0 >>= _) _ _ s
  refine wpAny_bind (wpAny_field ho hd (x := .str x t) rfl ?_)
  show wpAny _ _ (field (.ref it) 1 >>= _) _ _ s
  refine wpAny_bind (wpAny_field ho hd (x := .int i 0) rfl ?_)
  simp only [Int.toNat_natCast, hx]
  refine wpAny_bind (wpAny_setField ho hd (by simp) (wpAny_bind (wpAny_mkStr (wpAny_pure ⟨_, rfl, wpAny_pure (hQ _ ?_ (Heap.SameBut.update ..))⟩) (by show 1 ≤ sizeLine; decide))))
  exact ⟨_, Heap.get?_update_self _ ho (Obj.isFreed_of_fields (Obj.data_mapFields hd _)), (Obj.cls_mapFields ..).trans hc, by
    rw [Obj.data_mapFields hd]; simp [rawInt]⟩

theorem nextOf_ascii_end {it : Addr} {x : Str} {t : Tok} {i : Nat} {Q : Value → Shared → Prop} (hh : A.handled = none)
    (hit : s.heap.IsStrIter it "str_ascii_iterator" x t i) (hx : x.cps[i]? = none)
    (hE : ∀ h' e, Heap.ExtBut it s.heap h' → (∃ o, h'.get? e = some o ∧ o.cls = .type "StopIteration") → E (.ref e) { s with heap := h' }) : wpAny (model prog w) A (Builtin.SmallTypes.nextOf (.ref it)) Q E s := by
  obtain ⟨o, ho, hc, hd⟩ := id hit
  unfold Builtin.SmallTypes.nextOf
  refine wpAny_bind (wpAny_callSpecial?_slot (name := Str.ofString "__next__") hit.typeIs PySem.F.slot_str_ascii_iterator_next
    (wpAny_call_entry PySem.F.slot_str_ascii_iterator_next hit.typeIs PySem.F.entry_str_ascii_iterator_next ?_ (PySem.F.args_str_ascii_iterator_next_1 _)))
  show wpAny _ _ (field (.ref it) 0 >>= _) _ _ s
  refine wpAny_bind (wpAny_field ho hd (x := .str x t) rfl ?_)
  show wpAny _ _ (field (.ref it) 1 >>= _) _ _ s
  refine wpAny_bind (wpAny_field ho hd (x := .int i 0) rfl ?_)
  simp only [Int.toNat_natCast, hx]
  refine wpAny_bind (wpAny_rule (wpAny_bind (wpAny_setField ho hd (by simp) (wpAny_bind (wpAny_letGo ?_)))))
  show wpAny _ _ (newExc (.type "StopIteration") [] >>= _) _ _ _
  refine wpAny_bind ?_
  simp only [newExc, newTuple]
  refine wpAny_bind (wpAny_newObj_type ?_ (by size_fits))
  refine wpAny_bind (m := firstArgMember _ _) (wpAny_of_eq (a := Value.none) (by first | rfl | (simp only [firstArgMember]; rfl)) ?_)
  refine wpAny_newObj_type ?_ (by size_fits)
  simp only [raiseNew]
  refine wpAny_bind (wpAny_handled ?_)
  rw [show A.in1.handled = none from hh]
  refine wpAny_bind (wpAny_pure (wpAny_throw ?_))
  exact hE _ _ (((Heap.SameBut.update ..).extBut.push _).push _) ⟨_, Heap.get?_push_size _ rfl, rfl⟩

/-- what zip draws from: a text of low signs, or a list that stands -/
inductive Sx where
  | str (x : Str) (t : Tok)
  | lst (a : Addr) (vs : List Value)
def Sx.val : Sx → Value
  | .str x t => .str x t
  | .lst a _ => .ref a
def Sx.len : Sx → Nat
  | .str x _ => x.length
  | .lst _ vs => vs.length
def Sx.at : Sx → Nat → Value → Prop
  | .str x _, j, v => ∃ c u, x.cps[j]? = some c ∧ v = .str ⟨#[c]⟩ u
  | .lst _ vs, j, v => vs[j]? = some v
def Sx.on (h : Heap) : Sx → Prop
  | .str x _ => x.cps.all (· < 128) = true
  | .lst a vs => h.IsList a vs.toArray
def Sx.iter (h : Heap) (I : Addr) (i : Nat) : Sx → Prop
  | .str x t => h.IsStrIter I "str_ascii_iterator" x t i
  | .lst a _ => h.IsListIter I a i
def Sx.addr : Sx → List Addr
  | .str _ _ => []
  | .lst a _ => [a]

theorem Sx.on_at {h h' : Heap} {x : Sx} (hx : x.on h) (e : ∀ b ∈ x.addr, ∀ o, h.get? b = some o → h'.get? b = some o) : x.on h' := by
  cases x with
  | str x t => exact hx
  | lst a vs => exact Heap.IsList.at hx fun o q => e a (List.mem_singleton.mpr rfl) o q
theorem Sx.iter_at {h h' : Heap} {x : Sx} {I : Addr} {i : Nat} (hx : x.iter h I i) (e : ∀ o, h.get? I = some o → h'.get? I = some o) : x.iter h' I i := by
  cases x with
  | str x t => obtain ⟨o, ho, r⟩ := hx; exact ⟨o, e o ho, r⟩
  | lst a vs => exact Heap.IsListIter.at hx e
theorem Sx.iter_some {h : Heap} {x : Sx} {I : Addr} {i : Nat} (hx : x.iter h I i) : ∃ o, h.get? I = some o := by
  cases x with
  | str x t => obtain ⟨o, ho, _⟩ := hx; exact ⟨o, ho⟩
  | lst a vs => obtain ⟨o, ho, _⟩ := hx; exact ⟨o, ho⟩

theorem Sx.next {x : Sx} {I : Addr} {i : Nat} {Q : Value → Shared → Prop} (hit : x.iter s.heap I i) (hon : x.on s.heap) (hi : i < x.len)
    (hQ : ∀ v h' tk, x.at i v → x.iter h' I (i + 1) → Heap.SameBut I s.heap h' → Q v { s with heap := h', toks := tk }) :
    wpAny (model prog w) A (Builtin.SmallTypes.nextOf (.ref I)) Q E s := by
  cases x with
  | str x t =>
    have hi' : i < x.cps.size := hi
    exact nextOf_ascii hit (c := x.cps[i]) (by simp [hi']) fun h' h1 h2 => hQ _ h' _ ⟨_, _, by simp [hi'], rfl⟩ h1 h2
  | lst a vs =>
    have hi' : i < vs.length := hi
    exact wpAny_nextOf_list_item hit hon (x := vs[i]) (by simp [hi']) fun h' h1 h2 => hQ _ h' s.toks (by show vs[i]? = some vs[i]; simp [hi']) h1 h2
theorem Sx.next_end {x : Sx} {I : Addr} {i : Nat} {Q : Value → Shared → Prop} (hh : A.handled = none) (hit : x.iter s.heap I i) (hon : x.on s.heap) (hi : x.len ≤ i)
    (hE : ∀ h' e, Heap.ExtBut I s.heap h' → (∃ o, h'.get? e = some o ∧ o.cls = .type "StopIteration") → E (.ref e) { s with heap := h' }) :
    wpAny (model prog w) A (Builtin.SmallTypes.nextOf (.ref I)) Q E s := by
  cases x with
  | str x t =>
    have hi' : x.cps.size ≤ i := hi
    exact nextOf_ascii_end hh hit (by simp [hi']) hE
  | lst a vs =>
    have hi' : vs.length ≤ i := hi
    exact wpAny_nextOf_list_end hh hit hon (by simp [hi']) hE
theorem Sx.start {x : Sx} {Q : Value → Shared → Prop} (hon : x.on s.heap)
    (hQ : ∀ o : Obj, o.isFreed = false → x.iter (s.heap.push o) s.heap.objs.size 0 → Q (.ref s.heap.objs.size) { s with heap := s.heap.push o }) :
    wpAny (model prog w) A (pyIter x.val) Q E s := by
  cases x with
  | str x t => exact wpAny_pyIter_ascii hon (hQ _ rfl ⟨_, Heap.get?_push_size _ rfl, rfl, rfl⟩)
  | lst a vs => exact wpAny_pyIter_list hon (hQ _ rfl ⟨_, Heap.get?_push_size _ rfl, rfl, rfl⟩)
end
end Mine
end

section
set_option maxRecDepth 100000
set_option Elab.async false
namespace Mine
open PySem PySem.W PySem.Spec PySem.Calls PyProof.Rows PySem.SeqAt

abbrev zipObj (f0 f1 : Value) (TI TO : Addr) : Obj := { cls := .type "zip", dict := none, data := .fields #[f0, f1, .bool false, .ref TI, .ref TO], slots := #[] }
abbrev tup (vs : List Value) : Obj := { cls := .type "tuple", data := .seq vs.toArray }

structure ZApart (z TI TO : Addr) (ps : List (Addr × Sx)) : Prop where
  zTI : TI ≠ z
  zTO : TO ≠ z
  TITO : TI ≠ TO
  its : ∀ p ∈ ps, p.1 ≠ z ∧ p.1 ≠ TI ∧ p.1 ≠ TO
  srcs : ∀ p ∈ ps, ∀ b ∈ p.2.addr, b ≠ z ∧ b ≠ TO ∧ ∀ q ∈ ps, b ≠ q.1
  nodup : ∀ (j k : Nat) (p q : Addr × Sx), ps[j]? = some p → ps[k]? = some q → p.1 = q.1 → j = k

structure ZMid (z TI TO : Addr) (ps : List (Addr × Sx)) (k i : Nat) (h : Heap) : Prop where
  zz : ∃ f0 f1, h.get? z = some (zipObj f0 f1 TI TO)
  ti : h.get? TI = some (tup (ps.map fun p => .ref p.1))
  to : ∃ ws : List Value, ws.length = ps.length ∧ h.get? TO = some (tup ws)
  its : ∀ (j : Nat) (p : Addr × Sx), ps[j]? = some p → p.2.iter h p.1 (if j < k then i + 1 else i) ∧ p.2.on h

section
variable {z TI TO : Addr} {ps : List (Addr × Sx)} {k i : Nat} {h h' : Heap}
theorem ZMid.sameZ (D : ZApart z TI TO ps) (Z : ZMid z TI TO ps k i h) (hs : Heap.SameBut z h h') (hz : ∃ f0 f1, h'.get? z = some (zipObj f0 f1 TI TO)) : ZMid z TI TO ps k i h' where
  zz := hz
  ti := (hs.2 TI D.zTI).trans Z.ti
  to := let ⟨ws, h1, h2⟩ := Z.to; ⟨ws, h1, (hs.2 TO D.zTO).trans h2⟩
  its := fun j p hp => by
    have hm := List.mem_of_getElem? hp
    obtain ⟨h1, h2⟩ := Z.its j p hp
    exact ⟨Sx.iter_at h1 fun o e => (hs.2 _ (D.its p hm).1).trans e, Sx.on_at h2 fun b hb o e => (hs.2 b (D.srcs p hm b hb).1).trans e⟩
theorem ZMid.sameTO (D : ZApart z TI TO ps) (Z : ZMid z TI TO ps k i h) (hs : Heap.SameBut TO h h') (hw : ∃ ws : List Value, ws.length = ps.length ∧ h'.get? TO = some (tup ws)) : ZMid z TI TO ps k i h' where
  zz := let ⟨a, b, e⟩ := Z.zz; ⟨a, b, (hs.2 z D.zTO.symm).trans e⟩
  ti := (hs.2 TI D.TITO).trans Z.ti
  to := hw
  its := fun j p hp => by
    have hm := List.mem_of_getElem? hp
    obtain ⟨h1, h2⟩ := Z.its j p hp
    exact ⟨Sx.iter_at h1 fun o e => (hs.2 _ (D.its p hm).2.2).trans e, Sx.on_at h2 fun b hb o e => (hs.2 b (D.srcs p hm b hb).2.1).trans e⟩
theorem ZMid.keep (Z : ZMid z TI TO ps k i h) (hs : h.StaysIn h') : ZMid z TI TO ps k i h' where
  zz := let ⟨a, b, e⟩ := Z.zz; ⟨a, b, hs _ _ e⟩
  ti := hs _ _ Z.ti
  to := let ⟨ws, h1, h2⟩ := Z.to; ⟨ws, h1, hs _ _ h2⟩
  its := fun j p hp => let ⟨h1, h2⟩ := Z.its j p hp; ⟨Sx.iter_at h1 fun o e => hs _ o e, Sx.on_at h2 fun b _ o e => hs b o e⟩
theorem ZMid.step (D : ZApart z TI TO ps) (Z : ZMid z TI TO ps k i h) {p : Addr × Sx} (hp : ps[k]? = some p) (hs : Heap.SameBut p.1 h h') (hit : p.2.iter h' p.1 (i + 1)) : ZMid z TI TO ps (k + 1) i h' where
  zz := let ⟨a, b, e⟩ := Z.zz; ⟨a, b, (hs.2 z (D.its p (List.mem_of_getElem? hp)).1.symm).trans e⟩
  ti := (hs.2 TI (D.its p (List.mem_of_getElem? hp)).2.1.symm).trans Z.ti
  to := let ⟨ws, h1, h2⟩ := Z.to; ⟨ws, h1, (hs.2 TO (D.its p (List.mem_of_getElem? hp)).2.2.symm).trans h2⟩
  its := fun j q hq => by
    have hm := List.mem_of_getElem? hq
    obtain ⟨h1, h2⟩ := Z.its j q hq
    have hon : q.2.on h' := Sx.on_at h2 fun b hb o e => (hs.2 b ((D.srcs q hm b hb).2.2 p (List.mem_of_getElem? hp))).trans e
    by_cases hj : j = k
    · subst hj
      rw [hp] at hq; cases hq
      rw [if_pos (Nat.lt_succ_self _)]
      exact ⟨hit, hon⟩
    · have hne : q.1 ≠ p.1 := fun e => hj (D.nodup j k q p hq hp e)
      have e : (if j < k + 1 then i + 1 else i) = if j < k then i + 1 else i := by
        by_cases h1 : j < k
        · rw [if_pos h1, if_pos (by omega)]
        · rw [if_neg h1, if_neg (by omega)]
      rw [e]
      exact ⟨Sx.iter_at h1 fun o e => (hs.2 _ hne).trans e, hon⟩
end

section
variable {prog : Program} {w : World} {A : Around} {E : Value → Shared → Prop} {s : Shared} {z TI TO : Addr}

theorem loadIfAlive_any {M : Model} {a : Addr} {Q : Option Obj → Shared → Prop} (h : Q (s.heap.get? a) s) : wpAny M A (loadIfAlive a) Q E s := fun _ _ _ => h

theorem isFree_any {f0 f1 : Value} {Q : Bool → Shared → Prop} (hz : s.heap.get? z = some (zipObj f0 f1 TI TO))
    (hQ : ∀ b h', (∃ f0 f1, h'.get? z = some (zipObj f0 f1 TI TO)) → Heap.SameBut z s.heap h' → Q b { s with heap := h' }) :
    wpAny (model prog w) A (Builtin.SmallTypes.ownedTupleIsFree (.ref z)) Q E s := by
  unfold Builtin.SmallTypes.ownedTupleIsFree
  refine wpAny_bind (wpAny_field hz rfl (x := f0) rfl ?_)
  have here : ∀ b, Q b s := fun b => hQ b s.heap ⟨_, _, hz⟩ ⟨rfl, fun _ _ => rfl⟩
  cases f0 with
  | none => exact wpAny_pure (here true)
  | int a t =>
    refine wpAny_bind ?_
    refine loadIfAlive_any ?_
    cases s.heap.get? a.toNat with
    | none => exact wpAny_pure (here true)
    | some o =>
      refine wpAny_bind (wpAny_field hz rfl (x := f1) rfl ?_)
      by_cases hf : (f1 != Value.bool true) = true
      · simp only [hf, if_true]
        refine wpAny_bind (wpAny_setField_rec hz (by simp) fun h₁ hz₁ hs₁ => ?_)
        exact wpAny_pure (hQ false h₁ ⟨_, .bool true, hz₁⟩ hs₁)
      · simp only [hf, if_false]
        exact wpAny_bind (wpAny_pure (wpAny_pure (here false)))
  | _ => exact wpAny_pure (here false)

theorem updateSeq_tup {T : Addr} {ws : List Value} {k : Nat} {x : Value} {Q : Unit → Shared → Prop} (hT : s.heap.get? T = some (tup ws)) (hsz : ws.length ≤ sizeLine)
    (h : ∀ h', h'.get? T = some (tup (ws.set k x)) → Heap.SameBut T s.heap h' → Q () { s with heap := h' }) :
    wpAny (model prog w) A (updateSeq T (·.setIfInBounds k x)) Q E s := by
  refine wpAny_updateSeq hT rfl (h _ ?_ (Heap.SameBut.update ..)) (by rw [List.size_toArray]; exact hsz) (by rw [Array.size_setIfInBounds, List.size_toArray]; omega)
  rw [Heap.get?_update_self _ hT rfl]
  simp [Obj.mapSeq]

theorem paired_of {α β : Type} {F : α → β → Prop} : ∀ {l : List α} {r : List β}, r.length = l.length → (∀ (j : Nat) (a : α), l[j]? = some a → ∃ b, r[j]? = some b ∧ F a b) → Paired F l r
  | [], [], _, _ => .nil
  | [], _ :: _, h, _ => by cases h
  | _ :: _, [], h, _ => by cases h
  | a :: l, b :: r, h, k => by
    obtain ⟨b', h1, h2⟩ := k 0 a rfl
    have e : b = b' := by simpa using h1
    subst e
    exact .cons h2 (paired_of (by simpa using h) fun j c hc => k (j + 1) c (by simpa using hc))
theorem ZMid.whole {ps : List (Addr × Sx)} {i : Nat} {h : Heap} (Z : ZMid z TI TO ps ps.length i h) : ZMid z TI TO ps 0 (i + 1) h where
  zz := Z.zz
  ti := Z.ti
  to := Z.to
  its := fun j p hp => by
    have hj : j < ps.length := (List.getElem?_eq_some_iff.mp hp).1
    have := Z.its j p hp
    rw [if_pos hj] at this
    rw [if_neg (Nat.not_lt_zero _)]
    exact this

theorem zip_next {ps : List (Addr × Sx)} {i : Nat} {Q : Value → Shared → Prop} (D : ZApart z TI TO ps) (Z : ZMid z TI TO ps 0 i s.heap) (hne : ps ≠ []) (hi : ∀ p ∈ ps, i < p.2.len) (hsz : ps.length ≤ sizeLine)
    (hQ : ∀ T vs h' tk, s.heap.get? T = none → h'.get? T = some (tup vs) → Paired (fun (p : Addr × Sx) v => p.2.at i v) ps vs → ZMid z TI TO ps 0 (i + 1) h' → (∀ b o, b ∉ z :: TO :: ps.map (·.1) → s.heap.get? b = some o → h'.get? b = some o) → Q (.ref T) { s with heap := h', toks := tk }) :
    wpAny (model prog w) A (Builtin.«zip.__next__» ⟨[.ref z], []⟩) (fun fin s' => ∃ v, fin = .done (.ret v) ∧ Q v s') E s := by
  obtain ⟨f0, f1, hz⟩ := Z.zz
  show wpAny _ _ (field (.ref z) 2 >>= _) _ _ _
  refine wpAny_bind (wpAny_field hz rfl (x := .bool false) rfl ?_)
  show wpAny _ _ (field (.ref z) 3 >>= _) _ _ _
  refine wpAny_bind (wpAny_field hz rfl (x := .ref TI) rfl ?_)
  refine wpAny_bind (wpAny_seqItems Z.ti rfl ?_)
  have hemp : (List.map (fun p : Addr × Sx => Value.ref p.1) ps).toArray.isEmpty = false := by
    cases ps with
    | nil => exact absurd rfl hne
    | cons p r => simp
  simp only [hemp, Bool.false_eq_true, if_false]
  show wpAny _ _ (Builtin.SmallTypes.ownedTupleIsFree (.ref z) >>= _) _ _ _
  refine wpAny_bind (isFree_any hz fun b h₁ hz₁ hs₁ => ?_)
  have Z₁ := Z.sameZ D hs₁ hz₁
  cases b with
  | true =>
    simp only [if_true]
    refine wpAny_bind (wpAny_rule ?_)
    obtain ⟨g0, g1, hz₁⟩ := hz₁
    refine wpAny_bind (wpAny_field hz₁ rfl (x := .ref TO) rfl ?_)
    refine wpAny_bind (wpAny_setField_rec hz₁ (by simp) fun h₂ hz₂ hs₂ => ?_)
    have Z₂ := Z₁.sameZ D hs₂ ⟨_, _, hz₂⟩
    have hk₂ : ∀ b o, b ∉ z :: TO :: ps.map (·.1) → s.heap.get? b = some o → h₂.get? b = some o := fun b o hb e =>
      (hs₂.2 b fun q => hb (by rw [q]; exact .head _)).trans ((hs₁.2 b fun q => hb (by rw [q]; exact .head _)).trans e)
    have hsz₂ : h₂.objs.size = s.heap.objs.size := by rw [hs₂.1, hs₁.1]
    refine wpAny_bind (wpAny_forIn_list _ (fun rest b s' => b.1 = none ∧ ∃ k h' tk, rest = ((ps.drop k).map fun p => Value.ref p.1).zipIdx k ∧ s' = { s with heap := h', toks := tk } ∧ k ≤ ps.length ∧ ZMid z TI TO ps k i h' ∧ h'.objs.size = s.heap.objs.size ∧
      (∃ ws : List Value, ws.length = ps.length ∧ h'.get? TO = some (tup ws) ∧ ∀ (j : Nat) (p : Addr × Sx), j < k → ps[j]? = some p → ∃ v, ws[j]? = some v ∧ p.2.at i v) ∧ (∀ b o, b ∉ z :: TO :: ps.map (·.1) → s.heap.get? b = some o → h'.get? b = some o)) _ ?turn ?fin _ _ ?start)
    case start =>
      obtain ⟨ws, hw1, hw2⟩ := Z₂.to
      exact ⟨rfl, 0, h₂, s.toks, by simp, rfl, Nat.zero_le _, Z₂, hsz₂, ⟨ws, hw1, hw2, fun j p hj => absurd hj (Nat.not_lt_zero _)⟩, hk₂⟩
    case turn =>
      rintro ⟨x, kx⟩ rest ⟨b1, b2⟩ s' ⟨hb, k, h', tk, hrest, rfl, hk, Zk, hsk, ⟨ws, hw1, hw2, hw3⟩, hkk⟩
      simp only at hb
      subst hb
      cases hd : ps.drop k with
      | nil => rw [hd] at hrest; cases hrest
      | cons p r =>
        rw [hd, List.map_cons, List.zipIdx_cons] at hrest
        obtain ⟨e1, e2⟩ := List.cons.inj hrest
        obtain ⟨rfl, rfl⟩ := Prod.mk.inj e1
        have hp : ps[kx]? = some p := by
          have := congrArg (·[0]?) hd
          simpa using this
        have hr : ps.drop (kx + 1) = r := by
          have := congrArg List.tail hd
          simpa using this
        have hklt : kx < ps.length := by
          rcases Nat.lt_or_ge kx ps.length with h | h
          · exact h
          · rw [List.drop_eq_nil_of_le h] at hd; cases hd
        refine wpAny_bind (wpAny_onRaise ?_)
        show wpAny _ _ (Builtin.SmallTypes.nextOf (.ref p.1) >>= _) _ _ _
        obtain ⟨hit, hon⟩ := Zk.its kx p hp
        rw [if_neg (Nat.lt_irrefl _)] at hit
        refine wpAny_bind (Sx.next hit hon (hi p (List.mem_of_getElem? hp)) fun v h₃ tk₃ hv hit₃ hs₃ => wpAny_pure ?_)
        have Z₃ := Zk.step D hp hs₃ hit₃
        have hw₃ : h₃.get? TO = some (tup ws) := (hs₃.2 TO (D.its p (List.mem_of_getElem? hp)).2.2.symm).trans hw2
        refine wpAny_bind (wpAny_seqItems hw₃ rfl ?_)
        refine wpAny_bind (updateSeq_tup hw₃ (by omega) fun h₄ hw₄ hs₄ => ?_)
        refine wpAny_bind (wpAny_letGo (wpAny_pure ?_))
        have Z₄ := Z₃.sameTO D hs₄ ⟨_, by rw [List.length_set]; exact hw1, hw₄⟩
        refine ⟨rfl, kx + 1, h₄, tk₃, by rw [hr]; exact e2.symm ▸ rfl, rfl, hklt, Z₄, by rw [hs₄.1, hs₃.1]; exact hsk, ⟨_, by rw [List.length_set]; exact hw1, hw₄, fun j q hj hq => ?_⟩, fun b o hb e => ?_⟩
        · by_cases hjk : j = kx
          · subst hjk
            rw [hp] at hq; cases hq
            exact ⟨v, by simp [hw1, hklt], hv⟩
          · obtain ⟨v', h5, h6⟩ := hw3 j q (by omega) hq
            exact ⟨v', by rw [List.getElem?_set_ne (Ne.symm hjk)]; exact h5, h6⟩
        · have hm : p.1 ∈ ps.map (·.1) := List.mem_map_of_mem (List.mem_of_getElem? hp)
          exact (hs₄.2 b fun q => hb (by rw [q]; exact .tail _ (.head _))).trans ((hs₃.2 b fun q => hb (by rw [q]; exact .tail _ (.tail _ hm))).trans (hkk b o hb e))
    case fin =>
      rintro ⟨b1, b2⟩ s' ⟨hb, k, h', tk, hrest, rfl, hk, Zk, hsk, ⟨ws, hw1, hw2, hw3⟩, hkk⟩
      simp only at hb
      subst hb
      have hkn : k = ps.length := by
        have := congrArg List.length hrest
        simp only [List.length_nil, List.length_zipIdx, List.length_map, List.length_drop] at this
        omega
      subst hkn
      dsimp only
      refine wpAny_bind (wpAny_seqItems hw2 rfl ?_)
      dsimp only
      refine wpAny_bind (wpAny_newTuple ?_ (by omega))
      refine wpAny_bind ?_
      unfold Builtin.SmallTypes.ownedTupleHandOut
      have Z₅ := Zk.keep (h' := h'.push (tup ws)) fun b o e => Heap.get?_push_of_some _ e
      obtain ⟨g3, g4, hz₅⟩ := Z₅.zz
      refine wpAny_bind (wpAny_setField_rec hz₅ (by simp) fun h₆ hz₆ hs₆ => ?_)
      refine wpAny_setField_rec hz₆ (by simp) fun h₇ hz₇ hs₇ => ?_
      have Z₇ := (Z₅.sameZ D hs₆ ⟨_, _, hz₆⟩).sameZ D hs₇ ⟨_, _, hz₇⟩
      obtain ⟨g5, g6, hzk⟩ := Zk.zz
      have hzlt : z < h'.objs.size := Heap.lt_size hzk
      have hT : h₇.get? h'.objs.size = some (tup ws) := (hs₇.2 _ (Nat.ne_of_gt hzlt)).trans ((hs₆.2 _ (Nat.ne_of_gt hzlt)).trans (Heap.get?_push_size _ rfl))
      refine wpAny_pure ⟨_, rfl, hQ _ ws h₇ tk ?_ hT (paired_of hw1 fun j p hp => hw3 j p ((List.getElem?_eq_some_iff.mp hp).1) hp) Z₇.whole fun b o hb e => ?_⟩
      · rw [hsk]
        cases q : s.heap.get? s.heap.objs.size with
        | none => rfl
        | some o => exact absurd (Heap.lt_size q) (Nat.lt_irrefl _)
      · have hbz : b ≠ z := fun q => hb (by rw [q]; exact .head _)
        exact (hs₇.2 b hbz).trans ((hs₆.2 b hbz).trans (Heap.get?_push_of_some _ (hkk b o hb e)))
  | false =>
    simp only [Bool.false_eq_true, if_false]
    have hk₁ : ∀ b o, b ∉ z :: TO :: ps.map (·.1) → s.heap.get? b = some o → h₁.get? b = some o := fun b o hb e =>
      (hs₁.2 b fun q => hb (by rw [q]; exact .head _)).trans e
    refine wpAny_bind (forIn_array_ _ (fun rest b s' => b.1 = none ∧ ∃ k h' tk, rest = ((ps.drop k).map fun p => Value.ref p.1) ∧ s' = { s with heap := h', toks := tk } ∧ k ≤ ps.length ∧ ZMid z TI TO ps k i h' ∧ h'.objs.size = s.heap.objs.size ∧
      (b.2.toList.length = k ∧ ∀ (j : Nat) (p : Addr × Sx), j < k → ps[j]? = some p → ∃ v, b.2.toList[j]? = some v ∧ p.2.at i v) ∧ (∀ b o, b ∉ z :: TO :: ps.map (·.1) → s.heap.get? b = some o → h'.get? b = some o)) _ ?turn2 ?fin2 _ _ ?start2)
    case start2 =>
      exact ⟨rfl, 0, h₁, s.toks, by simp, rfl, Nat.zero_le _, Z₁, hs₁.1, ⟨rfl, fun j p hj => absurd hj (Nat.not_lt_zero _)⟩, hk₁⟩
    case turn2 =>
      rintro x rest ⟨b1, b2⟩ s' ⟨hb, k, h', tk, hrest, rfl, hk, Zk, hsk, ⟨hw1, hw3⟩, hkk⟩
      simp only at hb hw1 hw3
      subst hb
      cases hd : ps.drop k with
      | nil => rw [hd] at hrest; cases hrest
      | cons p r =>
        rw [hd, List.map_cons] at hrest
        obtain ⟨rfl, e2⟩ := List.cons.inj hrest
        have hp : ps[k]? = some p := by
          have := congrArg (·[0]?) hd
          simpa using this
        have hr : ps.drop (k + 1) = r := by
          have := congrArg List.tail hd
          simpa using this
        have hklt : k < ps.length := by
          rcases Nat.lt_or_ge k ps.length with h | h
          · exact h
          · rw [List.drop_eq_nil_of_le h] at hd; cases hd
        refine wpAny_bind (wpAny_holding ?_)
        show wpAny _ _ (Builtin.SmallTypes.nextOf (.ref p.1) >>= _) _ _ _
        obtain ⟨hit, hon⟩ := Zk.its k p hp
        rw [if_neg (Nat.lt_irrefl _)] at hit
        refine wpAny_bind (Sx.next hit hon (hi p (List.mem_of_getElem? hp)) fun v h₃ tk₃ hv hit₃ hs₃ => wpAny_pure ?_)
        have Z₃ := Zk.step D hp hs₃ hit₃
        refine wpAny_pure ⟨rfl, k + 1, h₃, tk₃, by rw [hr]; exact e2, rfl, hklt, Z₃, by rw [hs₃.1]; exact hsk, ⟨by simp only [Array.toList_push, List.length_append, List.length_singleton, hw1], fun j q hj hq => ?_⟩, fun b o hb e => ?_⟩
        · by_cases hjk : j = k
          · subst hjk
            rw [hp] at hq; cases hq
            exact ⟨v, by simp only [Array.toList_push]; rw [List.getElem?_append_right (by omega), hw1]; simp, hv⟩
          · obtain ⟨v', h5, h6⟩ := hw3 j q (by omega) hq
            exact ⟨v', by simp only [Array.toList_push]; rw [List.getElem?_append_left (by omega)]; exact h5, h6⟩
        · have hm : p.1 ∈ ps.map (·.1) := List.mem_map_of_mem (List.mem_of_getElem? hp)
          exact (hs₃.2 b fun q => hb (by rw [q]; exact .tail _ (.tail _ hm))).trans (hkk b o hb e)
    case fin2 =>
      rintro ⟨b1, b2⟩ s' ⟨hb, k, h', tk, hrest, rfl, hk, Zk, hsk, ⟨hw1, hw3⟩, hkk⟩
      simp only at hb hw1 hw3
      subst hb
      have hkn : k = ps.length := by
        have := congrArg List.length hrest
        simp only [List.length_nil, List.length_map, List.length_drop] at this
        omega
      subst hkn
      dsimp only
      refine wpAny_bind (wpAny_newTuple ?_ (by omega))
      have Z₅ := Zk.keep (h' := h'.push (tup b2.toList)) fun b o e => Heap.get?_push_of_some _ e
      refine wpAny_pure ⟨_, rfl, hQ _ b2.toList _ tk ?_ (Heap.get?_push_size _ rfl) (paired_of hw1 fun j p hp => hw3 j p ((List.getElem?_eq_some_iff.mp hp).1) hp) Z₅.whole fun b o hb e => Heap.get?_push_of_some _ (hkk b o hb e)⟩
      rw [hsk]
      cases q : s.heap.get? s.heap.objs.size with
      | none => rfl
      | some o => exact absurd (Heap.lt_size q) (Nat.lt_irrefl _)
end
end Mine
end

section
set_option maxRecDepth 100000
set_option Elab.async false
namespace Mine
open PySem PySem.W PySem.Spec PySem.Calls PyProof.Rows PySem.SeqAt

section
variable {prog : Program} {w : World} {A : Around} {E : Value → Shared → Prop} {s : Shared} {z TI TO : Addr}

theorem zip_end {ps : List (Addr × Sx)} {i : Nat} {Q : Fin → Shared → Prop} (hh : A.handled = none) (D : ZApart z TI TO ps) (Z : ZMid z TI TO ps 0 i s.heap) (hi : ∃ p ∈ ps, p.2.len ≤ i) (hsz : ps.length ≤ sizeLine)
    (hE : ∀ h' tk e, (∀ b o, b ∉ z :: TO :: ps.map (·.1) → s.heap.get? b = some o → h'.get? b = some o) → (∃ o, h'.get? e = some o ∧ o.cls = .type "StopIteration") → E (.ref e) { s with heap := h', toks := tk }) :
    wpAny (model prog w) A (Builtin.«zip.__next__» ⟨[.ref z], []⟩) Q E s := by
  obtain ⟨f0, f1, hz⟩ := Z.zz
  have hne : ps ≠ [] := fun e => by subst e; obtain ⟨p, hp, _⟩ := hi; cases hp
  have hno : ¬ ∀ (j : Nat) (p : Addr × Sx), j < ps.length → ps[j]? = some p → i < p.2.len := fun h => by
    obtain ⟨p, hp, hl⟩ := hi
    obtain ⟨j, hj, e⟩ := List.getElem_of_mem hp
    have := h j p hj (by rw [← e]; simp [hj])
    omega
  show wpAny _ _ (field (.ref z) 2 >>= _) _ _ _
  refine wpAny_bind (wpAny_field hz rfl (x := .bool false) rfl ?_)
  show wpAny _ _ (field (.ref z) 3 >>= _) _ _ _
  refine wpAny_bind (wpAny_field hz rfl (x := .ref TI) rfl ?_)
  refine wpAny_bind (wpAny_seqItems Z.ti rfl ?_)
  have hemp : (List.map (fun p : Addr × Sx => Value.ref p.1) ps).toArray.isEmpty = false := by
    cases ps with
    | nil => exact absurd rfl hne
    | cons p r => simp
  simp only [hemp, Bool.false_eq_true, if_false]
  show wpAny _ _ (Builtin.SmallTypes.ownedTupleIsFree (.ref z) >>= _) _ _ _
  refine wpAny_bind (isFree_any hz fun b h₁ hz₁ hs₁ => ?_)
  have Z₁ := Z.sameZ D hs₁ hz₁
  cases b with
  | true =>
    simp only [if_true]
    refine wpAny_bind (wpAny_rule ?_)
    obtain ⟨g0, g1, hz₁⟩ := hz₁
    refine wpAny_bind (wpAny_field hz₁ rfl (x := .ref TO) rfl ?_)
    refine wpAny_bind (wpAny_setField_rec hz₁ (by simp) fun h₂ hz₂ hs₂ => ?_)
    have Z₂ := Z₁.sameZ D hs₂ ⟨_, _, hz₂⟩
    have hk₂ : ∀ b o, b ∉ z :: TO :: ps.map (·.1) → s.heap.get? b = some o → h₂.get? b = some o := fun b o hb e =>
      (hs₂.2 b fun q => hb (by rw [q]; exact .head _)).trans ((hs₁.2 b fun q => hb (by rw [q]; exact .head _)).trans e)
    refine wpAny_bind (wpAny_forIn_list _ (fun rest b s' => b.1 = none ∧ ∃ k h' tk, rest = ((ps.drop k).map fun p => Value.ref p.1).zipIdx k ∧ s' = { s with heap := h', toks := tk } ∧ k ≤ ps.length ∧ ZMid z TI TO ps k i h' ∧
      (∀ (j : Nat) (p : Addr × Sx), j < k → ps[j]? = some p → i < p.2.len) ∧ (∀ b o, b ∉ z :: TO :: ps.map (·.1) → s.heap.get? b = some o → h'.get? b = some o)) _ ?turn ?fin _ _ ?start)
    case start =>
      exact ⟨rfl, 0, h₂, s.toks, by simp, rfl, Nat.zero_le _, Z₂, fun j p hj => absurd hj (Nat.not_lt_zero _), hk₂⟩
    case turn =>
      rintro ⟨x, kx⟩ rest ⟨b1, b2⟩ s' ⟨hb, k, h', tk, hrest, rfl, hk, Zk, hw3, hkk⟩
      simp only at hb
      subst hb
      cases hd : ps.drop k with
      | nil => rw [hd] at hrest; cases hrest
      | cons p r =>
        rw [hd, List.map_cons, List.zipIdx_cons] at hrest
        obtain ⟨e1, e2⟩ := List.cons.inj hrest
        obtain ⟨rfl, rfl⟩ := Prod.mk.inj e1
        have hp : ps[kx]? = some p := by
          have := congrArg (·[0]?) hd
          simpa using this
        have hr : ps.drop (kx + 1) = r := by
          have := congrArg List.tail hd
          simpa using this
        have hklt : kx < ps.length := by
          rcases Nat.lt_or_ge kx ps.length with h | h
          · exact h
          · rw [List.drop_eq_nil_of_le h] at hd; cases hd
        have hm : p.1 ∈ ps.map (·.1) := List.mem_map_of_mem (List.mem_of_getElem? hp)
        refine wpAny_bind (wpAny_onRaise ?_)
        show wpAny _ _ (Builtin.SmallTypes.nextOf (.ref p.1) >>= _) _ _ _
        obtain ⟨hit, hon⟩ := Zk.its kx p hp
        rw [if_neg (Nat.lt_irrefl _)] at hit
        rcases Nat.lt_or_ge i p.2.len with hil | hil
        · refine wpAny_bind (Sx.next hit hon hil fun v h₃ tk₃ hv hit₃ hs₃ => wpAny_pure ?_)
          have Z₃ := Zk.step D hp hs₃ hit₃
          obtain ⟨ws, hw1, hw₃⟩ := Z₃.to
          refine wpAny_bind (wpAny_seqItems hw₃ rfl ?_)
          refine wpAny_bind (updateSeq_tup hw₃ (by omega) fun h₄ hw₄ hs₄ => ?_)
          refine wpAny_bind (wpAny_letGo (wpAny_pure ?_))
          have Z₄ := Z₃.sameTO D hs₄ ⟨_, by rw [List.length_set]; exact hw1, hw₄⟩
          refine ⟨rfl, kx + 1, h₄, tk₃, by rw [hr]; exact e2.symm ▸ rfl, rfl, hklt, Z₄, fun j q hj hq => ?_, fun b o hb e => ?_⟩
          · by_cases hjk : j = kx
            · subst hjk; rw [hp] at hq; cases hq; exact hil
            · exact hw3 j q (by omega) hq
          · exact (hs₄.2 b fun q => hb (by rw [q]; exact .tail _ (.head _))).trans ((hs₃.2 b fun q => hb (by rw [q]; exact .tail _ (.tail _ hm))).trans (hkk b o hb e))
        · refine wpAny_bind (Sx.next_end hh hit hon hil fun h₃ e hs₃ he => ?_)
          obtain ⟨oe, hoe, hce⟩ := he
          obtain ⟨g3, g4, hzk⟩ := Zk.zz
          have hz₃ : h₃.get? z = some (zipObj g3 g4 TI TO) := hs₃ _ _ (D.its p (List.mem_of_getElem? hp)).1.symm hzk
          have hez : e ≠ z := fun x => by subst x; rw [hz₃] at hoe; cases hoe; simp at hce
          refine wpAny_setField_rec hz₃ (by simp) fun h₄ _ hs₄ => ?_
          exact hE h₄ tk e (fun b o hb x => (hs₄.2 b fun q => hb (by rw [q]; exact .head _)).trans (hs₃ _ _ (fun q => hb (by rw [q]; exact .tail _ (.tail _ hm))) (hkk b o hb x))) ⟨oe, (hs₄.2 e hez).trans hoe, hce⟩
    case fin =>
      rintro ⟨b1, b2⟩ s' ⟨hb, k, h', tk, hrest, rfl, hk, Zk, hw3, hkk⟩
      have hkn : k = ps.length := by
        have := congrArg List.length hrest
        simp only [List.length_nil, List.length_zipIdx, List.length_map, List.length_drop] at this
        omega
      subst hkn
      exact absurd hw3 hno
  | false =>
    simp only [Bool.false_eq_true, if_false]
    have hk₁ : ∀ b o, b ∉ z :: TO :: ps.map (·.1) → s.heap.get? b = some o → h₁.get? b = some o := fun b o hb e =>
      (hs₁.2 b fun q => hb (by rw [q]; exact .head _)).trans e
    refine wpAny_bind (forIn_array_ _ (fun rest b s' => b.1 = none ∧ ∃ k h' tk, rest = ((ps.drop k).map fun p => Value.ref p.1) ∧ s' = { s with heap := h', toks := tk } ∧ k ≤ ps.length ∧ ZMid z TI TO ps k i h' ∧
      (∀ (j : Nat) (p : Addr × Sx), j < k → ps[j]? = some p → i < p.2.len) ∧ (∀ b o, b ∉ z :: TO :: ps.map (·.1) → s.heap.get? b = some o → h'.get? b = some o)) _ ?turn2 ?fin2 _ _ ?start2)
    case start2 =>
      exact ⟨rfl, 0, h₁, s.toks, by simp, rfl, Nat.zero_le _, Z₁, fun j p hj => absurd hj (Nat.not_lt_zero _), hk₁⟩
    case turn2 =>
      rintro x rest ⟨b1, b2⟩ s' ⟨hb, k, h', tk, hrest, rfl, hk, Zk, hw3, hkk⟩
      simp only at hb
      subst hb
      cases hd : ps.drop k with
      | nil => rw [hd] at hrest; cases hrest
      | cons p r =>
        rw [hd, List.map_cons] at hrest
        obtain ⟨rfl, e2⟩ := List.cons.inj hrest
        have hp : ps[k]? = some p := by
          have := congrArg (·[0]?) hd
          simpa using this
        have hr : ps.drop (k + 1) = r := by
          have := congrArg List.tail hd
          simpa using this
        have hklt : k < ps.length := by
          rcases Nat.lt_or_ge k ps.length with h | h
          · exact h
          · rw [List.drop_eq_nil_of_le h] at hd; cases hd
        have hm : p.1 ∈ ps.map (·.1) := List.mem_map_of_mem (List.mem_of_getElem? hp)
        refine wpAny_bind (wpAny_holding ?_)
        show wpAny _ _ (Builtin.SmallTypes.nextOf (.ref p.1) >>= _) _ _ _
        obtain ⟨hit, hon⟩ := Zk.its k p hp
        rw [if_neg (Nat.lt_irrefl _)] at hit
        rcases Nat.lt_or_ge i p.2.len with hil | hil
        · refine wpAny_bind (Sx.next hit hon hil fun v h₃ tk₃ hv hit₃ hs₃ => wpAny_pure ?_)
          have Z₃ := Zk.step D hp hs₃ hit₃
          refine wpAny_pure ⟨rfl, k + 1, h₃, tk₃, by rw [hr]; exact e2, rfl, hklt, Z₃, fun j q hj hq => ?_, fun b o hb e => ?_⟩
          · by_cases hjk : j = k
            · subst hjk; rw [hp] at hq; cases hq; exact hil
            · exact hw3 j q (by omega) hq
          · exact (hs₃.2 b fun q => hb (by rw [q]; exact .tail _ (.tail _ hm))).trans (hkk b o hb e)
        · refine wpAny_bind (Sx.next_end hh hit hon hil fun h₃ e hs₃ he => ?_)
          exact hE h₃ tk e (fun b o hb x => hs₃ _ _ (fun q => hb (by rw [q]; exact .tail _ (.tail _ hm))) (hkk b o hb x)) he
    case fin2 =>
      rintro ⟨b1, b2⟩ s' ⟨hb, k, h', tk, hrest, rfl, hk, Zk, hw3, hkk⟩
      have hkn : k = ps.length := by
        have := congrArg List.length hrest
        simp only [List.length_nil, List.length_map, List.length_drop] at this
        omega
      subst hkn
      exact absurd hw3 hno

theorem pyNext_zip {ps : List (Addr × Sx)} {i : Nat} {Q : Option Value → Shared → Prop} (D : ZApart z TI TO ps) (Z : ZMid z TI TO ps 0 i s.heap) (hne : ps ≠ []) (hi : ∀ p ∈ ps, i < p.2.len) (hsz : ps.length ≤ sizeLine)
    (hQ : ∀ T vs h' tk, s.heap.get? T = none → h'.get? T = some (tup vs) → Paired (fun (p : Addr × Sx) v => p.2.at i v) ps vs → ZMid z TI TO ps 0 (i + 1) h' → (∀ b o, b ∉ z :: TO :: ps.map (·.1) → s.heap.get? b = some o → h'.get? b = some o) → Q (some (.ref T)) { s with heap := h', toks := tk }) :
    wpAny (model prog w) A (pyNext (.ref z)) Q E s := by
  have hT : s.TypeIs (.ref z) "zip" := by obtain ⟨a, b, e⟩ := Z.zz; exact ⟨_, e, rfl⟩
  unfold pyNext
  exact wpAny_bind (wpAny_attempt (wpAny_callSpecial?_slot (name := Str.ofString "__next__") hT PySem.F.slot_zip_next
    (wpAny_call_entry PySem.F.slot_zip_next hT PySem.F.entry_zip_next
      (zip_next D Z hne hi hsz fun T vs h' tk a1 a2 a3 a4 a5 => wpAny_pure (hQ T vs h' tk a1 a2 a3 a4 a5)) (PySem.F.args_zip_next_1 _))))
theorem pyNext_zip_end {ps : List (Addr × Sx)} {i : Nat} {Q : Option Value → Shared → Prop} (hh : A.handled = none) (D : ZApart z TI TO ps) (Z : ZMid z TI TO ps 0 i s.heap) (hi : ∃ p ∈ ps, p.2.len ≤ i) (hsz : ps.length ≤ sizeLine)
    (hQ : ∀ h' tk, (∀ b o, b ∉ z :: TO :: ps.map (·.1) → s.heap.get? b = some o → h'.get? b = some o) → Q none { s with heap := h', toks := tk }) :
    wpAny (model prog w) A (pyNext (.ref z)) Q E s := by
  have hT : s.TypeIs (.ref z) "zip" := by obtain ⟨a, b, e⟩ := Z.zz; exact ⟨_, e, rfl⟩
  unfold pyNext
  refine wpAny_bind (wpAny_attempt (wpAny_callSpecial?_slot (name := Str.ofString "__next__") hT PySem.F.slot_zip_next
    (wpAny_call_entry PySem.F.slot_zip_next hT PySem.F.entry_zip_next (zip_end hh D Z hi hsz fun h' tk e hk he => ?_) (PySem.F.args_zip_next_1 _))))
  obtain ⟨o, ho, hc⟩ := he
  refine wpAny_bind (wpAny_isInstance (T := "StopIteration") (b := true) ⟨o, ho, hc⟩ isSubtype_stop ?_)
  exact wpAny_pure (hQ _ _ hk)
theorem pyIter_zip {ps : List (Addr × Sx)} {i : Nat} {Q : Value → Shared → Prop} (Z : ZMid z TI TO ps 0 i s.heap) (h : Q (.ref z) s) : wpAny (model prog w) A (pyIter (.ref z)) Q E s := by
  obtain ⟨a, b, e⟩ := Z.zz
  have hT : s.TypeIs (.ref z) "zip" := ⟨_, e, rfl⟩
  refine wpAny_pyIter_slot hT PySem.F.slot_zip_iter (wpAny_call_entry PySem.F.slot_zip_iter hT PySem.F.entry_zip_iter ?_ (PySem.F.args_zip_iter_1 _))
  show wpAny _ _ (ret (.ref z)) _ _ s
  exact wpAny_pure ⟨_, rfl, "zip", _, hT, PySem.F.slot_zip_next.lookup, h⟩
end
end Mine
end

section
set_option maxRecDepth 100000
set_option Elab.async false
namespace Mine
open PySem PySem.W PySem.Spec PySem.Calls PyProof.Rows PySem.SeqAt
theorem typeCall_zip (vs : List Value) : checkTypeCall "zip" ⟨vs, []⟩ = pure () := by kernel_rfl
theorem newCall_zip (v : Value) (vs : List Value) : checkBuiltinCall "zip.__new__" ⟨.type "zip" :: v :: vs, []⟩ = pure () := by kernel_rfl
theorem args_init (o : Value) (vs : List Value) : argsOk "object.__init__" ⟨o :: vs, []⟩ := by
  unfold argsOk; rw [signature?_of (id := "object.__init__") (n := ['_', '_', 't', 'i', 'n', 'i', '_', '_']) (o := ['t', 'c', 'e', 'j', 'b', 'o']) (by kernel_rfl) PySem.F.owner_object]; kernel_rfl

/-- the sources with their iterators' places -/
def placed (b : Nat) (ss : List Sx) : List (Addr × Sx) := ss.zipIdx.map fun p => (b + p.2, p.1)
theorem placed_length (b : Nat) (ss : List Sx) : (placed b ss).length = ss.length := by simp [placed]
theorem placed_get {b : Nat} {ss : List Sx} {j : Nat} {p : Addr × Sx} (h : (placed b ss)[j]? = some p) : p.1 = b + j ∧ ss[j]? = some p.2 := by
  unfold placed at h
  rw [List.getElem?_map, List.getElem?_zipIdx] at h
  cases e : ss[j]? with
  | none => rw [e] at h; cases h
  | some x =>
    rw [e] at h
    simp only [Option.map_some, Option.some.injEq] at h
    subst h
    exact ⟨by simp, rfl⟩
theorem placed_mem {b : Nat} {ss : List Sx} {p : Addr × Sx} (h : p ∈ placed b ss) : ∃ j, j < ss.length ∧ p.1 = b + j ∧ ss[j]? = some p.2 := by
  obtain ⟨j, hj, e⟩ := List.getElem_of_mem h
  have h' : (placed b ss)[j]? = some p := by rw [← e]; simp [hj]
  obtain ⟨h1, h2⟩ := placed_get h'
  exact ⟨j, by rw [placed_length] at hj; exact hj, h1, h2⟩

section
variable {prog : Program} {w : World} {A : Around} {E : Value → Shared → Prop} {s : Shared}

theorem iterAll_sx {ss : List Sx} {Q : List Value → Shared → Prop} (hon : ∀ x ∈ ss, x.on s.heap)
    (hQ : ∀ h', h'.objs.size = s.heap.objs.size + ss.length → s.heap.StaysIn h' → (∀ (j : Nat) (x : Sx), ss[j]? = some x → x.iter h' (s.heap.objs.size + j) 0) →
      Q ((placed s.heap.objs.size ss).map fun p => .ref p.1) { s with heap := h' }) :
    wpAny (model prog w) A (Builtin.SmallTypes.iterAll (ss.map Sx.val)) Q E s := by
  unfold Builtin.SmallTypes.iterAll
  refine wpAny_bind (wpAny_forIn_list _ (fun rest (b : Array Value) s' => ∃ k h', rest = (ss.drop k).map Sx.val ∧ s' = { s with heap := h' } ∧ k ≤ ss.length ∧ b.toList = (List.range k).map (fun j => Value.ref (s.heap.objs.size + j)) ∧
    h'.objs.size = s.heap.objs.size + k ∧ s.heap.StaysIn h' ∧ ∀ (j : Nat) (x : Sx), j < k → ss[j]? = some x → x.iter h' (s.heap.objs.size + j) 0) _ ?turn ?fin _ _ ?start)
  case start => exact ⟨0, s.heap, by simp, rfl, Nat.zero_le _, by simp, rfl, fun _ _ e => e, fun j x hj => absurd hj (Nat.not_lt_zero _)⟩
  case turn =>
    rintro x rest b s' ⟨k, h', hrest, rfl, hk, hb, hsz, hst, hits⟩
    cases hd : ss.drop k with
    | nil => rw [hd] at hrest; cases hrest
    | cons p r =>
      rw [hd, List.map_cons] at hrest
      obtain ⟨rfl, e2⟩ := List.cons.inj hrest
      have hp : ss[k]? = some p := by
        have := congrArg (·[0]?) hd
        simpa using this
      have hr : ss.drop (k + 1) = r := by
        have := congrArg List.tail hd
        simpa using this
      have hklt : k < ss.length := by
        rcases Nat.lt_or_ge k ss.length with h | h
        · exact h
        · rw [List.drop_eq_nil_of_le h] at hd; cases hd
      refine wpAny_bind (wpAny_holding ?_)
      have hpon : p.on h' := Sx.on_at (hon p (List.mem_of_getElem? hp)) fun b _ o e => hst b o e
      refine Sx.start (s := { s with heap := h' }) hpon fun o ho hit => wpAny_pure ?_
      refine ⟨k + 1, h'.push o, by rw [hr]; exact e2, rfl, hklt, ?_, by rw [Heap.size_push, hsz]; rfl, fun b x e => Heap.get?_push_of_some _ (hst b x e), fun j x hj hx => ?_⟩
      · show (b.push (.ref h'.objs.size)).toList = _
        rw [Array.toList_push, hb, List.range_succ, List.map_append, hsz]; rfl
      · by_cases hjk : j = k
        · subst hjk
          rw [hp] at hx; cases hx
          have := hit
          rw [hsz] at this
          exact this
        · exact Sx.iter_at (hits j x (by omega) hx) fun o' e => Heap.get?_push_of_some _ e
  case fin =>
    rintro b s' ⟨k, h', hrest, rfl, hk, hb, hsz, hst, hits⟩
    have hkn : k = ss.length := by
      have := congrArg List.length hrest
      simp only [List.length_nil, List.length_map, List.length_drop] at this
      omega
    subst hkn
    refine wpAny_pure ?_
    have e : b.toList = (placed s.heap.objs.size ss).map fun p => Value.ref p.1 := by
      rw [hb]
      refine List.ext_getElem? fun j => ?_
      simp only [List.getElem?_map, placed, List.getElem?_zipIdx]
      by_cases hj : j < ss.length
      · simp [hj]
      · simp [hj]
    rw [e]
    exact hQ h' hsz hst fun j x hx => hits j x ((List.getElem?_eq_some_iff.mp hx).1) hx

/-- what a new zip is -/
structure ZNew (ss : List Sx) (h h' : Heap) (z TI TO : Addr) (ps : List (Addr × Sx)) : Prop where
  srcs : ps.map (·.2) = ss
  new : ∀ b ∈ z :: TO :: TI :: ps.map (·.1), h.objs.size ≤ b
  apart : ZApart z TI TO ps
  mid : ZMid z TI TO ps 0 0 h'
  stays : h.StaysIn h'

theorem placed_apart {b : Nat} {ss : List Sx} (hs : ∀ x ∈ ss, ∀ a ∈ x.addr, @LT.lt Nat _ a b) : ZApart (b + ss.length + 2) (b + ss.length) (b + ss.length + 1) (placed b ss) where
  zTI := by intro e; have e : b + ss.length = b + ss.length + 2 := e; omega
  zTO := by intro e; have e : b + ss.length + 1 = b + ss.length + 2 := e; omega
  TITO := by intro e; have e : b + ss.length = b + ss.length + 1 := e; omega
  its := fun p hp => by
    obtain ⟨j, hj, e, _⟩ := placed_mem hp
    have e : @Eq Nat p.1 (b + j) := e
    refine ⟨fun q => ?_, fun q => ?_, fun q => ?_⟩ <;> (rw [e] at q; have q : (b + j : Nat) = _ := q; omega)
  srcs := fun p hp a ha => by
    obtain ⟨j, hj, e, hx⟩ := placed_mem hp
    have hlt := hs p.2 (List.mem_of_getElem? hx) a ha
    refine ⟨fun q => ?_, fun q => ?_, fun q hq r => ?_⟩
    · have q : @Eq Nat a (b + ss.length + 2) := q
      omega
    · have q : @Eq Nat a (b + ss.length + 1) := q
      omega
    · obtain ⟨j', hj', e', _⟩ := placed_mem hq
      have r : @Eq Nat a (b + j') := r.trans e'
      omega
  nodup := fun j k p q hp hq e => by
    obtain ⟨h1, _⟩ := placed_get hp
    obtain ⟨h2, _⟩ := placed_get hq
    have : b + j = b + k := h1.symm.trans (e.trans h2)
    omega

theorem newClass_zip (vs : List Value) : Builtin.SmallTypes.newClass "zip" ⟨.type "zip" :: vs, []⟩ = pure (.type "zip", vs) := by
  unfold Builtin.SmallTypes.newClass
  dsimp only
  rw [sub_zip]
  rfl

theorem meets_zip (ss : List Sx) (hsz : ss.length ≤ 1000) :
    Meets (Builtin.«zip.__new__» ⟨.type "zip" :: ss.map Sx.val, []⟩) (fun _ R s => (∀ x ∈ ss, x.on s.heap) ∧ ∀ z TI TO ps h', ZNew ss s.heap h' z TI TO ps → R (.ok (.ret (.ref z))) { s with heap := h' }) :=
  .of_wp fun prog w A R s h => by
    obtain ⟨hon, h⟩ := h
    unfold Builtin.«zip.__new__»
    rw [newClass_zip]
    refine wpAny_bind (wpAny_pure ?_)
    dsimp only
    refine wpAny_bind (iterAll_sx hon fun h₁ hs₁ hk₁ hits => ?_)
    have hl : (List.map (fun p : Addr × Sx => Value.ref p.1) (placed s.heap.objs.size ss)).length ≤ sizeLine := by
      rw [List.length_map, placed_length]; exact Nat.le_trans hsz (by decide)
    refine wpAny_bind (wpAny_newTuple ?_ hl)
    refine wpAny_bind (wpAny_newTuple ?_ (by rw [List.length_map]; exact hl))
    refine wpAny_bind ?_
    simp only [Builtin.SmallTypes.newRecord]
    refine wpAny_newObj_type ?_ (show _ ≤ _ from Nat.le_trans (m := 5) (Nat.le_refl 5) (by decide))
    refine wpAny_pure ⟨_, rfl, ?_⟩
    have e1 : (h₁.push (tup ((placed s.heap.objs.size ss).map fun p => .ref p.1))).objs.size = s.heap.objs.size + ss.length + 1 := by rw [Heap.size_push, hs₁]
    have e2 : ((h₁.push (tup ((placed s.heap.objs.size ss).map fun p => .ref p.1))).push (tup (((placed s.heap.objs.size ss).map fun p => Value.ref p.1).map fun _ => .none))).objs.size = s.heap.objs.size + ss.length + 2 := by rw [Heap.size_push, e1]
    have g1 : (h₁.push (tup ((placed s.heap.objs.size ss).map fun p => .ref p.1))).get? (s.heap.objs.size + ss.length) = some _ := hs₁ ▸ Heap.get?_push_size _ rfl
    have g2 : ((h₁.push (tup ((placed s.heap.objs.size ss).map fun p => .ref p.1))).push (tup (((placed s.heap.objs.size ss).map fun p => Value.ref p.1).map fun _ => .none))).get? (s.heap.objs.size + ss.length + 1) = some _ := e1 ▸ Heap.get?_push_size _ rfl
    have key : ∀ (H : Heap), (∀ b o, ((h₁.push (tup ((placed s.heap.objs.size ss).map fun p => .ref p.1))).push (tup (((placed s.heap.objs.size ss).map fun p => Value.ref p.1).map fun _ => .none))).get? b = some o → H.get? b = some o) →
        H.get? (s.heap.objs.size + ss.length + 2) = some (zipObj .none (.bool false) (s.heap.objs.size + ss.length) (s.heap.objs.size + ss.length + 1)) →
        ZNew ss s.heap H (s.heap.objs.size + ss.length + 2) (s.heap.objs.size + ss.length) (s.heap.objs.size + ss.length + 1) (placed s.heap.objs.size ss) := by
      intro H hH hz
      have hk : ∀ b o, h₁.get? b = some o → H.get? b = some o := fun b o e => hH _ _ (Heap.get?_push_of_some _ (Heap.get?_push_of_some _ e))
      refine ⟨?_, ?_, placed_apart fun x hx a ha => ?_, ⟨⟨_, _, hz⟩, hH _ _ (Heap.get?_push_of_some _ g1), ⟨_, by rw [List.length_map, List.length_map], hH _ _ g2⟩, fun j p hp => ?_⟩, fun b o e => hk _ _ (hk₁ b o e)⟩
      · refine List.ext_getElem? fun j => ?_
        simp only [placed, List.map_map, List.getElem?_map, List.getElem?_zipIdx]
        cases ss[j]? <;> rfl
      · intro b hb
        simp only [List.mem_cons, List.mem_map] at hb
        rcases hb with rfl | rfl | rfl | ⟨p, hp, rfl⟩
        · show @LE.le Nat _ _ _; omega
        · show @LE.le Nat _ _ _; omega
        · show @LE.le Nat _ _ _; omega
        · obtain ⟨j, _, e, _⟩ := placed_mem hp
          have e : @Eq Nat p.1 (s.heap.objs.size + j) := e
          show @LE.le Nat _ _ _; omega
      · have hon' := hon x hx
        cases x with
        | str x t => cases ha
        | lst a' vs =>
          rw [List.mem_singleton.mp ha]
          obtain ⟨o, ho, _⟩ := hon'
          exact Heap.lt_size ho
      · obtain ⟨h1, h2⟩ := placed_get hp
        rw [if_neg (Nat.not_lt_zero _), h1]
        exact ⟨Sx.iter_at (hits j p.2 h2) fun o e => hk _ o e, Sx.on_at (hon p.2 (List.mem_of_getElem? h2)) fun b _ o e => hk _ _ (hk₁ b o e)⟩
    have fin := h (s.heap.objs.size + ss.length + 2) (s.heap.objs.size + ss.length) (s.heap.objs.size + ss.length + 1) (placed s.heap.objs.size ss) _ (key (((h₁.push (tup ((placed s.heap.objs.size ss).map fun p => .ref p.1))).push (tup (((placed s.heap.objs.size ss).map fun p => Value.ref p.1).map fun _ => .none))).push (zipObj .none (.bool false) (s.heap.objs.size + ss.length) (s.heap.objs.size + ss.length + 1))) (fun b o e => Heap.get?_push_of_some _ e) (e2 ▸ Heap.get?_push_size _ rfl))
    generalize hB : s.heap.objs.size + ss.length = B at fin e2 e1
    have hB' : h₁.objs.size = B := hs₁.trans hB
    rw [← e2, ← e1] at fin
    subst hB'
    exact fin

theorem zip_new {ss : List Sx} {Q : Value → Shared → Prop} (hne : ss ≠ []) (hon : ∀ x ∈ ss, x.on s.heap) (hsz : ss.length ≤ 1000)
    (hQ : ∀ z TI TO ps h', ZNew ss s.heap h' z TI TO ps → Q (.ref z) { s with heap := h' }) :
    wpAny (model prog w) A (call (.type "zip") (ss.map Sx.val)) Q E s := by
  obtain ⟨x0, sr, rfl⟩ : ∃ x0 sr, ss = x0 :: sr := by cases ss with | nil => exact absurd rfl hne | cons a r => exact ⟨a, r, rfl⟩
  refine callType_new PySem.F.called_zip (by decide) (typeCall_zip _) (newCall_zip _ _) (fun obj => args_init obj _) PySem.F.entry_zip_new (meets_zip (x0 :: sr) hsz) ⟨hon, fun z TI TO ps h' Z => ?_⟩
  obtain ⟨a, b, e⟩ := Z.mid.zz
  exact ⟨⟨_, e, rfl⟩, hQ z TI TO ps h' Z⟩
end
end Mine
end

section
set_option maxRecDepth 100000
set_option Elab.async false
namespace Mine
open PySem PySem.W PySem.Spec PySem.Calls PyProof.Rows
section
variable {prog : Program} {w : World} {A₀ A : Around} {s : Shared} {K : Frag} {L : Addr} {h₀ base : Heap} {m mg mb : Str → Option Value} {news : List (Addr × Obj)} {p : Program} {loose : List Str} {mean : ExcName → Option Value}
variable {env : Env} {outer : List Env} {R : Result → Shared → Prop} {name qual : Str} {params : Arguments} {body : List Stmt} {scope : Scope} {dV kV doc pm cdv ct oc : Value} {an od : Option Addr} {osl : Array (Option Value)} {f : Addr} {args : Args}

theorem enter_restC {vs : List Value} {g₁ : Addr → Option (List (Str × Value))} {binds : Addr → List (Str × Value)}
    (B : Below A₀ base outer h₀) (F : Fr h₀ L s.heap m) (X₀ : K.In h₀) (N : News h₀ L s.heap news) (T : Top p loose mean mg mb h₀) (hA : A.frames = some (env :: outer)) (hf : env.frame = some L) (hke : env.scope.kind = .function)
    (ho : K.lookup f = some ⟨oc, od, .func (fnOf name qual params body scope dV kV doc pm an cdv ct), osl⟩) (hcd : codeIn K cdv qual = true) (hroom : A.depth < recursionLimit)
    (hv : args.pos.drop (params.posonlyargs.length + params.args.length) = vs)
    (hp : peek1 K ⟨prog, w.params⟩ (bindArgs (fnOf name qual params body scope dV kV doc pm an cdv ct) args) = some (tupOf vs, g₁))
    (hg : ∀ D, g₁ D = some (binds D)) (hkind : ∀ D, ((binds D).all fun y => scope.names.lookup y.1 == some .local || scope.names.lookup y.1 == some .cell) = true)
    (hnd : ((cellsFrom 0 scope.names []).map (·.1)).Nodup)
    (h : ∀ D g L' h₁ tk cells, Fr h₀ L g m → Fr g L' h₁ (bindL (envOfC qual scope L' f cdv).kindOf (binds D) fun _ => none) → News g L' h₁ (cells ++ ((D, tupOf vs) :: news)) →
      CellsAre (bindC (envOfC qual scope L' f cdv).kindOf (binds D) fun _ => none) (cellsFrom (L' + 1) scope.names []) cells → Below A base (env :: outer) g → K.In g → Top p loose mean mg mb g → (∀ p ∈ news, p.1 < D) → D < L' → Ent h₀ g s.heap news →
      wpAny (model prog w) (A.deeper (envOfC qual scope L' f cdv)) (execs body (envOfC qual scope L' f cdv))
        (fun fl s' => R (.ok (.ret (match fl with | .ret v => v | _ => .none))) s')
        (fun e s' => wpAny (model prog w) (A.deeper (envOfC qual scope L' f cdv)) (leaving (envOfC qual scope L' f cdv) e) (fun _ s'' => R (.error e) s'') (fun e' s'' => R (.error e') s'') s')
        { s with heap := h₁, toks := tk })
    (hco : scope.isCoroutine = false) (hgen : scope.isGenerator = false) (hk : scope.kind = .function) : codeAny (model prog w) A (.call (.ref f) args) R s := by
  have _ := hv
  refine codeAny_call_function hroom ((X₀.keeps F.keep) _ _ ho) rfl hco hgen rfl (codeRec_of (X₀.keeps F.keep) hcd) ?_
  refine wp_made1 (o := tupOf vs) (X₀.keeps F.keep) (r := binds) ?_ _ g₁ hp hg
  have NT := ent_of F N
  have F' : Fr h₀ L (s.heap.push (tupOf vs)) m := F.push _
  have N' : News h₀ L (s.heap.push (tupOf vs)) ((s.heap.objs.size, tupOf vs) :: news) := News.push F N _ rfl
  obtain ⟨FG, BG⟩ := ground_of (s := { s with heap := s.heap.push (tupOf vs) }) (A := A) B F' N' hA hf hke
  have st := ent_of F' N'
  have NT2 : Ent h₀ (hideAll (s.heap.push (tupOf vs)) (((s.heap.objs.size, tupOf vs) :: news).map (·.1))) s.heap news := by
    refine ⟨st.below, fun h' hg hn b o e => ?_, fun r hr hne => ?_, fun b o e => ?_⟩
    · by_cases hb : b ∈ news.map (·.1)
      · obtain ⟨p, hp, rfl⟩ := List.mem_map.mp hb
        rw [(N p hp).1] at e
        cases e
        exact hn p hp
      · refine hg b o (hideAll_get _ (Heap.get?_push_of_some _ e) ?_)
        intro hb'
        rcases List.mem_cons.mp hb' with e' | hb'
        · exact absurd (Heap.lt_size e) (e' ▸ Nat.lt_irrefl _)
        · exact hb hb'
    · cases q : s.heap.get? r with
      | none => rfl
      | some o =>
        have hb : r ∉ ((s.heap.objs.size, tupOf vs) :: news).map (·.1) := fun hb => by
          rcases List.mem_cons.mp hb with e' | hb'
          · exact absurd (Heap.lt_size q) (e' ▸ Nat.lt_irrefl _)
          · obtain ⟨p, hp, e⟩ := List.mem_map.mp hb'
            exact hne p hp e.symm
        have := hideAll_get (((s.heap.objs.size, tupOf vs) :: news).map (·.1)) (Heap.get?_push_of_some (tupOf vs) q) hb
        rw [hr] at this; cases this
    · have h1 := of_hideAll _ e
      have hne : b ≠ s.heap.objs.size := fun q => by
        have h2 : (hideAll (s.heap.push (tupOf vs)) (((s.heap.objs.size, tupOf vs) :: news).map (·.1))).get? s.heap.objs.size = none := hideAll_none _ (List.mem_cons_self ..)
        rw [q, h2] at e
        cases e
      exact push_old hne h1
  refine wpAny_newFunctionEnv_cells hk (kindsX (hkind _) _) fun env' he s' x => ?_
  subst he
  refine ⟨(T.nolimit.keeps F'.keep).keeps x.toInCall.keep, codeAny_func ?_⟩
  obtain ⟨h₁, tk, rfl, _⟩ := x.done
  have hk₁ := x.toInCall.keep
  obtain ⟨cells, NC, Y⟩ := Cl.news (h₀ := s.heap.push (tupOf vs)) (Nat.le_refl _) fun n c hm => ⟨x.cell n c (lookup_of_mem_nodup (cellsFrom_names scope.names 0 ((s.heap.push (tupOf vs)).objs.size + 1) [] [] rfl ▸ hnd) hm), x.above n c hm⟩
  refine h _ _ (s.heap.push (tupOf vs)).objs.size h₁ tk cells FG ⟨x.toInCall.ns, fun b o e => hk₁ b o (of_hideAll _ e), Nat.le_of_eq (hideAll_size _ _)⟩ (fun p hp => ?_) Y BG (X₀.keeps st.below) (T.keeps st.below) (fun p hp => Heap.lt_size (N p hp).1) (by rw [Heap.size_push]; exact Nat.lt_succ_self _) NT2
  rcases List.mem_append.mp hp with hp | hp
  · refine ⟨(NC p hp).1, (NC p hp).2.1, ?_⟩
    cases q : (hideAll (s.heap.push (tupOf vs)) (((s.heap.objs.size, tupOf vs) :: news).map (·.1))).get? p.1 with
    | none => rfl
    | some o => have := of_hideAll _ q; rw [(NC p hp).2.2] at this; cases this
  · exact ⟨hk₁ _ _ (N' p hp).1, Nat.ne_of_lt (Heap.lt_size (N' p hp).1), hideAll_none _ (List.mem_map_of_mem hp)⟩
end
end Mine
end

section
set_option maxRecDepth 100000
set_option Elab.async false
namespace Mine
open PySem PySem.W PySem.Spec PySem.Calls PyProof.Rows Builtin Builtin.ObjectAttr
section
variable {prog : Program} {w : World} {A : Around} {E : Value → Shared → Prop} {s : Shared} {K : Frag} {x C p L : Addr} {ox : Obj} {name : Str} {h₀ : Heap} {m : Str → Option Value} {es : List DictEntry} {n : Nat} {fv : Value} {rest : List Value} {expr : Bool}
theorem attr_sm {Q : Value → Shared → Prop} (F : Fr h₀ L s.heap m) (X₀ : K.In h₀) (I : InstAt s.heap x ox C (some (dictOf es n))) (hg : plainGet K C name = true) (hh : hasDictIn K C = true) (ha : findIn K (.ref C) name = some (some (.ref p))) (ht : typeIn K (.ref p) = some (.type "staticmethod"))
    (hgf : specialIn K (.ref p) "__get__" = some (some (.builtin "staticmethod.__get__"))) (hts : takesIn K (.ref p) = some false) (hc : copiedNames.contains name = false) (hl : getL name es = some none) (hp : recIn K p "staticmethod" = some (fv :: rest)) (hv : handedIn fv = true)
    (h : Q fv { s with toks := s.toks + 1 }) : wpAny (model prog w) A (getAttr (.ref x) name expr) Q E s :=
  get_bind (X₀.keeps F.keep) I (plainGet_of hg).1 (findObj_fn hh ha hgf hts hc (by show lookIn name (dictOf es n) = _; rw [lookIn_dict, hl])) (plainGet_of hg).2
      (wpAny_call (sm_get (s := { s with toks := s.toks + 1 }) (X₀.keeps F.keep) hp (handed_on hv h)))
end
theorem methodCall_S {M : Model} {A : Around} {E : Value → Shared → Prop} {s : Shared} {name : Str} {env : Env} {o e : Expr} {apos pos p : Pos} {Q : Value → Shared → Prop}
    (h : wpAny M A (eval o env) (fun ov s₁ => wpAny M A (getAttr ov name true) (fun f s₂ => wpAny M A (callWith pos f [] (backTo pos (starEach [.Starred e p] env)) []) Q E s₂) E s₁) E s)
    (he : eval (.Call (.Attribute o name apos) [.Starred e p] [] pos) env = (do
      let ov ← eval o env
      standAt apos.atName
      let (f, first) ← holding [ov] (do pure (← getAttr ov name true, []))
      callWith pos f first (backTo pos (starEach [.Starred e p] env)) []) := by rfl) :
    wpAny M A (eval (.Call (.Attribute o name apos) [.Starred e p] [] pos) env) Q E s := by
  rw [he]
  refine wpAny_bind (wpAny_mono h (fun ov s₁ h₁ => wpAny_bind (wpAny_standAt (wpAny_bind (wpAny_holding (wpAny_bind (wpAny_mono h₁ (fun fx s₂ h₂ => wpAny_pure ?_) fun _ _ x => x)))))) fun _ _ x => x)
  exact h₂
theorem star_any {M : Model} {A : Around} {E : Value → Shared → Prop} {s : Shared} {f : Value} {first : List Value} {pos : Pos} {Q : Value → Shared → Prop} {P : Heap → Prop} {args : List (Bool × Sem Value)} (hst : args.any (·.1) = true)
    (hk : ∀ h, P h → ∃ k, Looks M h (keeperOf f) k)
    (h : wpAny M A (evalArgs f true args []) (fun a s₁ => P s₁.heap ∧ wpAny M A (call f (first ++ a.pos) a.kw) Q E s₁) E s) : wpAny M A (callWith pos f first args []) Q E s := by
  unfold callWith
  refine wpAny_bind (wpAny_holding (wpAny_mono h (fun a s₁ h₁ => wpAny_bind (wpAny_standAt ?_)) fun _ _ x => x))
  obtain ⟨k, L⟩ := hk _ h₁.1
  simp only [hst, Bool.true_or]
  refine wpAny_bind (L.here ?_)
  have tail : ∀ {t : Sem Value}, wpAny M A t Q E s₁ → wpAny M A (t >>= fun r => holding [r] point >>= fun _ => pure r) Q E s₁ :=
    fun ht => wpAny_bind (wpAny_mono ht (fun r s₂ hr => wpAny_bind (wpAny_holding (wpAny_point (wpAny_pure hr)))) fun _ _ x => x)
  have marked (mk : Value) : wpAny M A (callMarked mk f (first ++ a.pos) a.kw) Q E s₁ := by unfold callMarked; exact Calls.wpAny_keep h₁.2
  cases k <;> dsimp only <;> first | exact tail (marked _) | exact tail (wpAny_operating h₁.2) | exact tail (wpAny_operateT h₁.2)
section
variable {M : Model} {A : Around} {E : Value → Shared → Prop} {s : Shared} {K : Frag} {env : Env} {pos p : Pos} {f : Value} {first : List Value} {Q : Value → Shared → Prop} {h₀ : Heap} {e : Expr}
theorem star_meth {L : Addr} {news : List (Addr × Obj)} {q g : Addr} {self : Value} (_X : K.In h₀) (_N : News h₀ L s.heap news) (_q : (q, methodObj (.ref g) self) ∈ news) (hf : fnIn K g = true)
    (h : wpAny M A (eval e env) (fun v s₁ => StarOf M A E v (fun vs s₂ => MethP K q g self s₂.heap ∧ wpAny M A (call (.ref q) (first ++ vs)) Q E s₂) s₁) E s)
    (he : starEach [.Starred e p] env = [(true, eval e env)] := by rfl) :
    wpAny M A (callWith pos (.ref q) first (backTo pos (starEach [.Starred e p] env)) []) Q E s := by
  rw [he]
  exact star_any rfl (fun h x => let ⟨k, _, L⟩ := keeps_M hf h x; ⟨k, L⟩) (ks_lone h)
theorem star_inst {x C g : Addr} {ox : Obj} {od : Option Obj} (_X : K.In s.heap) (_I : InstAt s.heap x ox C od) (hd : ox.data = .plain) (_hs : findIn K (.ref C) "__call__" = some (some (.ref g)))
    (h : wpAny M A (eval e env) (fun v s₁ => StarOf M A E v (fun vs s₂ => kco_P K x C ox od s₂.heap ∧ wpAny M A (call (.ref x) (first ++ vs)) Q E s₂) s₁) E s)
    (he : starEach [.Starred e p] env = [(true, eval e env)] := by rfl) :
    wpAny M A (callWith pos (.ref x) first (backTo pos (starEach [.Starred e p] env)) []) Q E s := by
  rw [he]
  exact star_any rfl (fun h x => ⟨_, kco_keeper x.2 hd⟩) (ks_lone h)
theorem star_type {T : String}
    (h : wpAny M A (eval e env) (fun v s₁ => StarOf M A E v (fun vs s₂ => wpAny M A (call (.type T) (first ++ vs)) Q E s₂) s₁) E s)
    (he : starEach [.Starred e p] env = [(true, eval e env)] := by rfl) :
    wpAny M A (callWith pos (.type T) first (backTo pos (starEach [.Starred e p] env)) []) Q E s := by
  rw [he]
  refine star_any (P := fun _ => True) rfl (fun h _ => ⟨.machine, .now⟩) (ks_lone ?_)
  refine wpAny_mono h (fun v s₁ h₁ => ?_) fun _ _ x => x
  unfold StarOf at h₁ ⊢
  exact wpAny_mono h₁ (fun b s₂ h₂ => ⟨h₂.1, wpAny_mono h₂.2 (fun vs s₃ h₃ => ⟨trivial, h₃⟩) fun _ _ x => x⟩) fun _ _ x => x
end
end Mine
end
open PySem PySem.W PySem.Spec PySem.Calls PyProof.Rows
local macro_rules | `(tactic| walk_at "getAttr ref") => `(tactic| (k_here; k_dflt (refine' Mine.attr_sm ?k1 ?k2 ?k4 ?k5 ?k6 ?k7 ?k8 ?k9 ?k10 ?k11 ?k12 ?k13 ?k14 ?_; (case k1 => k_asm); (case k2 => k_asm); (case k4 => k_inst); (case k5 => k_is); (case k6 => k_is); (case k7 => k_is); (case k8 => k_is); (case k9 => k_is); (case k10 => k_is); (case k11 => decide +kernel); (case k12 => k_get); (case k13 => k_is); (case k14 => k_handed); k_whole)))
local macro_rules | `(tactic| walk_at "eval Call Attribute") => `(tactic| (k_here; (with_reducible show wpAny _ _ (eval (Expr.Call (Expr.Attribute _ _ _) [Expr.Starred _ _] [] _) _) _ _ _); refine Mine.methodCall_S ?_))
local macro_rules | `(tactic| walk_at "callWith ref") => `(tactic| (k_here; (with_reducible show wpAny _ _ (callWith _ (Value.ref _) _ (backTo _ (starEach [Expr.Starred _ _] _)) []) _ _ _); k_dflt (first
  | (refine' Mine.star_meth ?k1 ?k2 ?k3 ?k4 ?_; (case k1 => k_asm); (case k2 => k_asm); (case k3 => k_mem); (case k4 => k_is); k_whole)
  | (refine' Mine.star_inst ?k1 ?k2 ?k3 ?k4 ?_; (case k1 => k_in); (case k2 => k_inst); (case k3 => rfl); (case k4 => k_is); k_whole))))
local macro_rules | `(tactic| walk_at "callWith type:zip") => `(tactic| (k_here; (with_reducible show wpAny _ _ (callWith _ (Value.type _) _ (backTo _ (starEach [Expr.Starred _ _] _)) []) _ _ _); refine Mine.star_type ?_))

section
theorem Mine.calm_GetSeq : True := by
  w_top off
  trivial
open PySem PySem.W PyProof.Rows PySem.Spec PySem.Calls
set_option Elab.async false
namespace Mine
set_option maxRecDepth 100000 in
set_option maxHeartbeats 8000000 in

theorem getseq_P2 {w : World} {p : Program} {loose : List Str} {mean : ExcName → Option Value} {mg mb : Str → Option Value}
    {dp un : Nat} {gd : Option (List Code)} {cn : Str} {cs : Scope} {a : Addr} {ccd : Value} {cl : List (Str × Addr)} {outer : List Env} {A₀ : Around} {base h₀ : Heap} {L : Addr} {m : Str → Option Value} {s : Shared}
    {Q E : Value → Shared → Prop} (B : Below A₀ base outer h₀) (F : Fr h₀ L s.heap m) (X : (hd.heap_39 w.params).In h₀) (T : Top p loose mean mg mb h₀) (hk : cs.kind = .function)
    (hd : dp + 10 < recursionLimit) (hu : un + 200 < cLine)
  (S d : Addr) (t1 t2 tq : Tok) (N : News h₀ L s.heap [(S, instObj 262 d), (d, dictOf [⟨PyData.keyHash w.params (Str.ofString "qval"), .str (Str.ofString "qval") t1, .int 1 tq⟩, ⟨PyData.keyHash w.params (Str.ofString "sim_test"), .str (Str.ofString "sim_test") t2, .ref 100⟩] 2)]) (v0 v1 : Value)
  (ret : ∀ r c h' tk', s.heap.StaysIn h' → s.heap.get? r = none → h'.get? r = some (W.listOf #[v0, v1] c) → Q (.ref r) { s with heap := h', toks := tk' }) :
  codeAny (model PySem.Challenge.rw_fu0023_01.row.prog w) (ktrTop dp un gd cn cs L a ccd cl outer) (.call (.ref 108) ⟨[.ref S, v0, v1], []⟩) (fun r s' => match r with | .ok (.ret v) => Q v s' | .ok _ => False | .error e => E e s') s := by
  revert X; k_fill; intro X
  k_dflt (refine' enter_restC ?k1 ?k2 ?k3 ?k4 ?k5 ?kA ?kF ?kK ?k6 ?k7 ?k8 ?kV ?kP ?kG ?kB ?kD ?_ ?c2 ?c3 ?c4; (case kA => exact rfl); (case kF => exact rfl); (case kK => first | exact rfl | assumption); (case k1 => k_asm); (case k2 => k_asm); (case k3 => k_asm); (case k4 => k_asm); (case k5 => k_asm); (case k6 => k_is); (case k7 => k_is); (case k8 => ktr_room); (case kV => first | kl_lit | exact rfl); (case kP => exact rfl); (case kG => exact fun _ => rfl); (case kB => exact fun _ => rfl); (case kD => decide +kernel); (case c2 => exact rfl); (case c3 => exact rfl); (case c4 => exact rfl); k_whole); intro D g L1 h1 tk1 cells1 FG F1 N1 Y1 B1 X1 T1 lD lD1 NT; (try k_lt lD); (try dsimp only)
  obtain ⟨os, hE, cs⟩ := CellsAre.one Y1
  subst hE
  clear Y1
  replace cs : os.data = .cell (some (.ref S)) := cs
  simp only [List.cons_append, List.nil_append] at N1
  all_goals (try k_fold)
  k_steps
  rename Fr _ _ _ _ => F9
  rename News _ _ _ _ => N9
  refine ret _ _ _ _ (NT.back _ F9.keep fun p hp => (N9 p (.tail _ (.tail _ (.tail _ hp)))).1) (NT.fresh _ (N9 _ (.head _)).2.2 ?_) (N9 _ (.head _)).1
  intro p hp e
  simp only [List.mem_cons, List.not_mem_nil, or_false] at hp
  rcases hp with rfl | rfl
  · have e : @Eq Nat _ S := e
    omega
  · have e : @Eq Nat _ d := e
    omega
set_option maxRecDepth 100000 in
set_option maxHeartbeats 8000000 in

theorem getseq_P3 {w : World} {p : Program} {loose : List Str} {mean : ExcName → Option Value} {mg mb : Str → Option Value}
    {dp un : Nat} {gd : Option (List Code)} {cn : Str} {cs : Scope} {a : Addr} {ccd : Value} {cl : List (Str × Addr)} {outer : List Env} {A₀ : Around} {base h₀ : Heap} {L : Addr} {m : Str → Option Value} {s : Shared}
    {Q E : Value → Shared → Prop} (B : Below A₀ base outer h₀) (F : Fr h₀ L s.heap m) (X : (hd.heap_39 w.params).In h₀) (T : Top p loose mean mg mb h₀) (hk : cs.kind = .function)
    (hd : dp + 10 < recursionLimit) (hu : un + 200 < cLine)
  (S d : Addr) (t1 t2 tq : Tok) (N : News h₀ L s.heap [(S, instObj 262 d), (d, dictOf [⟨PyData.keyHash w.params (Str.ofString "qval"), .str (Str.ofString "qval") t1, .int 1 tq⟩, ⟨PyData.keyHash w.params (Str.ofString "sim_test"), .str (Str.ofString "sim_test") t2, .ref 100⟩] 2)]) (v0 v1 v2 : Value)
  (ret : ∀ r c h' tk', s.heap.StaysIn h' → s.heap.get? r = none → h'.get? r = some (W.listOf #[v0, v1, v2] c) → Q (.ref r) { s with heap := h', toks := tk' }) :
  codeAny (model PySem.Challenge.rw_fu0023_01.row.prog w) (ktrTop dp un gd cn cs L a ccd cl outer) (.call (.ref 108) ⟨[.ref S, v0, v1, v2], []⟩) (fun r s' => match r with | .ok (.ret v) => Q v s' | .ok _ => False | .error e => E e s') s := by
  revert X; k_fill; intro X
  k_dflt (refine' enter_restC ?k1 ?k2 ?k3 ?k4 ?k5 ?kA ?kF ?kK ?k6 ?k7 ?k8 ?kV ?kP ?kG ?kB ?kD ?_ ?c2 ?c3 ?c4; (case kA => exact rfl); (case kF => exact rfl); (case kK => first | exact rfl | assumption); (case k1 => k_asm); (case k2 => k_asm); (case k3 => k_asm); (case k4 => k_asm); (case k5 => k_asm); (case k6 => k_is); (case k7 => k_is); (case k8 => ktr_room); (case kV => first | kl_lit | exact rfl); (case kP => exact rfl); (case kG => exact fun _ => rfl); (case kB => exact fun _ => rfl); (case kD => decide +kernel); (case c2 => exact rfl); (case c3 => exact rfl); (case c4 => exact rfl); k_whole); intro D g L1 h1 tk1 cells1 FG F1 N1 Y1 B1 X1 T1 lD lD1 NT; (try k_lt lD); (try dsimp only)
  obtain ⟨os, hE, cs⟩ := CellsAre.one Y1
  subst hE
  clear Y1
  replace cs : os.data = .cell (some (.ref S)) := cs
  simp only [List.cons_append, List.nil_append] at N1
  all_goals (try k_fold)
  k_steps
  rename Fr _ _ _ _ => F9
  rename News _ _ _ _ => N9
  refine ret _ _ _ _ (NT.back _ F9.keep fun p hp => (N9 p (.tail _ (.tail _ (.tail _ hp)))).1) (NT.fresh _ (N9 _ (.head _)).2.2 ?_) (N9 _ (.head _)).1
  intro p hp e
  simp only [List.mem_cons, List.not_mem_nil, or_false] at hp
  rcases hp with rfl | rfl
  · have e : @Eq Nat _ S := e
    omega
  · have e : @Eq Nat _ d := e
    omega
set_option maxRecDepth 100000 in
set_option maxHeartbeats 8000000 in

theorem getseq_T2 {w : World} {p : Program} {loose : List Str} {mean : ExcName → Option Value} {mg mb : Str → Option Value}
    {dp un : Nat} {gd : Option (List Code)} {cn : Str} {cs : Scope} {a : Addr} {ccd : Value} {cl : List (Str × Addr)} {outer : List Env} {A₀ : Around} {base h₀ : Heap} {L : Addr} {m : Str → Option Value} {s : Shared}
    {Q E : Value → Shared → Prop} (B : Below A₀ base outer h₀) (F : Fr h₀ L s.heap m) (X : (hd.heap_39 w.params).In h₀) (T : Top p loose mean mg mb h₀) (hk : cs.kind = .function)
    (hd : dp + 10 < recursionLimit) (hu : un + 200 < cLine)
  (S d : Addr) (t1 t2 tq : Tok) (N : News h₀ L s.heap [(S, instObj 279 d), (d, dictOf [⟨PyData.keyHash w.params (Str.ofString "qval"), .str (Str.ofString "qval") t1, .int 1 tq⟩, ⟨PyData.keyHash w.params (Str.ofString "sim_test"), .str (Str.ofString "sim_test") t2, .ref 100⟩] 2)]) (v0 v1 : Value)
  (ret : ∀ r c h' tk', s.heap.StaysIn h' → s.heap.get? r = none → h'.get? r = some (W.listOf #[v0, v1] c) → Q (.ref r) { s with heap := h', toks := tk' }) :
  codeAny (model PySem.Challenge.rw_fu0023_01.row.prog w) (ktrTop dp un gd cn cs L a ccd cl outer) (.call (.ref 108) ⟨[.ref S, v0, v1], []⟩) (fun r s' => match r with | .ok (.ret v) => Q v s' | .ok _ => False | .error e => E e s') s := by
  revert X; k_fill; intro X
  k_dflt (refine' enter_restC ?k1 ?k2 ?k3 ?k4 ?k5 ?kA ?kF ?kK ?k6 ?k7 ?k8 ?kV ?kP ?kG ?kB ?kD ?_ ?c2 ?c3 ?c4; (case kA => exact rfl); (case kF => exact rfl); (case kK => first | exact rfl | assumption); (case k1 => k_asm); (case k2 => k_asm); (case k3 => k_asm); (case k4 => k_asm); (case k5 => k_asm); (case k6 => k_is); (case k7 => k_is); (case k8 => ktr_room); (case kV => first | kl_lit | exact rfl); (case kP => exact rfl); (case kG => exact fun _ => rfl); (case kB => exact fun _ => rfl); (case kD => decide +kernel); (case c2 => exact rfl); (case c3 => exact rfl); (case c4 => exact rfl); k_whole); intro D g L1 h1 tk1 cells1 FG F1 N1 Y1 B1 X1 T1 lD lD1 NT; (try k_lt lD); (try dsimp only)
  obtain ⟨os, hE, cs⟩ := CellsAre.one Y1
  subst hE
  clear Y1
  replace cs : os.data = .cell (some (.ref S)) := cs
  simp only [List.cons_append, List.nil_append] at N1
  all_goals (try k_fold)
  k_steps
  rename Fr _ _ _ _ => F9
  rename News _ _ _ _ => N9
  refine ret _ _ _ _ (NT.back _ F9.keep fun p hp => (N9 p (.tail _ (.tail _ (.tail _ hp)))).1) (NT.fresh _ (N9 _ (.head _)).2.2 ?_) (N9 _ (.head _)).1
  intro p hp e
  simp only [List.mem_cons, List.not_mem_nil, or_false] at hp
  rcases hp with rfl | rfl
  · have e : @Eq Nat _ S := e
    omega
  · have e : @Eq Nat _ d := e
    omega
set_option maxRecDepth 100000 in
set_option maxHeartbeats 8000000 in

theorem getseq_T3 {w : World} {p : Program} {loose : List Str} {mean : ExcName → Option Value} {mg mb : Str → Option Value}
    {dp un : Nat} {gd : Option (List Code)} {cn : Str} {cs : Scope} {a : Addr} {ccd : Value} {cl : List (Str × Addr)} {outer : List Env} {A₀ : Around} {base h₀ : Heap} {L : Addr} {m : Str → Option Value} {s : Shared}
    {Q E : Value → Shared → Prop} (B : Below A₀ base outer h₀) (F : Fr h₀ L s.heap m) (X : (hd.heap_39 w.params).In h₀) (T : Top p loose mean mg mb h₀) (hk : cs.kind = .function)
    (hd : dp + 10 < recursionLimit) (hu : un + 200 < cLine)
  (S d : Addr) (t1 t2 tq : Tok) (N : News h₀ L s.heap [(S, instObj 279 d), (d, dictOf [⟨PyData.keyHash w.params (Str.ofString "qval"), .str (Str.ofString "qval") t1, .int 1 tq⟩, ⟨PyData.keyHash w.params (Str.ofString "sim_test"), .str (Str.ofString "sim_test") t2, .ref 100⟩] 2)]) (v0 v1 v2 : Value)
  (ret : ∀ r c h' tk', s.heap.StaysIn h' → s.heap.get? r = none → h'.get? r = some (W.listOf #[v0, v1, v2] c) → Q (.ref r) { s with heap := h', toks := tk' }) :
  codeAny (model PySem.Challenge.rw_fu0023_01.row.prog w) (ktrTop dp un gd cn cs L a ccd cl outer) (.call (.ref 108) ⟨[.ref S, v0, v1, v2], []⟩) (fun r s' => match r with | .ok (.ret v) => Q v s' | .ok _ => False | .error e => E e s') s := by
  revert X; k_fill; intro X
  k_dflt (refine' enter_restC ?k1 ?k2 ?k3 ?k4 ?k5 ?kA ?kF ?kK ?k6 ?k7 ?k8 ?kV ?kP ?kG ?kB ?kD ?_ ?c2 ?c3 ?c4; (case kA => exact rfl); (case kF => exact rfl); (case kK => first | exact rfl | assumption); (case k1 => k_asm); (case k2 => k_asm); (case k3 => k_asm); (case k4 => k_asm); (case k5 => k_asm); (case k6 => k_is); (case k7 => k_is); (case k8 => ktr_room); (case kV => first | kl_lit | exact rfl); (case kP => exact rfl); (case kG => exact fun _ => rfl); (case kB => exact fun _ => rfl); (case kD => decide +kernel); (case c2 => exact rfl); (case c3 => exact rfl); (case c4 => exact rfl); k_whole); intro D g L1 h1 tk1 cells1 FG F1 N1 Y1 B1 X1 T1 lD lD1 NT; (try k_lt lD); (try dsimp only)
  obtain ⟨os, hE, cs⟩ := CellsAre.one Y1
  subst hE
  clear Y1
  replace cs : os.data = .cell (some (.ref S)) := cs
  simp only [List.cons_append, List.nil_append] at N1
  all_goals (try k_fold)
  k_steps
  rename Fr _ _ _ _ => F9
  rename News _ _ _ _ => N9
  refine ret _ _ _ _ (NT.back _ F9.keep fun p hp => (N9 p (.tail _ (.tail _ (.tail _ hp)))).1) (NT.fresh _ (N9 _ (.head _)).2.2 ?_) (N9 _ (.head _)).1
  intro p hp e
  simp only [List.mem_cons, List.not_mem_nil, or_false] at hp
  rcases hp with rfl | rfl
  · have e : @Eq Nat _ S := e
    omega
  · have e : @Eq Nat _ d := e
    omega
set_option maxRecDepth 100000 in
set_option maxHeartbeats 8000000 in

theorem getseq_L2 {w : World} {p : Program} {loose : List Str} {mean : ExcName → Option Value} {mg mb : Str → Option Value}
    {dp un : Nat} {gd : Option (List Code)} {cn : Str} {cs : Scope} {a : Addr} {ccd : Value} {cl : List (Str × Addr)} {outer : List Env} {A₀ : Around} {base h₀ : Heap} {L : Addr} {m : Str → Option Value} {s : Shared}
    {Q E : Value → Shared → Prop} (B : Below A₀ base outer h₀) (F : Fr h₀ L s.heap m) (X : (hd.heap_39 w.params).In h₀) (T : Top p loose mean mg mb h₀) (hk : cs.kind = .function)
    (hd : dp + 10 < recursionLimit) (hu : un + 200 < cLine)
  (S d : Addr) (t1 t2 tq : Tok) (N : News h₀ L s.heap [(S, instObj 221 d), (d, dictOf [⟨PyData.keyHash w.params (Str.ofString "qval"), .str (Str.ofString "qval") t1, .int 1 tq⟩, ⟨PyData.keyHash w.params (Str.ofString "external"), .str (Str.ofString "external") t2, .bool true⟩] 2)]) (v0 v1 : Value)
  (ret : ∀ r c h' tk', s.heap.StaysIn h' → s.heap.get? r = none → h'.get? r = some (W.listOf #[v0, v1] c) → Q (.ref r) { s with heap := h', toks := tk' }) :
  codeAny (model PySem.Challenge.rw_fu0023_01.row.prog w) (ktrTop dp un gd cn cs L a ccd cl outer) (.call (.ref 108) ⟨[.ref S, v0, v1], []⟩) (fun r s' => match r with | .ok (.ret v) => Q v s' | .ok _ => False | .error e => E e s') s := by
  revert X; k_fill; intro X
  k_dflt (refine' enter_restC ?k1 ?k2 ?k3 ?k4 ?k5 ?kA ?kF ?kK ?k6 ?k7 ?k8 ?kV ?kP ?kG ?kB ?kD ?_ ?c2 ?c3 ?c4; (case kA => exact rfl); (case kF => exact rfl); (case kK => first | exact rfl | assumption); (case k1 => k_asm); (case k2 => k_asm); (case k3 => k_asm); (case k4 => k_asm); (case k5 => k_asm); (case k6 => k_is); (case k7 => k_is); (case k8 => ktr_room); (case kV => first | kl_lit | exact rfl); (case kP => exact rfl); (case kG => exact fun _ => rfl); (case kB => exact fun _ => rfl); (case kD => decide +kernel); (case c2 => exact rfl); (case c3 => exact rfl); (case c4 => exact rfl); k_whole); intro D g L1 h1 tk1 cells1 FG F1 N1 Y1 B1 X1 T1 lD lD1 NT; (try k_lt lD); (try dsimp only)
  obtain ⟨os, hE, cs⟩ := CellsAre.one Y1
  subst hE
  clear Y1
  replace cs : os.data = .cell (some (.ref S)) := cs
  simp only [List.cons_append, List.nil_append] at N1
  all_goals (try k_fold)
  k_steps
  rename Fr _ _ _ _ => F9
  rename News _ _ _ _ => N9
  refine ret _ _ _ _ (NT.back _ F9.keep fun p hp => (N9 p (.tail _ (.tail _ (.tail _ hp)))).1) (NT.fresh _ (N9 _ (.head _)).2.2 ?_) (N9 _ (.head _)).1
  intro p hp e
  simp only [List.mem_cons, List.not_mem_nil, or_false] at hp
  rcases hp with rfl | rfl
  · have e : @Eq Nat _ S := e
    omega
  · have e : @Eq Nat _ d := e
    omega
set_option maxRecDepth 100000 in
set_option maxHeartbeats 8000000 in

theorem getseq_L3 {w : World} {p : Program} {loose : List Str} {mean : ExcName → Option Value} {mg mb : Str → Option Value}
    {dp un : Nat} {gd : Option (List Code)} {cn : Str} {cs : Scope} {a : Addr} {ccd : Value} {cl : List (Str × Addr)} {outer : List Env} {A₀ : Around} {base h₀ : Heap} {L : Addr} {m : Str → Option Value} {s : Shared}
    {Q E : Value → Shared → Prop} (B : Below A₀ base outer h₀) (F : Fr h₀ L s.heap m) (X : (hd.heap_39 w.params).In h₀) (T : Top p loose mean mg mb h₀) (hk : cs.kind = .function)
    (hd : dp + 10 < recursionLimit) (hu : un + 200 < cLine)
  (S d : Addr) (t1 t2 tq : Tok) (N : News h₀ L s.heap [(S, instObj 221 d), (d, dictOf [⟨PyData.keyHash w.params (Str.ofString "qval"), .str (Str.ofString "qval") t1, .int 1 tq⟩, ⟨PyData.keyHash w.params (Str.ofString "external"), .str (Str.ofString "external") t2, .bool true⟩] 2)]) (v0 v1 v2 : Value)
  (ret : ∀ r c h' tk', s.heap.StaysIn h' → s.heap.get? r = none → h'.get? r = some (W.listOf #[v0, v1, v2] c) → Q (.ref r) { s with heap := h', toks := tk' }) :
  codeAny (model PySem.Challenge.rw_fu0023_01.row.prog w) (ktrTop dp un gd cn cs L a ccd cl outer) (.call (.ref 108) ⟨[.ref S, v0, v1, v2], []⟩) (fun r s' => match r with | .ok (.ret v) => Q v s' | .ok _ => False | .error e => E e s') s := by
  revert X; k_fill; intro X
  k_dflt (refine' enter_restC ?k1 ?k2 ?k3 ?k4 ?k5 ?kA ?kF ?kK ?k6 ?k7 ?k8 ?kV ?kP ?kG ?kB ?kD ?_ ?c2 ?c3 ?c4; (case kA => exact rfl); (case kF => exact rfl); (case kK => first | exact rfl | assumption); (case k1 => k_asm); (case k2 => k_asm); (case k3 => k_asm); (case k4 => k_asm); (case k5 => k_asm); (case k6 => k_is); (case k7 => k_is); (case k8 => ktr_room); (case kV => first | kl_lit | exact rfl); (case kP => exact rfl); (case kG => exact fun _ => rfl); (case kB => exact fun _ => rfl); (case kD => decide +kernel); (case c2 => exact rfl); (case c3 => exact rfl); (case c4 => exact rfl); k_whole); intro D g L1 h1 tk1 cells1 FG F1 N1 Y1 B1 X1 T1 lD lD1 NT; (try k_lt lD); (try dsimp only)
  obtain ⟨os, hE, cs⟩ := CellsAre.one Y1
  subst hE
  clear Y1
  replace cs : os.data = .cell (some (.ref S)) := cs
  simp only [List.cons_append, List.nil_append] at N1
  all_goals (try k_fold)
  k_steps
  rename Fr _ _ _ _ => F9
  rename News _ _ _ _ => N9
  refine ret _ _ _ _ (NT.back _ F9.keep fun p hp => (N9 p (.tail _ (.tail _ (.tail _ hp)))).1) (NT.fresh _ (N9 _ (.head _)).2.2 ?_) (N9 _ (.head _)).1
  intro p hp e
  simp only [List.mem_cons, List.not_mem_nil, or_false] at hp
  rcases hp with rfl | rfl
  · have e : @Eq Nat _ S := e
    omega
  · have e : @Eq Nat _ d := e
    omega
end Mine
end

section
set_option maxRecDepth 100000
set_option Elab.async false
namespace Mine
open PySem PySem.W PySem.Spec PySem.Calls PyProof.Rows PySem.SeqAt

theorem ZMid.framed {z TI TO : Addr} {ps : List (Addr × Sx)} {k i : Nat} {h h' : Heap} (Z : ZMid z TI TO ps k i h) (hw : ∀ b ∈ z :: TO :: TI :: ps.map (·.1), ∀ o, h.get? b = some o → h'.get? b = some o) (hs : ∀ p ∈ ps, p.2.on h') : ZMid z TI TO ps k i h' where
  zz := let ⟨a, b, e⟩ := Z.zz; ⟨a, b, hw _ (.head _) _ e⟩
  ti := hw _ (.tail _ (.tail _ (.head _))) _ Z.ti
  to := let ⟨ws, h1, h2⟩ := Z.to; ⟨ws, h1, hw _ (.tail _ (.head _)) _ h2⟩
  its := fun j p hp => let ⟨h1, _⟩ := Z.its j p hp; ⟨Sx.iter_at h1 fun o e => hw _ (.tail _ (.tail _ (.tail _ (List.mem_map_of_mem (List.mem_of_getElem? hp))))) o e, hs p (List.mem_of_getElem? hp)⟩
theorem ZMid.live {z TI TO : Addr} {ps : List (Addr × Sx)} {k i : Nat} {h : Heap} (Z : ZMid z TI TO ps k i h) : ∀ b ∈ z :: TO :: TI :: ps.map (·.1), ∃ o, h.get? b = some o := by
  intro b hb
  simp only [List.mem_cons, List.mem_map] at hb
  rcases hb with rfl | rfl | rfl | ⟨p, hp, rfl⟩
  · obtain ⟨a, b, e⟩ := Z.zz; exact ⟨_, e⟩
  · obtain ⟨ws, _, e⟩ := Z.to; exact ⟨_, e⟩
  · exact ⟨_, Z.ti⟩
  · obtain ⟨j, hj, e⟩ := List.getElem_of_mem hp
    exact Sx.iter_some (Z.its j p (by rw [← e]; simp [hj])).1

section
variable {prog : Program} {w : World} {A : Around} {E : Value → Shared → Prop} {s : Shared} {env : Env} {h₀ : Heap} {L : Addr} {Q : Flow → Shared → Prop}

/-- at a for over a zip: all that is asked -/
def ZipAt (prog : Program) (w : World) (A : Around) (E : Value → Shared → Prop) (Q : Flow → Shared → Prop) (env : Env) (target : Expr) (body orelse : List Stmt) (h₀ : Heap) (L : Addr) (it : Value) (s : Shared) : Prop :=
  ∃ (z TI TO : Addr) (ps : List (Addr × Sx)) (n : Nat) (m : Str → Option Value) (nx : List (Addr × Obj)) (J : Nat → (Str → Option Value) → List (Addr × Obj) → Prop) (B : Shared → Prop) (Rt : Value → Shared → Prop),
    it = .ref z ∧ A.handled = none ∧ ZApart z TI TO ps ∧ ZMid z TI TO ps 0 0 s.heap ∧ ps.length ≤ sizeLine ∧ (∀ p ∈ ps, n ≤ p.2.len) ∧ (∃ p ∈ ps, p.2.len = n) ∧
    (∀ b ∈ z :: TO :: TI :: ps.map (·.1), h₀.get? b = none ∧ b ≠ L) ∧ (∀ p ∈ ps, p.2.on h₀) ∧ Fr h₀ L s.heap m ∧ News h₀ L s.heap nx ∧ (∀ p ∈ nx, p.1 ∉ z :: TO :: TI :: ps.map (·.1)) ∧ J 0 m nx ∧
    (∀ i T vs m₁ nx₁ h tk own, i < n → Paired (fun (p : Addr × Sx) v => p.2.at i v) ps vs → own.map (·.1) = z :: TO :: TI :: ps.map (·.1) → (∀ p ∈ nx₁, p.1 ∉ z :: TO :: TI :: ps.map (·.1)) → (∀ p ∈ own ++ nx₁, p.1 ≠ T) → J i m₁ nx₁ → Fr h₀ L h m₁ → News h₀ L h ((T, tup vs) :: (own ++ nx₁)) →
      wpAny (model prog w) A (assign target env (.ref T)) (fun _ s₂ => wpAny (model prog w) A (execs body env) (FStep h₀ L s own (z :: TO :: TI :: ps.map (·.1)) (J (i + 1)) B Rt) E s₂) E { s with heap := h, toks := tk }) ∧
    (∀ m' nx' h' tk, Fr h₀ L h' m' → News h₀ L h' nx' → J n m' nx' → wpAny (model prog w) A (execs orelse env) Q E { s with heap := h', toks := tk }) ∧
    (∀ s', B s' → Q .next s') ∧ (∀ v s', Rt v s' → Q (.ret v) s')

theorem for_zip {target iter : Expr} {body orelse : List Stmt} {pos : Pos} (h₀ : Heap) (L : Addr)
    (h : wpAny (model prog w) A (eval iter env) (fun x s₁ => ZipAt prog w A E Q env target body orelse h₀ L x s₁) E s)
    (hs : ∀ x, foldedSetIterable iter env x = pure x := by intro _; rfl) (ht : ∀ it v, letOwnedTupleGo target it v = pure () := by intro _ _; rfl)
    (hE : PassesOwn (model prog w) A env E := by passes_own) :
    wpAny (model prog w) A (exec (.For target iter body orelse pos) env) Q E s := by
  refine wpAny_For (wpAny_mono h (fun xv s₂ h₂ => ?_) fun _ _ e => e) hs
  obtain ⟨z, TI, TO, ps, n, m, nx, J, B, Rt, rfl, hh, D, Z0, hsz, hle, hmin, hwr, hsrc, F, N, hnx, hJ, turn, done, hB, hRt⟩ := h₂
  refine pyIter_zip Z0 ?_
  have hne : ps ≠ [] := fun e => by subst e; obtain ⟨p, hp, _⟩ := hmin; cases hp
  generalize hwd : z :: TO :: TI :: ps.map (·.1) = wr at hwr hnx turn
  have hwsub : ∀ b, b ∉ wr → b ∉ z :: TO :: ps.map (·.1) := fun b hb hm => hb (by
    rw [← hwd]
    rcases List.mem_cons.mp hm with e | hm
    · exact e ▸ .head _
    · rcases List.mem_cons.mp hm with e | hm
      · exact e ▸ .tail _ (.head _)
      · exact .tail _ (.tail _ (.tail _ hm)))
  have old : ∀ b o, h₀.get? b = some o → b ∉ wr := fun b o e hb => by rw [(hwr b hb).1] at e; cases e
  have hLw : L ∉ wr := fun hb => (hwr L hb).2 rfl
  refine codeAny_forLoop (R := fun r s' => match r with | .ok f => Q f s' | .error e => cameBackBy (model prog w) A env E e s')
    (fun k s' => ∃ h' tk m' nx' own i, s' = { s₂ with heap := h', toks := tk } ∧ ZMid z TI TO ps 0 i h' ∧ own.map (·.1) = wr ∧ Fr h₀ L h' m' ∧ News h₀ L h' (own ++ nx') ∧ (∀ p ∈ nx', p.1 ∉ wr) ∧ J i m' nx' ∧ i ≤ n ∧ k = n + 1 - i) ?_ (n + 1) ?_ (ht _)
  · rintro k s' ⟨h', tk, m', nx', own, i, rfl, hst', hown, F', N', hnx', hJ', hi, rfl⟩
    have Nn : News h₀ L h' nx' := fun p hp => N' p (List.mem_append_right _ hp)
    have next : ∀ h₁ : Heap, (∀ b o, b ∉ wr → h'.get? b = some o → h₁.get? b = some o) → Fr h₀ L h₁ m' ∧ News h₀ L h₁ nx' := fun h₁ hk₁ =>
      ⟨⟨F'.ns.at' fun o e => hk₁ _ o hLw e, fun b o e => hk₁ b o (old b o e) (F'.keep b o e), F'.above⟩, fun p hp => ⟨hk₁ _ _ (hnx' p hp) (Nn p hp).1, (Nn p hp).2⟩⟩
    by_cases hlt : i < n
    · refine pyNext_zip D hst' hne (fun p hp => Nat.lt_of_lt_of_le hlt (hle p hp)) hsz fun T vs h₁ tk₁ hT hT1 hP hst₁ hk₀ => ?_
      have hk₁ : ∀ b o, b ∉ wr → h'.get? b = some o → h₁.get? b = some o := fun b o hb e => hk₀ b o (hwsub b hb) e
      obtain ⟨F₁, N₁⟩ := next h₁ hk₁
      obtain ⟨own₁, e₁, hown₁⟩ := own_of (wr := wr) fun b hb => hst₁.live b (hwd ▸ hb)
      have N₂ : News h₀ L h₁ (own₁ ++ nx') := fun p hp => by
        rcases List.mem_append.mp hp with hp | hp
        · have hb : p.1 ∈ wr := e₁ ▸ List.mem_map_of_mem hp
          exact ⟨hown₁ p hp, (hwr _ hb).2, (hwr _ hb).1⟩
        · exact N₁ p hp
      have hT0 : h₀.get? T = none := by
        cases q : h₀.get? T with
        | none => rfl
        | some o => have := F'.keep _ _ q; rw [hT] at this; cases this
      have hTL : T ≠ L := fun e => by
        obtain ⟨oL, es, ep, hL, _⟩ := F'.ns
        rw [e, hL] at hT; cases hT
      have hTne : ∀ p ∈ own₁ ++ nx', p.1 ≠ T := fun p hp e => by
        rcases List.mem_append.mp hp with hp | hp
        · have hb : p.1 ∈ wr := e₁ ▸ List.mem_map_of_mem hp
          obtain ⟨o, ho⟩ := hst'.live p.1 (hwd ▸ hb)
          rw [e, hT] at ho; cases ho
        · have := (Nn p hp).1
          rw [e, hT] at this; cases this
      have N₃ : News h₀ L h₁ ((T, tup vs) :: (own₁ ++ nx')) := fun p hp => by
        rcases List.mem_cons.mp hp with rfl | hp
        · exact ⟨hT1, hTL, hT0⟩
        · exact N₂ p hp
      refine wpAny_mono (turn i T vs m' nx' h₁ tk₁ own₁ hlt hP e₁ hnx' hTne hJ' F₁ N₃) (fun _ s₃ h₃ => wpAny_mono h₃ (fun f s₄ h₄ => ?_) hE) hE
      have fin : ∀ {h₅ : Heap} {tk₅ m₅ nx₅}, Fr h₀ L h₅ m₅ → News h₀ L h₅ (own₁ ++ nx₅) → (∀ p ∈ nx₅, p.1 ∉ wr) → J (i + 1) m₅ nx₅ → ∃ m, m < n + 1 - i ∧ (fun k s' => ∃ h' tk m' nx' own i, s' = { s₂ with heap := h', toks := tk } ∧ ZMid z TI TO ps 0 i h' ∧ own.map (·.1) = wr ∧ Fr h₀ L h' m' ∧ News h₀ L h' (own ++ nx') ∧ (∀ p ∈ nx', p.1 ∉ wr) ∧ J i m' nx' ∧ i ≤ n ∧ k = n + 1 - i) m { s₂ with heap := h₅, toks := tk₅ } := by
        intro h₅ tk₅ m₅ nx₅ F₅ N₅ ha j
        refine ⟨n + 1 - (i + 1), by omega, h₅, tk₅, m₅, nx₅, own₁, i + 1, rfl, ?_, e₁, F₅, N₅, ha, j, hlt, rfl⟩
        refine hst₁.framed (fun b hb o e => ?_) fun p hp => Sx.on_at (hsrc p hp) fun b _ o e => F₅.keep b o e
        have hb' : b ∈ own₁.map (·.1) := e₁ ▸ hwd ▸ hb
        obtain ⟨p, hp, rfl⟩ := List.mem_map.mp hb'
        have h6 := hown₁ p hp
        rw [e] at h6; cases h6
        exact (N₅ p (List.mem_append_left _ hp)).1
      cases f with
      | brk => exact hB _ h₄
      | ret v => exact hRt _ _ h₄
      | next =>
        obtain ⟨h₅, tk₅, m₅, nx₅, rfl, F₅, N₅, ha, j⟩ := h₄
        exact fin F₅ N₅ ha j
      | cont =>
        obtain ⟨h₅, tk₅, m₅, nx₅, rfl, F₅, N₅, ha, j⟩ := h₄
        exact fin F₅ N₅ ha j
    · have hin : i = n := by omega
      subst hin
      obtain ⟨p, hp, hpl⟩ := hmin
      refine pyNext_zip_end hh D hst' ⟨p, hp, Nat.le_of_eq hpl⟩ hsz fun h₁ tk₁ hk₀ => ?_
      obtain ⟨F₁, N₁⟩ := next h₁ fun b o hb e => hk₀ b o (hwsub b hb) e
      exact wpAny_passesOwn hE (done m' nx' h₁ tk₁ F₁ N₁ hJ')
  · obtain ⟨own, e, hown⟩ := own_of (wr := wr) fun b hb => Z0.live b (hwd ▸ hb)
    refine ⟨s₂.heap, s₂.toks, m, nx, own, 0, rfl, Z0, e, F, fun p hp => ?_, hnx, hJ, Nat.zero_le _, rfl⟩
    rcases List.mem_append.mp hp with hp | hp
    · have hb : p.1 ∈ wr := e ▸ List.mem_map_of_mem hp
      exact ⟨hown p hp, (hwr _ hb).2, (hwr _ hb).1⟩
    · exact N p hp
end
end Mine
end

section
set_option maxRecDepth 100000
set_option Elab.async false
namespace Mine
open PySem PySem.W PySem.Spec PySem.Calls PyProof.Rows PySem.SeqAt

theorem paired_map {α β γ : Type} {f : α → γ} {F : γ → β → Prop} : ∀ {l : List α} {r : List β}, Paired (fun a b => F (f a) b) l r → Paired F (l.map f) r
  | _, _, .nil => .nil
  | _, _, .cons h t => .cons h (paired_map t)
section
variable {prog : Program} {w : World} {A : Around} {E : Value → Shared → Prop} {s : Shared} {env : Env} {h₀ : Heap} {L : Addr} {Q : Flow → Shared → Prop}

theorem at_zip {target : Expr} {body orelse : List Stmt} {ss : List Sx} {m : Str → Option Value} {nx : List (Addr × Obj)} (n : Nat)
    (J : Nat → (Str → Option Value) → List (Addr × Obj) → Prop) (B : Shared → Prop) (Rt : Value → Shared → Prop)
    (hh : A.handled = none) (hon : ∀ x ∈ ss, x.on h₀) (hsz : ss.length ≤ 1000) (hle : ∀ x ∈ ss, n ≤ x.len) (hmin : ∃ x ∈ ss, x.len = n)
    (F : Fr h₀ L s.heap m) (N : News h₀ L s.heap nx) (hJ : J 0 m nx)
    (turn : ∀ i wr T vs m₁ nx₁ h tk own, i < n → Paired (fun (x : Sx) v => x.at i v) ss vs → wr.length = ss.length + 3 → own.map (·.1) = wr → (∀ b ∈ wr, ∀ p ∈ nx₁, p.1 ≠ b) → (∀ p ∈ own ++ nx₁, p.1 ≠ T) → J i m₁ nx₁ → Fr h₀ L h m₁ → News h₀ L h ((T, tup vs) :: (own ++ nx₁)) →
      wpAny (model prog w) A (assign target env (.ref T)) (fun _ s₂ => wpAny (model prog w) A (execs body env) (FStep h₀ L s own wr (J (i + 1)) B Rt) E s₂) E { s with heap := h, toks := tk })
    (done : ∀ m' nx' h' tk, Fr h₀ L h' m' → News h₀ L h' nx' → J n m' nx' → wpAny (model prog w) A (execs orelse env) Q E { s with heap := h', toks := tk })
    (hB : ∀ s', B s' → Q .next s') (hRt : ∀ v s', Rt v s' → Q (.ret v) s') :
    wpAny (model prog w) A (call (.type "zip") (ss.map Sx.val)) (fun x s₁ => ZipAt prog w A E Q env target body orelse h₀ L x s₁) E s := by
  have hne : ss ≠ [] := fun e => by subst e; obtain ⟨p, hp, _⟩ := hmin; cases hp
  have hon' : ∀ x ∈ ss, x.on s.heap := fun x hx => Sx.on_at (hon x hx) fun b _ o e => F.keep b o e
  refine zip_new hne hon' hsz fun z TI TO ps h' Z => ?_
  have hin : ∀ p ∈ ps, p.2 ∈ ss := fun p hp => Z.srcs ▸ List.mem_map_of_mem hp
  have hlen : ps.length = ss.length := by rw [← Z.srcs, List.length_map]
  have old : ∀ b ∈ z :: TO :: TI :: ps.map (·.1), s.heap.get? b = none := fun b hb => by
    cases q : s.heap.get? b with
    | none => rfl
    | some o => exact absurd (Heap.lt_size q) (Nat.not_lt_of_le (Z.new b hb))
  refine ⟨z, TI, TO, ps, n, m, nx, J, B, Rt, rfl, hh, Z.apart, Z.mid, ?_, fun p hp => hle _ (hin p hp), ?_, ?_, fun p hp => hon _ (hin p hp), F.keeps Z.stays, N.grown Z.stays, ?_, hJ, ?_, fun m' nx' h₁ tk F' N' j => done m' nx' h₁ tk F' N' j, hB, hRt⟩
  · rw [hlen]; exact Nat.le_trans hsz (by decide)
  · obtain ⟨x, hx, e⟩ := hmin
    rw [← Z.srcs] at hx
    obtain ⟨p, hp, rfl⟩ := List.mem_map.mp hx
    exact ⟨p, hp, e⟩
  · intro b hb
    refine ⟨?_, fun e => ?_⟩
    · cases q : h₀.get? b with
      | none => rfl
      | some o => have := F.keep _ _ q; rw [old b hb] at this; cases this
    · obtain ⟨oL, es, ep, hL, _⟩ := F.ns
      have := old b hb
      rw [e, hL] at this; cases this
  · intro p hp hb
    have := (N p hp).1
    rw [old _ hb] at this; cases this
  · intro i T vs m₁ nx₁ h tk own hi hP hown hnx hne hJ' F' N'
    have hP' : Paired (fun (x : Sx) v => x.at i v) ss vs := Z.srcs ▸ paired_map (f := fun p : Addr × Sx => p.2) (F := fun (x : Sx) v => x.at i v) hP
    exact turn i _ T vs m₁ nx₁ h tk own hi hP' (by simp [hlen]) hown (fun b hb p hp e => hnx p hp (e ▸ hb)) hne hJ' F' N'

end
theorem six_of {α β : Type} {own : List (α × β)} {wr : List α} (e : own.map (·.1) = wr) (h : wr.length = 6) : ∃ a0 a1 a2 a3 a4 a5 o0 o1 o2 o3 o4 o5, own = [(a0, o0), (a1, o1), (a2, o2), (a3, o3), (a4, o4), (a5, o5)] ∧ wr = [a0, a1, a2, a3, a4, a5] := by
  subst e
  rw [List.length_map] at h
  match own, h with
  | [(a0, o0), (a1, o1), (a2, o2), (a3, o3), (a4, o4), (a5, o5)], _ => exact ⟨a0, a1, a2, a3, a4, a5, o0, o1, o2, o3, o4, o5, rfl, rfl⟩
theorem five_of {α β : Type} {own : List (α × β)} {wr : List α} (e : own.map (·.1) = wr) (h : wr.length = 5) : ∃ a0 a1 a2 a3 a4 o0 o1 o2 o3 o4, own = [(a0, o0), (a1, o1), (a2, o2), (a3, o3), (a4, o4)] ∧ wr = [a0, a1, a2, a3, a4] := by
  subst e
  rw [List.length_map] at h
  match own, h with
  | [(a0, o0), (a1, o1), (a2, o2), (a3, o3), (a4, o4)], _ => exact ⟨a0, a1, a2, a3, a4, o0, o1, o2, o3, o4, rfl, rfl⟩
end Mine
end

section
set_option maxRecDepth 100000
set_option Elab.async false
namespace Mine
open PySem PySem.W PySem.Spec PySem.Calls PyProof.Rows PySem.SeqAt

/-- values that are one-letter texts -/
def Lets (vs : List Value) (ls : List Nat) : Prop := Paired (fun v c => ∃ u, v = Value.str ⟨#[c]⟩ u) vs ls
theorem paired_get {α β : Type} {F : α → β → Prop} : ∀ {l : List α} {r : List β} {i : Nat} {a : α}, Paired F l r → l[i]? = some a → ∃ b, r[i]? = some b ∧ F a b
  | _, _, _, _, .nil, h => by simp at h
  | _ :: _, b :: _, 0, a, .cons h _, e => ⟨b, rfl, by simpa using (by simpa using e : _ = a) ▸ h⟩
  | _ :: _, _ :: _, i + 1, a, .cons _ t, e => by
    obtain ⟨b, h1, h2⟩ := paired_get t (i := i) (a := a) (by simpa using e)
    exact ⟨b, by simpa using h1, h2⟩
theorem paired_length {α β : Type} {F : α → β → Prop} : ∀ {l : List α} {r : List β}, Paired F l r → l.length = r.length
  | _, _, .nil => rfl
  | _, _, .cons _ t => by simp [paired_length t]
theorem paired_append {α β : Type} {F : α → β → Prop} : ∀ {l l' : List α} {r r' : List β}, Paired F l r → Paired F l' r' → Paired F (l ++ l') (r ++ r')
  | _, _, _, _, .nil, h => h
  | _, _, _, _, .cons a t, h => .cons a (paired_append t h)
theorem paired_reverse {α β : Type} {F : α → β → Prop} : ∀ {l : List α} {r : List β}, Paired F l r → Paired F l.reverse r.reverse
  | _, _, .nil => .nil
  | _, _, .cons a t => by
    rw [List.reverse_cons, List.reverse_cons]
    exact paired_append (paired_reverse t) (.cons a .nil)

def Sx.lets : Sx → List Nat → Prop
  | .str x _, ls => ls = x.cps.toList
  | .lst _ vs, ls => Lets vs ls
theorem Sx.at_lets {x : Sx} {ls : List Nat} {i : Nat} {v : Value} (h : x.at i v) (hl : x.lets ls) : ∃ c u, ls[i]? = some c ∧ v = .str ⟨#[c]⟩ u := by
  cases x with
  | str x t =>
    obtain ⟨c, u, h1, h2⟩ := h
    have hl : ls = x.cps.toList := hl
    exact ⟨c, u, by rw [hl]; simpa using h1, h2⟩
  | lst a vs =>
    obtain ⟨c, h1, u, h2⟩ := paired_get hl h
    exact ⟨c, u, h1, h2⟩
theorem Sx.len_lets {x : Sx} {ls : List Nat} (hl : x.lets ls) : x.len = ls.length := by
  cases x with
  | str x t =>
    have hl : ls = x.cps.toList := hl
    show x.cps.size = _
    rw [hl]; simp
  | lst a vs => exact paired_length hl

theorem str_one {a b : Nat} : ((⟨#[a]⟩ : Str) == ⟨#[b]⟩) = decide (a = b) := by
  by_cases e : a = b
  · subst e; simp
  · have : (⟨#[a]⟩ : Str) ≠ ⟨#[b]⟩ := fun h => e (by injection h with h; simpa using h)
    simp [e, this]
theorem same2 (a b : Nat) (ta tb : Tok) : same [((⟨#[a]⟩ : Str), ta), (⟨#[b]⟩, tb)] = decide (b = a) := by
  unfold same met stepS
  simp only [List.map_cons, List.map_nil, List.length_cons, List.length_nil, Nat.zero_add, List.range_succ, List.range_zero, List.nil_append, List.cons_append, List.getD_cons_zero, List.getD_cons_succ, List.foldl_cons, List.foldl_nil, List.any_nil, Bool.false_eq_true, if_false, List.any_cons, Bool.or_false, str_one]
  by_cases e : b = a
  · subst e; simp
  · have e' : ¬ a = b := fun h => e h.symm
    simp [e, e']
theorem same3 (a b c : Nat) (ta tb tc : Tok) : same [((⟨#[a]⟩ : Str), ta), (⟨#[b]⟩, tb), (⟨#[c]⟩, tc)] = decide (b = a ∧ c = a) := by
  unfold same met stepS
  simp only [List.map_cons, List.map_nil, List.length_cons, List.length_nil, Nat.zero_add, List.range_succ, List.range_zero, List.nil_append, List.cons_append, List.getD_cons_zero, List.getD_cons_succ, List.foldl_cons, List.foldl_nil, List.any_nil, Bool.false_eq_true, if_false, List.any_cons, Bool.or_false, str_one]
  by_cases e : b = a
  · subst e
    by_cases e2 : c = b
    · subst e2; simp [str_one]
    · have e2' : ¬ b = c := fun h => e2 h.symm
      simp [e2, e2', str_one]
  · have e' : ¬ a = b := fun h => e h.symm
    by_cases e2 : c = a
    · subst e2; simp [e', str_one, e]
    · have e2' : ¬ a = c := fun h => e2 h.symm
      by_cases e3 : c = b
      · subst e3; simp [e', e, str_one]
      · have e3' : ¬ b = c := fun h => e3 h.symm
        simp [e', e, e2, e2', e3', str_one]

/-- the longest beginning in common is k long -/
structure Pre (c0 : List Nat) (cs : List (List Nat)) (k : Nat) : Prop where
  le : ∀ c ∈ c0 :: cs, k ≤ c.length
  agree : ∀ i, i < k → ∀ c ∈ cs, c[i]? = c0[i]?
  off : (∃ c ∈ c0 :: cs, c.length = k) ∨ ∃ c ∈ cs, c[k]? ≠ c0[k]?

section
variable {prog : Program} {w : World} {A : Around} {E : Value → Shared → Prop} {s : Shared} {env : Env} {h₀ : Heap} {L : Addr} {Q : Flow → Shared → Prop}
theorem at_zipE {target : Expr} {body : List Stmt} {ss : List Sx} {m : Str → Option Value} {nx : List (Addr × Obj)} (n : Nat)
    (J : Nat → (Str → Option Value) → List (Addr × Obj) → Prop) (P : (Str → Option Value) → List (Addr × Obj) → Prop)
    (hh : A.handled = none) (hon : ∀ x ∈ ss, x.on h₀) (hsz : ss.length ≤ 1000) (hle : ∀ x ∈ ss, n ≤ x.len) (hmin : ∃ x ∈ ss, x.len = n)
    (F : Fr h₀ L s.heap m) (N : News h₀ L s.heap nx) (hJ : J 0 m nx) (hP : ∀ m nx, J n m nx → P m nx)
    (turn : ∀ i wr T vs m₁ nx₁ h tk own, i < n → Paired (fun (x : Sx) v => x.at i v) ss vs → wr.length = ss.length + 3 → own.map (·.1) = wr → (∀ b ∈ wr, ∀ p ∈ nx₁, p.1 ≠ b) → (∀ p ∈ own ++ nx₁, p.1 ≠ T) → J i m₁ nx₁ → Fr h₀ L h m₁ → News h₀ L h ((T, tup vs) :: (own ++ nx₁)) →
      wpAny (model prog w) A (assign target env (.ref T)) (fun _ s₂ => wpAny (model prog w) A (execs body env) (FStep h₀ L s own wr (J (i + 1)) (WEnd h₀ L s P) (fun _ _ => False)) E s₂) E { s with heap := h, toks := tk })
    (fin : ∀ m' nx' h' tk, Fr h₀ L h' m' → News h₀ L h' nx' → P m' nx' → Q .next { s with heap := h', toks := tk }) :
    wpAny (model prog w) A (call (.type "zip") (ss.map Sx.val)) (fun x s₁ => ZipAt prog w A E Q env target body [] h₀ L x s₁) E s := by
  refine at_zip n J (WEnd h₀ L s P) (fun _ _ => False) hh hon hsz hle hmin F N hJ turn (fun m' nx' h' tk F' N' j => ?_) (fun s' b => ?_) fun _ _ h => h.elim
  · show wpAny _ _ (pure Flow.next) _ _ _
    exact wpAny_pure (fin m' nx' h' tk F' N' (hP _ _ j))
  · obtain ⟨h', tk, m', nx', rfl, F', N', p⟩ := b
    exact fin m' nx' h' tk F' N' p
end
theorem set_again {k : Str} {v : Value} {o : Option Value} {m0 : Str → Option Value} : (fun y => if y = k then some v else if y = k then o else m0 y) = fun y => if y = k then some v else m0 y := by
  funext y; split <;> simp_all
theorem set_none {k : Str} {m0 : Str → Option Value} (h : m0 k = none) : m0 = fun y => if y = k then none else m0 y := by
  funext y; split
  · rename_i e; rw [e, h]
  · rfl
end Mine
end

section
set_option maxRecDepth 100000
set_option Elab.async false
namespace Mine
open PySem PySem.W PySem.Spec PySem.Calls PyProof.Rows PySem.SeqAt
theorem one_len (c : Nat) : (⟨#[c]⟩ : Str).length = 1 := rfl
theorem Lets.texts : ∀ {vs : List Value} {ls : List Nat}, Lets vs ls → StrsAre vs (ls.map fun c => ⟨#[c]⟩)
  | _, _, .nil => .nil
  | _, _, .cons ⟨u, e⟩ t => by subst e; exact .cons _ u (Lets.texts t)
theorem ones_weight (ls : List Nat) : ((ls.map fun c => (⟨#[c]⟩ : Str)).map (·.length)).sum = ls.length := by
  induction ls with
  | nil => rfl
  | cons c r ih => simp only [List.map_cons, List.sum_cons, ih, one_len, List.length_cons]; omega
theorem join_cat : ∀ ls : List Nat, (Str.join Str.empty (ls.map fun c => (⟨#[c]⟩ : Str))).cps.toList = ls
  | [] => rfl
  | [c] => rfl
  | c :: d :: r => by
    have ih := join_cat (d :: r)
    show ((⟨#[c]⟩ : Str) ++ Str.empty ++ Str.join Str.empty ((d :: r).map fun c => (⟨#[c]⟩ : Str))).cps.toList = _
    show ((#[c] ++ (#[] : Array Nat)) ++ (Str.join Str.empty ((d :: r).map fun c => (⟨#[c]⟩ : Str))).cps).toList = _
    simp only [Array.toList_append, ih]
    simp
theorem join_ones (ls : List Nat) : chs (Txt.join Str.empty (ls.map fun c => (⟨#[c]⟩ : Str))) = ls := by
  show (Builtin.Str.glued _ _).cps.toList = _
  rw [StrLaws.glued_eq_join]
  exact join_cat ls
end Mine
end

section
set_option maxRecDepth 100000
set_option Elab.async false
namespace Mine
open PySem PySem.W PySem.Spec PySem.Calls PyProof.Rows PySem.SeqAt
theorem min_len : ∀ ss : List Sx, ss ≠ [] → ∃ n, (∀ x ∈ ss, n ≤ x.len) ∧ ∃ x ∈ ss, x.len = n
  | [], h => absurd rfl h
  | [x], _ => ⟨x.len, fun y hy => by rw [List.mem_singleton.mp hy]; exact Nat.le_refl _, x, .head _, rfl⟩
  | x :: y :: r, _ => by
    obtain ⟨n, h1, z, h2, h3⟩ := min_len (y :: r) (by simp)
    rcases Nat.le_total n x.len with h | h
    · refine ⟨n, fun a ha => ?_, z, .tail _ h2, h3⟩
      rcases List.mem_cons.mp ha with e | ha
      · exact e ▸ h
      · exact h1 a ha
    · refine ⟨x.len, fun a ha => ?_, x, .head _, rfl⟩
      rcases List.mem_cons.mp ha with e | ha
      · exact e ▸ Nat.le_refl _
      · exact Nat.le_trans h (h1 a ha)
theorem news_drop22 {g h : Heap} {L : Addr} {a b c d : Addr × Obj} {r : List (Addr × Obj)} (N : News g L h (a :: b :: c :: d :: r)) : News g L h (a :: b :: r) := fun p hp => by
  rcases List.mem_cons.mp hp with e | hp
  · exact e ▸ N _ (.head _)
  · rcases List.mem_cons.mp hp with e | hp
    · exact e ▸ N _ (.tail _ (.head _))
    · exact N p (.tail _ (.tail _ (.tail _ (.tail _ hp))))
theorem fr_cast {g h : Heap} {L : Addr} {m m' : Str → Option Value} (F : Fr g L h m) (e : m = m') : Fr g L h m' := e ▸ F
theorem Low.ascii {x : Str} (h : Low x) : x.cps.all (· < 128) = true := by
  rw [← Array.all_toList, List.all_eq_true]
  exact fun c hc => decide_eq_true (h.low c hc)
theorem lens_le {n : Nat} : ∀ {ss : List Sx} {ls : List (List Nat)}, Paired (fun (x : Sx) l => x.lets l) ss ls → (∀ x ∈ ss, n ≤ x.len) → ∀ c ∈ ls, n ≤ c.length
  | _, _, .nil, _, _, hc => nomatch hc
  | x :: _, l :: _, .cons h t, hx, c, hc => by
    rcases List.mem_cons.mp hc with e | hc
    · rw [e, ← Sx.len_lets h]; exact hx x (.head _)
    · exact lens_le t (fun y hy => hx y (.tail _ hy)) c hc
theorem lens_ex {n : Nat} : ∀ {ss : List Sx} {ls : List (List Nat)}, Paired (fun (x : Sx) l => x.lets l) ss ls → (∃ x ∈ ss, Sx.len x = n) → ∃ c ∈ ls, c.length = n
  | _, _, .nil, h => by obtain ⟨_, h, _⟩ := h; cases h
  | x :: _, l :: _, .cons h t, hx => by
    obtain ⟨y, hy, e⟩ := hx
    rcases List.mem_cons.mp hy with q | hy
    · exact ⟨l, .head _, by rw [← Sx.len_lets h, ← q]; exact e⟩
    · obtain ⟨c, h1, h2⟩ := lens_ex t ⟨y, hy, e⟩
      exact ⟨c, .tail _ h1, h2⟩
def begM (l' r S : Addr) : Str → Option Value := fun y => if y = Str.ofString "result" then some (.ref l') else if y = Str.ofString "sequences" then some (.ref r) else if y = Str.ofString "self" then some (.ref S) else none
theorem paired_three {α β : Type} {F : α → β → Prop} {a b c : α} {vs : List β} : Paired F [a, b, c] vs → ∃ x y z, vs = [x, y, z] ∧ F a x ∧ F b y ∧ F c z
  | .cons h1 (.cons h2 (.cons h3 .nil)) => ⟨_, _, _, rfl, h1, h2, h3⟩
theorem paired_two {α β : Type} {F : α → β → Prop} {a b : α} {vs : List β} : Paired F [a, b] vs → ∃ x y, vs = [x, y] ∧ F a x ∧ F b y
  | .cons h1 (.cons h2 .nil) => ⟨_, _, rfl, h1, h2⟩

def BegJ (led : List Value → Nat → List (Addr × Obj)) (c0 : List Nat) (cs : List (List Nat)) (m0 : Str → Option Value) (i : Nat) (m : Str → Option Value) (nx : List (Addr × Obj)) : Prop :=
  ∃ items c vc, nx = led items c ∧ Lets items (c0.take i) ∧ (∀ j, j < i → ∀ x ∈ cs, x[j]? = c0[j]?) ∧ m = fun y => if y = Str.ofString "c" then vc else m0 y
def BegP (led : List Value → Nat → List (Addr × Obj)) (c0 : List Nat) (cs : List (List Nat)) (m0 : Str → Option Value) (m : Str → Option Value) (nx : List (Addr × Obj)) : Prop :=
  ∃ k items c vc, nx = led items c ∧ Lets items (c0.take k) ∧ Pre c0 cs k ∧ m = fun y => if y = Str.ofString "c" then vc else m0 y
theorem begJ_fin {led : List Value → Nat → List (Addr × Obj)} {c0 : List Nat} {cs : List (List Nat)} {m0 m : Str → Option Value} {nx : List (Addr × Obj)} {n : Nat} {ss : List Sx} (hp : Paired (fun (x : Sx) l => x.lets l) ss (c0 :: cs))
    (hl : ∀ x ∈ ss, n ≤ x.len) (hm : ∃ x ∈ ss, Sx.len x = n) (h : BegJ led c0 cs m0 n m nx) : BegP led c0 cs m0 m nx := by
  obtain ⟨items, c, vc, h1, h2, h3, h4⟩ := h
  exact ⟨n, items, c, vc, h1, h2, ⟨lens_le hp hl, h3, .inl (lens_ex hp hm)⟩, h4⟩
theorem off4 {wr : List Addr} {a b c d : Addr} {o1 o2 o3 o4 : Obj} (h : ∀ x ∈ wr, ∀ p ∈ [(a, o1), (b, o2), (c, o3), (d, o4)], p.1 ≠ x) (o : Obj) : ∀ p ∈ [(a, o), (b, o2), (c, o3), (d, o4)], p.1 ∉ wr := fun p hp hm => by
  rcases List.mem_cons.mp hp with e | hp
  · exact h p.1 hm (a, o1) (.head _) (by rw [e])
  · exact h p.1 hm p (.tail _ hp) rfl
theorem agree_nx {i : Nat} {c0 : List Nat} {cs : List (List Nat)} (h : ∀ j, j < i → ∀ x ∈ cs, x[j]? = c0[j]?) (h2 : ∀ x ∈ cs, x[i]? = c0[i]?) : ∀ j, j < i + 1 → ∀ x ∈ cs, x[j]? = c0[j]? := fun j hj x hx => by
  rcases Nat.lt_succ_iff_lt_or_eq.mp hj with h' | rfl
  · exact h j h' x hx
  · exact h2 x hx
theorem Lets.snoc {items : List Value} {c0 : List Nat} {i a : Nat} {u : Tok} (h : Lets items (c0.take i)) (e : c0[i]? = some a) : Lets (items ++ [.str ⟨#[a]⟩ u]) (c0.take (i + 1)) := by
  rw [List.take_add_one, e]
  exact paired_append h (.cons ⟨u, rfl⟩ .nil)

theorem Ent.old {h₀ g h : Heap} {news : List (Addr × Obj)} (NT : Ent h₀ g h news) {b : Addr} {o : Obj} (e : h.get? b = some o) (hne : ∀ p ∈ news, b ≠ p.1) : g.get? b = some o := by
  cases q : g.get? b with
  | none => have := NT.fresh b q hne; rw [e] at this; cases this
  | some o' => have := NT.sub b o' q; rw [e] at this; exact this.symm
theorem Ent.list {h₀ g h : Heap} {L : Addr} {news : List (Addr × Obj)} (NT : Ent h₀ g h news) (N : News h₀ L h news) (hc : ∀ p ∈ news, p.2.cls ≠ .type "list") {a : Addr} {vs : Array Value} (hl : h.IsList a vs) : g.IsList a vs := by
  obtain ⟨o, ho, hcl, r⟩ := hl
  refine ⟨o, NT.old ho fun p hp e => ?_, hcl, r⟩
  have h1 := (N p hp).1
  rw [← e, ho] at h1
  cases h1
  exact hc p hp hcl
end Mine
end

section
theorem Mine.calm_Begin : True := by
  w_top off
  trivial
open PySem PySem.SeqAt PySem.W PyProof.Rows PySem.Spec PySem.Calls
set_option Elab.async false
namespace Mine

local macro_rules | `(tactic| walk_at "exec For Name Call cons nil") => `(tactic| refine halt ?_)
local macro_rules | `(tactic| walk_at "call type:zip") => `(tactic| refine halt ?_)
local macro_rules | `(tactic| walk_at "call ref") => `(tactic| refine halt ?_)
local macro_rules | `(tactic| walk_at "call builtin:str.join") => `(tactic| refine halt ?_)
set_option maxRecDepth 100000 in
set_option maxHeartbeats 8000000 in

theorem begin_P3 {w : World} {p : Program} {loose : List Str} {mean : ExcName → Option Value} {mg mb : Str → Option Value}
    {dp un : Nat} {gd : Option (List Code)} {cn : Str} {cs : Scope} {a : Addr} {ccd : Value} {cl : List (Str × Addr)} {outer : List Env} {A₀ : Around} {base h₀ : Heap} {L : Addr} {m : Str → Option Value} {s : Shared}
    {Q E : Value → Shared → Prop} (B : Below A₀ base outer h₀) (F : Fr h₀ L s.heap m) (X : (hd.heap_39 w.params).In h₀) (T : Top p loose mean mg mb h₀) (hk : cs.kind = .function)
    (hd : dp + 30 < recursionLimit) (hu : un + 400 < cLine)
  (S d : Addr) (t1 t2 tq : Tok) (N : News h₀ L s.heap [(S, instObj 262 d), (d, dictOf [⟨PyData.keyHash w.params (Str.ofString "qval"), .str (Str.ofString "qval") t1, .int 1 tq⟩, ⟨PyData.keyHash w.params (Str.ofString "sim_test"), .str (Str.ofString "sim_test") t2, .ref 100⟩] 2)]) (x0 x1 x2 : Str × Tok) (hx : ∀ x ∈ [x0, x1, x2], Low x.1)
  (ret : ∀ (r : Str) t k h' tk', s.heap.StaysIn h' → chs r = (chs x0.1).take k → Pre (chs x0.1) [chs x1.1, chs x2.1] k → Q (.str r t) { s with heap := h', toks := tk' }) :
  codeAny (model PySem.Challenge.rw_fu0023_01.row.prog w) (ktrTop dp un gd cn cs L a ccd cl outer) (.call (.ref 252) ⟨[.ref S, .str x0.1 x0.2, .str x1.1 x1.2, .str x2.1 x2.2], []⟩) (fun r s' => match r with | .ok (.ret v) => Q v s' | .ok _ => False | .error e => E e s') s := by
  revert X; k_fill; intro X
  k_dflt (refine' enter_rest ?k1 ?k2 ?k3 ?k4 ?k5 ?kA ?kF ?kK ?k6 ?k7 ?k8 ?kV ?kP ?kG ?kB ?_ ?c2 ?c3 ?c4 ?c5; (case kA => exact rfl); (case kF => exact rfl); (case kK => first | exact rfl | assumption); (case k1 => k_asm); (case k2 => k_asm); (case k3 => k_asm); (case k4 => k_asm); (case k5 => k_asm); (case k6 => k_is); (case k7 => k_is); (case k8 => ktr_room); (case kV => first | kl_lit | exact rfl); (case kP => exact rfl); (case kG => exact fun _ => rfl); (case kB => exact fun _ => locs rfl); (case c5 => decide); (case c2 => exact rfl); (case c3 => exact rfl); (case c4 => exact rfl); k_whole); intro D g L1 h1 FG F1 N1 B1 X1 T1 lD lD1 NT; (try k_lt lD); (try dsimp only)
  replace F1 : Fr g L1 h1 _ := lk2 ▸ F1
  have hc0 : (chs x0.1).length ≤ 15 := by
    have h2 : (chs x0.1).length = x0.1.length := by simp [chs, Str.length]
    have h3 := (hx x0 (by simp)).short
    omega
  all_goals (try k_fold)
  k_steps
  rename Fr _ _ _ _ => F2
  rename News _ _ _ _ => N2
  refine go (call_meth N2 (.head _) ?_)
  refine getseq_P3 B1 F2 X1 T1 rfl (by show dp + 1 + 10 < _; omega) (by show un + 3 + 200 < _; omega) S d t1 t2 tq (fun p hp => N2 p (.tail _ (.tail _ hp))) _ _ _ ?_
  intro r cr h3 tk3 hst hr0 hr
  obtain ⟨F3, N3, hne⟩ := news_made F2 N2 hst hr0 hr
  replace hne := allNe_of hne; simp only [AllNe, and_true] at hne
  clear F2 N2
  k_steps
  rename Fr _ _ _ _ => F4
  rename News _ _ _ _ => N4
  obtain ⟨l', F4, N4, l4⟩ : ∃ l', Fr g L1 _ (begM l' r S) ∧ News g L1 _ [(l', W.listOf #[] 0), (r, W.listOf #[.str x0.1 x0.2, .str x1.1 x1.2, .str x2.1 x2.2] cr), (S, instObj 262 d), (d, dictOf [⟨PyData.keyHash w.params (Str.ofString "qval"), .str (Str.ofString "qval") t1, .int 1 tq⟩, ⟨PyData.keyHash w.params (Str.ofString "sim_test"), .str (Str.ofString "sim_test") t2, .ref 100⟩] 2)] ∧ (@LT.lt Nat _ r l' ∧ @LT.lt Nat _ S l' ∧ @LT.lt Nat _ d l') :=
    ⟨_, fr_cast F4 (by funext y; unfold begM; dsimp only; repeat' split <;> simp_all), news_drop22 N4, by omega⟩
  refine go (for_zip g L1 ?_)
  k_steps
  rename Fr _ _ _ _ => F5
  rename News _ _ _ _ => N5
  obtain ⟨n, hle, hmin⟩ := min_len [.str x0.1 x0.2, .str x1.1 x1.2, .str x2.1 x2.2] (by simp)
  refine go (at_zipE (ss := [.str x0.1 x0.2, .str x1.1 x1.2, .str x2.1 x2.2]) n (BegJ (fun items c => [(l', W.listOf items.toArray c), (r, W.listOf #[.str x0.1 x0.2, .str x1.1 x1.2, .str x2.1 x2.2] cr), (S, instObj 262 d), (d, dictOf [⟨PyData.keyHash w.params (Str.ofString "qval"), .str (Str.ofString "qval") t1, .int 1 tq⟩, ⟨PyData.keyHash w.params (Str.ofString "sim_test"), .str (Str.ofString "sim_test") t2, .ref 100⟩] 2)]) (chs x0.1) [chs x1.1, chs x2.1] (begM l' r S)) 
   (BegP (fun items c => [(l', W.listOf items.toArray c), (r, W.listOf #[.str x0.1 x0.2, .str x1.1 x1.2, .str x2.1 x2.2] cr), (S, instObj 262 d), (d, dictOf [⟨PyData.keyHash w.params (Str.ofString "qval"), .str (Str.ofString "qval") t1, .int 1 tq⟩, ⟨PyData.keyHash w.params (Str.ofString "sim_test"), .str (Str.ofString "sim_test") t2, .ref 100⟩] 2)]) (chs x0.1) [chs x1.1, chs x2.1] (begM l' r S)) rfl ?hon (by simp) hle hmin F5 N5 ?hJ ?hP ?turn ?fin)
  case hon =>
    intro x hx'
    simp only [List.mem_cons, List.not_mem_nil, or_false] at hx'
    rcases hx' with rfl | rfl | rfl <;> exact (hx _ (by simp)).ascii
  case hJ => exact ⟨[], 0, none, rfl, .nil, fun j hj => absurd hj (Nat.not_lt_zero _), set_none rfl⟩
  case hP => exact fun m nx h => begJ_fin (show Paired (fun (x : Sx) l => x.lets l) [.str x0.1 x0.2, .str x1.1 x1.2, .str x2.1 x2.2] [chs x0.1, chs x1.1, chs x2.1] from .cons rfl (.cons rfl (.cons rfl .nil))) hle hmin h
  case turn =>
    rintro i wr Tt vs m1 nx1 h6 tk6 own hi hP hwl hown hnx hneT ⟨items, c, vc, rfl, hits, hag, rfl⟩ F6 N6
    obtain ⟨z, zO, zI, i0, i1, i2, oz, oO, oI, oi0, oi1, oi2, rfl, rfl⟩ := six_of hown hwl
    obtain ⟨v0, v1, v2, rfl, hv0, hv1, hv2⟩ := paired_three hP
    obtain ⟨a0, u0, e0, rfl⟩ := Sx.at_lets hv0 (ls := chs x0.1) rfl
    obtain ⟨a1, u1, e1, rfl⟩ := Sx.at_lets hv1 (ls := chs x1.1) rfl
    obtain ⟨a2, u2, e2, rfl⟩ := Sx.at_lets hv2 (ls := chs x2.1) rfl
    simp only [List.cons_append, List.nil_append] at N6 hneT
    have hz : @Ne Nat z l' ∧ @Ne Nat zO l' ∧ @Ne Nat zI l' ∧ @Ne Nat i0 l' ∧ @Ne Nat i1 l' ∧ @Ne Nat i2 l' ∧ @Ne Nat Tt l' := ⟨fun e => hnx z (by simp) _ (.head _) e.symm, fun e => hnx zO (by simp) _ (.head _) e.symm, fun e => hnx zI (by simp) _ (.head _) e.symm, fun e => hnx i0 (by simp) _ (.head _) e.symm, fun e => hnx i1 (by simp) _ (.head _) e.symm, fun e => hnx i2 (by simp) _ (.head _) e.symm, fun e => hneT (l', W.listOf items.toArray c) (by simp) e.symm⟩
    have hoff := off4 hnx
    clear hneT hnx hown hwl hP
    have hlit : items.length ≤ 15 := by
      have h1 := paired_length hits
      rw [List.length_take] at h1
      omega
    have hsz : items.toArray.size ≤ sizeLine := by rw [List.size_toArray]; exact Nat.le_trans hlit (by decide)
    k_steps
    rename Fr _ _ _ _ => F7
    rename News _ _ _ _ => N7
    refine go (ident_spec3 B1 F7 X1 T1 rfl (by show dp + 1 + 10 < _; omega) (by show un + 3 + 200 < _; omega) (⟨#[a0]⟩, u0) (⟨#[a1]⟩, u1) (⟨#[a2]⟩, u2) ?_)
    rw [same3]
    intro h8 tk8 hst8
    obtain ⟨F8, N8⟩ : Fr g L1 h8 _ ∧ News g L1 h8 _ := ⟨F7.keeps hst8, N7.grown hst8⟩
    clear F7 N7
    by_cases e : a1 = a0 ∧ a2 = a0
    · rw [decide_eq_true e]
      k_steps
      rename Fr _ _ _ _ => F9
      rename News _ _ _ _ => N9
      refine FStep.next F9 (fun p hp => N9 p (.tail _ hp)) (hoff _) ⟨items ++ [.str ⟨#[a0]⟩ u0], c + 1, some (.ref Tt), by simp, hits.snoc e0, agree_nx hag ?nxt, set_again⟩
      case nxt =>
        intro x hx'
        simp only [List.mem_cons, List.not_mem_nil, or_false] at hx'
        rcases hx' with rfl | rfl
        · rw [e1, e0, e.1]
        · rw [e2, e0, e.2]
    · rw [decide_eq_false e]
      k_steps
      exact FStep.brk (WEnd.mk F8 (fun p hp => N8 p (.tail _ (.tail _ (.tail _ (.tail _ (.tail _ (.tail _ (.tail _ (hp))))))))) ⟨i, items, c, some (.ref Tt), rfl, hits, ⟨fun x hx' => Nat.le_of_lt (Nat.lt_of_lt_of_le hi (lens_le (show Paired (fun (x : Sx) l => x.lets l) [.str x0.1 x0.2, .str x1.1 x1.2, .str x2.1 x2.2] [chs x0.1, chs x1.1, chs x2.1] from .cons rfl (.cons rfl (.cons rfl .nil))) hle x hx')), hag, .inr (if q : a1 = a0 then ⟨chs x2.1, by simp, by rw [e2, e0]; intro z; exact e ⟨q, by simpa using z⟩⟩ else ⟨chs x1.1, by simp, by rw [e1, e0]; intro z; exact q (by simpa using z)⟩)⟩, set_again⟩)
  case fin =>
    clear F5 N5 hle hmin
    rintro m9 nx9 h9 tk9 F9 N9 ⟨k, items, c, vc, rfl, hits, hpre, rfl⟩
    dsimp only at N9
    k_steps
    rename Fr _ _ _ _ => F2
    rename News _ _ _ _ => N2
    have hlit : (List.take k (chs x0.1)).length ≤ 15 := by
      rw [List.length_take]
      omega
    refine go (join_listW (News.isList N2 (.head _)) hits.texts (by decide) (by rw [ones_weight, List.length_map]; omega) ?_)
    intro t' k'
    k_steps
    exact ret _ _ k _ _ (NT.back _ F2.keep fun p hp => (N2 p (.tail _ (.tail _ hp))).1) (join_ones _) hpre
set_option maxRecDepth 100000 in
set_option maxHeartbeats 8000000 in

theorem begin_P2 {w : World} {p : Program} {loose : List Str} {mean : ExcName → Option Value} {mg mb : Str → Option Value}
    {dp un : Nat} {gd : Option (List Code)} {cn : Str} {cs : Scope} {a : Addr} {ccd : Value} {cl : List (Str × Addr)} {outer : List Env} {A₀ : Around} {base h₀ : Heap} {L : Addr} {m : Str → Option Value} {s : Shared}
    {Q E : Value → Shared → Prop} (B : Below A₀ base outer h₀) (F : Fr h₀ L s.heap m) (X : (hd.heap_39 w.params).In h₀) (T : Top p loose mean mg mb h₀) (hk : cs.kind = .function)
    (hd : dp + 30 < recursionLimit) (hu : un + 400 < cLine)
  (S d : Addr) (t1 t2 tq : Tok) (N : News h₀ L s.heap [(S, instObj 262 d), (d, dictOf [⟨PyData.keyHash w.params (Str.ofString "qval"), .str (Str.ofString "qval") t1, .int 1 tq⟩, ⟨PyData.keyHash w.params (Str.ofString "sim_test"), .str (Str.ofString "sim_test") t2, .ref 100⟩] 2)]) (x0 x1 : Str × Tok) (hx : ∀ x ∈ [x0, x1], Low x.1)
  (ret : ∀ (r : Str) t k h' tk', s.heap.StaysIn h' → chs r = (chs x0.1).take k → Pre (chs x0.1) [chs x1.1] k → Q (.str r t) { s with heap := h', toks := tk' }) :
  codeAny (model PySem.Challenge.rw_fu0023_01.row.prog w) (ktrTop dp un gd cn cs L a ccd cl outer) (.call (.ref 252) ⟨[.ref S, .str x0.1 x0.2, .str x1.1 x1.2], []⟩) (fun r s' => match r with | .ok (.ret v) => Q v s' | .ok _ => False | .error e => E e s') s := by
  revert X; k_fill; intro X
  k_dflt (refine' enter_rest ?k1 ?k2 ?k3 ?k4 ?k5 ?kA ?kF ?kK ?k6 ?k7 ?k8 ?kV ?kP ?kG ?kB ?_ ?c2 ?c3 ?c4 ?c5; (case kA => exact rfl); (case kF => exact rfl); (case kK => first | exact rfl | assumption); (case k1 => k_asm); (case k2 => k_asm); (case k3 => k_asm); (case k4 => k_asm); (case k5 => k_asm); (case k6 => k_is); (case k7 => k_is); (case k8 => ktr_room); (case kV => first | kl_lit | exact rfl); (case kP => exact rfl); (case kG => exact fun _ => rfl); (case kB => exact fun _ => locs rfl); (case c5 => decide); (case c2 => exact rfl); (case c3 => exact rfl); (case c4 => exact rfl); k_whole); intro D g L1 h1 FG F1 N1 B1 X1 T1 lD lD1 NT; (try k_lt lD); (try dsimp only)
  replace F1 : Fr g L1 h1 _ := lk2 ▸ F1
  have hc0 : (chs x0.1).length ≤ 15 := by
    have h2 : (chs x0.1).length = x0.1.length := by simp [chs, Str.length]
    have h3 := (hx x0 (by simp)).short
    omega
  all_goals (try k_fold)
  k_steps
  rename Fr _ _ _ _ => F2
  rename News _ _ _ _ => N2
  refine go (call_meth N2 (.head _) ?_)
  refine getseq_P2 B1 F2 X1 T1 rfl (by show dp + 1 + 10 < _; omega) (by show un + 3 + 200 < _; omega) S d t1 t2 tq (fun p hp => N2 p (.tail _ (.tail _ hp))) _ _ ?_
  intro r cr h3 tk3 hst hr0 hr
  obtain ⟨F3, N3, hne⟩ := news_made F2 N2 hst hr0 hr
  replace hne := allNe_of hne; simp only [AllNe, and_true] at hne
  clear F2 N2
  k_steps
  rename Fr _ _ _ _ => F4
  rename News _ _ _ _ => N4
  obtain ⟨l', F4, N4, l4⟩ : ∃ l', Fr g L1 _ (begM l' r S) ∧ News g L1 _ [(l', W.listOf #[] 0), (r, W.listOf #[.str x0.1 x0.2, .str x1.1 x1.2] cr), (S, instObj 262 d), (d, dictOf [⟨PyData.keyHash w.params (Str.ofString "qval"), .str (Str.ofString "qval") t1, .int 1 tq⟩, ⟨PyData.keyHash w.params (Str.ofString "sim_test"), .str (Str.ofString "sim_test") t2, .ref 100⟩] 2)] ∧ (@LT.lt Nat _ r l' ∧ @LT.lt Nat _ S l' ∧ @LT.lt Nat _ d l') :=
    ⟨_, fr_cast F4 (by funext y; unfold begM; dsimp only; repeat' split <;> simp_all), news_drop22 N4, by omega⟩
  refine go (for_zip g L1 ?_)
  k_steps
  rename Fr _ _ _ _ => F5
  rename News _ _ _ _ => N5
  obtain ⟨n, hle, hmin⟩ := min_len [.str x0.1 x0.2, .str x1.1 x1.2] (by simp)
  refine go (at_zipE (ss := [.str x0.1 x0.2, .str x1.1 x1.2]) n (BegJ (fun items c => [(l', W.listOf items.toArray c), (r, W.listOf #[.str x0.1 x0.2, .str x1.1 x1.2] cr), (S, instObj 262 d), (d, dictOf [⟨PyData.keyHash w.params (Str.ofString "qval"), .str (Str.ofString "qval") t1, .int 1 tq⟩, ⟨PyData.keyHash w.params (Str.ofString "sim_test"), .str (Str.ofString "sim_test") t2, .ref 100⟩] 2)]) (chs x0.1) [chs x1.1] (begM l' r S)) 
   (BegP (fun items c => [(l', W.listOf items.toArray c), (r, W.listOf #[.str x0.1 x0.2, .str x1.1 x1.2] cr), (S, instObj 262 d), (d, dictOf [⟨PyData.keyHash w.params (Str.ofString "qval"), .str (Str.ofString "qval") t1, .int 1 tq⟩, ⟨PyData.keyHash w.params (Str.ofString "sim_test"), .str (Str.ofString "sim_test") t2, .ref 100⟩] 2)]) (chs x0.1) [chs x1.1] (begM l' r S)) rfl ?hon (by simp) hle hmin F5 N5 ?hJ ?hP ?turn ?fin)
  case hon =>
    intro x hx'
    simp only [List.mem_cons, List.not_mem_nil, or_false] at hx'
    rcases hx' with rfl | rfl <;> exact (hx _ (by simp)).ascii
  case hJ => exact ⟨[], 0, none, rfl, .nil, fun j hj => absurd hj (Nat.not_lt_zero _), set_none rfl⟩
  case hP => exact fun m nx h => begJ_fin (show Paired (fun (x : Sx) l => x.lets l) [.str x0.1 x0.2, .str x1.1 x1.2] [chs x0.1, chs x1.1] from .cons rfl (.cons rfl .nil)) hle hmin h
  case turn =>
    rintro i wr Tt vs m1 nx1 h6 tk6 own hi hP hwl hown hnx hneT ⟨items, c, vc, rfl, hits, hag, rfl⟩ F6 N6
    obtain ⟨z, zO, zI, i0, i1, oz, oO, oI, oi0, oi1, rfl, rfl⟩ := five_of hown hwl
    obtain ⟨v0, v1, rfl, hv0, hv1⟩ := paired_two hP
    obtain ⟨a0, u0, e0, rfl⟩ := Sx.at_lets hv0 (ls := chs x0.1) rfl
    obtain ⟨a1, u1, e1, rfl⟩ := Sx.at_lets hv1 (ls := chs x1.1) rfl
    simp only [List.cons_append, List.nil_append] at N6 hneT
    have hz : @Ne Nat z l' ∧ @Ne Nat zO l' ∧ @Ne Nat zI l' ∧ @Ne Nat i0 l' ∧ @Ne Nat i1 l' ∧ @Ne Nat Tt l' := ⟨fun e => hnx z (by simp) _ (.head _) e.symm, fun e => hnx zO (by simp) _ (.head _) e.symm, fun e => hnx zI (by simp) _ (.head _) e.symm, fun e => hnx i0 (by simp) _ (.head _) e.symm, fun e => hnx i1 (by simp) _ (.head _) e.symm, fun e => hneT (l', W.listOf items.toArray c) (by simp) e.symm⟩
    have hoff := off4 hnx
    clear hneT hnx hown hwl hP
    have hlit : items.length ≤ 15 := by
      have h1 := paired_length hits
      rw [List.length_take] at h1
      omega
    have hsz : items.toArray.size ≤ sizeLine := by rw [List.size_toArray]; exact Nat.le_trans hlit (by decide)
    k_steps
    rename Fr _ _ _ _ => F7
    rename News _ _ _ _ => N7
    refine go (ident_spec2 B1 F7 X1 T1 rfl (by show dp + 1 + 10 < _; omega) (by show un + 3 + 200 < _; omega) (⟨#[a0]⟩, u0) (⟨#[a1]⟩, u1) ?_)
    rw [same2]
    intro h8 tk8 hst8
    obtain ⟨F8, N8⟩ : Fr g L1 h8 _ ∧ News g L1 h8 _ := ⟨F7.keeps hst8, N7.grown hst8⟩
    clear F7 N7
    by_cases e : a1 = a0
    · rw [decide_eq_true e]
      k_steps
      rename Fr _ _ _ _ => F9
      rename News _ _ _ _ => N9
      refine FStep.next F9 (fun p hp => N9 p (.tail _ hp)) (hoff _) ⟨items ++ [.str ⟨#[a0]⟩ u0], c + 1, some (.ref Tt), by simp, hits.snoc e0, agree_nx hag ?nxt, set_again⟩
      case nxt =>
        intro x hx'
        simp only [List.mem_cons, List.not_mem_nil, or_false] at hx'
        subst hx'
        rw [e1, e0, e]
    · rw [decide_eq_false e]
      k_steps
      exact FStep.brk (WEnd.mk F8 (fun p hp => N8 p (.tail _ (.tail _ (.tail _ (.tail _ (.tail _ (.tail _ (hp)))))))) ⟨i, items, c, some (.ref Tt), rfl, hits, ⟨fun x hx' => Nat.le_of_lt (Nat.lt_of_lt_of_le hi (lens_le (show Paired (fun (x : Sx) l => x.lets l) [.str x0.1 x0.2, .str x1.1 x1.2] [chs x0.1, chs x1.1] from .cons rfl (.cons rfl .nil)) hle x hx')), hag, .inr (⟨chs x1.1, by simp, by rw [e1, e0]; intro z; exact e (by simpa using z)⟩)⟩, set_again⟩)
  case fin =>
    clear F5 N5 hle hmin
    rintro m9 nx9 h9 tk9 F9 N9 ⟨k, items, c, vc, rfl, hits, hpre, rfl⟩
    dsimp only at N9
    k_steps
    rename Fr _ _ _ _ => F2
    rename News _ _ _ _ => N2
    have hlit : (List.take k (chs x0.1)).length ≤ 15 := by
      rw [List.length_take]
      omega
    refine go (join_listW (News.isList N2 (.head _)) hits.texts (by decide) (by rw [ones_weight, List.length_map]; omega) ?_)
    intro t' k'
    k_steps
    exact ret _ _ k _ _ (NT.back _ F2.keep fun p hp => (N2 p (.tail _ (.tail _ hp))).1) (join_ones _) hpre
set_option maxRecDepth 100000 in
set_option maxHeartbeats 8000000 in

theorem begin_T3 {w : World} {p : Program} {loose : List Str} {mean : ExcName → Option Value} {mg mb : Str → Option Value}
    {dp un : Nat} {gd : Option (List Code)} {cn : Str} {cs : Scope} {a : Addr} {ccd : Value} {cl : List (Str × Addr)} {outer : List Env} {A₀ : Around} {base h₀ : Heap} {L : Addr} {m : Str → Option Value} {s : Shared}
    {Q E : Value → Shared → Prop} (B : Below A₀ base outer h₀) (F : Fr h₀ L s.heap m) (X : (hd.heap_39 w.params).In h₀) (T : Top p loose mean mg mb h₀) (hk : cs.kind = .function)
    (hd : dp + 30 < recursionLimit) (hu : un + 400 < cLine)
  (S d : Addr) (t1 t2 tq : Tok) (N : News h₀ L s.heap [(S, instObj 279 d), (d, dictOf [⟨PyData.keyHash w.params (Str.ofString "qval"), .str (Str.ofString "qval") t1, .int 1 tq⟩, ⟨PyData.keyHash w.params (Str.ofString "sim_test"), .str (Str.ofString "sim_test") t2, .ref 100⟩] 2)]) (p0 p1 p2 : Addr) (vs0 vs1 vs2 : List Value) (ls0 ls1 ls2 : List Nat) (hl0 : s.heap.IsList p0 vs0.toArray) (hL0 : Lets vs0 ls0) (hl1 : s.heap.IsList p1 vs1.toArray) (hL1 : Lets vs1 ls1) (hl2 : s.heap.IsList p2 vs2.toArray) (hL2 : Lets vs2 ls2) (hc0 : ls0.length ≤ 15)
  (ret : ∀ r items c k h' tk', s.heap.StaysIn h' → s.heap.get? r = none → h'.get? r = some (W.listOf items.toArray c) → Lets items (ls0.take k) → Pre ls0 [ls1, ls2] k → Q (.ref r) { s with heap := h', toks := tk' }) :
  codeAny (model PySem.Challenge.rw_fu0023_01.row.prog w) (ktrTop dp un gd cn cs L a ccd cl outer) (.call (.ref 252) ⟨[.ref S, .ref p0, .ref p1, .ref p2], []⟩) (fun r s' => match r with | .ok (.ret v) => Q v s' | .ok _ => False | .error e => E e s') s := by
  revert X; k_fill; intro X
  k_dflt (refine' enter_rest ?k1 ?k2 ?k3 ?k4 ?k5 ?kA ?kF ?kK ?k6 ?k7 ?k8 ?kV ?kP ?kG ?kB ?_ ?c2 ?c3 ?c4 ?c5; (case kA => exact rfl); (case kF => exact rfl); (case kK => first | exact rfl | assumption); (case k1 => k_asm); (case k2 => k_asm); (case k3 => k_asm); (case k4 => k_asm); (case k5 => k_asm); (case k6 => k_is); (case k7 => k_is); (case k8 => ktr_room); (case kV => first | kl_lit | exact rfl); (case kP => exact rfl); (case kG => exact fun _ => rfl); (case kB => exact fun _ => locs rfl); (case c5 => decide); (case c2 => exact rfl); (case c3 => exact rfl); (case c4 => exact rfl); k_whole); intro D g L1 h1 FG F1 N1 B1 X1 T1 lD lD1 NT; (try k_lt lD); (try dsimp only)
  replace F1 : Fr g L1 h1 _ := lk2 ▸ F1
  have hlc : ∀ q ∈ [(S, instObj 279 d), (d, dictOf [⟨PyData.keyHash w.params (Str.ofString "qval"), .str (Str.ofString "qval") t1, .int 1 tq⟩, ⟨PyData.keyHash w.params (Str.ofString "sim_test"), .str (Str.ofString "sim_test") t2, .ref 100⟩] 2)], q.2.cls ≠ .type "list" := by
    intro q hq
    simp only [List.mem_cons, List.not_mem_nil, or_false] at hq
    rcases hq with rfl | rfl <;> simp
  replace hl0 : g.IsList p0 vs0.toArray := NT.list N hlc hl0
  replace hl1 : g.IsList p1 vs1.toArray := NT.list N hlc hl1
  replace hl2 : g.IsList p2 vs2.toArray := NT.list N hlc hl2
  have hb0 : h1.IsList p0 vs0.toArray := hl0.at fun o e => F1.keep _ o e
  have hb1 : h1.IsList p1 vs1.toArray := hl1.at fun o e => F1.keep _ o e
  have hb2 : h1.IsList p2 vs2.toArray := hl2.at fun o e => F1.keep _ o e
  all_goals (try k_fold)
  k_steps
  rename Fr _ _ _ _ => F2
  rename News _ _ _ _ => N2
  refine go (call_meth N2 (.head _) ?_)
  refine getseq_T3 B1 F2 X1 T1 rfl (by show dp + 1 + 10 < _; omega) (by show un + 3 + 200 < _; omega) S d t1 t2 tq (fun p hp => N2 p (.tail _ (.tail _ hp))) _ _ _ ?_
  intro r cr h3 tk3 hst hr0 hr
  obtain ⟨F3, N3, hne⟩ := news_made F2 N2 hst hr0 hr
  replace hne := allNe_of hne; simp only [AllNe, and_true] at hne
  clear F2 N2
  k_steps
  rename Fr _ _ _ _ => F4
  rename News _ _ _ _ => N4
  obtain ⟨l', F4, N4, l4⟩ : ∃ l', Fr g L1 _ (begM l' r S) ∧ News g L1 _ [(l', W.listOf #[] 0), (r, W.listOf #[.ref p0, .ref p1, .ref p2] cr), (S, instObj 279 d), (d, dictOf [⟨PyData.keyHash w.params (Str.ofString "qval"), .str (Str.ofString "qval") t1, .int 1 tq⟩, ⟨PyData.keyHash w.params (Str.ofString "sim_test"), .str (Str.ofString "sim_test") t2, .ref 100⟩] 2)] ∧ (@LT.lt Nat _ r l' ∧ @LT.lt Nat _ S l' ∧ @LT.lt Nat _ d l') :=
    ⟨_, fr_cast F4 (by funext y; unfold begM; dsimp only; repeat' split <;> simp_all), news_drop22 N4, by omega⟩
  refine go (for_zip g L1 ?_)
  k_steps
  rename Fr _ _ _ _ => F5
  rename News _ _ _ _ => N5
  obtain ⟨n, hle, hmin⟩ := min_len [.lst p0 vs0, .lst p1 vs1, .lst p2 vs2] (by simp)
  refine go (at_zipE (ss := [.lst p0 vs0, .lst p1 vs1, .lst p2 vs2]) n (BegJ (fun items c => [(l', W.listOf items.toArray c), (r, W.listOf #[.ref p0, .ref p1, .ref p2] cr), (S, instObj 279 d), (d, dictOf [⟨PyData.keyHash w.params (Str.ofString "qval"), .str (Str.ofString "qval") t1, .int 1 tq⟩, ⟨PyData.keyHash w.params (Str.ofString "sim_test"), .str (Str.ofString "sim_test") t2, .ref 100⟩] 2)]) ls0 [ls1, ls2] (begM l' r S)) 
   (BegP (fun items c => [(l', W.listOf items.toArray c), (r, W.listOf #[.ref p0, .ref p1, .ref p2] cr), (S, instObj 279 d), (d, dictOf [⟨PyData.keyHash w.params (Str.ofString "qval"), .str (Str.ofString "qval") t1, .int 1 tq⟩, ⟨PyData.keyHash w.params (Str.ofString "sim_test"), .str (Str.ofString "sim_test") t2, .ref 100⟩] 2)]) ls0 [ls1, ls2] (begM l' r S)) rfl ?hon (by simp) hle hmin F5 N5 ?hJ ?hP ?turn ?fin)
  case hon =>
    intro x hx'
    simp only [List.mem_cons, List.not_mem_nil, or_false] at hx'
    rcases hx' with rfl | rfl | rfl
    · exact hl0
    · exact hl1
    · exact hl2
  case hJ => exact ⟨[], 0, none, rfl, .nil, fun j hj => absurd hj (Nat.not_lt_zero _), set_none rfl⟩
  case hP => exact fun m nx h => begJ_fin (show Paired (fun (x : Sx) l => x.lets l) [.lst p0 vs0, .lst p1 vs1, .lst p2 vs2] [ls0, ls1, ls2] from .cons hL0 (.cons hL1 (.cons hL2 .nil))) hle hmin h
  case turn =>
    rintro i wr Tt vs m1 nx1 h6 tk6 own hi hP hwl hown hnx hneT ⟨items, c, vc, rfl, hits, hag, rfl⟩ F6 N6
    obtain ⟨z, zO, zI, i0, i1, i2, oz, oO, oI, oi0, oi1, oi2, rfl, rfl⟩ := six_of hown hwl
    obtain ⟨v0, v1, v2, rfl, hv0, hv1, hv2⟩ := paired_three hP
    obtain ⟨a0, u0, e0, rfl⟩ := Sx.at_lets hv0 (ls := ls0) hL0
    obtain ⟨a1, u1, e1, rfl⟩ := Sx.at_lets hv1 (ls := ls1) hL1
    obtain ⟨a2, u2, e2, rfl⟩ := Sx.at_lets hv2 (ls := ls2) hL2
    simp only [List.cons_append, List.nil_append] at N6 hneT
    have hz : @Ne Nat z l' ∧ @Ne Nat zO l' ∧ @Ne Nat zI l' ∧ @Ne Nat i0 l' ∧ @Ne Nat i1 l' ∧ @Ne Nat i2 l' ∧ @Ne Nat Tt l' := ⟨fun e => hnx z (by simp) _ (.head _) e.symm, fun e => hnx zO (by simp) _ (.head _) e.symm, fun e => hnx zI (by simp) _ (.head _) e.symm, fun e => hnx i0 (by simp) _ (.head _) e.symm, fun e => hnx i1 (by simp) _ (.head _) e.symm, fun e => hnx i2 (by simp) _ (.head _) e.symm, fun e => hneT (l', W.listOf items.toArray c) (by simp) e.symm⟩
    have hoff := off4 hnx
    clear hneT hnx hown hwl hP
    have hlit : items.length ≤ 15 := by
      have h1 := paired_length hits
      rw [List.length_take] at h1
      omega
    have hsz : items.toArray.size ≤ sizeLine := by rw [List.size_toArray]; exact Nat.le_trans hlit (by decide)
    k_steps
    rename Fr _ _ _ _ => F7
    rename News _ _ _ _ => N7
    refine go (ident_spec3 B1 F7 X1 T1 rfl (by show dp + 1 + 10 < _; omega) (by show un + 3 + 200 < _; omega) (⟨#[a0]⟩, u0) (⟨#[a1]⟩, u1) (⟨#[a2]⟩, u2) ?_)
    rw [same3]
    intro h8 tk8 hst8
    obtain ⟨F8, N8⟩ : Fr g L1 h8 _ ∧ News g L1 h8 _ := ⟨F7.keeps hst8, N7.grown hst8⟩
    clear F7 N7
    by_cases e : a1 = a0 ∧ a2 = a0
    · rw [decide_eq_true e]
      k_steps
      rename Fr _ _ _ _ => F9
      rename News _ _ _ _ => N9
      refine FStep.next F9 (fun p hp => N9 p (.tail _ hp)) (hoff _) ⟨items ++ [.str ⟨#[a0]⟩ u0], c + 1, some (.ref Tt), by simp, hits.snoc e0, agree_nx hag ?nxt, set_again⟩
      case nxt =>
        intro x hx'
        simp only [List.mem_cons, List.not_mem_nil, or_false] at hx'
        rcases hx' with rfl | rfl
        · rw [e1, e0, e.1]
        · rw [e2, e0, e.2]
    · rw [decide_eq_false e]
      k_steps
      exact FStep.brk (WEnd.mk F8 (fun p hp => N8 p (.tail _ (.tail _ (.tail _ (.tail _ (.tail _ (.tail _ (.tail _ (hp))))))))) ⟨i, items, c, some (.ref Tt), rfl, hits, ⟨fun x hx' => Nat.le_of_lt (Nat.lt_of_lt_of_le hi (lens_le (show Paired (fun (x : Sx) l => x.lets l) [.lst p0 vs0, .lst p1 vs1, .lst p2 vs2] [ls0, ls1, ls2] from .cons hL0 (.cons hL1 (.cons hL2 .nil))) hle x hx')), hag, .inr (if q : a1 = a0 then ⟨ls2, by simp, by rw [e2, e0]; intro z; exact e ⟨q, by simpa using z⟩⟩ else ⟨ls1, by simp, by rw [e1, e0]; intro z; exact q (by simpa using z)⟩)⟩, set_again⟩)
  case fin =>
    clear F5 N5 hle hmin
    rintro m9 nx9 h9 tk9 F9 N9 ⟨k, items, c, vc, rfl, hits, hpre, rfl⟩
    dsimp only at N9
    obtain ⟨ol, hol, hcl, _⟩ := id hl0
    k_steps
    rename Fr _ _ _ _ => F2
    rename News _ _ _ _ => N2
    refine ret _ items c k _ _ (NT.back _ F2.keep fun p hp => (N2 p (.tail _ (.tail _ hp))).1) (NT.fresh _ (N2 _ (.head _)).2.2 ?_) (N2 _ (.head _)).1 hits hpre
    intro p hp e
    simp only [List.mem_cons, List.not_mem_nil, or_false] at hp
    rcases hp with rfl | rfl
    · have e : @Eq Nat _ S := e
      omega
    · have e : @Eq Nat _ d := e
      omega
set_option maxRecDepth 100000 in
set_option maxHeartbeats 8000000 in

theorem begin_T2 {w : World} {p : Program} {loose : List Str} {mean : ExcName → Option Value} {mg mb : Str → Option Value}
    {dp un : Nat} {gd : Option (List Code)} {cn : Str} {cs : Scope} {a : Addr} {ccd : Value} {cl : List (Str × Addr)} {outer : List Env} {A₀ : Around} {base h₀ : Heap} {L : Addr} {m : Str → Option Value} {s : Shared}
    {Q E : Value → Shared → Prop} (B : Below A₀ base outer h₀) (F : Fr h₀ L s.heap m) (X : (hd.heap_39 w.params).In h₀) (T : Top p loose mean mg mb h₀) (hk : cs.kind = .function)
    (hd : dp + 30 < recursionLimit) (hu : un + 400 < cLine)
  (S d : Addr) (t1 t2 tq : Tok) (N : News h₀ L s.heap [(S, instObj 279 d), (d, dictOf [⟨PyData.keyHash w.params (Str.ofString "qval"), .str (Str.ofString "qval") t1, .int 1 tq⟩, ⟨PyData.keyHash w.params (Str.ofString "sim_test"), .str (Str.ofString "sim_test") t2, .ref 100⟩] 2)]) (p0 p1 : Addr) (vs0 vs1 : List Value) (ls0 ls1 : List Nat) (hl0 : s.heap.IsList p0 vs0.toArray) (hL0 : Lets vs0 ls0) (hl1 : s.heap.IsList p1 vs1.toArray) (hL1 : Lets vs1 ls1) (hc0 : ls0.length ≤ 15)
  (ret : ∀ r items c k h' tk', s.heap.StaysIn h' → s.heap.get? r = none → h'.get? r = some (W.listOf items.toArray c) → Lets items (ls0.take k) → Pre ls0 [ls1] k → Q (.ref r) { s with heap := h', toks := tk' }) :
  codeAny (model PySem.Challenge.rw_fu0023_01.row.prog w) (ktrTop dp un gd cn cs L a ccd cl outer) (.call (.ref 252) ⟨[.ref S, .ref p0, .ref p1], []⟩) (fun r s' => match r with | .ok (.ret v) => Q v s' | .ok _ => False | .error e => E e s') s := by
  revert X; k_fill; intro X
  k_dflt (refine' enter_rest ?k1 ?k2 ?k3 ?k4 ?k5 ?kA ?kF ?kK ?k6 ?k7 ?k8 ?kV ?kP ?kG ?kB ?_ ?c2 ?c3 ?c4 ?c5; (case kA => exact rfl); (case kF => exact rfl); (case kK => first | exact rfl | assumption); (case k1 => k_asm); (case k2 => k_asm); (case k3 => k_asm); (case k4 => k_asm); (case k5 => k_asm); (case k6 => k_is); (case k7 => k_is); (case k8 => ktr_room); (case kV => first | kl_lit | exact rfl); (case kP => exact rfl); (case kG => exact fun _ => rfl); (case kB => exact fun _ => locs rfl); (case c5 => decide); (case c2 => exact rfl); (case c3 => exact rfl); (case c4 => exact rfl); k_whole); intro D g L1 h1 FG F1 N1 B1 X1 T1 lD lD1 NT; (try k_lt lD); (try dsimp only)
  replace F1 : Fr g L1 h1 _ := lk2 ▸ F1
  have hlc : ∀ q ∈ [(S, instObj 279 d), (d, dictOf [⟨PyData.keyHash w.params (Str.ofString "qval"), .str (Str.ofString "qval") t1, .int 1 tq⟩, ⟨PyData.keyHash w.params (Str.ofString "sim_test"), .str (Str.ofString "sim_test") t2, .ref 100⟩] 2)], q.2.cls ≠ .type "list" := by
    intro q hq
    simp only [List.mem_cons, List.not_mem_nil, or_false] at hq
    rcases hq with rfl | rfl <;> simp
  replace hl0 : g.IsList p0 vs0.toArray := NT.list N hlc hl0
  replace hl1 : g.IsList p1 vs1.toArray := NT.list N hlc hl1
  have hb0 : h1.IsList p0 vs0.toArray := hl0.at fun o e => F1.keep _ o e
  have hb1 : h1.IsList p1 vs1.toArray := hl1.at fun o e => F1.keep _ o e
  all_goals (try k_fold)
  k_steps
  rename Fr _ _ _ _ => F2
  rename News _ _ _ _ => N2
  refine go (call_meth N2 (.head _) ?_)
  refine getseq_T2 B1 F2 X1 T1 rfl (by show dp + 1 + 10 < _; omega) (by show un + 3 + 200 < _; omega) S d t1 t2 tq (fun p hp => N2 p (.tail _ (.tail _ hp))) _ _ ?_
  intro r cr h3 tk3 hst hr0 hr
  obtain ⟨F3, N3, hne⟩ := news_made F2 N2 hst hr0 hr
  replace hne := allNe_of hne; simp only [AllNe, and_true] at hne
  clear F2 N2
  k_steps
  rename Fr _ _ _ _ => F4
  rename News _ _ _ _ => N4
  obtain ⟨l', F4, N4, l4⟩ : ∃ l', Fr g L1 _ (begM l' r S) ∧ News g L1 _ [(l', W.listOf #[] 0), (r, W.listOf #[.ref p0, .ref p1] cr), (S, instObj 279 d), (d, dictOf [⟨PyData.keyHash w.params (Str.ofString "qval"), .str (Str.ofString "qval") t1, .int 1 tq⟩, ⟨PyData.keyHash w.params (Str.ofString "sim_test"), .str (Str.ofString "sim_test") t2, .ref 100⟩] 2)] ∧ (@LT.lt Nat _ r l' ∧ @LT.lt Nat _ S l' ∧ @LT.lt Nat _ d l') :=
    ⟨_, fr_cast F4 (by funext y; unfold begM; dsimp only; repeat' split <;> simp_all), news_drop22 N4, by omega⟩
  refine go (for_zip g L1 ?_)
  k_steps
  rename Fr _ _ _ _ => F5
  rename News _ _ _ _ => N5
  obtain ⟨n, hle, hmin⟩ := min_len [.lst p0 vs0, .lst p1 vs1] (by simp)
  refine go (at_zipE (ss := [.lst p0 vs0, .lst p1 vs1]) n (BegJ (fun items c => [(l', W.listOf items.toArray c), (r, W.listOf #[.ref p0, .ref p1] cr), (S, instObj 279 d), (d, dictOf [⟨PyData.keyHash w.params (Str.ofString "qval"), .str (Str.ofString "qval") t1, .int 1 tq⟩, ⟨PyData.keyHash w.params (Str.ofString "sim_test"), .str (Str.ofString "sim_test") t2, .ref 100⟩] 2)]) ls0 [ls1] (begM l' r S)) 
   (BegP (fun items c => [(l', W.listOf items.toArray c), (r, W.listOf #[.ref p0, .ref p1] cr), (S, instObj 279 d), (d, dictOf [⟨PyData.keyHash w.params (Str.ofString "qval"), .str (Str.ofString "qval") t1, .int 1 tq⟩, ⟨PyData.keyHash w.params (Str.ofString "sim_test"), .str (Str.ofString "sim_test") t2, .ref 100⟩] 2)]) ls0 [ls1] (begM l' r S)) rfl ?hon (by simp) hle hmin F5 N5 ?hJ ?hP ?turn ?fin)
  case hon =>
    intro x hx'
    simp only [List.mem_cons, List.not_mem_nil, or_false] at hx'
    rcases hx' with rfl | rfl
    · exact hl0
    · exact hl1
  case hJ => exact ⟨[], 0, none, rfl, .nil, fun j hj => absurd hj (Nat.not_lt_zero _), set_none rfl⟩
  case hP => exact fun m nx h => begJ_fin (show Paired (fun (x : Sx) l => x.lets l) [.lst p0 vs0, .lst p1 vs1] [ls0, ls1] from .cons hL0 (.cons hL1 .nil)) hle hmin h
  case turn =>
    rintro i wr Tt vs m1 nx1 h6 tk6 own hi hP hwl hown hnx hneT ⟨items, c, vc, rfl, hits, hag, rfl⟩ F6 N6
    obtain ⟨z, zO, zI, i0, i1, oz, oO, oI, oi0, oi1, rfl, rfl⟩ := five_of hown hwl
    obtain ⟨v0, v1, rfl, hv0, hv1⟩ := paired_two hP
    obtain ⟨a0, u0, e0, rfl⟩ := Sx.at_lets hv0 (ls := ls0) hL0
    obtain ⟨a1, u1, e1, rfl⟩ := Sx.at_lets hv1 (ls := ls1) hL1
    simp only [List.cons_append, List.nil_append] at N6 hneT
    have hz : @Ne Nat z l' ∧ @Ne Nat zO l' ∧ @Ne Nat zI l' ∧ @Ne Nat i0 l' ∧ @Ne Nat i1 l' ∧ @Ne Nat Tt l' := ⟨fun e => hnx z (by simp) _ (.head _) e.symm, fun e => hnx zO (by simp) _ (.head _) e.symm, fun e => hnx zI (by simp) _ (.head _) e.symm, fun e => hnx i0 (by simp) _ (.head _) e.symm, fun e => hnx i1 (by simp) _ (.head _) e.symm, fun e => hneT (l', W.listOf items.toArray c) (by simp) e.symm⟩
    have hoff := off4 hnx
    clear hneT hnx hown hwl hP
    have hlit : items.length ≤ 15 := by
      have h1 := paired_length hits
      rw [List.length_take] at h1
      omega
    have hsz : items.toArray.size ≤ sizeLine := by rw [List.size_toArray]; exact Nat.le_trans hlit (by decide)
    k_steps
    rename Fr _ _ _ _ => F7
    rename News _ _ _ _ => N7
    refine go (ident_spec2 B1 F7 X1 T1 rfl (by show dp + 1 + 10 < _; omega) (by show un + 3 + 200 < _; omega) (⟨#[a0]⟩, u0) (⟨#[a1]⟩, u1) ?_)
    rw [same2]
    intro h8 tk8 hst8
    obtain ⟨F8, N8⟩ : Fr g L1 h8 _ ∧ News g L1 h8 _ := ⟨F7.keeps hst8, N7.grown hst8⟩
    clear F7 N7
    by_cases e : a1 = a0
    · rw [decide_eq_true e]
      k_steps
      rename Fr _ _ _ _ => F9
      rename News _ _ _ _ => N9
      refine FStep.next F9 (fun p hp => N9 p (.tail _ hp)) (hoff _) ⟨items ++ [.str ⟨#[a0]⟩ u0], c + 1, some (.ref Tt), by simp, hits.snoc e0, agree_nx hag ?nxt, set_again⟩
      case nxt =>
        intro x hx'
        simp only [List.mem_cons, List.not_mem_nil, or_false] at hx'
        subst hx'
        rw [e1, e0, e]
    · rw [decide_eq_false e]
      k_steps
      exact FStep.brk (WEnd.mk F8 (fun p hp => N8 p (.tail _ (.tail _ (.tail _ (.tail _ (.tail _ (.tail _ (hp)))))))) ⟨i, items, c, some (.ref Tt), rfl, hits, ⟨fun x hx' => Nat.le_of_lt (Nat.lt_of_lt_of_le hi (lens_le (show Paired (fun (x : Sx) l => x.lets l) [.lst p0 vs0, .lst p1 vs1] [ls0, ls1] from .cons hL0 (.cons hL1 .nil)) hle x hx')), hag, .inr (⟨ls1, by simp, by rw [e1, e0]; intro z; exact e (by simpa using z)⟩)⟩, set_again⟩)
  case fin =>
    clear F5 N5 hle hmin
    rintro m9 nx9 h9 tk9 F9 N9 ⟨k, items, c, vc, rfl, hits, hpre, rfl⟩
    dsimp only at N9
    obtain ⟨ol, hol, hcl, _⟩ := id hl0
    k_steps
    rename Fr _ _ _ _ => F2
    rename News _ _ _ _ => N2
    refine ret _ items c k _ _ (NT.back _ F2.keep fun p hp => (N2 p (.tail _ (.tail _ hp))).1) (NT.fresh _ (N2 _ (.head _)).2.2 ?_) (N2 _ (.head _)).1 hits hpre
    intro p hp e
    simp only [List.mem_cons, List.not_mem_nil, or_false] at hp
    rcases hp with rfl | rfl
    · have e : @Eq Nat _ S := e
      omega
    · have e : @Eq Nat _ d := e
      omega
end Mine
end

section
set_option maxRecDepth 100000
set_option Elab.async false
namespace Mine
open PySem PySem.W PySem.Spec PySem.Calls PyProof.Rows PySem.SeqAt

abbrev lobj (acc : Array Value) (c : Nat) : Obj := { cls := .type "list", dict := none, data := .seq acc c, slots := #[] }

section
variable {prog : Program} {w : World} {A : Around} {E : Value → Shared → Prop} {s : Shared} {I : Addr}

theorem init_of {R : Result → Shared → Prop} {T : String} {S : Addr} (hT : s.TypeIs (.ref I) T) (hSI : S ≠ I) (hT1 : (Value.type T == Value.type "list") = false) (hT2 : (Value.type T == Value.type "tuple") = false)
    (hiter : ∀ (s' : Shared) (Q : Value → Shared → Prop) (E' : Value → Shared → Prop), (∀ b o, b ≠ S → s.heap.get? b = some o → s'.heap.get? b = some o) → Q (.ref I) s' → wpAny (model prog w) A.in1 (pyIter (.ref I)) Q E' s')
    (hhint : ∀ (s' : Shared) (Q : Bool → Shared → Prop) (E' : Value → Shared → Prop), (∀ b o, b ≠ S → s.heap.get? b = some o → s'.heap.get? b = some o) → (∀ b tk, Q b { s' with toks := tk }) → wpAny (model prog w) A.in1 (Builtin.List.listLengthHint (.ref I)) Q E' s')
    (hS : s.heap.get? S = some (lobj #[] 0))
    (hloop : ∀ h' tk c, (∀ b o, b ≠ S → s.heap.get? b = some o → h'.get? b = some o) → h'.get? S = some (lobj #[] c) → codeAny (model prog w) A (.builtin "list.extend.loop" ⟨[.ref S, .ref I, .none], []⟩) R { s with heap := h', toks := tk }) :
    wpAny (model prog w) A.in1 (Builtin.«list.__init__» ⟨[.ref S, .ref I], []⟩)
      (fun fin s' => match fin with | .done f => R (.ok f) s' | .again c' => c'.quiet = true ∧ codeAny (model prog w) A c' R s') (fun e s' => R (.error e) s') s := by
  show wpAny _ A.in1 (do let old ← Builtin.List.listItems (.ref S); Builtin.List.listUpdate (.ref S) (fun _ => #[]); letGo old.toList.reverse; Builtin.List.listExtendWith (.ref S) (.ref I) .none) _ _ s
  refine wpAny_bind ?_
  unfold Builtin.List.listItems
  refine wpAny_bind (wpAny_seqItems hS rfl (wpAny_pure ?_))
  show wpAny _ A.in1 (updateSeq S (fun _ => #[]) >>= fun _ => letGo (#[] : Array Value).toList.reverse >>= fun _ => Builtin.List.listExtendWith (.ref S) (.ref I) .none) _ _ s
  refine wpAny_bind (wpAny_updateSeq hS rfl ?_)
  have hS₂ := Heap.get?_update_self (Obj.mapSeq (fun _ => (#[] : Array Value))) hS rfl
  have oth : ∀ b o, b ≠ S → s.heap.get? b = some o → (s.heap.update S (Obj.mapSeq (fun _ => (#[] : Array Value)))).get? b = some o :=
    fun b o hb e => (Heap.get?_update_other _ _ (Ne.symm hb)).trans e
  refine wpAny_bind (wpAny_letGo ?_)
  unfold Builtin.List.listExtendWith
  have hT' : Shared.TypeIs { s with heap := s.heap.update S (Obj.mapSeq (fun _ => (#[] : Array Value))) } (.ref I) T := by
    obtain ⟨o, ho, hc⟩ := hT
    exact ⟨o, oth I o hSI.symm ho, hc⟩
  refine wpAny_bind (wpAny_typeOf hT' ?_)
  have h1 : Builtin.List.listSameRef (.ref S) (.ref I) = false := by simp [Builtin.List.listSameRef, hSI]
  simp only [h1, hT1, hT2, Bool.or_false, Bool.false_eq_true, if_false]
  refine wpAny_bind (hiter _ _ _ (fun b o hb e => oth b o hb e) ?_)
  refine wpAny_bind (wpAny_holding (hhint _ _ _ (fun b o hb e => oth b o hb e) fun b tk => ?_))
  split
  · refine wpAny_bind (wpAny_rule ?_)
    refine wpAny_bind ?_
    show wpAny _ A.in1 (updateSeq S (·.push .none) >>= fun _ => updateSeq S (·.pop)) _ _ _
    refine wpAny_bind (wpAny_updateSeq hS₂ rfl ?_)
    have hS₃ := Heap.get?_update_self (Obj.mapSeq (·.push Value.none)) hS₂ rfl
    refine wpAny_updateSeq (hz := by seq_fits) hS₃ rfl ?_
    have hS₄ := Heap.get?_update_self (Obj.mapSeq (·.pop)) hS₃ rfl
    refine wpAny_pure ⟨plainId_quiet F.plain_extend_loop _, hloop _ _ _ (fun b o hb e => ?_) hS₄⟩
    exact (Heap.get?_update_other _ _ (Ne.symm hb)).trans ((Heap.get?_update_other _ _ (Ne.symm hb)).trans (oth b o hb e))
  · exact wpAny_pure ⟨plainId_quiet F.plain_extend_loop _, hloop _ _ _ (fun b o hb e => oth b o hb e) hS₂⟩

theorem call_list_of {Q : Value → Shared → Prop} {T : String} (hT : s.TypeIs (.ref I) T) (hT1 : (Value.type T == Value.type "list") = false) (hT2 : (Value.type T == Value.type "tuple") = false)
    (hiter : ∀ (s' : Shared) (Q : Value → Shared → Prop) (E' : Value → Shared → Prop), s.heap.StaysIn s'.heap → Q (.ref I) s' → wpAny (model prog w) A.in1.in1 (pyIter (.ref I)) Q E' s')
    (hhint : ∀ (s' : Shared) (Q : Bool → Shared → Prop) (E' : Value → Shared → Prop), s.heap.StaysIn s'.heap → (∀ b tk, Q b { s' with toks := tk }) → wpAny (model prog w) A.in1.in1 (Builtin.List.listLengthHint (.ref I)) Q E' s')
    (hloop : ∀ h' tk c (R : Result → Shared → Prop), s.heap.StaysIn h' → h'.get? s.heap.objs.size = some (lobj #[] c) → (∀ s', Q (.ref s.heap.objs.size) s' → R (.ok (.ret .none)) s') → codeAny (model prog w) A.in1 (.builtin "list.extend.loop" ⟨[.ref s.heap.objs.size, .ref I, .none], []⟩) R { s with heap := h', toks := tk }) :
    wpAny (model prog w) A (call (.type "list") [.ref I]) Q E s := by
  refine callType_codes (Q₁ := fun obj s₁ => obj = .ref s.heap.objs.size ∧ s₁ = { s with heap := s.heap.push { cls := .type "list", data := .seq #[] } }) F.called_list (F.typeCall_list_1 _) F.entry_list_init
    (code_list_new _ ⟨rfl, rfl⟩) fun obj s₁ h₁ => ?_
  obtain ⟨rfl, rfl⟩ := h₁
  have hS : (s.heap.push { cls := .type "list", data := .seq #[] }).get? s.heap.objs.size = some { cls := .type "list", data := .seq #[] } := Heap.get?_push_size _ rfl
  have hlt : ∀ b o, s.heap.get? b = some o → b ≠ s.heap.objs.size := fun b o e => Nat.ne_of_lt (Heap.lt_size e)
  have hIne : s.heap.objs.size ≠ I := by obtain ⟨o, ho, _⟩ := hT; exact (hlt I o ho).symm
  have up : ∀ b o, s.heap.get? b = some o → (s.heap.push { cls := .type "list", data := .seq #[] }).get? b = some o := fun b o e => Heap.get?_push_of_some _ e
  refine ⟨⟨_, hS, rfl⟩, F.args_list_init_2 _ _, init_of (A := A.in1) (T := T) (S := s.heap.objs.size) ?_ hIne hT1 hT2 (fun s' Q E' hk hq => hiter s' Q E' (fun b o e => hk b o (hlt b o e) (up b o e)) hq)
    (fun s' Q E' hk hq => hhint s' Q E' (fun b o e => hk b o (hlt b o e) (up b o e)) hq) hS fun h' tk c hk hS' => ?_⟩
  · obtain ⟨o, ho, hc⟩ := hT
    exact ⟨o, up I o ho, hc⟩
  · exact hloop h' tk c _ (fun b o e => hk b o (hlt b o e) (up b o e)) hS' fun s' q => ⟨rfl, q⟩
end
end Mine
end

section
set_option maxRecDepth 100000
set_option Elab.async false
namespace Mine
open PySem PySem.W PySem.Spec PySem.Calls PyProof.Rows PySem.SeqAt

/-- the list's members are the tuples that the zip made -/
def TupsOf (g0 : Heap) (ps : List (Addr × Sx)) (h : Heap) (bad : List Addr) (acc : Array Value) (i : Nat) : Prop :=
  acc.size = i ∧ ∀ (j : Nat) v, acc[j]? = some v → ∃ T vs, v = .ref T ∧ h.get? T = some (tup vs) ∧ Paired (fun (p : Addr × Sx) x => p.2.at j x) ps vs ∧ T ∉ bad ∧ g0.get? T = none

theorem TupsOf.keep {g0 : Heap} {ps : List (Addr × Sx)} {h h' : Heap} {bad : List Addr} {acc : Array Value} {i : Nat} (t : TupsOf g0 ps h bad acc i) (k : ∀ b o, b ∉ bad → h.get? b = some o → h'.get? b = some o) : TupsOf g0 ps h' bad acc i :=
  ⟨t.1, fun j v e => let ⟨T, vs, a, b, c, d, f⟩ := t.2 j v e; ⟨T, vs, a, k T _ d b, c, d, f⟩⟩
theorem TupsOf.push {g0 : Heap} {ps : List (Addr × Sx)} {h : Heap} {bad : List Addr} {acc : Array Value} {i : Nat} {T : Addr} {vs : List Value} (t : TupsOf g0 ps h bad acc i) (h1 : h.get? T = some (tup vs)) (h2 : Paired (fun (p : Addr × Sx) x => p.2.at i x) ps vs) (h3 : T ∉ bad) (h4 : g0.get? T = none) :
    TupsOf g0 ps h bad (acc.push (.ref T)) (i + 1) := by
  refine ⟨by rw [Array.size_push, t.1], fun j v e => ?_⟩
  rw [Array.getElem?_push] at e
  split at e
  · rename_i q
    rw [t.1] at q
    cases e
    subst q
    exact ⟨T, vs, rfl, h1, h2, h3, h4⟩
  · exact t.2 j v e

section
variable {prog : Program} {w : World} {A : Around} {E : Value → Shared → Prop} {z TI TO S : Addr} {R : Result → Shared → Prop}

theorem extend_zip {g0 : Heap} {ps : List (Addr × Sx)} {n : Nat} (hh : A.in1.handled = none) (D : ZApart z TI TO ps) (hne : ps ≠ []) (hsz : ps.length ≤ sizeLine) (hle : ∀ p ∈ ps, n ≤ p.2.len) (hmin : ∃ p ∈ ps, p.2.len = n) (hn : n ≤ sizeLine)
    (hSw : S ∉ z :: TO :: TI :: ps.map (·.1)) (hSs : ∀ p ∈ ps, S ∉ p.2.addr) (res : Value) :
    ∀ (k i : Nat) (s : Shared) (acc : Array Value) (c : Nat), n - i = k → i ≤ n → ZMid z TI TO ps 0 i s.heap → s.heap.get? S = some (lobj acc c) → TupsOf g0 ps s.heap (S :: z :: TO :: TI :: ps.map (·.1)) acc i → (∀ b o, g0.get? b = some o → ∃ o', s.heap.get? b = some o') →
    (∀ h' tk acc' c', (∀ b o, b ∉ S :: z :: TO :: TI :: ps.map (·.1) → s.heap.get? b = some o → h'.get? b = some o) → h'.get? S = some (lobj acc' c') → TupsOf g0 ps h' (S :: z :: TO :: TI :: ps.map (·.1)) acc' n → R (.ok (.ret res)) { s with heap := h', toks := tk }) →
    codeAny (model prog w) A (.builtin "list.extend.loop" ⟨[.ref S, .ref z, res], []⟩) R s := by
  have sub : ∀ b, b ∉ S :: z :: TO :: TI :: ps.map (·.1) → b ∉ z :: TO :: ps.map (·.1) := fun b hb hm => hb (by
    rcases List.mem_cons.mp hm with e | hm
    · exact e ▸ .tail _ (.head _)
    · rcases List.mem_cons.mp hm with e | hm
      · exact e ▸ .tail _ (.tail _ (.head _))
      · exact .tail _ (.tail _ (.tail _ (.tail _ hm))))
  have hS0 : S ∉ z :: TO :: ps.map (·.1) := fun hm => hSw (by
    rcases List.mem_cons.mp hm with e | hm
    · exact e ▸ .head _
    · rcases List.mem_cons.mp hm with e | hm
      · exact e ▸ .tail _ (.head _)
      · exact .tail _ (.tail _ (.tail _ hm)))
  intro k
  induction k with
  | zero =>
    intro i s acc c hk hi hst hS hacc hg hR
    have hin : i = n := by omega
    subst hin
    refine codeAny_builtin F.entry_extend_loop ?_
    rw [Around.under_plainId F.plain_extend_loop _]
    show wpAny _ A.in1 (pyNext (.ref z) >>= _) _ _ s
    obtain ⟨p, hp, hpl⟩ := hmin
    refine wpAny_bind (pyNext_zip_end hh D hst ⟨p, hp, Nat.le_of_eq hpl⟩ hsz fun h' tk hk' => ?_)
    exact wpAny_pure (hR h' tk acc c (fun b o hb e => hk' b o (sub b hb) e) (hk' S _ hS0 hS) (hacc.keep fun b o hb e => hk' b o (sub b hb) e))
  | succ k ih =>
    intro i s acc c hk hi hst hS hacc hg hR
    have hlt : i < n := by omega
    refine codeAny_builtin F.entry_extend_loop ?_
    rw [Around.under_plainId F.plain_extend_loop _]
    show wpAny _ A.in1 (pyNext (.ref z) >>= _) _ _ s
    refine wpAny_bind (pyNext_zip D hst hne (fun p hp => Nat.lt_of_lt_of_le hlt (hle p hp)) hsz fun T vs h' tk hT hT1 hP hst' hk' => ?_)
    have hS' := hk' S _ hS0 hS
    have hTb : T ∉ S :: z :: TO :: TI :: ps.map (·.1) := fun hm => by
      rcases List.mem_cons.mp hm with e | hm
      · rw [e, hS] at hT; cases hT
      · obtain ⟨o, ho⟩ := hst.live T hm
        rw [hT] at ho; cases ho
    have hTg : g0.get? T = none := by
      cases q : g0.get? T with
      | none => rfl
      | some o => obtain ⟨o', ho'⟩ := hg T o q; rw [hT] at ho'; cases ho'
    have hTS : S ≠ T := fun e => hTb (e ▸ .head _)
    show wpAny _ A.in1 (updateSeq S (·.push (.ref T)) >>= _) _ _ _
    refine wpAny_bind ?_
    have oth : ∀ b o, b ≠ S → h'.get? b = some o → (h'.update S (Obj.mapSeq (·.push (Value.ref T)))).get? b = some o := fun b o hb e => (Heap.get?_update_other _ _ (Ne.symm hb)).trans e
    refine wpAny_updateSeq hS' rfl (wpAny_pure ⟨plainId_quiet F.plain_extend_loop _, ih (i + 1) _ (acc.push (.ref T)) _ (by omega) hlt (hst'.framed (fun b hb o e => oth b o (fun q => hSw (q ▸ hb)) e) fun p hp => ?_) (Heap.get?_update_self _ hS' rfl)
        (TupsOf.push (hacc.keep fun b o hb e => oth b o (fun q => hb (q ▸ .head _)) (hk' b o (sub b hb) e)) (oth T _ hTS.symm hT1) hP hTb hTg) (fun b o e => ?_) fun h'' tk'' acc' c' hk'' hS'' hacc' => ?_⟩)
      (by rw [hacc.1]; omega) (by show (acc.push (.ref T)).size ≤ sizeLine + 1; rw [Array.size_push, hacc.1]; omega)
    · obtain ⟨j, hj, e⟩ := List.getElem_of_mem hp
      exact Sx.on_at (hst'.its j p (by rw [← e]; simp [hj])).2 fun b hb o e => oth b o (fun q => hSs p hp (q ▸ hb)) e
    · by_cases hb : b ∈ S :: z :: TO :: TI :: ps.map (·.1)
      · rcases List.mem_cons.mp hb with q | hb
        · rw [q]; exact ⟨_, Heap.get?_update_self _ hS' rfl⟩
        · obtain ⟨o', ho'⟩ := hst'.live b hb
          exact ⟨o', oth b o' (fun q => hSw (q ▸ hb)) ho'⟩
      · obtain ⟨o', ho'⟩ := hg b o e
        exact ⟨o', oth b o' (fun q => hb (q ▸ .head _)) (hk' b o' (sub b hb) ho')⟩
    · exact hR h'' tk'' acc' c' (fun b o hb e => hk'' b o hb (oth b o (fun q => hb (q ▸ .head _)) (hk' b o (sub b hb) e))) hS'' hacc'

theorem zip_no_len : typeLookup (.type "zip") "__len__" = pure none := by rw [typeLookup_type, builtinLookup_eq_fast]; kernel_rfl
theorem zip_no_hint : typeLookup (.type "zip") "__length_hint__" = pure none := by rw [typeLookup_type, builtinLookup_eq_fast]; kernel_rfl

theorem list_zip {s : Shared} {ps : List (Addr × Sx)} {n : Nat} {Q : Value → Shared → Prop} (hh : A.handled = none) (D : ZApart z TI TO ps) (Z : ZMid z TI TO ps 0 0 s.heap) (hsz : ps.length ≤ sizeLine) (hle : ∀ p ∈ ps, n ≤ p.2.len) (hmin : ∃ p ∈ ps, p.2.len = n) (hn : n ≤ sizeLine)
    (hQ : ∀ h' tk acc c bad, (∀ b o, b ∉ z :: TO :: TI :: ps.map (·.1) → s.heap.get? b = some o → h'.get? b = some o) → h'.get? s.heap.objs.size = some (lobj acc c) → TupsOf s.heap ps h' bad acc n → Q (.ref s.heap.objs.size) { s with heap := h', toks := tk }) :
    wpAny (model prog w) A (call (.type "list") [.ref z]) Q E s := by
  have hne : ps ≠ [] := fun e => by subst e; obtain ⟨p, hp, _⟩ := hmin; cases hp
  have hT : s.TypeIs (.ref z) "zip" := by obtain ⟨a, b, e⟩ := Z.zz; exact ⟨_, e, rfl⟩
  have lt : ∀ b o, s.heap.get? b = some o → s.heap.objs.size ≠ b := fun b o e q => Nat.lt_irrefl _ (q ▸ Heap.lt_size e)
  refine call_list_of hT (by decide) (by decide) (fun s' Q' E' hk hq => pyIter_zip (Z.keep hk) hq) (fun s' Q' E' hk hq => ?_) fun h' tk c R hk hS hR => ?_
  · have hT' : s'.TypeIs (.ref z) "zip" := by obtain ⟨o, ho, hc⟩ := hT; exact ⟨o, hk _ _ ho, hc⟩
    unfold Builtin.List.listLengthHint
    refine wpAny_bind (wpAny_specialOf hT' zip_no_len ?_)
    show wpAny _ _ (specialOf (Value.ref z) (Str.ofString "__length_hint__") >>= _) _ _ _
    refine wpAny_bind (wpAny_specialOf hT' zip_no_hint ?_)
    exact wpAny_pure (hq true s'.toks)
  · refine extend_zip (g0 := s.heap) (by exact hh) D hne hsz hle hmin hn (fun hm => ?_) (fun p hp hm => ?_) .none n 0 _ #[] c (by omega) (Nat.zero_le _) (Z.keep hk) hS ⟨rfl, fun j v e => by simp at e⟩ (fun b o e => ⟨o, hk b o e⟩) fun h'' tk'' acc' c' hk'' hS'' hacc => ?_
    · obtain ⟨o, ho⟩ := Z.live _ hm
      exact lt _ _ ho rfl
    · obtain ⟨j, hj, e⟩ := List.getElem_of_mem hp
      have hon := (Z.its j p (by rw [← e]; simp [hj])).2
      cases hx : p.2 with
      | str x t => rw [hx] at hm; cases hm
      | lst a vs =>
        rw [hx] at hm hon
        obtain ⟨o, ho, _⟩ := hon
        exact lt _ _ ho (List.mem_singleton.mp hm)
    · exact hR _ (hQ h'' tk'' acc' c' _ (fun b o hb e => hk'' b o (fun hm => by
        rcases List.mem_cons.mp hm with q | hm
        · exact lt _ _ e q.symm
        · exact hb hm) (hk b o e)) hS'' hacc)
end
end Mine
end

section
set_option maxRecDepth 100000
set_option Elab.async false
namespace Mine
open PySem PySem.W PySem.Spec PySem.Calls PyProof.Rows PySem.SeqAt
open Builtin Builtin.SmallTypes

theorem slot_rev_init : Slot "reversed" "__init__" "object.__init__" :=
  .of (owner := "object") (n := "__init__") (by rw [typeLookup_type, builtinLookup_eq_fast]; kernel_rfl) (by decide +kernel) (by decide +kernel) (by decide +kernel)
    (by first | exact .inl (by decide +kernel) | exact .inr (by decide +kernel)) (by rw [isSubtype_type]; kernel_rfl)
theorem called_reversed : TypeCalled "reversed" "reversed.__new__" "object.__init__" :=
  ⟨by decide +kernel, by decide +kernel, ⟨_, _, F.mro_reversed⟩, F.made_reversed, by decide +kernel, by rw [isSubtype_type]; kernel_rfl, slot_rev_init⟩
theorem owner_rev : Manifest.owners.lookup (String.ofList ['d', 'e', 's', 'r', 'e', 'v', 'e', 'r'].reverse) = some Manifest.sig_reversed := by kernel_rfl
theorem slot_rev_next : Slot "reversed" "__next__" "reversed.__next__" :=
  .of (owner := "reversed") (n := "__next__") (by rw [typeLookup_type, builtinLookup_eq_fast]; kernel_rfl) (by decide +kernel) (by decide +kernel) (by decide +kernel)
    (by first | exact .inl (by decide +kernel) | exact .inr (by decide +kernel)) (by rw [isSubtype_type]; kernel_rfl)
theorem entry_rev_next : entryFor table "reversed.__next__" = some Builtin.«reversed.__next__» := entryFor_of_tree (by kernel_rfl)
theorem args_rev_next (a : Value) : argsOk "reversed.__next__" ⟨[a], []⟩ := by
  unfold argsOk; rw [signature?_of (id := "reversed.__next__") (n := ['_', '_', 't', 'x', 'e', 'n', '_', '_']) (o := ['d', 'e', 's', 'r', 'e', 'v', 'e', 'r']) (by kernel_rfl) owner_rev]; kernel_rfl
theorem slot_rev_iter : Slot "reversed" "__iter__" "reversed.__iter__" :=
  .of (owner := "reversed") (n := "__iter__") (by rw [typeLookup_type, builtinLookup_eq_fast]; kernel_rfl) (by decide +kernel) (by decide +kernel) (by decide +kernel)
    (by first | exact .inl (by decide +kernel) | exact .inr (by decide +kernel)) (by rw [isSubtype_type]; kernel_rfl)
theorem args_rev_iter (a : Value) : argsOk "reversed.__iter__" ⟨[a], []⟩ := by
  unfold argsOk; rw [signature?_of (id := "reversed.__iter__") (n := ['_', '_', 'r', 'e', 't', 'i', '_', '_']) (o := ['d', 'e', 's', 'r', 'e', 'v', 'e', 'r']) (by kernel_rfl) owner_rev]; kernel_rfl
theorem entry_rev_iter : entryFor table "reversed.__iter__" = some Builtin.«dict_keyiterator.__iter__» :=
  entryFor_alias (id' := "dict_keyiterator.__iter__") (by kernel_rfl) (by first | rfl | decide +kernel | (unfold String.splitOn; simp +decide [String.splitOnAux])) (by decide +kernel) (by kernel_rfl)
theorem rev_no_len : typeLookup (.type "reversed") "__len__" = pure none := by rw [typeLookup_type, builtinLookup_eq_fast]; kernel_rfl
theorem slot_rev_hint : Slot "reversed" "__length_hint__" "reversed.__length_hint__" :=
  .of (owner := "reversed") (n := "__length_hint__") (by rw [typeLookup_type, builtinLookup_eq_fast]; kernel_rfl) (by decide +kernel) (by decide +kernel) (by decide +kernel)
    (by first | exact .inl (by decide +kernel) | exact .inr (by decide +kernel)) (by rw [isSubtype_type]; kernel_rfl)
theorem entry_rev_hint : entryFor table "reversed.__length_hint__" = some Builtin.«reversed.__length_hint__» := entryFor_of_tree (by kernel_rfl)
theorem args_rev_hint (a : Value) : argsOk "reversed.__length_hint__" ⟨[a], []⟩ := by
  unfold argsOk; rw [signature?_of (id := "reversed.__length_hint__") (n := ['_', '_', 't', 'n', 'i', 'h', '_', 'h', 't', 'g', 'n', 'e', 'l', '_', '_']) (o := ['d', 'e', 's', 'r', 'e', 'v', 'e', 'r']) (by kernel_rfl) owner_rev]; kernel_rfl
theorem str_no_rev : typeLookup (.type "str") "__reversed__" = pure none := by rw [typeLookup_type, builtinLookup_eq_fast]; kernel_rfl
theorem sub_str_dict : isSubtype (.type "str") (.type "dict") = pure false := by rw [isSubtype_type]; kernel_rfl

abbrev revTxt (x : Str) (t : Tok) (i : Int) : Obj := { cls := .type "reversed", data := .fields #[.str x t, rawInt i] }
def IsRevStr (h : Heap) (I : Addr) (x : Str) (t : Tok) (i : Int) : Prop := ∃ o, h.get? I = some o ∧ o.cls = .type "reversed" ∧ o.data = .fields #[.str x t, rawInt i]

section
variable {prog : Program} {w : World} {A : Around} {E : Value → Shared → Prop} {s : Shared}

theorem meets_reversed (x : Str) (t : Tok) (hx : x.length ≤ 1000) :
    Meets (Builtin.«reversed.__new__» ⟨[.type "reversed", .str x t], []⟩) (fun _ R s => R (.ok (.ret (.ref s.heap.objs.size))) { s with heap := s.heap.push (revTxt x t ((x.length : Int) - 1)), toks := s.toks + 1 + 1 }) :=
  .of_wp fun prog w A R s h => by
    unfold Builtin.«reversed.__new__»
    refine wpAny_bind (wpAny_of_eq (newClass_reversed _) ?_)
    try dsimp only
    refine wpAny_bind (wpAny_of_eq (a := ()) (by first | rfl | kernel_rfl) ?_)
    refine wpAny_bind (wpAny_of_eq (a := ()) (by first | rfl | kernel_rfl) ?_)
    try dsimp only
    refine wpAny_bind (wpAny_specialOf (typeIs_str s x t) str_no_rev ?_)
    try dsimp only
    refine wpAny_bind (wpAny_of_eq (a := true) (by kernel_rfl) ?_)
    try dsimp only
    refine wpAny_bind (P.len_str (by omega) ?_)
    refine wpAny_bind (m := asInt? (.int x.length _)) (wpAny_pure ?_)
    try dsimp only
    refine wpAny_bind ?_
    simp only [Builtin.SmallTypes.newRecord]
    refine wpAny_newObj_type ?_ (show _ ≤ _ from Nat.le_trans (m := 5) (by show 2 ≤ 5; decide) (by decide))
    refine wpAny_pure ⟨_, rfl, ?_⟩
    exact h

theorem call_reversed_str {x : Str} {t : Tok} {Q : Value → Shared → Prop} (hx : x.length ≤ 1000)
    (h : Q (.ref s.heap.objs.size) { s with heap := s.heap.push (revTxt x t ((x.length : Int) - 1)), toks := s.toks + 1 + 1 }) : wpAny (model prog w) A (call (.type "reversed") [.str x t]) Q E s :=
  callType_new called_reversed (by decide) (F.typeCall_reversed_1 _) (F.newCall_reversed_1 _) (fun obj => args_init obj _) F.entry_reversed_new (meets_reversed x t hx) ⟨⟨_, Heap.get?_push_size _ rfl, rfl⟩, h⟩

theorem IsRevStr.typeIs {I : Addr} {x : Str} {t : Tok} {i : Int} (h : IsRevStr s.heap I x t i) : s.TypeIs (.ref I) "reversed" := let ⟨o, ho, hc, _⟩ := h; ⟨o, ho, hc⟩
theorem IsRevStr.at {h h' : Heap} {I : Addr} {x : Str} {t : Tok} {i : Int} (r : IsRevStr h I x t i) (e : ∀ o, h.get? I = some o → h'.get? I = some o) : IsRevStr h' I x t i := let ⟨o, ho, q⟩ := r; ⟨o, e _ ho, q⟩

theorem revstr_next {I : Addr} {x : Str} {t : Tok} {i c : Nat} {Q : Option Value → Shared → Prop} (hit : IsRevStr s.heap I x t (i : Int)) (hx : x.length ≤ 1000) (hc : x.cps[i]? = some c)
    (hQ : ∀ h' u tk, IsRevStr h' I x t ((i : Int) - 1) → Heap.SameBut I s.heap h' → Q (some (.str ⟨#[c]⟩ u)) { s with heap := h', toks := tk }) : wpAny (model prog w) A (pyNext (.ref I)) Q E s := by
  obtain ⟨o, ho, hcl, hd⟩ := id hit
  unfold pyNext
  refine wpAny_bind (wpAny_attempt (wpAny_callSpecial?_slot (name := Str.ofString "__next__") hit.typeIs slot_rev_next
    (wpAny_call_entry slot_rev_next hit.typeIs entry_rev_next ?_ (args_rev_next _))))
  unfold Builtin.«reversed.__next__»
  refine wpAny_bind (wpAny_of_eq (a := (Value.ref I, [])) rfl ?_)
  try dsimp only
  refine wpAny_bind (wpAny_field ho hd (x := .str x t) rfl ?_)
  show wpAny _ _ (field (.ref I) 1 >>= _) _ _ _
  refine wpAny_bind (wpAny_field ho hd (x := rawInt (i : Int)) rfl ?_)
  show wpAny _ _ (if (i : Int) < 0 then _ else _) _ _ s
  rw [if_neg (by omega)]
  show wpAny _ _ (specialOf (.str x t) (Str.ofString "__getitem__") >>= _) _ _ s
  refine wpAny_bind (wpAny_specialOf (typeIs_str s x t) F.slot_str_getitem.lookup ?_)
  have hi : i < x.length := by
    rcases Nat.lt_or_ge i x.cps.size with h | h
    · exact h
    · rw [Array.getElem?_eq_none h] at hc; cases hc
  simp only [Option.isNone_some, Bool.false_eq_true, if_false]
  show wpAny _ _ (mkInt (i : Int) >>= _) _ _ s
  refine wpAny_bind (wpAny_mkInt ?_)
  have hs : (seqIndex? (i : Int) x.length).bind (x.cps[·]?) = some c := by
    unfold seqIndex?
    have h1 : ¬ ((i : Int) < 0) := by omega
    have h2 : (decide (0 ≤ (i : Int)) && decide ((i : Int) < (x.length : Int))) = true := by simp; omega
    simp only [h1, if_false, h2, if_true, Int.toNat_natCast, Option.bind_some]
    exact hc
  refine wpAny_bind (wpAny_attempt (P.getItem_str (by simp; omega) hs ?_))
  try dsimp only
  show wpAny _ _ (field (.ref I) 1 >>= _) _ _ _
  refine wpAny_bind (wpAny_field ho hd (x := rawInt (i : Int)) rfl ?_)
  show wpAny _ _ (setField (.ref I) 1 (rawInt ((i : Int) - 1)) >>= _) _ _ _
  refine wpAny_bind (wpAny_setField ho hd (by simp) ?_)
  refine wpAny_pure ⟨_, rfl, wpAny_pure (hQ _ _ _ ?_ (Heap.SameBut.update ..))⟩
  exact ⟨_, Heap.get?_update_self _ ho (Obj.isFreed_of_fields (Obj.data_mapFields hd _)), (Obj.cls_mapFields ..).trans hcl, by
    rw [Obj.data_mapFields hd]; simp⟩

theorem revstr_end {I : Addr} {x : Str} {t : Tok} {Q : Option Value → Shared → Prop} (hh : A.handled = none) (hit : IsRevStr s.heap I x t (-1))
    (hQ : ∀ h', Heap.ExtBut I s.heap h' → Q none { s with heap := h' }) : wpAny (model prog w) A (pyNext (.ref I)) Q E s := by
  obtain ⟨o, ho, hcl, hd⟩ := id hit
  unfold pyNext
  refine wpAny_bind (wpAny_attempt (wpAny_callSpecial?_slot (name := Str.ofString "__next__") hit.typeIs slot_rev_next
    (wpAny_call_entry slot_rev_next hit.typeIs entry_rev_next ?_ (args_rev_next _))))
  unfold Builtin.«reversed.__next__»
  refine wpAny_bind (wpAny_of_eq (a := (Value.ref I, [])) rfl ?_)
  try dsimp only
  refine wpAny_bind (wpAny_field ho hd (x := .str x t) rfl ?_)
  show wpAny _ _ (field (.ref I) 1 >>= _) _ _ _
  refine wpAny_bind (wpAny_field ho hd (x := rawInt (-1)) rfl ?_)
  show wpAny _ _ (if (-1 : Int) < 0 then _ else _) _ _ s
  rw [if_pos (by decide)]
  refine wpAny_bind (wpAny_rule ?_)
  refine wpAny_bind ?_
  show wpAny _ _ (setField (.ref I) 1 (rawInt (-1)) >>= fun _ => setField (.ref I) 0 .none) _ _ _
  refine wpAny_bind (wpAny_setField ho hd (by simp) ?_)
  have ho2 : (s.heap.update I (Obj.mapFields (·.setIfInBounds 1 (rawInt (-1))))).get? I = some _ := Heap.get?_update_self _ ho (Obj.isFreed_of_fields (Obj.data_mapFields hd _))
  refine wpAny_setField ho2 (Obj.data_mapFields hd _) (by simp) ?_
  have k2 : Heap.ExtBut I s.heap ((s.heap.update I (Obj.mapFields (·.setIfInBounds 1 (rawInt (-1))))).update I (Obj.mapFields (·.setIfInBounds 0 .none))) :=
    fun b o hb e => (Heap.get?_update_other _ _ (Ne.symm hb)).trans ((Heap.get?_update_other _ _ (Ne.symm hb)).trans e)
  refine wpAny_bind ?_
  show wpAny _ _ (newExc (.type "StopIteration") [] >>= _) _ _ _
  refine wpAny_bind ?_
  simp only [newExc, newTuple]
  refine wpAny_bind (wpAny_newObj_type ?_ (by size_fits))
  refine wpAny_bind (m := firstArgMember _ _) (wpAny_of_eq (a := Value.none) (by first | rfl | (simp only [firstArgMember]; rfl)) ?_)
  refine wpAny_newObj_type ?_ (by size_fits)
  simp only [raiseNew]
  refine wpAny_bind (wpAny_handled ?_)
  first | rw [show A.in1.handled = none from hh] | rw [hh]
  refine wpAny_bind (wpAny_pure (wpAny_throw ?_))
  refine wpAny_bind (wpAny_isInstance (T := "StopIteration") (b := true) ⟨_, Heap.get?_push_size _ rfl, rfl⟩ isSubtype_stop ?_)
  exact wpAny_pure (hQ _ ((k2.push _).push _))

theorem revstr_iter {I : Addr} {x : Str} {t : Tok} {i : Int} {Q : Value → Shared → Prop} (hit : IsRevStr s.heap I x t i) (h : Q (.ref I) s) : wpAny (model prog w) A (pyIter (.ref I)) Q E s := by
  refine wpAny_pyIter_slot hit.typeIs slot_rev_iter (wpAny_call_entry slot_rev_iter hit.typeIs entry_rev_iter ?_ (args_rev_iter _))
  show wpAny _ _ (ret (.ref I)) _ _ s
  exact wpAny_pure ⟨_, rfl, "reversed", _, hit.typeIs, slot_rev_next.lookup, h⟩

theorem revstr_hint {I : Addr} {x : Str} {t : Tok} {Q : Bool → Shared → Prop} (hit : IsRevStr s.heap I x t ((x.length : Int) - 1)) (hx : x.length ≤ 1000)
    (h : ∀ b tk, Q b { s with toks := tk }) : wpAny (model prog w) A (Builtin.List.listLengthHint (.ref I)) Q E s := by
  unfold Builtin.List.listLengthHint
  refine wpAny_bind (wpAny_specialOf hit.typeIs rev_no_len ?_)
  show wpAny _ _ (specialOf (Value.ref I) (Str.ofString "__length_hint__") >>= _) _ _ _
  refine wpAny_bind (wpAny_specialOf hit.typeIs slot_rev_hint.lookup ?_)
  (generalize hid : ("reversed.__length_hint__" : String) = id0; (fail_if_success (clear hid id0)); wp_delta; rw [show splitId id0 = some ("reversed", "__length_hint__") from by subst hid; decide +kernel]; subst hid)
  refine wpAny_bind (wpAny_isInstance (b := true) hit.typeIs F.sub_reversed_self ?_)
  rw [if_neg (by decide)]
  dsimp only
  split
  · rename_i q; exact absurd q (by decide +kernel)
  refine wpAny_bind (wpAny_rule ?_)
  refine wpAny_bind (wpAny_of_eq (slot_rev_hint.bind _) ?_)
  dsimp only
  refine wpAny_bind (wpAny_attempt (wpAny_call_entry slot_rev_hint hit.typeIs entry_rev_hint ?_ (args_rev_hint _)))
  obtain ⟨o, ho, hcl, hd⟩ := id hit
  unfold Builtin.«reversed.__length_hint__»
  refine wpAny_bind (wpAny_of_eq (a := Value.ref I) rfl ?_)
  refine wpAny_bind (wpAny_field ho hd (x := .str x t) rfl ?_)
  rw [if_neg (show ¬ ((Value.str x t == Value.none) = true) from Bool.false_ne_true)]
  refine wpAny_bind (P.len_str (by omega) ?_)
  refine wpAny_bind (m := asInt? (.int x.length _)) (wpAny_pure ?_)
  dsimp only
  refine wpAny_bind (wpAny_field ho hd (x := rawInt ((x.length : Int) - 1)) rfl ?_)
  show wpAny _ _ (if ((x.length : Nat) : Int) < ((x.length : Int) - 1) + 1 then _ else _) _ _ _
  rw [if_neg (by omega)]
  refine wpAny_bind (wpAny_mkInt ?_)
  refine wpAny_pure ⟨_, rfl, ?_⟩
  refine wpAny_bind (m := asInt? _) (wpAny_pure ?_)
  dsimp only
  have e : (x.length : Int) - 1 + 1 = (x.length : Int) := by omega
  rw [e]
  have f1 : Builtin.List.listFitsIndex (x.length : Int) = true := by unfold Builtin.List.listFitsIndex; simp; omega
  have f2 : Builtin.List.listTooLong ((x.length : Int)).toNat = false := by unfold Builtin.List.listTooLong; simp [sizeLine]; omega
  rw [f1]
  simp only [Bool.not_true, Bool.false_eq_true, if_false]
  rw [if_neg (by omega), f2]
  simp only [Bool.false_eq_true, if_false]
  exact wpAny_pure (h _ _)

theorem Walks.revStr (hh : A.handled = none) (I : Addr) (x : Str) (t : Tok) (hx : x.length ≤ 1000) :
    Walks prog w A I [I] [I] x.length (fun i v => ∃ c u, x.cps[x.length - 1 - i]? = some c ∧ v = .str ⟨#[c]⟩ u) (fun i h => i ≤ x.length ∧ IsRevStr h I x t ((x.length : Int) - 1 - (i : Int))) where
  sub := fun b hb => hb
  frame := fun _ _ _ q hk => ⟨q.1, q.2.at fun o e => hk I (by simp) o e⟩
  item := fun i s Q E hi q hQ => by
    have e : (x.length : Int) - 1 - (i : Int) = ((x.length - 1 - i : Nat) : Int) := by omega
    have hit := q.2
    rw [e] at hit
    have hlt : x.length - 1 - i < x.cps.size := by show _ < x.length; omega
    have hc : x.cps[x.length - 1 - i]? = some (x.cps[x.length - 1 - i]) := Array.getElem?_eq_getElem hlt
    refine revstr_next hit hx hc fun h' u tk hit' hs' => ?_
    have e2 : ((x.length - 1 - i : Nat) : Int) - 1 = (x.length : Int) - 1 - ((i + 1 : Nat) : Int) := by omega
    rw [e2] at hit'
    exact hQ _ h' tk ⟨_, u, hc, rfl⟩ ⟨hi, hit'⟩ fun b o hb eo => hs'.extBut b o (fun h => hb (by simp [h])) eo
  done := fun s Q E q hQ => by
    have e : (x.length : Int) - 1 - (x.length : Int) = -1 := by omega
    have hit := q.2
    rw [e] at hit
    exact revstr_end hh hit fun h' he' => hQ h' s.toks fun b o hb eo => he' b o (fun h => hb (by simp [h])) eo
  self := fun _ _ _ _ q hQ => revstr_iter q.2 hQ

theorem list_rev_str {I : Addr} {x : Str} {t : Tok} {Q : Value → Shared → Prop} (hh : A.handled = none) (hx : x.length ≤ 1000) (hit : IsRevStr s.heap I x t ((x.length : Int) - 1))
    (hQ : ∀ h' tk acc c, (∀ b o, b ≠ I → s.heap.get? b = some o → h'.get? b = some o) → h'.get? s.heap.objs.size = some (lobj acc c) → Lets acc.toList x.cps.toList.reverse → Q (.ref s.heap.objs.size) { s with heap := h', toks := tk }) :
    wpAny (model prog w) A (call (.type "list") [.ref I]) Q E s := by
  have hIlt : s.heap.objs.size ≠ I := fun q => by obtain ⟨o, ho, _⟩ := hit; exact absurd (Heap.lt_size ho) (q ▸ Nat.lt_irrefl _)
  refine call_list_of hit.typeIs (by decide) (by decide) (fun s' Q' E' hk hq => revstr_iter (hit.at fun o e => hk _ o e) hq) (fun s' Q' E' hk hq => revstr_hint (hit.at fun o e => hk _ o e) hx hq) fun h' tk c R hk hS hR => ?_
  refine codeAny_extend_loopS (Walks.revStr (A := A.in1.in1) hh I x t hx).toS (Nat.le_trans hx (by decide)) s.heap.objs.size (fun hm => hIlt (List.mem_singleton.mp hm)) .none x.length 0 _ #[] c (by omega) (Nat.zero_le _) ⟨Nat.zero_le _, ?_⟩ hS (ItemsOf.nil _) fun s' acc' c' hm hS' hacc => ?_
  · have e : (x.length : Int) - 1 - ((0 : Nat) : Int) = (x.length : Int) - 1 := by omega
    rw [e]
    exact hit.at fun o e => hk _ o e
  · rw [Moved.eq_with hm]
    refine hR _ (hQ _ _ acc' c' (fun b o hb e => hm.heap b o (fun hmem => ?_) (hk b o e)) hS' ?_)
    · rcases List.mem_cons.mp hmem with q | hmem
      · exact absurd (Heap.lt_size e) (q ▸ Nat.lt_irrefl _)
      · exact hb (List.mem_singleton.mp hmem)
    · have hlen : acc'.toList.length = x.cps.toList.reverse.length := by
        rw [List.length_reverse]
        simpa [Str.length] using hacc.1
      refine (paired_of (F := fun (v : Value) (c : Nat) => ∃ u, v = Value.str ⟨#[c]⟩ u) hlen.symm fun j v hj => ?_)
      obtain ⟨c, u, hc, hv⟩ := hacc.2 j v (by simpa using hj)
      refine ⟨c, ?_, u, hv⟩
      have hjl : j < acc'.toList.length := (List.getElem?_eq_some_iff.mp hj).1
      rw [List.getElem?_reverse (by rw [hlen, List.length_reverse] at hjl; exact hjl)]
      have e2 : x.cps.toList.length = x.length := by simp [Str.length]
      rw [e2]
      simpa using hc
end
end Mine
end

section
set_option maxRecDepth 100000
set_option Elab.async false
namespace Mine
open PySem PySem.W PySem.Spec PySem.Calls PyProof.Rows PySem.SeqAt
open Builtin Builtin.Str
section
variable {prog : Program} {w : World} {A : Around} {E : Value → Shared → Prop} {s : Shared} {I : Addr}

theorem collect_of {Q : List Value → Shared → Prop} {T : String} (hT : s.TypeIs (.ref I) T) (hT1 : (Value.type T == Value.type "list") = false) (hT2 : (Value.type T == Value.type "tuple") = false)
    (hiter : ∀ (s' : Shared) (Q : Value → Shared → Prop) (E' : Value → Shared → Prop), s.heap.StaysIn s'.heap → Q (.ref I) s' → wpAny (model prog w) A.in1 (pyIter (.ref I)) Q E' s')
    (hhint : ∀ (s' : Shared) (Q : Bool → Shared → Prop) (E' : Value → Shared → Prop), s.heap.StaysIn s'.heap → (∀ b tk, Q b { s' with toks := tk }) → wpAny (model prog w) A.in1 (Builtin.List.listLengthHint (.ref I)) Q E' s')
    (hloop : ∀ h' tk c (R : Result → Shared → Prop), s.heap.StaysIn h' → h'.get? s.heap.objs.size = some (lobj #[] c) → (∀ s' acc c', s'.heap.get? s.heap.objs.size = some (lobj acc c') → Q acc.toList s' → R (.ok (.ret (.ref s.heap.objs.size))) s') → codeAny (model prog w) A (.builtin "list.extend.loop" ⟨[.ref s.heap.objs.size, .ref I, .ref s.heap.objs.size], []⟩) R { s with heap := h', toks := tk }) :
    wpAny (model prog w) A (collect (.ref I)) Q E s := by
  have hlt : ∀ b o, s.heap.get? b = some o → b ≠ s.heap.objs.size := fun b o e => Nat.ne_of_lt (Heap.lt_size e)
  have hSI : s.heap.objs.size ≠ I := by obtain ⟨o, ho, _⟩ := hT; exact (hlt I o ho).symm
  unfold collect
  refine wpAny_bind (wpAny_runValue (codeAny_builtin F.entry_proto_collect ?_))
  rw [Around.under_plainId F.plain_proto_collect _]
  show wpAny _ A.in1 (newList [] >>= fun l => again (.builtin "list.__iadd__" ⟨[l, .ref I], []⟩)) _ _ s
  refine wpAny_bind (wpAny_newObj_type ?_)
  refine wpAny_pure ⟨plainId_quiet F.plain_list_iadd _, codeAny_builtin F.entry_list_iadd ?_⟩
  rw [Around.under_plainId F.plain_list_iadd _]
  have hS₁ : (s.heap.push (lobj #[] 0)).get? s.heap.objs.size = some (lobj #[] 0) := Heap.get?_push_size _ rfl
  have up : s.heap.StaysIn (s.heap.push (lobj #[] 0)) := fun b o e => Heap.get?_push_of_some _ e
  have hT' : Shared.TypeIs { s with heap := s.heap.push (lobj #[] 0) } (.ref I) T := by obtain ⟨o, ho, hc⟩ := hT; exact ⟨o, up _ _ ho, hc⟩
  have h1 : Builtin.List.listSameRef (.ref s.heap.objs.size) (.ref I) = false := by simp [Builtin.List.listSameRef, hSI]
  show wpAny _ A.in1 (Builtin.List.listExtendWith (.ref s.heap.objs.size) (.ref I) (.ref s.heap.objs.size)) _ _ _
  unfold Builtin.List.listExtendWith
  refine wpAny_bind (wpAny_typeOf hT' ?_)
  simp only [h1, hT1, hT2, Bool.or_false, Bool.false_eq_true, if_false]
  refine wpAny_bind (hiter _ _ _ up ?_)
  have last : ∀ (s' : Shared) (acc : Array Value) (c' : Nat), s'.heap.get? s.heap.objs.size = some (lobj acc c') → Q acc.toList s' → wpAny (model prog w) A (load s.heap.objs.size >>= fun o => match o.data with | .seq xs _ => pure xs.toList | _ => unsupported "internal:collect") Q E s' :=
    fun s' acc c' hS' hq => wpAny_bind (wpAny_load hS' (wpAny_pure hq))
  refine wpAny_bind (wpAny_holding (hhint _ _ _ up fun b tk => ?_))
  split
  · refine wpAny_bind (wpAny_rule ?_)
    refine wpAny_bind ?_
    show wpAny _ A.in1 (updateSeq s.heap.objs.size (·.push .none) >>= fun _ => updateSeq s.heap.objs.size (·.pop)) _ _ _
    refine wpAny_bind (wpAny_updateSeq hS₁ rfl ?_)
    have hS₃ := Heap.get?_update_self (Obj.mapSeq (·.push Value.none)) hS₁ rfl
    refine wpAny_updateSeq (hz := by seq_fits) hS₃ rfl ?_
    have hS₄ := Heap.get?_update_self (Obj.mapSeq (·.pop)) hS₃ rfl
    refine wpAny_pure ⟨plainId_quiet F.plain_extend_loop _, hloop _ _ _ _ (fun b o e => ?_) hS₄ fun s' acc c' hS' hq => ?_⟩
    · exact (Heap.get?_update_other _ _ (hlt b o e).symm).trans ((Heap.get?_update_other _ _ (hlt b o e).symm).trans (up b o e))
    · exact last s' acc c' hS' hq
  · exact wpAny_pure ⟨plainId_quiet F.plain_extend_loop _, hloop _ _ _ _ up hS₁ fun s' acc c' hS' hq => last s' acc c' hS' hq⟩

theorem lri_hint {l : Addr} {i : Int} {Q : Bool → Shared → Prop} (hit : s.heap.IsRevIter I l i) (h : ∀ b tk, Q b { s with toks := tk }) : wpAny (model prog w) A (Builtin.List.listLengthHint (.ref I)) Q E s := by
  unfold Builtin.List.listLengthHint
  refine wpAny_bind (wpAny_specialOf hit.typeIs (show typeLookup (.type "list_reverseiterator") "__len__" = pure none from by rw [typeLookup_type, builtinLookup_eq_fast]; kernel_rfl) ?_)
  show wpAny _ _ (specialOf (Value.ref I) (Str.ofString "__length_hint__") >>= _) _ _ _
  refine wpAny_bind (wpAny_specialOf hit.typeIs (show typeLookup (.type "list_reverseiterator") "__length_hint__" = pure (some (.builtin "list_reverseiterator.__length_hint__")) from by rw [typeLookup_type, builtinLookup_eq_fast]; kernel_rfl) ?_)
  (generalize hid : ("list_reverseiterator.__length_hint__" : String) = id0; (fail_if_success (clear hid id0)); wp_delta; rw [show splitId id0 = some ("list_reverseiterator", "__length_hint__") from by subst hid; decide +kernel]; subst hid)
  refine wpAny_bind (wpAny_isInstance (b := true) hit.typeIs (by rw [isSubtype_type]; kernel_rfl) ?_)
  rw [if_neg (by decide)]
  dsimp only
  split
  · rw [if_neg (by decide)]
    exact wpAny_pure (h _ s.toks)
  · rename_i q; exact absurd (by decide +kernel) q

theorem join_rev {l : Addr} {vs : List Value} {ls : List Nat} {x : Str} {t : Tok} {Q : Value → Shared → Prop} (hh : A.handled = none) (hx : x.length ≤ 16) (hn : ls.length ≤ 1000) (hit : s.heap.IsRevIter I l ((vs.length : Int) - 1)) (hl : s.heap.IsList l vs.toArray) (hls : Lets vs ls)
    (hq : ∀ h' t' k, (∀ b o, b ≠ I → s.heap.get? b = some o → h'.get? b = some o) → Q (.str (Txt.join x (ls.reverse.map fun c => (⟨#[c]⟩ : Str))) t') { s with heap := h', toks := k }) :
    wpAny (model prog w) A (call (.builtin "str.join") [.str x t, .ref I]) Q E s := by
  have hlI : l ≠ I := fun e => by
    obtain ⟨o, ho, hc, _⟩ := hit
    obtain ⟨o', ho', hc', _⟩ := hl
    rw [e, ho] at ho'
    cases ho'
    rw [hc] at hc'
    exact absurd hc' (by decide)
  have hlen := paired_length hls
  have hlt : ∀ b o, s.heap.get? b = some o → b ≠ s.heap.objs.size := fun b o e => Nat.ne_of_lt (Heap.lt_size e)
  refine wpAny_call (codeAny_call_builtin F.slot_str_join.plain F.entry_str_join (F.slot_str_join.check _ _ _ _ _ _ _ _ (typeIs_str _ _ _) (F.args_str_join_2 _ _) ?_))
  rw [join_tree_other]
  refine wpAny_bind (wpAny_typeOf hit.typeIs ?_)
  show wpAny _ A.in1 ((pyIter (.ref I)).tryCatch _ >>= fun it => collect it >>= fun items => joinTail x items) _ _ s
  refine wpAny_bind (wpAny_tryCatch (wpAny_pyIter_revIter hit ?_))
  refine wpAny_bind (collect_of hit.typeIs (by decide) (by decide) (fun s' Q' E' hk hq' => wpAny_pyIter_revIter (hit.at fun o e => hk _ o e) hq') (fun s' Q' E' hk hq' => lri_hint (hit.at fun o e => hk _ o e) hq') fun h' tk c R hk hS hR => ?_)
  have hsz : vs.toArray.size = vs.length := by simp
  refine codeAny_extend_loopS (Walks.listRev (A := A.in1.in1) hh I l hlI vs.toArray).toS (by rw [hsz, hlen]; exact Nat.le_trans hn (by decide)) s.heap.objs.size (fun hm => ?_) _ vs.toArray.size 0 _ #[] c (by omega) (Nat.zero_le _) ⟨Nat.zero_le _, ?_, ?_⟩ hS (ItemsOf.nil _) fun s' acc' c' hm hS' hacc => ?_
  · simp only [List.mem_cons, List.not_mem_nil, or_false] at hm
    rcases hm with q | q
    · obtain ⟨o, ho, _⟩ := hit; exact hlt _ _ ho q.symm
    · obtain ⟨o, ho, _⟩ := hl; exact hlt _ _ ho q.symm
  · have e : ((vs.toArray.size : Nat) : Int) - 1 - ((0 : Nat) : Int) = (vs.length : Int) - 1 := by rw [hsz]; omega
    rw [e]
    exact hit.at fun o e => hk _ o e
  · exact hl.at fun o e => hk _ o e
  · have hLr : Lets acc'.toList ls.reverse := by
      have e1 : acc'.toList.length = vs.length := by simpa using hacc.1
      have e2 : acc'.toList = vs.reverse := by
        refine List.ext_getElem? fun j => ?_
        by_cases hj : j < acc'.toList.length
        · have hv : acc'[j]? = some (acc'.toList[j]) := by simp at hj ⊢
          have := hacc.2 j _ hv
          dsimp only at this
          rw [List.getElem?_eq_getElem hj, List.getElem?_reverse (by omega)]
          have e3 : vs.toArray.size - 1 - j = vs.length - 1 - j := by rw [hsz]
          rw [e3] at this
          simpa using this.symm
        · rw [List.getElem?_eq_none (by omega), List.getElem?_eq_none (by rw [List.length_reverse]; omega)]
      rw [e2]
      exact paired_reverse hls
    refine hR s' acc' c' hS' ?_
    obtain ⟨tx, htx⟩ := exists_strValues acc'.toList fun v hv => by
      obtain ⟨j, hj, e⟩ := List.getElem_of_mem hv
      obtain ⟨c, _, u, hv'⟩ := paired_get hLr (i := j) (a := v) (by rw [← e]; exact List.getElem?_eq_getElem hj)
      exact ⟨_, u, hv'⟩
    have hmap : ∀ {vs : List Value} {ls : List Nat}, Lets vs ls → ∀ tx : List (Str × Tok), strValues tx = vs → tx.map (·.1) = ls.map fun c => (⟨#[c]⟩ : Str) := by
      intro vs ls h
      induction h with
      | nil => intro tx e; cases tx with | nil => rfl | cons a b => cases e
      | cons h1 _ ih =>
        intro tx e
        cases tx with
        | nil => cases e
        | cons a b =>
          obtain ⟨e1, e2⟩ := List.cons.inj e
          obtain ⟨u, hu⟩ := h1
          rw [hu] at e1
          injection e1 with e3 _
          rw [List.map_cons, List.map_cons, ih b e2, e3]
    have hm2 := hmap hLr tx htx
    rw [← htx]
    have hok : JoinOk x (tx.map (·.1)) = true := by
      rw [hm2]
      have := total_of_weight (x := x) (ys := ls.reverse.map fun c => (⟨#[c]⟩ : Str)) (by rw [ones_weight, List.length_map, List.length_reverse]; omega) hx
      exact joinOk_of this
    unfold JoinOk at hok
    rw [Bool.not_eq_true'] at hok
    have g : Gives (joinTail x (strValues tx)) (joinMade x tx) := by
      have g0 := gives_joinTail x tx hok
      cases tx with
      | nil => exact g0
      | cons p r => cases r with
        | nil => exact g0
        | cons q r' => exact g0
    refine g prog w A (wants Q E) s' (post_join tx ⟨joinFit_length hok, fun t' k => ?_⟩)
    rw [hm2, Moved.eq_with hm]
    exact hq _ _ _ fun b o hb e => hm.heap b o (fun hmem => by
      rcases List.mem_cons.mp hmem with q | hmem
      · exact hlt _ _ e q
      · exact hb (List.mem_singleton.mp hmem)) (hk b o e)
end
end Mine
end

section
theorem Mine.calm_PCall : True := by
  w_top off
  trivial
open PySem PySem.SeqAt PySem.W PyProof.Rows PySem.Spec PySem.Calls
set_option Elab.async false
namespace Mine

local macro_rules | `(tactic| walk_at "call ref") => `(tactic| refine halt ?_)
set_option maxRecDepth 100000 in
set_option maxHeartbeats 8000000 in

theorem pcall_P3 {w : World} {p : Program} {loose : List Str} {mean : ExcName → Option Value} {mg mb : Str → Option Value}
    {dp un : Nat} {gd : Option (List Code)} {cn : Str} {cs : Scope} {a : Addr} {ccd : Value} {cl : List (Str × Addr)} {outer : List Env} {A₀ : Around} {base h₀ : Heap} {L : Addr} {m : Str → Option Value} {s : Shared}
    {Q E : Value → Shared → Prop} (B : Below A₀ base outer h₀) (F : Fr h₀ L s.heap m) (X : (hd.heap_39 w.params).In h₀) (T : Top p loose mean mg mb h₀) (hk : cs.kind = .function)
    (hd : dp + 40 < recursionLimit) (hu : un + 500 < cLine)
  (S d : Addr) (t1 t2 tq : Tok) (N : News h₀ L s.heap [(S, instObj 262 d), (d, dictOf [⟨PyData.keyHash w.params (Str.ofString "qval"), .str (Str.ofString "qval") t1, .int 1 tq⟩, ⟨PyData.keyHash w.params (Str.ofString "sim_test"), .str (Str.ofString "sim_test") t2, .ref 100⟩] 2)]) (x0 x1 x2 : Str × Tok) (hx : ∀ x ∈ [x0, x1, x2], Low x.1)
  (ret : ∀ (r : Str) t k h' tk', s.heap.StaysIn h' → chs r = (chs x0.1).take k → Pre (chs x0.1) [chs x1.1, chs x2.1] k → Q (.str r t) { s with heap := h', toks := tk' }) :
  codeAny (model PySem.Challenge.rw_fu0023_01.row.prog w) (ktrTop dp un gd cn cs L a ccd cl outer) (.call (.ref 245) ⟨[.ref S, .str x0.1 x0.2, .str x1.1 x1.2, .str x2.1 x2.2], []⟩) (fun r s' => match r with | .ok (.ret v) => Q v s' | .ok _ => False | .error e => E e s') s := by
  revert X; k_fill; intro X
  k_dflt (refine' enter_rest ?k1 ?k2 ?k3 ?k4 ?k5 ?kA ?kF ?kK ?k6 ?k7 ?k8 ?kV ?kP ?kG ?kB ?_ ?c2 ?c3 ?c4 ?c5; (case kA => exact rfl); (case kF => exact rfl); (case kK => first | exact rfl | assumption); (case k1 => k_asm); (case k2 => k_asm); (case k3 => k_asm); (case k4 => k_asm); (case k5 => k_asm); (case k6 => k_is); (case k7 => k_is); (case k8 => ktr_room); (case kV => first | kl_lit | exact rfl); (case kP => exact rfl); (case kG => exact fun _ => rfl); (case kB => exact fun _ => locs rfl); (case c5 => decide); (case c2 => exact rfl); (case c3 => exact rfl); (case c4 => exact rfl); k_whole); intro D g L1 h1 FG F1 N1 B1 X1 T1 lD lD1 NT; (try k_lt lD); (try dsimp only)
  replace F1 : Fr g L1 h1 _ := lk2 ▸ F1
  all_goals (try k_fold)
  k_steps
  rename Fr _ _ _ _ => F2
  rename News _ _ _ _ => N2
  refine go (call_meth N2 (.head _) ?_)
  refine begin_P3 B1 F2 X1 T1 rfl (by show dp + 1 + 30 < _; omega) (by show un + 3 + 400 < _; omega) S d t1 t2 tq (fun p hp => N2 p (.tail _ (.tail _ hp))) _ _ _ hx ?_
  intro r t k h3 tk3 hst hr hp
  have F3 := F2.keeps hst
  have N3 := N2.grown hst
  clear F2 N2
  k_steps
  exact ret r t k _ _ (NT.back _ F3.keep fun p hp => (N3 p (.tail _ (.tail _ hp))).1) hr hp
set_option maxRecDepth 100000 in
set_option maxHeartbeats 8000000 in

theorem pcall_P2 {w : World} {p : Program} {loose : List Str} {mean : ExcName → Option Value} {mg mb : Str → Option Value}
    {dp un : Nat} {gd : Option (List Code)} {cn : Str} {cs : Scope} {a : Addr} {ccd : Value} {cl : List (Str × Addr)} {outer : List Env} {A₀ : Around} {base h₀ : Heap} {L : Addr} {m : Str → Option Value} {s : Shared}
    {Q E : Value → Shared → Prop} (B : Below A₀ base outer h₀) (F : Fr h₀ L s.heap m) (X : (hd.heap_39 w.params).In h₀) (T : Top p loose mean mg mb h₀) (hk : cs.kind = .function)
    (hd : dp + 40 < recursionLimit) (hu : un + 500 < cLine)
  (S d : Addr) (t1 t2 tq : Tok) (N : News h₀ L s.heap [(S, instObj 262 d), (d, dictOf [⟨PyData.keyHash w.params (Str.ofString "qval"), .str (Str.ofString "qval") t1, .int 1 tq⟩, ⟨PyData.keyHash w.params (Str.ofString "sim_test"), .str (Str.ofString "sim_test") t2, .ref 100⟩] 2)]) (x0 x1 : Str × Tok) (hx : ∀ x ∈ [x0, x1], Low x.1)
  (ret : ∀ (r : Str) t k h' tk', s.heap.StaysIn h' → chs r = (chs x0.1).take k → Pre (chs x0.1) [chs x1.1] k → Q (.str r t) { s with heap := h', toks := tk' }) :
  codeAny (model PySem.Challenge.rw_fu0023_01.row.prog w) (ktrTop dp un gd cn cs L a ccd cl outer) (.call (.ref 245) ⟨[.ref S, .str x0.1 x0.2, .str x1.1 x1.2], []⟩) (fun r s' => match r with | .ok (.ret v) => Q v s' | .ok _ => False | .error e => E e s') s := by
  revert X; k_fill; intro X
  k_dflt (refine' enter_rest ?k1 ?k2 ?k3 ?k4 ?k5 ?kA ?kF ?kK ?k6 ?k7 ?k8 ?kV ?kP ?kG ?kB ?_ ?c2 ?c3 ?c4 ?c5; (case kA => exact rfl); (case kF => exact rfl); (case kK => first | exact rfl | assumption); (case k1 => k_asm); (case k2 => k_asm); (case k3 => k_asm); (case k4 => k_asm); (case k5 => k_asm); (case k6 => k_is); (case k7 => k_is); (case k8 => ktr_room); (case kV => first | kl_lit | exact rfl); (case kP => exact rfl); (case kG => exact fun _ => rfl); (case kB => exact fun _ => locs rfl); (case c5 => decide); (case c2 => exact rfl); (case c3 => exact rfl); (case c4 => exact rfl); k_whole); intro D g L1 h1 FG F1 N1 B1 X1 T1 lD lD1 NT; (try k_lt lD); (try dsimp only)
  replace F1 : Fr g L1 h1 _ := lk2 ▸ F1
  all_goals (try k_fold)
  k_steps
  rename Fr _ _ _ _ => F2
  rename News _ _ _ _ => N2
  refine go (call_meth N2 (.head _) ?_)
  refine begin_P2 B1 F2 X1 T1 rfl (by show dp + 1 + 30 < _; omega) (by show un + 3 + 400 < _; omega) S d t1 t2 tq (fun p hp => N2 p (.tail _ (.tail _ hp))) _ _ hx ?_
  intro r t k h3 tk3 hst hr hp
  have F3 := F2.keeps hst
  have N3 := N2.grown hst
  clear F2 N2
  k_steps
  exact ret r t k _ _ (NT.back _ F3.keep fun p hp => (N3 p (.tail _ (.tail _ hp))).1) hr hp
set_option maxRecDepth 100000 in
set_option maxHeartbeats 8000000 in

theorem psim_P2 {w : World} {p : Program} {loose : List Str} {mean : ExcName → Option Value} {mg mb : Str → Option Value}
    {dp un : Nat} {gd : Option (List Code)} {cn : Str} {cs : Scope} {a : Addr} {ccd : Value} {cl : List (Str × Addr)} {outer : List Env} {A₀ : Around} {base h₀ : Heap} {L : Addr} {m : Str → Option Value} {s : Shared}
    {Q E : Value → Shared → Prop} (B : Below A₀ base outer h₀) (F : Fr h₀ L s.heap m) (X : (hd.heap_39 w.params).In h₀) (T : Top p loose mean mg mb h₀) (hk : cs.kind = .function)
    (hd : dp + 50 < recursionLimit) (hu : un + 600 < cLine)
  (S d : Addr) (t1 t2 tq : Tok) (N : News h₀ L s.heap [(S, instObj 262 d), (d, dictOf [⟨PyData.keyHash w.params (Str.ofString "qval"), .str (Str.ofString "qval") t1, .int 1 tq⟩, ⟨PyData.keyHash w.params (Str.ofString "sim_test"), .str (Str.ofString "sim_test") t2, .ref 100⟩] 2)]) (x0 x1 : Str × Tok) (hx : ∀ x ∈ [x0, x1], Low x.1)
  (ret : ∀ t (k : Nat) h' tk', s.heap.StaysIn h' → Pre (chs x0.1) [chs x1.1] k → Q (.int k t) { s with heap := h', toks := tk' }) :
  codeAny (model PySem.Challenge.rw_fu0023_01.row.prog w) (ktrTop dp un gd cn cs L a ccd cl outer) (.call (.ref 259) ⟨[.ref S, .str x0.1 x0.2, .str x1.1 x1.2], []⟩) (fun r s' => match r with | .ok (.ret v) => Q v s' | .ok _ => False | .error e => E e s') s := by
  revert X; k_fill; intro X
  k_dflt (refine' enter_rest ?k1 ?k2 ?k3 ?k4 ?k5 ?kA ?kF ?kK ?k6 ?k7 ?k8 ?kV ?kP ?kG ?kB ?_ ?c2 ?c3 ?c4 ?c5; (case kA => exact rfl); (case kF => exact rfl); (case kK => first | exact rfl | assumption); (case k1 => k_asm); (case k2 => k_asm); (case k3 => k_asm); (case k4 => k_asm); (case k5 => k_asm); (case k6 => k_is); (case k7 => k_is); (case k8 => ktr_room); (case kV => first | kl_lit | exact rfl); (case kP => exact rfl); (case kG => exact fun _ => rfl); (case kB => exact fun _ => locs rfl); (case c5 => decide); (case c2 => exact rfl); (case c3 => exact rfl); (case c4 => exact rfl); k_whole); intro D g L1 h1 FG F1 N1 B1 X1 T1 lD lD1 NT; (try k_lt lD); (try dsimp only)
  replace F1 : Fr g L1 h1 _ := lk2 ▸ F1
  all_goals (try k_fold)
  k_steps
  rename Fr _ _ _ _ => F2
  rename News _ _ _ _ => N2
  refine go ?_
  refine wpAny_call ?_; refine' kco_code ?k1 ?k2 ?k3 ?k4 ?k5 ?k6 ?_; (case k1 => k_in); (case k2 => k_inst); (case k3 => rfl); (case k4 => k_is); (case k5 => k_is); (case k6 => k_is)
  refine pcall_P2 B1 F2 X1 T1 rfl (by show dp + 1 + 40 < _; omega) (by show un + 3 + 500 < _; omega) S d t1 t2 tq (fun p hp => N2 p (.tail _ hp)) _ _ hx ?_
  intro r t k h3 tk3 hst hr hp
  have F3 := F2.keeps hst
  have N3 := N2.grown hst
  clear F2 N2
  have hrk : r.length = k := by
    have h1 := congrArg List.length hr
    rw [List.length_take, Nat.min_eq_left (hp.le _ (.head _))] at h1
    simpa [chs, Str.length] using h1
  have hk15 : k ≤ 15 := by
    have h1 := hp.le _ (.head _)
    have h2 : (chs x0.1).length = x0.1.length := by simp [chs, Str.length]
    have h3 := (hx x0 (by simp)).short
    omega
  k_steps
  rw [hrk]
  exact ret _ k _ _ (NT.back _ F3.keep fun p hp => (N3 p (.tail _ hp)).1) hp
end Mine
end

section
set_option maxRecDepth 100000
set_option Elab.async false
namespace Mine
open PySem PySem.W PySem.Spec PySem.Calls PyProof.Rows PySem.SeqAt

def LstEnd (G : Value → Array Value → Prop) (v : Value) (s₃ : Shared) (y : Value) (s₄ : Shared) : Prop := (∃ T its, y = .ref T ∧ s₃.heap.get? T = none ∧ s₄.heap.IsList T its ∧ G v its) ∧ Keeps s₃ s₄
theorem LstEnd.mk {G : Value → Array Value → Prop} {v : Value} {s₃ : Shared} {h' : Heap} {tk : Nat} {T : Addr} {its : Array Value} (h0 : s₃.heap.get? T = none) (hl : h'.IsList T its) (g : G v its) (k : s₃.heap.StaysIn h') : LstEnd G v s₃ (.ref T) { s₃ with heap := h', toks := tk } := ⟨⟨T, its, rfl, h0, hl, g⟩, _, _, rfl, k⟩

section
variable {prog : Program} {w : World} {A : Around} {E : Value → Shared → Prop} {s : Shared} {env : Env}

/-- a comprehension over a tuple whose members' answers are new lists -/
theorem comp_tupO {elt iter : Expr} {x : Str} {px : Pos} {scope : Scope} {cl : List (Str × Addr)} {pos : Pos} {Q : Value → Shared → Prop} {ax : Addr} {vs : List Value} (G : Value → Array Value → Prop)
    (hit : ∀ Q' : Value → Shared → Prop, Q' (.ref ax) s → wpAny (model prog w) A (eval iter env) Q' E s)
    (hl : s.heap.IsTuple ax vs.toArray) (hsz : vs.length ≤ sizeLine)
    (helt : ∀ C v s₃ m₃ E', s.heap.objs.size ≤ C → v ∈ vs → s₃.heap.Ns C m₃ → m₃ x = some v → s.heap.StaysIn s₃.heap →
      wpAny (model prog w) A (eval elt (compEnvC scope cl C env)) (LstEnd G v s₃) E' s₃)
    (hQ : ∀ D ys h' tk, s.heap.get? D = none → h'.PlainList D ys → Paired (LstIs s.heap G h') vs ys.toList → s.heap.StaysIn h' → Q (.ref D) { s with heap := h', toks := tk })
    (hclos : closureFor scope env = pure cl) (hcell : ∀ y ∈ scope.names, y.2 ≠ .cell) (hkind : scope.kind = .function)
    (hnames : ∀ y ∈ scope.names, y.2 = .local → scope.names.lookup y.1 = some .local) (hx : scope.names.lookup x = some .local)
    (hh : A.handled = none)
    (hs : ∀ x, foldedSetIterable iter env x = pure x := by intro _; rfl) :
    wpAny (model prog w) A (eval (.ListComp elt [⟨.Name x px, iter, [], 0⟩] scope pos) env) Q E s := by
  refine wpAny_ListComp_freeO (fun _ => true) G hclos hcell hkind hnames hx (hit _ ?_) hs
  have hlt : ax < s.heap.objs.size := by obtain ⟨_, e, _⟩ := hl; exact Heap.lt_size e
  have up : ∀ (s₃ : Shared), (∀ b o, b ∉ [s.heap.objs.size] → (s.heap.push { cls := .type "tuple_iterator", data := .fields #[.ref ax, .int 0 0] }).get? b = some o → s₃.heap.get? b = some o) → ∀ b o, s.heap.get? b = some o → s₃.heap.get? b = some o :=
    fun s₃ hk b o e => hk b o (fun hm => by rcases List.mem_cons.mp hm with rfl | hm; exact Nat.lt_irrefl _ (Heap.lt_size e); cases hm) (Heap.get?_push_of_some _ e)
  have hl' : (s.heap.push { cls := .type "tuple_iterator", data := .fields #[.ref ax, .int 0 0] }).IsTuple ax vs.toArray := by
    obtain ⟨o, ho, r⟩ := hl
    exact ⟨o, Heap.get?_push_of_some _ ho, r⟩
  refine wpAny_pyIter_tuple hl ⟨s.heap.objs.size, [s.heap.objs.size, ax], [s.heap.objs.size], vs.toArray.size, _, _, rfl, Walks.tuple hh _ _ (Nat.ne_of_lt hlt) vs.toArray, (by rw [List.size_toArray]; exact hsz), ?_, ⟨⟨_, Heap.get?_push_size _ rfl, rfl, rfl⟩, hl'⟩, ?_, ⟨?_, ?_⟩, ?_⟩
  · intro i h st b hb
    rw [List.mem_singleton.mp hb]
    obtain ⟨⟨o, ho, _⟩, _⟩ := st
    exact ⟨o, ho⟩
  · intro b hb
    show b < (s.heap.push _).objs.size
    rw [Heap.size_push]
    rcases List.mem_cons.mp hb with rfl | hb
    · exact Nat.lt_succ_self _
    · rcases List.mem_cons.mp hb with rfl | hb
      · exact Nat.lt_succ_of_lt hlt
      · cases hb
  · intro C i v s₃ m₃ E' hC hP hn hm hk _
    exact wpAny_tests_nil ⟨rfl, _, _, rfl, fun _ _ e => e⟩
  · intro C i v s₃ m₃ E' hC hP hp hn hm hk _
    have hmem : v ∈ vs := by simpa using Array.mem_of_getElem? hP
    exact helt C v s₃ m₃ E' (Nat.le_of_succ_le (by simpa [Heap.size_push] using hC)) hmem hn hm (up s₃ hk)
  · intro D h' tk ys vs' hnew hlD hplD hlen hP hF _ _ hk
    have e : vs' = vs := places (by simpa using hlen) (fun j v hj => by simpa using hP j v hj)
    subst e
    have old : ∀ b, (s.heap.push { cls := .type "tuple_iterator", data := .fields #[.ref ax, .int 0 0] }).get? b = none → s.heap.get? b = none := fun b hb => by
      cases q : s.heap.get? b with
      | none => rfl
      | some o => rw [Heap.get?_push_of_some _ q] at hb; cases hb
    rw [List.filter_eq_self.mpr (fun _ _ => rfl)] at hF
    exact hQ D ys h' tk (old D hnew) hplD (hF.mono fun _ _ hy => by obtain ⟨T, its, rfl, h1, h2⟩ := hy; exact ⟨T, its, rfl, old T h1, h2⟩) (up { s with heap := h' } hk)

theorem assign_tupO {elt iter : Expr} {x y : Str} {px py : Pos} {scope : Scope} {cl : List (Str × Addr)} {pos spos : Pos} {Q : Flow → Shared → Prop} {ax : Addr} {vs : List Value} {m : Str → Option Value} (G : Value → Array Value → Prop)
    (hn : s.heap.Ns env.locals m)
    (hit : ∀ Q' : Value → Shared → Prop, Q' (.ref ax) s → wpAny (model prog w) A (eval iter env) Q' E s)
    (hl : s.heap.IsTuple ax vs.toArray) (hsz : vs.length ≤ sizeLine)
    (helt : ∀ C v s₃ m₃ E', s.heap.objs.size ≤ C → v ∈ vs → s₃.heap.Ns C m₃ → m₃ x = some v → s.heap.StaysIn s₃.heap →
      wpAny (model prog w) A (eval elt (compEnvC scope cl C env)) (LstEnd G v s₃) E' s₃)
    (hQ : ∀ D ys h' tk, s.heap.get? D = none → h'.PlainList D ys → Paired (LstIs s.heap G h') vs ys.toList → h'.Ns env.locals (fun z => if z = y then some (.ref D) else m z) → (∀ b o, b ≠ env.locals → s.heap.get? b = some o → h'.get? b = some o) → Q .next { s with heap := h', toks := tk })
    (hsw : swapsWith (.ListComp elt [⟨.Name x px, iter, [], 0⟩] scope pos) (some (.Name y py)) spos.line env = pure true)
    (hclos : closureFor scope env = pure cl) (hcell : ∀ y ∈ scope.names, y.2 ≠ .cell) (hkind : scope.kind = .function)
    (hnames : ∀ y ∈ scope.names, y.2 = .local → scope.names.lookup y.1 = some .local) (hx : scope.names.lookup x = some .local)
    (hy : env.kindOf y = some .local) (hp : (env.scope.kind == .class || (env.scope.kind == .module && env.locals != env.globals)) = false)
    (hh : A.handled = none)
    (hs : ∀ x, foldedSetIterable iter env x = pure x := by intro _; rfl) :
    wpAny (model prog w) A (exec (.Assign [.Name y py] (.ListComp elt [⟨.Name x px, iter, [], 0⟩] scope pos) spos) env) Q E s := by
  rw [exec_Assign_Name_used _ _ _ _ hsw]
  refine wpAny_bind (wpAny_standAt (wpAny_bind ?_))
  show wpAny _ A (do let _ ← comprehension (.ListComp elt [⟨.Name x px, iter, [], 0⟩] scope pos) scope env _ (newList []) false (eval iter env) (some (assign (.Name y py) env))) _ _ s
  refine wpAny_bind (wpAny_mono (wpAny_comprehension_free (use := some (assign (.Name y py) env)) (Q := fun _ s' => Q .next s') rfl hs hclos hkind hnames
    (hit _ ?_)) (fun _ s' hq => wpAny_pure (wpAny_pure hq)) fun _ _ e => e)
  have hlt : ax < s.heap.objs.size := by obtain ⟨_, e, _⟩ := hl; exact Heap.lt_size e
  have up : ∀ (s₃ : Shared), (∀ b o, b ∉ [s.heap.objs.size] → (s.heap.push { cls := .type "tuple_iterator", data := .fields #[.ref ax, .int 0 0] }).get? b = some o → s₃.heap.get? b = some o) → ∀ b o, s.heap.get? b = some o → s₃.heap.get? b = some o :=
    fun s₃ hk b o e => hk b o (fun hm => by rcases List.mem_cons.mp hm with rfl | hm; exact Nat.lt_irrefl _ (Heap.lt_size e); cases hm) (Heap.get?_push_of_some _ e)
  have hl' : (s.heap.push { cls := .type "tuple_iterator", data := .fields #[.ref ax, .int 0 0] }).IsTuple ax vs.toArray := by
    obtain ⟨o, ho, r⟩ := hl
    exact ⟨o, Heap.get?_push_of_some _ ho, r⟩
  have old : ∀ b, (s.heap.push { cls := .type "tuple_iterator", data := .fields #[.ref ax, .int 0 0] }).get? b = none → s.heap.get? b = none := fun b hb => by
    cases q : s.heap.get? b with
    | none => rfl
    | some o => rw [Heap.get?_push_of_some _ q] at hb; cases hb
  have hLn : ∃ o, s.heap.get? env.locals = some o := by obtain ⟨o, _, _, ho, _⟩ := hn; exact ⟨o, ho⟩
  refine wpAny_pyIter_tuple hl (comp_block_walkCO (RR := fun acc C => compPost (model prog w) A E (some (assign (.Name y py) env)) (fun _ s' => Q .next s') acc C) (Walks.tuple hh s.heap.objs.size ax (Nat.ne_of_lt hlt) vs.toArray) (by rw [List.size_toArray]; exact hsz) (fun _ => true) G ?_ hcell hkind hx ⟨⟨_, Heap.get?_push_size _ rfl, rfl, rfl⟩, hl'⟩ ?_ ⟨?_, ?_⟩ ?_)
  · intro i h st b hb
    rw [List.mem_singleton.mp hb]
    obtain ⟨⟨o, ho, _⟩, _⟩ := st
    exact ⟨o, ho⟩
  · intro b hb
    show b < (s.heap.push _).objs.size
    rw [Heap.size_push]
    rcases List.mem_cons.mp hb with rfl | hb
    · exact Nat.lt_succ_self _
    · rcases List.mem_cons.mp hb with rfl | hb
      · exact Nat.lt_succ_of_lt hlt
      · cases hb
  · intro C i v s₃ m₃ E' hC hP hn hm hk _
    exact wpAny_tests_nil ⟨rfl, _, _, rfl, fun _ _ e => e⟩
  · intro C i v s₃ m₃ E' hC hP hp hn hm hk _
    have hmem : v ∈ vs := by simpa using Array.mem_of_getElem? hP
    exact helt C v s₃ m₃ E' (Nat.le_of_succ_le (by simpa [Heap.size_push] using hC)) hmem hn hm (up s₃ hk)
  · intro D C h' tk m' ys vs' hD hC hDC hnC hlD hplD hlen hP hF _ hk
    have hLC : env.locals ≠ C := by obtain ⟨o, ho⟩ := hLn; rintro rfl; rw [Heap.get?_push_of_some _ ho] at hC; cases hC
    have hLD : env.locals ≠ D := by obtain ⟨o, ho⟩ := hLn; rintro rfl; rw [Heap.get?_push_of_some _ ho] at hD; cases hD
    have e : vs' = vs := places (by simpa using hlen) (fun j v hj => by simpa using hP j v hj)
    subst e
    rw [List.filter_eq_self.mpr (fun _ _ => rfl)] at hF
    have keep := up { s with heap := h' } hk
    show wpAny _ A (assign (.Name y py) env (.ref D)) _ _ _
    refine wpAny_assign_Name (wpAny_storeName_local hy (hn.at' fun o e => keep _ o e) (fun h₂ hn₂ hs₂ => ?_) hp)
    refine ⟨m', hnC.sameBut hs₂ (Ne.symm hLC), fun h₃ hs₃ => ?_⟩
    refine hQ D ys h₃ _ (old D hD) ((hplD.extBut hs₂.extBut (Ne.symm hLD)).extBut hs₃.extBut hDC) (hF.mono fun _ _ hy => ?_) (hn₂.sameBut hs₃ hLC) fun b o hbL e =>
      hs₃.extBut b o (by rintro rfl; rw [old _ hC] at e; cases e) (hs₂.extBut b o hbL (keep b o e))
    obtain ⟨T, its, rfl, h1, hTC, _, _, hlT, hG⟩ := hy
    have hTL : T ≠ env.locals := by obtain ⟨o, ho⟩ := hLn; rintro rfl; rw [Heap.get?_push_of_some _ ho] at h1; cases h1
    exact ⟨T, its, rfl, old T h1, (hlT.extBut hs₂.extBut hTL).extBut hs₃.extBut hTC, hG⟩
end
end Mine
end

section
theorem Mine.calm_TCall : True := by
  w_top off
  trivial
open PySem PySem.SeqAt PySem.W PyProof.Rows PySem.Spec PySem.Calls
set_option Elab.async false
namespace Mine

local macro_rules | `(tactic| walk_at "call ref") => `(tactic| refine halt ?_)
local macro_rules | `(tactic| walk_at "exec Assign cons ListComp") => `(tactic| refine halt ?_)
local macro_rules | `(tactic| walk_at "eval ListComp") => `(tactic| refine halt ?_)
local macro_rules | `(tactic| walk_at "eval Name") => `(tactic| ((with_reducible show wpAny _ _ (eval (Expr.Name _ _) (compEnvC _ _ _ _)) _ _ _); (refine' name_comp ?F ?m ?_ ?a ?b ?c; (case F => assumption); (case m => assumption); (case a => rfl); (case b => rfl); (case c => decide))))
local macro_rules | `(tactic| walk_at "call type:reversed") => `(tactic| ((with_reducible show wpAny _ _ (call _ [Value.str _ _]) _ _ _); refine halt ?_))
local macro_rules | `(tactic| walk_at "call type:list") => `(tactic| refine halt ?_)
local macro_rules | `(tactic| walk_at "call builtin:str.join") => `(tactic| refine halt ?_)

/-- what the turned text's list is -/
def RevG (v : Value) (its : Array Value) : Prop := ∃ x t, v = Value.str x t ∧ Lets its.toList (chs x).reverse
theorem fr_stored {g h h' : Heap} {L : Addr} {m m' : Str → Option Value} (F : Fr g L h m) (hn : h'.Ns L m') (hk : ∀ b o, b ≠ L → h.get? b = some o → h'.get? b = some o) : Fr g L h' m' :=
  ⟨hn, fun b o e => hk b o (Nat.ne_of_lt (Nat.lt_of_lt_of_le (Heap.lt_size e) F.above)) (F.keep b o e), F.above⟩
theorem news_stored {g h h' : Heap} {L : Addr} {nx : List (Addr × Obj)} (N : News g L h nx) (hk : ∀ b o, b ≠ L → h.get? b = some o → h'.get? b = some o) : News g L h' nx :=
  fun p hp => ⟨hk _ _ (N p hp).2.1 (N p hp).1, (N p hp).2⟩
theorem news_put {g h h' : Heap} {L T : Addr} {o : Obj} {m : Str → Option Value} {nx : List (Addr × Obj)} (F : Fr g L h m) (N : News g L h' nx) (h0 : h.get? T = none) (ho : h'.get? T = some o) : News g L h' ((T, o) :: nx) := fun p hp => by
  rcases List.mem_cons.mp hp with rfl | hp
  · refine ⟨ho, fun e => ?_, ?_⟩
    · obtain ⟨_, _, _, hL, _⟩ := F.ns
      have e : T = L := e
      rw [← e, h0] at hL; cases hL
    · cases q : g.get? T with
      | none => rfl
      | some o' => have := F.keep _ _ q; rw [h0] at this; cases this
  · exact N p hp

set_option maxRecDepth 100000 in
set_option maxHeartbeats 8000000 in

theorem tcall_T2 {w : World} {p : Program} {loose : List Str} {mean : ExcName → Option Value} {mg mb : Str → Option Value}
    {dp un : Nat} {gd : Option (List Code)} {cn : Str} {cs : Scope} {a : Addr} {ccd : Value} {cl : List (Str × Addr)} {outer : List Env} {A₀ : Around} {base h₀ : Heap} {L : Addr} {m : Str → Option Value} {s : Shared}
    {Q E : Value → Shared → Prop} (B : Below A₀ base outer h₀) (F : Fr h₀ L s.heap m) (X : (hd.heap_39 w.params).In h₀) (T : Top p loose mean mg mb h₀) (hk : cs.kind = .function)
    (hd : dp + 40 < recursionLimit) (hu : un + 500 < cLine)
  (S d : Addr) (t1 t2 tq : Tok) (N : News h₀ L s.heap [(S, instObj 279 d), (d, dictOf [⟨PyData.keyHash w.params (Str.ofString "qval"), .str (Str.ofString "qval") t1, .int 1 tq⟩, ⟨PyData.keyHash w.params (Str.ofString "sim_test"), .str (Str.ofString "sim_test") t2, .ref 100⟩] 2)]) (x0 x1 : Str × Tok) (hx : ∀ x ∈ [x0, x1], Low x.1)
  (ret : ∀ (r : Str) t k h' tk', s.heap.StaysIn h' → chs r = ((chs x0.1).reverse.take k).reverse → Pre (chs x0.1).reverse [(chs x1.1).reverse] k → Q (.str r t) { s with heap := h', toks := tk' }) :
  codeAny (model PySem.Challenge.rw_fu0023_01.row.prog w) (ktrTop dp un gd cn cs L a ccd cl outer) (.call (.ref 276) ⟨[.ref S, .str x0.1 x0.2, .str x1.1 x1.2], []⟩) (fun r s' => match r with | .ok (.ret v) => Q v s' | .ok _ => False | .error e => E e s') s := by
  revert X; k_fill; intro X
  k_dflt (refine' enter_rest ?k1 ?k2 ?k3 ?k4 ?k5 ?kA ?kF ?kK ?k6 ?k7 ?k8 ?kV ?kP ?kG ?kB ?_ ?c2 ?c3 ?c4 ?c5; (case kA => exact rfl); (case kF => exact rfl); (case kK => first | exact rfl | assumption); (case k1 => k_asm); (case k2 => k_asm); (case k3 => k_asm); (case k4 => k_asm); (case k5 => k_asm); (case k6 => k_is); (case k7 => k_is); (case k8 => ktr_room); (case kV => first | kl_lit | exact rfl); (case kP => exact rfl); (case kG => exact fun _ => rfl); (case kB => exact fun _ => locs rfl); (case c5 => decide); (case c2 => exact rfl); (case c3 => exact rfl); (case c4 => exact rfl); k_whole); intro D g L1 h1 FG F1 N1 B1 X1 T1 lD lD1 NT; (try k_lt lD); (try dsimp only)
  replace F1 : Fr g L1 h1 _ := lk2 ▸ F1
  all_goals (try k_fold)
  k_steps
  rename Fr _ _ _ _ => F2
  rename News _ _ _ _ => N2
  refine go (assign_tupO (ax := D) (vs := [.str x0.1 x0.2, .str x1.1 x1.2]) RevG F2.ns ?hit ?hl ?hsz ?elt ?hQ rfl rfl (by decide) rfl (by decide) rfl rfl rfl rfl)
  case hit => intro Q' hq; k_steps; exact hq
  case hl => exact ⟨_, (N2 _ (.head _)).1, rfl, _, rfl⟩
  case hsz => exact Nat.le_of_ble_eq_true rfl
  case elt =>
    intro C v s3 m3 E' hC hv hn3 hm hk3
    obtain ⟨F3, N3⟩ := in_comp F2 N2 hC hn3 hk3
    obtain ⟨x, hx1, rfl⟩ : ∃ x : Str × Tok, x ∈ [x0, x1] ∧ v = .str x.1 x.2 := by
      simp only [List.mem_cons, List.not_mem_nil, or_false] at hv
      rcases hv with rfl | rfl
      · exact ⟨x0, by simp, rfl⟩
      · exact ⟨x1, by simp, rfl⟩

    have hlen := (hx x hx1).short
    clear F2 N2
    k_steps
    refine go (call_reversed_str (by omega) ?_)
    k_steps
    refine go (list_rev_str rfl (by omega) ⟨_, Heap.get?_push_size _ rfl, rfl, rfl⟩ ?_)
    intro h4 tk4 acc c hk4 hD4 hls
    k_steps
    refine .mk ?_ ⟨_, hD4, rfl, _, rfl⟩ ⟨x.1, x.2, rfl, hls⟩ fun b o e => hk4 b o (Nat.ne_of_lt (Heap.lt_size e)) (Heap.get?_push_of_some _ e)
    cases q : s3.heap.get? (s3.heap.push (revTxt x.1 x.2 ((x.1.length : Int) - 1))).objs.size with
    | none => rfl
    | some o => have := Heap.lt_size q; rw [Heap.size_push] at this; exact absurd this (Nat.not_lt_of_le (Nat.le_succ _))
  intro R ys h3 tk3 hR hpl hys hns hk3
  obtain ⟨ep, hpl⟩ := hpl
  obtain ⟨y0, y1, e9, hy0, hy1⟩ := paired_two hys
  obtain rfl : ys = #[y0, y1] := by
    have := congrArg List.toArray e9
    simpa using this
  obtain ⟨W0, is0, rfl, hT0, hi0, z0, tz0, ez0, hL0⟩ := hy0
  cases ez0
  obtain ⟨o0, ho0, hc0, n0, hd0⟩ := hi0
  obtain ⟨W1, is1, rfl, hT1, hi1, z1, tz1, ez1, hL1⟩ := hy1
  cases ez1
  obtain ⟨o1, ho1, hc1, n1, hd1⟩ := hi1
  have F3 := fr_stored F2 hns hk3
  have N3 := news_put F2 (news_put F2 (news_put F2 (news_stored N2 hk3) hR hpl) hT1 ho1) hT0 ho0
  clear F2 N2
  k_steps
  rename Fr _ _ _ _ => F4
  rename News _ _ _ _ => N4
  refine go (call_meth N4 (.head _) ?_)
  have hc15 : (chs x0.1).reverse.length ≤ 15 := by
    have h2 : (chs x0.1).length = x0.1.length := by simp [chs, Str.length]
    have h3 := (hx x0 (by simp)).short
    rw [List.length_reverse]
    omega
  refine begin_T2 B1 F4 X1 T1 rfl (by show dp + 1 + 30 < _; omega) (by show un + 3 + 400 < _; omega) S d t1 t2 tq (fun p hp => N4 p (.tail _ (.tail _ (.tail _ (.tail _ (.tail _ (hp))))))) W0 W1 is0.toList is1.toList (chs x0.1).reverse (chs x1.1).reverse ⟨o0, (N4 _ (.tail _ (.head _))).1, hc0, n0, hd0⟩ hL0 ⟨o1, (N4 _ (.tail _ (.tail _ (.head _)))).1, hc1, n1, hd1⟩ hL1 hc15 ?_
  intro r items c k h5 tk5 hst hr0 hr hits hpre
  obtain ⟨F5, N5, hne⟩ := news_made F4 N4 hst hr0 hr
  replace hne := allNe_of hne; simp only [AllNe, and_true] at hne
  clear F4 N4
  k_steps
  rename Fr _ _ _ _ => F6
  rename News _ _ _ _ => N6
  refine go (join_rev rfl (by decide) (by rw [List.length_take]; omega) ⟨_, (N6 _ (.head _)).1, rfl, rfl⟩ ⟨_, (N6 _ (.tail _ (.head _))).1, rfl, _, rfl⟩ hits ?_)
  intro h6 t6 k6 hk6
  k_steps
  refine ret _ _ k _ _ (NT.back _ (fun b o e => hk6 b o (fun q => by rw [q, (N6 _ (.head _)).2.2] at e; cases e) (F6.keep b o e)) fun p hp => hk6 _ _ (fun q => ?_) (N6 p (.tail _ (.tail _ (.tail _ (.tail _ (.tail _ (.tail _ (.tail _ (hp))))))))).1) (join_ones _) hpre
  simp only [List.mem_cons, List.not_mem_nil, or_false] at hp
  rcases hp with rfl | rfl
  · have q : @Eq Nat S _ := q
    omega
  · have q : @Eq Nat d _ := q
    omega
set_option maxRecDepth 100000 in
set_option maxHeartbeats 8000000 in

theorem tcall_T3 {w : World} {p : Program} {loose : List Str} {mean : ExcName → Option Value} {mg mb : Str → Option Value}
    {dp un : Nat} {gd : Option (List Code)} {cn : Str} {cs : Scope} {a : Addr} {ccd : Value} {cl : List (Str × Addr)} {outer : List Env} {A₀ : Around} {base h₀ : Heap} {L : Addr} {m : Str → Option Value} {s : Shared}
    {Q E : Value → Shared → Prop} (B : Below A₀ base outer h₀) (F : Fr h₀ L s.heap m) (X : (hd.heap_39 w.params).In h₀) (T : Top p loose mean mg mb h₀) (hk : cs.kind = .function)
    (hd : dp + 40 < recursionLimit) (hu : un + 500 < cLine)
  (S d : Addr) (t1 t2 tq : Tok) (N : News h₀ L s.heap [(S, instObj 279 d), (d, dictOf [⟨PyData.keyHash w.params (Str.ofString "qval"), .str (Str.ofString "qval") t1, .int 1 tq⟩, ⟨PyData.keyHash w.params (Str.ofString "sim_test"), .str (Str.ofString "sim_test") t2, .ref 100⟩] 2)]) (x0 x1 x2 : Str × Tok) (hx : ∀ x ∈ [x0, x1, x2], Low x.1)
  (ret : ∀ (r : Str) t k h' tk', s.heap.StaysIn h' → chs r = ((chs x0.1).reverse.take k).reverse → Pre (chs x0.1).reverse [(chs x1.1).reverse, (chs x2.1).reverse] k → Q (.str r t) { s with heap := h', toks := tk' }) :
  codeAny (model PySem.Challenge.rw_fu0023_01.row.prog w) (ktrTop dp un gd cn cs L a ccd cl outer) (.call (.ref 276) ⟨[.ref S, .str x0.1 x0.2, .str x1.1 x1.2, .str x2.1 x2.2], []⟩) (fun r s' => match r with | .ok (.ret v) => Q v s' | .ok _ => False | .error e => E e s') s := by
  revert X; k_fill; intro X
  k_dflt (refine' enter_rest ?k1 ?k2 ?k3 ?k4 ?k5 ?kA ?kF ?kK ?k6 ?k7 ?k8 ?kV ?kP ?kG ?kB ?_ ?c2 ?c3 ?c4 ?c5; (case kA => exact rfl); (case kF => exact rfl); (case kK => first | exact rfl | assumption); (case k1 => k_asm); (case k2 => k_asm); (case k3 => k_asm); (case k4 => k_asm); (case k5 => k_asm); (case k6 => k_is); (case k7 => k_is); (case k8 => ktr_room); (case kV => first | kl_lit | exact rfl); (case kP => exact rfl); (case kG => exact fun _ => rfl); (case kB => exact fun _ => locs rfl); (case c5 => decide); (case c2 => exact rfl); (case c3 => exact rfl); (case c4 => exact rfl); k_whole); intro D g L1 h1 FG F1 N1 B1 X1 T1 lD lD1 NT; (try k_lt lD); (try dsimp only)
  replace F1 : Fr g L1 h1 _ := lk2 ▸ F1
  all_goals (try k_fold)
  k_steps
  rename Fr _ _ _ _ => F2
  rename News _ _ _ _ => N2
  refine go (assign_tupO (ax := D) (vs := [.str x0.1 x0.2, .str x1.1 x1.2, .str x2.1 x2.2]) RevG F2.ns ?hit ?hl ?hsz ?elt ?hQ rfl rfl (by decide) rfl (by decide) rfl rfl rfl rfl)
  case hit => intro Q' hq; k_steps; exact hq
  case hl => exact ⟨_, (N2 _ (.head _)).1, rfl, _, rfl⟩
  case hsz => exact Nat.le_of_ble_eq_true rfl
  case elt =>
    intro C v s3 m3 E' hC hv hn3 hm hk3
    obtain ⟨F3, N3⟩ := in_comp F2 N2 hC hn3 hk3
    obtain ⟨x, hx1, rfl⟩ : ∃ x : Str × Tok, x ∈ [x0, x1, x2] ∧ v = .str x.1 x.2 := by
      simp only [List.mem_cons, List.not_mem_nil, or_false] at hv
      rcases hv with rfl | rfl | rfl
      · exact ⟨x0, by simp, rfl⟩
      · exact ⟨x1, by simp, rfl⟩
      · exact ⟨x2, by simp, rfl⟩

    have hlen := (hx x hx1).short
    clear F2 N2
    k_steps
    refine go (call_reversed_str (by omega) ?_)
    k_steps
    refine go (list_rev_str rfl (by omega) ⟨_, Heap.get?_push_size _ rfl, rfl, rfl⟩ ?_)
    intro h4 tk4 acc c hk4 hD4 hls
    k_steps
    refine .mk ?_ ⟨_, hD4, rfl, _, rfl⟩ ⟨x.1, x.2, rfl, hls⟩ fun b o e => hk4 b o (Nat.ne_of_lt (Heap.lt_size e)) (Heap.get?_push_of_some _ e)
    cases q : s3.heap.get? (s3.heap.push (revTxt x.1 x.2 ((x.1.length : Int) - 1))).objs.size with
    | none => rfl
    | some o => have := Heap.lt_size q; rw [Heap.size_push] at this; exact absurd this (Nat.not_lt_of_le (Nat.le_succ _))
  intro R ys h3 tk3 hR hpl hys hns hk3
  obtain ⟨ep, hpl⟩ := hpl
  obtain ⟨y0, y1, y2, e9, hy0, hy1, hy2⟩ := paired_three hys
  obtain rfl : ys = #[y0, y1, y2] := by
    have := congrArg List.toArray e9
    simpa using this
  obtain ⟨W0, is0, rfl, hT0, hi0, z0, tz0, ez0, hL0⟩ := hy0
  cases ez0
  obtain ⟨o0, ho0, hc0, n0, hd0⟩ := hi0
  obtain ⟨W1, is1, rfl, hT1, hi1, z1, tz1, ez1, hL1⟩ := hy1
  cases ez1
  obtain ⟨o1, ho1, hc1, n1, hd1⟩ := hi1
  obtain ⟨W2, is2, rfl, hT2, hi2, z2, tz2, ez2, hL2⟩ := hy2
  cases ez2
  obtain ⟨o2, ho2, hc2, n2, hd2⟩ := hi2
  have F3 := fr_stored F2 hns hk3
  have N3 := news_put F2 (news_put F2 (news_put F2 (news_put F2 (news_stored N2 hk3) hR hpl) hT2 ho2) hT1 ho1) hT0 ho0
  clear F2 N2
  k_steps
  rename Fr _ _ _ _ => F4
  rename News _ _ _ _ => N4
  refine go (call_meth N4 (.head _) ?_)
  have hc15 : (chs x0.1).reverse.length ≤ 15 := by
    have h2 : (chs x0.1).length = x0.1.length := by simp [chs, Str.length]
    have h3 := (hx x0 (by simp)).short
    rw [List.length_reverse]
    omega
  refine begin_T3 B1 F4 X1 T1 rfl (by show dp + 1 + 30 < _; omega) (by show un + 3 + 400 < _; omega) S d t1 t2 tq (fun p hp => N4 p (.tail _ (.tail _ (.tail _ (.tail _ (.tail _ (.tail _ (hp)))))))) W0 W1 W2 is0.toList is1.toList is2.toList (chs x0.1).reverse (chs x1.1).reverse (chs x2.1).reverse ⟨o0, (N4 _ (.tail _ (.head _))).1, hc0, n0, hd0⟩ hL0 ⟨o1, (N4 _ (.tail _ (.tail _ (.head _)))).1, hc1, n1, hd1⟩ hL1 ⟨o2, (N4 _ (.tail _ (.tail _ (.tail _ (.head _))))).1, hc2, n2, hd2⟩ hL2 hc15 ?_
  intro r items c k h5 tk5 hst hr0 hr hits hpre
  obtain ⟨F5, N5, hne⟩ := news_made F4 N4 hst hr0 hr
  replace hne := allNe_of hne; simp only [AllNe, and_true] at hne
  clear F4 N4
  k_steps
  rename Fr _ _ _ _ => F6
  rename News _ _ _ _ => N6
  refine go (join_rev rfl (by decide) (by rw [List.length_take]; omega) ⟨_, (N6 _ (.head _)).1, rfl, rfl⟩ ⟨_, (N6 _ (.tail _ (.head _))).1, rfl, _, rfl⟩ hits ?_)
  intro h6 t6 k6 hk6
  k_steps
  refine ret _ _ k _ _ (NT.back _ (fun b o e => hk6 b o (fun q => by rw [q, (N6 _ (.head _)).2.2] at e; cases e) (F6.keep b o e)) fun p hp => hk6 _ _ (fun q => ?_) (N6 p (.tail _ (.tail _ (.tail _ (.tail _ (.tail _ (.tail _ (.tail _ (.tail _ (hp)))))))))).1) (join_ones _) hpre
  simp only [List.mem_cons, List.not_mem_nil, or_false] at hp
  rcases hp with rfl | rfl
  · have q : @Eq Nat S _ := q
    omega
  · have q : @Eq Nat d _ := q
    omega
set_option maxRecDepth 100000 in
set_option maxHeartbeats 8000000 in

theorem tsim_T2 {w : World} {p : Program} {loose : List Str} {mean : ExcName → Option Value} {mg mb : Str → Option Value}
    {dp un : Nat} {gd : Option (List Code)} {cn : Str} {cs : Scope} {a : Addr} {ccd : Value} {cl : List (Str × Addr)} {outer : List Env} {A₀ : Around} {base h₀ : Heap} {L : Addr} {m : Str → Option Value} {s : Shared}
    {Q E : Value → Shared → Prop} (B : Below A₀ base outer h₀) (F : Fr h₀ L s.heap m) (X : (hd.heap_39 w.params).In h₀) (T : Top p loose mean mg mb h₀) (hk : cs.kind = .function)
    (hd : dp + 50 < recursionLimit) (hu : un + 600 < cLine)
  (S d : Addr) (t1 t2 tq : Tok) (N : News h₀ L s.heap [(S, instObj 279 d), (d, dictOf [⟨PyData.keyHash w.params (Str.ofString "qval"), .str (Str.ofString "qval") t1, .int 1 tq⟩, ⟨PyData.keyHash w.params (Str.ofString "sim_test"), .str (Str.ofString "sim_test") t2, .ref 100⟩] 2)]) (x0 x1 : Str × Tok) (hx : ∀ x ∈ [x0, x1], Low x.1)
  (ret : ∀ t (k : Nat) h' tk', s.heap.StaysIn h' → Pre (chs x0.1).reverse [(chs x1.1).reverse] k → Q (.int k t) { s with heap := h', toks := tk' }) :
  codeAny (model PySem.Challenge.rw_fu0023_01.row.prog w) (ktrTop dp un gd cn cs L a ccd cl outer) (.call (.ref 259) ⟨[.ref S, .str x0.1 x0.2, .str x1.1 x1.2], []⟩) (fun r s' => match r with | .ok (.ret v) => Q v s' | .ok _ => False | .error e => E e s') s := by
  revert X; k_fill; intro X
  k_dflt (refine' enter_rest ?k1 ?k2 ?k3 ?k4 ?k5 ?kA ?kF ?kK ?k6 ?k7 ?k8 ?kV ?kP ?kG ?kB ?_ ?c2 ?c3 ?c4 ?c5; (case kA => exact rfl); (case kF => exact rfl); (case kK => first | exact rfl | assumption); (case k1 => k_asm); (case k2 => k_asm); (case k3 => k_asm); (case k4 => k_asm); (case k5 => k_asm); (case k6 => k_is); (case k7 => k_is); (case k8 => ktr_room); (case kV => first | kl_lit | exact rfl); (case kP => exact rfl); (case kG => exact fun _ => rfl); (case kB => exact fun _ => locs rfl); (case c5 => decide); (case c2 => exact rfl); (case c3 => exact rfl); (case c4 => exact rfl); k_whole); intro D g L1 h1 FG F1 N1 B1 X1 T1 lD lD1 NT; (try k_lt lD); (try dsimp only)
  replace F1 : Fr g L1 h1 _ := lk2 ▸ F1
  all_goals (try k_fold)
  k_steps
  rename Fr _ _ _ _ => F2
  rename News _ _ _ _ => N2
  refine go ?_
  refine wpAny_call ?_; refine' kco_code ?k1 ?k2 ?k3 ?k4 ?k5 ?k6 ?_; (case k1 => k_in); (case k2 => k_inst); (case k3 => rfl); (case k4 => k_is); (case k5 => k_is); (case k6 => k_is)
  refine tcall_T2 B1 F2 X1 T1 rfl (by show dp + 1 + 40 < _; omega) (by show un + 3 + 500 < _; omega) S d t1 t2 tq (fun p hp => N2 p (.tail _ hp)) _ _ hx ?_
  intro r t k h3 tk3 hst hr hp
  have F3 := F2.keeps hst
  have N3 := N2.grown hst
  clear F2 N2
  have hrk : r.length = k := by
    have h1 := congrArg List.length hr
    rw [List.length_reverse, List.length_take, Nat.min_eq_left (hp.le _ (.head _))] at h1
    simpa [chs, Str.length] using h1
  have hk15 : k ≤ 15 := by
    have h1 := hp.le _ (.head _)
    have h2 : (chs x0.1).length = x0.1.length := by simp [chs, Str.length]
    have h3 := (hx x0 (by simp)).short
    rw [List.length_reverse] at h1
    omega
  k_steps
  rw [hrk]
  exact ret _ k _ _ (NT.back _ F3.keep fun p hp => (N3 p (.tail _ hp)).1) hp
end Mine
end

section
set_option maxRecDepth 100000
set_option Elab.async false
namespace Mine
open PySem PySem.W PySem.Spec PySem.Calls PyProof.Rows

/-- n letters from a on in c are those from b on in d -/
def Mt (c d : List Nat) (a b n : Nat) : Prop := a + n ≤ c.length ∧ b + n ≤ d.length ∧ ∀ i, i < n → c[a + i]? = d[b + i]?
theorem Mt.zero {c d : List Nat} {a b : Nat} (h1 : a ≤ c.length) (h2 : b ≤ d.length) : Mt c d a b 0 := ⟨h1, h2, fun i hi => absurd hi (Nat.not_lt_zero _)⟩
theorem Mt.succ {c d : List Nat} {a b n : Nat} (h : Mt c d a b n) (h1 : a + n < c.length) (h2 : b + n < d.length) (e : c[a + n]? = d[b + n]?) : Mt c d a b (n + 1) :=
  ⟨by omega, by omega, fun i hi => by rcases Nat.lt_succ_iff_lt_or_eq.mp hi with h' | rfl; (exact h.2.2 i h'); (exact e)⟩
theorem Mt.le {c d : List Nat} {a b n m : Nat} (h : Mt c d a b n) (hm : m ≤ n) : Mt c d a b m := ⟨by have := h.1; omega, by have := h.2.1; omega, fun i hi => h.2.2 i (by omega)⟩
/-- k is how far the two agree from a and b on -/
structure Far (c d : List Nat) (a b k : Nat) : Prop where
  mt : Mt c d a b k
  no : ∀ n, Mt c d a b n → n ≤ k
theorem Far.of {c d : List Nat} {a b k : Nat} (h : Mt c d a b k) (h2 : ¬ Mt c d a b (k + 1)) : Far c d a b k := ⟨h, fun n hn => by
  rcases Nat.lt_or_ge k n with h3 | h3
  · exact absurd (hn.le h3) h2
  · exact h3⟩
structure Bst (c d : List Nat) (p b : Nat) (don : Nat → Nat → Prop) : Prop where
  has : b = 0 ∧ p = 0 ∨ ∃ j, Mt c d p j b
  no : ∀ i j, don i j → ∀ n, Mt c d i j n → n ≤ b
theorem Bst.keep {c d : List Nat} {p b i j k : Nat} {don don' : Nat → Nat → Prop} (h : Bst c d p b don) (f : Far c d i j k) (hk : k ≤ b) (hd : ∀ x y, don' x y → don x y ∨ (x = i ∧ y = j)) : Bst c d p b don' :=
  ⟨h.has, fun x y hxy n hn => by
    rcases hd x y hxy with h' | ⟨rfl, rfl⟩
    · exact h.no x y h' n hn
    · exact Nat.le_trans (f.no n hn) hk⟩
theorem Bst.more {c d : List Nat} {p b i j k : Nat} {don don' : Nat → Nat → Prop} (h : Bst c d p b don) (f : Far c d i j k) (hk : b < k) (hd : ∀ x y, don' x y → don x y ∨ (x = i ∧ y = j)) : Bst c d i k don' :=
  ⟨.inr ⟨j, f.mt⟩, fun x y hxy n hn => by
    rcases hd x y hxy with h' | ⟨rfl, rfl⟩
    · exact Nat.le_of_lt (Nat.lt_of_le_of_lt (h.no x y h' n hn) hk)
    · exact f.no n hn⟩
theorem Bst.sub {c d : List Nat} {p b : Nat} {don don' : Nat → Nat → Prop} (h : Bst c d p b don) (hd : ∀ x y, don' x y → don x y ∨ c.length ≤ x ∨ d.length ≤ y) : Bst c d p b don' :=
  ⟨h.has, fun x y hxy n hn => by
    rcases hd x y hxy with h' | h' | h'
    · exact h.no x y h' n hn
    · have := hn.1; omega
    · have := hn.2.1; omega⟩
theorem item_eq {x y : Str} {i j : Nat} (hi : i < x.length) (hj : j < y.length) : (Txt.item x (i : Int) = Txt.item y (j : Int)) ↔ (chs x)[i]? = (chs y)[j]? := by
  have h1 := item_pos hi
  have h2 := item_pos hj
  have li : i < (chs x).length := by have h' : i < x.cps.size := hi; simpa using h'
  have lj : j < (chs y).length := by have h' : j < y.cps.size := hj; simpa using h'
  rw [List.getElem?_eq_getElem li, List.getElem?_eq_getElem lj]
  constructor
  · intro e
    rw [e, h2] at h1
    have := List.head_eq_of_cons_eq h1
    rw [this]
  · intro e
    have e : (chs x)[i] = (chs y)[j] := Option.some.inj e
    have : (Txt.item x (i : Int)).cps.toList = (Txt.item y (j : Int)).cps.toList := by rw [h1, h2, e]
    cases hx : Txt.item x (i : Int) with
    | mk a =>
      cases hy : Txt.item y (j : Int) with
      | mk b =>
        rw [hx, hy] at this
        exact congrArg Str.mk (Array.toList_inj.mp this)
theorem chs_len (x : Str) : (chs x).length = x.length := by simp [chs, Str.length]
end Mine
end

section
theorem Mine.calm_Standart : True := by
  w_top off
  trivial
open PySem PySem.SeqAt PySem.W PyProof.Rows PySem.Spec PySem.Calls
set_option Elab.async false
namespace Mine

local macro_rules | `(tactic| walk_at "exec While") => `(tactic| refine halt ?_)
local macro_rules | `(tactic| walk_at "exec For Name Call cons nil") => `(tactic| refine halt ?_)
local macro_rules | `(tactic| walk_at "pyIter ref") => `(tactic| refine halt ?_)
local macro_rules | `(tactic| walk_at "call builtin:len") => `(tactic| ((with_reducible show wpAny _ _ (call (Value.builtin "len") [Value.str _ _]) _ _ _); refine len_str (by omega) ?_))
local macro_rules | `(tactic| walk_at "subscriptTail") => `(tactic| ((with_reducible show wpAny _ _ (subscriptTail _ _ (Value.str _ _) (Value.int _ _)) _ _ _); (refine item_str (fitsSsize_of (N := 9223372036854775808) (by omega) (by omega) (Int.le_refl _)) (by omega) (by omega) ?_); intro _))

def stdM (S q1 q2 p t : Value) (va vb vs : Option Value) : Str → Option Value := fun y =>
  if y = Str.ofString "size" then vs else if y = Str.ofString "b" then vb else if y = Str.ofString "a" then va else if y = Str.ofString "place" then some p else if y = Str.ofString "best" then some t else
  if y = Str.ofString "s2" then some q2 else if y = Str.ofString "s1" then some q1 else if y = Str.ofString "self" then some S else none
theorem stdM_size {S q1 q2 p t v : Value} {va vb vs : Option Value} : (fun y => if y = Str.ofString "size" then some v else stdM S q1 q2 p t va vb vs y) = stdM S q1 q2 p t va vb (some v) := by
  funext y
  by_cases h : y = Str.ofString "size"
  · subst h; simp (decide := true) [stdM]
  · simp [stdM, h]
theorem stdM_b {S q1 q2 p t v : Value} {va vb vs : Option Value} : (fun y => if y = Str.ofString "b" then some v else stdM S q1 q2 p t va vb vs y) = stdM S q1 q2 p t va (some v) vs := by
  funext y
  by_cases h : y = Str.ofString "b"
  · subst h; simp (decide := true) [stdM]
  · simp [stdM, h]
theorem stdM_a {S q1 q2 p t v : Value} {va vb vs : Option Value} : (fun y => if y = Str.ofString "a" then some v else stdM S q1 q2 p t va vb vs y) = stdM S q1 q2 p t (some v) vb vs := by
  funext y
  by_cases h : y = Str.ofString "a"
  · subst h; simp (decide := true) [stdM]
  · simp [stdM, h]
theorem stdM_place {S q1 q2 p t v : Value} {va vb vs : Option Value} : (fun y => if y = Str.ofString "place" then some v else stdM S q1 q2 p t va vb vs y) = stdM S q1 q2 v t va vb vs := by
  funext y
  by_cases h : y = Str.ofString "place"
  · subst h; simp (decide := true) [stdM]
  · simp [stdM, h]
theorem stdM_best {S q1 q2 p t v : Value} {va vb vs : Option Value} : (fun y => if y = Str.ofString "best" then some v else stdM S q1 q2 p t va vb vs y) = stdM S q1 q2 p v va vb vs := by
  funext y
  by_cases h : y = Str.ofString "best"
  · subst h; simp (decide := true) [stdM]
  · simp [stdM, h]

theorem stdM_bs {S q1 q2 p t v u : Value} {va vb vs : Option Value} : (fun y => if y = Str.ofString "size" then some v else if y = Str.ofString "b" then some u else stdM S q1 q2 p t va vb vs y) = stdM S q1 q2 p t va (some u) (some v) := by
  funext y
  by_cases h : y = Str.ofString "size"
  · subst h; simp (decide := true) [stdM]
  by_cases h2 : y = Str.ofString "b"
  · subst h2; simp (decide := true) [stdM]
  simp [stdM, h, h2]
theorem stdM_pb {S q1 q2 p t v u : Value} {va vb vs : Option Value} : (fun y => if y = Str.ofString "place" then some u else if y = Str.ofString "best" then some v else stdM S q1 q2 p t va vb vs y) = stdM S q1 q2 u v va vb vs := by
  funext y
  by_cases h : y = Str.ofString "place"
  · subst h; simp (decide := true) [stdM]
  by_cases h2 : y = Str.ofString "best"
  · subst h2; simp (decide := true) [stdM]
  simp [stdM, h, h2]
theorem stdM_init {S q1 q2 v u : Value} : (fun y => if y = Str.ofString "best" then some v else if y = Str.ofString "place" then some u else if y = Str.ofString "s2" then some q2 else if y = Str.ofString "s1" then some q1 else if y = Str.ofString "self" then some S else none) = stdM S q1 q2 u v none none none := by
  funext y
  unfold stdM
  by_cases h1 : y = Str.ofString "size"
  · subst h1; simp (decide := true)
  by_cases h2 : y = Str.ofString "b"
  · subst h2; simp (decide := true)
  by_cases h3 : y = Str.ofString "a"
  · subst h3; simp (decide := true)
  by_cases h4 : y = Str.ofString "place"
  · subst h4; simp (decide := true)
  simp [h1, h2, h3, h4]
def StdJ (M : Value → Value → Option Value → Option Value → Option Value → Str → Option Value) (c d : List Nat) (led : List (Addr × Obj)) (va : Option Value → Prop) (don : Nat → Nat → Prop) (m : Str → Option Value) (nx : List (Addr × Obj)) : Prop :=
  ∃ (p t : Nat) (tp tt : Tok) (wa wb ws : Option Value), nx = led ∧ va wa ∧ m = M (.int p tp) (.int t tt) wa wb ws ∧ Bst c d p t don
def StdW (M : Value → Str → Option Value) (c d : List Nat) (led : List (Addr × Obj)) (i j : Nat) (n : Nat) (m : Str → Option Value) (nx : List (Addr × Obj)) : Prop :=
  ∃ (k : Nat) (tk : Tok), n + k = 15 ∧ nx = led ∧ m = M (.int k tk) ∧ Mt c d i j k
def StdP (M : Value → Str → Option Value) (c d : List Nat) (led : List (Addr × Obj)) (i j : Nat) (m : Str → Option Value) (nx : List (Addr × Obj)) : Prop :=
  ∃ (k : Nat) (tk : Tok), nx = led ∧ m = M (.int k tk) ∧ Far c d i j k
set_option maxRecDepth 100000 in
set_option maxHeartbeats 8000000 in

theorem std_spec {w : World} {p : Program} {loose : List Str} {mean : ExcName → Option Value} {mg mb : Str → Option Value}
    {dp un : Nat} {gd : Option (List Code)} {cn : Str} {cs : Scope} {a : Addr} {ccd : Value} {cl : List (Str × Addr)} {outer : List Env} {A₀ : Around} {base h₀ : Heap} {L : Addr} {m : Str → Option Value} {s : Shared}
    {Q E : Value → Shared → Prop} (B : Below A₀ base outer h₀) (F : Fr h₀ L s.heap m) (X : (hd.heap_39 w.params).In h₀) (T : Top p loose mean mg mb h₀) (hk : cs.kind = .function)
    (hd : dp + 10 < recursionLimit) (hu : un + 200 < cLine)
  (S : Addr) (x0 x1 : Str × Tok) (hx : ∀ x ∈ [x0, x1], Low x.1)
  (ret : ∀ (r : Str) t (p b : Nat) h' tk', s.heap.StaysIn h' → r = Txt.slice x0.1 (some (p : Int)) (some ((p : Int) + (b : Int))) → Bst (chs x0.1) (chs x1.1) p b (fun _ _ => True) → Q (.str r t) { s with heap := h', toks := tk' }) :
  codeAny (model PySem.Challenge.rw_fu0023_01.row.prog w) (ktrTop dp un gd cn cs L a ccd cl outer) (.call (.ref 197) ⟨[.ref S, .str x0.1 x0.2, .str x1.1 x1.2], []⟩) (fun r s' => match r with | .ok (.ret v) => Q v s' | .ok _ => False | .error e => E e s') s := by
  revert X; k_fill; intro X
  have N : News h₀ L s.heap [] := News.nil
  k_dflt (refine' enter_plain ?k1 ?k2 ?k3 ?k4 ?k5 ?kA ?kF ?kK ?k6 ?k7 ?k8 ?k9 ?kB ?_ ?c2 ?c3 ?c4 ?c5; (case kA => exact rfl); (case kF => exact rfl); (case kK => first | exact rfl | assumption); (case k1 => k_asm); (case k2 => k_asm); (case k3 => k_asm); (case k4 => k_asm); (case k5 => k_asm); (case k6 => k_is); (case k7 => k_is); (case k8 => ktr_room); (case k9 => first | exact BindsTo.of_eq rfl | exact binds_K (by k_in) rfl (by k_is) rfl rfl rfl | fail "k_enter: no rule for these arguments"); (case c5 => decide); (case kB => exact locs rfl); (case c2 => exact rfl); (case c3 => exact rfl); (case c4 => exact rfl); k_whole); intro g L1 h1 FG F1 N1 B1 X1 T1 l1 NT; (try k_lt l1); (try dsimp only)
  replace F1 : Fr g L1 h1 _ := lk3 ▸ F1
  have hlen0 := (hx x0 (by simp)).short
  have hlen1 := (hx x1 (by simp)).short
  all_goals (try k_fold)
  k_steps
  refine go (for_at g L1 ?_)
  k_steps
  rename IsRange _ _ _ _ _ _ _ _ => hr
  rename Fr _ _ _ _ => F3
  rename News _ _ _ _ => N3
  replace F3 := fr_cast F3 stdM_init
  refine go (at_range (n := x0.1.length) (fun i => StdJ (stdM (.ref S) (.str x0.1 x0.2) (.str x1.1 x1.2)) (chs x0.1) (chs x1.1) [] (fun _ => True) (fun x _ => x < i)) (fun _ => False) (fun _ _ => False) rfl hr (small_one (by omega) (by omega) (by omega) (by omega)) (rangeSize_one _) F3 N3
    ⟨0, 0, _, _, none, none, none, rfl, trivial, rfl, ⟨.inl ⟨rfl, rfl⟩, fun i j h => absurd h (Nat.not_lt_zero _)⟩⟩ ?turn ?done (fun _ h => h.elim) (fun _ _ h => h.elim))
  case turn =>
    clear hr F3 N3
    rintro I i ti m1 nx1 h4 tk4 oI hi hne hI ⟨p, b, tp, tb, va, vb, vs, rfl, _, rfl, hB⟩ F4 N4
    replace N4 : News g L1 h4 [(I, oI)] := N4
    rw [Int.zero_add]
    k_steps
    refine go (for_at g L1 ?_)
    k_steps
    rename IsRange _ _ _ _ _ _ _ _ => hr
    rename Fr _ _ _ _ => F5
    rename News _ _ _ _ => N5
    refine go (at_range (n := x1.1.length) (fun j => StdJ (stdM (.ref S) (.str x0.1 x0.2) (.str x1.1 x1.2)) (chs x0.1) (chs x1.1) [(I, oI)] (fun o => o = some (.int i ti)) (fun x y => x < i ∨ x = i ∧ y < j)) (fun _ => False) (fun _ _ => False) rfl hr (small_one (by omega) (by omega) (by omega) (by omega)) (rangeSize_one _) F5 N5
      ⟨p, b, tp, tb, _, vb, vs, rfl, rfl, stdM_a, hB.sub fun x y h => .inl (by omega)⟩ ?turn2 ?done2 (fun _ h => h.elim) (fun _ _ h => h.elim))
    case turn2 =>
      clear hr F5 N5 hB
      rintro I2 j tj m2 nx2 h6 tk6 oI2 hj hne2 hI2 ⟨p, b, tp, tb, va, vb, vs, rfl, rfl, rfl, hB⟩ F6 N6
      replace hne2 := allNe_of hne2; simp only [AllNe, and_true] at hne2
      replace N6 : News g L1 h6 [(I2, oI2), (I, oI)] := N6
      rw [Int.zero_add]
      k_steps
      rename Fr _ _ _ _ => F7
      rename News _ _ _ _ => N7
      replace F7 := fr_cast F7 stdM_bs
      refine go (while_cut (StdW (fun v => stdM (.ref S) (.str x0.1 x0.2) (.str x1.1 x1.2) (.int p tp) (.int b tb) (some (.int i ti)) (some (.int j tj)) (some v)) (chs x0.1) (chs x1.1) [(I2, oI2), (I, oI)] i j) (StdP (fun v => stdM (.ref S) (.str x0.1 x0.2) (.str x1.1 x1.2) (.int p tp) (.int b tb) (some (.int i ti)) (some (.int j tj)) (some v)) (chs x0.1) (chs x1.1) [(I2, oI2), (I, oI)] i j) 15 F7 N7
        ⟨0, _, rfl, rfl, rfl, .zero (by rw [chs_len]; omega) (by rw [chs_len]; omega)⟩ ?turn3 ?done3)
      case turn3 =>
        clear F7 N7
        rintro n m3 nx3 h8 tk8 F8 N8 ⟨k, tk, hn, rfl, rfl, hM⟩
        k_steps
        · rename Fr _ _ _ _ => F9
          rename News _ _ _ _ => N9
          rename (Txt.item _ _ == Txt.item _ _) = true => hq
          exact WStep.mk (n - 1) (fr_cast F9 stdM_size) N9 (by omega) ⟨k + 1, _, by omega, rfl, rfl, hM.succ (by rw [chs_len]; omega) (by rw [chs_len]; omega) ((item_eq (i := i + k) (j := j + k) (by omega) (by omega)).mp (eq_of_beq hq))⟩
        · rename (Txt.item _ _ == Txt.item _ _) = false => hq
          exact WEnd.mk F8 N8 ⟨k, tk, rfl, rfl, .of hM fun h => absurd (beq_iff_eq.mpr ((item_eq (i := i + k) (j := j + k) (by omega) (by omega)).mpr (h.2.2 k (Nat.lt_succ_self k)))) (fun z => Bool.false_ne_true (hq.symm.trans z))⟩
        · exact WEnd.mk F8 N8 ⟨k, tk, rfl, rfl, .of hM fun h => by have := h.2.1; rw [chs_len] at this; omega⟩
        · exact WEnd.mk F8 N8 ⟨k, tk, rfl, rfl, .of hM fun h => by have := h.1; rw [chs_len] at this; omega⟩
      clear F7 N7
      rintro m3 nx3 h8 tk8 F8 N8 ⟨k, tk, rfl, rfl, hF⟩
      k_steps
      · rename Fr _ _ _ _ => F9
        rename News _ _ _ _ => N9
        exact FStep.next (nx' := [(I, oI)]) (fr_cast F9 stdM_pb) (fun p hp => N9 p (.tail _ hp)) (AllNe.off (l := [(I, oI)]) ⟨hne2, trivial⟩) ⟨i, k, _, _, _, _, _, rfl, rfl, rfl, hB.more hF (by omega) (fun x y h => by omega)⟩
      · exact FStep.next (nx' := [(I, oI)]) F8 N8 (AllNe.off (l := [(I, oI)]) ⟨hne2, trivial⟩) ⟨p, b, tp, tb, _, _, _, rfl, rfl, rfl, hB.keep hF (by omega) (fun x y h => by omega)⟩
    case done2 =>
      rintro m2 nx2 h6 tk6 F6 N6 ⟨p, b, tp, tb, va, vb, vs, rfl, rfl, rfl, hB⟩
      k_steps
      exact FStep.next (nx' := []) F6 N6 (fun p hp => nomatch hp) ⟨p, b, tp, tb, _, vb, vs, rfl, trivial, rfl, hB.sub fun x y h => by rw [chs_len, chs_len]; omega⟩
  case done =>
    rintro m2 nx2 h6 tk6 F6 N6 ⟨p, b, tp, tb, va, vb, vs, rfl, _, rfl, hB⟩
    k_steps
    rename Fr _ _ _ _ => F9
    exact ret _ _ p b _ _ (NT.back _ F9.keep (fun _ hp => nomatch hp)) rfl (hB.sub fun x y h => by rw [chs_len]; omega)
end Mine
end

section
set_option maxRecDepth 100000
set_option Elab.async false
namespace Mine
open PySem PySem.W PySem.Spec PySem.Calls PyProof.Rows PySem.SeqAt

def IntEnd (F : Value → Prop) (s₃ : Shared) (y : Value) (s₄ : Shared) : Prop := F y ∧ Keeps s₃ s₄
theorem IntEnd.mk {F : Value → Prop} {y : Value} {s₃ : Shared} {h' : Heap} {tk : Nat} (f : F y) (k : s₃.heap.StaysIn h') : IntEnd F s₃ y { s₃ with heap := h', toks := tk } := ⟨f, _, _, rfl, k⟩

section
variable {prog : Program} {w : World} {A : Around} {E : Value → Shared → Prop} {s : Shared} {env : Env}

/-- a comprehension over range(n) -/
theorem comp_range {elt iter : Expr} {x : Str} {px : Pos} {scope : Scope} {cl : List (Str × Addr)} {pos : Pos} {Q : Value → Shared → Prop} (n B : Nat) (F : Nat → Value → Prop) (hn : n ≤ 1000)
    (hit : ∀ Q' : Value → Shared → Prop, (∀ r h' tk t₀ u₀ v₀, s.heap.StaysIn h' → B ≤ h'.objs.size → IsRange h' r 0 (n : Int) 1 t₀ u₀ v₀ → Q' (.ref r) { s with heap := h', toks := tk }) → wpAny (model prog w) A (eval iter env) Q' E s)
    (helt : ∀ C (i : Nat) t s₃ m₃ E', B ≤ C → i < n → s₃.heap.Ns C m₃ → m₃ x = some (.int i t) → s.heap.StaysIn s₃.heap →
      wpAny (model prog w) A (eval elt (compEnvC scope cl C env)) (IntEnd (F i) s₃) E' s₃)
    (hQ : ∀ D ys h' tk, s.heap.get? D = none → h'.PlainList D ys → Paired F (List.range n) ys.toList → s.heap.StaysIn h' → Q (.ref D) { s with heap := h', toks := tk })
    (hclos : closureFor scope env = pure cl) (hcell : ∀ y ∈ scope.names, y.2 ≠ .cell) (hkind : scope.kind = .function)
    (hnames : ∀ y ∈ scope.names, y.2 = .local → scope.names.lookup y.1 = some .local) (hx : scope.names.lookup x = some .local)
    (hh : A.handled = none)
    (hs : ∀ x, foldedSetIterable iter env x = pure x := by intro _; rfl) :
    wpAny (model prog w) A (eval (.ListComp elt [⟨.Name x px, iter, [], 0⟩] scope pos) env) Q E s := by
  refine wpAny_ListComp_free (fun _ => true) (fun v y => ∃ (i : Nat) (t : Tok), v = .int i t ∧ F i y) hclos hcell hkind hnames hx (hit _ fun r h₁ tk₁ t₀ u₀ v₀ hst hC0 hr => ?_) hs
  refine wpAny_pyIter_range hr (small_one (by omega) (by omega) (by omega) (by omega)) ?_
  have e0 := rangeSize_one n
  have W : Walks prog w A h₁.objs.size [h₁.objs.size] [h₁.objs.size] n (fun i v => i < n ∧ ∃ t, v = .int (0 + i * 1) t)
      (fun i h => IsRangeIter h h₁.objs.size (0 + (i : Nat) * 1) ((n : Int) - (i : Nat)) 1) := (Walks.range hh _ 0 1 n).bound
  have up : ∀ (o : Obj) (s₃ : Shared), (∀ b o', b ∉ [h₁.objs.size] → (h₁.push o).get? b = some o' → s₃.heap.get? b = some o') → ∀ b o', s.heap.get? b = some o' → s₃.heap.get? b = some o' :=
    fun o s₃ hk b o' e => hk b o' (fun hm => by rw [List.mem_singleton.mp hm] at e; exact Nat.lt_irrefl _ (Heap.lt_size (hst _ _ e))) (Heap.get?_push_of_some _ (hst _ _ e))
  refine ⟨h₁.objs.size, [h₁.objs.size], [h₁.objs.size], n, _, _, rfl, W, Nat.le_trans hn (by decide), (by show IsRangeIter _ _ _ _ _; rw [e0]; simpa using Heap.get?_push_size _ rfl), ?_, ⟨?_, ?_⟩, ?_⟩
  · intro b hb
    rw [List.mem_singleton.mp hb]
    show _ < (h₁.push _).objs.size
    rw [Heap.size_push]
    exact Nat.lt_succ_self _
  · intro C i v s₃ m₃ E' hC hP hn hm hk _
    exact wpAny_tests_nil ⟨rfl, _, _, rfl, fun _ _ e => e⟩
  · rintro C i v s₃ m₃ E' hC ⟨hi, t, rfl⟩ hp hn hm hk _
    have e1 : (0 : Int) + (i : Int) * 1 = (i : Int) := by omega
    rw [e1] at hm ⊢
    refine wpAny_mono (helt C i t s₃ m₃ E' (Nat.le_trans hC0 (Nat.le_of_succ_le (by simpa [Heap.size_push] using hC))) hi hn hm (up _ s₃ hk)) (fun y s₄ h₄ => ⟨⟨i, t, rfl, h₄.1⟩, h₄.2⟩) fun _ _ e => e
  · intro D h' tk ys vs' hnew hlD hplD hlen hP hF hk
    rw [List.filter_eq_self.mpr (fun _ _ => rfl)] at hF
    refine hQ D ys h' tk ?_ hplD ?_ (up _ { s with heap := h' } hk)
    · cases q : s.heap.get? D with
      | none => rfl
      | some o => rw [Heap.get?_push_of_some _ (hst _ _ q)] at hnew; cases hnew
    · refine paired_of (by rw [List.length_range, ← paired_length hF, hlen]) fun j a ha => ?_
      have hj : j < n := by
        have := (List.getElem?_eq_some_iff.mp ha).1
        simpa using this
      have ha' : a = j := by
        have := (List.getElem?_eq_some_iff.mp ha).2
        simpa using this.symm
      subst ha'
      have hv : vs'[a]? = some (vs'[a]'(by omega)) := List.getElem?_eq_getElem (by omega)
      obtain ⟨y, hy, i, t, e1, e2⟩ := paired_get hF hv
      obtain ⟨_, t', e3⟩ := hP a _ hv
      rw [e1] at e3
      injection e3 with e3 _
      have : i = a := by omega
      subst this
      exact ⟨y, hy, e2⟩
end
end Mine
end

section
set_option maxRecDepth 100000
set_option Elab.async false
namespace Mine
open PySem PySem.W PySem.Spec PySem.Calls PyProof.Rows
theorem slice_eq (x : Str) (l u : Option Int) : Txt.slice x l u = StrLaws.sliceText x l u := rfl
theorem slice_ij {x : Str} {i j : Nat} (h1 : i ≤ j) (h2 : j ≤ x.length) : chs (Txt.slice x (some (i : Int)) (some (j : Int))) = ((chs x).drop i).take (j - i) := by
  rw [slice_eq, StrLaws.sliceText_nat x h1 h2]
theorem slice_from {x : Str} {i : Nat} (h : i ≤ x.length) : chs (Txt.slice x (some (i : Int)) none) = (chs x).drop i := by
  have hl : x.cps.toList.length = x.length := chs_len x
  rw [slice_eq, StrLaws.sliceText_from ⟨by omega, by rw [hl]; omega⟩]
  show ((x.cps.toList.drop ((i : Int)).toNat).take _) = _
  rw [Int.toNat_natCast, List.take_of_length_le]
  rw [List.length_drop]
  omega
theorem slice_to {x : Str} {j : Nat} (h : j ≤ x.length) : chs (Txt.slice x none (some (j : Int))) = (chs x).take j := by
  have hl : x.cps.toList.length = x.length := chs_len x
  rw [slice_eq, StrLaws.sliceText_to ⟨by omega, by rw [hl]; omega⟩]
  show ((x.cps.toList.drop 0).take _) = _
  rw [List.drop_zero]
  congr 1

/-- p stands in c -/
def Has (c p : List Nat) : Prop := ∃ i, i + p.length ≤ c.length ∧ (c.drop i).take p.length = p
theorem subAt_iff (x y : Str) (i : Nat) : Builtin.Str.subAt x y i = true ↔ ((chs x).drop i).take (chs y).length = chs y := by
  unfold Builtin.Str.subAt
  rw [beq_iff_eq, ← Array.toList_inj, Array.toList_extract, List.extract_eq_take_drop, chs_len]
  rw [show i + y.length - i = y.length by omega]
theorem contains_iff (x y : Str) : Txt.contains x y = true ↔ Has (chs x) (chs y) := by
  unfold Txt.contains Has
  rw [StrLaws.found_iff]
  constructor
  · rintro ⟨i, h1, h2⟩
    exact ⟨i, by rw [chs_len, chs_len]; exact h1, (subAt_iff x y i).mp h2⟩
  · rintro ⟨i, h1, h2⟩
    exact ⟨i, by rw [chs_len, chs_len] at h1; exact h1, (subAt_iff x y i).mpr h2⟩
end Mine
end

section
set_option maxRecDepth 100000
set_option Elab.async false
namespace Mine
open PySem PySem.W PySem.Spec PySem.Calls PyProof.Rows PySem.SeqAt

theorem pick_list {α β : Type} {R : Nat → α → β → Prop} : ∀ (l : List α) (k : Nat), (∀ j v, l[j]? = some v → ∃ p, R (k + j) v p) → ∃ t : List β, t.length = l.length ∧ ∀ j v, l[j]? = some v → ∃ p, t[j]? = some p ∧ R (k + j) v p
  | [], _, _ => ⟨[], rfl, fun j v e => by simp at e⟩
  | a :: l, k, h => by
    obtain ⟨p, hp⟩ := h 0 a rfl
    obtain ⟨t, h1, h2⟩ := pick_list (R := R) l (k + 1) fun j v e => by
      obtain ⟨q, hq⟩ := h (j + 1) v (by simpa using e)
      exact ⟨q, by rw [show k + 1 + j = k + (j + 1) by omega]; exact hq⟩
    refine ⟨p :: t, by simp [h1], fun j v e => ?_⟩
    cases j with
    | zero =>
      have e : a = v := by simpa using e
      subst e
      exact ⟨p, rfl, hp⟩
    | succ j =>
      obtain ⟨q, h3, h4⟩ := h2 j v (by simpa using e)
      exact ⟨q, by simpa using h3, by rw [show k + (j + 1) = k + 1 + j by omega]; exact h4⟩

/-- the runs of n letters of x, as tuples that stand in h and are new in it -/
structure Grams (x : List Nat) (n : Nat) (h₀ h : Heap) (acc : List Value) (tups : List (Addr × Obj)) : Prop where
  refs : acc = tups.map (fun p => Value.ref p.1)
  len : tups.length = x.length - n + 1
  each : ∀ (j : Nat) (p : Addr × Obj), tups[j]? = some p → ∃ vs, p.2 = tup vs ∧ Lets vs ((x.drop j).take n)
  here : ∀ p ∈ tups, h₀.get? p.1 = none ∧ h.get? p.1 = some p.2

theorem grams_of {g0 h : Heap} {ps : List (Addr × Sx)} {bad : List Addr} {acc : Array Value} {x : Str} {n : Nat} (hn : n ≤ x.length) (hps : Paired (fun (i : Nat) (p : Addr × Sx) => ∃ t, p.2 = Sx.str (Txt.slice x (some (i : Int)) none) t) (List.range n) ps)
    (t : TupsOf g0 ps h bad acc (x.length - n + 1)) : ∃ tups, Grams (chs x) n g0 h acc.toList tups := by
  obtain ⟨tups, h1, h2⟩ := pick_list (R := fun j v (p : Addr × Obj) => v = Value.ref p.1 ∧ g0.get? p.1 = none ∧ h.get? p.1 = some p.2 ∧ ∃ vs, p.2 = tup vs ∧ Paired (fun (p : Addr × Sx) y => p.2.at j y) ps vs) acc.toList 0 fun j v e => by
    obtain ⟨T, vs, a, b, c, _, f⟩ := t.2 j v (by simpa using e)
    refine ⟨(T, tup vs), a, f, b, vs, rfl, ?_⟩
    rw [Nat.zero_add]; exact c
  have hsz : acc.toList.length = x.length - n + 1 := by simpa using t.1
  have back : ∀ (j : Nat) (p : Addr × Obj), tups[j]? = some p → ∃ v, acc.toList[j]? = some v ∧ v = Value.ref p.1 ∧ g0.get? p.1 = none ∧ h.get? p.1 = some p.2 ∧ ∃ vs, p.2 = tup vs ∧ Paired (fun (p : Addr × Sx) y => p.2.at j y) ps vs := fun j p e => by
    have hj : j < acc.toList.length := by rw [← h1]; exact (List.getElem?_eq_some_iff.mp e).1
    obtain ⟨q, h3, h4⟩ := h2 j _ (List.getElem?_eq_getElem hj)
    rw [e] at h3
    cases h3
    rw [Nat.zero_add] at h4
    exact ⟨_, List.getElem?_eq_getElem hj, h4⟩
  refine ⟨tups, ⟨?_, by rw [h1, hsz, chs_len], fun j p e => ?_, fun p hp => ?_⟩⟩
  · refine List.ext_getElem? fun j => ?_
    rw [List.getElem?_map]
    cases e : tups[j]? with
    | none =>
      have : tups.length ≤ j := by simpa using e
      rw [List.getElem?_eq_none (by omega)]; rfl
    | some p =>
      obtain ⟨v, h3, h4, _⟩ := back j p e
      rw [h3, h4]; rfl
  · obtain ⟨v, h3, _, _, _, vs, h4, h5⟩ := back j p e
    have hj : j < x.length - n + 1 := by rw [← hsz]; exact (List.getElem?_eq_some_iff.mp h3).1
    refine ⟨vs, h4, ?_⟩
    have hvl : vs.length = n := by rw [← paired_length h5, ← paired_length hps, List.length_range]
    refine (paired_of (F := fun (v : Value) (c : Nat) => ∃ u, v = Value.str ⟨#[c]⟩ u) (by rw [List.length_take, List.length_drop, chs_len, hvl]; omega) fun i v hv => ?_)
    have hi : i < n := by rw [← hvl]; exact (List.getElem?_eq_some_iff.mp hv).1
    obtain ⟨p', hp', t', et⟩ := paired_get hps (i := i) (a := i) (by rw [List.getElem?_range hi])
    obtain ⟨v', hv', hat⟩ := paired_get h5 hp'
    rw [hv] at hv'
    cases hv'
    rw [et] at hat
    obtain ⟨c, u, hc, hv2⟩ := hat
    refine ⟨c, ?_, u, hv2⟩
    have hc' : (chs (Txt.slice x (some (i : Int)) none))[j]? = some c := by simpa [chs] using hc
    rw [slice_from (by omega), List.getElem?_drop] at hc'
    rw [List.getElem?_take_of_lt hi, List.getElem?_drop, Nat.add_comm j i]
    exact hc'
  · obtain ⟨j, hj, e⟩ := List.getElem_of_mem hp
    obtain ⟨v, _, _, h4, h5, _⟩ := back j p (by rw [← e]; exact List.getElem?_eq_getElem hj)
    exact ⟨h4, h5⟩
end Mine
end

section
theorem Mine.calm_Ngrams : True := by
  w_top off
  trivial
open PySem PySem.SeqAt PySem.W PyProof.Rows PySem.Spec PySem.Calls
set_option Elab.async false
namespace Mine

local macro_rules | `(tactic| walk_at "eval ListComp") => `(tactic| refine halt ?_)
local macro_rules | `(tactic| walk_at "StarOf ref") => `(tactic| refine halt ?_)
local macro_rules | `(tactic| walk_at "call type:zip") => `(tactic| refine halt ?_)
local macro_rules | `(tactic| walk_at "call type:list") => `(tactic| refine halt ?_)
local macro_rules | `(tactic| walk_at "eval Name") => `(tactic| ((with_reducible show wpAny _ _ (eval (Expr.Name _ _) (compEnvC _ _ _ _)) _ _ _); (refine' name_comp ?F ?m ?_ ?a ?b ?c; (case F => assumption); (case m => assumption); (case a => rfl); (case b => rfl); (case c => decide))))
local macro_rules | `(tactic| walk_at "subscriptTail Name Slice str ref") => `(tactic| refine halt ?_)
theorem srcs_of {f : Nat → Str} : ∀ {l : List Nat} {ys : List Value}, Paired (fun i y => ∃ t, y = Value.str (f i) t) l ys → ∃ ss : List Sx, ys = ss.map Sx.val ∧ Paired (fun i x => ∃ t, x = Sx.str (f i) t) l ss
  | _, _, .nil => ⟨[], rfl, .nil⟩
  | _, _, .cons ⟨t, e⟩ r => by
    obtain ⟨ss, h1, h2⟩ := srcs_of r
    exact ⟨.str _ t :: ss, by rw [e, h1]; rfl, .cons ⟨t, rfl⟩ h2⟩
theorem paired_unmap {α β γ : Type} {f : β → γ} {F : α → γ → Prop} : ∀ {l : List α} {r : List β}, Paired F l (r.map f) → Paired (fun a b => F a (f b)) l r
  | [], [], _ => .nil
  | _ :: _, _ :: _, .cons h t => .cons h (paired_unmap t)
set_option maxRecDepth 100000 in
set_option maxHeartbeats 8000000 in

theorem ngrams_spec {w : World} {p : Program} {loose : List Str} {mean : ExcName → Option Value} {mg mb : Str → Option Value}
    {dp un : Nat} {gd : Option (List Code)} {cn : Str} {cs : Scope} {a : Addr} {ccd : Value} {cl : List (Str × Addr)} {outer : List Env} {A₀ : Around} {base h₀ : Heap} {L : Addr} {m : Str → Option Value} {s : Shared}
    {Q E : Value → Shared → Prop} (B : Below A₀ base outer h₀) (F : Fr h₀ L s.heap m) (X : (hd.heap_39 w.params).In h₀) (T : Top p loose mean mg mb h₀) (hk : cs.kind = .function)
    (hd : dp + 10 < recursionLimit) (hu : un + 200 < cLine)
  (x : Str × Tok) (hx : Low x.1) (n : Nat) (tn : Tok) (hn1 : 1 ≤ n) (hn2 : n ≤ x.1.length)
  (ret : ∀ (r : Addr) acc c tups h' tk', s.heap.StaysIn h' → s.heap.get? r = none → h'.get? r = some (lobj acc c) → Grams (chs x.1) n s.heap h' acc.toList tups → Q (.ref r) { s with heap := h', toks := tk' }) :
  wpAny (model PySem.Challenge.rw_fu0023_01.row.prog w) (ktrTop dp un gd cn cs L a ccd cl outer) (call (.ref 26) [.str x.1 x.2, .int n tn]) Q E s := by
  revert X; k_fill; intro X
  have N : News h₀ L s.heap [] := News.nil
  refine wpAny_call ?_
  k_dflt (refine' enter_cells ?k1 ?k2 ?k3 ?k4 ?k5 ?kA ?kF ?kK ?k6 ?k7 ?k8 ?k9 ?kB ?kD ?_ ?c2 ?c3 ?c4; (case kA => exact rfl); (case kF => exact rfl); (case kK => first | exact rfl | assumption); (case k1 => k_asm); (case k2 => k_asm); (case k3 => k_asm); (case k4 => k_asm); (case k5 => k_asm); (case k6 => k_is); (case k7 => k_is); (case k8 => ktr_room); (case k9 => first | exact BindsTo.of_eq rfl | exact binds_K (by k_in) rfl (by k_is) rfl rfl rfl | fail "k_enter: no rule for these arguments"); (case kB => exact rfl); (case kD => decide +kernel); (case c2 => exact rfl); (case c3 => exact rfl); (case c4 => exact rfl); k_whole); intro g L1 h1 tk1 cells1 FG F1 N1 Y1 B1 X1 T1 l1 NT; (try k_lt l1)
  obtain ⟨ox, hE, cx⟩ := CellsAre.one Y1
  subst hE
  clear Y1
  replace cx : ox.data = .cell (some (.str x.1 x.2)) := cx
  simp only [List.cons_append, List.nil_append] at N1
  have hlen := hx.short
  all_goals (try k_fold)
  k_steps
  refine go (comp_range n h1.objs.size (fun i y => ∃ t, y = .str (Txt.slice x.1 (some (i : Int)) none) t) (by omega) ?hit ?elt ?hQ rfl (by decide) rfl (by decide) rfl rfl)
  case hit =>
    intro Q' hq
    k_steps
    rename IsRange _ _ _ _ _ _ _ _ => hr
    refine hq _ _ _ _ _ _ (by assumption) (Nat.le_of_lt ?_) hr
    exact Heap.lt_size hr
  case elt =>
    intro C i t s3 m3 E' hC hi hn3 hm hk3
    obtain ⟨F3, N3⟩ := in_comp F1 N1 hC hn3 hk3
    clear F1 N1
    k_steps
    refine go (sl_sn (s := ⟨_, _, _, _, _⟩) ?_ ?hsz)
    case hsz => (rw [sizeLine_eq]; omega)
    intro h' t' k' hk9 _
    k_steps
    exact .mk ⟨_, rfl⟩ hk9
  intro D ys h3 tk3 hD hpl hys hk3
  obtain ⟨ep, hpl⟩ := hpl
  obtain ⟨F2, N2, hneD⟩ := news_made F1 N1 hk3 hD hpl
  obtain ⟨ss, hss, hsp⟩ := srcs_of hys
  have hsl : ss.length = n := by rw [← paired_length hsp, List.length_range]
  clear F1 N1 hys
  refine star_seq F2 N2 (.head _) rfl rfl (.inl rfl) hss ?hz ?_
  case hz =>
    have : ys.toList.length = ss.length := by rw [hss, List.length_map]
    have h2 : ys.size = ss.length := by simpa using this
    rw [h2, hsl]
    exact Nat.le_trans (Nat.le_trans hn2 hlen) (by decide)
  intro h4 F3 N3
  clear F2 N2
  have hsrc : ∀ q ∈ ss, ∃ (i : Nat) (t : Tok), i < n ∧ q = .str (Txt.slice x.1 (some (i : Int)) none) t := fun q hq => by
    obtain ⟨j, hj, e⟩ := List.getElem_of_mem hq
    have hr : (List.range n)[j]? = some j := by rw [List.getElem?_range (by omega)]
    obtain ⟨b, hb, t, ht⟩ := paired_get hsp hr
    rw [List.getElem?_eq_getElem hj] at hb
    cases hb
    exact ⟨j, t, by omega, by rw [← e]; exact ht⟩
  have hlow : ∀ i, (Txt.slice x.1 (some ((i : Nat) : Int)) none).cps.all (· < 128) = true ∨ x.1.length < i := fun i => by
    rcases Nat.lt_or_ge x.1.length i with h | h
    · exact .inr h
    · refine .inl ?_
      rw [← Array.all_toList, List.all_eq_true]
      intro c hc
      have hc' : c ∈ chs (Txt.slice x.1 (some (i : Int)) none) := hc
      rw [slice_from h] at hc'
      exact decide_eq_true (hx.low c (List.mem_of_mem_drop hc'))
  show wpAny _ _ (call (.type "zip") (ss.map Sx.val)) _ _ _
  refine zip_new (fun e => by rw [e] at hsl; have h0 : 0 = n := hsl; omega) (fun q hq => ?_) (by rw [hsl]; omega) fun z TI TO ps h5 Z => ?_
  · obtain ⟨i, t, hi, rfl⟩ := hsrc q hq
    rcases hlow i with h | h
    · exact h
    · omega
  have F4 := F3.keeps Z.stays
  have N4 := N3.grown Z.stays
  have hnew : ∀ b ∈ z :: TO :: TI :: ps.map (·.1), h4.get? b = none := fun b hb => Heap.get?_none_of_le (Z.new b hb)
  have hk34 := F3.keep
  clear F3 N3
  k_steps
  have hpl' : ∀ p ∈ ps, ∃ (i : Nat) (t : Tok), i < n ∧ p.2 = .str (Txt.slice x.1 (some (i : Int)) none) t := fun p hp => hsrc p.2 (Z.srcs ▸ List.mem_map_of_mem hp)
  have hlen2 : ∀ i, i < n → (Txt.slice x.1 (some ((i : Nat) : Int)) none).length = x.1.length - i := fun i hi => by
    have h1 := congrArg List.length (slice_from (x := x.1) (i := i) (by omega))
    rw [chs_len, List.length_drop, chs_len] at h1
    exact h1
  have hpsl : ps.length = n := by rw [← hsl, ← Z.srcs, List.length_map]
  refine go (list_zip (n := x.1.length - n + 1) rfl Z.apart Z.mid ?hsz ?hle ?hmin ?hnn ?hQ9)
  case hsz => rw [hpsl]; exact Nat.le_trans (Nat.le_trans hn2 hlen) (by decide)
  case hle =>
    intro p hp
    obtain ⟨i, t, hi, e⟩ := hpl' p hp
    rw [e]
    show _ ≤ (Txt.slice x.1 (some ((i : Nat) : Int)) none).length
    rw [hlen2 i hi]
    omega
  case hmin =>
    have hlt : n - 1 < ss.length := by omega
    have hr : (List.range n)[n - 1]? = some (n - 1) := by rw [List.getElem?_range (by omega)]
    obtain ⟨b, hb, t, ht⟩ := paired_get hsp hr
    have hm : b ∈ ps.map (·.2) := Z.srcs ▸ List.mem_of_getElem? hb
    obtain ⟨p, hp, e⟩ := List.mem_map.mp hm
    refine ⟨p, hp, ?_⟩
    have e : p.2 = b := e
    rw [e, ht]
    show (Txt.slice x.1 (some ((n - 1 : Nat) : Int)) none).length = _
    rw [hlen2 (n - 1) (by omega)]
    omega
  case hnn => exact Nat.le_trans (show _ ≤ 1000 by omega) (by decide)
  intro h6 tk6 acc c bad hk6 hD6 hT6
  k_steps
  have hg5 : ∀ b, h5.get? b = none → s.heap.get? b = none := fun b hb => NT.fresh b (by
    cases q : g.get? b with
    | none => rfl
    | some o => have := F4.keep _ _ q; rw [hb] at this; cases this) (fun _ hp => nomatch hp)
  obtain ⟨tups, hG⟩ := grams_of (x := x.1) (n := n) hn2 (paired_unmap (f := fun p : Addr × Sx => p.2) (by rw [Z.srcs]; exact hsp)) hT6
  exact ret _ acc c tups _ _ (NT.back _ (fun b o e => hk6 b o (fun hb => by have := hk34 b o e; rw [hnew b hb] at this; cases this) (F4.keep b o e)) (fun _ hp => nomatch hp)) (hg5 _ (Heap.get?_none_of_le (Nat.le_refl _))) hD6
    ⟨hG.refs, hG.len, hG.each, fun p hp => ⟨hg5 _ (hG.here p hp).1, (hG.here p hp).2⟩⟩
end Mine
end

section
set_option maxRecDepth 100000
set_option Elab.async false
namespace Mine
open PySem PySem.W PySem.Spec PySem.Calls PyProof.Rows PySem.SeqAt

/-- i is the first shortest below j -/
def Least (len : Nat → Nat) (n i : Nat) : Prop := ∀ j, j < n → len i ≤ len j ∧ (j < i → len i < len j)

section
variable {prog : Program} {w : World} {A : Around} {E : Value → Shared → Prop} {R : Result → Shared → Prop} {I S : Addr} {fp wr : List Addr} {n : Nat} {P : Nat → Value → Prop} {St : Nat → Heap → Prop}

theorem min_len_loop (W : Walks prog w A.in1 I fp wr n P St) (xs : Nat → Str) (hP : ∀ i v, P i v → ∃ t, v = .str (xs i) t) (hx : ∀ i, i < n → (xs i).length ≤ 1000) (hSf : S ∉ fp) :
    ∀ (r j i : Nat) (s : Shared) (vb : Value) (tb : Tok) (c : Nat), n - j = r → j ≤ n → St j s.heap → s.heap.get? S = some (lobj #[vb, .int ((xs i).length : Nat) tb] c) → P i vb → i < j → Least (fun k => (xs k).length) j i →
    (∀ i v h' tk', P i v → i < n → Least (fun k => (xs k).length) n i → (∀ b o, b ≠ S → b ∉ wr → s.heap.get? b = some o → h'.get? b = some o) → R (.ok (.ret v)) { s with heap := h', toks := tk' }) →
    codeAny (model prog w) A (.builtin "min.loop" ⟨[.ref I, .builtin "len", .ref S], []⟩) R s := by
  have hname : (toString "min" ++ toString ".loop" : String) = "min.loop" := by decide
  have hSw : S ∉ wr := fun h => hSf (W.sub _ h)
  intro r
  induction r with
  | zero =>
    intro j i s vb tb c hr hj hst hS hvb hij hb hR
    have hin : j = n := by omega
    subst hin
    refine codeAny_builtin PySem.F.entry_min_loop ?_
    rw [Around.under_plainId PySem.F.plain_min_loop _]
    show wpAny _ A.in1 (seqItems? (.ref S) >>= _) _ _ _
    refine wpAny_bind (wpAny_seqItems hS rfl ?_)
    show wpAny _ A.in1 (tryCatch (pyNext (.ref I)) _ >>= _) _ _ _
    refine wpAny_bind (wpAny_tryCatch (W.done _ _ _ hst fun h' tk' hk' => ?_))
    have hS' := hk' S _ hSw hS
    show wpAny _ A.in1 (updateSeq S (fun _ => #[]) >>= _) _ _ _
    refine wpAny_bind ?_
    refine wpAny_updateSeq hS' rfl (wpAny_bind (wpAny_letGo (wpAny_pure ?_)))
    exact hR i vb _ _ hvb hij hb fun b o hbS hbw e => (Heap.get?_update_other _ _ (Ne.symm hbS)).trans (hk' b o hbw e)
  | succ r ih =>
    intro j i s vb tb c hr hj hst hS hvb hij hb hR
    have hlt : j < n := by omega
    refine codeAny_builtin PySem.F.entry_min_loop ?_
    rw [Around.under_plainId PySem.F.plain_min_loop _]
    show wpAny _ A.in1 (seqItems? (.ref S) >>= _) _ _ _
    refine wpAny_bind (wpAny_seqItems hS rfl ?_)
    show wpAny _ A.in1 (tryCatch (pyNext (.ref I)) _ >>= _) _ _ _
    refine wpAny_bind (wpAny_tryCatch (W.item j _ _ _ hlt hst fun v h' tk' hPv hst' hk' => ?_))
    have hS' := hk' S _ hSw hS
    obtain ⟨t, rfl⟩ := hP j v hPv
    have hl := hx j hlt
    show wpAny _ A.in1 (tryCatch (holding _ (call (.builtin "len") [.str (xs j) t])) _ >>= _) _ _ _
    refine wpAny_bind (wpAny_tryCatch (wpAny_holding (PySem.P.len_str (by omega) ?_)))
    show wpAny _ A.in1 (tryCatch (holding _ (richCompare .Lt (.int ((xs j).length : Nat) _) (.int ((xs i).length : Nat) tb) >>= _)) _ >>= _) _ _ _
    refine wpAny_bind (wpAny_tryCatch (wpAny_holding (wpAny_bind (CmpOf.ints_lt (prog := prog) (w := w) (A := A.in1) (P := fun k v => ∃ t, v = .int ((xs k).length : Nat) t) (fun k => ((xs k).length : Nat)) (fun i v h => h) j i _ _ _ _ _ ⟨_, rfl⟩ ⟨tb, rfl⟩ ?_))))
    refine wpAny_bind (wpAny_holding (wpAny_truthy_bool ?_))
    refine wpAny_bind (wpAny_letGo (wpAny_pure ?_))
    by_cases hb' : (((xs j).length : Nat) : Int) < ((xs i).length : Nat)
    · simp only [hb', decide_true, if_true]
      refine wpAny_bind ?_
      refine wpAny_updateSeq hS' rfl (wpAny_bind (wpAny_letGo ?_))
      rw [hname]
      refine wpAny_pure ⟨plainId_quiet PySem.F.plain_min_loop _, ih (j + 1) j _ _ _ _ (by omega) hlt (W.frame _ _ _ hst' fun b hbf o e => ?_) (Heap.get?_update_self _ hS' rfl) hPv (Nat.lt_succ_self _) (fun k hk => ?_) fun i' v' h'' tk'' h1 h2 h3 h4 => ?_⟩
      · exact (Heap.get?_update_other _ _ (fun q : S = b => hSf (q ▸ hbf))).trans e
      · rcases Nat.lt_succ_iff_lt_or_eq.mp hk with hk | rfl
        · have := (hb k hk).1
          simp only at this ⊢
          omega
        · simp only
          omega
      · exact hR i' v' h'' tk'' h1 h2 h3 fun b o hbS hbw e => h4 b o hbS hbw ((Heap.get?_update_other _ _ (Ne.symm hbS)).trans (hk' b o hbw e))
    · simp only [hb', decide_false, Bool.false_eq_true, if_false]
      refine wpAny_bind (wpAny_letGo ?_)
      rw [hname]
      refine wpAny_pure ⟨plainId_quiet PySem.F.plain_min_loop _, ih (j + 1) i _ _ _ _ (by omega) hlt hst' hS' hvb (by omega) (fun k hk => ?_) fun i' v' h'' tk'' h1 h2 h3 h4 => ?_⟩
      · rcases Nat.lt_succ_iff_lt_or_eq.mp hk with hk | rfl
        · exact hb k hk
        · simp only
          omega
      · exact hR i' v' h'' tk'' h1 h2 h3 fun b o hbS hbw e => h4 b o hbS hbw (hk' b o hbw e)

/-- min(a tuple of texts, key=len): the first shortest -/
theorem min_len_tup {s : Shared} {l : Addr} {vs : List (Str × Tok)} {Q : Value → Shared → Prop} (hh : A.handled = none) (hl : s.heap.IsTuple l (vtx vs).toArray) (hne : 0 < vs.length) (hx : ∀ x ∈ vs, x.1.length ≤ 1000)
    (hQ : ∀ (i : Nat) (x : Str × Tok) h' tk', vs[i]? = some x → (∀ (j : Nat) y, vs[j]? = some y → x.1.length ≤ y.1.length) → s.heap.StaysIn h' → Q (.str x.1 x.2) { s with heap := h', toks := tk' }) :
    wpAny (model prog w) A (call (.builtin "min") [.ref l] [(Str.ofString "key", .builtin "len")]) Q E s := by
  have hname : (toString "min" ++ toString ".loop" : String) = "min.loop" := by decide
  refine kmb_tree PySem.F.kind_min PySem.F.plain_min PySem.F.entry_min (kmb_min_key _ _) ?_
  show wpAny _ A.in1 (Builtin.Builtins.bindParams "min" ["key", "default"] 0 ⟨[], [(Str.ofString "key", .builtin "len")]⟩ >>= _) _ _ s
  refine wpAny_bind (wpAny_of_eq (show Builtin.Builtins.bindParams "min" ["key", "default"] 0 ⟨[], [(Str.ofString "key", .builtin "len")]⟩ = pure [some (.builtin "len"), none] from rfl) ?_)
  refine wpAny_bind (wpAny_pure ?_)
  refine wpAny_bind (wpAny_pyIter_tuple hl ?_)
  refine wpAny_bind (wpAny_newList ?_ (Nat.zero_le _))
  rw [hname]
  refine wpAny_pure ⟨plainId_quiet PySem.F.plain_min_loop _, ?_⟩
  generalize hs1 : s.heap.push { cls := .type "tuple_iterator", data := .fields #[.ref l, .int 0 0] } = h1
  have hlt : l < s.heap.objs.size := by obtain ⟨_, e, _⟩ := hl; exact Heap.lt_size e
  have hlI : l ≠ s.heap.objs.size := Nat.ne_of_lt hlt
  have hI1 : h1.get? s.heap.objs.size = some { cls := .type "tuple_iterator", data := .fields #[.ref l, .int 0 0] } := by rw [← hs1]; exact Heap.get?_push_size _ rfl
  have up1 : s.heap.StaysIn h1 := fun b o e => by rw [← hs1]; exact Heap.get?_push_of_some _ e
  have hsz1 : h1.objs.size = s.heap.objs.size + 1 := by rw [← hs1, Heap.size_push]
  have up2 : s.heap.StaysIn (h1.push (lobj #[] 0)) := fun b o e => Heap.get?_push_of_some _ (up1 b o e)
  have hS2 : (h1.push (lobj #[] 0)).get? h1.objs.size = some (lobj #[] 0) := Heap.get?_push_size _ rfl
  have hSI : h1.objs.size ≠ s.heap.objs.size := by rw [hsz1]; exact Nat.ne_of_gt (Nat.lt_succ_self _)
  have hSl : h1.objs.size ≠ l := by rw [hsz1]; exact Nat.ne_of_gt (Nat.lt_succ_of_lt hlt)
  have W := Walks.tuple (prog := prog) (w := w) (A := A.in1) hh s.heap.objs.size l hlI (vtx vs).toArray
  have hsz : (vtx vs).toArray.size = vs.length := by simp
  have hst0 : (h1.push (lobj #[] 0)).IsTupleIter s.heap.objs.size l 0 ∧ (h1.push (lobj #[] 0)).IsTuple l (vtx vs).toArray :=
    ⟨⟨_, Heap.get?_push_of_some _ hI1, rfl, rfl⟩, by obtain ⟨o, ho, r⟩ := hl; exact ⟨o, up2 _ _ ho, r⟩⟩
  have hSf : h1.objs.size ∉ [s.heap.objs.size, l] := fun hm => by
    rcases List.mem_cons.mp hm with q | hm
    · exact hSI q
    · exact hSl (List.mem_singleton.mp hm)
  have hPs : ∀ (i : Nat) v, (vtx vs).toArray[i]? = some v → ∃ x, vs[i]? = some x ∧ v = .str x.1 x.2 := fun i v e => by
    have e : (vtx vs)[i]? = some v := by simpa using e
    rw [vtx, List.getElem?_map] at e
    cases q : vs[i]? with
    | none => rw [q] at e; cases e
    | some x => rw [q] at e; exact ⟨x, rfl, (Option.some.inj e).symm⟩
  have hgd : ∀ (i : Nat) x, vs[i]? = some x → (vs.map (·.1)).getD i Str.empty = x.1 := fun i x e => by
    rw [List.getD_eq_getElem?_getD, List.getElem?_map, e]; rfl
  refine codeAny_builtin PySem.F.entry_min_loop ?_
  rw [Around.under_plainId PySem.F.plain_min_loop _]
  show wpAny _ A.in1 (seqItems? (.ref _) >>= _) _ _ _
  refine wpAny_bind (wpAny_seqItems hS2 rfl ?_)
  show wpAny _ A.in1 (tryCatch (pyNext (.ref s.heap.objs.size)) _ >>= _) _ _ _
  refine wpAny_bind (wpAny_tryCatch (W.item 0 _ _ _ (by rw [hsz]; exact hne) hst0 fun v h' tk' hPv hst' hk' => ?_))
  obtain ⟨x0, hx0, rfl⟩ := hPs 0 v hPv
  have hl0 := hx x0 (List.mem_of_getElem? hx0)
  have hS3 := hk' h1.objs.size _ (by simpa using hSI) hS2
  show wpAny _ A.in1 (tryCatch (holding _ (call (.builtin "len") [.str x0.1 x0.2])) _ >>= _) _ _ _
  refine wpAny_bind (wpAny_tryCatch (wpAny_holding (PySem.P.len_str (by omega) ?_)))
  show wpAny _ A.in1 (updateSeq h1.objs.size (fun _ => #[.str x0.1 x0.2, .int (x0.1.length : Nat) _]) >>= _) _ _ _
  refine wpAny_bind ?_
  obtain ⟨c4, hS4⟩ : ∃ c4, (h'.update h1.objs.size (Obj.mapSeq fun _ => #[.str x0.1 x0.2, .int (x0.1.length : Nat) (tk' + 1)])).get? h1.objs.size = some (lobj #[.str x0.1 x0.2, .int (((vs.map (·.1)).getD 0 Str.empty).length : Nat) (tk' + 1)] c4) := ⟨_, by rw [hgd 0 x0 hx0]; exact Heap.get?_update_self _ hS3 rfl⟩
  refine wpAny_updateSeq hS3 rfl ?_
  rw [hname]
  refine wpAny_pure ⟨plainId_quiet PySem.F.plain_min_loop _, min_len_loop W (fun i => (vs.map (·.1)).getD i Str.empty) (fun i v e => ?_) (fun i hi => ?_) hSf _ 1 0 _ _ _ _ rfl (by rw [hsz]; omega) (W.frame _ _ _ hst' fun b hb o e => ?_) hS4 hPv Nat.zero_lt_one (fun j hj => ?_) fun i v h'' tk'' h1' h2 h3 h4 => ?_⟩
  · obtain ⟨x, hx', rfl⟩ := hPs i v e
    exact ⟨x.2, by rw [hgd i x hx']⟩
  · have hi' : i < vs.length := by rw [hsz] at hi; exact hi
    have e : vs[i]? = some vs[i] := List.getElem?_eq_getElem hi'
    rw [hgd i _ e]
    exact hx _ (List.getElem_mem _)
  · exact (Heap.get?_update_other _ _ (fun q : h1.objs.size = b => hSf (q ▸ hb))).trans e
  · have e : j = 0 := by omega
    subst e
    exact ⟨Nat.le_refl _, fun h => absurd h (Nat.lt_irrefl _)⟩
  · obtain ⟨x, hxi, rfl⟩ := hPs i v h1'
    refine hQ i x h'' tk'' hxi (fun j y hy => ?_) fun b o e => ?_
    · have hj : j < vs.length := (List.getElem?_eq_some_iff.mp hy).1
      have := (h3 j (by rw [hsz]; exact hj)).1
      simp only at this
      rw [hgd i x hxi, hgd j y hy] at this
      exact this
    · have hbS : b ≠ h1.objs.size := fun q => by have := Heap.lt_size e; rw [q, hsz1] at this; exact absurd this (Nat.not_lt_of_le (Nat.le_succ _))
      have hbI : b ∉ [s.heap.objs.size] := fun hm => by have := Heap.lt_size e; rw [List.mem_singleton.mp hm] at this; exact Nat.lt_irrefl _ this
      exact h4 b o hbS hbI ((Heap.get?_update_other _ _ (Ne.symm hbS)).trans (hk' b o hbI (up2 b o e)))
end
end Mine
end

section
set_option maxRecDepth 100000
set_option Elab.async false
namespace Mine
open PySem PySem.W PySem.Spec PySem.Calls PyProof.Rows
section
variable {prog : Program} {w : World} {A₀ A : Around} {s : Shared} {K : Frag} {L : Addr} {h₀ base : Heap} {m mg mb : Str → Option Value} {news : List (Addr × Obj)} {p : Program} {loose : List Str} {mean : ExcName → Option Value}
variable {env : Env} {outer : List Env} {R : Result → Shared → Prop} {name qual : Str} {params : Arguments} {body : List Stmt} {scope : Scope} {dV kV doc pm cdv ct oc : Value} {an od : Option Addr} {osl : Array (Option Value)} {f : Addr} {args : Args}

/-- entering a def with a rest of arguments: the tuple counts as standing -/
theorem enter_restB {vs : List Value} {g₁ : Addr → Option (List (Str × Value))} {binds : Addr → List (Str × Value)}
    (B : Below A₀ base outer h₀) (F : Fr h₀ L s.heap m) (X₀ : K.In h₀) (T : Top p loose mean mg mb h₀) (hA : A.frames = some (env :: outer)) (hf : env.frame = some L) (hke : env.scope.kind = .function)
    (ho : K.lookup f = some ⟨oc, od, .func (fnOf name qual params body scope dV kV doc pm an cdv ct), osl⟩) (hcd : codeIn K cdv qual = true) (hroom : A.depth < recursionLimit)
    (hv : args.pos.drop (params.posonlyargs.length + params.args.length) = vs)
    (hp : peek1 K ⟨prog, w.params⟩ (bindArgs (fnOf name qual params body scope dV kV doc pm an cdv ct) args) = some (tupOf vs, g₁))
    (hg : ∀ D, g₁ D = some (binds D)) (hloc : ∀ D, ∀ y ∈ binds D, scope.names.lookup y.1 = some .local)
    (h : ∀ D g L' h₁, Fr g L' h₁ (fun y => (binds D).reverse.lookup y) → g.get? D = some (tupOf vs) → Below A base (env :: outer) g → K.In g → Top p loose mean mg mb g → (∀ h', g.StaysIn h' → s.heap.StaysIn h') → (∀ r, g.get? r = none → s.heap.get? r = none) →
      wpAny (model prog w) (A.deeper (envOf qual scope L' f cdv)) (execs body (envOf qual scope L' f cdv))
        (fun fl s' => R (.ok (.ret (match fl with | .ret v => v | _ => .none))) s')
        (fun e s' => wpAny (model prog w) (A.deeper (envOf qual scope L' f cdv)) (leaving (envOf qual scope L' f cdv) e) (fun _ s'' => R (.error e) s'') (fun e' s'' => R (.error e') s'') s')
        { s with heap := h₁, toks := s.toks + (binds D).length })
    (hco : scope.isCoroutine = false) (hgen : scope.isGenerator = false) (hk : scope.kind = .function)
    (hcell : ∀ x ∈ scope.names, x.2 ≠ .cell) : codeAny (model prog w) A (.call (.ref f) args) R s := by
  have _ := hv
  refine codeAny_call_function (fd := fnOf name qual params body scope dV kV doc pm an cdv ct) (body := body) hroom ((X₀.keeps F.keep) _ _ ho) rfl hco hgen rfl (codeRec_of (X₀.keeps F.keep) hcd) ?_
  refine wp_made1 (o := tupOf vs) (X₀.keeps F.keep) (r := binds) ?_ _ g₁ hp hg
  have F' : Fr h₀ L (s.heap.push (tupOf vs)) m := F.push _
  have N' : News h₀ L (s.heap.push (tupOf vs)) [] := News.nil
  obtain ⟨FG, BG⟩ := ground_of (s := { s with heap := s.heap.push (tupOf vs) }) (A := A) B F' N' hA hf hke
  have st := ent_of F' N'
  refine wpAny_newFunctionEnv hcell (hloc _) (fun h₁ hns hsb => ⟨(T.nolimit.keeps F'.keep).fresh _ hsb, codeAny_func ?_⟩) hk
  have hk₁ : ∀ b o, (s.heap.push (tupOf vs)).get? b = some o → h₁.get? b = some o := fun b o e => hsb.extBut b o (Nat.ne_of_lt (Heap.lt_size e)) (Heap.get?_push_of_some _ e)
  refine h _ _ (s.heap.push (tupOf vs)).objs.size h₁ ⟨hns, fun b o e => hk₁ b o (of_hideAll _ e), Nat.le_of_eq (hideAll_size _ _)⟩ (hideAll_get _ (Heap.get?_push_size _ rfl) (by simp)) BG (X₀.keeps st.below) (T.keeps st.below) (fun h' hk' b o e => ?_) (fun r hr => ?_)
  · exact hk' b o (hideAll_get _ (Heap.get?_push_of_some _ e) (by simp))
  · cases q : s.heap.get? r with
    | none => rfl
    | some o =>
      have := hideAll_get ([] : List Addr) (Heap.get?_push_of_some (tupOf vs) q) (by simp)
      rw [show (([] : List (Addr × Obj)).map (·.1)) = [] from rfl] at hr
      rw [hr] at this; cases this
end

section
variable {prog : Program} {w : World} {A : Around}
theorem Walks.wider {I : Addr} {fp wr wr' : List Addr} {n : Nat} {P : Nat → Value → Prop} {St : Nat → Heap → Prop} (W : Walks prog w A I fp wr n P St) (h1 : ∀ b ∈ wr, b ∈ wr') (h2 : ∀ b ∈ wr', b ∈ fp) : Walks prog w A I fp wr' n P St where
  sub := h2
  frame := W.frame
  item := fun i s Q E hi st hQ => W.item i s Q E hi st fun v h' tk hP hst hk => hQ v h' tk hP hst fun b o hb e => hk b o (fun h => hb (h1 b h)) e
  done := fun s Q E st hQ => W.done s Q E st fun h' tk hk => hQ h' tk fun b o hb e => hk b o (fun h => hb (h1 b h)) e
  self := W.self
end

section
variable {prog : Program} {w : World} {A : Around} {E : Value → Shared → Prop} {s : Shared} {env : Env} {h₀ : Heap} {L : Addr} {Q : Flow → Shared → Prop}

theorem newAddr_base (F : Fr h₀ L s.heap m) : h₀.get? s.heap.objs.size = none ∧ s.heap.objs.size ≠ L := by
  refine ⟨?_, Nat.ne_of_gt F.ns.lt⟩
  cases q : h₀.get? s.heap.objs.size with
  | none => rfl
  | some o => exact absurd (Heap.lt_size (F.keep _ _ q)) (Nat.lt_irrefl _)

/-- a for over a list at hand -/
theorem at_list {target : Expr} {body orelse : List Stmt} {l : Addr} {ol : Obj} {vs : List Value} {m : Str → Option Value} {nx : List (Addr × Obj)}
    (J : Nat → (Str → Option Value) → List (Addr × Obj) → Prop) (B : Shared → Prop) (Rt : Value → Shared → Prop)
    (hh : A.handled = none) (F : Fr h₀ L s.heap m) (N : News h₀ L s.heap ((l, ol) :: nx)) (hl : s.heap.IsList l vs.toArray) (hnl : ∀ p ∈ nx, p.1 ≠ l) (hJ : J 0 m nx)
    (turn : ∀ I i v m₁ nx₁ h tk oI ol, vs[i]? = some v → (∀ p ∈ nx₁, p.1 ∉ [I, l]) → J i m₁ nx₁ → Fr h₀ L h m₁ → News h₀ L h ((I, oI) :: (l, ol) :: nx₁) →
      wpAny (model prog w) A (assign target env v) (fun _ s₂ => wpAny (model prog w) A (execs body env) (FStep h₀ L s [(I, oI), (l, ol)] [I, l] (J (i + 1)) B Rt) E s₂) E { s with heap := h, toks := tk })
    (done : ∀ m' nx' h' tk, Fr h₀ L h' m' → News h₀ L h' nx' → J vs.length m' nx' → wpAny (model prog w) A (execs orelse env) Q E { s with heap := h', toks := tk })
    (hB : ∀ s', B s' → Q .next s') (hRt : ∀ v s', Rt v s' → Q (.ret v) s') :
    wpAny (model prog w) A (pyIter (.ref l)) (fun it s₂ => ForAt prog w A E Q env target body orelse h₀ L it s₂) E s := by
  refine wpAny_pyIter_list hl ?_
  have hlt : l < s.heap.objs.size := by obtain ⟨_, e, _⟩ := hl; exact Heap.lt_size e
  have hlI : l ≠ s.heap.objs.size := Nat.ne_of_lt hlt
  have W := Walks.wider (wr' := [s.heap.objs.size, l]) (Walks.list (prog := prog) (w := w) hh s.heap.objs.size l hlI vs.toArray) (fun b hb => by rw [List.mem_singleton.mp hb]; exact .head _) (fun b hb => hb)
  have hsz : vs.toArray.size = vs.length := by simp
  rw [hsz] at W
  obtain ⟨n1, n2⟩ := newAddr_base F
  have hnew : s.heap.get? s.heap.objs.size = none := Heap.get?_none_of_le (Nat.le_refl _)
  have hnl0 := N _ (.head _)
  refine ⟨_, _, _, vs.length, _, _, m, nx, J, B, Rt, rfl, W, ?_, ?_, fun b hb => .inl hb, ⟨⟨_, Heap.get?_push_size _ rfl, rfl, rfl⟩, hl.push _⟩, F.push _, (fun p hp => ⟨Heap.get?_push_of_some _ (N p (.tail _ hp)).1, (N p (.tail _ hp)).2⟩), fun p hp hm => ?_, hJ, ?_, fun m' nx' h' tk F' N' j => done m' nx' h' tk F' N' j, hB, hRt⟩
  · intro b hb
    rcases List.mem_cons.mp hb with rfl | hb
    · exact ⟨n1, n2⟩
    · rw [List.mem_singleton.mp hb]; exact ⟨hnl0.2.2, hnl0.2.1⟩
  · intro i h st b hb
    rcases List.mem_cons.mp hb with rfl | hb
    · obtain ⟨⟨o, ho, _⟩, _⟩ := st; exact ⟨o, ho⟩
    · rw [List.mem_singleton.mp hb]; obtain ⟨_, ⟨o, ho, _⟩⟩ := st; exact ⟨o, ho⟩
  · rcases List.mem_cons.mp hm with q | hm
    · have := (N p (.tail _ hp)).1
      rw [q, hnew] at this; cases this
    · exact hnl p hp (List.mem_singleton.mp hm)
  · intro i v m₁ nx₁ h tk own hi hP hown hne hJ₁ F₁ N₁
    obtain ⟨a0, a1, o0, o1, rfl, e⟩ : ∃ a0 a1 o0 o1, own = [(a0, o0), (a1, o1)] ∧ [s.heap.objs.size, l] = [a0, a1] := by
      cases own with
      | nil => cases hown
      | cons p r => cases r with
        | nil => simp at hown
        | cons q r => cases r with
          | nil => obtain ⟨b, o⟩ := p; obtain ⟨b', o'⟩ := q; exact ⟨b, b', o, o', rfl, hown.symm⟩
          | cons x y => simp at hown
    simp only [List.cons.injEq, and_true] at e
    obtain ⟨rfl, rfl⟩ := e
    exact turn _ i v m₁ nx₁ h tk o0 o1 (by simpa using hP) hne hJ₁ F₁ N₁

/-- a for over a tuple that stands -/
theorem at_tupB {target : Expr} {body orelse : List Stmt} {l : Addr} {vs : List Value} {m : Str → Option Value} {nx : List (Addr × Obj)}
    (J : Nat → (Str → Option Value) → List (Addr × Obj) → Prop) (B : Shared → Prop) (Rt : Value → Shared → Prop)
    (hh : A.handled = none) (F : Fr h₀ L s.heap m) (N : News h₀ L s.heap nx) (hl : h₀.IsTuple l vs.toArray) (hJ : J 0 m nx)
    (turn : ∀ I i v m₁ nx₁ h tk oI, vs[i]? = some v → (∀ p ∈ nx₁, p.1 ≠ I) → J i m₁ nx₁ → Fr h₀ L h m₁ → News h₀ L h ((I, oI) :: nx₁) →
      wpAny (model prog w) A (assign target env v) (fun _ s₂ => wpAny (model prog w) A (execs body env) (FStep h₀ L s [(I, oI)] [I] (J (i + 1)) B Rt) E s₂) E { s with heap := h, toks := tk })
    (done : ∀ m' nx' h' tk, Fr h₀ L h' m' → News h₀ L h' nx' → J vs.length m' nx' → wpAny (model prog w) A (execs orelse env) Q E { s with heap := h', toks := tk })
    (hB : ∀ s', B s' → Q .next s') (hRt : ∀ v s', Rt v s' → Q (.ret v) s') :
    wpAny (model prog w) A (pyIter (.ref l)) (fun it s₂ => ForAt prog w A E Q env target body orelse h₀ L it s₂) E s := by
  have hl' : s.heap.IsTuple l vs.toArray := by obtain ⟨o, ho, r⟩ := hl; exact ⟨o, F.keep _ _ ho, r⟩
  refine wpAny_pyIter_tuple hl' ?_
  have hlt : l < s.heap.objs.size := by obtain ⟨_, e, _⟩ := hl'; exact Heap.lt_size e
  have hlI : l ≠ s.heap.objs.size := Nat.ne_of_lt hlt
  have W := Walks.tuple (prog := prog) (w := w) hh s.heap.objs.size l hlI vs.toArray
  have hsz : vs.toArray.size = vs.length := by simp
  rw [hsz] at W
  obtain ⟨n1, n2⟩ := newAddr_base F
  have hnew : s.heap.get? s.heap.objs.size = none := Heap.get?_none_of_le (Nat.le_refl _)
  refine ⟨_, _, _, vs.length, _, _, m, nx, J, B, Rt, rfl, W, ?_, ?_, ?_, ⟨⟨_, Heap.get?_push_size _ rfl, rfl, rfl⟩, by obtain ⟨o, ho, r⟩ := hl'; exact ⟨o, Heap.get?_push_of_some _ ho, r⟩⟩, F.push _, (fun p hp => ⟨Heap.get?_push_of_some _ (N p hp).1, (N p hp).2⟩), fun p hp hm => ?_, hJ, ?_, fun m' nx' h' tk F' N' j => done m' nx' h' tk F' N' j, hB, hRt⟩
  · intro b hb
    rw [List.mem_singleton.mp hb]
    exact ⟨n1, n2⟩
  · intro i h st b hb
    rw [List.mem_singleton.mp hb]
    obtain ⟨⟨o, ho, _⟩, _⟩ := st
    exact ⟨o, ho⟩
  · intro b hb
    rcases List.mem_cons.mp hb with rfl | hb
    · exact .inl (.head _)
    · rw [List.mem_singleton.mp hb]
      obtain ⟨o, ho, _⟩ := hl
      exact .inr ⟨o, ho⟩
  · have := (N p hp).1
    rw [List.mem_singleton.mp hm, hnew] at this; cases this
  · intro i v m₁ nx₁ h tk own hi hP hown hne hJ₁ F₁ N₁
    obtain ⟨oI, rfl⟩ := own_one hown
    exact turn _ i v m₁ nx₁ h tk oI (by simpa using hP) (fun p hp e => hne p hp (List.mem_singleton.mpr e)) hJ₁ F₁ N₁

/-- a for over a range downward -/
theorem at_rangeD {target : Expr} {body orelse : List Stmt} {r : Addr} {n : Nat} {t₀ u₀ v₀ : Tok} {m : Str → Option Value} {nx : List (Addr × Obj)}
    (J : Nat → (Str → Option Value) → List (Addr × Obj) → Prop) (B : Shared → Prop) (Rt : Value → Shared → Prop)
    (hh : A.handled = none) (hr : IsRange s.heap r (n : Int) 0 (-1) t₀ u₀ v₀) (hn : n ≤ 1000)
    (F : Fr h₀ L s.heap m) (N : News h₀ L s.heap nx) (hJ : J 0 m nx)
    (turn : ∀ I i t m₁ nx₁ h tk oI, i < n → (∀ p ∈ nx₁, p.1 ≠ I) → J i m₁ nx₁ → Fr h₀ L h m₁ → News h₀ L h ((I, oI) :: nx₁) →
      wpAny (model prog w) A (assign target env (.int ((n - i : Nat) : Int) t)) (fun _ s₂ => wpAny (model prog w) A (execs body env) (FStep h₀ L s [(I, oI)] [I] (J (i + 1)) B Rt) E s₂) E { s with heap := h, toks := tk })
    (done : ∀ m' nx' h' tk, Fr h₀ L h' m' → News h₀ L h' nx' → J n m' nx' → wpAny (model prog w) A (execs orelse env) Q E { s with heap := h', toks := tk })
    (hB : ∀ s', B s' → Q .next s') (hRt : ∀ v s', Rt v s' → Q (.ret v) s') :
    wpAny (model prog w) A (pyIter (.ref r)) (fun it s₂ => ForAt prog w A E Q env target body orelse h₀ L it s₂) E s := by
  refine wpAny_pyIter_range hr (small_down (by omega) (by omega) (by omega) (by omega)) ?_
  have hsz : Builtin.Range.rangeSize (n : Int) 0 (-1) = (n : Int) := by rw [rangeSize_down]; split <;> omega
  have W : Walks prog w A s.heap.objs.size [s.heap.objs.size] [s.heap.objs.size] n (fun i v => i < n ∧ ∃ t, v = .int ((n : Int) + i * (-1)) t)
      (fun i h => IsRangeIter h s.heap.objs.size ((n : Int) + (i : Nat) * (-1)) ((n : Int) - (i : Nat)) (-1)) := (Walks.range hh _ (n : Int) (-1) n).bound
  obtain ⟨n1, n2⟩ := newAddr_base F
  have hnew : s.heap.get? s.heap.objs.size = none := Heap.get?_none_of_le (Nat.le_refl _)
  refine ⟨_, _, _, n, _, _, m, nx, J, B, Rt, rfl, W, ?_, ?_, fun b hb => .inl hb, (by show IsRangeIter _ _ _ _ _; rw [hsz]; simpa using Heap.get?_push_size _ rfl), F.push _, (fun p hp => ⟨Heap.get?_push_of_some _ (N p hp).1, (N p hp).2⟩), fun p hp hm => ?_, hJ, ?_, fun m' nx' h' tk F' N' j => done m' nx' h' tk F' N' j, hB, hRt⟩
  · intro b hb
    rw [List.mem_singleton.mp hb]
    exact ⟨n1, n2⟩
  · intro i h st b hb
    rw [List.mem_singleton.mp hb]
    exact ⟨_, st⟩
  · have := (N p hp).1
    rw [List.mem_singleton.mp hm, hnew] at this; cases this
  · rintro i v m₁ nx₁ h tk own hlt ⟨_, t, rfl⟩ hown hne hJ₁ F₁ N₁
    obtain ⟨oI, rfl⟩ := own_one hown
    have e1 : (n : Int) + (i : Int) * (-1) = ((n - i : Nat) : Int) := by omega
    rw [e1]
    exact turn _ i t m₁ nx₁ h tk oI hlt (fun p hp e => hne p hp (List.mem_singleton.mpr e)) hJ₁ F₁ N₁
end
end Mine
end

section
theorem Mine.calm_Custom : True := by
  w_top off
  trivial
open PySem PySem.SeqAt PySem.W PyProof.Rows PySem.Spec PySem.Calls
set_option Elab.async false
namespace Mine

local macro_rules | `(tactic| walk_at "call ref") => `(tactic| refine halt ?_)
local macro_rules | `(tactic| walk_at "call builtin:min") => `(tactic| refine halt ?_)
local macro_rules | `(tactic| walk_at "call builtin:str.join") => `(tactic| refine halt ?_)
local macro_rules | `(tactic| walk_at "exec For") => `(tactic| refine halt ?_)
local macro_rules | `(tactic| walk_at "exec For Name Call cons nil") => `(tactic| refine halt ?_)
local macro_rules | `(tactic| walk_at "pyIter ref") => `(tactic| refine halt ?_)
local macro_rules | `(tactic| walk_at "call builtin:len") => `(tactic| ((with_reducible show wpAny _ _ (call (Value.builtin "len") [Value.str _ _]) _ _ _); refine len_str (by omega) ?_))

def cusM (S q sh le : Value) (vn vu vj vq : Option Value) : Str → Option Value := fun y =>
  if y = Str.ofString "seq" then vq else if y = Str.ofString "joined" then vj else if y = Str.ofString "subseq" then vu else if y = Str.ofString "n" then vn else if y = Str.ofString "length" then some le else
  if y = Str.ofString "short" then some sh else if y = Str.ofString "sequences" then some q else if y = Str.ofString "self" then some S else none
theorem cusM_seq {S q sh le v : Value} {vn vu vj vq : Option Value} : (fun y => if y = Str.ofString "seq" then some v else cusM S q sh le vn vu vj vq y) = cusM S q sh le vn vu vj (some v) := by
  funext y
  by_cases h : y = Str.ofString "seq"
  · subst h; simp (decide := true) [cusM]
  · simp [cusM, h]
theorem cusM_joined {S q sh le v : Value} {vn vu vj vq : Option Value} : (fun y => if y = Str.ofString "joined" then some v else cusM S q sh le vn vu vj vq y) = cusM S q sh le vn vu (some v) vq := by
  funext y
  by_cases h : y = Str.ofString "joined"
  · subst h; simp (decide := true) [cusM]
  · simp [cusM, h]
theorem cusM_subseq {S q sh le v : Value} {vn vu vj vq : Option Value} : (fun y => if y = Str.ofString "subseq" then some v else cusM S q sh le vn vu vj vq y) = cusM S q sh le vn (some v) vj vq := by
  funext y
  by_cases h : y = Str.ofString "subseq"
  · subst h; simp (decide := true) [cusM]
  · simp [cusM, h]
theorem cusM_n {S q sh le v : Value} {vn vu vj vq : Option Value} : (fun y => if y = Str.ofString "n" then some v else cusM S q sh le vn vu vj vq y) = cusM S q sh le (some v) vu vj vq := by
  funext y
  by_cases h : y = Str.ofString "n"
  · subst h; simp (decide := true) [cusM]
  · simp [cusM, h]
theorem cusM_ju {S q sh le v u : Value} {vn vu vj vq : Option Value} : (fun y => if y = Str.ofString "joined" then some v else if y = Str.ofString "subseq" then some u else cusM S q sh le vn vu vj vq y) = cusM S q sh le vn (some u) (some v) vq := by
  funext y
  by_cases h : y = Str.ofString "joined"
  · subst h; simp (decide := true) [cusM]
  by_cases h2 : y = Str.ofString "subseq"
  · subst h2; simp (decide := true) [cusM]
  simp [cusM, h, h2]
theorem cusM_init {S q sh le : Value} : (fun y => if y = Str.ofString "length" then some le else if y = Str.ofString "short" then some sh else if y = Str.ofString "sequences" then some q else if y = Str.ofString "self" then some S else none) = cusM S q sh le none none none none := by
  funext y
  unfold cusM
  by_cases h1 : y = Str.ofString "seq"
  · subst h1; simp (decide := true)
  by_cases h2 : y = Str.ofString "joined"
  · subst h2; simp (decide := true)
  by_cases h3 : y = Str.ofString "subseq"
  · subst h3; simp (decide := true)
  by_cases h4 : y = Str.ofString "n"
  · subst h4; simp (decide := true)
  simp [h1, h2, h3, h4]

theorem news_tups {g h h' : Heap} {L : Addr} {m : Str → Option Value} {nx tups : List (Addr × Obj)} (F : Fr g L h m) (N : News g L h nx) (hst : h.StaysIn h') (ht : ∀ p ∈ tups, h.get? p.1 = none ∧ h'.get? p.1 = some p.2) : News g L h' (nx ++ tups) := fun p hp => by
  rcases List.mem_append.mp hp with hp | hp
  · exact N.grown hst p hp
  · exact news_put F (News.nil (h₀ := g)) (ht p hp).1 (ht p hp).2 p (.head _)
/-- at a the n letters of c stand in all -/
def ComAt (c : List Nat) (ds : List (List Nat)) (a n : Nat) : Prop := a + n ≤ c.length ∧ ∀ d ∈ ds, Has d ((c.drop a).take n)
def CusJ (M : Option Value → Option Value → Option Value → Option Value → Str → Option Value) (led : List (Addr × Obj)) (pn : Option Value → Prop) (no : Prop) (m : Str → Option Value) (nx : List (Addr × Obj)) : Prop :=
  ∃ vn vu vj vq, nx = led ∧ pn vn ∧ m = M vn vu vj vq ∧ no
/-- what _custom gives back -/
structure CusR (c : List Nat) (ds : List (List Nat)) (r : List Nat) : Prop where
  has : ∀ d ∈ ds, Has d r
  no : ∀ a n, ComAt c ds a n → n ≤ r.length
def CusEnd (g : Heap) (s : Shared) (c : List Nat) (ds : List (List Nat)) (v : Value) (s' : Shared) : Prop :=
  ∃ (r : Str) (t : Tok) (h' : Heap) (tk : Nat), v = .str r t ∧ s' = { s with heap := h', toks := tk } ∧ g.StaysIn h' ∧ CusR c ds (chs r)
set_option maxRecDepth 100000 in
set_option maxHeartbeats 8000000 in

theorem custom_spec {w : World} {p : Program} {loose : List Str} {mean : ExcName → Option Value} {mg mb : Str → Option Value}
    {dp un : Nat} {gd : Option (List Code)} {cn : Str} {cs : Scope} {a : Addr} {ccd : Value} {cl : List (Str × Addr)} {outer : List Env} {A₀ : Around} {base h₀ : Heap} {L : Addr} {m : Str → Option Value} {s : Shared}
    {Q E : Value → Shared → Prop} (B : Below A₀ base outer h₀) (F : Fr h₀ L s.heap m) (X : (hd.heap_39 w.params).In h₀) (T : Top p loose mean mg mb h₀) (hk : cs.kind = .function)
    (hd : dp + 30 < recursionLimit) (hu : un + 400 < cLine)
  (S : Addr) (x0 x1 x2 : Str × Tok) (hx : ∀ x ∈ [x0, x1, x2], Low x.1)
  (ret : ∀ (r : Str) t (sh : Str × Tok) h' tk', s.heap.StaysIn h' → sh ∈ [x0, x1, x2] → CusR (chs sh.1) [chs x0.1, chs x1.1, chs x2.1] (chs r) → Q (.str r t) { s with heap := h', toks := tk' }) :
  codeAny (model PySem.Challenge.rw_fu0023_01.row.prog w) (ktrTop dp un gd cn cs L a ccd cl outer) (.call (.ref 204) ⟨[.ref S, .str x0.1 x0.2, .str x1.1 x1.2, .str x2.1 x2.2], []⟩) (fun r s' => match r with | .ok (.ret v) => Q v s' | .ok _ => False | .error e => E e s') s := by
  revert X; k_fill; intro X
  k_dflt (refine' enter_restB ?k1 ?k2 ?k3 ?k5 ?kA ?kF ?kK ?k6 ?k7 ?k8 ?kV ?kP ?kG ?kB ?_ ?c2 ?c3 ?c4 ?c5; (case kA => exact rfl); (case kF => exact rfl); (case kK => first | exact rfl | assumption); (case k1 => k_asm); (case k2 => k_asm); (case k3 => k_asm); (case k5 => k_asm); (case k6 => k_is); (case k7 => k_is); (case k8 => ktr_room); (case kV => first | kl_lit | exact rfl); (case kP => exact rfl); (case kG => exact fun _ => rfl); (case kB => exact fun _ => locs rfl); (case c5 => decide); (case c2 => exact rfl); (case c3 => exact rfl); (case c4 => exact rfl); k_whole); intro D g L1 h1 F1 hD B1 X1 T1 hback hfresh; (try dsimp only)
  replace F1 : Fr g L1 h1 _ := lk2 ▸ F1
  have N1 : News g L1 h1 [] := News.nil
  have hDg : g.IsTuple D (vtx [x0, x1, x2]).toArray := ⟨_, hD, rfl, _, rfl⟩
  have hD1 : h1.IsTuple D (vtx [x0, x1, x2]).toArray := ⟨_, F1.keep _ _ hD, rfl, _, rfl⟩
  all_goals (try k_fold)
  k_steps
  refine go (min_len_tup (vs := [x0, x1, x2]) rfl hD1 (by simp) (fun x hx' => Nat.le_trans (hx x hx').short (by decide)) ?_)
  intro ish sh h2 tk2 hsh hmin hst2
  have F2 := F1.keeps hst2
  have N2 : News g L1 h2 [] := News.nil
  clear F1 N1 hD1
  have hshm := List.mem_of_getElem? hsh
  have hlsh := (hx sh hshm).short
  k_steps
  refine go (for_at g L1 ?_)
  k_steps
  rename IsRange _ _ _ _ _ _ _ _ => hr
  rename Fr _ _ _ _ => F3
  rename News _ _ _ _ => N3
  obtain ⟨tl, F3⟩ : ∃ tl, Fr g L1 _ ((cusM (.ref S) (.ref D) (.str sh.1 sh.2) (.int sh.1.length tl)) none none none none) := ⟨_, fr_cast F3 cusM_init⟩
  refine go (at_rangeD (n := sh.1.length) (fun i => CusJ (cusM (.ref S) (.ref D) (.str sh.1 sh.2) (.int sh.1.length tl)) [] (fun _ => True) (∀ a n, sh.1.length - i < n → ¬ ComAt (chs sh.1) [chs x0.1, chs x1.1, chs x2.1] a n)) (fun _ => False) (CusEnd g s (chs sh.1) [chs x0.1, chs x1.1, chs x2.1]) rfl hr (by omega) F3 N3
    ⟨none, none, none, none, rfl, trivial, rfl, fun a n h1 h2 => by have := h2.1; rw [chs_len] at this; omega⟩ ?turn ?done (fun _ h => h.elim) ?hRt)
  case hRt =>
    rintro v s' ⟨r, t, h', tk, rfl, rfl, hst, hR⟩
    exact ret r t sh h' tk (hback _ hst) hshm hR
  case turn =>
    clear hr F3 N3
    rintro I i ti m1 nx1 h4 tk4 oI hi hne ⟨vn, vu, vj, vq, rfl, _, rfl, hno⟩ F4 N4
    replace N4 : News g L1 h4 [(I, oI)] := N4
    k_steps
    refine go (for_at g L1 ?_)
    k_steps
    rename Fr _ _ _ _ => F5
    rename News _ _ _ _ => N5
    refine go (ngrams_spec B1 F5 X1 T1 rfl (by show dp + 1 + 10 < _; omega) (by show un + 3 + 200 < _; omega) sh (hx sh hshm) (sh.1.length - i) _ (by omega) (by omega) ?_)
    intro r acc c tups h6 tk6 hst hr0 hr hG
    have F6 := fr_cast (F5.keeps hst) cusM_n
    have N6 : News g L1 h6 ((r, lobj acc c) :: (I, oI) :: tups) := news_put F5 (news_tups F5 N5 hst hG.here) hr0 hr
    have hIr : I ≠ r := fun e => by
      have := (N5 _ (.head _)).1
      rw [e, hr0] at this; cases this
    have hnl : ∀ p ∈ (I, oI) :: tups, p.1 ≠ r := fun p hp e => by
      rcases List.mem_cons.mp hp with rfl | hp
      · exact hIr e
      · have h1 := (hG.here p hp).1
        have h2 := (hG.here p hp).2
        obtain ⟨jj, hjj, ej⟩ := List.getElem_of_mem hp
        obtain ⟨vs', h3, _⟩ := hG.each jj p (by rw [← ej]; exact List.getElem?_eq_getElem hjj)
        rw [e, hr, h3] at h2
        exact absurd (congrArg Obj.cls (Option.some.inj h2)) (show ¬ (Value.type "list" = Value.type "tuple") by decide)
    clear F5 N5
    k_steps
    rename Fr _ _ _ _ => F7
    rename News _ _ _ _ => N7
    have hacc : acc.toList.length = sh.1.length - (sh.1.length - i) + 1 := by rw [hG.refs, List.length_map, hG.len, chs_len]
    refine go (at_list (l := r) (vs := acc.toList) (fun j => CusJ (cusM (.ref S) (.ref D) (.str sh.1 sh.2) (.int sh.1.length tl)) ((I, oI) :: tups) (fun o => o = some (.int ((sh.1.length - i : Nat) : Int) ti)) (∀ a, a < j → ¬ ComAt (chs sh.1) [chs x0.1, chs x1.1, chs x2.1] a (sh.1.length - i))) (fun _ => False) (CusEnd g s (chs sh.1) [chs x0.1, chs x1.1, chs x2.1]) rfl F7 N7 ⟨_, (N7 _ (.head _)).1, rfl, c, by simp⟩ hnl
      ⟨_, vu, vj, vq, rfl, rfl, rfl, fun a h => absurd h (Nat.not_lt_zero _)⟩ ?turn2 ?done2 (fun _ h => h.elim) (fun _ _ h => h))
    case turn2 =>
      clear F7 N7
      rintro I2 j v m2 nx2 h8 tk8 oI2 ol hv hne2 ⟨vn, vu, vj, vq, rfl, rfl, rfl, hnoj⟩ F8 N8
      replace N8 : News g L1 h8 ((I2, oI2) :: (r, ol) :: (I, oI) :: tups) := N8
      obtain ⟨p, hp, rfl⟩ : ∃ p, tups[j]? = some p ∧ v = .ref p.1 := by
        rw [hG.refs, List.getElem?_map] at hv
        cases q : tups[j]? with
        | none => rw [q] at hv; cases hv
        | some p => rw [q] at hv; exact ⟨p, rfl, (Option.some.inj hv).symm⟩
      obtain ⟨vs', hp2, hLs⟩ := hG.each j p hp
      have hjl : j < tups.length := (List.getElem?_eq_some_iff.mp hp).1
      have hjl2 : j + (sh.1.length - i) ≤ sh.1.length := by have := hG.len; rw [chs_len] at this; omega
      k_steps
      rename Fr _ _ _ _ => F9
      rename News _ _ _ _ => N9
      refine go (join_tupleW (items := vs'.toArray) ⟨p.2, (N9 p (.tail _ (.tail _ (.tail _ (List.mem_of_getElem? hp))))).1, by rw [hp2], 0, by rw [hp2]⟩ hLs.texts (by decide) (by rw [ones_weight, List.length_map, List.length_take]; omega) ?_)
      intro tj kj
      generalize hjt : Txt.join (Str.ofString "") (((chs sh.1).drop j).take (sh.1.length - i) |>.map fun c => (⟨#[c]⟩ : Str)) = jt
      have hjc : chs jt = ((chs sh.1).drop j).take (sh.1.length - i) := by rw [← hjt]; exact join_ones _
      k_steps
      refine go (for_at g L1 ?_)
      k_steps
      rename Fr _ _ _ _ => F10
      rename News _ _ _ _ => N10
      obtain ⟨wu, F10⟩ : ∃ wu, Fr g L1 _ ((cusM (.ref S) (.ref D) (.str sh.1 sh.2) (.int sh.1.length tl)) (some (.int ((sh.1.length - i : Nat) : Int) ti)) wu (some (.str jt tj)) vq) := ⟨_, fr_cast F10 cusM_ju⟩
      refine go (at_tupB (l := D) (vs := vtx [x0, x1, x2]) (fun i3 => CusJ (fun vn vu _ vq => (cusM (.ref S) (.ref D) (.str sh.1 sh.2) (.int sh.1.length tl)) vn vu (some (.str jt tj)) vq) ((I2, oI2) :: (r, ol) :: (I, oI) :: tups) (fun o => o = some (.int ((sh.1.length - i : Nat) : Int) ti)) (∀ i' x, i' < i3 → [x0, x1, x2][i']? = some x → Txt.contains x.1 jt = true))
        (WEnd g L1 s (CusJ (fun vn vu _ vq => (cusM (.ref S) (.ref D) (.str sh.1 sh.2) (.int sh.1.length tl)) vn vu (some (.str jt tj)) vq) ((I2, oI2) :: (r, ol) :: (I, oI) :: tups) (fun o => o = some (.int ((sh.1.length - i : Nat) : Int) ti)) (∃ x ∈ [x0, x1, x2], Txt.contains x.1 jt = false))) (fun _ _ => False) rfl F10 N10 hDg
        ⟨_, wu, none, vq, rfl, rfl, rfl, fun i' x h => absurd h (Nat.not_lt_zero _)⟩ ?turn3 ?done3 ?hB3 (fun _ _ h => h.elim))
      case turn3 =>
        clear F10 N10
        rintro I3 i3 v m3 nx3 h10 tk10 oI3 hv3 hne3 ⟨vn, vu, vj, vq, rfl, rfl, rfl, hall⟩ F11 N11
        replace N11 : News g L1 h10 ((I3, oI3) :: (I2, oI2) :: (r, ol) :: (I, oI) :: tups) := N11
        obtain ⟨x, hx3, rfl⟩ : ∃ x, [x0, x1, x2][i3]? = some x ∧ v = .str x.1 x.2 := by
          rw [vtx, List.getElem?_map] at hv3
          cases q : [x0, x1, x2][i3]? with
          | none => rw [q] at hv3; cases hv3
          | some x => rw [q] at hv3; exact ⟨x, rfl, (Option.some.inj hv3).symm⟩
        k_steps
        · rename Fr _ _ _ _ => F12
          rename News _ _ _ _ => N12
          rename (Builtin.Str.occurrences _ _ _ _ _).isEmpty = true => ho
          exact FStep.brk (WEnd.mk (fr_cast F12 cusM_seq) (fun p hp => N12 p (.tail _ hp)) ⟨_, vu, none, _, rfl, rfl, rfl, x, List.mem_of_getElem? hx3, by show (!_) = false; rw [ho]; rfl⟩)
        · rename Fr _ _ _ _ => F12
          rename News _ _ _ _ => N12
          rename (Builtin.Str.occurrences _ _ _ _ _).isEmpty = false => ho
          refine FStep.next (nx' := (I2, oI2) :: (r, ol) :: (I, oI) :: tups) (fr_cast F12 cusM_seq) N12 (fun p hp hm => hne3 p hp (List.mem_singleton.mp hm)) ⟨_, vu, none, _, rfl, rfl, rfl, fun i' y h1 h2 => ?_⟩
          rcases Nat.lt_succ_iff_lt_or_eq.mp h1 with h | rfl
          · exact hall i' y h h2
          · rw [hx3] at h2
            cases h2
            show (!_) = true
            rw [ho]; rfl
      case hB3 =>
        rintro s9 ⟨h9, tk9, m9, nx9, rfl, F11, N11, ⟨vn, vu, vj, vq, rfl, rfl, rfl, hex⟩⟩
        k_steps
        refine FStep.next (nx' := (I, oI) :: tups) F11 N11 hne2 ⟨_, vu, _, vq, rfl, rfl, rfl, fun a h1 h2 => ?_⟩
        rcases Nat.lt_succ_iff_lt_or_eq.mp h1 with h | rfl
        · exact hnoj a h h2
        · obtain ⟨x, hx', hc⟩ := hex
          have h3 := (contains_iff x.1 jt).mpr (by rw [hjc]; exact h2.2 (chs x.1) (List.mem_map_of_mem (f := fun y : Str × Tok => chs y.1) hx'))
          rw [hc] at h3
          cases h3
      case done3 =>
        rintro m9 nx9 h9 tk9 F11 N11 ⟨vn, vu, vj, vq, rfl, rfl, rfl, hall⟩
        k_steps
        refine FStep.ret ⟨jt, tj, h9, _, rfl, rfl, F11.keep, ⟨fun d hd => ?_, fun a n h2 => ?_⟩⟩
        · simp only [List.mem_cons, List.not_mem_nil, or_false] at hd
          rcases hd with rfl | rfl | rfl
          · exact (contains_iff _ _).mp (hall 0 x0 (by show 0 < 3; omega) rfl)
          · exact (contains_iff _ _).mp (hall 1 x1 (by show 1 < 3; omega) rfl)
          · exact (contains_iff _ _).mp (hall 2 x2 (by show 2 < 3; omega) rfl)
        · rw [hjc, List.length_take, List.length_drop, chs_len]
          rcases Nat.lt_or_ge (sh.1.length - i) n with h | h
          · exact absurd h2 (hno a n h)
          · omega
    case done2 =>
      rintro m8 nx8 h8 tk8 F8 N8 ⟨vn, vu, vj, vq, rfl, rfl, rfl, hnoj⟩
      k_steps
      refine FStep.next (nx' := []) F8 (fun p hp => N8 p (by rw [List.mem_singleton.mp hp]; exact .head _)) (fun p hp => nomatch hp) ⟨_, vu, vj, vq, rfl, trivial, rfl, fun a n h1 h2 => ?_⟩
      by_cases e : n = sh.1.length - i
      · subst e
        refine hnoj a ?_ h2
        have h3 := h2.1
        rw [chs_len] at h3
        omega
      · exact hno a n (by omega) h2
  case done =>
    rintro m6 nx6 h6 tk6 F6 N6 ⟨vn, vu, vj, vq, rfl, _, rfl, hno⟩
    k_steps
    rename Fr _ _ _ _ => F9
    have e0 : chs (Txt.slice sh.1 none (some 0)) = [] := by
      have := slice_to (x := sh.1) (j := 0) (Nat.zero_le _)
      simpa using this
    refine ret _ _ sh _ _ (hback _ F9.keep) hshm ⟨fun d _ => by rw [e0]; exact ⟨0, by simp, by simp⟩, fun a n h2 => ?_⟩
    rw [e0]
    rcases Nat.eq_zero_or_pos n with h | h
    · rw [h]; exact Nat.zero_le _
    · exact absurd h2 (hno a n (by omega))
end Mine
end

section
set_option maxRecDepth 100000
set_option Elab.async false
namespace Mine
open PySem PySem.W PySem.Spec PySem.Calls PyProof.Rows PySem.SeqAt
open Builtin Builtin.SmallTypes

theorem owner_map : Manifest.owners.lookup (String.ofList ['p', 'a', 'm'].reverse) = some Manifest.sig_map := by kernel_rfl
theorem slot_map_next : Slot "map" "__next__" "map.__next__" :=
  .of (owner := "map") (n := "__next__") (by rw [typeLookup_type, builtinLookup_eq_fast]; kernel_rfl) (by decide +kernel) (by decide +kernel) (by decide +kernel)
    (by first | exact .inl (by decide +kernel) | exact .inr (by decide +kernel)) (by rw [isSubtype_type]; kernel_rfl)
theorem entry_map_next : entryFor table "map.__next__" = some Builtin.«map.__next__» := entryFor_of_tree (by kernel_rfl)
theorem args_map_next (a : Value) : argsOk "map.__next__" ⟨[a], []⟩ := by
  unfold argsOk; rw [signature?_of (id := "map.__next__") (n := ['_', '_', 't', 'x', 'e', 'n', '_', '_']) (o := ['p', 'a', 'm']) (by kernel_rfl) owner_map]; kernel_rfl
theorem slot_map_iter : Slot "map" "__iter__" "map.__iter__" :=
  .of (owner := "map") (n := "__iter__") (by rw [typeLookup_type, builtinLookup_eq_fast]; kernel_rfl) (by decide +kernel) (by decide +kernel) (by decide +kernel)
    (by first | exact .inl (by decide +kernel) | exact .inr (by decide +kernel)) (by rw [isSubtype_type]; kernel_rfl)
theorem args_map_iter (a : Value) : argsOk "map.__iter__" ⟨[a], []⟩ := by
  unfold argsOk; rw [signature?_of (id := "map.__iter__") (n := ['_', '_', 'r', 'e', 't', 'i', '_', '_']) (o := ['p', 'a', 'm']) (by kernel_rfl) owner_map]; kernel_rfl
theorem entry_map_iter : entryFor table "map.__iter__" = some Builtin.«dict_keyiterator.__iter__» :=
  entryFor_alias (id' := "dict_keyiterator.__iter__") (by kernel_rfl) (by first | rfl | decide +kernel | (unfold String.splitOn; simp +decide [String.splitOnAux])) (by decide +kernel) (by kernel_rfl)
theorem slot_map_init : Slot "map" "__init__" "object.__init__" :=
  .of (owner := "object") (n := "__init__") (by rw [typeLookup_type, builtinLookup_eq_fast]; kernel_rfl) (by decide +kernel) (by decide +kernel) (by decide +kernel)
    (by first | exact .inl (by decide +kernel) | exact .inr (by decide +kernel)) (by rw [isSubtype_type]; kernel_rfl)
theorem mro_map : mroOf (.type "map") = pure [.type "map", .type "object"] := by rw [mroOf_type]; kernel_rfl
theorem lookup_map_new : typeLookup (.type "map") "__new__" = pure (some (.builtin "map.__new__")) := by rw [typeLookup_type, builtinLookup_eq_fast]; kernel_rfl
theorem called_map : TypeCalled "map" "map.__new__" "object.__init__" :=
  ⟨by decide +kernel, by decide +kernel, ⟨_, _, mro_map⟩, madeBy_type mro_map lookup_map_new (by decide +kernel), by decide +kernel, by rw [isSubtype_type]; kernel_rfl, slot_map_init⟩
theorem typeCall_map (a b : Value) : checkTypeCall "map" ⟨[a, b], []⟩ = pure () := by kernel_rfl
theorem newCall_map (a b : Value) : checkBuiltinCall "map.__new__" ⟨[.type "map", a, b], []⟩ = pure () := by kernel_rfl
theorem entry_map_new : entryFor table "map.__new__" = some Builtin.«map.__new__» := entryFor_of_tree (by kernel_rfl)
theorem sub_map : isSubtype (.type "map") (.type "map") = pure true := by rw [isSubtype_type]; kernel_rfl
theorem newClass_map (vs : List Value) : Builtin.SmallTypes.newClass "map" ⟨.type "map" :: vs, []⟩ = pure (.type "map", vs) := by
  unfold Builtin.SmallTypes.newClass
  dsimp only
  rw [sub_map]
  rfl

/-- a walk over a tuple or over a list -/
def SrcIt (k : Bool) (h : Heap) (I l : Addr) (i : Nat) (vs : Array Value) : Prop := match k with
  | true => h.IsTupleIter I l i ∧ h.IsTuple l vs
  | false => h.IsListIter I l i ∧ h.IsList l vs
def SrcAt (k : Bool) (h : Heap) (l : Addr) (vs : Array Value) : Prop := match k with
  | true => h.IsTuple l vs
  | false => h.IsList l vs
theorem SrcIt.at {k : Bool} {h h' : Heap} {I l : Addr} {i : Nat} {vs : Array Value} (x : SrcIt k h I l i vs) (e1 : ∀ o, h.get? I = some o → h'.get? I = some o) (e2 : ∀ o, h.get? l = some o → h'.get? l = some o) : SrcIt k h' I l i vs := by
  cases k with
  | true => obtain ⟨⟨o, ho, r⟩, ⟨o', ho', r'⟩⟩ := x; exact ⟨⟨o, e1 _ ho, r⟩, ⟨o', e2 _ ho', r'⟩⟩
  | false => obtain ⟨⟨o, ho, r⟩, ⟨o', ho', r'⟩⟩ := x; exact ⟨⟨o, e1 _ ho, r⟩, ⟨o', e2 _ ho', r'⟩⟩

section
variable {prog : Program} {w : World} {A : Around} {E : Value → Shared → Prop} {s : Shared}

theorem nextOf_tup_item {it l : Addr} {i : Nat} {items} {x : Value} {Q : Value → Shared → Prop} (hit : s.heap.IsTupleIter it l i)
    (hl : s.heap.IsTuple l items) (hx : items[i]? = some x)
    (hQ : ∀ h', h'.IsTupleIter it l (i + 1) → Heap.SameBut it s.heap h' → Q x { s with heap := h' }) :
    wpAny (model prog w) A (Builtin.SmallTypes.nextOf (.ref it)) Q E s := by
  obtain ⟨o, ho, hc, hd⟩ := id hit
  obtain ⟨ol, hol, _, nl, hdl⟩ := hl
  unfold Builtin.SmallTypes.nextOf
  refine wpAny_bind (wpAny_callSpecial?_slot (name := Str.ofString "__next__") hit.typeIs F.slot_tuple_iterator_next
    (wpAny_call_entry F.slot_tuple_iterator_next hit.typeIs F.entry_tuple_iterator_next ?_ (F.args_tuple_iterator_next_1 _)))
  show wpAny _ _ (field (.ref it) 0 >>= _) _ _ s
  refine wpAny_bind (wpAny_field ho hd (x := .ref l) rfl ?_)
  show wpAny _ _ (if (Value.ref l == Value.none) = true then _ else _) _ _ s
  rw [if_neg (show ¬ ((Value.ref l == Value.none) = true) from Bool.false_ne_true)]
  show wpAny _ _ (field (.ref it) 1 >>= _) _ _ s
  refine wpAny_bind (wpAny_field ho hd (x := .int i 0) rfl ?_)
  show wpAny _ _ (seqItems? (.ref l) >>= _) _ _ s
  refine wpAny_bind (wpAny_seqItems hol hdl ?_)
  simp only [Int.toNat_natCast, hx]
  refine wpAny_bind (wpAny_setField ho hd (by simp) (wpAny_pure ⟨x, rfl, wpAny_pure (hQ _ ?_ (Heap.SameBut.update ..))⟩))
  exact ⟨_, Heap.get?_update_self _ ho (Obj.isFreed_of_fields (Obj.data_mapFields hd _)), (Obj.cls_mapFields ..).trans hc, by
    rw [Obj.data_mapFields hd]; simp [rawInt]⟩

theorem nextOf_tup_end {it l : Addr} {i : Nat} {items} {Q : Value → Shared → Prop} (hh : A.handled = none)
    (hit : s.heap.IsTupleIter it l i) (hl : s.heap.IsTuple l items) (hx : items[i]? = none)
    (hE : ∀ h' e, Heap.ExtBut it s.heap h' → (∃ o, h'.get? e = some o ∧ o.cls = .type "StopIteration") → E (.ref e) { s with heap := h' }) :
    wpAny (model prog w) A (Builtin.SmallTypes.nextOf (.ref it)) Q E s := by
  obtain ⟨o, ho, hc, hd⟩ := id hit
  obtain ⟨ol, hol, _, nl, hdl⟩ := hl
  unfold Builtin.SmallTypes.nextOf
  refine wpAny_bind (wpAny_callSpecial?_slot (name := Str.ofString "__next__") hit.typeIs F.slot_tuple_iterator_next
    (wpAny_call_entry F.slot_tuple_iterator_next hit.typeIs F.entry_tuple_iterator_next ?_ (F.args_tuple_iterator_next_1 _)))
  show wpAny _ _ (field (.ref it) 0 >>= _) _ _ s
  refine wpAny_bind (wpAny_field ho hd (x := .ref l) rfl ?_)
  show wpAny _ _ (if (Value.ref l == Value.none) = true then _ else _) _ _ s
  rw [if_neg (show ¬ ((Value.ref l == Value.none) = true) from Bool.false_ne_true)]
  show wpAny _ _ (field (.ref it) 1 >>= _) _ _ s
  refine wpAny_bind (wpAny_field ho hd (x := .int i 0) rfl ?_)
  show wpAny _ _ (seqItems? (.ref l) >>= _) _ _ s
  refine wpAny_bind (wpAny_seqItems hol hdl ?_)
  simp only [Int.toNat_natCast, hx]
  refine wpAny_bind (wpAny_rule (wpAny_bind (wpAny_setField ho hd (by simp) ?_)))
  show wpAny _ _ (newExc (.type "StopIteration") [] >>= _) _ _ _
  refine wpAny_bind ?_
  simp only [newExc, newTuple]
  refine wpAny_bind (wpAny_newObj_type ?_ (by size_fits))
  refine wpAny_bind (m := firstArgMember _ _) (wpAny_of_eq (a := Value.none) (by first | rfl | (simp only [firstArgMember]; rfl)) ?_)
  refine wpAny_newObj_type ?_ (by size_fits)
  simp only [raiseNew]
  refine wpAny_bind (wpAny_handled ?_)
  first | rw [show A.in1.handled = none from hh] | rw [hh]
  refine wpAny_bind (wpAny_pure (wpAny_throw ?_))
  exact hE _ _ (((Heap.SameBut.update ..).extBut.push _).push _) ⟨_, Heap.get?_push_size _ rfl, rfl⟩

theorem SrcIt.next {k : Bool} {I l : Addr} {i : Nat} {items} {x : Value} {Q : Value → Shared → Prop} (hit : SrcIt k s.heap I l i items) (hne : l ≠ I) (hx : items[i]? = some x)
    (hQ : ∀ h', SrcIt k h' I l (i + 1) items → Heap.SameBut I s.heap h' → Q x { s with heap := h' }) : wpAny (model prog w) A (Builtin.SmallTypes.nextOf (.ref I)) Q E s := by
  cases k with
  | true => exact nextOf_tup_item hit.1 hit.2 hx fun h' h1 h2 => hQ h' ⟨h1, by obtain ⟨o, ho, r⟩ := hit.2; exact ⟨o, (h2.2 l hne).trans ho, r⟩⟩ h2
  | false => exact wpAny_nextOf_list_item hit.1 hit.2 hx fun h' h1 h2 => hQ h' ⟨h1, hit.2.at fun o e => (h2.2 l hne).trans e⟩ h2
theorem SrcIt.next_end {k : Bool} {I l : Addr} {i : Nat} {items} {Q : Value → Shared → Prop} (hh : A.handled = none) (hit : SrcIt k s.heap I l i items) (hx : items[i]? = none)
    (hE : ∀ h' e, Heap.ExtBut I s.heap h' → (∃ o, h'.get? e = some o ∧ o.cls = .type "StopIteration") → E (.ref e) { s with heap := h' }) : wpAny (model prog w) A (Builtin.SmallTypes.nextOf (.ref I)) Q E s := by
  cases k with
  | true => exact nextOf_tup_end hh hit.1 hit.2 hx hE
  | false => exact wpAny_nextOf_list_end hh hit.1 hit.2 hx hE
theorem SrcAt.start {k : Bool} {l : Addr} {items} {Q : Value → Shared → Prop} (hl : SrcAt k s.heap l items)
    (hQ : ∀ o : Obj, o.isFreed = false → SrcIt k (s.heap.push o) s.heap.objs.size l 0 items → Q (.ref s.heap.objs.size) { s with heap := s.heap.push o }) : wpAny (model prog w) A (pyIter (.ref l)) Q E s := by
  cases k with
  | true => exact wpAny_pyIter_tuple hl (hQ _ rfl ⟨⟨_, Heap.get?_push_size _ rfl, rfl, rfl⟩, by obtain ⟨o, ho, r⟩ := hl; exact ⟨o, Heap.get?_push_of_some _ ho, r⟩⟩)
  | false => exact wpAny_pyIter_list hl (hQ _ rfl ⟨⟨_, Heap.get?_push_size _ rfl, rfl, rfl⟩, hl.push _⟩)

abbrev mapObj (TI : Addr) (f : Value) : Obj := { cls := .type "map", data := .fields #[.ref TI, f] }
structure MapAt (k : Bool) (M TI I l : Addr) (vs : Array Value) (i : Nat) (h : Heap) : Prop where
  m : h.get? M = some (mapObj TI (.builtin "len"))
  ti : h.get? TI = some (tup [.ref I])
  it : SrcIt k h I l i vs

theorem map_next {k : Bool} {M TI I l : Addr} {vs : List (Str × Tok)} {i : Nat} {x : Str × Tok} {Q : Option Value → Shared → Prop} (hM : M ≠ I) (hT : TI ≠ I) (hl : l ≠ I) (Z : MapAt k M TI I l (vtx vs).toArray i s.heap) (hx : vs[i]? = some x) (hlen : x.1.length ≤ 1000)
    (hQ : ∀ h' t tk, MapAt k M TI I l (vtx vs).toArray (i + 1) h' → Heap.SameBut I s.heap h' → Q (some (.int (x.1.length : Nat) t)) { s with heap := h', toks := tk }) : wpAny (model prog w) A (pyNext (.ref M)) Q E s := by
  have hTy : s.TypeIs (.ref M) "map" := ⟨_, Z.m, rfl⟩
  have hx' : (vtx vs).toArray[i]? = some (.str x.1 x.2) := by simp [hx]
  unfold pyNext
  refine wpAny_bind (wpAny_attempt (wpAny_callSpecial?_slot (name := Str.ofString "__next__") hTy slot_map_next
    (wpAny_call_entry slot_map_next hTy entry_map_next ?_ (args_map_next _))))
  unfold Builtin.«map.__next__»
  refine wpAny_bind (wpAny_of_eq (a := (Value.ref M, [])) rfl ?_)
  dsimp only
  refine wpAny_bind (wpAny_field Z.m rfl (x := .ref TI) rfl ?_)
  refine wpAny_bind (wpAny_seqItems Z.ti rfl ?_)
  dsimp only
  refine wpAny_bind (forIn_array_ _ (fun rest b s' => (rest = [.ref I] ∧ b = #[] ∧ s' = s) ∨ (rest = [] ∧ b = #[.str x.1 x.2] ∧ ∃ h', s' = { s with heap := h' } ∧ SrcIt k h' I l (i + 1) (vtx vs).toArray ∧ Heap.SameBut I s.heap h')) _ ?turn ?fin _ _ (.inl ⟨rfl, rfl, rfl⟩))
  case turn =>
    rintro y rest b s' (⟨h1, rfl, rfl⟩ | ⟨h1, _⟩)
    · obtain ⟨rfl, rfl⟩ := List.cons.inj h1
      refine wpAny_bind (wpAny_holding (SrcIt.next Z.it hl hx' fun h' h2 h3 => wpAny_pure ?_))
      exact .inr ⟨rfl, rfl, h', rfl, h2, h3⟩
    · cases h1
  case fin =>
    rintro b s' (⟨h1, _⟩ | ⟨_, rfl, h', rfl, h2, h3⟩)
    · cases h1
    · have hm := (h3.2 M hM).trans Z.m
      refine wpAny_bind (wpAny_field hm rfl (x := .builtin "len") rfl ?_)
      refine wpAny_bind (wpAny_holding (PySem.P.len_str (by omega) ?_))
      refine wpAny_bind (wpAny_letGo (wpAny_pure ⟨_, rfl, ?_⟩))
      exact wpAny_pure (hQ h' _ _ ⟨hm, (h3.2 TI hT).trans Z.ti, h2⟩ h3)

theorem map_end {k : Bool} {M TI I l : Addr} {vs : Array Value} {i : Nat} {Q : Option Value → Shared → Prop} (hh : A.handled = none) (Z : MapAt k M TI I l vs i s.heap) (hx : vs[i]? = none)
    (hQ : ∀ h', Heap.ExtBut I s.heap h' → Q none { s with heap := h' }) : wpAny (model prog w) A (pyNext (.ref M)) Q E s := by
  have hTy : s.TypeIs (.ref M) "map" := ⟨_, Z.m, rfl⟩
  unfold pyNext
  refine wpAny_bind (wpAny_attempt (wpAny_callSpecial?_slot (name := Str.ofString "__next__") hTy slot_map_next
    (wpAny_call_entry slot_map_next hTy entry_map_next ?_ (args_map_next _))))
  unfold Builtin.«map.__next__»
  refine wpAny_bind (wpAny_of_eq (a := (Value.ref M, [])) rfl ?_)
  dsimp only
  refine wpAny_bind (wpAny_field Z.m rfl (x := .ref TI) rfl ?_)
  refine wpAny_bind (wpAny_seqItems Z.ti rfl ?_)
  dsimp only
  refine wpAny_bind (forIn_array_ _ (fun rest b s' => rest = [.ref I] ∧ s' = s) _ ?turn ?fin _ _ ⟨rfl, rfl⟩)
  case turn =>
    rintro y rest b s' ⟨h1, rfl⟩
    obtain ⟨rfl, rfl⟩ := List.cons.inj h1
    refine wpAny_bind (wpAny_holding (SrcIt.next_end (A := A.in1) hh Z.it hx fun h' e h2 he => ?_))
    obtain ⟨o, ho, hc⟩ := he
    refine wpAny_bind (wpAny_isInstance (T := "StopIteration") (b := true) ⟨o, ho, hc⟩ isSubtype_stop ?_)
    exact wpAny_pure (hQ _ h2)
  case fin =>
    rintro b s' ⟨h1, _⟩
    cases h1

theorem Walks.mapLen {k : Bool} {M TI I l : Addr} {vs : List (Str × Tok)} (hh : A.handled = none) (hM : M ≠ I) (hT : TI ≠ I) (hl : l ≠ I) (hlen : ∀ x ∈ vs, x.1.length ≤ 1000) :
    Walks prog w A M [M, TI, I, l] [I] vs.length (fun i v => ∃ t, v = .int (((vs.map (·.1)).getD i Str.empty).length : Nat) t) (fun i h => MapAt k M TI I l (vtx vs).toArray i h) where
  sub := fun b hb => by rw [List.mem_singleton.mp hb]; simp
  frame := fun _ _ _ q hk => ⟨hk M (by simp) _ q.m, hk TI (by simp) _ q.ti, q.it.at (fun o e => hk I (by simp) o e) fun o e => hk l (by simp) o e⟩
  item := fun i s Q E hi q hQ => by
    have hx : vs[i]? = some vs[i] := List.getElem?_eq_getElem hi
    refine map_next hM hT hl q hx (hlen _ (List.getElem_mem _)) fun h' t tk h1 h2 => hQ _ h' tk ⟨t, ?_⟩ h1 fun b o hb e => h2.extBut b o (fun q => hb (by simp [q])) e
    rw [List.getD_eq_getElem?_getD, List.getElem?_map, hx]
    rfl
  done := fun s Q E q hQ => map_end hh q (by simp) fun h' h1 => hQ h' s.toks fun b o hb e => h1 b o (fun q => hb (by simp [q])) e
  self := fun _ s _ _ q hQ => by
    have hTy : s.TypeIs (.ref M) "map" := ⟨_, q.m, rfl⟩
    refine wpAny_pyIter_slot hTy slot_map_iter (wpAny_call_entry slot_map_iter hTy entry_map_iter ?_ (args_map_iter _))
    show wpAny _ _ (ret (.ref M)) _ _ s
    exact wpAny_pure ⟨_, rfl, "map", _, hTy, slot_map_next.lookup, hQ⟩

theorem meets_map {k : Bool} {l : Addr} {vs : Array Value} :
    Meets (Builtin.«map.__new__» ⟨[.type "map", .builtin "len", .ref l], []⟩) (fun _ R s => SrcAt k s.heap l vs ∧ ∀ M TI I h', s.heap.objs.size ≤ M → s.heap.objs.size ≤ TI → s.heap.objs.size ≤ I → M ≠ I → TI ≠ I → MapAt k M TI I l vs 0 h' → s.heap.StaysIn h' → M < h'.objs.size → R (.ok (.ret (.ref M))) { s with heap := h' }) :=
  .of_wp fun prog w A R s h => by
    obtain ⟨hl, h⟩ := h
    have hlt : l < s.heap.objs.size := by cases k <;> (obtain ⟨_, e, _⟩ := hl; exact Heap.lt_size e)
    unfold Builtin.«map.__new__»
    refine wpAny_bind (wpAny_of_eq (newClass_map _) ?_)
    dsimp only
    refine wpAny_bind (wpAny_of_eq (a := ()) (by first | rfl | kernel_rfl) ?_)
    rw [if_neg (show ¬ ([Value.builtin "len", Value.ref l].length < 2) from Nat.lt_irrefl 2)]
    unfold Builtin.SmallTypes.iterAll
    refine wpAny_bind ?_
    refine wpAny_bind (wpAny_forIn_list _ (fun rest (b : Array Value) s' => (rest = [.ref l] ∧ b = #[] ∧ s' = s) ∨ (rest = [] ∧ ∃ o : Obj, b = #[.ref s.heap.objs.size] ∧ s' = { s with heap := s.heap.push o } ∧ SrcIt k (s.heap.push o) s.heap.objs.size l 0 vs)) _ ?turn ?fin _ _ (.inl ⟨rfl, rfl, rfl⟩))
    case turn =>
      rintro y rest b s' (⟨h1, rfl, rfl⟩ | ⟨h1, _⟩)
      · obtain ⟨rfl, rfl⟩ := List.cons.inj h1
        refine wpAny_bind (wpAny_holding (SrcAt.start hl fun o _ h2 => wpAny_pure ?_))
        exact .inr ⟨rfl, o, rfl, rfl, h2⟩
      · cases h1
    case fin =>
      rintro b s' (⟨h1, _⟩ | ⟨_, o, rfl, rfl, h2⟩)
      · cases h1
      · refine wpAny_pure ?_
        refine wpAny_bind (wpAny_newTuple ?_ (Nat.le_of_ble_eq_true rfl))
        refine wpAny_bind ?_
        simp only [Builtin.SmallTypes.newRecord]
        refine wpAny_newObj_type ?_ (show _ ≤ _ from Nat.le_trans (m := 5) (by show 2 ≤ 5; decide) (by decide))
        refine wpAny_pure ⟨_, rfl, ?_⟩
        have e1 : (s.heap.push o).objs.size = s.heap.objs.size + 1 := Heap.size_push ..
        have e2 : ((s.heap.push o).push (tup [.ref s.heap.objs.size])).objs.size = s.heap.objs.size + 2 := by rw [Heap.size_push, e1]
        refine h _ (s.heap.push o).objs.size s.heap.objs.size _ ?_ ?_ (Nat.le_refl _) ?_ ?_ ⟨Heap.get?_push_size _ rfl, Heap.get?_push_of_some _ (Heap.get?_push_size _ rfl), h2.at (fun x e => Heap.get?_push_of_some _ (Heap.get?_push_of_some _ e)) fun x e => Heap.get?_push_of_some _ (Heap.get?_push_of_some _ e)⟩ (fun b x e => Heap.get?_push_of_some _ (Heap.get?_push_of_some _ (Heap.get?_push_of_some _ e))) ?_
        · show s.heap.objs.size ≤ ((s.heap.push o).push (tup [.ref s.heap.objs.size])).objs.size
          rw [e2]; omega
        · rw [e1]; exact Nat.le_succ _
        · intro q
          have q : ((s.heap.push o).push (tup [.ref s.heap.objs.size])).objs.size = s.heap.objs.size := q
          rw [e2] at q; omega
        · intro q
          have q : (s.heap.push o).objs.size = s.heap.objs.size := q
          rw [e1] at q; omega
        · exact Heap.lt_size (Heap.get?_push_size _ rfl)

theorem map_new {k : Bool} {l : Addr} {vs : Array Value} {Q : Value → Shared → Prop} (hl : SrcAt k s.heap l vs)
    (hQ : ∀ M TI I h', s.heap.objs.size ≤ M → s.heap.objs.size ≤ TI → s.heap.objs.size ≤ I → M ≠ I → TI ≠ I → MapAt k M TI I l vs 0 h' → s.heap.StaysIn h' → M < h'.objs.size → Q (.ref M) { s with heap := h' }) : wpAny (model prog w) A (call (.type "map") [.builtin "len", .ref l]) Q E s :=
  callType_new called_map (by decide) (typeCall_map _ _) (newCall_map _ _) (fun obj => args_init obj _) entry_map_new meets_map ⟨hl, fun M TI I h' h1 h2 h3 h4 h5 h6 h7 h8 => ⟨⟨_, h6.m, rfl⟩, hQ M TI I h' h1 h2 h3 h4 h5 h6 h7 h8⟩⟩

theorem max_map2 {k : Bool} {M TI I l : Addr} {x y : Str × Tok} {Q : Value → Shared → Prop} (hh : A.handled = none) (hM : M ≠ I) (hT : TI ≠ I) (hl : l ≠ I) (Z : MapAt k M TI I l (vtx [x, y]).toArray 0 s.heap) (hx : x.1.length ≤ 1000) (hy : y.1.length ≤ 1000)
    (hQ : ∀ h' t tk, (∀ b o, b ≠ I → s.heap.get? b = some o → h'.get? b = some o) → Q (.int ((max x.1.length y.1.length : Nat) : Int) t) { s with heap := h', toks := tk }) : wpAny (model prog w) A (call (.builtin "max") [.ref M]) Q E s := by
  have W := Walks.mapLen (prog := prog) (w := w) (A := A.in1) (k := k) (vs := [x, y]) hh hM hT hl (fun z hz => by
    simp only [List.mem_cons, List.not_mem_nil, or_false] at hz
    rcases hz with rfl | rfl
    · exact hx
    · exact hy)
  refine call_max_walk (W.self 0 s _ _ Z ⟨M, _, _, 2, _, _, _, rfl, W, Z, ?_, by decide, CmpOf.ints_gt (fun i => ((([x, y].map (·.1)).getD i Str.empty).length : Nat)) (fun i v h => h), ?_⟩)
  · intro b hb
    simp only [List.mem_cons, List.not_mem_nil, or_false] at hb
    rcases hb with rfl | rfl | rfl | rfl
    · exact Heap.lt_size Z.m
    · exact Heap.lt_size Z.ti
    · cases k <;> (obtain ⟨⟨o, ho, _⟩, _⟩ := Z.it; exact Heap.lt_size ho)
    · cases k <;> (obtain ⟨_, ⟨o, ho, _⟩⟩ := Z.it; exact Heap.lt_size ho)
  · rintro v h' tk ⟨t, rfl⟩ hk
    have e : (([x, y].map (·.1)).getD (argBest (fun i j => decide (((([x, y].map (·.1)).getD i Str.empty).length : Nat) > ((([x, y].map (·.1)).getD j Str.empty).length : Int))) (2 - 1)) Str.empty).length = max x.1.length y.1.length := by
      show (([x, y].map (·.1)).getD (if decide ((y.1.length : Int) > (x.1.length : Int)) = true then 1 else 0) Str.empty).length = _
      by_cases hlt : x.1.length < y.1.length
      · rw [if_pos (by simp; exact hlt)]
        show y.1.length = _
        omega
      · rw [if_neg (by simp; omega)]
        show x.1.length = _
        omega
    have := hQ h' t tk fun b o hb e => hk b o (fun hm => hb (List.mem_singleton.mp hm)) e
    rw [← e] at this
    exact this
end
end Mine
end

section
set_option maxRecDepth 100000
set_option Elab.async false
namespace Mine
open PySem PySem.W PySem.Spec PySem.Calls PyProof.Rows PySem.SeqAt
section
variable {prog : Program} {w : World} {A : Around} {R : Result → Shared → Prop} {I l : Addr} {vs : List (Str × Tok)}
/-- all over a tuple of texts, from i on -/
theorem all_texts (hlI : l ≠ I) (hh : A.in1.handled = none) (hx : ∀ x ∈ vs, x.1.length ≤ 1000) : ∀ (k i : Nat) (s : Shared), vs.length - i = k → s.heap.IsTupleIter I l i → s.heap.IsTuple l (vtx vs).toArray →
    (∀ b h' tk, (b = true ↔ ∀ x ∈ vs.drop i, x.1.length ≠ 0) → (∀ c o, c ≠ I → s.heap.get? c = some o → h'.get? c = some o) → R (.ok (.ret (.bool b))) { s with heap := h', toks := tk }) →
    codeAny (model prog w) A (.builtin "all.loop" ⟨[.ref I], []⟩) R s := by
  have W := Walks.tuple (prog := prog) (w := w) (A := A.in1) hh I l hlI (vtx vs).toArray
  have hsz : (vtx vs).toArray.size = vs.length := by simp
  intro k
  induction k with
  | zero =>
    intro i s hk hit hl hR
    refine codeAny_builtin F.entry_all_loop ?_
    rw [Around.under_plainId F.plain_all_loop _]
    show wpAny _ A.in1 (pyNext (.ref I) >>= _) _ _ s
    refine wpAny_bind (wpAny_pyNext_tuple_end hh hit hl (by simp; omega) fun h' hk' => ?_)
    refine wpAny_bind (wpAny_rule (wpAny_pure ?_))
    exact hR true h' s.toks (by rw [List.drop_eq_nil_of_le (by omega)]; simp) fun c o hc e => hk' c o hc e
  | succ k ih =>
    intro i s hk hit hl hR
    have hlt : i < vs.length := by omega
    have hd : vs.drop i = vs[i] :: vs.drop (i + 1) := List.drop_eq_getElem_cons hlt
    have hlen := hx vs[i] (List.getElem_mem _)
    refine codeAny_builtin F.entry_all_loop ?_
    rw [Around.under_plainId F.plain_all_loop _]
    show wpAny _ A.in1 (pyNext (.ref I) >>= _) _ _ s
    refine wpAny_bind (wpAny_pyNext_tuple_item hit hl (x := .str vs[i].1 vs[i].2) (by simp [hlt]) fun h' hit' hs' => ?_)
    have hl' : h'.IsTuple l (vtx vs).toArray := by obtain ⟨o, ho, r⟩ := hl; exact ⟨o, (hs'.2 l hlI).trans ho, r⟩
    refine wpAny_bind (wpAny_holding (PySem.P.truthy_str (by omega) ?_))
    refine wpAny_bind (wpAny_letGo ?_)
    by_cases hb : vs[i].1.length = 0
    · have e : ((vs[i].1.length : Int) != 0) = false := by simp [hb]
      rw [e]
      simp only [Bool.false_eq_true, if_false]
      refine wpAny_bind (wpAny_rule (wpAny_pure ?_))
      refine hR false h' _ ?_ fun c o hc e => (hs'.2 c hc).trans e
      rw [hd]
      constructor
      · intro h; cases h
      · intro h; exact absurd hb (h _ (.head _))
    · have e : ((vs[i].1.length : Int) != 0) = true := by simp; omega
      rw [e]
      simp only [if_true]
      refine wpAny_pure ⟨plainId_quiet F.plain_all_loop _, ih (i + 1) _ (by omega) hit' hl' fun b h'' tk'' hb2 hk'' => ?_⟩
      refine hR b h'' tk'' ?_ fun c o hc e => hk'' c o hc ((hs'.2 c hc).trans e)
      rw [hd, hb2]
      constructor
      · intro h x hx'
        rcases List.mem_cons.mp hx' with q | hx'
        · rw [q]; exact hb
        · exact h x hx'
      · intro h x hx'; exact h x (.tail _ hx')
end
section
variable {prog : Program} {w : World} {A : Around} {E : Value → Shared → Prop} {s : Shared}
theorem all_tup {l : Addr} {vs : List (Str × Tok)} {Q : Value → Shared → Prop} (hh : A.handled = none) (hl : s.heap.IsTuple l (vtx vs).toArray) (hx : ∀ x ∈ vs, x.1.length ≤ 1000)
    (hQ : ∀ b h' tk, (b = true ↔ ∀ x ∈ vs, x.1.length ≠ 0) → s.heap.StaysIn h' → Q (.bool b) { s with heap := h', toks := tk }) : wpAny (model prog w) A (call (.builtin "all") [.ref l]) Q E s := by
  have hlt : l < s.heap.objs.size := by obtain ⟨_, e, _⟩ := hl; exact Heap.lt_size e
  have hlI : l ≠ s.heap.objs.size := Nat.ne_of_lt hlt
  refine call_function_tree F.kind_all F.plain_all F.entry_all (F.args_all1 _) ?_
  unfold Builtin.«all»
  refine wpAny_bind (m := oneArg "all" _) (wpAny_pure ?_)
  refine wpAny_bind (wpAny_pyIter_tuple hl ?_)
  refine wpAny_pure ⟨plainId_quiet F.plain_all_loop _, all_texts (A := A) hlI hh hx vs.length 0 _ (by omega) ⟨_, Heap.get?_push_size _ rfl, rfl, rfl⟩ (by obtain ⟨o', ho, r⟩ := hl; exact ⟨o', Heap.get?_push_of_some _ ho, r⟩) fun b h' tk hb hk => ?_⟩
  exact hQ b h' tk (by rw [List.drop_zero] at hb; exact hb) fun c o e => hk c o (Nat.ne_of_lt (Heap.lt_size e)) (Heap.get?_push_of_some _ e)
end
end Mine
end

section
set_option maxRecDepth 100000
set_option Elab.async false
namespace Mine
open PySem PySem.W PySem.Spec PySem.Calls PyProof.Rows

/-- a longest part that stands in all -/
structure LcsR (cs : List (List Nat)) (r : List Nat) : Prop where
  has : ∀ d ∈ cs, Has d r
  no : ∀ p, (∀ d ∈ cs, Has d p) → p.length ≤ r.length
theorem Has.nil (c : List Nat) : Has c [] := ⟨0, by simp, by simp⟩
theorem Has.take {c p : List Nat} (h : Has c p) (k : Nat) : Has c (p.take k) := by
  obtain ⟨i, h1, h2⟩ := h
  have hl : (p.take k).length ≤ p.length := by rw [List.length_take]; omega
  refine ⟨i, by omega, ?_⟩
  conv => rhs; rw [← h2, List.take_take]
  congr 1
  rw [List.length_take]
theorem LcsR.empty {cs : List (List Nat)} (h : ∃ c ∈ cs, c = []) : LcsR cs [] := ⟨fun d _ => Has.nil d, fun p hp => by
  obtain ⟨c, hc, rfl⟩ := h
  obtain ⟨i, h1, _⟩ := hp _ hc
  simp at h1
  simp [h1]⟩
theorem LcsR.of_custom {c : List Nat} {ds : List (List Nat)} {r : List Nat} (hc : c ∈ ds) (h : CusR c ds r) : LcsR ds r := ⟨h.has, fun p hp => by
  obtain ⟨i, h1, h2⟩ := hp c hc
  exact h.no i p.length ⟨h1, by rw [h2]; exact hp⟩⟩
theorem Mt.eq {c d : List Nat} {a b n : Nat} (h : Mt c d a b n) : (c.drop a).take n = (d.drop b).take n := by
  refine List.ext_getElem? fun i => ?_
  by_cases hi : i < n
  · rw [List.getElem?_take_of_lt hi, List.getElem?_take_of_lt hi, List.getElem?_drop, List.getElem?_drop]
    exact h.2.2 i hi
  · rw [List.getElem?_eq_none (by rw [List.length_take]; omega), List.getElem?_eq_none (by rw [List.length_take]; omega)]
theorem Mt.of {c d p : List Nat} {a b : Nat} (h1 : a + p.length ≤ c.length) (h2 : (c.drop a).take p.length = p) (h3 : b + p.length ≤ d.length) (h4 : (d.drop b).take p.length = p) : Mt c d a b p.length :=
  ⟨h1, h3, fun i hi => by
    have e1 := congrArg (·[i]?) h2
    have e2 := congrArg (·[i]?) h4
    simp only [List.getElem?_take_of_lt hi, List.getElem?_drop] at e1 e2
    rw [e1, e2]⟩
theorem Bst.le {c d : List Nat} {p b : Nat} {don : Nat → Nat → Prop} (h : Bst c d p b don) : p + b ≤ c.length := by
  rcases h.has with ⟨rfl, rfl⟩ | ⟨j, hj⟩
  · exact Nat.zero_le _
  · exact hj.1
theorem LcsR.of_std {c d r : List Nat} {p b : Nat} (h : Bst c d p b (fun _ _ => True)) (hr : r = (c.drop p).take b) : LcsR [c, d] r := by
  have hle := h.le
  have hrl : r.length = b := by rw [hr, List.length_take, List.length_drop]; omega
  refine ⟨fun x hx => ?_, fun q hq => ?_⟩
  · simp only [List.mem_cons, List.not_mem_nil, or_false] at hx
    rcases hx with rfl | rfl
    · exact ⟨p, by rw [hrl]; exact hle, by rw [hrl]; exact hr.symm⟩
    · rcases h.has with ⟨h0, _⟩ | ⟨j, hj⟩
      · have : r = [] := List.eq_nil_of_length_eq_zero (by rw [hrl, h0])
        rw [this]; exact Has.nil _
      · exact ⟨j, by rw [hrl]; exact hj.2.1, by rw [hrl, hr]; exact hj.eq.symm⟩
  · obtain ⟨i, h1, h2⟩ := hq c (by simp)
    obtain ⟨j, h3, h4⟩ := hq d (by simp)
    rw [hrl]
    exact h.no i j trivial _ (Mt.of h1 h2 h3 h4)
theorem good_iff {xs : List (Str × Tok)} {x0 : Str} {j n : Nat} (h : j + n ≤ x0.length) : Good xs x0 j n ↔ ∀ x ∈ xs, Has (chs x.1) (((chs x0).drop j).take n) := by
  unfold Good
  have e : chs (Txt.slice x0 (some (j : Int)) (some ((j : Int) + (n : Int)))) = ((chs x0).drop j).take n := by
    have := slice_ij (x := x0) (i := j) (j := j + n) (by omega) h
    rw [show j + n - j = n by omega] at this
    exact this
  constructor
  · intro g x hx
    rw [← e]
    exact (contains_iff _ _).mp (g x hx)
  · intro g x hx
    rw [contains_iff, e]
    exact g x hx
theorem most_eq {x0 : Str × Tok} {xs : List (Str × Tok)} {M : Nat} {r : List Nat} (h : MostW (x0 :: xs) x0.1 M x0.1.length) (hr : LcsR ((x0 :: xs).map fun x => chs x.1) r) : r.length = M := by
  have h0 : Has (chs x0.1) r := hr.has _ (List.mem_map_of_mem (f := fun x : Str × Tok => chs x.1) (.head _))
  apply Nat.le_antisymm
  · rcases Nat.lt_or_ge M r.length with hlt | hge
    · exfalso
      obtain ⟨i, h1, h2⟩ := h0
      rw [chs_len] at h1
      obtain ⟨mj, h3, h4⟩ := h.no i (by omega)
      refine h4 ⟨by omega, (good_iff (by omega)).mpr fun x hx => ?_⟩
      have hh := hr.has _ (List.mem_map_of_mem (f := fun x : Str × Tok => chs x.1) hx)
      have e : ((chs x0.1).drop i).take (mj + 1) = r.take (mj + 1) := by
        conv => rhs; rw [← h2, List.take_take]
        congr 1
        omega
      rw [e]
      exact hh.take _
    · exact hge
  · rcases h.has with h1 | ⟨j, h1, h2⟩
    · rw [h1]; exact Nat.zero_le _
    · have h3 := (good_iff h1).mp h2
      have := hr.no _ (fun d hd => by
        obtain ⟨x, hx, rfl⟩ := List.mem_map.mp hd
        exact h3 x hx)
      rw [List.length_take, List.length_drop, chs_len] at this
      omega
end Mine
end

section
theorem Mine.calm_LCall : True := by
  w_top off
  trivial
open PySem PySem.SeqAt PySem.W PyProof.Rows PySem.Spec PySem.Calls
set_option Elab.async false
namespace Mine

local macro_rules | `(tactic| walk_at "call ref") => `(tactic| refine halt ?_)
local macro_rules | `(tactic| walk_at "call builtin:all") => `(tactic| refine halt ?_)
local macro_rules | `(tactic| walk_at "call type:map") => `(tactic| refine halt ?_)
local macro_rules | `(tactic| walk_at "call builtin:max") => `(tactic| refine halt ?_)
set_option maxRecDepth 100000 in
set_option maxHeartbeats 8000000 in

theorem lcall_2 {w : World} {p : Program} {loose : List Str} {mean : ExcName → Option Value} {mg mb : Str → Option Value}
    {dp un : Nat} {gd : Option (List Code)} {cn : Str} {cs : Scope} {a : Addr} {ccd : Value} {cl : List (Str × Addr)} {outer : List Env} {A₀ : Around} {base h₀ : Heap} {L : Addr} {m : Str → Option Value} {s : Shared}
    {Q E : Value → Shared → Prop} (B : Below A₀ base outer h₀) (F : Fr h₀ L s.heap m) (X : (hd.heap_39 w.params).In h₀) (T : Top p loose mean mg mb h₀) (hk : cs.kind = .function)
    (hd : dp + 50 < recursionLimit) (hu : un + 600 < cLine)
  (S d : Addr) (t1 t2 tq : Tok) (N : News h₀ L s.heap [(S, instObj 221 d), (d, dictOf [⟨PyData.keyHash w.params (Str.ofString "qval"), .str (Str.ofString "qval") t1, .int 1 tq⟩, ⟨PyData.keyHash w.params (Str.ofString "external"), .str (Str.ofString "external") t2, .bool true⟩] 2)]) (x0 x1 : Str × Tok) (hx : ∀ x ∈ [x0, x1], Low x.1)
  (ret : ∀ (r : Str) t h' tk', s.heap.StaysIn h' → LcsR [chs x0.1, chs x1.1] (chs r) → Q (.str r t) { s with heap := h', toks := tk' }) :
  codeAny (model PySem.Challenge.rw_fu0023_01.row.prog w) (ktrTop dp un gd cn cs L a ccd cl outer) (.call (.ref 211) ⟨[.ref S, .str x0.1 x0.2, .str x1.1 x1.2], []⟩) (fun r s' => match r with | .ok (.ret v) => Q v s' | .ok _ => False | .error e => E e s') s := by
  revert X; k_fill; intro X
  k_dflt (refine' enter_rest ?k1 ?k2 ?k3 ?k4 ?k5 ?kA ?kF ?kK ?k6 ?k7 ?k8 ?kV ?kP ?kG ?kB ?_ ?c2 ?c3 ?c4 ?c5; (case kA => exact rfl); (case kF => exact rfl); (case kK => first | exact rfl | assumption); (case k1 => k_asm); (case k2 => k_asm); (case k3 => k_asm); (case k4 => k_asm); (case k5 => k_asm); (case k6 => k_is); (case k7 => k_is); (case k8 => ktr_room); (case kV => first | kl_lit | exact rfl); (case kP => exact rfl); (case kG => exact fun _ => rfl); (case kB => exact fun _ => locs rfl); (case c5 => decide); (case c2 => exact rfl); (case c3 => exact rfl); (case c4 => exact rfl); k_whole); intro D g L1 h1 FG F1 N1 B1 X1 T1 lD lD1 NT; (try k_lt lD); (try dsimp only)
  replace F1 : Fr g L1 h1 _ := lk2 ▸ F1
  have hlen0 := (hx x0 (by simp)).short
  have hlen1 := (hx x1 (by simp)).short

  all_goals (try k_fold)
  k_steps
  refine go (all_tup (vs := [x0, x1]) rfl ⟨_, (N1 _ (.head _)).1, rfl, _, rfl⟩ (fun x hx' => Nat.le_trans (hx x hx').short (by decide)) ?_)
  intro b h2 tk2 hb hst2
  have F2 := F1.keeps hst2
  have N2 := N1.grown hst2
  clear F1 N1
  cases b with
  | false =>
    k_steps
    rename Fr _ _ _ _ => F9
    rename News _ _ _ _ => N9
    refine ret _ _ _ _ (NT.back _ F9.keep fun p hp => (N9 p (.tail _ hp)).1) (LcsR.empty ?_)
    refine Classical.byContradiction fun hn => ?_
    have := hb.mpr fun x hx' h0 => hn ⟨chs x.1, List.mem_map_of_mem (f := fun y : Str × Tok => chs y.1) hx', List.eq_nil_of_length_eq_zero (by rw [chs_len, h0])⟩
    cases this
  | true =>
    k_steps
    rename Fr _ _ _ _ => F3
    rename News _ _ _ _ => N3
    refine go (call_meth N3 (.head _) ?_)
    refine getseq_L2 B1 F3 X1 T1 rfl (by show dp + 1 + 10 < _; omega) (by show un + 3 + 200 < _; omega) S d t1 t2 tq (fun p hp => N3 p (.tail _ (.tail _ hp))) _ _ ?_
    intro r cr h4 tk4 hst hr0 hr
    obtain ⟨F4, N4, hne⟩ := news_made F3 N3 hst hr0 hr
    replace hne := allNe_of hne; simp only [AllNe, and_true] at hne
    clear F3 N3
    k_steps
    rename Fr _ _ _ _ => F5
    rename News _ _ _ _ => N5
    refine go (map_new (k := false) (l := r) (vs := (vtx [x0, x1]).toArray) ⟨_, (N5 _ (.head _)).1, rfl, _, rfl⟩ ?_)
    intro Mm TI It h6 h1a h2a h3a h4a h5a Z6 hst6 hMlt
    have hrI : r ≠ It := Nat.ne_of_lt (Nat.lt_of_lt_of_le (Heap.lt_size (N5 _ (.head _)).1) h3a)
    k_steps
    refine go (max_map2 (k := false) rfl h4a h5a hrI Z6 (by omega) (by omega) ?_)
    intro h7 t7 tk7 hk7
    have hst57 := fun b o (e : Heap.get? _ b = some o) => hk7 b o (Nat.ne_of_lt (Nat.lt_of_lt_of_le (Heap.lt_size e) h3a)) (hst6 b o e)
    have F7 := F5.keeps hst57
    have N7 := N5.grown hst57
    clear F5 N5
    k_steps
    · rename Fr _ _ _ _ => F8
      rename News _ _ _ _ => N8
      refine go (call_meth N8 (.head _) ?_)
      refine std_spec B1 F8 X1 T1 rfl (by show dp + 1 + 10 < _; omega) (by show un + 3 + 200 < _; omega) S x0 x1 hx ?_
      intro r' t' p b h9 tk9 hst9 hr9 hB
      have F9 := F8.keeps hst9
      have N9 := N8.grown hst9
      clear F8 N8
      k_steps
      refine ret r' t' _ _ (NT.back _ F9.keep fun p hp => (N9 p (.tail _ (.tail _ (.tail _ (.tail _ (hp)))))).1) (LcsR.of_std hB ?_)
      have hle := hB.le
      rw [chs_len] at hle
      have := slice_ij (x := x0.1) (i := p) (j := p + b) (by omega) hle
      rw [show p + b - p = b by omega] at this
      rw [hr9]
      exact this
set_option maxRecDepth 100000 in
set_option maxHeartbeats 8000000 in

theorem lcall_3 {w : World} {p : Program} {loose : List Str} {mean : ExcName → Option Value} {mg mb : Str → Option Value}
    {dp un : Nat} {gd : Option (List Code)} {cn : Str} {cs : Scope} {a : Addr} {ccd : Value} {cl : List (Str × Addr)} {outer : List Env} {A₀ : Around} {base h₀ : Heap} {L : Addr} {m : Str → Option Value} {s : Shared}
    {Q E : Value → Shared → Prop} (B : Below A₀ base outer h₀) (F : Fr h₀ L s.heap m) (X : (hd.heap_39 w.params).In h₀) (T : Top p loose mean mg mb h₀) (hk : cs.kind = .function)
    (hd : dp + 50 < recursionLimit) (hu : un + 600 < cLine)
  (S d : Addr) (t1 t2 tq : Tok) (N : News h₀ L s.heap [(S, instObj 221 d), (d, dictOf [⟨PyData.keyHash w.params (Str.ofString "qval"), .str (Str.ofString "qval") t1, .int 1 tq⟩, ⟨PyData.keyHash w.params (Str.ofString "external"), .str (Str.ofString "external") t2, .bool true⟩] 2)]) (x0 x1 x2 : Str × Tok) (hx : ∀ x ∈ [x0, x1, x2], Low x.1)
  (ret : ∀ (r : Str) t h' tk', s.heap.StaysIn h' → LcsR [chs x0.1, chs x1.1, chs x2.1] (chs r) → Q (.str r t) { s with heap := h', toks := tk' }) :
  codeAny (model PySem.Challenge.rw_fu0023_01.row.prog w) (ktrTop dp un gd cn cs L a ccd cl outer) (.call (.ref 211) ⟨[.ref S, .str x0.1 x0.2, .str x1.1 x1.2, .str x2.1 x2.2], []⟩) (fun r s' => match r with | .ok (.ret v) => Q v s' | .ok _ => False | .error e => E e s') s := by
  revert X; k_fill; intro X
  k_dflt (refine' enter_rest ?k1 ?k2 ?k3 ?k4 ?k5 ?kA ?kF ?kK ?k6 ?k7 ?k8 ?kV ?kP ?kG ?kB ?_ ?c2 ?c3 ?c4 ?c5; (case kA => exact rfl); (case kF => exact rfl); (case kK => first | exact rfl | assumption); (case k1 => k_asm); (case k2 => k_asm); (case k3 => k_asm); (case k4 => k_asm); (case k5 => k_asm); (case k6 => k_is); (case k7 => k_is); (case k8 => ktr_room); (case kV => first | kl_lit | exact rfl); (case kP => exact rfl); (case kG => exact fun _ => rfl); (case kB => exact fun _ => locs rfl); (case c5 => decide); (case c2 => exact rfl); (case c3 => exact rfl); (case c4 => exact rfl); k_whole); intro D g L1 h1 FG F1 N1 B1 X1 T1 lD lD1 NT; (try k_lt lD); (try dsimp only)
  replace F1 : Fr g L1 h1 _ := lk2 ▸ F1
  have hlen0 := (hx x0 (by simp)).short
  have hlen1 := (hx x1 (by simp)).short
  have hlen2 := (hx x2 (by simp)).short

  all_goals (try k_fold)
  k_steps
  refine go (all_tup (vs := [x0, x1, x2]) rfl ⟨_, (N1 _ (.head _)).1, rfl, _, rfl⟩ (fun x hx' => Nat.le_trans (hx x hx').short (by decide)) ?_)
  intro b h2 tk2 hb hst2
  have F2 := F1.keeps hst2
  have N2 := N1.grown hst2
  clear F1 N1
  cases b with
  | false =>
    k_steps
    rename Fr _ _ _ _ => F9
    rename News _ _ _ _ => N9
    refine ret _ _ _ _ (NT.back _ F9.keep fun p hp => (N9 p (.tail _ hp)).1) (LcsR.empty ?_)
    refine Classical.byContradiction fun hn => ?_
    have := hb.mpr fun x hx' h0 => hn ⟨chs x.1, List.mem_map_of_mem (f := fun y : Str × Tok => chs y.1) hx', List.eq_nil_of_length_eq_zero (by rw [chs_len, h0])⟩
    cases this
  | true =>
    k_steps
    rename Fr _ _ _ _ => F3
    rename News _ _ _ _ => N3
    refine go (call_meth N3 (.head _) ?_)
    refine getseq_L3 B1 F3 X1 T1 rfl (by show dp + 1 + 10 < _; omega) (by show un + 3 + 200 < _; omega) S d t1 t2 tq (fun p hp => N3 p (.tail _ (.tail _ hp))) _ _ _ ?_
    intro r cr h4 tk4 hst hr0 hr
    obtain ⟨F4, N4, hne⟩ := news_made F3 N3 hst hr0 hr
    replace hne := allNe_of hne; simp only [AllNe, and_true] at hne
    clear F3 N3
    k_steps
    rename Fr _ _ _ _ => F8
    rename News _ _ _ _ => N8
    refine go (call_meth N8 (.head _) ?_)
    refine custom_spec B1 F8 X1 T1 rfl (by show dp + 1 + 30 < _; omega) (by show un + 3 + 400 < _; omega) S x0 x1 x2 hx ?_
    intro r' t' sh h9 tk9 hst9 hsh hR
    have F9 := F8.keeps hst9
    have N9 := N8.grown hst9
    clear F8 N8
    k_steps
    exact ret r' t' _ _ (NT.back _ F9.keep fun p hp => (N9 p (.tail _ (.tail _ (.tail _ (.tail _ (hp)))))).1) (LcsR.of_custom (List.mem_map_of_mem (f := fun y : Str × Tok => chs y.1) hsh) hR)
end Mine
end

section
theorem Mine.calm_LDist : True := by
  w_top off
  trivial
open PySem PySem.SeqAt PySem.W PyProof.Rows PySem.Spec PySem.Calls
set_option Elab.async false
namespace Mine

local macro_rules | `(tactic| walk_at "call ref") => `(tactic| refine halt ?_)
local macro_rules | `(tactic| walk_at "call builtin:all") => `(tactic| refine halt ?_)
local macro_rules | `(tactic| walk_at "call type:map") => `(tactic| refine halt ?_)
local macro_rules | `(tactic| walk_at "call builtin:max") => `(tactic| refine halt ?_)
set_option maxRecDepth 100000 in
set_option maxHeartbeats 8000000 in

theorem max_spec {w : World} {p : Program} {loose : List Str} {mean : ExcName → Option Value} {mg mb : Str → Option Value}
    {dp un : Nat} {gd : Option (List Code)} {cn : Str} {cs : Scope} {a : Addr} {ccd : Value} {cl : List (Str × Addr)} {outer : List Env} {A₀ : Around} {base h₀ : Heap} {L : Addr} {m : Str → Option Value} {s : Shared}
    {Q E : Value → Shared → Prop} (B : Below A₀ base outer h₀) (F : Fr h₀ L s.heap m) (X : (hd.heap_39 w.params).In h₀) (T : Top p loose mean mg mb h₀) (hk : cs.kind = .function)
    (hd : dp + 10 < recursionLimit) (hu : un + 200 < cLine)
  (x0 x1 : Str × Tok) (hx : ∀ x ∈ [x0, x1], Low x.1)
  (ret : ∀ t h' tk', s.heap.StaysIn h' → Q (.int ((max x0.1.length x1.1.length : Nat) : Int) t) { s with heap := h', toks := tk' }) :
  wpAny (model PySem.Challenge.rw_fu0023_01.row.prog w) (ktrTop dp un gd cn cs L a ccd cl outer) (call (.ref 55) [.str x0.1 x0.2, .str x1.1 x1.2]) Q E s := by
  revert X; k_fill; intro X
  have N : News h₀ L s.heap [] := News.nil
  refine wpAny_call ?_
  k_dflt (refine' enter_rest ?k1 ?k2 ?k3 ?k4 ?k5 ?kA ?kF ?kK ?k6 ?k7 ?k8 ?kV ?kP ?kG ?kB ?_ ?c2 ?c3 ?c4 ?c5; (case kA => exact rfl); (case kF => exact rfl); (case kK => first | exact rfl | assumption); (case k1 => k_asm); (case k2 => k_asm); (case k3 => k_asm); (case k4 => k_asm); (case k5 => k_asm); (case k6 => k_is); (case k7 => k_is); (case k8 => ktr_room); (case kV => first | kl_lit | exact rfl); (case kP => exact rfl); (case kG => exact fun _ => rfl); (case kB => exact fun _ => locs rfl); (case c5 => decide); (case c2 => exact rfl); (case c3 => exact rfl); (case c4 => exact rfl); k_whole); intro D g L1 h1 FG F1 N1 B1 X1 T1 lD lD1 NT; (try k_lt lD); (try dsimp only)
  replace F1 : Fr g L1 h1 _ := lk1 ▸ F1
  have hlen0 := (hx x0 (by simp)).short
  have hlen1 := (hx x1 (by simp)).short
  all_goals (try k_fold)
  k_steps
  refine go (map_new (k := true) (l := D) (vs := (vtx [x0, x1]).toArray) ⟨_, (N1 _ (.head _)).1, rfl, _, rfl⟩ ?_)
  intro Mm TI It h6 h1a h2a h3a h4a h5a Z6 hst6 hMlt
  have hrI : D ≠ It := Nat.ne_of_lt (Nat.lt_of_lt_of_le (Heap.lt_size (N1 _ (.head _)).1) h3a)
  k_steps
  refine go (max_map2 (k := true) rfl h4a h5a hrI Z6 (by omega) (by omega) ?_)
  intro h7 t7 tk7 hk7
  have hst57 := fun b o (e : Heap.get? _ b = some o) => hk7 b o (Nat.ne_of_lt (Nat.lt_of_lt_of_le (Heap.lt_size e) h3a)) (hst6 b o e)
  have F7 := F1.keeps hst57
  k_steps
  exact ret _ _ _ (NT.back _ F7.keep (fun _ hp => nomatch hp))
set_option maxRecDepth 100000 in
set_option maxHeartbeats 8000000 in

theorem lsim_2 {w : World} {p : Program} {loose : List Str} {mean : ExcName → Option Value} {mg mb : Str → Option Value}
    {dp un : Nat} {gd : Option (List Code)} {cn : Str} {cs : Scope} {a : Addr} {ccd : Value} {cl : List (Str × Addr)} {outer : List Env} {A₀ : Around} {base h₀ : Heap} {L : Addr} {m : Str → Option Value} {s : Shared}
    {Q E : Value → Shared → Prop} (B : Below A₀ base outer h₀) (F : Fr h₀ L s.heap m) (X : (hd.heap_39 w.params).In h₀) (T : Top p loose mean mg mb h₀) (hk : cs.kind = .function)
    (hd : dp + 60 < recursionLimit) (hu : un + 700 < cLine)
  (S d : Addr) (t1 t2 tq : Tok) (N : News h₀ L s.heap [(S, instObj 221 d), (d, dictOf [⟨PyData.keyHash w.params (Str.ofString "qval"), .str (Str.ofString "qval") t1, .int 1 tq⟩, ⟨PyData.keyHash w.params (Str.ofString "external"), .str (Str.ofString "external") t2, .bool true⟩] 2)]) (x0 x1 : Str × Tok) (hx : ∀ x ∈ [x0, x1], Low x.1)
  (ret : ∀ t (r : List Nat) h' tk', s.heap.StaysIn h' → LcsR [chs x0.1, chs x1.1] r → Q (.int (r.length : Nat) t) { s with heap := h', toks := tk' }) :
  codeAny (model PySem.Challenge.rw_fu0023_01.row.prog w) (ktrTop dp un gd cn cs L a ccd cl outer) (.call (.ref 218) ⟨[.ref S, .str x0.1 x0.2, .str x1.1 x1.2], []⟩) (fun r s' => match r with | .ok (.ret v) => Q v s' | .ok _ => False | .error e => E e s') s := by
  revert X; k_fill; intro X
  k_dflt (refine' enter_rest ?k1 ?k2 ?k3 ?k4 ?k5 ?kA ?kF ?kK ?k6 ?k7 ?k8 ?kV ?kP ?kG ?kB ?_ ?c2 ?c3 ?c4 ?c5; (case kA => exact rfl); (case kF => exact rfl); (case kK => first | exact rfl | assumption); (case k1 => k_asm); (case k2 => k_asm); (case k3 => k_asm); (case k4 => k_asm); (case k5 => k_asm); (case k6 => k_is); (case k7 => k_is); (case k8 => ktr_room); (case kV => first | kl_lit | exact rfl); (case kP => exact rfl); (case kG => exact fun _ => rfl); (case kB => exact fun _ => locs rfl); (case c5 => decide); (case c2 => exact rfl); (case c3 => exact rfl); (case c4 => exact rfl); k_whole); intro D g L1 h1 FG F1 N1 B1 X1 T1 lD lD1 NT; (try k_lt lD); (try dsimp only)
  replace F1 : Fr g L1 h1 _ := lk2 ▸ F1
  all_goals (try k_fold)
  k_steps
  rename Fr _ _ _ _ => F2
  rename News _ _ _ _ => N2
  refine go ?_
  refine wpAny_call ?_; refine' kco_code ?k1 ?k2 ?k3 ?k4 ?k5 ?k6 ?_; (case k1 => k_in); (case k2 => k_inst); (case k3 => rfl); (case k4 => k_is); (case k5 => k_is); (case k6 => k_is)
  refine lcall_2 B1 F2 X1 T1 rfl (by show dp + 1 + 50 < _; omega) (by show un + 3 + 600 < _; omega) S d t1 t2 tq (fun p hp => N2 p (.tail _ hp)) _ _ hx ?_
  intro r t h3 tk3 hst hr
  have F3 := F2.keeps hst
  have N3 := N2.grown hst
  clear F2 N2
  have hr15 : r.length ≤ 15 := by
    obtain ⟨i, h1, _⟩ := hr.has (chs x0.1) (by simp)
    rw [chs_len, chs_len] at h1
    have h3 := (hx x0 (by simp)).short
    omega
  k_steps
  have e := chs_len r
  rw [← e]
  exact ret _ (chs r) _ _ (NT.back _ F3.keep fun p hp => (N3 p (.tail _ hp)).1) hr
set_option maxRecDepth 100000 in
set_option maxHeartbeats 8000000 in

theorem ldist_2 {w : World} {p : Program} {loose : List Str} {mean : ExcName → Option Value} {mg mb : Str → Option Value}
    {dp un : Nat} {gd : Option (List Code)} {cn : Str} {cs : Scope} {a : Addr} {ccd : Value} {cl : List (Str × Addr)} {outer : List Env} {A₀ : Around} {base h₀ : Heap} {L : Addr} {m : Str → Option Value} {s : Shared}
    {Q E : Value → Shared → Prop} (B : Below A₀ base outer h₀) (F : Fr h₀ L s.heap m) (X : (hd.heap_39 w.params).In h₀) (T : Top p loose mean mg mb h₀) (hk : cs.kind = .function)
    (hd : dp + 70 < recursionLimit) (hu : un + 800 < cLine)
  (S d : Addr) (t1 t2 tq : Tok) (N : News h₀ L s.heap [(S, instObj 221 d), (d, dictOf [⟨PyData.keyHash w.params (Str.ofString "qval"), .str (Str.ofString "qval") t1, .int 1 tq⟩, ⟨PyData.keyHash w.params (Str.ofString "external"), .str (Str.ofString "external") t2, .bool true⟩] 2)]) (x0 x1 : Str × Tok) (hx : ∀ x ∈ [x0, x1], Low x.1)
  (ret : ∀ t (r : List Nat) h' tk', s.heap.StaysIn h' → LcsR [chs x0.1, chs x1.1] r → Q (.int (((max x0.1.length x1.1.length : Nat) : Int) - (r.length : Nat)) t) { s with heap := h', toks := tk' }) :
  codeAny (model PySem.Challenge.rw_fu0023_01.row.prog w) (ktrTop dp un gd cn cs L a ccd cl outer) (.call (.ref 164) ⟨[.ref S, .str x0.1 x0.2, .str x1.1 x1.2], []⟩) (fun r s' => match r with | .ok (.ret v) => Q v s' | .ok _ => False | .error e => E e s') s := by
  revert X; k_fill; intro X
  k_dflt (refine' enter_rest ?k1 ?k2 ?k3 ?k4 ?k5 ?kA ?kF ?kK ?k6 ?k7 ?k8 ?kV ?kP ?kG ?kB ?_ ?c2 ?c3 ?c4 ?c5; (case kA => exact rfl); (case kF => exact rfl); (case kK => first | exact rfl | assumption); (case k1 => k_asm); (case k2 => k_asm); (case k3 => k_asm); (case k4 => k_asm); (case k5 => k_asm); (case k6 => k_is); (case k7 => k_is); (case k8 => ktr_room); (case kV => first | kl_lit | exact rfl); (case kP => exact rfl); (case kG => exact fun _ => rfl); (case kB => exact fun _ => locs rfl); (case c5 => decide); (case c2 => exact rfl); (case c3 => exact rfl); (case c4 => exact rfl); k_whole); intro D g L1 h1 FG F1 N1 B1 X1 T1 lD lD1 NT; (try k_lt lD); (try dsimp only)
  replace F1 : Fr g L1 h1 _ := lk2 ▸ F1
  have hlen0 := (hx x0 (by simp)).short
  have hlen1 := (hx x1 (by simp)).short
  all_goals (try k_fold)
  k_steps
  rename Fr _ _ _ _ => F2
  rename News _ _ _ _ => N2
  refine go (max_spec B1 F2 X1 T1 rfl (by show dp + 1 + 10 < _; omega) (by show un + 3 + 200 < _; omega) x0 x1 hx ?_)
  intro t7 h3 tk3 hst
  have F3 := F2.keeps hst
  have N3 := N2.grown hst
  clear F2 N2
  k_steps
  rename Fr _ _ _ _ => F4
  rename News _ _ _ _ => N4
  refine go (call_meth N4 (.head _) ?_)
  refine lsim_2 B1 F4 X1 T1 rfl (by show dp + 1 + 60 < _; omega) (by show un + 3 + 700 < _; omega) S d t1 t2 tq (fun p hp => N4 p (.tail _ (.tail _ hp))) _ _ hx ?_
  intro t8 r h5 tk5 hst5 hr
  have F5 := F4.keeps hst5
  have N5 := N4.grown hst5
  clear F4 N4
  k_steps
  exact ret _ r _ _ (NT.back _ F5.keep fun p hp => (N5 p (.tail _ (.tail _ hp))).1) hr
end Mine
end

section
set_option maxRecDepth 100000
set_option Elab.async false
namespace Mine
open PySem PySem.W PySem.Spec PySem.Calls PyProof.Rows
/-- the three texts at hand -/
structure LawT (a b c : Str) : Prop where
  sum : a.length + b.length + c.length ≤ 15
  low : ∀ x ∈ [a, b, c], ∀ n ∈ chs x, n < 128
theorem LawT.all {a b c : Str} (h : LawT a b c) : Low a ∧ Low b ∧ Low c := by
  have := h.sum
  exact ⟨⟨h.low a (by simp), by omega⟩, ⟨h.low b (by simp), by omega⟩, ⟨h.low c (by simp), by omega⟩⟩
def lawM (mT : Str → Option Value) (vp vn : Option Value) : Str → Option Value := fun y => if y = Str.ofString "place" then vp else if y = Str.ofString "number" then vn else mT y
theorem lawM_none {mT : Str → Option Value} (h1 : mT (Str.ofString "place") = none) (h2 : mT (Str.ofString "number") = none) : mT = lawM mT none none := by
  funext y
  unfold lawM
  by_cases e : y = Str.ofString "place"
  · subst e; simp [h1]
  · by_cases e2 : y = Str.ofString "number"
    · subst e2; simp [e, h2]
    · simp [e, e2]
def LawJ (mT : Str → Option Value) (l c0 : Addr) (o : Obj) (i : Nat) (m : Str → Option Value) (nx : List (Addr × Obj)) : Prop :=
  ∃ (a b c : Str) (ta tb tc : Tok) (n : Nat) (vp vn : Option Value), nx = [(l, W.listOf #[.str a ta, .str b tb, .str c tc] n), (c0, o)] ∧ a.length + b.length + c.length ≤ i ∧ (∀ x ∈ [a, b, c], ∀ n ∈ chs x, n < 128) ∧ m = lawM mT vp vn
def LawEnd (h₀ : Heap) (L : Addr) (s : Shared) (mT : Str → Option Value) (l c0 : Addr) (o : Obj) (f : Flow) (s' : Shared) : Prop :=
  f = .next ∧ ∃ h' tk m' nx' i, i ≤ 15 ∧ s' = { s with heap := h', toks := tk } ∧ Fr h₀ L h' m' ∧ News h₀ L h' nx' ∧ LawJ mT l c0 o i m' nx'
section
variable {prog : Program} {w : World} {A : Around} {E : Value → Shared → Prop} {s : Shared} {env : Env} {Q : Flow → Shared → Prop} {h₀ : Heap} {L : Addr}
theorem law_cut {st : Stmt} {mT : Str → Option Value} {l c0 : Addr} {o0 o : Obj} (_F : Fr h₀ L s.heap mT) (_N : News h₀ L s.heap [(l, o0), (c0, o)]) (h1 : wpAny (model prog w) A (exec st env) (LawEnd h₀ L s mT l c0 o) E s)
    (h2 : ∀ (a b c : Str) (ta tb tc : Tok) (n : Nat) (vp vn : Option Value) h' tk, LawT a b c → Fr h₀ L h' (lawM mT vp vn) → News h₀ L h' [(l, W.listOf #[.str a ta, .str b tb, .str c tc] n), (c0, o)] → Q .next { s with heap := h', toks := tk }) : wpAny (model prog w) A (exec st env) Q E s := by
  refine wpAny_mono h1 (fun f s' h => ?_) fun _ _ e => e
  obtain ⟨rfl, h', tk, m', nx', i, hi, rfl, F', N', a, b, c, ta, tb, tc, n, vp, vn, rfl, h3, h4, rfl⟩ := h
  exact h2 a b c ta tb tc n vp vn h' tk ⟨by omega, h4⟩ F' N'
theorem for_atF {target iter : Expr} {body orelse : List Stmt} {pos : Pos} {m : Str → Option Value} (_F : Fr h₀ L s.heap m)
    (h : wpAny (model prog w) A (eval iter env) (fun x s₁ => wpAny (model prog w) A (pyIter x) (fun it s₂ => ForAt prog w A E Q env target body orelse h₀ L it s₂) E s₁) E s)
    (hs : ∀ x, foldedSetIterable iter env x = pure x := by intro _; rfl) (ht : ∀ it v, letOwnedTupleGo target it v = pure () := by intro _ _; rfl)
    (hE : PassesOwn (model prog w) A env E := by passes_own) :
    wpAny (model prog w) A (exec (.For target iter body orelse pos) env) Q E s := for_at h₀ L h hs ht hE
theorem ints_get : ∀ {vs : List Value} {ns : List Int} {i : Nat} {v : Value}, IntsAre vs ns → vs[i]? = some v → ∃ k t, v = .int k t
  | _, _, _, _, .nil, h => by simp at h
  | _, _, 0, _, .cons k t _, h => ⟨k, t, by simpa using h.symm⟩
  | _, _, i + 1, _, .cons _ _ r, h => ints_get r (i := i) (by simpa using h)
/-- the law's loop: its body for any number is all that is asked -/
theorem law_list {target : Expr} {body : List Stmt} {l D c0 : Addr} {ol o : Obj} {vs : List Value} {ns : List Int} {mT : Str → Option Value} {ta tb tc : Tok} {n0 : Nat} {nx : List (Addr × Obj)} {s0 : Shared}
    (hh : A.handled = none) (F : Fr h₀ L s.heap mT) (N : News h₀ L s.heap ((D, ol) :: nx)) (hsub : ∀ p ∈ [(l, W.listOf #[.str Str.empty ta, .str Str.empty tb, .str Str.empty tc] n0), (c0, o)], p ∈ nx) (hl : s.heap.IsList D vs.toArray) (hi : IntsAre vs ns) (hlen : ns.length ≤ 15)
    (hm : mT = lawM mT none none) (hlD : l ≠ D) (hcD : c0 ≠ D) (hs0 : ∀ h tk, ({ s0 with heap := h, toks := tk } : Shared) = { s with heap := h, toks := tk })
    (turn : ∀ (k : Int) (t : Tok) I i a b c ta tb tc n vp vn h tk oI ol, @Ne Nat l I → @Ne Nat c0 I → @Ne Nat l D → @Ne Nat c0 D → a.length + b.length + c.length ≤ i → i < 15 → (∀ x ∈ [a, b, c], ∀ n ∈ chs x, n < 128) → Fr h₀ L h (lawM mT vp vn) → News h₀ L h [(I, oI), (D, ol), (l, W.listOf #[.str a ta, .str b tb, .str c tc] n), (c0, o)] →
      wpAny (model prog w) A (assign target env (.int k t)) (fun _ s₂ => wpAny (model prog w) A (execs body env) (FStep h₀ L s [(I, oI), (D, ol)] [I, D] (LawJ mT l c0 o (i + 1)) (fun _ => False) (fun _ _ => False)) E s₂) E { s with heap := h, toks := tk }) :
    wpAny (model prog w) A (pyIter (.ref D)) (fun it s₂ => ForAt prog w A E (LawEnd h₀ L s0 mT l c0 o) env target body [] h₀ L it s₂) E s := by
  have hvl := hi.length
  refine at_list (l := D) (ol := ol) (nx := [(l, W.listOf #[.str Str.empty ta, .str Str.empty tb, .str Str.empty tc] n0), (c0, o)]) (vs := vs) (LawJ mT l c0 o) (fun _ => False) (fun _ _ => False) hh F (fun p hp => ?_) hl ?_ ?_ ?_ ?_ (fun _ h => h.elim) (fun _ _ h => h.elim)
  · rcases List.mem_cons.mp hp with rfl | hp
    · exact N _ (.head _)
    · exact N p (.tail _ (hsub p hp))
  · intro p hp
    simp only [List.mem_cons, List.not_mem_nil, or_false] at hp
    rcases hp with rfl | rfl
    · exact hlD
    · exact hcD
  · exact ⟨Str.empty, Str.empty, Str.empty, ta, tb, tc, n0, none, none, rfl, by decide, by simp [chs, Str.empty], hm⟩
  · rintro I i v m₁ nx₁ h tk oI ol hv hne ⟨a, b, c, ta, tb, tc, n, vp, vn, rfl, h1, h2, rfl⟩ F' N'
    obtain ⟨k, t, rfl⟩ := ints_get hi hv
    have hil : i < vs.length := (List.getElem?_eq_some_iff.mp hv).1
    have e1 := hne (l, W.listOf #[.str a ta, .str b tb, .str c tc] n) (.head _)
    have e2 := hne (c0, o) (.tail _ (.head _))
    exact turn k t I i a b c ta tb tc n vp vn h tk oI ol (fun e => e1 (by rw [show l = I from e]; exact .head _)) (fun e => e2 (by rw [show c0 = I from e]; exact .head _)) hlD hcD h1 (by omega) h2 F' N'
  · intro m' nx' h' tk F' N' j
    show wpAny _ _ (pure Flow.next) _ _ _
    refine wpAny_pure ⟨rfl, h', tk, m', nx', vs.length, by omega, (hs0 h' tk).symm, F', N', j⟩
end
theorem fmod3 (k : Int) : 0 ≤ k.fmod 3 ∧ k.fmod 3 < 3 := ⟨Int.fmod_nonneg_of_pos k (by decide), Int.fmod_lt_of_pos k (by decide)⟩
theorem fmod3_cases (k : Int) : k.fmod 3 = 0 ∨ k.fmod 3 = 1 ∨ k.fmod 3 = 2 := by
  have := fmod3 k
  omega
theorem letters_len : (Str.ofString "abc").length = 3 := by decide
theorem app_chs (x y : Str) : chs (x ++ y) = chs x ++ chs y := by
  show (x.cps ++ y.cps).toList = _
  rw [Array.toList_append]
theorem app_len (x y : Str) : (x ++ y).length = x.length + y.length := by
  rw [← chs_len, app_chs, List.length_append, chs_len, chs_len]
theorem app_low {x y : Str} (hx : ∀ n ∈ chs x, n < 128) (hy : ∀ n ∈ chs y, n < 128) : ∀ n ∈ chs (x ++ y), n < 128 := fun n hn => by
  rw [app_chs] at hn
  rcases List.mem_append.mp hn with h | h
  · exact hx n h
  · exact hy n h
theorem letter_one {q : Int} (h : 0 ≤ q ∧ q < 3) : (Txt.item (Str.ofString "abc") q).length = 1 ∧ ∀ n ∈ chs (Txt.item (Str.ofString "abc") q), n < 128 := by
  have hq : q = 0 ∨ q = 1 ∨ q = 2 := by omega
  rcases hq with rfl | rfl | rfl <;> exact ⟨by decide, by decide⟩
theorem lawM_set {mT : Str → Option Value} {vp vn : Option Value} {u v : Value} : (fun y => if y = Str.ofString "place" then some u else if y = Str.ofString "number" then some v else lawM mT vp vn y) = lawM mT (some u) (some v) := by
  funext y
  unfold lawM
  by_cases h : y = Str.ofString "place"
  · simp [h]
  · by_cases h2 : y = Str.ofString "number"
    · simp [h2]
    · simp [h, h2]
theorem law_step {h₀ h : Heap} {L l I D c0 : Addr} {oI ol o : Obj} {s : Shared} {tk : Nat} {mT m : Str → Option Value} {a b c : Str} {ta tb tc : Tok} {n i : Nat} {vp vn : Option Value} (F : Fr h₀ L h m) (hm : m = lawM mT vp vn) (N : News h₀ L h [(I, oI), (D, ol), (l, W.listOf #[.str a ta, .str b tb, .str c tc] n), (c0, o)])
    (e1 : @Ne Nat l I) (e2 : @Ne Nat c0 I) (e3 : @Ne Nat l D) (e4 : @Ne Nat c0 D) (hs : a.length + b.length + c.length ≤ i + 1) (ha : ∀ n ∈ chs a, n < 128) (hb : ∀ n ∈ chs b, n < 128) (hc : ∀ n ∈ chs c, n < 128) :
    FStep h₀ L s [(I, oI), (D, ol)] [I, D] (LawJ mT l c0 o (i + 1)) (fun _ => False) (fun _ _ => False) .next { s with heap := h, toks := tk } := by
  refine FStep.next (nx' := [(l, W.listOf #[.str a ta, .str b tb, .str c tc] n), (c0, o)]) F N (fun p hp hp2 => ?_) ⟨a, b, c, ta, tb, tc, n, vp, vn, rfl, hs, fun x hx => ?_, hm⟩
  · simp only [List.mem_cons, List.not_mem_nil, or_false] at hp hp2
    rcases hp with rfl | rfl <;> rcases hp2 with q | q
    · exact e1 q
    · exact e3 q
    · exact e2 q
    · exact e4 q
  · simp only [List.mem_cons, List.not_mem_nil, or_false] at hx
    rcases hx with rfl | rfl | rfl
    · exact ha
    · exact hb
    · exact hc
end Mine
end

section
set_option maxRecDepth 100000
set_option Elab.async false
namespace Mine
open PySem PySem.W PySem.Spec PySem.Calls PyProof.Rows
theorem str_ext {x y : Str} (h : chs x = chs y) : x = y := by
  cases x with
  | mk a => cases y with
    | mk b => exact congrArg Str.mk (Array.toList_inj.mp h)
theorem pre_le {c0 : List Nat} {cs : List (List Nat)} {k k' : Nat} (h : Pre c0 cs k) (h' : Pre c0 cs k') : k' ≤ k := by
  rcases Nat.lt_or_ge k k' with hlt | hge
  · exfalso
    rcases h.off with ⟨c, hc, e⟩ | ⟨c, hc, e⟩
    · have := h'.le c hc
      omega
    · exact e (h'.agree k hlt c hc)
  · exact hge
theorem pre_uniq {c0 : List Nat} {cs : List (List Nat)} {k k' : Nat} (h : Pre c0 cs k) (h' : Pre c0 cs k') : k = k' := Nat.le_antisymm (pre_le h' h) (pre_le h h')
theorem pre_swap {c d : List Nat} {k : Nat} (h : Pre c [d] k) : Pre d [c] k :=
  ⟨fun x hx => h.le x (by simp only [List.mem_cons, List.not_mem_nil, or_false] at hx ⊢; exact hx.symm), fun i hi x hx => by
    rw [List.mem_singleton.mp hx]
    exact (h.agree i hi d (.head _)).symm, by
    rcases h.off with ⟨x, hx, e⟩ | ⟨x, hx, e⟩
    · exact .inl ⟨x, by simp only [List.mem_cons, List.not_mem_nil, or_false] at hx ⊢; exact hx.symm, e⟩
    · rw [List.mem_singleton.mp hx] at e
      exact .inr ⟨c, .head _, e.symm⟩⟩
theorem item_neg_eq {x y : Str} {i : Nat} (hi : i < x.length) (hj : i < y.length) : (Txt.item x (-1 - (i : Int)) = Txt.item y (-1 - (i : Int))) ↔ (chs x).reverse[i]? = (chs y).reverse[i]? := by
  have h1 := item_neg hi
  have h2 := item_neg hj
  have lx := chs_len x
  have ly := chs_len y
  rw [List.getElem?_reverse (by omega), List.getElem?_reverse (by omega), List.getElem?_eq_getElem (by omega), List.getElem?_eq_getElem (by omega)]
  have e1 : (chs x)[(chs x).length - 1 - i]'(by omega) = (chs x)[x.length - 1 - i]'(by omega) := by simp only [lx]
  have e2 : (chs y)[(chs y).length - 1 - i]'(by omega) = (chs y)[y.length - 1 - i]'(by omega) := by simp only [ly]
  rw [e1, e2]
  constructor
  · intro e
    rw [e, h2] at h1
    rw [List.head_eq_of_cons_eq h1]
  · intro e
    exact str_ext (h1.trans ((congrArg (fun z => [z]) (Option.some.inj e)).trans h2.symm))
theorem pre_off {sel : Str → Nat → Str} {f : Str → List Nat} (hf : ∀ x, (f x).length = x.length) (hsel : ∀ x y i, i < x.length → i < y.length → (sel x i = sel y i ↔ (f x)[i]? = (f y)[i]?)) {x0 : Str × Tok} {xs : List (Str × Tok)} {M : Int} {k : Nat} (hM1 : M ∈ (x0 :: xs).map fun x => (x.1.length : Int)) (hM2 : ∀ a ∈ (x0 :: xs).map (fun x => (x.1.length : Int)), M ≤ a) (h : Off sel (x0 :: xs) x0.1 M k) :
    Pre (f x0.1) (xs.map fun x => f x.1) k := by
  have hle : ∀ x ∈ x0 :: xs, k ≤ x.1.length := fun x hx => by
    have := hM2 _ (List.mem_map_of_mem (f := fun x : Str × Tok => (x.1.length : Int)) hx)
    have := h.le
    omega
  refine ⟨fun c hc => ?_, fun i hi c hc => ?_, ?_⟩
  · have hc' : c ∈ (x0 :: xs).map fun x => f x.1 := hc
    obtain ⟨x, hx, rfl⟩ := List.mem_map.mp hc'
    rw [hf]
    exact hle x hx
  · obtain ⟨x, hx, rfl⟩ := List.mem_map.mp hc
    have h1 := hle x (.tail _ hx)
    have h2 := hle x0 (.head _)
    exact (hsel _ _ i (by omega) (by omega)).mp (h.agree i hi x (.tail _ hx))
  · rcases h.off with e | ⟨x, hx, e⟩
    · obtain ⟨x, hx, e2⟩ := List.mem_map.mp hM1
      refine .inl ⟨f x.1, ?_, by rw [hf]; have e2 : (x.1.length : Int) = M := e2; omega⟩
      have : f x.1 ∈ (x0 :: xs).map fun x => f x.1 := List.mem_map_of_mem (f := fun x : Str × Tok => f x.1) hx
      exact this
    · by_cases hk : ∀ y ∈ x0 :: xs, k < y.1.length
      · rcases List.mem_cons.mp hx with rfl | hx'
        · exact absurd rfl e
        · exact .inr ⟨f x.1, List.mem_map_of_mem (f := fun x : Str × Tok => f x.1) hx', fun z => e ((hsel _ _ k (hk x hx) (hk x0 (.head _))).mpr z)⟩
      · have : ∃ y ∈ x0 :: xs, ¬ k < y.1.length := Classical.byContradiction fun hn => hk fun y hy => Classical.byContradiction fun hh => hn ⟨y, hy, hh⟩
        obtain ⟨y, hy, hh⟩ := this
        have := hle y hy
        refine .inl ⟨f y.1, ?_, by rw [hf]; omega⟩
        have : f y.1 ∈ (x0 :: xs).map fun x => f x.1 := List.mem_map_of_mem (f := fun x : Str × Tok => f x.1) hy
        exact this
theorem pre_offA {x0 : Str × Tok} {xs : List (Str × Tok)} {M : Int} {k : Nat} (hM1 : M ∈ (x0 :: xs).map fun x => (x.1.length : Int)) (hM2 : ∀ a ∈ (x0 :: xs).map (fun x => (x.1.length : Int)), M ≤ a) (h : Off selA (x0 :: xs) x0.1 M k) : Pre (chs x0.1) (xs.map fun x => chs x.1) k :=
  pre_off chs_len (fun _ _ _ hi hj => item_eq hi hj) hM1 hM2 h
theorem pre_offB {x0 : Str × Tok} {xs : List (Str × Tok)} {M : Int} {k : Nat} (hM1 : M ∈ (x0 :: xs).map fun x => (x.1.length : Int)) (hM2 : ∀ a ∈ (x0 :: xs).map (fun x => (x.1.length : Int)), M ≤ a) (h : Off selB (x0 :: xs) x0.1 M k) : Pre (chs x0.1).reverse (xs.map fun x => (chs x.1).reverse) k :=
  pre_off (f := fun x => (chs x).reverse) (fun x => by rw [List.length_reverse, chs_len]) (fun _ _ _ hi hj => item_neg_eq hi hj) hM1 hM2 h
theorem lcs_swap {c d r : List Nat} (h : LcsR [c, d] r) : LcsR [d, c] r :=
  ⟨fun x hx => h.has x (by simp only [List.mem_cons, List.not_mem_nil, or_false] at hx ⊢; exact hx.symm), fun p hp => h.no p fun x hx => hp x (by simp only [List.mem_cons, List.not_mem_nil, or_false] at hx ⊢; exact hx.symm)⟩
theorem news_two {g h : Heap} {L : Addr} {a b : Addr × Obj} {r : List (Addr × Obj)} (N : News g L h (a :: b :: r)) : News g L h [a, b] := fun p hp => by
  rcases List.mem_cons.mp hp with e | hp
  · exact e ▸ N _ (.head _)
  · rw [List.mem_singleton.mp hp]; exact N _ (.tail _ (.head _))
/-- what Prefix tells -/
theorem told_front {a r : Str} {k : Nat} (hk : k ≤ a.length) (h : chs r = (chs a).take k) : r = Txt.slice a none (some (k : Int)) := str_ext (h.trans (slice_to hk).symm)
theorem told_back {a r : Str} {k : Nat} (hk : k ≤ a.length) (h : chs r = ((chs a).reverse.take k).reverse) : r = Txt.slice a (some ((a.length : Int) - (k : Int))) none := by
  have e : (a.length : Int) - (k : Int) = ((a.length - k : Nat) : Int) := by omega
  rw [e]
  refine str_ext (h.trans ?_)
  rw [slice_from (by omega), List.take_reverse, List.reverse_reverse, chs_len]
end Mine
end

section
theorem Mine.calm_Make : True := by
  w_top off
  trivial
open PySem PySem.SeqAt PySem.W PyProof.Rows PySem.Spec PySem.Calls
set_option Elab.async false
namespace Mine
/-- the ledger after a making: what lay there lies there still, and the two new ones as the making left them -/
theorem made_back {h₀ g h k : Heap} {L L1 S d : Addr} {oS oS1 od od1 : Obj} {nx : List (Addr × Obj)} (N : News h₀ L h nx) (NT : Ent h₀ g h [(S, oS), (d, od)]) (hne : ∀ p ∈ nx, p.1 ≠ S ∧ p.1 ≠ d) (hk : g.StaysIn k)
    (hS : h.get? S = some oS ∧ S ≠ L ∧ h₀.get? S = none) (hd : h.get? d = some od ∧ d ≠ L ∧ h₀.get? d = none) (kS : k.get? S = some oS1 ∧ S ≠ L1 ∧ g.get? S = none) (kd : k.get? d = some od1 ∧ d ≠ L1 ∧ g.get? d = none) :
    News h₀ L k ((S, oS1) :: (d, od1) :: nx) := fun p hp => by
  rcases List.mem_cons.mp hp with rfl | hp
  · exact ⟨kS.1, hS.2⟩
  · rcases List.mem_cons.mp hp with rfl | hp
    · exact ⟨kd.1, hd.2⟩
    · refine ⟨?_, (N p hp).2⟩
      cases q : g.get? p.1 with
      | none =>
        have := NT.fresh p.1 q fun x hx => by
          simp only [List.mem_cons, List.not_mem_nil, or_false] at hx
          rcases hx with rfl | rfl
          · exact (hne p hp).1
          · exact (hne p hp).2
        rw [(N p hp).1] at this; cases this
      | some o =>
        have := NT.sub _ _ q
        rw [(N p hp).1] at this
        cases this
        exact hk _ _ q
theorem news_tail {g h : Heap} {L : Addr} {a : Addr × Obj} {r : List (Addr × Obj)} (N : News g L h (a :: r)) : News g L h r := fun p hp => N p (.tail _ hp)
set_option maxRecDepth 100000 in
set_option maxHeartbeats 8000000 in
theorem new_P {w : World} {p : Program} {loose : List Str} {mean : ExcName → Option Value} {mg mb : Str → Option Value}
    {dp un : Nat} {gd : Option (List Code)} {cn : Str} {cs : Scope} {a : Addr} {ccd : Value} {cl : List (Str × Addr)} {outer : List Env} {A₀ : Around} {base h₀ : Heap} {L : Addr} {m : Str → Option Value} {s : Shared}
    {Q E : Value → Shared → Prop} (B : Below A₀ base outer h₀) (F : Fr h₀ L s.heap m) (X : (hd.heap_39 w.params).In h₀) (T : Top p loose mean mg mb h₀) (hk : cs.kind = .function)
    (hd : dp + 40 < recursionLimit) (hu : un + 500 < cLine)
  {nx : List (Addr × Obj)} (N : News h₀ L s.heap nx)
  (ret : ∀ S d t1 t2 tq h' tk', Fr h₀ L h' m → News h₀ L h' ((S, instObj 262 d) :: (d, dictOf [⟨PyData.keyHash w.params (Str.ofString "qval"), .str (Str.ofString "qval") t1, .int 1 tq⟩, ⟨PyData.keyHash w.params (Str.ofString "sim_test"), .str (Str.ofString "sim_test") t2, .ref 100⟩] 2) :: nx) → (∀ p ∈ nx, p.1 < d) → d < S → Q (.ref S) { s with heap := h', toks := tk' }) :
  wpAny (model PySem.Challenge.rw_fu0023_01.row.prog w) (ktrTop dp un gd cn cs L a ccd cl outer) (call (.ref 262) []) Q E s := by
  revert X; k_fill; intro X
  refine' call_cls ?k1 ?k2 ?k3 ?k4 ?k5 ?k6 ?_; (case k1 => k_asm); (case k2 => k_asm); (case k3 => k_asm); (case k4 => k_is); (case k5 => k_is); (case k6 => k_is); k_whole
  intro S d h' F' N' l0 l2
  have hl := l2
  k_lt2 l2
  have N2 := news_two N'
  have N3 : True → News h₀ L h' nx := fun _ p hp => N' p (.tail _ (.tail _ hp))
  clear N' N
  k_dflt (refine' enter_plain ?k1 ?k2 ?k3 ?k4 ?k5 ?kA ?kF ?kK ?k6 ?k7 ?k8 ?k9 ?kB ?_ ?c2 ?c3 ?c4 ?c5; (case kA => exact rfl); (case kF => exact rfl); (case kK => first | exact rfl | assumption); (case k1 => k_asm); (case k2 => k_asm); (case k3 => k_asm); (case k4 => k_asm); (case k5 => k_asm); (case k6 => k_is); (case k7 => k_is); (case k8 => ktr_room); (case k9 => first | exact BindsTo.of_eq rfl | exact binds_K (by k_in) rfl (by k_is) rfl rfl rfl | fail "k_enter: no rule for these arguments"); (case c5 => decide); (case kB => exact locs rfl); (case c2 => exact rfl); (case c3 => exact rfl); (case c4 => exact rfl); k_whole); intro g L1 h1 FG F1 N1 B1 X1 T1 l1 NT; (try k_lt l1); (try dsimp only)
  k_steps
  rename Fr _ _ _ _ => F9
  rename News _ _ _ _ => N9
  refine ⟨rfl, ?_⟩
  show Q (.ref S) _
  have e2 : @LT.lt Nat _ d S := hl
  refine ret S d _ _ _ _ _ (FG.keeps F9.keep) (made_back (N3 trivial) NT (fun p hp => ?_) F9.keep (N2 _ (.head _)) (N2 _ (.tail _ (.head _))) (N9 _ (.head _)) (N9 _ (.tail _ (.head _)))) l0 hl
  have e1 : @LT.lt Nat _ p.1 d := l0 p hp
  exact ⟨fun e => by have e : @Eq Nat _ _ := e; omega, fun e => by have e : @Eq Nat _ _ := e; omega⟩
set_option maxRecDepth 100000 in
set_option maxHeartbeats 8000000 in
theorem new_T {w : World} {p : Program} {loose : List Str} {mean : ExcName → Option Value} {mg mb : Str → Option Value}
    {dp un : Nat} {gd : Option (List Code)} {cn : Str} {cs : Scope} {a : Addr} {ccd : Value} {cl : List (Str × Addr)} {outer : List Env} {A₀ : Around} {base h₀ : Heap} {L : Addr} {m : Str → Option Value} {s : Shared}
    {Q E : Value → Shared → Prop} (B : Below A₀ base outer h₀) (F : Fr h₀ L s.heap m) (X : (hd.heap_39 w.params).In h₀) (T : Top p loose mean mg mb h₀) (hk : cs.kind = .function)
    (hd : dp + 40 < recursionLimit) (hu : un + 500 < cLine)
  {nx : List (Addr × Obj)} (N : News h₀ L s.heap nx)
  (ret : ∀ S d t1 t2 tq h' tk', Fr h₀ L h' m → News h₀ L h' ((S, instObj 279 d) :: (d, dictOf [⟨PyData.keyHash w.params (Str.ofString "qval"), .str (Str.ofString "qval") t1, .int 1 tq⟩, ⟨PyData.keyHash w.params (Str.ofString "sim_test"), .str (Str.ofString "sim_test") t2, .ref 100⟩] 2) :: nx) → (∀ p ∈ nx, p.1 < d) → d < S → Q (.ref S) { s with heap := h', toks := tk' }) :
  wpAny (model PySem.Challenge.rw_fu0023_01.row.prog w) (ktrTop dp un gd cn cs L a ccd cl outer) (call (.ref 279) []) Q E s := by
  revert X; k_fill; intro X
  refine' call_cls ?k1 ?k2 ?k3 ?k4 ?k5 ?k6 ?_; (case k1 => k_asm); (case k2 => k_asm); (case k3 => k_asm); (case k4 => k_is); (case k5 => k_is); (case k6 => k_is); k_whole
  intro S d h' F' N' l0 l2
  have hl := l2
  k_lt2 l2
  have N2 := news_two N'
  have N3 : True → News h₀ L h' nx := fun _ p hp => N' p (.tail _ (.tail _ hp))
  clear N' N
  k_dflt (refine' enter_plain ?k1 ?k2 ?k3 ?k4 ?k5 ?kA ?kF ?kK ?k6 ?k7 ?k8 ?k9 ?kB ?_ ?c2 ?c3 ?c4 ?c5; (case kA => exact rfl); (case kF => exact rfl); (case kK => first | exact rfl | assumption); (case k1 => k_asm); (case k2 => k_asm); (case k3 => k_asm); (case k4 => k_asm); (case k5 => k_asm); (case k6 => k_is); (case k7 => k_is); (case k8 => ktr_room); (case k9 => first | exact BindsTo.of_eq rfl | exact binds_K (by k_in) rfl (by k_is) rfl rfl rfl | fail "k_enter: no rule for these arguments"); (case c5 => decide); (case kB => exact locs rfl); (case c2 => exact rfl); (case c3 => exact rfl); (case c4 => exact rfl); k_whole); intro g L1 h1 FG F1 N1 B1 X1 T1 l1 NT; (try k_lt l1); (try dsimp only)
  k_steps
  rename Fr _ _ _ _ => F9
  rename News _ _ _ _ => N9
  refine ⟨rfl, ?_⟩
  show Q (.ref S) _
  have e2 : @LT.lt Nat _ d S := hl
  refine ret S d _ _ _ _ _ (FG.keeps F9.keep) (made_back (N3 trivial) NT (fun p hp => ?_) F9.keep (N2 _ (.head _)) (N2 _ (.tail _ (.head _))) (N9 _ (.head _)) (N9 _ (.tail _ (.head _)))) l0 hl
  have e1 : @LT.lt Nat _ p.1 d := l0 p hp
  exact ⟨fun e => by have e : @Eq Nat _ _ := e; omega, fun e => by have e : @Eq Nat _ _ := e; omega⟩
set_option maxRecDepth 100000 in
set_option maxHeartbeats 8000000 in
theorem new_L {w : World} {p : Program} {loose : List Str} {mean : ExcName → Option Value} {mg mb : Str → Option Value}
    {dp un : Nat} {gd : Option (List Code)} {cn : Str} {cs : Scope} {a : Addr} {ccd : Value} {cl : List (Str × Addr)} {outer : List Env} {A₀ : Around} {base h₀ : Heap} {L : Addr} {m : Str → Option Value} {s : Shared}
    {Q E : Value → Shared → Prop} (B : Below A₀ base outer h₀) (F : Fr h₀ L s.heap m) (X : (hd.heap_39 w.params).In h₀) (T : Top p loose mean mg mb h₀) (hk : cs.kind = .function)
    (hd : dp + 40 < recursionLimit) (hu : un + 500 < cLine)
  {nx : List (Addr × Obj)} (N : News h₀ L s.heap nx)
  (ret : ∀ S d t1 t2 tq h' tk', Fr h₀ L h' m → News h₀ L h' ((S, instObj 221 d) :: (d, dictOf [⟨PyData.keyHash w.params (Str.ofString "qval"), .str (Str.ofString "qval") t1, .int 1 tq⟩, ⟨PyData.keyHash w.params (Str.ofString "external"), .str (Str.ofString "external") t2, .bool true⟩] 2) :: nx) → (∀ p ∈ nx, p.1 < d) → d < S → Q (.ref S) { s with heap := h', toks := tk' }) :
  wpAny (model PySem.Challenge.rw_fu0023_01.row.prog w) (ktrTop dp un gd cn cs L a ccd cl outer) (call (.ref 221) []) Q E s := by
  revert X; k_fill; intro X
  refine' call_cls ?k1 ?k2 ?k3 ?k4 ?k5 ?k6 ?_; (case k1 => k_asm); (case k2 => k_asm); (case k3 => k_asm); (case k4 => k_is); (case k5 => k_is); (case k6 => k_is); k_whole
  intro S d h' F' N' l0 l2
  have hl := l2
  k_lt2 l2
  have N2 := news_two N'
  have N3 : True → News h₀ L h' nx := fun _ p hp => N' p (.tail _ (.tail _ hp))
  clear N' N
  k_dflt (refine' enter_plain ?k1 ?k2 ?k3 ?k4 ?k5 ?kA ?kF ?kK ?k6 ?k7 ?k8 ?k9 ?kB ?_ ?c2 ?c3 ?c4 ?c5; (case kA => exact rfl); (case kF => exact rfl); (case kK => first | exact rfl | assumption); (case k1 => k_asm); (case k2 => k_asm); (case k3 => k_asm); (case k4 => k_asm); (case k5 => k_asm); (case k6 => k_is); (case k7 => k_is); (case k8 => ktr_room); (case k9 => first | exact BindsTo.of_eq rfl | exact binds_K (by k_in) rfl (by k_is) rfl rfl rfl | fail "k_enter: no rule for these arguments"); (case c5 => decide); (case kB => exact locs rfl); (case c2 => exact rfl); (case c3 => exact rfl); (case c4 => exact rfl); k_whole); intro g L1 h1 FG F1 N1 B1 X1 T1 l1 NT; (try k_lt l1); (try dsimp only)
  k_steps
  rename Fr _ _ _ _ => F9
  rename News _ _ _ _ => N9
  refine ⟨rfl, ?_⟩
  show Q (.ref S) _
  have e2 : @LT.lt Nat _ d S := hl
  refine ret S d _ _ _ _ _ (FG.keeps F9.keep) (made_back (N3 trivial) NT (fun p hp => ?_) F9.keep (N2 _ (.head _)) (N2 _ (.tail _ (.head _))) (N9 _ (.head _)) (N9 _ (.tail _ (.head _)))) l0 hl
  have e1 : @LT.lt Nat _ p.1 d := l0 p hp
  exact ⟨fun e => by have e : @Eq Nat _ _ := e; omega, fun e => by have e : @Eq Nat _ _ := e; omega⟩
end Mine
end

open PySem PySem.W PyProof.Rows PySem.Spec PySem.Calls Mine
set_option Elab.async false
local macro_rules | `(tactic| walk_at "eval Name") => `(tactic| ((with_reducible show wpAny _ _ (eval (Expr.Name _ _) (compEnvC _ _ _ _)) _ _ _); (refine' name_comp ?F ?m ?_ ?a ?b ?c; (case F => assumption); (case m => assumption); (case a => rfl); (case b => rfl); (case c => decide))))
local macro_rules | `(tactic| walk_at "eval ListComp") => `(tactic| refine halt ?_)
local macro_rules | `(tactic| walk_at "call ref") => `(tactic| ((with_reducible show wpAny _ _ (call (Value.ref _) (_ :: _)) _ _ _); refine halt ?_))
local macro_rules | `(tactic| walk_at "call ref") => `(tactic| refine halt ?_)
local macro_rules | `(tactic| walk_at "callWith ref") => `(tactic| (k_here; (with_reducible show wpAny _ _ (callWith _ (Value.ref _) _ (backTo _ (starEach [] _)) []) _ _ _); (with_reducible rename Fr _ _ _ _ => kF); k_dflt (refine' callWith_K0 ?k1 ?k2 ?_; (case k1 => exact Frag.In.keeps (by with_reducible assumption) kF.keep); (case k2 => k_is); k_whole)))
local macro_rules | `(tactic| walk_at "exec For") => `(tactic| refine halt ?_)
local macro_rules | `(tactic| walk_at "pyIter ref") => `(tactic| refine halt ?_)
local macro_rules | `(tactic| walk_at "subscriptTail") => `(tactic| ((with_reducible show wpAny _ _ (subscriptTail _ _ (Value.ref _) (Value.int (Int.fmod _ _) _)) _ _ _); refine halt ?_))
local macro_rules | `(tactic| walk_at "subscriptTail") => `(tactic| ((with_reducible show wpAny _ _ (subscriptTail _ _ (Value.str _ _) (Value.int _ _)) _ _ _); (refine item_str (fitsSsize_of (N := 9223372036854775808) (by omega) (by omega) (Int.le_refl _)) (by omega) (by omega) ?_); intro _))
set_option maxRecDepth 100000 in
set_option maxHeartbeats 8000000 in
theorem PySem.Challenge.cw_fu0023_01_holds : PySem.Challenge.rw_fu0023_01.Holds :=
  hd (by
  w_top off
  k_go0
  all_goals try k_fold
  k_steps
  rename Fr _ _ _ _ => F'
  rename News _ _ _ _ => N'
  refine go (law_cut F' N' ?loop ?rest)
  case rest =>
    clear F' N'
    intro a b c ta tb tc n vp vn h1 tk1 hT F1 N1
    obtain ⟨La, Lb, Lc⟩ := hT.all
    have hla := La.short
    have hlb := Lb.short
    have hlc := Lc.short
    have hx3 : ∀ x ∈ [(a, ta), (b, tb), (c, tc)], Low x.1 := by
      intro x hx
      simp only [List.mem_cons, List.not_mem_nil, or_false] at hx
      rcases hx with rfl | rfl | rfl
      · exact La
      · exact Lb
      · exact Lc
    k_steps
    rename Fr _ _ _ _ => F2
    rename News _ _ _ _ => N2
    refine go (ends_spec (by assumption) F2 (by assumption) (by assumption) rfl (by decide) (by decide) _ (a, ta) [(b, tb), (c, tc)] ⟨_, (N2 _ (.head _)).1, rfl, _, rfl⟩ hx3 (show 2 ≤ 3 by omega) ?_)
    intro r1 h3 tk3 ka kb tka tkb Mn hst3 hr0 hr1 hM1 hM2 hA hB
    have pA := pre_offA hM1 hM2 hA
    have pB := pre_offB hM1 hM2 hB
    obtain ⟨F3, N3, hne⟩ := news_made F2 N2 hst3 hr0 hr1
    replace hne := allNe_of hne; simp only [AllNe, and_true] at hne
    clear F2 N2 hA hB
    try clear hM1
    try clear hM2
    try clear hst3
    try clear hr0
    try clear hr1
    k_steps
    rename Fr _ _ _ _ => F4
    rename News _ _ _ _ => N4
    refine go ?_
    refine new_P (by assumption) F4 (by assumption) (by assumption) rfl (by decide) (by decide) (news_tail N4) ?_
    intro S1 d1 u1 v1 w1 hh1 th1 Fh1 Nh1 lh1 kh1
    k_lt lh1
    k_lt2 kh1
    clear F4 N4
    k_steps
    rename Fr _ _ _ _ => F4
    rename News _ _ _ _ => N4
    refine go ?_
    refine wpAny_call ?_; refine' kco_code ?k1 ?k2 ?k3 ?k4 ?k5 ?k6 ?_; (case k1 => k_in); (case k2 => k_inst); (case k3 => rfl); (case k4 => k_is); (case k5 => k_is); (case k6 => k_is)
    refine pcall_P3 (by assumption) F4 (by assumption) (by assumption) rfl (by decide) (by decide) _ _ _ _ _ (news_two N4) (a, ta) (b, tb) (c, tc) hx3 ?_
    intro r2 t2 k2 h5 tk5 hst5 hr2 hp2
    have ek2 := pre_uniq hp2 pA
    subst ek2
    have hka := pA.le _ (.head _)
    rw [chs_len] at hka
    obtain rfl := told_front hka hr2
    have F5 := F4.keeps hst5
    have N5 := news_tail (news_tail (N4.grown hst5))
    try clear hst5
    try clear lh1
    try clear kh1
    try clear hne
    try clear pA
    try clear hka
    clear F4 N4 hp2 hr2
    k_steps
    rename Fr _ _ _ _ => F6
    rename News _ _ _ _ => N6
    refine go ?_
    refine new_T (by assumption) F6 (by assumption) (by assumption) rfl (by decide) (by decide) (N6) ?_
    intro S2 d2 u2 v2 w2 hh2 th2 Fh2 Nh2 lh2 kh2
    k_lt lh2
    k_lt2 kh2
    clear F6 N6
    k_steps
    rename Fr _ _ _ _ => F6
    rename News _ _ _ _ => N6
    refine go ?_
    refine wpAny_call ?_; refine' kco_code ?k1 ?k2 ?k3 ?k4 ?k5 ?k6 ?_; (case k1 => k_in); (case k2 => k_inst); (case k3 => rfl); (case k4 => k_is); (case k5 => k_is); (case k6 => k_is)
    refine tcall_T3 (by assumption) F6 (by assumption) (by assumption) rfl (by decide) (by decide) _ _ _ _ _ (news_two N6) (a, ta) (b, tb) (c, tc) hx3 ?_
    intro r3 t3 k3 h7 tk7 hst7 hr3 hp3
    have ek3 := pre_uniq hp3 pB
    subst ek3
    have hkb := pB.le _ (.head _)
    rw [List.length_reverse, chs_len] at hkb
    obtain rfl := told_back hkb hr3
    have F7 := F6.keeps hst7
    have N7 := news_tail (news_tail (N6.grown hst7))
    try clear hst7
    try clear lh2
    try clear kh2
    try clear pB
    try clear hkb
    clear F6 N6 hp3 hr3
    k_steps
    rename Fr _ _ _ _ => F8
    rename News _ _ _ _ => N8
    refine go ?_
    refine new_L (by assumption) F8 (by assumption) (by assumption) rfl (by decide) (by decide) (N8) ?_
    intro S3 d3 u3 v3 w3 hh3 th3 Fh3 Nh3 lh3 kh3
    k_lt lh3
    k_lt2 kh3
    clear F8 N8
    k_steps
    rename Fr _ _ _ _ => F8
    rename News _ _ _ _ => N8
    refine go ?_
    refine wpAny_call ?_; refine' kco_code ?k1 ?k2 ?k3 ?k4 ?k5 ?k6 ?_; (case k1 => k_in); (case k2 => k_inst); (case k3 => rfl); (case k4 => k_is); (case k5 => k_is); (case k6 => k_is)
    refine lcall_3 (by assumption) F8 (by assumption) (by assumption) rfl (by decide) (by decide) _ _ _ _ _ (news_two N8) (a, ta) (b, tb) (c, tc) hx3 ?_
    intro r4 t4 h9 tk9 hst9 hR4
    have F9 := F8.keeps hst9
    have N9 := news_tail (news_tail (N8.grown hst9))
    try clear hst9
    try clear lh3
    try clear kh3
    clear F8 N8
    have hr4l : r4.length ≤ 15 := by
      obtain ⟨i, q1, _⟩ := hR4.has (chs a) (.head _)
      rw [chs_len, chs_len] at q1
      omega
    k_steps
    rename Fr _ _ _ _ => F10
    rename News _ _ _ _ => N10
    refine go (most_spec (by assumption) F10 (by assumption) (by assumption) rfl (by decide) (by decide) _ (a, ta) [(b, tb), (c, tc)] ?hlT hx3 (show 2 ≤ 3 by omega) ?_)
    case hlT => exact ⟨W.listOf #[.str a ta, .str b tb, .str c tc] n, (N10 (_, W.listOf #[.str a ta, .str b tb, .str c tc] n) (by k_mem)).1, rfl, _, rfl⟩
    intro h11 tk11 k4 tkm hst11 hM4
    have e4 := most_eq hM4 hR4
    rw [chs_len] at e4
    have F11 := F10.keeps hst11
    have N11 := N10.grown hst11
    clear F10 N10
    try clear hst11
    k_steps
    rename Fr _ _ _ _ => F12
    rename News _ _ _ _ => N12
    have hl12 : Heap.IsList _ _ (vtx [(a, ta), (b, tb), (c, tc)]).toArray := ⟨W.listOf #[.str a ta, .str b tb, .str c tc] n, (N12 (_, W.listOf #[.str a ta, .str b tb, .str c tc] n) (by k_mem)).1, rfl, _, rfl⟩
    refine go (comp_base (vs := vtx [(a, ta), (b, tb), (c, tc)]) (notIn r4) (fun v y => y = v) ?hit hl12 ?hsz ?tests ?elt ?hQ rfl (by decide) rfl (by decide) rfl rfl)
    case hit => intro Q' hq; k_steps; exact hq
    case hsz => exact Nat.le_of_ble_eq_true rfl
    case tests =>
      intro C v s3 m3 E' hC hv hn3 hm hk3
      obtain ⟨x, hx1, rfl⟩ := List.mem_map.mp hv
      have hlen := (hx3 x hx1).short
      obtain ⟨F3, N3⟩ := in_comp F12 N12 hC hn3 hk3
      refine wpAny_tests_one ?_
      k_steps
      exact .mk rfl fun _ _ e => e
    case elt =>
      intro C v s3 m3 E' hC hv hp hn3 hm hk3
      obtain ⟨F3, N3⟩ := in_comp F12 N12 hC hn3 hk3
      k_steps
      all_goals exact .mk rfl fun _ _ e => e
    intro D ys h13 tk13 hD hpl hys hk13
    have hf : List.filter (notIn r4) (vtx [(a, ta), (b, tb), (c, tc)]) = [] := List.filter_eq_nil_iff.mpr fun v hv => by
      obtain ⟨x, hx1, rfl⟩ := List.mem_map.mp hv
      have := (contains_iff x.1 r4).mpr (hR4.has _ (List.mem_map_of_mem (f := fun y : Str × Tok => chs y.1) hx1))
      simp [notIn, this]
    rw [hf] at hys
    have hys2 : ys = #[] := by
      generalize hL : ys.toList = yl at hys
      cases hys
      exact Array.toList_eq_nil_iff.mp hL
    subst hys2
    obtain ⟨ep, hpl⟩ := hpl
    obtain ⟨F13, N13, hne13⟩ := news_made F12 N12 hk13 hD hpl
    replace hne13 := allNe_of hne13; simp only [AllNe, and_true] at hne13
    clear F12 N12 hl12 hf hys hk13
    try clear hD
    try clear hpl
    try clear hR4
    try clear hM4
    try clear e4
    try clear hr4l
    try clear hx3
    try clear Lc
    try clear hlc
    try clear hT
    have hx2 : ∀ x ∈ [(a, ta), (b, tb)], Low x.1 := by
      intro x hx
      simp only [List.mem_cons, List.not_mem_nil, or_false] at hx
      rcases hx with rfl | rfl
      · exact La
      · exact Lb
    have hx2' : ∀ x ∈ [(b, tb), (a, ta)], Low x.1 := by
      intro x hx
      simp only [List.mem_cons, List.not_mem_nil, or_false] at hx
      rcases hx with rfl | rfl
      · exact Lb
      · exact La
    k_steps
    rename Fr _ _ _ _ => F14
    rename News _ _ _ _ => N14
    refine go (ends_spec (by assumption) F14 (by assumption) (by assumption) rfl (by decide) (by decide) _ (a, ta) [(b, tb)] ?hlE hx2 (show 1 ≤ 3 by omega) ?_)
    case hlE => exact ⟨W.listOf #[.str a ta, .str b tb] 0, (N14 (_, W.listOf #[.str a ta, .str b tb] 0) (by k_mem)).1, rfl, _, rfl⟩
    intro r5 h15 tk15 kc kd tkc tkd Mm hst15 hr50 hr51 hM5 hM6 hA5 hB5
    have pC := pre_offA hM5 hM6 hA5
    have pD := pre_offB hM5 hM6 hB5
    obtain ⟨F15, N15, hne15⟩ := news_made F14 N14 hst15 hr50 hr51
    replace hne15 := allNe_of hne15; simp only [AllNe, and_true] at hne15
    clear F14 N14 hA5 hB5
    try clear hM5
    try clear hM6
    try clear hst15
    try clear hr50
    try clear hr51
    k_steps
    rename Fr _ _ _ _ => F16
    rename News _ _ _ _ => N16
    refine go ?_
    refine new_P (by assumption) F16 (by assumption) (by assumption) rfl (by decide) (by decide) (news_tail N16) ?_
    intro S4 d4 u4 v4 w4 hh4 th4 Fh4 Nh4 lh4 kh4
    k_lt lh4
    k_lt2 kh4
    clear F16 N16
    k_steps
    rename Fr _ _ _ _ => F16
    rename News _ _ _ _ => N16
    refine go ?_
    refine wpAny_call ?_
    refine psim_P2 (by assumption) F16 (by assumption) (by assumption) rfl (by decide) (by decide) _ _ _ _ _ (news_two N16) (a, ta) (b, tb) hx2 ?_
    intro t6 k6 h17 tk17 hst17 hp6
    have ek6 := pre_uniq hp6 pC
    subst ek6
    have F17 := F16.keeps hst17
    have N17 := news_tail (news_tail (N16.grown hst17))
    try clear hst17
    try clear lh4
    try clear kh4
    try clear pC
    try clear hp6
    clear F16 N16
    k_steps
    rename Fr _ _ _ _ => F18
    rename News _ _ _ _ => N18
    refine go ?_
    refine new_T (by assumption) F18 (by assumption) (by assumption) rfl (by decide) (by decide) (N18) ?_
    intro S5 d5 u5 v5 w5 hh5 th5 Fh5 Nh5 lh5 kh5
    k_lt lh5
    k_lt2 kh5
    clear F18 N18
    k_steps
    rename Fr _ _ _ _ => F18
    rename News _ _ _ _ => N18
    refine go ?_
    refine wpAny_call ?_
    refine tsim_T2 (by assumption) F18 (by assumption) (by assumption) rfl (by decide) (by decide) _ _ _ _ _ (news_two N18) (b, tb) (a, ta) hx2' ?_
    intro t7 k7 h19 tk19 hst19 hp7
    have ek7 := pre_uniq (pre_swap hp7) pD
    subst ek7
    have F19 := F18.keeps hst19
    have N19 := news_tail (news_tail (N18.grown hst19))
    try clear hst19
    try clear lh5
    try clear kh5
    try clear pD
    try clear hp7
    clear F18 N18
    k_steps
    rename Fr _ _ _ _ => F20
    rename News _ _ _ _ => N20
    refine go (most_spec (by assumption) F20 (by assumption) (by assumption) rfl (by decide) (by decide) _ (a, ta) [(b, tb)] ?hlM hx2 (show 1 ≤ 3 by omega) ?_)
    case hlM => exact ⟨W.listOf #[.str a ta, .str b tb] 0, (N20 (_, W.listOf #[.str a ta, .str b tb] 0) (by k_mem)).1, rfl, _, rfl⟩
    intro h21 tk21 k8 tkm8 hst21 hM8
    have F21 := F20.keeps hst21
    have N21 := N20.grown hst21
    clear F20 N20
    try clear hst21
    k_steps
    rename Fr _ _ _ _ => F22
    rename News _ _ _ _ => N22
    refine go ?_
    refine new_L (by assumption) F22 (by assumption) (by assumption) rfl (by decide) (by decide) (N22) ?_
    intro S6 d6 u6 v6 w6 hh6 th6 Fh6 Nh6 lh6 kh6
    k_lt lh6
    k_lt2 kh6
    clear F22 N22
    k_steps
    rename Fr _ _ _ _ => F22
    rename News _ _ _ _ => N22
    refine go ?_
    refine wpAny_call ?_
    refine lsim_2 (by assumption) F22 (by assumption) (by assumption) rfl (by decide) (by decide) _ _ _ _ _ (news_two N22) (a, ta) (b, tb) hx2 ?_
    intro t9 r9 h23 tk23 hst23 hR9
    have e9 := most_eq hM8 hR9
    subst e9
    have F23 := F22.keeps hst23
    have N23 := news_tail (news_tail (N22.grown hst23))
    try clear hst23
    try clear lh6
    try clear kh6
    clear F22 N22
    k_steps
    rename Fr _ _ _ _ => F24
    rename News _ _ _ _ => N24
    refine go ?_
    refine new_L (by assumption) F24 (by assumption) (by assumption) rfl (by decide) (by decide) (N24) ?_
    intro S7 d7 u7 v7 w7 hh7 th7 Fh7 Nh7 lh7 kh7
    k_lt lh7
    k_lt2 kh7
    clear F24 N24
    k_steps
    rename Fr _ _ _ _ => F24
    rename News _ _ _ _ => N24
    refine go ?_
    refine wpAny_call ?_
    refine ldist_2 (by assumption) F24 (by assumption) (by assumption) rfl (by decide) (by decide) _ _ _ _ _ (news_two N24) (b, tb) (a, ta) hx2' ?_
    intro t10 r10 h25 tk25 hst25 hR10
    have e10 := most_eq hM8 (lcs_swap hR10)
    have F25 := F24.keeps hst25
    have N25 := news_tail (news_tail (N24.grown hst25))
    try clear hst25
    try clear lh7
    try clear kh7
    clear F24 N24
    k_steps
  case loop =>
    refine for_atF F' ?_
    k_steps
    · rename Fr _ _ _ _ => F2
      rename News _ _ _ _ => N2
      rename IntsAre _ (List.take _ _) => hI2
      refine go (law_list rfl F2 N2 (fun p hp => hp) ⟨_, (N2 _ (.head _)).1, rfl, _, rfl⟩ hI2 (by omega) (lawM_none rfl rfl) (fun e => by have e : @Eq Nat _ _ := e; omega) (fun e => by have e : @Eq Nat _ _ := e; omega) (fun _ _ => rfl) ?turnA)
      case turnA =>
        clear F2 N2 hI2
        intro k t I i a b c ta tb tc n vp vn h3 tk3 oI ol e1 e2 e3 e4 hs1 hs2 hs3 F3 N3
        have hq := fmod3 (k.fdiv 3)
        have hll := letters_len
        k_steps
        rename Fr _ _ _ _ => F4
        rename News _ _ _ _ => N4
        have hy := letter_one hq
        have la := hs3 a (.head _)
        have lb := hs3 b (.tail _ (.head _))
        have lc := hs3 c (.tail _ (.tail _ (.head _)))
        rcases fmod3_cases k with e | e | e <;>
          (simp only [e] at F4 ⊢
           refine go ?_
           k_steps
           rename Fr _ _ _ _ => F5
           rename News _ _ _ _ => N5
           exact law_step F5 lawM_set N5 e1 e2 e3 e4 (by simp only [app_len]; omega) (by first | exact la | exact lb | exact lc | exact app_low la hy.2 | exact app_low lb hy.2 | exact app_low lc hy.2) (by first | exact la | exact lb | exact lc | exact app_low la hy.2 | exact app_low lb hy.2 | exact app_low lc hy.2) (by first | exact la | exact lb | exact lc | exact app_low la hy.2 | exact app_low lb hy.2 | exact app_low lc hy.2))
    · rename Fr _ _ _ _ => F2
      rename News _ _ _ _ => N2
      refine go (law_list rfl F2 N2 (fun p hp => .tail _ hp) ⟨_, (N2 _ (.head _)).1, rfl, _, rfl⟩ (.cons 0 _ (.cons 3 _ (.cons 1 _ (.cons 4 _ (.cons 5 _ (.cons 2 _ .nil)))))) (by decide) (lawM_none rfl rfl) (fun e => by have e : @Eq Nat _ _ := e; omega) (fun e => by have e : @Eq Nat _ _ := e; omega) (fun _ _ => rfl) ?turnB)
      case turnB =>
        clear F2 N2
        intro k t I i a b c ta tb tc n vp vn h3 tk3 oI ol e1 e2 e3 e4 hs1 hs2 hs3 F3 N3
        have hq := fmod3 (k.fdiv 3)
        have hll := letters_len
        k_steps
        rename Fr _ _ _ _ => F4
        rename News _ _ _ _ => N4
        have hy := letter_one hq
        have la := hs3 a (.head _)
        have lb := hs3 b (.tail _ (.head _))
        have lc := hs3 c (.tail _ (.tail _ (.head _)))
        rcases fmod3_cases k with e | e | e <;>
          (simp only [e] at F4 ⊢
           refine go ?_
           k_steps
           rename Fr _ _ _ _ => F5
           rename News _ _ _ _ => N5
           exact law_step F5 lawM_set N5 e1 e2 e3 e4 (by simp only [app_len]; omega) (by first | exact la | exact lb | exact lc | exact app_low la hy.2 | exact app_low lb hy.2 | exact app_low lc hy.2) (by first | exact la | exact lb | exact lc | exact app_low la hy.2 | exact app_low lb hy.2 | exact app_low lc hy.2) (by first | exact la | exact lb | exact lc | exact app_low la hy.2 | exact app_low lb hy.2 | exact app_low lc hy.2))
  )
