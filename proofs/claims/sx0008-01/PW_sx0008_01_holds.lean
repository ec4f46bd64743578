import PyProof.Rows.All
import Wide.All
import OpenK.AllK
import Wide.FinOn
import PySem.Challenge.RW_sx0008_01
open PySem PySem.Spec PySem.Calls PySem.W PyProof.Rows
set_option Elab.async false
set_option maxRecDepth 100000
namespace Mine

section
set_option maxRecDepth 100000 in
set_option maxHeartbeats 8000000 in
open_top hd for PySem.Challenge.rw_sx0008_01
end

section
/-- what a call of the def at f with vs does: it ends, keeps what stands, hands back a value that post tells -/
def Can (w : World) (mg mb : Str → Option Value) (f : Addr) (vs : List Value) (dd uu : Nat) (pre : Heap → Prop) (post : Heap → Heap → Value → Prop) : Prop :=
  ∀ (dp un : Nat) (gd : Option (List Code)) (env : Env) (outer : List Env) (A₀ : Around) (base h₀ : Heap) (L : Addr) (m : Str → Option Value) (news : List (Addr × Obj)) (s : Shared) (Q E : Value → Shared → Prop),
    Below A₀ base outer h₀ → Fr h₀ L s.heap m → (hd.heap_39 w.params).In h₀ → News h₀ L s.heap news →
    TopRead hd.view_39 (looseW hd.view_39 [Str.ofString "convertbits"]) mg mb h₀ → env.frame = some L → env.scope.kind = .function →
    pre s.heap → dp + dd < recursionLimit → un + uu < cLine →
    (∀ v h' tk', s.heap.StaysIn h' → post s.heap h' v → Q v { s with heap := h', toks := tk' }) →
    wpAny (model PySem.Challenge.rw_sx0008_01.row.prog w) { handled := none, depth := dp, frames := some (env :: outer), guards := gd, units := un } (call (.ref f) vs) Q E s

def Fin (s₀ : Shared) (post : Heap → Heap → Value → Prop) (fl : Flow) (s' : Shared) : Prop :=
  ∃ v h' tk', fl = .ret v ∧ s' = { s₀ with heap := h', toks := tk' } ∧ s₀.heap.StaysIn h' ∧ post s₀.heap h' v

theorem Fin.intro {s₀ : Shared} {post : Heap → Heap → Value → Prop} {v : Value} {h' : Heap} {tk' : Nat} {L : Addr} {m : Str → Option Value}
    (F : Fr s₀.heap L h' m) (p : post s₀.heap h' v) : Fin s₀ post (.ret v) { s₀ with heap := h', toks := tk' } := ⟨v, h', tk', rfl, rfl, F.keep, p⟩

theorem can_intro {w : World} {mg mb : Str → Option Value} {f : Addr} {vs : List Value} {dd uu : Nat} {pre : Heap → Prop} {post : Heap → Heap → Value → Prop}
    {name qual : Str} {params : Arguments} {body : List Stmt} {scope : Scope} {dV kV doc pm cdv ct oc : Value} {an od : Option Addr} {osl : Array (Option Value)} {binds : List (Str × Value)}
    (ho : (hd.heap_39 w.params).lookup f = some ⟨oc, od, .func (fnOf name qual params body scope dV kV doc pm an cdv ct), osl⟩) (hcd : codeIn (hd.heap_39 w.params) cdv qual = true)
    (hdd : 0 < dd)
    (hbind : ∀ s : Shared, (hd.heap_39 w.params).In s.heap → BindsTo s (fnOf name qual params body scope dV kV doc pm an cdv ct) ⟨vs, []⟩ binds) (hloc : ∀ y ∈ binds, scope.names.lookup y.1 = some .local)
    (h : ∀ (dp un : Nat) (gd : Option (List Code)) (env : Env) (outer : List Env) (base : Heap) (L' : Addr) (s : Shared) (h₁ : Heap) (tk : Nat),
      Below { handled := none, depth := dp, frames := some (env :: outer), guards := gd, units := un } base (env :: outer) s.heap → Fr s.heap L' h₁ (fun y => binds.reverse.lookup y) → News s.heap L' h₁ [] →
      (hd.heap_39 w.params).In s.heap → TopRead hd.view_39 (looseW hd.view_39 [Str.ofString "convertbits"]) mg mb s.heap → pre s.heap → dp + dd < recursionLimit → un + uu < cLine →
      wpAny (model PySem.Challenge.rw_sx0008_01.row.prog w) { handled := none, depth := dp + 1, frames := some (envOf qual scope L' f cdv :: env :: outer), guards := gd, units := un + 3 } (execs body (envOf qual scope L' f cdv))
        (fun fl s' => Fin s post fl s') (fun _ _ => False) { s with heap := h₁, toks := tk })
    (hco : scope.isCoroutine = false := by rfl) (hgen : scope.isGenerator = false := by rfl) (hk : scope.kind = .function := by rfl) (hcell : ∀ x ∈ scope.names, x.2 ≠ .cell := by decide) :
    Can w mg mb f vs dd uu pre post := by
  intro dp un gd env outer A₀ base h₀ L m news s Q E B F X N T hf hke hp hdp hun ret
  refine wpAny_call ?_
  have Xs := X.keeps F.keep
  have Ts := T.keeps F.keep
  refine codeAny_call_def (fd := fnOf name qual params body scope dV kV doc pm an cdv ct) (body := body) (binds := binds) (by show dp < recursionLimit; omega) (Xs _ _ ho) rfl Ts.nolimit (codeRec_of Xs hcd) rfl (hbind s Xs) hcell hloc (fun h₁ hns hk₁ => ?_) hco hgen hk
  have B₁ := pushX (A := A₀) B F hf hke
  have hB : Below { handled := none, depth := dp, frames := some (env :: outer), guards := gd, units := un } base (env :: outer) s.heap := ⟨rfl, B₁.stays, B₁.frames⟩
  refine wpAny_mono (h dp un gd env outer base s.heap.objs.size s h₁ _ hB ⟨hns, hk₁, Nat.le_refl _⟩ News.nil Xs Ts hp hdp hun) (fun fl s' x => ?_) (fun _ _ x => x.elim)
  obtain ⟨v, h', tk', rfl, rfl, st, ps⟩ := x
  exact ret v h' tk' st ps

theorem fr_stays {h₀ h h' : Heap} {L : Addr} {m : Str → Option Value} (F : Fr h₀ L h m) (st : h.StaysIn h') : Fr h₀ L h' m := F.keeps st
theorem news_stays {h₀ h h' : Heap} {L : Addr} {news : List (Addr × Obj)} (N : News h₀ L h news) (st : h.StaysIn h') : News h₀ L h' news := fun p hp => ⟨st _ _ (N p hp).1, (N p hp).2⟩
end

section
theorem can_introC {w : World} {mg mb : Str → Option Value} {f : Addr} {vs : List Value} {dd uu : Nat} {pre : Heap → Prop} {post : Heap → Heap → Value → Prop}
    {name qual : Str} {params : Arguments} {body : List Stmt} {scope : Scope} {dV kV doc pm cdv ct oc : Value} {an od : Option Addr} {osl : Array (Option Value)} {binds : List (Str × Value)}
    (ho : (hd.heap_39 w.params).lookup f = some ⟨oc, od, .func (fnOf name qual params body scope dV kV doc pm an cdv ct), osl⟩) (hcd : codeIn (hd.heap_39 w.params) cdv qual = true)
    (hdd : 0 < dd)
    (hbind : ∀ s : Shared, (hd.heap_39 w.params).In s.heap → BindsTo s (fnOf name qual params body scope dV kV doc pm an cdv ct) ⟨vs, []⟩ binds)
    (hkind : (binds.all fun y => scope.names.lookup y.1 == some .local || scope.names.lookup y.1 == some .cell) = true)
    (hnd : ((cellsFrom 0 scope.names []).map (·.1)).Nodup)
    (h : ∀ (dp un : Nat) (gd : Option (List Code)) (env : Env) (outer : List Env) (base : Heap) (L' : Addr) (s : Shared) (h₁ : Heap) (tk : Nat) (cells : List (Addr × Obj)),
      Below { handled := none, depth := dp, frames := some (env :: outer), guards := gd, units := un } base (env :: outer) s.heap → Fr s.heap L' h₁ (bindL (envOfC qual scope L' f cdv).kindOf binds fun _ => none) → News s.heap L' h₁ cells →
      CellsAre (bindC (envOfC qual scope L' f cdv).kindOf binds fun _ => none) (cellsFrom (L' + 1) scope.names []) cells →
      (hd.heap_39 w.params).In s.heap → TopRead hd.view_39 (looseW hd.view_39 [Str.ofString "convertbits"]) mg mb s.heap → pre s.heap → dp + dd < recursionLimit → un + uu < cLine →
      wpAny (model PySem.Challenge.rw_sx0008_01.row.prog w) { handled := none, depth := dp + 1, frames := some (envOfC qual scope L' f cdv :: env :: outer), guards := gd, units := un + 3 } (execs body (envOfC qual scope L' f cdv))
        (fun fl s' => Fin s post fl s') (fun _ _ => False) { s with heap := h₁, toks := tk })
    (hco : scope.isCoroutine = false := by rfl) (hgen : scope.isGenerator = false := by rfl) (hk : scope.kind = .function := by rfl) :
    Can w mg mb f vs dd uu pre post := by
  intro dp un gd env outer A₀ base h₀ L m news s Q E B F X N T hf hke hp hdp hun ret
  refine wpAny_call ?_
  have Xs := X.keeps F.keep
  have Ts := T.keeps F.keep
  have B₁ := pushX (A := A₀) B F hf hke
  have hB : Below { handled := none, depth := dp, frames := some (env :: outer), guards := gd, units := un } base (env :: outer) s.heap := ⟨rfl, B₁.stays, B₁.frames⟩
  refine codeAny_call_function (by show dp < recursionLimit; omega) (Xs _ _ ho) rfl hco hgen rfl (codeRec_of Xs hcd) (hbind s Xs _ _ _ _ ?_)
  refine wpAny_newFunctionEnv_cells hk (kindsX hkind _) fun env' he s' x => ?_
  subst he
  refine ⟨Ts.nolimit.keeps x.toInCall.keep, codeAny_func ?_⟩
  obtain ⟨h₁, tk, rfl, _⟩ := x.done
  have hk₁ := x.toInCall.keep
  obtain ⟨cells, NC, Y⟩ := Cl.news (h₀ := s.heap) (Nat.le_refl _) fun n c hm => ⟨x.cell n c (lookup_of_mem_nodup (cellsFrom_names scope.names 0 (s.heap.objs.size + 1) [] [] rfl ▸ hnd) hm), x.above n c hm⟩
  refine wpAny_mono (h dp un gd env outer base s.heap.objs.size s h₁ tk cells hB ⟨x.toInCall.ns, hk₁, Nat.le_refl _⟩ NC Y Xs Ts hp hdp hun) (fun fl s' x => ?_) (fun _ _ x => x.elim)
  obtain ⟨v, h', tk', rfl, rfl, st, ps⟩ := x
  exact ret v h' tk' st ps
end

section
section
variable {prog : Program} {w : World} {A : Around} {E : Value → Shared → Prop} {s : Shared} {h₀ : Heap} {L : Addr} {m : Str → Option Value} {env : Env}

def SrcS (prog : Program) (w : World) (A : Around) (h₀ : Heap) (L : Addr) (m : Str → Option Value) (env : Env) (elt : Expr) (x : Str) (scope : Scope) (cl : List (Str × Addr)) (Fin : Shared → List Value → List (Addr × Obj) → Prop) (xv : Value) (s₁ : Shared) : Prop :=
  ∃ y t news, xv = .str y t ∧ A.handled = none ∧ Fr h₀ L s₁.heap m ∧ News h₀ L s₁.heap news ∧ y.cps.size ≤ sizeLine ∧
    ∀ s₂ : Shared, (∃ h, s₂ = { s₁ with heap := h }) → LCg.CompRest prog w A h₀ L m env elt x scope cl s₂ (fun _ => True) (SignAt y) (Fin s₂) y.cps.size 0 [] news
theorem SrcS.intro {elt : Expr} {x : Str} {scope : Scope} {cl : List (Str × Addr)} {Fin : Shared → List Value → List (Addr × Obj) → Prop} {y : Str} {t : Tok} {news : List (Addr × Obj)} {s₁ : Shared}
    (hh : A.handled = none) (F : Fr h₀ L s₁.heap m) (N : News h₀ L s₁.heap news) (hsz : y.length ≤ 1000)
    (h : ∀ g, LCg.CompRest prog w A h₀ L m env elt x scope cl { s₁ with heap := g } (fun _ => True) (SignAt y) (Fin { s₁ with heap := g }) y.cps.size 0 [] news) :
    SrcS prog w A h₀ L m env elt x scope cl Fin (.str y t) s₁ := ⟨y, t, news, rfl, hh, F, N, by rw [PySem.sizeLine_eq]; exact Nat.le_trans hsz (by decide), fun _ ⟨g, e⟩ => e ▸ h g⟩

theorem pyIter_str2 {x : Str} {t : Tok} {Q : Value → Shared → Prop} (hh : A.handled = none)
    (hQ : ∀ (o : Obj) (St : Nat → Heap → Prop), o.isFreed = false → Walks prog w A s.heap.objs.size [s.heap.objs.size] [s.heap.objs.size] x.cps.size (SignAt x) St → (∀ i h, St i h → ∃ o, h.get? s.heap.objs.size = some o) →
      St 0 (s.heap.push o) → Q (.ref s.heap.objs.size) { s with heap := s.heap.push o }) : wpAny (model prog w) A (pyIter (.str x t)) Q E s := by
  cases ha : x.cps.all (· < 128)
  · exact wpAny_pyIter_wide ha (hQ _ _ rfl (Walks.strWide hh _ x t) (fun i h st => by obtain ⟨o, e, _⟩ := st; exact ⟨o, e⟩) ⟨_, Heap.get?_push_size _ rfl, rfl, rfl⟩)
  · exact wpAny_pyIter_ascii ha (hQ _ _ rfl (Walks.strAscii hh _ x t) (fun i h st => by obtain ⟨o, e, _⟩ := st; exact ⟨o, e⟩) ⟨_, Heap.get?_push_size _ rfl, rfl, rfl⟩)

/-- a store into C leaves what stands elsewhere -/
theorem News.past {h h' : Heap} {C : Addr} {nw : List (Addr × Obj)} (N : News h₀ L h nw) (hC : ∀ p ∈ nw, p.1 ≠ C) (sb : Heap.SameBut C h h') : News h₀ L h' nw :=
  fun p hp => ⟨(sb.2 p.1 (hC p hp)).trans (N p hp).1, (N p hp).2⟩

/-- a comprehension over a text from its iterator on: what is to hold of the list that it makes is asked at the end alone -/
theorem text_run {elt iter : Expr} {x : Str} {px : Pos} {scope : Scope} {cl : List (Str × Addr)} {pos : Pos} {v : Value} {s₁ : Shared} {Fin : Shared → List Value → List (Addr × Obj) → Prop} {RR : Value → Addr → Result → Shared → Prop}
    (names : (∀ z ∈ scope.names, z.2 ≠ .cell) ∧ scope.kind = .function ∧ scope.names.lookup x = some .local) (src : SrcS prog w A h₀ L m env elt x scope cl Fin v s₁)
    (out : ∀ D C g h tk m' ys nw, Fr h₀ L h m → News h₀ L h ((D, LCg.lst ys) :: nw) → LCg.Off1 D nw → h.Ns C m' → (C ≠ L ∧ h₀.get? C = none) → (∀ p ∈ (D, LCg.lst ys) :: nw, p.1 ≠ C) → Fin { s₁ with heap := g } ys nw →
      RR (.ref D) C (.ok .next) { s₁ with heap := h, toks := tk }) :
    wpAny (model prog w) A (pyIter v) (fun it s₂ => wpAny (model prog w) A (newList []) (fun acc s₃ =>
      wpAny (model prog w) A (newFunctionEnv scope env.globals cl [] env.qual none .none (some env)) (fun cenv s₄ =>
        codeAny (model prog w) A (.compStart (.ListComp elt [⟨.Name x px, iter, [], 0⟩] scope pos) 0 it acc { cenv with scope := relabel scope env }) (RR acc cenv.locals) s₄) E s₃) E s₂) E s₁ := by
  obtain ⟨y, t, news, rfl, calm, F, N, room, turns⟩ := src
  refine pyIter_str2 calm fun o St _ walk seen start => ?_
  have up : ∀ b ob, s₁.heap.get? b = some ob → (s₁.heap.push o).get? b = some ob := fun _ _ e => Heap.get?_push_of_some _ e
  have alone : ∀ b ∈ [s₁.heap.objs.size], b < (s₁.heap.push o).objs.size := List.forall_mem_singleton.mpr (by rw [Heap.size_push]; omega)
  have still : ∀ i h h' ob nw, St i h → h.get? s₁.heap.objs.size = some ob → h'.get? s₁.heap.objs.size = some ob → (∀ b ob, h₀.get? b = some ob → h'.get? b = some ob) → News h₀ L h' nw → True → St i h' :=
    fun i h h' ob _ at1 e e' _ _ _ => walk.frame i h h' at1 (List.forall_mem_singleton.mpr fun ob' e2 => e'.trans (e.symm.trans e2))
  exact LCg.block_U walk room seen still names.1 names.2.1 names.2.2 start alone (F.keeps up) (N.grown up) (Nat.ne_of_lt F.ns.lt) (next_is_new F) N.apart trivial (turns _ ⟨_, rfl⟩)
    fun D C h tk m' ys nw F' N' one ns' freshC _ offL _ apart offC fin => out D C _ h tk m' ys nw F' N' one ns' ⟨offL, freshC⟩ (List.forall_mem_cons.mpr ⟨Ne.symm apart, offC⟩) fin

theorem ListComp_S {elt iter : Expr} {x : Str} {px : Pos} {scope : Scope} {cl : List (Str × Addr)} {pos : Pos} {Q : Value → Shared → Prop} (_F₀ : Fr h₀ L s.heap m)
    (closed : closureFor scope env = pure cl) (nocell : ∀ z ∈ scope.names, z.2 ≠ .cell) (plain : scope.kind = .function)
    (own : ∀ z ∈ scope.names, z.2 = .local → scope.names.lookup z.1 = some .local) (var : scope.names.lookup x = some .local)
    (h : wpAny (model prog w) A (eval iter env) (SrcS prog w A h₀ L m env elt x scope cl (fun s₂ => LCg.FinE h₀ L m s₂ Q)) E s)
    (unset : ∀ r, foldedSetIterable iter env r = pure r := by intro _; rfl) : wpAny (model prog w) A (eval (.ListComp elt [⟨.Name x px, iter, [], 0⟩] scope pos) env) Q E s := by
  rw [eval_ListComp]
  refine wpAny_comprehension_free rfl unset closed plain own (wpAny_mono h (fun v s₁ src => ?_) fun _ _ e => e)
  exact text_run ⟨nocell, plain, var⟩ src fun D C _ h tk m' ys nw F' N' one ns' c offC fin =>
    ⟨m', ns', fun h₂ sb => fin D h₂ tk (F'.change sb c.1 c.2) (Mine.News.past N' offC sb) one⟩

theorem Assign_ListComp_S {elt iter : Expr} {x y : Str} {px py : Pos} {scope : Scope} {cl : List (Str × Addr)} {pos spos : Pos} {Q : Flow → Shared → Prop} (_F₀ : Fr h₀ L s.heap m) (hLe : env.locals = L)
    (inOne : swapsWith (.ListComp elt [⟨.Name x px, iter, [], 0⟩] scope pos) (some (.Name y py)) spos.line env = pure true)
    (closed : closureFor scope env = pure cl) (nocell : ∀ z ∈ scope.names, z.2 ≠ .cell) (plain : scope.kind = .function)
    (own : ∀ z ∈ scope.names, z.2 = .local → scope.names.lookup z.1 = some .local) (var : scope.names.lookup x = some .local)
    (loc : env.kindOf y = some .local) (block : (env.scope.kind == .class || (env.scope.kind == .module && env.locals != env.globals)) = false)
    (h : wpAny (model prog w) A (eval iter env) (SrcS prog w A h₀ L m env elt x scope cl (fun s₂ => LCg.FinA h₀ L m s₂ y Q)) E s)
    (unset : ∀ r, foldedSetIterable iter env r = pure r := by intro _; rfl) : wpAny (model prog w) A (exec (.Assign [.Name y py] (.ListComp elt [⟨.Name x px, iter, [], 0⟩] scope pos) spos) env) Q E s := by
  subst hLe
  rw [exec_Assign_Name_used _ _ _ _ inOne]
  have made : ∀ spot : Pos, wpAny (model prog w) A (comprehension (.ListComp elt [⟨.Name x px, iter, [], 0⟩] scope pos) scope env spot (newList []) false (eval iter env) (some (assign (.Name y py) env))) (fun _ s' => Q .next s') E s := fun spot => by
    refine wpAny_comprehension_free rfl unset closed plain own (wpAny_mono h (fun v s₁ src => ?_) fun _ _ e => e)
    refine text_run ⟨nocell, plain, var⟩ src fun D C _ h tk m' ys nw F' N' one ns' c offC fin => ?_
    refine wpAny_assign_Name (wpAny_storeName_local loc F'.ns (fun h₂ ns₂ sb₂ => ?_) block)
    exact ⟨m', ns'.sameBut sb₂ c.1, fun h₃ sb₃ => fin D h₃ _ ((F'.set ns₂ sb₂).change sb₃ c.1 c.2) (Mine.News.past (N'.set sb₂) offC sb₃) one⟩
  exact wpAny_bind (wpAny_standAt (wpAny_bind (wpAny_bind (wpAny_mono (made _) (fun _ _ q => wpAny_pure (wpAny_pure q)) fun _ _ e => e))))
end

/-- a built-in name, read in any frame of a function's kind (a global of the text: nameG_K of the kit) -/
theorem nameB_any {M : Model} {A : Around} {E : Value → Shared → Prop} {s : Shared} {K : Frag} {h₀ : Heap} {L : Addr} {m mg mb : Str → Option Value} {en : Env} {p : Program} {loose : List Str} {x : Str} {pos : Pos} {v : Value} {Q : Value → Shared → Prop}
    (F : Fr h₀ L s.heap m) (X : K.In h₀) (T : TopRead p loose mg mb h₀) (e : nsIn K mainGlobals x = some none) (hv : bootBuiltins x = some v) (hn : x ≠ "__name__") (h : Q v s)
    (at1 : en.globals = mainGlobals ∧ en.builtins = builtinsNs) (kind : en.scope.kind = .function ∧ en.kindOf x = some .globalImplicit) (hd : (x == ("__debug__" : Str)) = false) : wpAny M A (eval (.Name x pos) en) Q E s := by
  have G : s.heap.Ns en.globals mg := by rw [at1.1]; exact T.g.keeps F.keep
  have B : s.heap.Ns en.builtins mb := by rw [at1.2]; exact T.b.keeps F.keep
  exact Name_function_global kind.1 kind.2 (loadGlobal_builtin G (mg_none_of X T.g e) B ((T.builtins x hn).trans hv) h) hd

/-- one element of a comprehension that stores nothing -/
def El (news : List (Addr × Obj)) (v : Value → Prop) (y : Value) (news' : List (Addr × Obj)) : Prop := news' = news ∧ v y
section
variable {prog : Program} {w : World} {A : Around} {h₀ : Heap} {L : Addr} {m : Str → Option Value} {env : Env} {elt : Expr} {x : Str} {scope : Scope} {cl : List (Str × Addr)} {s : Shared} {S : List (Addr × Obj) → Prop} {P : Nat → Value → Prop} {Fin : List Value → List (Addr × Obj) → Prop} {news : List (Addr × Obj)}
/-- any source, any kind of element: what is known of each item (is), what its element is (el) -/
theorem comp_rest {α : Type} {n : Nat} (ks : List α) (is : α → Value → Prop) (el : α → Value → Prop) (hks : ks.length = n) (hP : ∀ i v, i < n → P i v → ∃ k, ks[i]? = some k ∧ is k v)
    (turn : ∀ (pre : List α) (k : α) (post : List α) v I oI C oC D m₂ ys h tk (E' : Value → Shared → Prop), ks = pre ++ k :: post → is k v → LCg.NsObj oC m₂ → m₂ x = some v → Fr h₀ L h m → News h₀ L h ((I, oI) :: (C, oC) :: (D, LCg.lst ys) :: news) → LCg.Off3 I C D news → ((@Ne Nat I C) ∧ (@Ne Nat I D) ∧ (@Ne Nat C D)) →
      wpAny (model prog w) A (eval elt (compEnvC scope cl C env)) (LCg.CompEnd h₀ L m { s with heap := h, toks := tk } I oI C oC D (LCg.lst ys) S (fun y news' => El news (el k) y news')) E' { s with heap := h, toks := tk })
    (fin : ∀ ys, Paired el ks ys → Fin ys news) : LCg.CompRest prog w A h₀ L m env elt x scope cl s S P Fin n 0 [] news := by
  have key : ∀ (j i : Nat) (ys : List Value), i + j = n → Paired el (ks.take i) ys → LCg.CompRest prog w A h₀ L m env elt x scope cl s S P Fin j i ys news := by
    intro j
    induction j with
    | zero =>
      intro i ys hi hy
      have e : i = ks.length := by omega
      subst e
      rw [List.take_length] at hy
      exact LCg.CompRest.zero (fin ys hy)
    | succ j ih =>
      intro i ys hi hy
      refine LCg.CompRest.succ ?_
      intro v I oI C oC D m₂ h tk E' hv hC hx F N off ne
      obtain ⟨k, hk, hv'⟩ := hP i v (by omega) hv
      have hs : ks.take (i + 1) = ks.take i ++ [k] := by simp [List.take_add_one, hk]
      have e : ks = ks.take i ++ k :: ks.drop (i + 1) := by
        have ht := List.take_append_drop (i + 1) ks
        rw [hs, List.append_assoc] at ht
        exact ht.symm
      refine wpAny_mono (turn _ k _ v I oI C oC D m₂ ys h tk E' e hv' hC hx F N off ne) (fun y s₂ hq => ?_) fun _ _ e => e
      obtain ⟨h', tk', nw, e, F', N', off', hS, hn, hy'⟩ := hq
      rw [hn] at N' off' hS
      refine ⟨h', tk', news, e, F', N', off', hS, ?_⟩
      refine ih (i + 1) _ (by omega) ?_
      rw [hs]
      exact hy.snoc hy'
  exact key n 0 [] (by omega) (by simp only [List.take_zero]; exact .nil)
end

theorem paired_ints {α : Type} {g : α → Int} : ∀ {ks : List α} {ys : List Value}, Paired (fun k y => ∃ t, y = .int (g k) t) ks ys → IntsAre ys (ks.map g)
  | _, _, .nil => .nil
  | _, _, .cons h r => by obtain ⟨t, rfl⟩ := h; exact .cons _ t (paired_ints r)
theorem paired_strs {α : Type} {g : α → Str} : ∀ {ks : List α} {ys : List Value}, Paired (fun k y => ∃ t, y = .str (g k) t) ks ys → StrsAre ys (ks.map g)
  | _, _, .nil => .nil
  | _, _, .cons h r => by obtain ⟨t, rfl⟩ := h; exact .cons _ t (paired_strs r)
section
variable {prog : Program} {w : World} {A : Around} {h₀ : Heap} {L : Addr} {m : Str → Option Value} {env : Env} {elt : Expr} {x : Str} {scope : Scope} {cl : List (Str × Addr)} {s : Shared} {S : List (Addr × Obj) → Prop} {Fin : List Value → List (Addr × Obj) → Prop} {news : List (Addr × Obj)}
theorem comp_str_int {y : Str} (g : Nat → Int)
    (turn : ∀ (pre : List Nat) (k : Nat) (post : List Nat) t I oI C oC D m₂ ys h tk (E' : Value → Shared → Prop), y.cps.toList = pre ++ k :: post → LCg.NsObj oC m₂ → m₂ x = some (.str ⟨#[k]⟩ t) → Fr h₀ L h m → News h₀ L h ((I, oI) :: (C, oC) :: (D, LCg.lst ys) :: news) → LCg.Off3 I C D news → ((@Ne Nat I C) ∧ (@Ne Nat I D) ∧ (@Ne Nat C D)) →
      wpAny (model prog w) A (eval elt (compEnvC scope cl C env)) (LCg.CompEnd h₀ L m { s with heap := h, toks := tk } I oI C oC D (LCg.lst ys) S (fun r news' => El news (fun r => ∃ t, r = .int (g k) t) r news')) E' { s with heap := h, toks := tk })
    (fin : ∀ ys, IntsAre ys (y.cps.toList.map g) → Fin ys news) : LCg.CompRest prog w A h₀ L m env elt x scope cl s S (SignAt y) Fin y.cps.size 0 [] news := by
  refine comp_rest y.cps.toList (fun c v => ∃ t, v = .str ⟨#[c]⟩ t) (fun c r => ∃ t, r = .int (g c) t) (by simp) (fun i v _ hv => ?_) ?_ fun ys hp => fin ys (paired_ints hp)
  · obtain ⟨c, u, hc, rfl⟩ := hv
    exact ⟨c, by simpa using hc, u, rfl⟩
  · intro pre k post v I oI C oC D m₂ ys h tk E' e hv
    obtain ⟨t, rfl⟩ := hv
    exact turn pre k post t I oI C oC D m₂ ys h tk E' e
end
section
variable {prog : Program} {w : World} {A : Around} {h₀ : Heap} {L : Addr} {m : Str → Option Value} {env : Env} {elt : Expr} {x : Str} {scope : Scope} {cl : List (Str × Addr)} {s : Shared} {S : List (Addr × Obj) → Prop} {Fin : List Value → List (Addr × Obj) → Prop} {news : List (Addr × Obj)}

theorem comp_range_int {n : Nat} {a : Int} (g : Int → Int)
    (turn : ∀ (k : Int) t I oI C oC D m₂ ys h tk (E' : Value → Shared → Prop), a ≤ k → k < a + (n : Int) → LCg.NsObj oC m₂ → m₂ x = some (.int k t) → Fr h₀ L h m → News h₀ L h ((I, oI) :: (C, oC) :: (D, LCg.lst ys) :: news) → LCg.Off3 I C D news → ((@Ne Nat I C) ∧ (@Ne Nat I D) ∧ (@Ne Nat C D)) →
      wpAny (model prog w) A (eval elt (compEnvC scope cl C env)) (LCg.CompEnd h₀ L m { s with heap := h, toks := tk } I oI C oC D (LCg.lst ys) S (fun r news' => El news (fun r => ∃ t, r = .int (g k) t) r news')) E' { s with heap := h, toks := tk })
    (fin : ∀ ys, IntsAre ys ((rangeKs a n).map g) → Fin ys news) : LCg.CompRest prog w A h₀ L m env elt x scope cl s S (fun i v => ∃ t, v = .int (a + (i : Int)) t) Fin n 0 [] news := by
  refine comp_rest (rangeKs a n) (fun k v => ∃ t, v = .int k t) (fun k r => ∃ t, r = .int (g k) t) (rangeKs_length a n) (fun i v hi hv => ?_) ?_ fun ys hp => fin ys (paired_ints hp)
  · obtain ⟨t, e⟩ := hv
    exact ⟨a + (i : Int), by simp [rangeKs, hi], t, e⟩
  · intro pre k post v I oI C oC D m₂ ys h tk E' e hv
    obtain ⟨t, rfl⟩ := hv
    have hk : k ∈ rangeKs a n := by rw [e]; exact List.mem_append.mpr (.inr (.head _))
    exact turn k t I oI C oC D m₂ ys h tk E' (mem_rangeKs hk).1 (mem_rangeKs hk).2

theorem comp_list_int {vs : List Value} {ns : List Int} (g : Int → Int) (hi : IntsAre vs ns)
    (turn : ∀ (pre : List Int) (k : Int) (post : List Int) t I oI C oC D m₂ ys h tk (E' : Value → Shared → Prop), ns = pre ++ k :: post → LCg.NsObj oC m₂ → m₂ x = some (.int k t) → Fr h₀ L h m → News h₀ L h ((I, oI) :: (C, oC) :: (D, LCg.lst ys) :: news) → LCg.Off3 I C D news → ((@Ne Nat I C) ∧ (@Ne Nat I D) ∧ (@Ne Nat C D)) →
      wpAny (model prog w) A (eval elt (compEnvC scope cl C env)) (LCg.CompEnd h₀ L m { s with heap := h, toks := tk } I oI C oC D (LCg.lst ys) S (fun r news' => El news (fun r => ∃ t, r = .int (g k) t) r news')) E' { s with heap := h, toks := tk })
    (fin : ∀ ys, IntsAre ys (ns.map g) → Fin ys news) : LCg.CompRest prog w A h₀ L m env elt x scope cl s S (fun i v => vs.toArray[i]? = some v) Fin vs.toArray.size 0 [] news := by
  refine comp_rest ns (fun k v => ∃ t, v = .int k t) (fun k r => ∃ t, r = .int (g k) t) (by rw [List.size_toArray]; exact hi.length.symm) (fun i v _ hv => ?_) ?_ fun ys hp => fin ys (paired_ints hp)
  · obtain ⟨k, t, e, hk⟩ := IntsAre.at hi i v (by simpa using hv)
    exact ⟨k, hk, t, e⟩
  · intro pre k post v I oI C oC D m₂ ys h tk E' e hv
    obtain ⟨t, rfl⟩ := hv
    exact turn pre k post t I oI C oC D m₂ ys h tk E' e

theorem comp_list_str {vs : List Value} {ns : List Int} (g : Int → Str) (R : Int → Prop) (hR : ∀ k ∈ ns, R k) (hi : IntsAre vs ns)
    (turn : ∀ (k : Int) t I oI C oC D m₂ ys h tk (E' : Value → Shared → Prop), R k → LCg.NsObj oC m₂ → m₂ x = some (.int k t) → Fr h₀ L h m → News h₀ L h ((I, oI) :: (C, oC) :: (D, LCg.lst ys) :: news) → LCg.Off3 I C D news → ((@Ne Nat I C) ∧ (@Ne Nat I D) ∧ (@Ne Nat C D)) →
      wpAny (model prog w) A (eval elt (compEnvC scope cl C env)) (LCg.CompEnd h₀ L m { s with heap := h, toks := tk } I oI C oC D (LCg.lst ys) S (fun r news' => El news (fun r => ∃ t, r = .str (g k) t) r news')) E' { s with heap := h, toks := tk })
    (fin : ∀ ys, StrsAre ys (ns.map g) → Fin ys news) : LCg.CompRest prog w A h₀ L m env elt x scope cl s S (fun i v => vs.toArray[i]? = some v) Fin vs.toArray.size 0 [] news := by
  refine comp_rest ns (fun k v => ∃ t, v = .int k t) (fun k r => ∃ t, r = .str (g k) t) (by rw [List.size_toArray]; exact hi.length.symm) (fun i v _ hv => ?_) ?_ fun ys hp => fin ys (paired_strs hp)
  · obtain ⟨k, t, e, hk⟩ := IntsAre.at hi i v (by simpa using hv)
    exact ⟨k, hk, t, e⟩
  · intro pre k post v I oI C oC D m₂ ys h tk E' e hv
    obtain ⟨t, rfl⟩ := hv
    exact turn k t I oI C oC D m₂ ys h tk E' (hR k (by rw [e]; exact List.mem_append.mpr (.inr (.head _))))

theorem comp_range_str {n : Nat} {a : Int} (g : Int → Str)
    (turn : ∀ (k : Int) t I oI C oC D m₂ ys h tk (E' : Value → Shared → Prop), a ≤ k → k < a + (n : Int) → LCg.NsObj oC m₂ → m₂ x = some (.int k t) → Fr h₀ L h m → News h₀ L h ((I, oI) :: (C, oC) :: (D, LCg.lst ys) :: news) → LCg.Off3 I C D news → ((@Ne Nat I C) ∧ (@Ne Nat I D) ∧ (@Ne Nat C D)) →
      wpAny (model prog w) A (eval elt (compEnvC scope cl C env)) (LCg.CompEnd h₀ L m { s with heap := h, toks := tk } I oI C oC D (LCg.lst ys) S (fun r news' => El news (fun r => ∃ t, r = .str (g k) t) r news')) E' { s with heap := h, toks := tk })
    (fin : ∀ ys, StrsAre ys ((rangeKs a n).map g) → Fin ys news) : LCg.CompRest prog w A h₀ L m env elt x scope cl s S (fun i v => ∃ t, v = .int (a + (i : Int)) t) Fin n 0 [] news := by
  refine comp_rest (rangeKs a n) (fun k v => ∃ t, v = .int k t) (fun k r => ∃ t, r = .str (g k) t) (rangeKs_length a n) (fun i v hi hv => ?_) ?_ fun ys hp => fin ys (paired_strs hp)
  · obtain ⟨t, e⟩ := hv
    exact ⟨a + (i : Int), by simp [rangeKs, hi], t, e⟩
  · intro pre k post v I oI C oC D m₂ ys h tk E' e hv
    obtain ⟨t, rfl⟩ := hv
    have hk : k ∈ rangeKs a n := by rw [e]; exact List.mem_append.mpr (.inr (.head _))
    exact turn k t I oI C oC D m₂ ys h tk E' (mem_rangeKs hk).1 (mem_rangeKs hk).2
end
end

section
theorem whl_split {c : Prop} [Decidable c] {T F : Prop} (t : c → T) (f : ¬ c → F) : WhlIf (decide c) T F := by
  by_cases h : c
  · exact WhlIf.yes (decide_eq_true h) (t h)
  · exact WhlIf.no (decide_eq_false h) (f h)
theorem and_small (a b : Int) (h0 : 0 ≤ b) (h1 : b < 2 ^ 60) : (Builtin.bitAnd a b).natAbs < 2 ^ 64 := by
  by_cases ha : 0 ≤ a
  · rw [bitAnd_pp ha h0]
    have := Nat.and_le_right (n := a.toNat) (m := b.toNat)
    omega
  · rw [bitAnd_np (by omega) h0]
    have := Nat.and_le_left (n := b.toNat) (m := (Builtin.bitNot a).toNat)
    omega



def listPost (ns : List Int) (g h' : Heap) (v : Value) : Prop := ∃ l vs n, v = .ref l ∧ g.get? l = none ∧ h'.get? l = some (listOf (List.toArray vs) n) ∧ IntsAre vs ns
theorem Fin.list {s₀ : Shared} {l : Addr} {vs : List Value} {n : Nat} {ns : List Int} {h' : Heap} {tk' : Nat} {L : Addr} {m : Str → Option Value} {news : List (Addr × Obj)}
    (F : Fr s₀.heap L h' m) (N : News s₀.heap L h' news) (hm : (l, listOf vs.toArray n) ∈ news) (hi : IntsAre vs ns) : Fin s₀ (listPost ns) (.ret (.ref l)) { s₀ with heap := h', toks := tk' } :=
  Fin.intro F ⟨l, vs, n, rfl, (N _ hm).2.2, (N _ hm).1, hi⟩

section
variable {prog : Program} {w : World} {A : Around} {E : Value → Shared → Prop} {s : Shared} {h₀ : Heap} {L : Addr} {m : Str → Option Value} {news : List (Addr × Obj)}

theorem add_ints_N {l b : Addr} {vs ws : List Value} {ns ms : List Int} {Q : Value → Shared → Prop} (F : Fr h₀ L s.heap m) (N : News h₀ L s.heap news) (hl : s.heap.IsList l vs.toArray) (hb : s.heap.IsList b ws.toArray)
    (hi : IntsAre vs ns) (hj : IntsAre ws ms) (hsz : ns.length + ms.length ≤ 1000)
    (h : ∀ D us h', Fr h₀ L h' m → News h₀ L h' ((D, listOf (List.toArray us) 0) :: news) → (∀ p ∈ news, p.1 < D) → IntsAre us (ns ++ ms) → Q (.ref D) { s with heap := h' }) :
    wpAny (model prog w) A (binaryOp .Add (.ref l) (.ref b)) Q E s :=
  add_arrays_ints F N hl hb hi hj (fun h' F' N' hu => h _ _ h' F' N' (fun p hp => Heap.lt_size (N p hp).1) hu) (by rw [PySem.sizeLine_eq]; omega)

theorem copy_ints_N {l : Addr} {vs : List Value} {ns : List Int} {Q : Value → Shared → Prop} (F : Fr h₀ L s.heap m) (N : News h₀ L s.heap news) (hl : s.heap.IsList l vs.toArray) (hi : IntsAre vs ns) (hsz : ns.length ≤ 1000)
    (h : ∀ D us n h', Fr h₀ L h' m → News h₀ L h' ((D, listOf (List.toArray us) n) :: news) → (∀ p ∈ news, p.1 < D) → IntsAre us ns → Q (.ref D) { s with heap := h' }) :
    wpAny (model prog w) A (call (.type "list") [.ref l]) Q E s :=
  list_copyK F N hl (fun D c h' F' N' l1 => h D vs c h' F' N' l1 hi) (by rw [List.size_toArray, hi.length, PySem.sizeLine_eq]; omega)

theorem IntsAre.rep {vs : List Value} {ns : List Int} (hi : IntsAre vs ns) : ∀ k : Nat, IntsAre (List.replicate k vs).flatten (List.replicate k ns).flatten
  | 0 => .nil
  | k + 1 => by
    rw [List.replicate_succ, List.replicate_succ, List.flatten_cons, List.flatten_cons]
    exact hi.append (IntsAre.rep hi k)
theorem foldl_rep {items : Array Value} : ∀ (k : Nat) (acc : Array Value), (List.foldl (fun x1 x2 => x1 ++ x2) acc (List.replicate k items)) = acc ++ ((List.replicate k items.toList).flatten).toArray
  | 0, acc => by simp
  | k + 1, acc => by
    rw [List.replicate_succ, List.foldl_cons, foldl_rep k, List.replicate_succ, List.flatten_cons]
    apply Array.toList_inj.mp
    simp
theorem mul_ints_N {l : Addr} {vs : List Value} {ns : List Int} {x : Int} {u : Tok} {Q : Value → Shared → Prop} {k : Nat} (F : Fr h₀ L s.heap m) (N : News h₀ L s.heap news) (hm : (l, listOf vs.toArray k) ∈ news) (hi : IntsAre vs ns) (hne : ns ≠ [])
    (hlo : 0 ≤ x) (hhi : x ≤ 1000) (hn : ns.length ≤ 1000)
    (h : ∀ D us h', Fr h₀ L h' m → News h₀ L h' ((D, listOf (List.toArray us) 0) :: news) → (∀ p ∈ news, p.1 < D) → IntsAre us (List.replicate x.toNat ns).flatten → Q (.ref D) { s with heap := h' }) :
    wpAny (model prog w) A (binaryOp .Mult (.ref l) (.int x u)) Q E s := by
  have hlen : vs.length = ns.length := hi.length
  refine mul_list F N (N _ hm).1 (by omega) (by omega) ?_ fun h' F' N' => ?_
  · rw [List.size_toArray, hlen]
    have : x.toNat ≤ 1000 := by omega
    calc ns.length * x.toNat ≤ 1000 * 1000 := Nat.mul_le_mul hn this
      _ ≤ 2 ^ 24 := by decide
  · have hne2 : vs.toArray.isEmpty = false := by
      cases ns with
      | nil => exact absurd rfl hne
      | cons _ _ => cases vs with
        | nil => simp at hlen
        | cons _ _ => rfl
    rw [hne2, foldl_rep] at N'
    refine h _ (List.replicate x.toNat vs).flatten h' F' ?_ (fun p hp => Heap.lt_size (N p hp).1) (IntsAre.rep hi _)
    simpa using N'

theorem finE_N {ys : List Value} {Q : Value → Shared → Prop}
    (h : ∀ D n h' tk, Fr h₀ L h' m → News h₀ L h' ((D, listOf ys.toArray n) :: news) → LCg.Off1 D news → Q (.ref D) { s with heap := h', toks := tk }) : LCg.FinE h₀ L m s Q ys news :=
  fun D h' tk F N o => h D _ h' tk F N o
theorem finA_N {ys : List Value} {y : Str} {Q : Flow → Shared → Prop}
    (h : ∀ D n h' tk, Fr h₀ L h' (fun z => if z = y then some (.ref D) else m z) → News h₀ L h' ((D, listOf ys.toArray n) :: news) → LCg.Off1 D news → Q .next { s with heap := h', toks := tk }) : LCg.FinA h₀ L m s y Q ys news :=
  fun D h' tk F N o => h D _ h' tk F N o
theorem base_list {l : Addr} {its : Array Value} {h : Heap} (F : Fr h₀ L h m) (x : h₀.IsList l its) : h.IsList l its := stays_list F.keep x
end
section
variable {w : World} {mg mb : Str → Option Value} {f : Addr} {vs : List Value} {dd uu : Nat} {pre : Heap → Prop}
  {dp un : Nat} {gd : Option (List Code)} {env : Env} {outer : List Env} {A₀ : Around} {base h₀ : Heap} {L : Addr} {m : Str → Option Value} {news : List (Addr × Obj)} {s : Shared} {Q E : Value → Shared → Prop}

theorem useI {r : Int} (C : Can w mg mb f vs dd uu pre (fun _ _ v => ∃ t, v = .int r t))
    (B : Below A₀ base outer h₀) (F : Fr h₀ L s.heap m) (X : (hd.heap_39 w.params).In h₀) (N : News h₀ L s.heap news)
    (T : TopRead hd.view_39 (looseW hd.view_39 [Str.ofString "convertbits"]) mg mb h₀) (hf : env.frame = some L) (hk : env.scope.kind = .function) (hp : pre s.heap) (hd : dp + dd < recursionLimit) (hu : un + uu < cLine)
    (ret : ∀ t h' tk', Fr h₀ L h' m → News h₀ L h' news → Q (.int r t) { s with heap := h', toks := tk' }) :
    wpAny (model PySem.Challenge.rw_sx0008_01.row.prog w) { handled := none, depth := dp, frames := some (env :: outer), guards := gd, units := un } (call (.ref f) vs) Q E s :=
  C dp un gd env outer A₀ base h₀ L m news s Q E B F X N T hf hk hp hd hu fun v h' tk' st p => by obtain ⟨t, rfl⟩ := p; exact ret t h' tk' (fr_stays F st) (news_stays N st)
theorem useB {r : Bool} (C : Can w mg mb f vs dd uu pre (fun _ _ v => v = .bool r))
    (B : Below A₀ base outer h₀) (F : Fr h₀ L s.heap m) (X : (hd.heap_39 w.params).In h₀) (N : News h₀ L s.heap news)
    (T : TopRead hd.view_39 (looseW hd.view_39 [Str.ofString "convertbits"]) mg mb h₀) (hf : env.frame = some L) (hk : env.scope.kind = .function) (hp : pre s.heap) (hd : dp + dd < recursionLimit) (hu : un + uu < cLine)
    (ret : ∀ h' tk', Fr h₀ L h' m → News h₀ L h' news → Q (.bool r) { s with heap := h', toks := tk' }) :
    wpAny (model PySem.Challenge.rw_sx0008_01.row.prog w) { handled := none, depth := dp, frames := some (env :: outer), guards := gd, units := un } (call (.ref f) vs) Q E s :=
  C dp un gd env outer A₀ base h₀ L m news s Q E B F X N T hf hk hp hd hu fun v h' tk' st p => by subst p; exact ret h' tk' (fr_stays F st) (news_stays N st)
theorem useS {r : Str} (C : Can w mg mb f vs dd uu pre (fun _ _ v => ∃ t, v = .str r t))
    (B : Below A₀ base outer h₀) (F : Fr h₀ L s.heap m) (X : (hd.heap_39 w.params).In h₀) (N : News h₀ L s.heap news)
    (T : TopRead hd.view_39 (looseW hd.view_39 [Str.ofString "convertbits"]) mg mb h₀) (hf : env.frame = some L) (hk : env.scope.kind = .function) (hp : pre s.heap) (hd : dp + dd < recursionLimit) (hu : un + uu < cLine)
    (ret : ∀ t h' tk', Fr h₀ L h' m → News h₀ L h' news → Q (.str r t) { s with heap := h', toks := tk' }) :
    wpAny (model PySem.Challenge.rw_sx0008_01.row.prog w) { handled := none, depth := dp, frames := some (env :: outer), guards := gd, units := un } (call (.ref f) vs) Q E s :=
  C dp un gd env outer A₀ base h₀ L m news s Q E B F X N T hf hk hp hd hu fun v h' tk' st p => by obtain ⟨t, rfl⟩ := p; exact ret t h' tk' (fr_stays F st) (news_stays N st)
theorem useL {r : List Int} (C : Can w mg mb f vs dd uu pre (listPost r))
    (B : Below A₀ base outer h₀) (F : Fr h₀ L s.heap m) (X : (hd.heap_39 w.params).In h₀) (N : News h₀ L s.heap news)
    (T : TopRead hd.view_39 (looseW hd.view_39 [Str.ofString "convertbits"]) mg mb h₀) (hf : env.frame = some L) (hk : env.scope.kind = .function) (hp : pre s.heap) (hd : dp + dd < recursionLimit) (hu : un + uu < cLine)
    (ret : ∀ D us n h' tk', Fr h₀ L h' m → News h₀ L h' ((D, listOf (List.toArray us) n) :: news) → LCg.Off1 D news → IntsAre us r → Q (.ref D) { s with heap := h', toks := tk' }) :
    wpAny (model PySem.Challenge.rw_sx0008_01.row.prog w) { handled := none, depth := dp, frames := some (env :: outer), guards := gd, units := un } (call (.ref f) vs) Q E s :=
  C dp un gd env outer A₀ base h₀ L m news s Q E B F X N T hf hk hp hd hu fun v h' tk' st p => by
    obtain ⟨l, us, n, rfl, hn, hl, hi⟩ := p
    have F' := fr_stays F st
    have N' := news_stays N st
    refine ret l us n h' tk' F' (fun p hp => ?_) ?_ hi
    · rcases List.mem_cons.mp hp with rfl | hp
      · refine ⟨hl, fun e => ?_, ?_⟩
        · obtain ⟨oL, _, _, hL, _⟩ := F.ns
          dsimp only at e
          rw [e, hL] at hn; cases hn
        · cases q : h₀.get? l with
          | none => rfl
          | some o => rw [F.keep _ _ q] at hn; cases hn
      · exact N' p hp
    · have key : ∀ ls : List (Addr × Obj), (∀ p ∈ ls, s.heap.get? p.1 = some p.2) → LCg.Off1 l ls := by
        intro ls
        induction ls with
        | nil => intro _; trivial
        | cons p r ih =>
          intro hq
          refine ⟨fun e => ?_, ih fun q hm => hq q (.tail _ hm)⟩
          have := hq p (.head _)
          rw [e, hn] at this; cases this
      exact key news fun p hp => (N p hp).1
end
end

section
/-- a text by its signs' numbers -/
def T (cs : List Nat) : Str := ⟨cs.toArray⟩
def charset : List Nat := [113, 112, 122, 114, 121, 57, 120, 56, 103, 102, 50, 116, 118, 100, 119, 48, 115, 51, 106, 110, 53, 52, 107, 104, 99, 101, 54, 109, 117, 97, 55, 108]
theorem T_charset : Str.ofString "qpzry9x8gf2tvdw0s3jn54khce6mua7l" = T charset := by decide +kernel
theorem T_one : Str.ofString "1" = T [49] := by decide +kernel
theorem T_nil : Str.ofString "" = T [] := by decide +kernel
theorem T_app (a b : List Nat) : T a ++ T b = T (a ++ b) := Str.ext' (by simp [Str.cps_append, T])
theorem T_len (a : List Nat) : (T a).length = a.length := by simp [T, Str.length]
theorem T_cps (a : List Nat) : (T a).cps.toList = a := by simp [T]
theorem T_size (a : List Nat) : (T a).cps.size = a.length := by simp [T]
theorem T_inj {a b : List Nat} (h : T a = T b) : a = b := by
  have := congrArg (fun x : Str => x.cps.toList) h
  simpa [T] using this
theorem T_beq (a b : List Nat) : (T a == T b) = (a == b) := by
  rw [Bool.eq_iff_iff, beq_iff_eq, beq_iff_eq]
  exact ⟨T_inj, fun h => by rw [h]⟩

theorem T_item {cs : List Nat} {i : Int} (h0 : 0 ≤ i) (h1 : i < cs.length) : Txt.item (T cs) i = T [cs.getD i.toNat 0] := by
  have h2 : i.toNat < cs.length := by omega
  have : Txt.charAt (T cs) i = some (cs.getD i.toNat 0) := by
    unfold Txt.charAt
    rw [StrLaws.seqIndex_nonneg h0 (by rw [T_len]; exact h1)]
    simp [T, h2]
  unfold Txt.item
  rw [this]
  rfl

theorem T_join {α : Type} (ks : List α) (g : α → Nat) : Txt.join (T []) (ks.map fun k => T [g k]) = T (ks.map g) := by
  unfold Txt.join
  rw [StrLaws.glued_eq_join]
  induction ks with
  | nil => rfl
  | cons k r ih =>
    cases r with
    | nil => rfl
    | cons k' r' =>
      have e : Str.join (T []) ((k :: k' :: r').map fun k => T [g k]) = T [g k] ++ T [] ++ Str.join (T []) ((k' :: r').map fun k => T [g k]) := rfl
      rw [e, ih, T_app, T_app]
      rfl

theorem T_slice_from {cs : List Nat} {i : Int} (h0 : 0 ≤ i) (h1 : i ≤ cs.length) : Txt.slice (T cs) (some i) none = T (cs.drop i.toNat) := by
  have e : Txt.slice (T cs) (some i) none = StrLaws.sliceText (T cs) (some i) none := rfl
  rw [e, StrLaws.sliceText_from ⟨h0, by rw [T_cps]; exact h1⟩, T_cps, List.take_of_length_le (by rw [List.length_drop]; omega)]
  rfl
theorem T_slice_to {cs : List Nat} {i : Int} (h0 : 0 ≤ i) (h1 : i ≤ cs.length) : Txt.slice (T cs) none (some i) = T (cs.take i.toNat) := by
  have e : Txt.slice (T cs) none (some i) = StrLaws.sliceText (T cs) none (some i) := rfl
  rw [e, StrLaws.sliceText_to ⟨h0, by rw [T_cps]; exact h1⟩, T_cps, List.drop_zero, Int.sub_zero]
  rfl
theorem T_slice_from_neg {cs : List Nat} {i : Int} (h0 : i < 0) (h1 : -(cs.length : Int) ≤ i) : Txt.slice (T cs) (some i) none = T (cs.drop (cs.length - (-i).toNat)) := by
  have e : Txt.slice (T cs) (some i) none = StrLaws.sliceText (T cs) (some i) none := rfl
  rw [e, StrLaws.sliceText_from_neg h0 (by rw [T_len]; exact h1), T_cps, T_len, List.take_of_length_le (by rw [List.length_drop]; omega)]
  have : (i + (cs.length : Int)).toNat = cs.length - (-i).toNat := by omega
  rw [this]; rfl
theorem T_slice_to_neg {cs : List Nat} {i : Int} (h0 : i < 0) (h1 : -(cs.length : Int) ≤ i) : Txt.slice (T cs) none (some i) = T (cs.take (cs.length - (-i).toNat)) := by
  have e : Txt.slice (T cs) none (some i) = StrLaws.sliceText (T cs) none (some i) := rfl
  rw [e, StrLaws.sliceText_to_neg h0 (by rw [T_len]; exact h1), T_cps, T_len, List.drop_zero, Int.sub_zero]
  have : (i + (cs.length : Int)).toNat = cs.length - (-i).toNat := by omega
  rw [this]; rfl

theorem at_one (cs : List Nat) (c i : Nat) : StrLaws.At (T cs) (T [c]) (T cs).length i ↔ cs[i]? = some c := by
  have := StrLaws.subAt_one (T cs) c i
  rw [T_cps] at this
  exact this
def posI (cs : List Nat) (c : Nat) : Int := if c ∈ cs then (cs.idxOf c : Int) else -1
theorem T_find (cs : List Nat) (c : Nat) : Txt.find (T cs) (T [c]) = posI cs c := by
  unfold Txt.find posI
  rcases StrLaws.occ_head (T cs) (T [c]) 1 (Nat.le_refl _) with ⟨h, hn⟩ | ⟨i, r, h, ha, hn⟩
  · rw [h]
    have : c ∉ cs := fun hc => by
      obtain ⟨i, hi⟩ := List.mem_iff_getElem?.mp hc
      exact hn i ((at_one cs c i).mpr hi)
    rw [if_neg this]
  · rw [h]
    have ha' := (at_one cs c i).mp ha
    have hc : c ∈ cs := List.mem_iff_getElem?.mpr ⟨i, ha'⟩
    rw [if_pos hc]
    have hlt := List.idxOf_lt_length_iff.mpr hc
    have e1 : cs[cs.idxOf c]? = some c := by rw [List.getElem?_eq_getElem hlt, List.getElem_idxOf hlt]
    have h1 : ¬ cs.idxOf c < i := fun hlt' => hn _ hlt' ((at_one cs c _).mpr e1)
    have h2 : cs.idxOf c ≤ i := by
      obtain ⟨hi, he⟩ := List.getElem?_eq_some_iff.mp ha'
      exact Nat.le_of_not_lt fun hlt' => by
        have h3 := List.not_of_lt_findIdx (p := fun a => a == c) (xs := cs) (i := i) hlt'
        simp [he] at h3
    have : i = cs.idxOf c := by omega
    show (i : Int) = _
    rw [this]
theorem T_rfind {a b : List Nat} {c : Nat} (h : c ∉ b) : Txt.rfind (T (a ++ c :: b)) (T [c]) = (a.length : Int) := by
  rcases rfind_whole (T (a ++ c :: b)) (T [c]) with ⟨_, hn⟩ | ⟨i, hi, ha, hn⟩
  · exact absurd ((at_one _ c a.length).mpr (by simp)) (hn _)
  · rw [hi]
    have ha' := (at_one _ c i).mp ha
    have h1 : ¬ i < a.length := fun hlt => hn a.length hlt ((at_one _ c _).mpr (by simp))
    have h2 : ¬ a.length < i := fun hlt => by
      rw [List.getElem?_append_right (by omega)] at ha'
      obtain ⟨j, hj⟩ : ∃ j, i - a.length = j + 1 := ⟨i - a.length - 1, by omega⟩
      rw [hj, List.getElem?_cons_succ] at ha'
      exact h (List.mem_of_getElem? ha')
    have : i = a.length := by omega
    rw [this]
theorem T_in (cs : List Nat) (c : Nat) : (!(Builtin.Str.occurrences (T cs) (T [c]) 0 (T cs).length 1).isEmpty) = decide (c ∈ cs) := by
  have := StrLaws.found_one (T cs) c
  rw [T_cps] at this
  exact this
def plainSign (c : Nat) : Bool := (decide (33 ≤ c) && decide (c < 65)) || (decide (91 ≤ c) && decide (c < 127))
theorem lowerOf_plain : ∀ c : _root_.Fin 128, plainSign c.val = true → Unicode.lowerOf c.val = [c.val] := by decide +kernel
theorem T_lower {cs : List Nat} (h : ∀ c ∈ cs, plainSign c = true) : Txt.lower (T cs) = T cs := by
  unfold Txt.lower
  apply Str.ext'
  show placed (T cs) _ = cs.toArray
  unfold placed
  have e : ((T cs).cps.mapIdx fun i c => ((fun i _ => Unicode.lowerAt (T cs).cps i) i c).toArray) = cs.toArray.map fun c => #[c] := by
    apply Array.ext
    · simp [T]
    · intro i h1 h2
      have hi : i < cs.length := by simpa [T] using h1
      simp only [Array.getElem_mapIdx, Array.getElem_map, List.getElem_toArray]
      have hg : (T cs).cps[i]? = some cs[i] := by simp [T, hi]
      have hp := h cs[i] (List.getElem_mem hi)
      have hlt : cs[i] < 128 := by
        simp only [plainSign, Bool.or_eq_true, Bool.and_eq_true, decide_eq_true_eq] at hp
        omega
      unfold Unicode.lowerAt
      rw [hg]
      simp only
      have hne : (cs[i] == 0x3A3) = false := by simp; omega
      rw [hne]
      have := lowerOf_plain ⟨cs[i], hlt⟩ hp
      simp only at this
      simp [this]
  rw [e]
  apply Array.toList_inj.mp
  rw [Array.toList_flatten]
  simp only [Array.toList_map, List.map_map]
  clear h e
  induction cs with
  | nil => rfl
  | cons c r ih =>
    rw [List.map_cons, List.flatten_cons, ih]
    rfl
end

section
theorem strs_pairs : ∀ {vs : List Value} {ys : List Str}, StrsAre vs ys → ∃ l : List (Str × Tok), vs = strValues l ∧ l.map (·.1) = ys
  | _, _, .nil => ⟨[], rfl, rfl⟩
  | _, _, .cons y t r => by
    obtain ⟨l, e, h⟩ := strs_pairs r
    exact ⟨(y, t) :: l, by rw [e]; rfl, by rw [← h]; rfl⟩
theorem size_ok {n : Nat} (h : n ≤ 1000) : n ≤ sizeLine := by rw [PySem.sizeLine_eq]; omega
theorem size_of_ints {vs : List Value} {ns : List Int} (hi : IntsAre vs ns) (h : ns.length ≤ 1000) : vs.toArray.size ≤ sizeLine := by rw [List.size_toArray, hi.length]; exact size_ok h
section
variable {prog : Program} {w : World} {A : Around} {E : Value → Shared → Prop} {s : Shared} {h₀ : Heap} {L : Addr} {m : Str → Option Value} {news : List (Addr × Obj)} {value slice : Expr} {x y : Str} {t u : Tok} {a b cs : List Nat}

theorem addT {Q : Value → Shared → Prop} (hx : x = T a) (hy : y = T b) (hsz : a.length + b.length ≤ 1000) (h : ∀ t' tk, Q (.str (T (a ++ b)) t') { s with toks := tk }) :
    wpAny (model prog w) A (binaryOp .Add (.str x t) (.str y u)) Q E s := by
  subst hx hy
  refine PyProof.Rows.add_str (fun t' tk => ?_) (by rw [T_len, T_len]; exact size_ok hsz)
  rw [T_app]; exact h t' tk
theorem itemT {i : Int} {Q : Value → Shared → Prop} (hx : x = T cs) (h0 : 0 ≤ i) (h1 : i < cs.length) (hsz : cs.length ≤ 1000) (h : ∀ t' tk, Q (.str (T [cs.getD i.toNat 0]) t') { s with toks := tk })
    (hs : subscripted slice false (.str x t) (.int i u) = operate [.str x t, .int i u] (getItem (.str x t) (.int i u)) := by with_unfolding_all rfl)
    (ht : ∀ r, letTemporaryGo value (.str x t) r = pure () := by intro _; with_unfolding_all rfl) :
    wpAny (model prog w) A (subscriptTail value slice (.str x t) (.int i u)) Q E s := by
  refine item_str (fitsSsize_of (N := 9223372036854775808) (by omega) (by omega) (Int.le_refl _)) (by rw [hx, T_len]; omega) (by rw [hx, T_len]; omega) (fun _ => ?_) hs ht
  rw [hx, T_item h0 h1]; exact h _ _
theorem joinT {α : Type} {D : Addr} {us : List Value} {ks : List α} {g : α → Nat} {Q : Value → Shared → Prop} (hx : x = T []) (hl : s.heap.IsList D us.toArray) (hi : StrsAre us (ks.map fun k => T [g k])) (hn : ks.length ≤ 1000)
    (h : ∀ t' tk, Q (.str (T (ks.map g)) t') { s with toks := tk }) : wpAny (model prog w) A (call (.builtin "str.join") [.str x t, .ref D]) Q E s := by
  obtain ⟨l, rfl, e⟩ := strs_pairs hi
  refine SC.join hl e (joinOk_of_weight ?_ (by rw [hx, T_len]; decide)) fun t' k => ?_
  · have h1 : ((ks.map fun k => T [g k]).map (·.length)).sum = ks.length := by
      rw [List.map_map]
      clear hn h hi e
      induction ks with
      | nil => rfl
      | cons k r ih => rw [List.map_cons, List.sum_cons, ih, List.length_cons]; show (T [g k]).length + _ = _; rw [T_len]; simp; omega
    rw [h1, List.length_map]; omega
  · rw [hx, T_join]; exact h t' k
theorem findT {c : Nat} {Q : Value → Shared → Prop} (hx : x = T cs) (hy : y = T [c]) (h : ∀ t' tk, Q (.int (posI cs c) t') { s with toks := tk }) :
    wpAny (model prog w) A (call (.builtin "str.find") [.str x t, .str y u]) Q E s := by
  refine SC.find ?_
  rw [hx, hy, T_find]; exact h _ _
theorem rfindT {c : Nat} {Q : Value → Shared → Prop} (hx : x = T (a ++ c :: b)) (hy : y = T [c]) (hc : c ∉ b) (h : ∀ t' tk, Q (.int (a.length : Int) t') { s with toks := tk }) :
    wpAny (model prog w) A (call (.builtin "str.rfind") [.str x t, .str y u]) Q E s := by
  refine SC.rfind ?_
  rw [hx, hy, T_rfind hc]; exact h _ _
theorem lowerT {Q : Value → Shared → Prop} (hx : x = T cs) (hc : ∀ c ∈ cs, plainSign c = true) (hsz : cs.length ≤ 1000) (h : ∀ t' tk, Q (.str (T cs) t') { s with toks := tk }) :
    wpAny (model prog w) A (call (.builtin "str.lower") [.str x t]) Q E s := by
  refine SCL.lower (by rw [hx, T_len]; omega) fun _ => ?_
  rw [hx, T_lower hc]; exact h _ _
theorem inT {c : Nat} {Q : Value → Shared → Prop} (hx : x = T cs) (hy : y = T [c]) (h : Q (.bool (decide (c ∈ cs))) s) : wpAny (model prog w) A (compareOp .In (.str y u) (.str x t)) Q E s := by
  refine PyProof.Rows.in_str ?_
  rw [hx, hy, T_in]; exact h
theorem lenT {Q : Value → Shared → Prop} (hx : x = T cs) (hsz : cs.length ≤ 1000) (h : ∀ t' tk, Q (.int (cs.length : Int) t') { s with toks := tk }) : wpAny (model prog w) A (call (.builtin "len") [.str x t]) Q E s := by
  refine PySem.P.len_str (by rw [hx, T_len]; omega) ?_
  rw [hx, T_len]; exact h _ _
theorem sliceT_from {i : Int} {ui : Tok} {Q : Value → Shared → Prop} (hx : x = T cs) (hF : Fr h₀ L s.heap m) (hN : News h₀ L s.heap news) (h0 : 0 ≤ i) (h1 : i ≤ cs.length) (hsz : cs.length ≤ 1000)
    (h : ∀ h' t' k, Fr h₀ L h' m → News h₀ L h' news → Q (.str (T (cs.drop i.toNat)) t') { s with heap := h', toks := k })
    (hs : subscripted slice false (.str x t) (.ref s.heap.objs.size) = operate [.ref s.heap.objs.size, .str x t] (getItem (.str x t) (.ref s.heap.objs.size)) := by with_unfolding_all rfl)
    (ht : ∀ r, letTemporaryGo value (.str x t) r = pure () := by intro _; with_unfolding_all rfl) :
    wpAny (model prog w) A (subscriptTail value slice (.str x t) (.ref s.heap.objs.size)) Q E { s with heap := s.heap.push { cls := .type "slice", data := .fields #[.int i ui, .none, .none] } } := by
  refine slice_strN_sn hF hN (fun h' t' k F N => ?_) hs ht (by rw [hx, T_len]; exact size_ok hsz)
  rw [hx, T_slice_from h0 h1]; exact h h' t' k F N
theorem sliceT_to {i : Int} {ui : Tok} {Q : Value → Shared → Prop} (hx : x = T cs) (hF : Fr h₀ L s.heap m) (hN : News h₀ L s.heap news) (h0 : 0 ≤ i) (h1 : i ≤ cs.length) (hsz : cs.length ≤ 1000)
    (h : ∀ h' t' k, Fr h₀ L h' m → News h₀ L h' news → Q (.str (T (cs.take i.toNat)) t') { s with heap := h', toks := k })
    (hs : subscripted slice false (.str x t) (.ref s.heap.objs.size) = operate [.ref s.heap.objs.size, .str x t] (getItem (.str x t) (.ref s.heap.objs.size)) := by with_unfolding_all rfl)
    (ht : ∀ r, letTemporaryGo value (.str x t) r = pure () := by intro _; with_unfolding_all rfl) :
    wpAny (model prog w) A (subscriptTail value slice (.str x t) (.ref s.heap.objs.size)) Q E { s with heap := s.heap.push { cls := .type "slice", data := .fields #[.none, .int i ui, .none] } } := by
  refine slice_strN_ns hF hN (fun h' t' k F N => ?_) hs ht (by rw [hx, T_len]; exact size_ok hsz)
  rw [hx, T_slice_to h0 h1]; exact h h' t' k F N
theorem sliceT_from_neg {i : Int} {ui : Tok} {Q : Value → Shared → Prop} (hx : x = T cs) (hF : Fr h₀ L s.heap m) (hN : News h₀ L s.heap news) (h0 : i < 0) (h1 : -(cs.length : Int) ≤ i) (hsz : cs.length ≤ 1000)
    (h : ∀ h' t' k, Fr h₀ L h' m → News h₀ L h' news → Q (.str (T (cs.drop (cs.length - (-i).toNat))) t') { s with heap := h', toks := k })
    (hs : subscripted slice false (.str x t) (.ref s.heap.objs.size) = operate [.ref s.heap.objs.size, .str x t] (getItem (.str x t) (.ref s.heap.objs.size)) := by with_unfolding_all rfl)
    (ht : ∀ r, letTemporaryGo value (.str x t) r = pure () := by intro _; with_unfolding_all rfl) :
    wpAny (model prog w) A (subscriptTail value slice (.str x t) (.ref s.heap.objs.size)) Q E { s with heap := s.heap.push { cls := .type "slice", data := .fields #[.int i ui, .none, .none] } } := by
  refine slice_strN_sn hF hN (fun h' t' k F N => ?_) hs ht (by rw [hx, T_len]; exact size_ok hsz)
  rw [hx, T_slice_from_neg h0 h1]; exact h h' t' k F N
theorem sliceT_to_neg {i : Int} {ui : Tok} {Q : Value → Shared → Prop} (hx : x = T cs) (hF : Fr h₀ L s.heap m) (hN : News h₀ L s.heap news) (h0 : i < 0) (h1 : -(cs.length : Int) ≤ i) (hsz : cs.length ≤ 1000)
    (h : ∀ h' t' k, Fr h₀ L h' m → News h₀ L h' news → Q (.str (T (cs.take (cs.length - (-i).toNat))) t') { s with heap := h', toks := k })
    (hs : subscripted slice false (.str x t) (.ref s.heap.objs.size) = operate [.ref s.heap.objs.size, .str x t] (getItem (.str x t) (.ref s.heap.objs.size)) := by with_unfolding_all rfl)
    (ht : ∀ r, letTemporaryGo value (.str x t) r = pure () := by intro _; with_unfolding_all rfl) :
    wpAny (model prog w) A (subscriptTail value slice (.str x t) (.ref s.heap.objs.size)) Q E { s with heap := s.heap.push { cls := .type "slice", data := .fields #[.none, .int i ui, .none] } } := by
  refine slice_strN_ns hF hN (fun h' t' k F N => ?_) hs ht (by rw [hx, T_len]; exact size_ok hsz)
  rw [hx, T_slice_to_neg h0 h1]; exact h h' t' k F N
end
end

section
section
variable {prog : Program} {w : World} {A : Around} {E : Value → Shared → Prop} {s : Shared}
theorem lenL_N {l : Addr} {vs : List Value} {ns : List Int} {Q : Value → Shared → Prop} (hl : s.heap.IsList l vs.toArray) (hi : IntsAre vs ns) (hsz : ns.length ≤ 1000) (h : ∀ t tk, Q (.int (ns.length : Int) t) { s with toks := tk }) :
    wpAny (model prog w) A (call (.builtin "len") [.ref l]) Q E s := by
  have e := hi.length
  refine len_list hl (by simp only [List.size_toArray]; omega) ?_
  simp only [List.size_toArray]
  rw [e]
  exact h _ _
theorem ints_at {vs : List Value} {ns : List Int} {i : Nat} (h : IntsAre vs ns) (hl : i < ns.length) : ∃ t, vs[i]? = some (.int (ns.getD i 0) t) :=
  h.get i _ (by rw [List.getD_eq_getElem?_getD, List.getElem?_eq_getElem hl, Option.getD_some])
theorem itemI_N {value slice : Expr} {l : Addr} {vs : List Value} {ns : List Int} {k : Int} {u : Tok} {Q : Value → Shared → Prop} (hl : s.heap.IsList l vs.toArray) (hi : IntsAre vs ns) (h0 : 0 ≤ k) (h1 : k < ns.length) (hsz : ns.length ≤ 1000)
    (h : ∀ t, Q (.int (ns.getD k.toNat 0) t) s)
    (hs : subscripted slice false (.ref l) (.int k u) = operate [.ref l, .int k u] (getItem (.ref l) (.int k u)) := by with_unfolding_all rfl) (hg : ∀ r, letTemporaryGo value (.ref l) r = pure () := by intro _; with_unfolding_all rfl) :
    wpAny (model prog w) A (subscriptTail value slice (.ref l) (.int k u)) Q E s := by
  obtain ⟨t, ht⟩ := ints_at (i := k.toNat) hi (by omega)
  exact item_listL hl h0 (by omega) ht (h t) hs hg
end
section
variable {M : Model} {A : Around} {E : Value → Shared → Prop} {s : Shared} {env : Env}
theorem IfExp_ints {test : Expr} {i j : Int} {k k' p p' pos} {Q : Value → Shared → Prop}
    (h : wpAny M A (isTrue test env (eval test env)) (fun c s₂ => Q (.int (cond c i j) s₂.toks) { s₂ with toks := s₂.toks + 1 }) E s) :
    wpAny M A (eval (.IfExp test (.Constant (.int i) k p) (.Constant (.int j) k' p') pos) env) Q E s := by
  refine IfExp_ (wpAny_mono h (fun c s₂ h₂ => ?_) fun _ _ x => x)
  cases c
  · exact wpAny_Constant_int h₂
  · exact wpAny_Constant_int h₂
end
end

section
theorem xor_add : ∀ (n a b : Nat), a ≤ n → (a ^^^ b) + 2 * (a &&& b) = a + b
  | 0, a, b, h => by
    have : a = 0 := by omega
    subst this; simp
  | n + 1, a, b, h => by
    have ih := xor_add n (a / 2) (b / 2) (by omega)
    have h2 : (a ^^^ b) / 2 = a / 2 ^^^ b / 2 := Nat.xor_div_two
    have h3 : (a &&& b) / 2 = a / 2 &&& b / 2 := Nat.and_div_two
    have m2 : (a ^^^ b) % 2 = (a % 2 ^^^ b % 2) := by
      have := Nat.xor_mod_two_pow (a := a) (b := b) (n := 1); simpa using this
    have m3 : (a &&& b) % 2 = (a % 2 &&& b % 2) := by
      have := Nat.and_mod_two_pow (a := a) (b := b) (n := 1); simpa using this
    rcases Nat.mod_two_eq_zero_or_one a with ea | ea <;> rcases Nat.mod_two_eq_zero_or_one b with eb | eb <;> rw [ea, eb] at m2 m3 <;> simp only [Nat.reduceXor, Nat.reduceAnd] at m2 m3 <;> omega
theorem bitAnd_nat (a b : Nat) : Builtin.bitAnd (a : Int) (b : Int) = ((a &&& b : Nat) : Int) := by
  simp [Builtin.bitAnd]
theorem xor_nat (a b : Nat) : Builtin.bitXor (a : Int) (b : Int) = ((a ^^^ b : Nat) : Int) := by
  have h1 := PyProof.Rows.bitXor_and (a : Int) (b : Int)
  rw [bitAnd_nat] at h1
  have h2 := xor_add a a b (Nat.le_refl _)
  omega
theorem xor_lt {a b : Int} {n : Nat} (ha : 0 ≤ a) (ha1 : a < 2 ^ n) (hb : 0 ≤ b) (hb1 : b < 2 ^ n) : 0 ≤ Builtin.bitXor a b ∧ Builtin.bitXor a b < 2 ^ n := by
  obtain ⟨a, rfl⟩ := Int.eq_ofNat_of_zero_le ha
  obtain ⟨b, rfl⟩ := Int.eq_ofNat_of_zero_le hb
  rw [xor_nat]
  have := Nat.xor_lt_two_pow (x := a) (y := b) (n := n) (by exact_mod_cast ha1) (by exact_mod_cast hb1)
  exact ⟨by omega, by exact_mod_cast this⟩
end

section
section
variable {M : Model} {A : Around} {E : Value → Shared → Prop} {s : Shared}
theorem genCodeK {env : Env} {c P : Addr} {ps : Array Value} {pos : Pos} {qual : Str} {scope : Scope} {Q : Value → Shared → Prop} (hc : env.code = .ref c) (C : CodeHd s.heap c P) (hP : s.heap.get? P = some (tabObj ps)) (ht : TriplesOk ps.toList)
    (hQ : ∀ cv h' tk ps', Heap.ExtBut P s.heap h' → s.heap.objs.size ≤ h'.objs.size → h'.get? P = some (tabObj ps') → TriplesOk ps'.toList → Q cv { s with heap := h', toks := tk }) : wpAny M A (genexprCode env pos qual scope) Q E s := by
  cases hf : codeAmong pos ps.toList with
  | none =>
    refine wpAny_genexprCodeX hc (C.code hP ht) (C.tab hP) hf fun c' h' tk hx hge hlt hcode _ htab _ => ?_
    obtain ⟨o', vs', file', tf', flags', tg', inF', text', tt', op', ho', _, _, _, _, _, _, hop', hpd', htr', _⟩ := hcode
    exact hQ _ h' tk _ hx (Nat.le_trans hge (Nat.le_of_lt hlt)) htab.2 htr'
  | some cv =>
    obtain ⟨o, vs, file, tf, flags, tg, inF, text, tt, ho, _, hd, _, h11, h18, h7, h9, h10, hne⟩ := C
    unfold genexprCode codeAt
    rw [hc, if_neg (show ¬ ((Value.ref c == Value.none) = true) from Bool.false_ne_true)]
    refine wpAny_bind (wpAny_fieldsOf ho hd ?_)
    rw [h11]
    refine wpAny_bind (wpAny_fieldsOf hP rfl ?_)
    rw [hf]
    exact wpAny_pure (hQ cv s.heap s.toks ps (fun _ _ _ e => e) (Nat.le_refl _) hP ht)
end

def GenK (prog : Program) (w : World) (A : Around) (K a : Addr) (n : Nat) (b : Bool) (s : Shared) : Prop :=
  ∃ fp wr g St F, (∀ j r, F j r → r = Value.bool b) ∧ WalksS prog w A.in4 a fp wr (GenOnlyQ g) n F St ∧ St 0 s ∧ ∀ b ∈ wr, K ≤ b

section
variable {prog : Program} {w : World} {A : Around} {E : Value → Shared → Prop} {s : Shared} {h₀ : Heap} {L : Addr} {m mg : Str → Option Value} {env : Env}

theorem moved_fr {K : Addr} {s' : Shared} {wr : List Addr} {G : Array GenState → Array GenState → Prop} (F : Fr h₀ L s.heap m) (hm : Moved wr G s s') (hwr : ∀ b ∈ wr, K ≤ b) (hL : L < K) (h0 : h₀.objs.size ≤ K) : Fr h₀ L s'.heap m :=
  ⟨F.ns.at fun o e => hm.heap L o (fun h => absurd (hwr L h) (Nat.not_le.mpr hL)) e,
   fun b o e => hm.heap b o (fun h => absurd (hwr b h) (Nat.not_le.mpr (Nat.lt_of_lt_of_le (Heap.lt_size e) h0))) (F.keep b o e), F.above⟩
theorem moved_news {K : Addr} {s' : Shared} {news : List (Addr × Obj)} {wr : List Addr} {G : Array GenState → Array GenState → Prop} (N : News h₀ L s.heap news) (hm : Moved wr G s s') (hwr : ∀ b ∈ wr, K ≤ b) (hn : ∀ p ∈ news, p.1 < K) : News h₀ L s'.heap news :=
  fun p hp => ⟨hm.heap _ _ (fun h => absurd (hwr _ h) (Nat.not_le.mpr (hn p hp))) (N p hp).1, (N p hp).2⟩
theorem truth_const {F : Nat → Value → Prop} {b : Bool} (hF : ∀ j r, F j r → r = Value.bool b) : TruthOf prog w A F (fun _ => b) := fun j v s Q E hv hQ => by rw [hF j v hv]; exact wpAny_truthy_bool hQ

theorem any_false {K a : Addr} {n : Nat} {news : List (Addr × Obj)} {Q : Value → Shared → Prop} (F : Fr h₀ L s.heap m) (N : News h₀ L s.heap news) (G : AllBare s.gens) (X : GenK prog w A K a n false s) (hn : ∀ p ∈ news, p.1 < K) (hL : L < K) (h0 : h₀.objs.size ≤ K)
    (hQ : ∀ s', Fr h₀ L s'.heap m → News h₀ L s'.heap news → AllBare s'.gens → s'.os = s.os → Q (.bool false) s') : wpAny (model prog w) A (call (.builtin "any") [.ref a]) Q E s := by
  obtain ⟨fp, wr, g, St, F', hF, W, hst, hwr⟩ := X
  have W := W.in4_1
  refine call_any_walkS (W.self 0 _ _ _ hst ⟨a, _, _, _, _, _, _, _, rfl, W, hst, truth_const hF, fun s' hm => ?_⟩)
  have e : ((List.range n).any fun _ => false) = false := by simp
  rw [e]
  exact hQ s' (moved_fr F hm hwr hL h0) (moved_news N hm hwr hn) (G.movedS hm) hm.os
theorem all_true {K a : Addr} {n : Nat} {news : List (Addr × Obj)} {Q : Value → Shared → Prop} (F : Fr h₀ L s.heap m) (N : News h₀ L s.heap news) (G : AllBare s.gens) (X : GenK prog w A K a n true s) (hn : ∀ p ∈ news, p.1 < K) (hL : L < K) (h0 : h₀.objs.size ≤ K)
    (hQ : ∀ s', Fr h₀ L s'.heap m → News h₀ L s'.heap news → AllBare s'.gens → s'.os = s.os → Q (.bool true) s') : wpAny (model prog w) A (call (.builtin "all") [.ref a]) Q E s := by
  obtain ⟨fp, wr, g, St, F', hF, W, hst, hwr⟩ := X
  have W := W.in4_1
  refine call_all_walkS (W.self 0 _ _ _ hst ⟨a, _, _, _, _, _, _, _, rfl, W, hst, truth_const hF, fun s' hm => ?_⟩)
  have e : ((List.range n).all fun _ => true) = true := by simp
  rw [e]
  exact hQ s' (moved_fr F hm hwr hL h0) (moved_news N hm hwr hn) (G.movedS hm) hm.os

def GenS (prog : Program) (w : World) (A : Around) (h₀ : Heap) (L : Addr) (m mg : Str → Option Value) (c P : Addr) (env : Env) (elt : Expr) (x : Str) (scope : Scope) (cl : List (Str × Addr)) (Q : Value → Shared → Prop) (xv : Value) (s₁ : Shared) : Prop :=
  ∃ y t ps news g bm ob, ∃ b : Bool, xv = .str y t ∧ Fr h₀ L s₁.heap m ∧ News h₀ L s₁.heap news ∧ UpdF P (tabObj ps) news g ∧ AllBare s₁.gens ∧ TriplesOk ps.toList ∧ h₀.NoLimit ∧ CodeHd h₀ c P ∧ BMod h₀ mainGlobals mg bm ob ∧
    (∀ cv C (A' : Around) E' k t (u : Shared) m₂, A'.handled = none → A'.depth ≤ A.depth + 1 → A'.units ≤ A.units + 8 → k ∈ y.cps.toList → Fr h₀ C u.heap m₂ → m₂ x = some (.str ⟨#[k]⟩ t) →
      wpAny (model prog w) A' (eval elt (genEnv scope cl C cv builtinsNs env)) (fun r s₃ => r = .bool b ∧ Keeps u s₃) E' u) ∧
    (∀ a s₅ ps' K n, Fr h₀ L s₅.heap m → News h₀ L s₅.heap (g (tabObj ps')) → TriplesOk ps'.toList → AllBare s₅.gens → s₅.os = s₁.os → GenK prog w A K a n b s₅ → (∀ p ∈ g (tabObj ps'), p.1 < K) → L < K → h₀.objs.size ≤ K → Q (.ref a) s₅)

theorem passing_true (n : Nat) : passing (fun _ => true) n 0 = List.range n := by
  simp [passing]

theorem GeneratorExp_S {c P : Addr} {elt iter : Expr} {x : Str} {px : Pos} {scope : Scope} {cl : List (Str × Addr)} {pos : Pos} {Q : Value → Shared → Prop}
    (hh : A.handled = none) (hco : scope.isCoroutine = false) (hclos : closureFor scope env = pure cl) (hcell : ∀ y ∈ scope.names, y.2 ≠ .cell) (h0 : scope.names.lookup (".0" : Str) = some NameKind.local)
    (hx : scope.names.lookup x = some .local) (hkind : scope.kind = .function) (hroom : A.depth < recursionLimit) (hcode : env.code = .ref c) (hgl : env.globals = mainGlobals)
    (h : wpAny (model prog w) A (eval iter env) (GenS prog w A h₀ L m mg c P env elt x scope cl Q) E s)
    (hs : ∀ x, genFold iter env x = pure x) :
    wpAny (model prog w) A (eval (.GeneratorExp elt [⟨.Name x px, iter, [], 0⟩] scope pos) env) Q E s := by
  refine wpAny_GeneratorExp_walksQD hh hco hclos hcell h0 hx hkind hroom (wpAny_mono h (fun xv s₁ h₁ => ?_) fun _ _ e => e) hs
  obtain ⟨y, t, ps, news, g, bm, ob, b, rfl, F, N, U, G, ht, hlim, C, M, hel, hQ⟩ := h₁
  refine wpAny_pyIter_str fun o St W hst => ?_
  obtain ⟨pre, post, rfl, hg, hpre, hpost⟩ := U.split
  have hPn := N (P, tabObj ps) (List.mem_append_right _ (.head _))
  have hPlt : P < s₁.heap.objs.size := Heap.lt_size hPn.1
  have up : ∀ b' o', s₁.heap.get? b' = some o' → (s₁.heap.push o).get? b' = some o' := fun _ _ e => Heap.get?_push_of_some _ e
  have hL1 : L < s₁.heap.objs.size := F.ns.lt
  have h0P : ∀ b' o', h₀.get? b' = some o' → b' ≠ P := fun b' o' e q => by rw [q, hPn.2.2] at e; cases e
  have hlim1 : s₁.heap.NoLimit := hlim.keeps F.keep
  refine ⟨(hlim1.keeps up), genCodeK hcode (C.keeps fun b' o' e => up _ _ (F.keep b' o' e)) (up _ _ hPn.1) ht fun cv h₃ tk₃ ps' hx₃ hge hP₃ ht₃ => ?_⟩
  have hge' : s₁.heap.objs.size + 1 ≤ h₃.objs.size := by have := hge; simp only [Heap.size_push] at this; exact this
  have k3 : ∀ b' o', b' ≠ P → s₁.heap.get? b' = some o' → h₃.get? b' = some o' := fun b' o' hb e => hx₃ b' o' hb (up _ _ e)
  have k03 : ∀ b' o', h₀.get? b' = some o' → h₃.get? b' = some o' := fun b' o' e => k3 b' o' (h0P b' o' e) (F.keep b' o' e)
  have M₃ := M.keeps k03
  have hlP : L ≠ P := Ne.symm hPn.2.1
  rw [hgl]
  refine wpAny_builtinsFor M₃.ns M₃.name M₃.ne M₃.obj M₃.cls M₃.dict M₃.data ?_
  refine ⟨s₁.heap.objs.size, [s₁.heap.objs.size], [s₁.heap.objs.size], y.cps.size, SignAt y, St, (fun _ => true), (fun _ r => r = .bool b), rfl, W,
    (W A hh).frame _ _ _ hst fun b' hb o' e => hx₃ b' o' (by rw [List.mem_singleton.mp hb]; exact Nat.ne_of_gt hPlt) e, (fun b' hb => by rw [List.mem_singleton.mp hb]; exact hge'), hlim.keeps k03, ?_, (fun href hhref => ?_), fun a h₅ tk gs hgb hag hsz₅ hk₅ WW hat => ?_⟩
  · intro hm
    obtain ⟨_, hn, _⟩ := hlim1
    have := hn.lt
    rw [List.mem_singleton.mp hm] at this
    exact Nat.lt_irrefl _ this
  · have inB : ∀ (t' : Shared) m₂, t'.heap.Ns h₃.objs.size m₂ → (∀ b' ∈ List.range h₃.objs.size, b' ∉ [s₁.heap.objs.size] → ∀ o', href.get? b' = some o' → t'.heap.get? b' = some o') → Fr h₀ h₃.objs.size t'.heap m₂ := fun t' m₂ hn hkp =>
      ⟨hn, fun b' o' e => hkp b' (List.mem_range.mpr (Heap.lt_size (k03 b' o' e))) (fun hm => by
          have h1 := Heap.lt_size (F.keep b' o' e)
          rw [List.mem_singleton.mp hm] at h1
          exact Nat.lt_irrefl _ h1) o' (hhref b' o' (k03 b' o' e)), Nat.le_trans F.above (Nat.le_trans (Nat.le_of_lt hL1) (Nat.le_of_succ_le hge'))⟩
    refine ⟨fun A' E' i v t' m₂ hA hD hU hPi hn hm hkp => wpAny_pure ⟨rfl, _, _, rfl, fun _ _ e => e⟩, fun A' E' i v t' m₂ hA hD hU hPi hp hn hm hkp => ?_⟩
    obtain ⟨k, u, hk, rfl⟩ := hPi
    exact hel cv _ A' E' k u t' m₂ hA hD hU (by simpa using Array.mem_of_getElem? hk) (inB t' m₂ hn hkp) hm
  · rw [passing_true] at WW
    have k5 : ∀ b' o', b' ≠ P → s₁.heap.get? b' = some o' → h₅.get? b' = some o' := fun b' o' hb e => hk₅ b' o' (k3 b' o' hb e)
    refine hQ a _ ps' s₁.heap.objs.size (List.range y.cps.size).length ⟨F.ns.at fun o' e => k5 L o' hlP e, fun b' o' e => k5 b' o' (h0P b' o' e) (F.keep b' o' e), F.above⟩ ?_ ht₃ (G.push hgb) rfl ?_ ?_ hL1 (Nat.le_trans F.above (Nat.le_of_lt hL1))
    · rw [hg]
      intro p hp
      rcases List.mem_append.mp hp with hp | hp
      · have := N p (List.mem_append_left _ hp)
        exact ⟨k5 _ _ (hpre p hp) this.1, this.2⟩
      · rcases List.mem_cons.mp hp with rfl | hp
        · exact ⟨hk₅ _ _ hP₃, hPn.2⟩
        · have := N p (List.mem_append_right _ (.tail _ hp))
          exact ⟨k5 _ _ (hpost p hp) this.1, this.2⟩
    · refine ⟨_, _, _, _, _, ?_, WW, hat, fun b' hb => ?_⟩
      · intro j r hr
        obtain ⟨_, _, hr⟩ := hr
        exact hr
      · rcases List.mem_cons.mp hb with rfl | hb
        · exact Nat.le_of_succ_le hge'
        · rw [List.mem_singleton.mp hb]; exact Nat.le_refl _
    · rw [hg]
      intro p hp
      rcases List.mem_append.mp hp with hp | hp
      · exact Heap.lt_size (N p (List.mem_append_left _ hp)).1
      · rcases List.mem_cons.mp hp with rfl | hp
        · exact hPlt
        · exact Heap.lt_size (N p (List.mem_append_right _ (.tail _ hp))).1
end
end

section
def CanG (w : World) (mg mb : Str → Option Value) (f : Addr) (vs : List Value) (dd uu : Nat) (pre : Heap → Prop) (post : Heap → Heap → Value → Prop) : Prop :=
  ∀ (dp un : Nat) (gd : Option (List Code)) (env : Env) (outer : List Env) (A₀ : Around) (base h₀ : Heap) (L : Addr) (m : Str → Option Value) (news : List (Addr × Obj)) (ps : Array Value) (bm : Addr) (ob : Obj) (s : Shared) (Q E : Value → Shared → Prop),
    Below A₀ base outer h₀ → Fr h₀ L s.heap m → (hd.heap_39 w.params).In h₀ → News h₀ L s.heap news →
    TopRead hd.view_39 (looseW hd.view_39 [Str.ofString "convertbits"]) mg mb h₀ → BMod h₀ mainGlobals mg bm ob → CodeHd h₀ 47 45 → env.frame = some L → env.scope.kind = .function →
    pre s.heap → dp + dd < recursionLimit → un + uu < cLine → AllBare s.gens → (45, tabObj ps) ∈ news → TriplesOk ps.toList →
    (∀ v (s' : Shared) ps', (∀ b o, b ≠ 45 → s.heap.get? b = some o → s'.heap.get? b = some o) → s'.heap.get? 45 = some (tabObj ps') → TriplesOk ps'.toList → AllBare s'.gens → s'.os = s.os → post s.heap s'.heap v → Q v s') →
    wpAny (model PySem.Challenge.rw_sx0008_01.row.prog w) { handled := none, depth := dp, frames := some (env :: outer), guards := gd, units := un } (call (.ref f) vs) Q E s

def FinG (s₀ : Shared) (post : Heap → Heap → Value → Prop) (fl : Flow) (s' : Shared) : Prop :=
  ∃ v ps', fl = .ret v ∧ (∀ b o, b ≠ 45 → s₀.heap.get? b = some o → s'.heap.get? b = some o) ∧ s'.heap.get? 45 = some (tabObj ps') ∧ TriplesOk ps'.toList ∧ AllBare s'.gens ∧ s'.os = s₀.os ∧ post s₀.heap s'.heap v

/-- what stands at the def's start: all of the heap but the table -/
def But45 (h g : Heap) : Prop := ∀ b o, b ≠ 45 → h.get? b = some o → g.get? b = some o

theorem FinG.intro {s₀ s' : Shared} {post : Heap → Heap → Value → Prop} {v : Value} {g : Heap} {L : Addr} {m : Str → Option Value} {news : List (Addr × Obj)} {ps' : Array Value}
    (hg : But45 s₀.heap g) (F : Fr g L s'.heap m) (N : News g L s'.heap news) (hm : (45, tabObj ps') ∈ news) (ht : TriplesOk ps'.toList) (G : AllBare s'.gens) (hos : s'.os = s₀.os) (p : post s₀.heap s'.heap v) : FinG s₀ post (.ret v) s' :=
  ⟨v, ps', rfl, fun b o hb e => F.keep b o (hg b o hb e), (N _ hm).1, ht, G, hos, p⟩
/-- an object of the ledger that is not the table was not there before -/
theorem new_before {h g h' : Heap} {L : Addr} {news : List (Addr × Obj)} {ps' : Array Value} {a : Addr} {o : Obj} (hg : But45 h g) (N : News g L h' news) (hm : (45, tabObj ps') ∈ news) (ha : (a, o) ∈ news) (ho : o.cls ≠ .none) : h.get? a = none := by
  have h1 : a ≠ 45 := fun e => by
    have h2 := (N _ hm).1
    have h3 := (N _ ha).1
    dsimp only at h2 h3
    rw [e, h2] at h3
    exact ho (by rw [← Option.some.inj h3])
  cases e : h.get? a with
  | none => rfl
  | some o' => have h2 := hg a o' h1 e; have h3 := (N _ ha).2.2; dsimp only at h3; rw [h2] at h3; cases h3

theorem can_introG {w : World} {mg mb : Str → Option Value} {f : Addr} {vs : List Value} {dd uu : Nat} {pre : Heap → Prop} {post : Heap → Heap → Value → Prop}
    {name qual : Str} {params : Arguments} {body : List Stmt} {scope : Scope} {dV kV doc pm cdv ct oc : Value} {an od : Option Addr} {osl : Array (Option Value)} {binds : List (Str × Value)}
    (ho : (hd.heap_39 w.params).lookup f = some ⟨oc, od, .func (fnOf name qual params body scope dV kV doc pm an cdv ct), osl⟩) (hcd : codeIn (hd.heap_39 w.params) cdv qual = true)
    (hdd : 0 < dd)
    (hbind : ∀ s : Shared, (hd.heap_39 w.params).In s.heap → BindsTo s (fnOf name qual params body scope dV kV doc pm an cdv ct) ⟨vs, []⟩ binds) (hloc : ∀ y ∈ binds, scope.names.lookup y.1 = some .local)
    (h : ∀ (dp un : Nat) (gd : Option (List Code)) (env : Env) (outer : List Env) (base g : Heap) (L' : Addr) (ps : Array Value) (bm : Addr) (ob : Obj) (s : Shared) (h₁ : Heap) (tk : Nat),
      Below { handled := none, depth := dp, frames := some (env :: outer), guards := gd, units := un } base (env :: outer) g → Fr g L' h₁ (fun y => binds.reverse.lookup y) → News g L' h₁ [(45, tabObj ps)] →
      (hd.heap_39 w.params).In g → TopRead hd.view_39 (looseW hd.view_39 [Str.ofString "convertbits"]) mg mb g → BMod g mainGlobals mg bm ob → CodeHd g 47 45 → But45 s.heap g → pre s.heap → dp + dd < recursionLimit → un + uu < cLine → AllBare s.gens → TriplesOk ps.toList → s.heap.get? 45 = some (tabObj ps) →
      wpAny (model PySem.Challenge.rw_sx0008_01.row.prog w) { handled := none, depth := dp + 1, frames := some (envOf qual scope L' f cdv :: env :: outer), guards := gd, units := un + 3 } (execs body (envOf qual scope L' f cdv))
        (fun fl s' => FinG s post fl s') (fun _ _ => False) { s with heap := h₁, toks := tk })
    (hco : scope.isCoroutine = false := by rfl) (hgen : scope.isGenerator = false := by rfl) (hk : scope.kind = .function := by rfl) (hcell : ∀ x ∈ scope.names, x.2 ≠ .cell := by decide) :
    CanG w mg mb f vs dd uu pre post := by
  intro dp un gd env outer A₀ base h₀ L m news ps bm ob s Q E B F X N T M C hf hke hp hdp hun G hm ht ret
  refine wpAny_call ?_
  have Xs := X.keeps F.keep
  have N1 : News h₀ L s.heap [(45, tabObj ps)] := fun p hp => N p (by rw [List.mem_singleton.mp hp]; exact hm)
  obtain ⟨FG, BG, st, _⟩ := groundX (R := fun _ _ => True) (A := { handled := none, depth := dp, frames := some (env :: outer), guards := gd, units := un }) B F N1 rfl hf hke
  have hbut : But45 s.heap (hideAll s.heap ([(45, tabObj ps)].map (·.1))) := fun b o hb e => hideAll_get _ e fun hm => hb (List.mem_singleton.mp hm)
  refine codeAny_call_def (fd := fnOf name qual params body scope dV kV doc pm an cdv ct) (body := body) (binds := binds) (by show dp < recursionLimit; omega) (Xs _ _ ho) rfl (T.nolimit.keeps F.keep) (codeRec_of Xs hcd) rfl (hbind s Xs) hcell hloc (fun h₁ hns hk₁ => ?_) hco hgen hk
  refine wpAny_mono (h dp un gd env outer base _ s.heap.objs.size ps bm ob s h₁ _ BG ⟨hns, fun b o e => hk₁ b o (of_hideAll _ e), Nat.le_of_eq (hideAll_size _ _)⟩
    (fun p hp => ⟨hk₁ _ _ (N1 p hp).1, Nat.ne_of_lt (Heap.lt_size (N1 p hp).1), hideAll_none _ (List.mem_map_of_mem hp)⟩) (X.keeps st) (T.keeps st) (M.keeps st) (C.keeps st) hbut hp hdp hun G ht (N1 _ (.head _)).1) (fun fl s' x => ?_) (fun _ _ x => x.elim)
  obtain ⟨v, ps', rfl, k, hP', ht', G', hos, pp⟩ := x
  exact ret v s' ps' k hP' ht' G' hos pp

section
variable {w : World} {mg mb : Str → Option Value} {f : Addr} {vs : List Value} {dd uu : Nat} {pre : Heap → Prop}
  {dp un : Nat} {gd : Option (List Code)} {env : Env} {outer : List Env} {A₀ : Around} {base h₀ : Heap} {L : Addr} {m : Str → Option Value} {news : List (Addr × Obj)} {ps : Array Value} {bm : Addr} {ob : Obj} {s : Shared} {Q E : Value → Shared → Prop} {gg : Obj → List (Addr × Obj)}
theorem useG {post : Heap → Heap → Value → Prop} (C : CanG w mg mb f vs dd uu pre post)
    (B : Below A₀ base outer h₀) (F : Fr h₀ L s.heap m) (X : (hd.heap_39 w.params).In h₀) (N : News h₀ L s.heap news)
    (T : TopRead hd.view_39 (looseW hd.view_39 [Str.ofString "convertbits"]) mg mb h₀) (M : BMod h₀ mainGlobals mg bm ob) (Ch : CodeHd h₀ 47 45) (hf : env.frame = some L) (hk : env.scope.kind = .function) (hp : pre s.heap) (hd : dp + dd < recursionLimit) (hu : un + uu < cLine)
    (G : AllBare s.gens) (U : UpdF 45 (tabObj ps) news gg) (ht : TriplesOk ps.toList)
    (ret : ∀ v (s' : Shared) ps', Fr h₀ L s'.heap m → News h₀ L s'.heap (gg (tabObj ps')) → TriplesOk ps'.toList → AllBare s'.gens → s'.os = s.os → (∀ b o, b ≠ 45 → s.heap.get? b = some o → s'.heap.get? b = some o) → (∀ p ∈ gg (tabObj ps'), p.1 = 45 ∨ s.heap.get? p.1 = some p.2) → post s.heap s'.heap v → Q v s') :
    wpAny (model PySem.Challenge.rw_sx0008_01.row.prog w) { handled := none, depth := dp, frames := some (env :: outer), guards := gd, units := un } (call (.ref f) vs) Q E s := by
  obtain ⟨pre', post', rfl, hg, hpre, hpost⟩ := U.split
  have hPn := N (45, tabObj ps) (List.mem_append_right _ (.head _))
  refine C dp un gd env outer A₀ base h₀ L m _ ps bm ob s Q E B F X N T M Ch hf hk hp hd hu G (List.mem_append_right _ (.head _)) ht fun v s' ps' k hP' ht' G' hos pp => ?_
  refine ret v s' ps' ⟨F.ns.at fun o e => k L o (Ne.symm hPn.2.1) e, fun b o e => k b o (fun q => by have := hPn.2.2; dsimp only at this; rw [← q, e] at this; cases this) (F.keep b o e), F.above⟩ ?_ ht' G' hos k ?_ pp
  · rw [hg]
    intro p hp
    rcases List.mem_append.mp hp with hp | hp
    · have := N p (List.mem_append_left _ hp)
      exact ⟨k _ _ (hpre p hp) this.1, this.2⟩
    · rcases List.mem_cons.mp hp with rfl | hp
      · exact ⟨hP', hPn.2⟩
      · have := N p (List.mem_append_right _ (.tail _ hp))
        exact ⟨k _ _ (hpost p hp) this.1, this.2⟩
  · rw [hg]
    intro p hp
    rcases List.mem_append.mp hp with hp | hp
    · exact .inr (N p (List.mem_append_left _ hp)).1
    · rcases List.mem_cons.mp hp with rfl | hp
      · exact .inl rfl
      · exact .inr (N p (List.mem_append_right _ (.tail _ hp))).1
/-- an object that the call has made joins the ledger -/
theorem news_join {h₀ h h' : Heap} {L a : Addr} {m : Str → Option Value} {o : Obj} {ls : List (Addr × Obj)} (F : Fr h₀ L h m) (N : News h₀ L h' ls) (hn : h.get? a = none) (ha : h'.get? a = some o) : News h₀ L h' ((a, o) :: ls) := by
  intro p hp
  rcases List.mem_cons.mp hp with rfl | hp
  · refine ⟨ha, fun e => ?_, ?_⟩
    · obtain ⟨oL, _, _, hL, _⟩ := F.ns
      dsimp only at e
      rw [e, hL] at hn; cases hn
    · cases q : h₀.get? a with
      | none => rfl
      | some o => rw [F.keep _ _ q] at hn; cases hn
  · exact N p hp
theorem off_join {h h' : Heap} {a : Addr} {o : Obj} {ps : Array Value} {ls : List (Addr × Obj)} (hn : h.get? a = none) (ha : h'.get? a = some o) (ho : o.cls ≠ .none) (hP : h'.get? 45 = some (tabObj ps)) (hk : ∀ p ∈ ls, p.1 = 45 ∨ h.get? p.1 = some p.2) : LCg.Off1 a ls := by
  have h45 : a ≠ 45 := fun e => by rw [e, hP] at ha; exact ho (by rw [← Option.some.inj ha])
  induction ls with
  | nil => trivial
  | cons p r ih =>
    refine ⟨fun e => ?_, ih fun q hm => hk q (.tail _ hm)⟩
    rcases hk p (.head _) with q | q
    · exact h45 (e ▸ q)
    · rw [e, hn] at q; cases q
end
theorem GenS.intro {prog : Program} {w : World} {A : Around} {h₀ : Heap} {L : Addr} {m mg : Str → Option Value} {c P : Addr} {env : Env} {elt : Expr} {x : Str} {scope : Scope} {cl : List (Str × Addr)} {Q : Value → Shared → Prop} {s₁ : Shared}
    {y : Str} {t : Tok} {cs : List Nat} {ps : Array Value} {news : List (Addr × Obj)} {g : Obj → List (Addr × Obj)} {bm : Addr} {ob : Obj} (b : Bool) (hy : y = T cs) (F : Fr h₀ L s₁.heap m) (N : News h₀ L s₁.heap news) (U : UpdF P (tabObj ps) news g) (G : AllBare s₁.gens) (ht : TriplesOk ps.toList) (hlim : h₀.NoLimit) (C : CodeHd h₀ c P) (M : BMod h₀ mainGlobals mg bm ob)
    (hel : ∀ cv C (A' : Around) E' k t (u : Shared) m₂, A'.handled = none → A'.depth ≤ A.depth + 1 → A'.units ≤ A.units + 8 → k ∈ cs → Fr h₀ C u.heap m₂ → m₂ x = some (.str (T [k]) t) →
      wpAny (model prog w) A' (eval elt (genEnv scope cl C cv builtinsNs env)) (fun r s₃ => r = .bool b ∧ Keeps u s₃) E' u)
    (hQ : ∀ a s₅ ps' K n, Fr h₀ L s₅.heap m → News h₀ L s₅.heap (g (tabObj ps')) → TriplesOk ps'.toList → AllBare s₅.gens → s₅.os = s₁.os → GenK prog w A K a n b s₅ → (∀ p ∈ g (tabObj ps'), p.1 < K) → L < K → h₀.objs.size ≤ K → Q (.ref a) s₅) :
    GenS prog w A h₀ L m mg c P env elt x scope cl Q (.str y t) s₁ :=
  ⟨y, t, ps, news, g, bm, ob, b, rfl, F, N, U, G, ht, hlim, C, M, fun cv C A' E' k t u m₂ h1 h2 h3 hk Fr hm => hel cv C A' E' k t u m₂ h1 h2 h3 (by rw [hy, T_cps] at hk; exact hk) Fr hm, hQ⟩
theorem GenExp_S {prog : Program} {w : World} {A : Around} {E : Value → Shared → Prop} {s : Shared} {h₀ : Heap} {L : Addr} {m mg : Str → Option Value} {env : Env} {c P : Addr} {elt iter : Expr} {x : Str} {px : Pos} {scope : Scope} {cl : List (Str × Addr)} {pos : Pos} {Q : Value → Shared → Prop} {bm : Addr} {ob : Obj}
    (_ : Fr h₀ L s.heap m) (_ : BMod h₀ mainGlobals mg bm ob) (_ : CodeHd h₀ c P)
    (hh : A.handled = none) (hco : scope.isCoroutine = false) (hclos : closureFor scope env = pure cl) (hcell : ∀ y ∈ scope.names, y.2 ≠ .cell) (h0 : scope.names.lookup (".0" : Str) = some NameKind.local)
    (hx : scope.names.lookup x = some .local) (hkind : scope.kind = .function) (hroom : A.depth < recursionLimit) (hcode : env.code = .ref c) (hgl : env.globals = mainGlobals)
    (h : wpAny (model prog w) A (eval iter env) (GenS prog w A h₀ L m mg c P env elt x scope cl Q) E s)
    (hs : ∀ x, genFold iter env x = pure x) :
    wpAny (model prog w) A (eval (.GeneratorExp elt [⟨.Name x px, iter, [], 0⟩] scope pos) env) Q E s :=
  GeneratorExp_S hh hco hclos hcell h0 hx hkind hroom hcode hgl h hs
def noPair (g h' : Heap) (v : Value) : Prop := ∃ D, v = .ref D ∧ g.get? D = none ∧ h'.get? D = some { cls := .type "tuple", data := .seq #[.none, .none] }
def pairPost (fst : Value → Prop) (ns : List Int) (g h' : Heap) (v : Value) : Prop :=
  ∃ D l n us x, v = .ref D ∧ fst x ∧ D ≠ l ∧ g.get? D = none ∧ h'.get? D = some { cls := .type "tuple", data := .seq #[x, .ref l] } ∧ g.get? l = none ∧ h'.get? l = some (listOf (List.toArray us) n) ∧ IntsAre us ns
theorem FinG.nothing {s₀ s' : Shared} {g : Heap} {L : Addr} {m : Str → Option Value} {news : List (Addr × Obj)} {ps' : Array Value} {D : Addr}
    (hg : But45 s₀.heap g) (F : Fr g L s'.heap m) (N : News g L s'.heap news) (hm : (45, tabObj ps') ∈ news) (ht : TriplesOk ps'.toList) (G : AllBare s'.gens) (hos : s'.os = s₀.os)
    (hD : (D, (⟨.type "tuple", .none, .seq #[.none, .none], #[]⟩ : Obj)) ∈ news) : FinG s₀ noPair (.ret (.ref D)) s' :=
  FinG.intro hg F N hm ht G hos ⟨D, rfl, new_before hg N hm hD (fun h => by cases h), (N _ hD).1⟩
theorem FinG.pair {s₀ s' : Shared} {g : Heap} {L : Addr} {m : Str → Option Value} {news : List (Addr × Obj)} {ps' : Array Value} {D l : Addr} {n : Nat} {us : List Value} {ns : List Int} {x : Value} {fst : Value → Prop}
    (hg : But45 s₀.heap g) (F : Fr g L s'.heap m) (N : News g L s'.heap news) (hm : (45, tabObj ps') ∈ news) (ht : TriplesOk ps'.toList) (G : AllBare s'.gens) (hos : s'.os = s₀.os)
    (hD : (D, (⟨.type "tuple", .none, .seq #[x, .ref l], #[]⟩ : Obj)) ∈ news) (hl : (l, listOf us.toArray n) ∈ news) (hi : IntsAre us ns) (hx : fst x) : FinG s₀ (pairPost fst ns) (.ret (.ref D)) s' :=
  FinG.intro hg F N hm ht G hos ⟨D, l, n, us, x, rfl, hx, (fun e => by
    have h1 := (N _ hD).1
    have h2 := (N _ hl).1
    dsimp only at h1 h2
    rw [← e, h1] at h2
    have := congrArg Obj.cls (Option.some.inj h2)
    simp [W.listOf] at this), new_before hg N hm hD (fun h => by cases h), (N _ hD).1, new_before hg N hm hl (fun h => by cases h), (N _ hl).1, hi⟩
section
variable {w : World} {mg mb : Str → Option Value} {f : Addr} {vs : List Value} {dd uu : Nat} {pre : Heap → Prop}
  {dp un : Nat} {gd : Option (List Code)} {env : Env} {outer : List Env} {A₀ : Around} {base h₀ : Heap} {L : Addr} {m : Str → Option Value} {news : List (Addr × Obj)} {ps : Array Value} {bm : Addr} {ob : Obj} {s : Shared} {Q E : Value → Shared → Prop} {gg : Obj → List (Addr × Obj)}
theorem useP {c : Prop} [Decidable c] {fst : Value → Prop} {ns : List Int} (C : CanG w mg mb f vs dd uu pre (fun g h' v => if c then pairPost fst ns g h' v else noPair g h' v))
    (B : Below A₀ base outer h₀) (F : Fr h₀ L s.heap m) (X : (hd.heap_39 w.params).In h₀) (N : News h₀ L s.heap news)
    (T : TopRead hd.view_39 (looseW hd.view_39 [Str.ofString "convertbits"]) mg mb h₀) (M : BMod h₀ mainGlobals mg bm ob) (Ch : CodeHd h₀ 47 45) (hf : env.frame = some L) (hk : env.scope.kind = .function) (hp : pre s.heap) (hd : dp + dd < recursionLimit) (hu : un + uu < cLine)
    (G : AllBare s.gens) (U : UpdF 45 (tabObj ps) news gg) (ht : TriplesOk ps.toList)
    (ret₁ : c → ∀ D l n us x (s' : Shared) ps', fst x → IntsAre us ns → Fr h₀ L s'.heap m → News h₀ L s'.heap ((D, { cls := .type "tuple", data := .seq #[x, .ref l] }) :: (l, listOf (List.toArray us) n) :: gg (tabObj ps')) →
      LCg.Off1 D ((l, listOf (List.toArray us) n) :: gg (tabObj ps')) → LCg.Off1 l (gg (tabObj ps')) → TriplesOk ps'.toList → AllBare s'.gens → s'.os = s.os → Q (.ref D) s')
    (ret₂ : ¬ c → ∀ D (s' : Shared) ps', Fr h₀ L s'.heap m → News h₀ L s'.heap ((D, { cls := .type "tuple", data := .seq #[.none, .none] }) :: gg (tabObj ps')) →
      LCg.Off1 D (gg (tabObj ps')) → TriplesOk ps'.toList → AllBare s'.gens → s'.os = s.os → Q (.ref D) s') :
    wpAny (model PySem.Challenge.rw_sx0008_01.row.prog w) { handled := none, depth := dp, frames := some (env :: outer), guards := gd, units := un } (call (.ref f) vs) Q E s := by
  have tabat : ∀ {s' : Shared} {ps'}, News h₀ L s'.heap (gg (tabObj ps')) → s'.heap.get? 45 = some (tabObj ps') := fun N' => by
    obtain ⟨pre', post', _, hg, _, _⟩ := U.split
    exact (N' (45, tabObj _) (by rw [hg]; exact List.mem_append_right _ (.head _))).1
  refine useG C B F X N T M Ch hf hk hp hd hu G U ht fun v s' ps' F' N' ht' G' hos keep old pp => ?_
  by_cases hc : c
  · rw [if_pos hc] at pp
    obtain ⟨D, l, n, us, x, rfl, hx, hne, hD, hD', hl, hl', hi⟩ := pp
    have o1 := off_join hl hl' (fun h => by cases h) (tabat N') old
    have o2 := off_join hD hD' (fun h => by cases h) (tabat N') old
    exact ret₁ hc D l n us x s' ps' hx hi F' (news_join F (news_join F N' hl hl') hD hD') ⟨Ne.symm hne, o2⟩ o1 ht' G' hos
  · rw [if_neg hc] at pp
    obtain ⟨D, rfl, hD, hD'⟩ := pp
    exact ret₂ hc D s' ps' F' (news_join F N' hD hD') (off_join hD hD' (fun h => by cases h) (tabat N') old) ht' G' hos
end
theorem FinG.yes {c : Prop} [Decidable c] {s₀ s' : Shared} {P Q : Heap → Heap → Value → Prop} {fl : Flow} (hc : c) (h : FinG s₀ P fl s') : FinG s₀ (fun g h' v => if c then P g h' v else Q g h' v) fl s' := by
  obtain ⟨v, ps', h1, h2, h3, h4, h5, h6, h7⟩ := h
  exact ⟨v, ps', h1, h2, h3, h4, h5, h6, by dsimp only; rw [if_pos hc]; exact h7⟩
theorem FinG.no {c : Prop} [Decidable c] {s₀ s' : Shared} {P Q : Heap → Heap → Value → Prop} {fl : Flow} (hc : ¬ c) (h : FinG s₀ Q fl s') : FinG s₀ (fun g h' v => if c then P g h' v else Q g h' v) fl s' := by
  obtain ⟨v, ps', h1, h2, h3, h4, h5, h6, h7⟩ := h
  exact ⟨v, ps', h1, h2, h3, h4, h5, h6, by dsimp only; rw [if_neg hc]; exact h7⟩
theorem list_g {h g : Heap} {l : Addr} {its : Array Value} {ps : Array Value} (hg : But45 h g) (hl : h.IsList l its) (hP : h.get? 45 = some (tabObj ps)) : g.IsList l its := by
  obtain ⟨o, ho, hc, n, hd⟩ := hl
  refine ⟨o, hg l o (fun e => ?_) ho, hc, n, hd⟩
  rw [e, hP] at ho
  rw [← Option.some.inj ho] at hc
  cases hc
end

section
theorem ghost_read {tabs : List (Addr × Addr)} {h₁ : Heap} {p : Program} {loose : List Str} {mg mb : Str → Option Value} (hT : TabsAt tabs h₁) (T : TopRead p loose mg mb h₁) : TopRead p loose mg mb (ghostOf h₁ tabs) :=
  ⟨ghost_ns hT T.g, ghost_ns hT T.b, let ⟨mc, a, r⟩ := T.nolimit; ⟨mc, ghost_ns hT a, r⟩, T.builtins, T.free⟩
theorem ghost_bmod {tabs : List (Addr × Addr)} {h₁ : Heap} {mg : Str → Option Value} {bm : Addr} {ob : Obj} (hT : TabsAt tabs h₁) (M : BMod h₁ mainGlobals mg bm ob) : BMod (ghostOf h₁ tabs) mainGlobals mg bm ob :=
  ⟨ghost_ns hT M.ns, M.name, M.ne, ghost_get hT M.obj (fun q => by have := M.cls; rw [q] at this; cases this), M.cls, M.dict, M.data⟩
theorem law_tabs {mean : ExcName → Option Value} {loose : List Str} {mg mb : Str → Option Value} {h : Heap} {K : Frag} {p : Program} {x : Str} {d : DefRec} {c P : Addr} (T : Top p loose mean mg mb h) (X : K.In h) (hr : (recsOf p).find? (fun e => e.name == x) = some d) (ht : tabIn K x = some (c, P)) : TabsAt [(c, P)] h := fun q hq => by
  rw [List.mem_singleton.mp hq]
  exact tab_of T X hr ht
theorem law_fin {cw : ClaimW} {cl : Str → Option Addr} {mean : ExcName → Option Value} {args : List WData} {s₁ s' : Shared} {L : Addr} {m : Str → Option Value} {news : List (Addr × Obj)} {ps' : Array Value}
    (hT : TabsAt [(47, 45)] s₁.heap) (F : Fr (ghostOf s₁.heap [(47, 45)]) L s'.heap m) (N : News (ghostOf s₁.heap [(47, 45)]) L s'.heap news) (hm : (45, tabObj ps') ∈ news) (G : AllBare s'.gens) (hos : s'.os = s₁.os)
    (hr : ∀ a x, cw.raises a x = false) (hp : cw.post args (.bool true) args = true) : GoodWG cw cl mean args s₁ (.ok (.ret (.bool true))) s' := by
  have hP := (N _ hm).1
  refine ⟨.inl ⟨_, _, _, rfl, fun x => hr args x, .bool _, hp, fun _ => ⟨List.nodup_nil, fun a ha => by cases ha⟩⟩, ⟨fun b o e => ?_, fun b o e => ?_⟩, hos, G⟩
  · by_cases hb : b = 45
    · subst hb
      have h2 := (hT (47, 45) (.head _)).2
      have h3 := (hT (47, 45) (.head _)).1
      rw [e] at h2
      cases h2
      exact .inr (.inl ⟨(h3.tab e).isCodeTable, rfl, #[], ps', rfl, by rw [Array.empty_append]; exact hP⟩)
    · exact .inl (F.keep b o (ghost_ne e (fun h => hb (List.mem_singleton.mp h))))
  · by_cases hb : b = 45
    · subst hb
      exact ⟨_, hP⟩
    · exact ⟨o, F.keep b o (ghost_ne e (fun h => hb (List.mem_singleton.mp h)))⟩
end

section
def TurnEnd (h₀ : Heap) (L I : Addr) (oI : Obj) (Jn : (Str → Option Value) → List (Addr × Obj) → Prop) (s₁ : Shared) (f : Flow) (s₂ : Shared) : Prop :=
  f = .next ∧ ∃ h' tk m' news', s₂ = { s₁ with heap := h', toks := tk } ∧ Fr h₀ L h' m' ∧ News h₀ L h' ((I, oI) :: news') ∧ (∀ p ∈ news', p.1 ≠ I) ∧ Jn m' news'
theorem take_step (ns : List Int) (i : Nat) (h : i < ns.length) : ns.take (i + 1) = ns.take i ++ [ns[i]] := by
  rw [List.take_add_one, List.getElem?_eq_getElem h]; rfl
theorem take_cut (ns : List Int) (i : Nat) (h : i < ns.length) : ns = ns.take i ++ ns[i] :: ns.drop (i + 1) := by
  have ht := List.take_append_drop (i + 1) ns
  rw [take_step ns i h, List.append_assoc] at ht
  exact ht.symm
theorem ints_is {vs : List Value} {ns : List Int} {i : Nat} {v : Value} (hi : IntsAre vs ns) (h : i < ns.length) (hP : vs.toArray[i]? = some v) : ∃ t, v = .int ns[i] t := by
  obtain ⟨t, hx⟩ := hi.get i ns[i] (by simp [h])
  have hP' : vs[i]? = some v := by simpa using hP
  rw [hx] at hP'; exact ⟨t, (Option.some.inj hP').symm⟩
section
variable {prog : Program} {w : World} {A : Around} {E : Value → Shared → Prop} {s : Shared} {env : Env} {h₀ : Heap} {x : Str} {body : List Stmt} {Q : Flow → Shared → Prop}
/-- any loop over ints: the iterator I is the one object that a step changes, src is what the walk reads besides; J tells what the turns before have left -/
theorem loop_walk {I : Addr} {src : List (Addr × Obj)} {P : Nat → Value → Prop} {St : Nat → Heap → Prop} {ks : List Int} {m₀ : Str → Option Value} {news : List (Addr × Obj)} (J : List Int → (Str → Option Value) → List (Addr × Obj) → Prop)
    (walk : Walks prog w A I (I :: src.map (·.1)) [I] ks.length P St) (int : ∀ i v (hi : i < ks.length), P i v → ∃ t, v = .int ks[i] t) (seen : ∀ i h, St i h → ∃ o, h.get? I = some o)
    (apart : I ≠ env.locals ∧ h₀.get? I = none ∧ ∀ p ∈ news, p.1 ≠ I) (start : St 0 s.heap) (F : Fr h₀ env.locals s.heap m₀) (N : News h₀ env.locals s.heap news) (first : J [] m₀ news)
    (keeps : ∀ pre m nx, J pre m nx → ∀ p ∈ src, p ∈ nx)
    (turn : ∀ pre k post t m₁ nx oI h tk, ks = pre ++ k :: post → J pre m₁ nx → (∀ p ∈ nx, p.1 ≠ I) → Fr h₀ env.locals h (fun y => if y = x then some (.int k t) else m₁ y) → News h₀ env.locals h ((I, oI) :: nx) →
      wpAny (model prog w) A (execs body env) (TurnEnd h₀ env.locals I oI (J (pre ++ [k])) { s with heap := h, toks := tk }) E { s with heap := h, toks := tk })
    (done : ∀ m₁ nx h tk, J ks m₁ nx → Fr h₀ env.locals h m₁ → News h₀ env.locals h nx → Q .next { s with heap := h, toks := tk }) :
    LoopAtV prog w A h₀ env x body Q E (.ref I) s := by
  obtain ⟨offL, fresh, offN⟩ := apart
  have frame : env.locals ∉ I :: src.map (·.1) := by
    intro h
    rcases List.mem_cons.mp h with h | h
    · exact offL h.symm
    · obtain ⟨p, hp, e⟩ := List.mem_map.mp h
      exact (N p (keeps _ _ _ first p hp)).2.1 e
  refine ⟨I, _, _, ks.length, P, St, m₀, news, fun i => J (ks.take i), rfl, walk, frame, List.forall_mem_singleton.mpr fresh, fun p hp h => offN p hp (List.mem_singleton.mp h), start, F, N, by show J (ks.take 0) m₀ news; rw [List.take_zero]; exact first, ?_,
    fun h tk m nx F' N' _ j => done m nx h tk (by have j : J (ks.take ks.length) m nx := j; rwa [List.take_length] at j) F' N'⟩
  rintro i v m nx _ own ⟨h, tk, rfl⟩ hi isInt j off read stands _ at1 F₁ N₁
  obtain ⟨t, rfl⟩ := int i v hi isInt
  obtain ⟨oI, eI⟩ := seen _ _ at1
  have old : News h₀ env.locals h nx := N₁.right
  have mine : ∀ p ∈ own, p = (I, oI) ∨ p ∈ src := by
    rintro ⟨a, o⟩ hp
    have e : h.get? a = some o := stands _ hp
    rcases List.mem_cons.mp (read _ hp) with ha | ha
    · obtain rfl : a = I := ha
      exact .inl (by rw [Option.some.inj (e.symm.trans eI)])
    · obtain ⟨⟨b, ob⟩, hq, hb⟩ := List.mem_map.mp ha
      obtain rfl : b = a := hb
      have eb : h.get? b = some ob := (old _ (keeps _ _ _ j _ hq)).1
      exact .inr (by rw [Option.some.inj (e.symm.trans eb)]; exact hq)
  refine wpAny_mono (turn _ _ _ t m nx oI h tk (take_cut ks i hi) j (fun p hp e => off p hp (List.mem_singleton.mpr e)) F₁ (List.forall_mem_cons.mpr ⟨⟨eI, offL, fresh⟩, old⟩)) (fun f s₂ e => ?_) fun _ _ e => e
  obtain ⟨rfl, h', tk', m', nx', rfl, F', N', off', j'⟩ := e
  have all : ∀ p ∈ own ++ nx', p ∈ (I, oI) :: nx' := fun p hp => by
    rcases List.mem_append.mp hp with hp | hp
    · exact (mine p hp).elim (fun e => e ▸ .head _) fun q => .tail _ (keeps _ _ _ j' p q)
    · exact .tail _ hp
  exact .next ⟨rfl, h', tk', m', nx', rfl, F', fun p hp => N' p (all p hp), fun p hp e => off' p hp (List.mem_singleton.mp e), by show J (ks.take (i + 1)) m' nx'; rw [take_step ks i hi]; exact j'⟩
theorem loop_list {l : Addr} {vs : List Value} {ns : List Int} {nn : Nat} {m₀ : Str → Option Value} {news : List (Addr × Obj)} (J : List Int → (Str → Option Value) → List (Addr × Obj) → Prop)
    (hh : A.handled = none) (hl : (l, listOf vs.toArray nn) ∈ news) (hi : IntsAre vs ns) (F : Fr h₀ env.locals s.heap m₀) (N : News h₀ env.locals s.heap news) (hj : J [] m₀ news)
    (hlJ : ∀ pre m nx, J pre m nx → (l, listOf vs.toArray nn) ∈ nx)
    (turn : ∀ pre k post t m₁ news₁ I oI h tk, ns = pre ++ k :: post → J pre m₁ news₁ → (∀ p ∈ news₁, p.1 ≠ I) → Fr h₀ env.locals h (fun y => if y = x then some (.int k t) else m₁ y) → News h₀ env.locals h ((I, oI) :: news₁) →
      wpAny (model prog w) A (execs body env) (TurnEnd h₀ env.locals I oI (J (pre ++ [k])) { s with heap := h, toks := tk }) E { s with heap := h, toks := tk })
    (done : ∀ m₁ news₁ h tk, J ns m₁ news₁ → Fr h₀ env.locals h m₁ → News h₀ env.locals h news₁ → Q .next { s with heap := h, toks := tk }) :
    wpAny (model prog w) A (pyIter (.ref l)) (fun it s₂ => LoopAtV prog w A h₀ env x body Q E it s₂) E s := by
  have at1 := (N _ hl).1
  have isl : s.heap.IsList l vs.toArray := ⟨_, at1, rfl, nn, rfl⟩
  have len : vs.toArray.size = ns.length := by simp [hi.length]
  have walk := Walks.list (prog := prog) (w := w) hh s.heap.objs.size l (Nat.ne_of_lt (Heap.lt_size at1)) vs.toArray
  rw [len] at walk
  exact wpAny_pyIter_list isl (loop_walk (src := [(l, listOf vs.toArray nn)]) J walk (fun _ _ h => ints_is hi h) (fun _ _ h => let ⟨o, e, _⟩ := h.1; ⟨o, e⟩)
    ⟨Nat.ne_of_gt F.ns.lt, next_is_new F, N.apart⟩ ⟨⟨_, Heap.get?_push_size _ rfl, rfl, rfl⟩, isl.push _⟩ (F.push _) (N.pushKeep _) hj (fun pre m nx j => List.forall_mem_singleton.mpr (hlJ pre m nx j))
    (fun pre k post t m₁ nx oI h tk => turn pre k post t m₁ nx _ oI h tk) done)
/-- where a cut of a range's ints stands -/
theorem rangeKs_cut {a₀ k : Int} {n : Nat} {pre post : List Int} (h : rangeKs a₀ n = pre ++ k :: post) : k = a₀ + (pre.length : Int) ∧ pre.length < n := by
  have len := congrArg List.length h
  rw [rangeKs_length, List.length_append, List.length_cons] at len
  have lt : pre.length < n := by omega
  have e : (rangeKs a₀ n)[pre.length]? = some k := by rw [h]; simp
  have e2 : (rangeKs a₀ n)[pre.length]? = some (a₀ + (pre.length : Int)) := by simp [rangeKs, lt]
  exact ⟨Option.some.inj (e.symm.trans e2), lt⟩
theorem loop_range {r : Addr} {a₀ b₀ : Int} {t₀ u₀ v₀ : Tok} {n : Nat} {m₀ : Str → Option Value} {news : List (Addr × Obj)} (J : List Int → (Str → Option Value) → List (Addr × Obj) → Prop)
    (hh : A.handled = none) (hr : IsRange s.heap r a₀ b₀ 1 t₀ u₀ v₀) (hsmall : Builtin.Range.small a₀ b₀ 1 = true) (hn : Builtin.Range.rangeSize a₀ b₀ 1 = (n : Int)) (F : Fr h₀ env.locals s.heap m₀) (N : News h₀ env.locals s.heap news) (hj : J [] m₀ news)
    (turn : ∀ pre k t m₁ news₁ I oI h tk, k = a₀ + (pre.length : Int) → pre.length < n → J pre m₁ news₁ → (∀ p ∈ news₁, p.1 ≠ I) → Fr h₀ env.locals h (fun y => if y = x then some (.int k t) else m₁ y) → News h₀ env.locals h ((I, oI) :: news₁) →
      wpAny (model prog w) A (execs body env) (TurnEnd h₀ env.locals I oI (J (pre ++ [k])) { s with heap := h, toks := tk }) E { s with heap := h, toks := tk })
    (done : ∀ m₁ news₁ h tk, J (rangeKs a₀ n) m₁ news₁ → Fr h₀ env.locals h m₁ → News h₀ env.locals h news₁ → Q .next { s with heap := h, toks := tk }) :
    wpAny (model prog w) A (pyIter (.ref r)) (fun it s₂ => LoopAtV prog w A h₀ env x body Q E it s₂) E s := by
  have walk := (Walks.range (prog := prog) (w := w) hh s.heap.objs.size a₀ 1 n).bound
  refine wpAny_pyIter_range hr hsmall (loop_walk (src := []) (ks := rangeKs a₀ n) J (by rw [rangeKs_length]; exact walk) (fun i v _ p => ?_) (fun _ _ h => ⟨_, h⟩)
    ⟨Nat.ne_of_gt F.ns.lt, next_is_new F, N.apart⟩ (by show IsRangeIter _ _ _ _ _; rw [hn]; simpa using Heap.get?_push_size _ rfl) (F.push _) (N.pushKeep _) hj (fun _ _ _ _ _ hp => nomatch hp)
    (fun pre k post t m₁ nx oI h tk cut => turn pre k t m₁ nx _ oI h tk (rangeKs_cut cut).1 (rangeKs_cut cut).2) done)
  obtain ⟨_, t, rfl⟩ := p
  exact ⟨t, by simp [rangeKs]⟩
end
end

section
/-- the end of a turn of a loop that rebinds one cell variable (at cp) to a list of ints -/
def CellEnd (h₀ : Heap) (L : Addr) (x : Str) (m₀ : Str → Option Value) (gg : Obj → List (Addr × Obj)) (hi I : Addr) (oI : Obj) (r : List Int) (s₁ : Shared) (f : Flow) (s₂ : Shared) : Prop :=
  f = .next ∧ ∃ h' tk m' q us n oc, s₂ = { s₁ with heap := h', toks := tk } ∧ Fr h₀ L h' m' ∧ (∀ z, z ≠ x → m' z = m₀ z) ∧ News h₀ L h' ((I, oI) :: (q, listOf (List.toArray us) n) :: gg oc) ∧ (∀ p ∈ (q, listOf (List.toArray us) n) :: gg oc, p.1 ≠ I) ∧
    IntsAre us r ∧ oc.data = .cell (some (.ref q)) ∧ @LT.lt Nat _ hi q
theorem CellEnd.intro {h₀ : Heap} {L : Addr} {x : Str} {m₀ : Str → Option Value} {gg : Obj → List (Addr × Obj)} {hi I : Addr} {oI : Obj} {r : List Int} {s₁ : Shared} {h' : Heap} {tk : Nat} {m' : Str → Option Value} {q : Addr} {us : List Value} {n : Nat} {oc : Obj} {news' : List (Addr × Obj)}
    (F : Fr h₀ L h' m') (N : News h₀ L h' news') (hsub : ∀ p ∈ (I, oI) :: (q, listOf (List.toArray us) n) :: gg oc, p ∈ news') (hm : ∀ z, z ≠ x → m' z = m₀ z) (hI : ∀ p ∈ (q, listOf (List.toArray us) n) :: gg oc, p.1 ≠ I) (hi' : IntsAre us r) (hd : oc.data = .cell (some (.ref q))) (hlt : @LT.lt Nat _ hi q) :
    CellEnd h₀ L x m₀ gg hi I oI r s₁ .next { s₁ with heap := h', toks := tk } :=
  ⟨rfl, h', tk, m', q, us, n, oc, rfl, F, hm, fun p hp => N p (hsub p hp), hI, hi', hd, hlt⟩
section
variable {prog : Program} {w : World} {A : Around} {E : Value → Shared → Prop} {s : Shared} {env : Env} {h₀ : Heap} {x : Str} {body : List Stmt} {Q : Flow → Shared → Prop}
theorem cell_loop {l cp hi q₀ : Addr} {vs us₀ : List Value} {ns : List Int} {nn n₀ : Nat} {oc₀ : Obj} {m₀ : Str → Option Value} {news : List (Addr × Obj)} {gg : Obj → List (Addr × Obj)} (fP : List Int → List Int)
    (hh : A.handled = none) (hl : ∀ o, (l, listOf vs.toArray nn) ∈ gg o) (hi₀ : IntsAre vs ns) (F : Fr h₀ env.locals s.heap m₀) (N : News h₀ env.locals s.heap news) (U : UpdF cp oc₀ news gg) (hq : (q₀, listOf us₀.toArray n₀) ∈ news) (hu : IntsAre us₀ (fP [])) (hd : oc₀.data = .cell (some (.ref q₀))) (hlt : @LT.lt Nat _ hi q₀)
    (turn : ∀ pre k post t us n q oc I oI h tk, ns = pre ++ k :: post → IntsAre us (fP pre) → oc.data = .cell (some (.ref q)) → @LT.lt Nat _ hi q → (∀ p ∈ (q, listOf (List.toArray us) n) :: gg oc, p.1 ≠ I) →
      Fr h₀ env.locals h (fun y => if y = x then some (.int k t) else m₀ y) → News h₀ env.locals h ((I, oI) :: (q, listOf (List.toArray us) n) :: gg oc) →
      wpAny (model prog w) A (execs body env) (CellEnd h₀ env.locals x m₀ gg hi I oI (fP (pre ++ [k])) { s with heap := h, toks := tk }) E { s with heap := h, toks := tk })
    (done : ∀ (m₁ : Str → Option Value) us n q oc h tk, IntsAre us (fP ns) → oc.data = .cell (some (.ref q)) → @LT.lt Nat _ hi q → Fr h₀ env.locals h (fun y => if y = x then m₁ y else m₀ y) → News h₀ env.locals h ((q, listOf (List.toArray us) n) :: gg oc) → Q .next { s with heap := h, toks := tk }) :
    wpAny (model prog w) A (pyIter (.ref l)) (fun it s₂ => LoopAtV prog w A h₀ env x body Q E it s₂) E s := by
  have hmap : ∀ {m₁ : Str → Option Value} {v : Option Value}, (∀ z, z ≠ x → m₁ z = m₀ z) → (fun y => if y = x then v else m₁ y) = fun y => if y = x then v else m₀ y := fun hm => by
    funext y
    by_cases hy : y = x
    · rw [if_pos hy, if_pos hy]
    · rw [if_neg hy, if_neg hy, hm y hy]
  obtain ⟨own, rest, e1, e2, e3, e4⟩ := U.split
  have hgo : gg oc₀ = news := by rw [e2, e1]
  refine loop_list (nn := nn) (vs := vs) (ns := ns) (news := (q₀, listOf us₀.toArray n₀) :: gg oc₀) (fun pre m nx => ∃ q us n oc, nx = (q, listOf (List.toArray us) n) :: gg oc ∧ (∀ z, z ≠ x → m z = m₀ z) ∧ IntsAre us (fP pre) ∧ oc.data = .cell (some (.ref q)) ∧ @LT.lt Nat _ hi q)
    hh (.tail _ (hl _)) hi₀ F (fun p hp => ?_) ⟨q₀, us₀, n₀, oc₀, rfl, fun _ _ => rfl, hu, hd, hlt⟩ (fun pre m nx h => ?_) ?_ ?_
  · rcases List.mem_cons.mp hp with rfl | hp
    · exact N _ hq
    · exact N p (hgo ▸ hp)
  · obtain ⟨q, us, n, oc, rfl, _⟩ := h
    exact .tail _ (hl _)
  · rintro pre k post t m₁ nx I oI h tk e ⟨q, us, n, oc, rfl, hm, hu, hd, hlt⟩ hI F₁ N₁
    rw [hmap hm] at F₁
    refine wpAny_mono (turn pre k post t us n q oc I oI h tk e hu hd hlt hI F₁ N₁) (fun f s₂ p => ?_) fun _ _ x => x
    obtain ⟨rfl, h', tk', m', q', us', n', oc', rfl, F', hm', N', hI', hu', hd', hlt'⟩ := p
    exact ⟨rfl, h', tk', m', _, rfl, F', N', hI', q', us', n', oc', rfl, hm', hu', hd', hlt'⟩
  · rintro m₁ nx h tk ⟨q, us, n, oc, rfl, hm, hu, hd, hlt⟩ F₁ N₁
    refine done m₁ us n q oc h tk hu hd hlt ?_ N₁
    have : (fun y => if y = x then m₁ y else m₀ y) = m₁ := by
      funext y
      by_cases hy : y = x
      · rw [if_pos hy]
      · rw [if_neg hy, hm y hy]
    rw [this]; exact F₁
theorem cell_loop5 {L l cp q₀ : Addr} {vs us₀ : List Value} {ns : List Int} {nn n₀ : Nat} {oc₀ : Obj} {m₀ : Str → Option Value} {news : List (Addr × Obj)} {gg : Obj → List (Addr × Obj)} (fP : List Int → List Int) (hLe : env.locals = L)
    (hh : A.handled = none) (F : Fr h₀ L s.heap m₀) (N : News h₀ L s.heap news) (_hcp : (cp, oc₀) ∈ news) (U : UpdF cp oc₀ news gg) (hd : oc₀.data = .cell (some (.ref q₀))) (hl : ∀ o, (l, listOf vs.toArray nn) ∈ gg o) (hi₀ : IntsAre vs ns) (hq : (q₀, listOf us₀.toArray n₀) ∈ news) (hu : IntsAre us₀ (fP [])) (hlt : @LT.lt Nat _ (L + 5) q₀)
    (turn : ∀ pre k post t us n q oc I oI h tk, ns = pre ++ k :: post → IntsAre us (fP pre) → oc.data = .cell (some (.ref q)) → @LT.lt Nat _ (L + 5) q → (∀ p ∈ (q, listOf (List.toArray us) n) :: gg oc, p.1 ≠ I) →
      Fr h₀ L h (fun y => if y = x then some (.int k t) else m₀ y) → News h₀ L h ((I, oI) :: (q, listOf (List.toArray us) n) :: gg oc) →
      wpAny (model prog w) A (execs body env) (CellEnd h₀ L x m₀ gg (L + 5) I oI (fP (pre ++ [k])) { s with heap := h, toks := tk }) E { s with heap := h, toks := tk })
    (done : ∀ (m₁ : Str → Option Value) us n q oc h tk, IntsAre us (fP ns) → oc.data = .cell (some (.ref q)) → @LT.lt Nat _ (L + 5) q → Fr h₀ L h (fun y => if y = x then m₁ y else m₀ y) → News h₀ L h ((q, listOf (List.toArray us) n) :: gg oc) → Q .next { s with heap := h, toks := tk }) :
    wpAny (model prog w) A (pyIter (.ref l)) (fun it s₂ => LoopAtV prog w A h₀ env x body Q E it s₂) E s := by
  subst hLe
  exact cell_loop fP hh hl hi₀ F N U hq hu hd hlt turn done
end
def SrcR (h₀ : Heap) (L : Addr) (m : Str → Option Value) (news : List (Addr × Obj)) (s : Shared) (ks : List Int) (v : Value) (s' : Shared) : Prop :=
  ∃ l us n h' tk, v = .ref l ∧ s' = { s with heap := h', toks := tk } ∧ Fr h₀ L h' m ∧ News h₀ L h' ((l, listOf (List.toArray us) n) :: news) ∧ @LT.lt Nat _ (L + 5) l ∧ IntsAre us ks
theorem SrcR.intro {h₀ : Heap} {L : Addr} {m : Str → Option Value} {news news' : List (Addr × Obj)} {s : Shared} {ks : List Int} {l : Addr} {us : List Value} {n : Nat} {h' : Heap} {tk : Nat} (F : Fr h₀ L h' m) (N : News h₀ L h' news') (hm : (l, listOf us.toArray n) ∈ news') (hsub : ∀ p ∈ news, p ∈ news') (hlt : @LT.lt Nat _ (L + 5) l) (hi : IntsAre us ks) :
    SrcR h₀ L m news s ks (.ref l) { s with heap := h', toks := tk } := ⟨l, us, n, h', tk, rfl, rfl, F, fun p hp => (List.mem_cons.mp hp).elim (fun e => e ▸ N _ hm) fun h => N p (hsub p h), hlt, hi⟩
theorem IfExp_src {M : Model} {A : Around} {E : Value → Shared → Prop} {s : Shared} {env : Env} {h₀ : Heap} {L : Addr} {m : Str → Option Value} {news : List (Addr × Obj)} (ks : List Int) {test body orelse : Expr} {pos : Pos} {Q : Value → Shared → Prop} (_ : Fr h₀ L s.heap m) (_ : News h₀ L s.heap news)
    (h : wpAny M A (isTrue test env (eval test env)) (fun c s₂ => if c then wpAny M A (eval body env) (SrcR h₀ L m news s ks) E s₂ else wpAny M A (eval orelse env) (SrcR h₀ L m news s ks) E s₂) E s)
    (ret : ∀ l us n h' tk, Fr h₀ L h' m → News h₀ L h' ((l, listOf (List.toArray us) n) :: news) → @LT.lt Nat _ (L + 5) l → IntsAre us ks → Q (.ref l) { s with heap := h', toks := tk }) :
    wpAny M A (eval (.IfExp test body orelse pos) env) Q E s := by
  refine wpAny_mono (IfExp_ h) (fun v s' hv => ?_) fun _ _ e => e
  obtain ⟨l, us, n, h', tk, rfl, rfl, F, N, hlt, hi⟩ := hv
  exact ret l us n h' tk F N hlt hi
theorem off1_get {D a : Nat} {o : Obj} : ∀ {l : List (Addr × Obj)}, LCg.Off1 D l → (a, o) ∈ l → a ≠ D
  | _ :: _, h, .head _ => h.1
  | _ :: _, h, .tail _ m => off1_get h.2 m
theorem offI_get {I a : Nat} {o : Obj} {l : List (Addr × Obj)} (h : ∀ p ∈ l, p.1 ≠ I) (m : (a, o) ∈ l) : a ≠ I := h _ m
theorem nd0 {h₀ h : Heap} {L : Addr} {a : Addr × Obj} {r : List (Addr × Obj)} (N : News h₀ L h (a :: r)) : News h₀ L h r := fun p hp => N p (.tail _ hp)
theorem nd1 {h₀ h : Heap} {L : Addr} {a b : Addr × Obj} {r : List (Addr × Obj)} (N : News h₀ L h (a :: b :: r)) : News h₀ L h (a :: r) := fun p hp => by
  rcases List.mem_cons.mp hp with rfl | hp
  · exact N _ (.head _)
  · exact N _ (.tail _ (.tail _ hp))
theorem nd2 {h₀ h : Heap} {L : Addr} {a b c : Addr × Obj} {r : List (Addr × Obj)} (N : News h₀ L h (a :: b :: c :: r)) : News h₀ L h (a :: b :: r) := fun p hp => by
  rcases List.mem_cons.mp hp with rfl | hp
  · exact N _ (.head _)
  · exact nd1 (nd0 N) p hp
end

section
/-- the end of one way of an If that may rebind one cell variable to a list of ints -/
def CellAt (h₀ : Heap) (L : Addr) (m₀ : Str → Option Value) (gg : Obj → List (Addr × Obj)) (r : List Int) (s₁ : Shared) (f : Flow) (s₂ : Shared) : Prop :=
  f = .next ∧ ∃ h' tk q us n oc, s₂ = { s₁ with heap := h', toks := tk } ∧ Fr h₀ L h' m₀ ∧ News h₀ L h' ((q, listOf (List.toArray us) n) :: gg oc) ∧ IntsAre us r ∧ oc.data = .cell (some (.ref q)) ∧ @LT.lt Nat _ (L + 5) q
theorem CellAt.intro {h₀ : Heap} {L : Addr} {m₀ : Str → Option Value} {gg : Obj → List (Addr × Obj)} {r : List Int} {s₁ : Shared} {h' : Heap} {tk : Nat} {q : Addr} {us : List Value} {n : Nat} {oc : Obj} {news' : List (Addr × Obj)}
    (F : Fr h₀ L h' m₀) (N : News h₀ L h' news') (hd : oc.data = .cell (some (.ref q))) (hsub : ∀ p ∈ (q, listOf (List.toArray us) n) :: gg oc, p ∈ news') (hi' : IntsAre us r) (hlt : @LT.lt Nat _ (L + 5) q) :
    CellAt h₀ L m₀ gg r s₁ .next { s₁ with heap := h', toks := tk } :=
  ⟨rfl, h', tk, q, us, n, oc, rfl, F, fun p hp => N p (hsub p hp), hi', hd, hlt⟩
theorem If_cell {M : Model} {A : Around} {E : Value → Shared → Prop} {s : Shared} {env : Env} {h₀ : Heap} {L cp : Addr} {oc₀ : Obj} {m : Str → Option Value} {news : List (Addr × Obj)} {gg : Obj → List (Addr × Obj)} (r : List Int) {test : Expr} {body orelse : List Stmt} {pos : Pos} {Q : Flow → Shared → Prop}
    (_ : Fr h₀ L s.heap m) (_ : News h₀ L s.heap news) (_ : (cp, oc₀) ∈ news) (_ : UpdF cp oc₀ news gg)
    (h : wpAny M A (isTrue test env (eval test env)) (fun c s₂ => if c then wpAny M A (execs body env) (CellAt h₀ L m gg r s) E s₂ else wpAny M A (execs orelse env) (CellAt h₀ L m gg r s) E s₂) E s)
    (ret : ∀ q us n oc h' tk, Fr h₀ L h' m → News h₀ L h' ((q, listOf (List.toArray us) n) :: gg oc) → IntsAre us r → oc.data = .cell (some (.ref q)) → @LT.lt Nat _ (L + 5) q → Q .next { s with heap := h', toks := tk }) :
    wpAny M A (exec (.If test body orelse pos) env) Q E s := by
  have key : ∀ f s₂, CellAt h₀ L m gg r s f s₂ → Q f s₂ := fun f s₂ hc => by
    obtain ⟨rfl, h', tk, q, us, n, oc, rfl, F, N, hi, hd, hlt⟩ := hc
    exact ret q us n oc h' tk F N hi hd hlt
  refine wpAny_If (wpAny_mono h (fun c s₂ hc => ?_) fun _ _ e => e)
  cases c
  · exact wpAny_mono hc key fun _ _ e => e
  · exact wpAny_mono hc key fun _ _ e => e
section
variable {prog : Program} {w : World} {A : Around} {E : Value → Shared → Prop} {s : Shared} {h₀ : Heap} {L : Addr} {m : Str → Option Value} {news : List (Addr × Obj)}
theorem ints_set {vs : List Value} {ns : List Int} (h : IntsAre vs ns) (i : Nat) (v : Int) (t : Tok) : IntsAre (vs.set i (.int v t)) (ns.set i v) := by
  induction h generalizing i with
  | nil => exact .nil
  | cons n u r ih =>
    cases i with
    | zero => exact .cons _ _ r
    | succ i => exact .cons _ _ (ih i)
theorem setL_ok : ∀ (l : List Value) (i : Nat) (v : Value), i < l.length → ki_setL l i v = some (l.set i v)
  | [], i, v, h => absurd h (Nat.not_lt_zero _)
  | a :: l, 0, v, _ => rfl
  | a :: l, i + 1, v, h => by
    have := setL_ok l i v (by simpa using h)
    simp [ki_setL, this]
theorem setI_N {D : Addr} {vs : List Value} {ns : List Int} {n : Nat} {k v : Int} {t u : Tok} {gg : Obj → List (Addr × Obj)} {Q : Unit → Shared → Prop} (F : Fr h₀ L s.heap m) (N : News h₀ L s.heap news) (_hm : (D, listOf vs.toArray n) ∈ news) (U : UpdF D (listOf vs.toArray n) news gg) (hi : IntsAre vs ns) (h0 : 0 ≤ k) (h1 : k < ns.length) (hsz : ns.length ≤ 1000)
    (h : ∀ us h', Fr h₀ L h' m → News h₀ L h' (gg (listOf (List.toArray us) n)) → IntsAre us (ns.set k.toNat v) → Q () { s with heap := h' }) : wpAny (model prog w) A (setItem (.ref D) (.int k t) (.int v u)) Q E s := by
  obtain ⟨pre, post, e1, e2, e3, e4⟩ := U.split
  have hl := hi.length
  have hU : ∀ (pre post : List (Addr × Obj)) (a : ∀ p ∈ pre, p.1 ≠ D) (b : ∀ p ∈ post, p.1 ≠ D) (o o' : Obj), Upd D o o' (pre ++ (D, o) :: post) (pre ++ (D, o') :: post) := by
    intro pre post a b o o'
    induction pre with
    | nil => exact Upd.head b
    | cons p r ih => exact Upd.tail (a p (.head _)) (ih fun q hq => a q (.tail _ hq))
  refine ki_set (its := vs.toArray) (q := vs.set k.toNat (.int v u)) F N h0 (by omega) (setL_ok vs _ _ (by omega)) (e1 ▸ hU pre post e3 e4 _ (listOf (vs.set k.toNat (.int v u)).toArray n)) fun h' F' N' => ?_
  exact h _ h' F' (by rw [e2]; exact N') (ints_set hi _ _ _)
end
/-- the end of a turn of a loop that changes one list in place and binds one more name -/
def LaidEnd (h₀ : Heap) (L : Addr) (x x2 : Str) (m₀ : Str → Option Value) (gg : Obj → List (Addr × Obj)) (I : Addr) (oI : Obj) (n₀ : Nat) (r : List Int) (s₁ : Shared) (f : Flow) (s₂ : Shared) : Prop :=
  f = .next ∧ ∃ h' tk m' us, s₂ = { s₁ with heap := h', toks := tk } ∧ Fr h₀ L h' m' ∧ (∀ z, z ≠ x → z ≠ x2 → m' z = m₀ z) ∧ News h₀ L h' ((I, oI) :: gg (listOf (List.toArray us) n₀)) ∧ IntsAre us r
theorem LaidEnd.intro {h₀ : Heap} {L : Addr} {x x2 : Str} {m₀ : Str → Option Value} {gg : Obj → List (Addr × Obj)} {I : Addr} {oI : Obj} {n₀ : Nat} {r : List Int} {s₁ : Shared} {h' : Heap} {tk : Nat} {m' : Str → Option Value} {us : List Value} {news' : List (Addr × Obj)}
    (F : Fr h₀ L h' m') (N : News h₀ L h' news') (hi' : IntsAre us r) (hsub : ∀ p ∈ (I, oI) :: gg (listOf (List.toArray us) n₀), p ∈ news') (hm : ∀ z, z ≠ x → z ≠ x2 → m' z = m₀ z) :
    LaidEnd h₀ L x x2 m₀ gg I oI n₀ r s₁ .next { s₁ with heap := h', toks := tk } :=
  ⟨rfl, h', tk, m', us, rfl, F, hm, fun p hp => N p (hsub p hp), hi'⟩
section
variable {prog : Program} {w : World} {A : Around} {E : Value → Shared → Prop} {s : Shared} {env : Env} {h₀ : Heap} {x : Str} {body : List Stmt} {Q : Flow → Shared → Prop}
theorem laid_loop {r q L : Addr} {a₀ b₀ : Int} {t₀ u₀ v₀ : Tok} {n n₀ : Nat} {us₀ : List Value} {m₀ : Str → Option Value} {news : List (Addr × Obj)} {gg : Obj → List (Addr × Obj)} (x2 : Str) (fL : List Int → List Int) (hLe : env.locals = L)
    (hh : A.handled = none) (hr : IsRange s.heap r a₀ b₀ 1 t₀ u₀ v₀) (hsmall : Builtin.Range.small a₀ b₀ 1 = true) (hn : Builtin.Range.rangeSize a₀ b₀ 1 = (n : Int)) (F : Fr h₀ L s.heap m₀) (N : News h₀ L s.heap news) (_hm : (q, listOf us₀.toArray n₀) ∈ news) (U : UpdF q (listOf us₀.toArray n₀) news gg) (hu : IntsAre us₀ (fL [])) (hx : x ≠ x2)
    (turn : ∀ pre k t b us I oI h tk, k = a₀ + (List.length pre : Int) → pre.length < n → IntsAre us (fL pre) → (∀ p ∈ gg (listOf (List.toArray us) n₀), p.1 ≠ I) →
      Fr h₀ L h (fun y => if y = x then some (.int k t) else if y = x2 then b else m₀ y) → News h₀ L h ((I, oI) :: gg (listOf (List.toArray us) n₀)) →
      wpAny (model prog w) A (execs body env) (LaidEnd h₀ L x x2 m₀ gg I oI n₀ (fL (pre ++ [k])) { s with heap := h, toks := tk }) E { s with heap := h, toks := tk })
    (done : ∀ (a b : Option Value) us h tk, IntsAre us (fL (rangeKs a₀ n)) → Fr h₀ L h (fun y => if y = x then a else if y = x2 then b else m₀ y) → News h₀ L h (gg (listOf (List.toArray us) n₀)) → Q .next { s with heap := h, toks := tk }) :
    wpAny (model prog w) A (pyIter (.ref r)) (fun it s₂ => LoopAtV prog w A h₀ env x body Q E it s₂) E s := by
  subst hLe
  obtain ⟨own, rest, e1, e2, e3, e4⟩ := U.split
  have hoff : ∀ {o o' : Obj} {I : Addr}, (∀ p ∈ gg o, p.1 ≠ I) → ∀ p ∈ gg o', p.1 ≠ I := fun {o o' I} h p hp => by
    rw [e2] at hp
    rcases List.mem_append.mp hp with hp | hp
    · exact h p (by rw [e2]; exact List.mem_append_left _ hp)
    · rcases List.mem_cons.mp hp with rfl | hp
      · exact h (q, o) (by rw [e2]; exact List.mem_append_right _ (.head _))
      · exact h p (by rw [e2]; exact List.mem_append_right _ (.tail _ hp))
  refine loop_range (x := x) (body := body) (n := n) (news := gg (listOf us₀.toArray n₀)) (fun pre m nx => ∃ us, nx = gg (listOf (List.toArray us) n₀) ∧ (∀ z, z ≠ x → z ≠ x2 → m z = m₀ z) ∧ IntsAre us (fL pre)) hh hr hsmall hn F (by rw [e2, ← e1]; exact N) ⟨us₀, rfl, fun _ _ _ => rfl, hu⟩ ?_ ?_
  · rintro pre k t m₁ nx I oI h tk hk hlt ⟨us, rfl, hm, hu⟩ hI F₁ N₁
    have hmap : (fun y => if y = x then some (.int k t) else m₁ y) = fun y => if y = x then some (.int k t) else if y = x2 then m₁ x2 else m₀ y := by
      funext y
      by_cases hy : y = x
      · rw [if_pos hy, if_pos hy]
      · rw [if_neg hy, if_neg hy]
        by_cases hy2 : y = x2
        · rw [if_pos hy2, hy2]
        · rw [if_neg hy2, hm y hy hy2]
    rw [hmap] at F₁
    refine wpAny_mono (turn pre k t (m₁ x2) us I oI h tk hk hlt hu hI F₁ N₁) (fun f s₂ p => ?_) fun _ _ e => e
    obtain ⟨rfl, h', tk', m', us', rfl, F', hm', N', hu'⟩ := p
    exact ⟨rfl, h', tk', m', _, rfl, F', N', hoff hI, us', rfl, hm', hu'⟩
  · rintro m₁ nx h tk ⟨us, rfl, hm, hu⟩ F₁ N₁
    have hmap : m₁ = fun y => if y = x then m₁ x else if y = x2 then m₁ x2 else m₀ y := by
      funext y
      by_cases hy : y = x
      · rw [if_pos hy, hy]
      · rw [if_neg hy]
        by_cases hy2 : y = x2
        · rw [if_pos hy2, hy2]
        · rw [if_neg hy2, hm y hy hy2]
    rw [hmap] at F₁
    exact done _ _ us h tk hu F₁ N₁
end
theorem cell_in {oc : Obj} {q cp : Addr} {news : List (Addr × Obj)} (_ : oc.data = .cell (some (.ref q))) (h : (cp, oc) ∈ news) : (cp, oc) ∈ news := h
/-- a list of refs, each at a list of ints -/
inductive TabsR (g : Int → List Int) (nw : List (Addr × Obj)) : List Int → List Value → List (Addr × Obj) → Prop
  | nil : TabsR g nw [] [] []
  | snoc {ks ys tl k a us n} : TabsR g nw ks ys tl → IntsAre us (g k) → LCg.Off1 a (tl ++ nw) → TabsR g nw (ks ++ [k]) (ys ++ [.ref a]) ((a, listOf (List.toArray us) n) :: tl)
theorem snoc_inj {α : Type} {a b : List α} {x y : α} (h : a ++ [x] = b ++ [y]) : a = b ∧ x = y := by
  have := List.append_inj' h rfl
  exact ⟨this.1, List.cons.inj this.2 |>.1⟩
theorem TabsR.inv {g : Int → List Int} {nw : List (Addr × Obj)} {ks : List Int} {k : Int} {ys : List Value} {tl : List (Addr × Obj)} (h : TabsR g nw (ks ++ [k]) ys tl) : ∃ ys' tl' a us n, ys = ys' ++ [.ref a] ∧ tl = (a, listOf (List.toArray us) n) :: tl' ∧ IntsAre us (g k) ∧ LCg.Off1 a (tl' ++ nw) ∧ TabsR g nw ks ys' tl' := by
  generalize e : ks ++ [k] = kk at h
  cases h with
  | nil => simp at e
  | snoc h hi ho =>
    obtain ⟨rfl, rfl⟩ := snoc_inj e
    exact ⟨_, _, _, _, _, rfl, rfl, hi, ho, h⟩
theorem TabsR.nil0 {g : Int → List Int} {nw : List (Addr × Obj)} {ys : List Value} {tl : List (Addr × Obj)} (h : TabsR g nw [] ys tl) : ys = [] ∧ tl = [] := by
  generalize e : ([] : List Int) = kk at h
  cases h with
  | nil => exact ⟨rfl, rfl⟩
  | snoc => simp at e
theorem TabsR.five {g : Int → List Int} {nw : List (Addr × Obj)} {k1 k2 k3 k4 k5 : Int} {ys : List Value} {tl : List (Addr × Obj)} (h : TabsR g nw [k1, k2, k3, k4, k5] ys tl) :
    ∃ a1 a2 a3 a4 a5 v1 v2 v3 v4 v5 n1 n2 n3 n4 n5, ys = [.ref a1, .ref a2, .ref a3, .ref a4, .ref a5] ∧ tl = [(a5, listOf (List.toArray v5) n5), (a4, listOf (List.toArray v4) n4), (a3, listOf (List.toArray v3) n3), (a2, listOf (List.toArray v2) n2), (a1, listOf (List.toArray v1) n1)] ∧
      IntsAre v1 (g k1) ∧ IntsAre v2 (g k2) ∧ IntsAre v3 (g k3) ∧ IntsAre v4 (g k4) ∧ IntsAre v5 (g k5) ∧ LCg.Off1 a1 nw ∧ LCg.Off1 a2 nw ∧ LCg.Off1 a3 nw ∧ LCg.Off1 a4 nw ∧ LCg.Off1 a5 nw := by
  obtain ⟨y5, t5, a5, v5, n5, rfl, rfl, i5, o5, h⟩ := TabsR.inv (ks := [k1, k2, k3, k4]) h
  obtain ⟨y4, t4, a4, v4, n4, rfl, rfl, i4, o4, h⟩ := TabsR.inv (ks := [k1, k2, k3]) h
  obtain ⟨y3, t3, a3, v3, n3, rfl, rfl, i3, o3, h⟩ := TabsR.inv (ks := [k1, k2]) h
  obtain ⟨y2, t2, a2, v2, n2, rfl, rfl, i2, o2, h⟩ := TabsR.inv (ks := [k1]) h
  obtain ⟨y1, t1, a1, v1, n1, rfl, rfl, i1, o1, h⟩ := TabsR.inv (ks := []) h
  obtain ⟨rfl, rfl⟩ := TabsR.nil0 h
  exact ⟨a1, a2, a3, a4, a5, v1, v2, v3, v4, v5, n1, n2, n3, n4, n5, rfl, rfl, i1, i2, i3, i4, i5, o1, o2.2, o3.2.2, o4.2.2.2, o5.2.2.2.2⟩
def ElT (cur : List (Addr × Obj)) (g : List Int) (y : Value) (news' : List (Addr × Obj)) : Prop := ∃ a us n, y = .ref a ∧ news' = (a, listOf (List.toArray us) n) :: cur ∧ IntsAre us g ∧ LCg.Off1 a cur
section
variable {prog : Program} {w : World} {A : Around} {h₀ : Heap} {L : Addr} {m : Str → Option Value} {env : Env} {elt : Expr} {x : Str} {scope : Scope} {cl : List (Str × Addr)} {s : Shared} {S : List (Addr × Obj) → Prop} {Fin : List Value → List (Addr × Obj) → Prop} {news : List (Addr × Obj)}
theorem comp_tabs {vs : List Value} {ns : List Int} (g : Int → List Int) (hi : IntsAre vs ns)
    (turn : ∀ (k : Int) cur t I oI C oC D m₂ ys h tk (E' : Value → Shared → Prop), (∀ p ∈ news, p ∈ cur) → LCg.NsObj oC m₂ → m₂ x = some (.int k t) → Fr h₀ L h m → News h₀ L h ((I, oI) :: (C, oC) :: (D, LCg.lst ys) :: cur) → LCg.Off3 I C D cur → ((@Ne Nat I C) ∧ (@Ne Nat I D) ∧ (@Ne Nat C D)) →
      wpAny (model prog w) A (eval elt (compEnvC scope cl C env)) (LCg.CompEnd h₀ L m { s with heap := h, toks := tk } I oI C oC D (LCg.lst ys) S (fun r news' => ElT cur (g k) r news')) E' { s with heap := h, toks := tk })
    (fin : ∀ ys tl, TabsR g news ns ys tl → Fin ys (tl ++ news)) : LCg.CompRest prog w A h₀ L m env elt x scope cl s S (fun i v => vs.toArray[i]? = some v) Fin vs.toArray.size 0 [] news := by
  have key : ∀ (j i : Nat) (ys : List Value) tl, i + j = ns.length → TabsR g news (ns.take i) ys tl → LCg.CompRest prog w A h₀ L m env elt x scope cl s S (fun i v => vs.toArray[i]? = some v) Fin j i ys (tl ++ news) := by
    intro j
    induction j with
    | zero =>
      intro i ys tl hi hy
      have e : i = ns.length := by omega
      subst e
      rw [List.take_length] at hy
      exact LCg.CompRest.zero (fin ys tl hy)
    | succ j ih =>
      intro i ys tl hij hy
      refine LCg.CompRest.succ ?_
      intro v I oI C oC D m₂ h tk E' hv hC hx F N off ne
      obtain ⟨k, t, rfl, hk⟩ := IntsAre.at hi i v (by simpa using hv)
      have hs : ns.take (i + 1) = ns.take i ++ [k] := by simp [List.take_add_one, hk]
      refine wpAny_mono (turn k (tl ++ news) t I oI C oC D m₂ ys h tk E' (fun p hp => List.mem_append_right _ hp) hC hx F N off ne) (fun y s₂ hq => ?_) fun _ _ e => e
      obtain ⟨h', tk', nw, e, F', N', off', hS, a, us, n, rfl, rfl, hu, hof⟩ := hq
      refine ⟨h', tk', (a, listOf us.toArray n) :: (tl ++ news), e, F', N', off', hS, ?_⟩
      have := ih (i + 1) (ys ++ [.ref a]) ((a, listOf us.toArray n) :: tl) (by omega) (by rw [hs]; exact hy.snoc hu hof)
      simpa using this
  have := key ns.length 0 [] [] (by omega) (by rw [List.take_zero]; exact .nil)
  rw [show vs.toArray.size = ns.length from by rw [List.size_toArray]; exact hi.length]
  exact this
end
theorem tab_end {h₀ : Heap} {L I C D ax a : Addr} {m : Str → Option Value} {s₁ : Shared} {oI oC : Obj} {ys us : List Value} {its : Array Value} {n : Nat} {g : List Int} {cur all : List (Addr × Obj)} {h' : Heap} {tk : Nat}
    (F : Fr h₀ L h' m) (N : News h₀ L h' all) (he : all = (a, listOf (List.toArray us) n) :: (I, oI) :: (C, oC) :: (D, LCg.lst ys) :: cur) (o1 : LCg.Off1 a ((I, oI) :: (C, oC) :: (D, LCg.lst ys) :: cur)) (off : LCg.Off3 I C D cur) (hu : IntsAre us g) (hS : LCg.SrcAt h₀ ax its cur) :
    LCg.CompEnd h₀ L m s₁ I oI C oC D (LCg.lst ys) (fun nw => LCg.SrcAt h₀ ax its nw) (fun r nw => ElT cur g r nw) (.ref a) { s₁ with heap := h', toks := tk } := by
  subst he
  refine LCg.CompEnd.intro F N ((a, listOf us.toArray n) :: cur) (fun p hp => ?_) ⟨⟨Ne.symm o1.1, Ne.symm o1.2.1, Ne.symm o1.2.2.1⟩, off⟩ ?_ ⟨a, us, n, rfl, rfl, hu, o1.2.2.2⟩
  · rcases List.mem_cons.mp hp with rfl | hp
    · exact .tail _ (.head _)
    rcases List.mem_cons.mp hp with rfl | hp
    · exact .tail _ (.tail _ (.head _))
    rcases List.mem_cons.mp hp with rfl | hp
    · exact .tail _ (.tail _ (.tail _ (.head _)))
    rcases List.mem_cons.mp hp with rfl | hp
    · exact .head _
    · exact .tail _ (.tail _ (.tail _ (.tail _ hp)))
  · rcases hS with h | ⟨o, hm, r⟩
    · exact .inl h
    · exact .inr ⟨o, .tail _ hm, r⟩
end

local macro_rules | `(tactic| walk_at "MINE enter") => `(tactic| (
  k_with_none
  w_on
  refine' can_intro ?k6 ?k7 (by decide) ?k9 ?kB ?_ ?c2 ?c3 ?c4 ?c5
  case k6 => k_is
  case k7 => k_is
  case k9 => intro s X; first | exact BindsTo.of_eq rfl | exact binds_K X rfl (by k_is) rfl rfl rfl
  case kB => exact locs rfl
  case c5 => decide
  case c2 => exact rfl
  case c3 => exact rfl
  case c4 => exact rfl
  intro dp un gd env outer base L s h₁ tk B F N X T hl hdp hun
  (try dsimp only)
  (try k_fold)))
local macro_rules | `(tactic| walk_at "Fin") => `(tactic| fail "end")
local macro_rules | `(tactic| walk_at "eval ListComp") => `(tactic| k_extra "eval ListComp")
local macro_rules | `(tactic| walk_at "exec Assign cons ListComp") => `(tactic| k_extra "exec Assign cons ListComp")
local macro_rules | `(tactic| walk_at "call ref") => `(tactic| k_extra "call ref")
local macro_rules | `(tactic| walk_at "eval IfExp") => `(tactic| k_extra "eval IfExp")
local macro_rules | `(tactic| walk_at "MINE comp") => `(tactic| k_dflt (refine LCg.ListComp_U (F₀ := by k_asm) (by with_unfolding_all rfl) (by decide) (by rfl) (by decide) (by rfl) ?_))
local macro_rules | `(tactic| walk_at "MINE compS") => `(tactic| k_dflt (refine ListComp_S (by k_asm) (by with_unfolding_all rfl) (by decide) (by rfl) (by decide) (by rfl) ?_))
local macro_rules | `(tactic| walk_at "MINE compSA") => `(tactic| k_dflt (refine Assign_ListComp_S (by k_asm) (by rfl) (by with_unfolding_all rfl) (by with_unfolding_all rfl) (by decide) (by rfl) (by decide) (by rfl) (by rfl) (by rfl) ?_))
local macro_rules | `(tactic| walk_at "CompEnd") => `(tactic| (refine LCg.CompEnd.intro (by assumption) (by assumption) _ (fun _ hp => hp) (by assumption) (by first | exact trivial | assumption | lcg_src) ⟨rfl, ?_⟩; k_extra "elem"))
local macro_rules | `(tactic| walk_at "MINE list") => `(tactic| first | exact base_list (by k_asm) (by assumption) | exact News.isList (by k_asm) (by k_mem) | assumption)
local macro_rules | `(tactic| walk_at "MINE ints") => `(tactic| first | assumption | l_intsW | l_ints)
local macro_rules | `(tactic| walk_at "MINE len") => `(tactic| ((try simp only [List.length_append, List.length_cons, List.length_nil, List.length_map, Array.length_toList] at *); first | omega | (simp_all; omega) | (k_extra "len")))
local macro_rules | `(tactic| walk_at "binaryOp Add ref ref") => `(tactic| (k_here; k_dflt (refine' add_ints_N ?k1 ?k2 ?k3 ?k4 ?k5 ?k6 ?k7 ?_; (case k1 => k_asm); (case k2 => k_asm); (case k3 => walk_at "MINE list"); (case k4 => walk_at "MINE list"); (case k5 => walk_at "MINE ints"); (case k6 => walk_at "MINE ints"); (case k7 => walk_at "MINE len"); k_whole); intro D' us' h' F' N' l1 hi'; (try k_lt l1); (try k_sweep)))
local macro_rules | `(tactic| walk_at "call type:list") => `(tactic| (k_here; (with_reducible show wpAny _ _ (call (Value.type _) [Value.ref _]) _ _ _); k_dflt (refine' copy_ints_N ?k1 ?k2 ?k3 ?k5 ?k7 ?_; (case k1 => k_asm); (case k2 => k_asm); (case k3 => walk_at "MINE list"); (case k5 => walk_at "MINE ints"); (case k7 => walk_at "MINE len"); k_whole); intro D' us' n' h' F' N' l1 hi'; (try k_lt l1); (try k_sweep)))
local macro_rules | `(tactic| walk_at "binaryOp Mult ref int") => `(tactic| (k_here; k_dflt (refine' mul_ints_N ?k1 ?k2 ?k3 ?k4 ?k5 ?k6 ?k7 ?k8 ?_; (case k1 => k_asm); (case k2 => k_asm); (case k3 => k_mem); (case k4 => walk_at "MINE ints"); (case k5 => simp); (case k6 => walk_at "MINE len"); (case k7 => walk_at "MINE len"); (case k8 => walk_at "MINE len"); k_whole); intro D' us' h' F' N' l1 hi'; (try k_lt l1); (try k_sweep)))
local macro_rules | `(tactic| walk_at "FinE") => `(tactic| (refine finE_N ?_; intro D' n' h' tk' F' N' o1'; (try simp only [LCg.Off1, and_true] at o1'); (repeat (obtain ⟨on', o1'⟩ := o1')); (try k_sweep)))
local macro_rules | `(tactic| walk_at "FinA") => `(tactic| (refine finA_N ?_; intro D' n' h' tk' F' N' o1'; (try simp only [LCg.Off1, and_true] at o1'); (repeat (obtain ⟨on', o1'⟩ := o1')); (try k_sweep)))
local macro_rules | `(tactic| walk_at "MINE call") => `(tactic| ((case k8 => first | exact trivial | walk_at "MINE list" | k_extra "pre"); (case k1 => k_asm); (case k2 => k_asm); (case k3 => k_asm); (case k4 => k_asm); (case k5 => k_asm); (case k6 => exact rfl); (case k7 => exact rfl); (case k9 => omega); (case k10 => omega)))
local macro_rules | `(tactic| walk_at "MINE retL") => `(tactic| (k_whole; intro D' us' n' h' tk' F' N' o1' hi'; (try simp only [LCg.Off1, and_true] at o1'); (try k_sweep); (try k_fold)))
local macro_rules | `(tactic| walk_at "MINE retI") => `(tactic| (k_whole; intro t' h' tk' F' N'; (try k_sweep); (try k_fold)))
local macro_rules | `(tactic| walk_at "MINE retB") => `(tactic| (k_whole; intro h' tk' F' N'; (try k_sweep); (try k_fold)))
local macro_rules | `(tactic| walk_at "MINE enterC") => `(tactic| (
  k_with_none
  w_on
  refine' can_introC ?k6 ?k7 (by decide) ?k9 ?kB ?kD ?_ ?c2 ?c3 ?c4
  case k6 => k_is
  case k7 => k_is
  case k9 => intro s X; first | exact BindsTo.of_eq rfl | exact binds_K X rfl (by k_is) rfl rfl rfl
  case kB => exact rfl
  case kD => decide +kernel
  case c2 => exact rfl
  case c3 => exact rfl
  case c4 => exact rfl
  intro dp un gd env outer base L s h₁ tk cells B F N Y X T hl hdp hun
  k_cells Y
  (try simp only [List.cons_append, List.nil_append] at N)
  (try dsimp only)
  (try k_fold)))
local macro_rules | `(tactic| walk_at "CompSrc") => `(tactic| k_extra "CompSrc")
local macro_rules | `(tactic| walk_at "MINE srcR") => `(tactic| (k_dflt refine LCg.CompSrc.range (by rfl) (by k_asm) (by k_asm) (by assumption) (by first | decide | exact small_one (by omega) (by omega) (by omega) (by omega)) (by first | exact rangeSize_nat _ _ | rfl) (by first | exact Nat.le_of_ble_eq_true rfl | (rw [PySem.sizeLine_eq]; omega)) ?_; intro g'))
local macro_rules | `(tactic| walk_at "MINE srcL") => `(tactic| (k_dflt (first | (refine' LCg.CompSrc.ledger ?k1 ?k2 ?k3 ?k4 ?k5 ?_; (case k3 => k_asm); (case k4 => k_mem)) | (refine' LCg.CompSrc.base ?k1 ?k2 ?k3 ?k4 ?k5 ?_; (case k3 => k_asm); (case k4 => assumption))); (case k1 => exact rfl); (case k2 => k_asm); (case k5 => (refine size_of_ints (by assumption) ?_; walk_at "MINE len")); intro g'))
local macro_rules | `(tactic| walk_at "MINE T") => `(tactic| first | with_reducible exact T_one | with_reducible exact T_nil | with_reducible exact T_charset | (k_extra "T") | with_reducible rfl | exact rfl)
local macro_rules | `(tactic| walk_at "binaryOp Add str str") => `(tactic| (k_dflt (refine' addT ?k1 ?k2 ?k3 ?_; (case k1 => walk_at "MINE T"); (case k2 => walk_at "MINE T"); (case k3 => walk_at "MINE len"); k_whole); intro t' tk'))
local macro_rules | `(tactic| walk_at "MINE item") => `(tactic| ((with_reducible show wpAny _ _ (subscriptTail _ _ (Value.str _ _) (Value.int _ _)) _ _ _); k_dflt (refine' itemT ?k1 ?k2 ?k3 ?k4 ?_; (case k1 => walk_at "MINE T"); (case k2 => first | omega | k_extra "idx"); (case k3 => first | ((try simp only [charset, List.length_cons, List.length_nil]); omega) | k_extra "idx"); (case k4 => first | decide | walk_at "MINE len"); k_whole); intro t' tk'))
local macro_rules | `(tactic| walk_at "call builtin:str.join") => `(tactic| (k_here; (try dsimp only [List.cons_append, List.nil_append]); (with_reducible show wpAny _ _ (call (Value.builtin "str.join") [Value.str _ _, Value.ref _]) _ _ _); k_dflt (refine' joinT ?k1 ?k2 ?k3 ?k4 ?_; (case k1 => walk_at "MINE T"); (case k2 => walk_at "MINE list"); (case k3 => assumption); (case k4 => walk_at "MINE len"); k_whole); intro t' tk'))
local macro_rules | `(tactic| walk_at "call builtin:str.find") => `(tactic| ((try dsimp only [List.cons_append, List.nil_append]); (with_reducible show wpAny _ _ (call (Value.builtin "str.find") [Value.str _ _, Value.str _ _]) _ _ _); k_dflt (refine' findT ?k1 ?k2 ?_; (case k1 => walk_at "MINE T"); (case k2 => walk_at "MINE T"); k_whole); intro t' tk'))
local macro_rules | `(tactic| walk_at "call builtin:len") => `(tactic| ((with_reducible show wpAny _ _ (call (Value.builtin "len") [Value.str _ _]) _ _ _); k_dflt (refine' lenT ?k1 ?k2 ?_; (case k1 => walk_at "MINE T"); (case k2 => walk_at "MINE len"); k_whole); intro t' tk'))
local macro_rules | `(tactic| walk_at "compareOp In str str") => `(tactic| (k_dflt (refine' inT ?k1 ?k2 ?_; (case k1 => walk_at "MINE T"); (case k2 => walk_at "MINE T"); k_whole)))
local macro_rules | `(tactic| walk_at "subscriptTail Name Name str int") => `(tactic| walk_at "MINE item")
local macro_rules | `(tactic| walk_at "subscriptTail Name BinOp str int") => `(tactic| walk_at "MINE item")
local macro_rules | `(tactic| walk_at "binaryOp LShift int int") => `(tactic| (refine' lshift_int_small ?k1 ?k2 ?k3 ?_; (case k1 => first | decide | omega); (case k2 => first | decide | omega); (case k3 => first | decide | omega | exact and_small _ _ (by decide) (by decide))))
local macro_rules | `(tactic| walk_at "ite") => `(tactic| k_extra "ite")
local macro_rules | `(tactic| walk_at "WhlIf") => `(tactic| (first | refine WhlIf.yes (decide_eq_true (by (try simp only [List.length_append, List.length_cons, List.length_nil, List.length_map]); omega)) ?_ | refine WhlIf.no (decide_eq_false (by (try simp only [List.length_append, List.length_cons, List.length_nil, List.length_map]); omega)) ?_ | (refine whl_split (fun hWhl => ?_) (fun hWhl => ?_))))
local macro_rules | `(tactic| walk_at "call builtin:list.append") => `(tactic| (k_here; (try dsimp only [List.cons_append, List.nil_append]); k_dflt (refine' append_K ?k1 ?k2 ?k3 ?_ ?z; (case k1 => k_asm); (case k2 => k_asm); (case k3 => k_upd); (case z => ((try simp only [Array.size_push, List.size_toArray]); (rw [PySem.sizeLine_eq]); omega)); k_whole); intro h' F' N'; (try k_sweep)))
local macro_rules | `(tactic| walk_at "eval Name") => `(tactic| (k_here; (with_reducible show wpAny _ _ (eval (Expr.Name _ _) (compEnvC _ _ _ _)) _ _ _); k_dflt (first
  | refine LCgL.ld_own (by k_asm) (by k_mem) (by assumption) (by assumption) ?_
  | refine nameG_K (by k_asm) (by k_asm) (by k_asm) (by k_is) ?_ (by rfl) (by rfl) (by rfl) (by decide)
  | refine nameB_any (by k_asm) (by k_asm) (by k_asm) (by k_is) (by boot_by_name) (by decide) ?_ ⟨by rfl, by rfl⟩ ⟨by rfl, by rfl⟩ (by decide)
  | refine kcf_cell (by k_asm) (by rfl) (by k_mem) (by k_asm) ?_)))
local macro_rules | `(tactic| walk_at "eval Name") => `(tactic| (k_here; (with_reducible show wpAny _ _ (eval (Expr.Name _ _) (genEnv _ _ _ _ _ _)) _ _ _); k_dflt (first
  | refine ldVarG (by k_asm) (by assumption) ?_
  | refine nameG_K (by k_asm) (by k_asm) (by k_asm) (by k_is) ?_ (by rfl) (by rfl) (by rfl) (by decide)
  | refine nameB_any (by k_asm) (by k_asm) (by k_asm) (by k_is) (by boot_by_name) (by decide) ?_ ⟨by rfl, by rfl⟩ ⟨by rfl, by rfl⟩ (by decide))))
local macro_rules | `(tactic| walk_at "MINE enterG") => `(tactic| (
  k_with_none
  w_on
  refine' can_introG ?k6 ?k7 (by decide) ?k9 ?kB ?_ ?c2 ?c3 ?c4 ?c5
  case k6 => k_is
  case k7 => k_is
  case k9 => intro s X; first | exact BindsTo.of_eq rfl | exact binds_K X rfl (by k_is) rfl rfl rfl
  case kB => exact locs rfl
  case c5 => decide
  case c2 => exact rfl
  case c3 => exact rfl
  case c4 => exact rfl
  intro dp un gd env outer base g L ps bm ob s h₁ tk B F N X T M Cg hg hl hdp hun G ht hP
  (try dsimp only)
  (try k_fold)))
local macro_rules | `(tactic| walk_at "eval GeneratorExp") => `(tactic| k_extra "eval GeneratorExp")
local macro_rules | `(tactic| walk_at "MINE gen") => `(tactic| (k_dflt (refine' GenExp_S (cl := []) ?kf ?km ?kc ?hh ?hco ?hclos ?hcell ?h0 ?hx ?hkind ?hroom ?hcode ?hgl ?h ?hs; (case kf => k_asm); (case km => k_asm); (case kc => k_asm); (case hh => rfl); (case hco => with_unfolding_all rfl); (case hclos => with_unfolding_all rfl); (case hcell => decide); (case h0 => with_unfolding_all rfl); (case hx => with_unfolding_all rfl); (case hkind => with_unfolding_all rfl); (case hroom => (dsimp only; omega)); (case hcode => with_unfolding_all rfl); (case hgl => with_unfolding_all rfl); (case hs => (intro _; with_unfolding_all rfl)))))
local macro_rules | `(tactic| walk_at "MINE genS") => `(tactic| (
  k_dflt (first | (with_reducible (show GenS _ _ _ _ _ _ _ _ _ _ (Expr.BoolOp _ _ _) _ _ _ _ _ _); refine' GenS.intro false ?k1 ?k2 ?k3 ?k4 ?k5 ?k6 ?k7 ?k8 ?k9 ?el ?ret) | refine' GenS.intro true ?k1 ?k2 ?k3 ?k4 ?k5 ?k6 ?k7 ?k8 ?k9 ?el ?ret);
  (case k2 => k_asm); (case k3 => k_asm); (case k4 => k_updF); (case k5 => k_asm); (case k6 => k_asm); (case k7 => exact TopRead.nolimit (by assumption)); (case k8 => k_asm); (case k9 => k_asm); (case k1 => walk_at "MINE T")))
local macro_rules | `(tactic| walk_at "GenS") => `(tactic| k_extra "GenS")
local macro_rules | `(tactic| walk_at "call builtin:any") => `(tactic| (k_here; k_dflt (refine' any_false ?k1 ?k2 ?k3 ?k4 ?k5 ?k6 ?k7 ?_; (case k1 => k_asm); (case k2 => k_asm); (case k3 => k_asm); (case k4 => assumption); (case k5 => assumption); (case k6 => assumption); (case k7 => assumption)); intro s' F' N' G' os'; (try k_sweep)))
local macro_rules | `(tactic| walk_at "call builtin:all") => `(tactic| (k_here; k_dflt (refine' all_true ?k1 ?k2 ?k3 ?k4 ?k5 ?k6 ?k7 ?_; (case k1 => k_asm); (case k2 => k_asm); (case k3 => k_asm); (case k4 => assumption); (case k5 => assumption); (case k6 => assumption); (case k7 => assumption)); intro s' F' N' G' os'; (try k_sweep)))
local macro_rules | `(tactic| walk_at "call builtin:str.lower") => `(tactic| ((try dsimp only [List.cons_append, List.nil_append]); (with_reducible show wpAny _ _ (call (Value.builtin "str.lower") [Value.str _ _]) _ _ _); k_dflt (refine' lowerT ?k1 ?k2 ?k3 ?_; (case k1 => walk_at "MINE T"); (case k2 => assumption); (case k3 => walk_at "MINE len"); k_whole); intro t' tk'))
local macro_rules | `(tactic| walk_at "call builtin:str.rfind") => `(tactic| ((try dsimp only [List.cons_append, List.nil_append]); (with_reducible show wpAny _ _ (call (Value.builtin "str.rfind") [Value.str _ _, Value.str _ _]) _ _ _); k_dflt (refine' rfindT ?k1 ?k2 ?k3 ?_; (case k1 => walk_at "MINE T"); (case k2 => walk_at "MINE T"); (case k3 => assumption); k_whole); intro t' tk'))
local macro_rules | `(tactic| walk_at "subscriptTail Name Slice str ref") => `(tactic| (k_here; k_dflt (first
  | ((with_reducible show wpAny _ _ (subscriptTail _ (PySem.Expr.Slice (some _) none none _) (Value.str _ _) (Value.ref _)) _ _ _); first
    | (refine' sliceT_from (s := ⟨_, _, _, _, _⟩) ?k1 ?k2 ?k3 ?k4 ?k5 ?k6 ?_; (case k4 => first | decide | omega))
    | (refine' sliceT_from_neg (s := ⟨_, _, _, _, _⟩) ?k1 ?k2 ?k3 ?k4 ?k5 ?k6 ?_; (case k4 => first | decide | omega)))
  | ((with_reducible show wpAny _ _ (subscriptTail _ (PySem.Expr.Slice none (some _) none _) (Value.str _ _) (Value.ref _)) _ _ _); first
    | (refine' sliceT_to (s := ⟨_, _, _, _, _⟩) ?k1 ?k2 ?k3 ?k4 ?k5 ?k6 ?_; (case k4 => first | decide | omega))
    | (refine' sliceT_to_neg (s := ⟨_, _, _, _, _⟩) ?k1 ?k2 ?k3 ?k4 ?k5 ?k6 ?_; (case k4 => first | decide | omega)))); (case k1 => walk_at "MINE T"); (case k2 => k_asm); (case k3 => k_asm); (case k5 => walk_at "MINE len"); (case k6 => walk_at "MINE len"); k_whole; intro h' t' k' F' N'; (try k_sweep)))
local macro_rules | `(tactic| walk_at "MINE callG") => `(tactic| ((case k8 => first | exact trivial | walk_at "MINE list" | k_extra "pre"); (case k1 => k_asm); (case k2 => k_asm); (case k3 => k_asm); (case k4 => k_asm); (case k5 => k_asm); (case km => k_asm); (case kc => k_asm); (case k6 => exact rfl); (case k7 => exact rfl); (case k9 => omega); (case k10 => omega); (case k11 => assumption); (case k12 => k_updF); (case k13 => assumption)))
local macro_rules | `(tactic| walk_at "MINE retP1") => `(tactic| (intro cc' D' l' n' us' x' s' ps' fx' hi' F' N' o1' o2' ht' G' os'; obtain ⟨tx', ex'⟩ := fx'; subst ex'; (try simp only [LCg.Off1, and_true] at o1'); (try simp only [LCg.Off1, and_true] at o2'); (try k_sweep); (try k_fold)))
local macro_rules | `(tactic| walk_at "MINE retP2") => `(tactic| (intro cc' D' s' ps' F' N' o1' ht' G' os'; (try simp only [LCg.Off1, and_true] at o1'); (try k_sweep); (try k_fold)))
local macro_rules | `(tactic| walk_at "MINE retO1") => `(tactic| (intro r' er' D' us' n' h' tk' F' N' o1' hi'; (try simp only [LCg.Off1, and_true] at o1'); (try k_sweep); (try k_fold)))
local macro_rules | `(tactic| walk_at "MINE retO2") => `(tactic| (intro er' h' tk' F' N'; (try k_sweep); (try k_fold)))
local macro_rules | `(tactic| walk_at "MINE retO") => `(tactic| (all_goals (first | walk_at "MINE retO1" | walk_at "MINE retO2")))
local macro_rules | `(tactic| walk_at "MINE retP") => `(tactic| (all_goals (first | walk_at "MINE retP1" | walk_at "MINE retP2")))
local macro_rules | `(tactic| walk_at "call builtin:len") => `(tactic| ((with_reducible show wpAny _ _ (call (Value.builtin "len") [Value.ref _]) _ _ _); k_dflt (refine' lenL_N ?k1 ?k2 ?k3 ?_; (case k1 => walk_at "MINE list"); (case k2 => walk_at "MINE ints"); (case k3 => walk_at "MINE len"); k_whole); intro t' tk'))
local macro_rules | `(tactic| walk_at "MINE itemI") => `(tactic| ((with_reducible show wpAny _ _ (subscriptTail _ _ (Value.ref _) (Value.int _ _)) _ _ _); k_dflt (refine' itemI_N ?k1 ?k2 ?k3 ?k4 ?k5 ?_; (case k1 => walk_at "MINE list"); (case k2 => walk_at "MINE ints"); (case k3 => first | decide | omega | k_extra "idx"); (case k4 => first | ((try simp only [List.length_cons, List.length_nil, List.length_append, List.length_map]); omega) | k_extra "idx"); (case k5 => walk_at "MINE len"); k_whole); intro t'))
local macro_rules | `(tactic| walk_at "MINE retS") => `(tactic| (k_whole; intro t' h' tk' F' N'; (try k_sweep); (try k_fold)))
local macro_rules | `(tactic| walk_at "MINE retD1") => `(tactic| (intro x' ns' er' D' l' n' us' tx' s' ps' hi' F' N' o1' o2' ht' G' os'; (try simp only [LCg.Off1, and_true] at o1'); (try simp only [LCg.Off1, and_true] at o2'); (try k_sweep); (try k_fold)))
local macro_rules | `(tactic| walk_at "MINE retD2") => `(tactic| (intro er' D' s' ps' F' N' o1' ht' G' os'; (try simp only [LCg.Off1, and_true] at o1'); (try k_sweep); (try k_fold)))
local macro_rules | `(tactic| walk_at "MINE retD") => `(tactic| (all_goals (first | walk_at "MINE retD1" | walk_at "MINE retD2")))
local macro_rules | `(tactic| k_ne) => `(tactic| (refine neN ?_; (try dsimp only); first | with_reducible assumption | with_reducible exact Ne.symm (by assumption) | omega))
local macro_rules | `(tactic| kun_lst) => `(tactic| exact base_list (by k_asm) (by assumption))
local macro_rules | `(tactic| walk_at "MINE compA") => `(tactic| k_dflt (refine LCg.Assign_ListComp_U (F₀ := by k_asm) (by rfl) (by with_unfolding_all rfl) (by with_unfolding_all rfl) (by decide) (by rfl) (by decide) (by rfl) (by rfl) (by rfl) ?_))
local macro_rules | `(tactic| walk_at "storeName") => `(tactic| (k_here; k_dflt (refine' storeX_C ?mF ?mN ?mc ?mU ?md ?_ ?ma ?mb; (case ma => rfl); (case mb => rfl); (case mF => k_asm); (case mN => k_asm); (case mc => rfl); (case mU => k_updF); (case md => k_asm); k_whole; intro h' o' F' N' d'; (try dsimp only at N'); (try k_sweep))))
local macro_rules | `(tactic| walk_at "storeName") => `(tactic| (k_here; k_dflt (refine' storeX_L ?mF ?mN ?_ ?ma ?mb; (case mF => k_asm); (case mN => k_asm); (case ma => rfl); (case mb => rfl); k_whole; intro h' F' N'; (try k_sweep))))

section
def turnI (top c i : Int) : Int := Builtin.bitXor c (if Builtin.bitAnd (top.fdiv (2 ^ i.toNat)) 1 = 0 then 0 else ([996825010, 642813549, 513874426, 1027748829, 705979059] : List Int).getD i.toNat 0)
def startI (c v : Int) : Int := Builtin.bitXor (Builtin.bitAnd c 33554431 * 2 ^ Int.toNat 5) v
def inI (c v : Int) (is : List Int) : Int := is.foldl (turnI (c.fdiv (2 ^ Int.toNat 25))) (startI c v)
def stepI (c v : Int) : Int := inI c v [0, 1, 2, 3, 4]
def polyI (ns : List Int) : Int := ns.foldl stepI 1
theorem polyI_snoc (ns : List Int) (v : Int) : polyI (ns ++ [v]) = stepI (polyI ns) v := by simp [polyI]
theorem inI_snoc (c v : Int) (is : List Int) (i : Int) : inI c v (is ++ [i]) = turnI (c.fdiv (2 ^ Int.toNat 25)) (inI c v is) i := by simp [inI]
theorem polyI_nil : 1 = polyI [] := rfl
theorem st_in1 {c p v : Int} (h : c = p) : Builtin.bitXor (Builtin.bitAnd c 33554431 * 2 ^ Int.toNat 5) v = inI p v [] := by subst h; rfl
theorem st_in2 {c p v d i : Int} {is : List Int} (h : c = p) (hd : d = inI p v is) (hc : Builtin.bitAnd ((c.fdiv (2 ^ Int.toNat 25)).fdiv (2 ^ i.toNat)) 1 ≠ 0) :
    Builtin.bitXor d (([996825010, 642813549, 513874426, 1027748829, 705979059] : List Int).getD i.toNat 0) = inI p v (is ++ [i]) := by
  subst h hd; rw [inI_snoc, turnI, if_neg hc]
theorem st_in3 {c p v d i : Int} {is : List Int} (h : c = p) (hd : d = inI p v is) (hc : Builtin.bitAnd ((c.fdiv (2 ^ Int.toNat 25)).fdiv (2 ^ i.toNat)) 1 = 0) :
    Builtin.bitXor d 0 = inI p v (is ++ [i]) := by
  subst h hd; rw [inI_snoc, turnI, if_pos hc]
theorem st_out {d v : Int} {pre : List Int} (hd : d = inI (polyI pre) v (rangeKs 0 ((5 : Int) - 0).toNat)) : d = polyI (pre ++ [v]) := by
  rw [hd, polyI_snoc]; rfl

set_option maxHeartbeats 4000000 in
theorem c_polymod {w : World} {mg mb : Str → Option Value} {l : Addr} {vs : List Value} {ns : List Int} (hi : IntsAre vs ns) :
    Can w mg mb 21 [.ref l] 1 8 (fun g => g.IsList l vs.toArray) (fun _ _ v => ∃ t, v = .int (polyI ns) t) := by
  have hK : hd.heap_39 w.params = hd.heap_39 w.params ∧ PySem.Challenge.rw_sx0008_01 = PySem.Challenge.rw_sx0008_01 := ⟨rfl, rfl⟩
  revert hK
  k_fill
  intro hK
  w_on
  refine' can_intro ?k6 ?k7 (by decide) ?k9 ?kB ?_ ?c2 ?c3 ?c4 ?c5
  case k6 => k_is
  case k7 => k_is
  case k9 => intro s X; exact BindsTo.of_eq rfl
  case kB => exact locs rfl
  case c5 => decide
  case c2 => exact rfl
  case c3 => exact rfl
  case c4 => exact rfl
  intro dp un gd env outer base L s h₁ tk B F N X T hl hdp hun
  (try dsimp only)
  k_fold
  k_with "pyIter ref" => (k_of "value" => k_state (fun pre c => c = polyI pre) "chk")
  k_with "pyIter ref" => (k_of "i" => k_state_short (fun pre c => c = inI (polyI kPre) kN pre) "chk")
  k_with "state" => first
    | with_reducible exact polyI_nil
    | with_reducible exact st_in1 (by assumption)
    | with_reducible exact st_in2 (by assumption) (by assumption) (by assumption)
    | with_reducible exact st_in3 (by assumption) (by assumption) (by assumption)
    | with_reducible exact st_in3 (by assumption) (by assumption) (Decidable.not_not.mp (by assumption))
    | with_reducible exact st_out (by assumption)
  k_steps
  all_goals (try dsimp only)
  all_goals (try k_unfold)
  exact Fin.intro (by k_asm) ⟨_, by congr⟩
end

section
def hiI (c : Nat) : Int := ((c : Nat) : Int).fdiv (2 ^ Int.toNat 5)
def loI (c : Nat) : Int := Builtin.bitAnd ((c : Nat) : Int) 31
def hrpI (x : Str) : List Int := (x.cps.toList.map hiI) ++ [0] ++ (x.cps.toList.map loI)

set_option maxHeartbeats 4000000 in
theorem c_hrp {w : World} {mg mb : Str → Option Value} {x : Str} {t : Tok} (hx : x.length ≤ 100) :
    Can w mg mb 26 [.str x t] 1 8 (fun _ => True) (listPost (hrpI x)) := by
  have hK : hd.heap_39 w.params = hd.heap_39 w.params ∧ PySem.Challenge.rw_sx0008_01 = PySem.Challenge.rw_sx0008_01 := ⟨rfl, rfl⟩
  revert hK
  k_fill
  intro hK
  walk_at "MINE enter"
  have hx' : x.cps.size ≤ 100 := hx
  k_with "eval ListComp" => walk_at "MINE compS"
  k_with "SrcS" => (refine SrcS.intro (by rfl) (by k_asm) (by k_asm) (by omega) ?_; intro g'; (first
    | ((with_reducible show LCg.CompRest _ _ _ _ _ _ _ (Expr.BinOp _ Operator.RShift _ _) _ _ _ _ _ _ _ _ _ _ _); (refine comp_str_int hiI (fun kPre k kPost t I oI C oC D m₂ ys h tk E' kEq hC hx F' N' off' ne' => ?_) (fun ys hys => ?_)))
    | (refine comp_str_int loI (fun kPre k kPost t I oI C oC D m₂ ys h tk E' kEq hC hx F' N' off' ne' => ?_) (fun ys hys => ?_))))
  k_with "elem" => exact ⟨_, rfl⟩
  k_steps
  all_goals (try dsimp only)
  all_goals (try k_unfold)
  exact Fin.list (by k_asm) (by k_asm) (by k_mem) (by assumption)
end

section
set_option maxHeartbeats 4000000 in
theorem c_verify {w : World} {mg mb : Str → Option Value} {x : Str} {t : Tok} {l : Addr} {vs : List Value} {ns : List Int} (hx : x.length ≤ 100) (hi : IntsAre vs ns) (hn : ns.length ≤ 200) :
    Can w mg mb 33 [.str x t, .ref l] 2 20 (fun g => g.IsList l vs.toArray) (fun _ _ v => v = .bool (decide (polyI (hrpI x ++ ns) = 1))) := by
  have hK : hd.heap_39 w.params = hd.heap_39 w.params ∧ PySem.Challenge.rw_sx0008_01 = PySem.Challenge.rw_sx0008_01 := ⟨rfl, rfl⟩
  revert hK
  k_fill
  intro hK
  walk_at "MINE enter"
  have hx' : x.cps.size ≤ 100 := hx
  have hlen : (hrpI x).length ≤ 201 := by simp [hrpI]; omega
  k_with "call ref" => k_dflt (first
    | (refine' useL (c_hrp ?c1) ?k1 ?k2 ?k3 ?k4 ?k5 ?k6 ?k7 ?k8 ?k9 ?k10 ?_; (walk_at "MINE call"); (case c1 => assumption); walk_at "MINE retL")
    | (refine' useI (c_polymod ?c1) ?k1 ?k2 ?k3 ?k4 ?k5 ?k6 ?k7 ?k8 ?k9 ?k10 ?_; (walk_at "MINE call"); (case c1 => walk_at "MINE ints"); walk_at "MINE retI"))
  k_steps
  all_goals (try dsimp only)
  all_goals (try k_unfold)
  exact Fin.intro (by k_asm) rfl
end

section
def digI (p : Int) (i : Int) : Int := Builtin.bitAnd (p.fdiv (2 ^ (5 * (5 - i)).toNat)) 31
def createI (x : Str) (ns : List Int) : List Int := (rangeKs 0 6).map (digI (Builtin.bitXor (polyI (hrpI x ++ ns ++ [0, 0, 0, 0, 0, 0])) 1))

set_option maxHeartbeats 4000000 in
theorem c_create {w : World} {mg mb : Str → Option Value} {x : Str} {t : Tok} {l : Addr} {vs : List Value} {ns : List Int} (hx : x.length ≤ 100) (hi : IntsAre vs ns) (hn : ns.length ≤ 200) :
    Can w mg mb 38 [.str x t, .ref l] 2 20 (fun g => g.IsList l vs.toArray) (listPost (createI x ns)) := by
  have hK : hd.heap_39 w.params = hd.heap_39 w.params ∧ PySem.Challenge.rw_sx0008_01 = PySem.Challenge.rw_sx0008_01 := ⟨rfl, rfl⟩
  revert hK
  k_fill
  intro hK
  walk_at "MINE enterC"
  have hx' : x.cps.size ≤ 100 := hx
  have hlen : (hrpI x).length ≤ 201 := by simp [hrpI]; omega
  k_with "call ref" => k_dflt (first
    | (refine' useL (c_hrp ?c1) ?k1 ?k2 ?k3 ?k4 ?k5 ?k6 ?k7 ?k8 ?k9 ?k10 ?_; (walk_at "MINE call"); (case c1 => assumption); walk_at "MINE retL")
    | (refine' useI (c_polymod ?c1) ?k1 ?k2 ?k3 ?k4 ?k5 ?k6 ?k7 ?k8 ?k9 ?k10 ?_; (walk_at "MINE call"); (case c1 => walk_at "MINE ints"); walk_at "MINE retI"))
  k_with "eval ListComp" => walk_at "MINE comp"
  k_with "CompSrc" => (walk_at "MINE srcR"; (refine comp_range_int (digI (Builtin.bitXor (polyI (hrpI x ++ ns ++ [0, 0, 0, 0, 0, 0])) 1)) (fun k t I oI C oC D m₂ ys h tk E' kLo kHi hC hx F' N' off' ne' => ?_) (fun ys hys => ?_)))
  k_with "elem" => exact ⟨_, rfl⟩
  k_steps
  all_goals (try dsimp only)
  all_goals (try k_unfold)
  exact Fin.list (by k_asm) (by k_asm) (by k_mem) (by assumption)
end

section
def sgn (k : Int) : Nat := charset.getD k.toNat 0
def sgnT (k : Int) : Str := T [sgn k]
def encT (cs : List Nat) (ns : List Int) : List Nat := cs ++ [49] ++ (ns ++ createI (T cs) ns).map sgn
theorem create_bounds (x : Str) (ns : List Int) : ∀ n ∈ createI x ns, 0 ≤ n ∧ n < 32 := by
  intro n hn
  obtain ⟨i, _, rfl⟩ := List.mem_map.mp hn
  unfold digI
  rw [bitAnd_m5]
  omega
theorem create_len (x : Str) (ns : List Int) : (createI x ns).length = 6 := by simp [createI, rangeKs]
set_option maxHeartbeats 4000000 in
theorem c_benc {w : World} {mg mb : Str → Option Value} {cs : List Nat} {t : Tok} {l : Addr} {vs : List Value} {ns : List Int} (hx : cs.length ≤ 100) (hi : IntsAre vs ns) (hn : ns.length ≤ 200) (hb : ∀ n ∈ ns, 0 ≤ n ∧ n < 32) :
    Can w mg mb 43 [.str (T cs) t, .ref l] 3 40 (fun g => g.IsList l vs.toArray) (fun _ _ v => ∃ t, v = .str (T (encT cs ns)) t) := by
  have hK : hd.heap_39 w.params = hd.heap_39 w.params ∧ PySem.Challenge.rw_sx0008_01 = PySem.Challenge.rw_sx0008_01 := ⟨rfl, rfl⟩
  revert hK
  k_fill
  intro hK
  walk_at "MINE enter"
  have hlen := create_len (T cs) ns
  have hb2 : ∀ n ∈ ns ++ createI (T cs) ns, 0 ≤ n ∧ n < 32 := fun n hn => (List.mem_append.mp hn).elim (hb n) (create_bounds _ _ n)
  k_with "call ref" => k_dflt (refine' useL (c_create ?c1 ?c2 ?c3) ?k1 ?k2 ?k3 ?k4 ?k5 ?k6 ?k7 ?k8 ?k9 ?k10 ?_; (walk_at "MINE call"); (case c2 => walk_at "MINE ints"); (case c1 => rw [T_len]; assumption); (case c3 => assumption); walk_at "MINE retL")
  k_with "eval ListComp" => walk_at "MINE comp"
  k_with "CompSrc" => (walk_at "MINE srcL"; (refine comp_list_str sgnT (fun n => 0 ≤ n ∧ n < 32) (by assumption) (by assumption) (fun k t I oI C oC D m₂ ys h tk E' hk hC hx F' N' off' ne' => ?_) (fun ys hys => ?_)); (case' refine_1 => obtain ⟨hk0, hk1⟩ := hk))
  k_with "elem" => exact ⟨_, rfl⟩
  k_steps
  all_goals (try dsimp only)
  all_goals (try k_unfold)
  exact Fin.intro (by k_asm) ⟨_, rfl⟩
end

section
theorem fdiv8 {v : Int} (h0 : 0 ≤ v) (h1 : v < 256) : v.fdiv (2 ^ Int.toNat 8) = 0 := by
  show v.fdiv 256 = 0
  rw [Int.fdiv_eq_ediv_of_nonneg _ (by decide)]; omega
theorem and_bounds (a b : Int) (h0 : 0 ≤ b) : 0 ≤ Builtin.bitAnd a b ∧ Builtin.bitAnd a b ≤ b := by
  by_cases ha : 0 ≤ a
  · rw [bitAnd_pp ha h0]
    have := Nat.and_le_right (n := a.toNat) (m := b.toNat)
    omega
  · rw [bitAnd_np (by omega) h0]
    have := Nat.and_le_left (n := b.toNat) (m := (Builtin.bitNot a).toNat)
    omega
theorem ints_snoc {us : List Value} {ns : List Int} {x : Int} {t : Tok} (hi : IntsAre us ns) : IntsAre (us ++ [.int x t]) (ns ++ [x]) := hi.append (.cons x t .nil)
def acc85 (acc v : Int) : Int := Builtin.bitAnd (Builtin.bitOr (acc * 2 ^ Int.toNat 8) v) (1 * 2 ^ Int.toNat (8 + 5 - 1) - 1)
def grp5 (acc b : Int) : Int := Builtin.bitAnd (acc.fdiv (2 ^ b.toNat)) (1 * 2 ^ Int.toNat 5 - 1)
def st85 (s : Int × Int × List Int) (v : Int) : Int × Int × List Int :=
  if 5 ≤ s.2.1 + 8 - 5 then (acc85 s.1 v, s.2.1 + 8 - 5 - 5, s.2.2 ++ [grp5 (acc85 s.1 v) (s.2.1 + 8 - 5)] ++ [grp5 (acc85 s.1 v) (s.2.1 + 8 - 5 - 5)])
  else (acc85 s.1 v, s.2.1 + 8 - 5, s.2.2 ++ [grp5 (acc85 s.1 v) (s.2.1 + 8 - 5)])
def run85 (ns : List Int) : Int × Int × List Int := ns.foldl st85 (0, 0, [])
def fin85 (s : Int × Int × List Int) : List Int := if s.2.1 = 0 then s.2.2 else s.2.2 ++ [Builtin.bitAnd (s.1 * 2 ^ (5 - s.2.1).toNat) (1 * 2 ^ Int.toNat 5 - 1)]
def cv85 (ns : List Int) : List Int := fin85 (run85 ns)
theorem run85_snoc (ns : List Int) (v : Int) : run85 (ns ++ [v]) = st85 (run85 ns) v := by simp [run85]
theorem acc85_b (acc v : Int) : 0 ≤ acc85 acc v ∧ acc85 acc v < 4096 := by
  have := and_bounds (Builtin.bitOr (acc * 2 ^ Int.toNat 8) v) (1 * 2 ^ Int.toNat (8 + 5 - 1) - 1) (by decide)
  have e : (1 * 2 ^ Int.toNat (8 + 5 - 1) - 1 : Int) = 4095 := by decide
  unfold acc85; omega
theorem w85s : run85 [] = (0, 0, []) ∧ (0 : Int) ≤ 0 ∧ (0 : Int) < 4096 ∧ (0 : Int) ≤ 0 ∧ (0 : Int) < 5 ∧ ([] : List Int).length ≤ 2 * ([] : List Int).length := ⟨rfl, by omega, by omega, by omega, by omega, Nat.le_refl _⟩
theorem w85a {acc bits v : Int} {ret pre : List Int} (hr : run85 pre = (acc, bits, ret)) (hb0 : 0 ≤ bits) (hb1 : bits < 5) (hl : ret.length ≤ 2 * pre.length) (hW : 5 ≤ bits + 8 - 5) :
    run85 (pre ++ [v]) = (Builtin.bitAnd (Builtin.bitOr (acc * 2 ^ Int.toNat 8) v) (1 * 2 ^ Int.toNat (8 + 5 - 1) - 1), bits + 8 - 5 - 5,
      ret ++ [Builtin.bitAnd ((Builtin.bitAnd (Builtin.bitOr (acc * 2 ^ Int.toNat 8) v) (1 * 2 ^ Int.toNat (8 + 5 - 1) - 1)).fdiv (2 ^ (bits + 8 - 5).toNat)) (1 * 2 ^ Int.toNat 5 - 1)] ++
        [Builtin.bitAnd ((Builtin.bitAnd (Builtin.bitOr (acc * 2 ^ Int.toNat 8) v) (1 * 2 ^ Int.toNat (8 + 5 - 1) - 1)).fdiv (2 ^ (bits + 8 - 5 - 5).toNat)) (1 * 2 ^ Int.toNat 5 - 1)]) ∧
    0 ≤ Builtin.bitAnd (Builtin.bitOr (acc * 2 ^ Int.toNat 8) v) (1 * 2 ^ Int.toNat (8 + 5 - 1) - 1) ∧ Builtin.bitAnd (Builtin.bitOr (acc * 2 ^ Int.toNat 8) v) (1 * 2 ^ Int.toNat (8 + 5 - 1) - 1) < 4096 ∧
    0 ≤ bits + 8 - 5 - 5 ∧ bits + 8 - 5 - 5 < 5 ∧
    (ret ++ [Builtin.bitAnd ((Builtin.bitAnd (Builtin.bitOr (acc * 2 ^ Int.toNat 8) v) (1 * 2 ^ Int.toNat (8 + 5 - 1) - 1)).fdiv (2 ^ (bits + 8 - 5).toNat)) (1 * 2 ^ Int.toNat 5 - 1)] ++
        [Builtin.bitAnd ((Builtin.bitAnd (Builtin.bitOr (acc * 2 ^ Int.toNat 8) v) (1 * 2 ^ Int.toNat (8 + 5 - 1) - 1)).fdiv (2 ^ (bits + 8 - 5 - 5).toNat)) (1 * 2 ^ Int.toNat 5 - 1)]).length ≤ 2 * (pre ++ [v]).length := by
  refine ⟨?_, (acc85_b acc v).1, (acc85_b acc v).2, by omega, by omega, by simp only [List.length_append, List.length_cons, List.length_nil]; omega⟩
  rw [run85_snoc, hr, st85, if_pos hW]; rfl
theorem w85b {acc bits v : Int} {ret pre : List Int} (hr : run85 pre = (acc, bits, ret)) (hb0 : 0 ≤ bits) (hb1 : bits < 5) (hl : ret.length ≤ 2 * pre.length) (hW : ¬ 5 ≤ bits + 8 - 5) :
    run85 (pre ++ [v]) = (Builtin.bitAnd (Builtin.bitOr (acc * 2 ^ Int.toNat 8) v) (1 * 2 ^ Int.toNat (8 + 5 - 1) - 1), bits + 8 - 5,
      ret ++ [Builtin.bitAnd ((Builtin.bitAnd (Builtin.bitOr (acc * 2 ^ Int.toNat 8) v) (1 * 2 ^ Int.toNat (8 + 5 - 1) - 1)).fdiv (2 ^ (bits + 8 - 5).toNat)) (1 * 2 ^ Int.toNat 5 - 1)]) ∧
    0 ≤ Builtin.bitAnd (Builtin.bitOr (acc * 2 ^ Int.toNat 8) v) (1 * 2 ^ Int.toNat (8 + 5 - 1) - 1) ∧ Builtin.bitAnd (Builtin.bitOr (acc * 2 ^ Int.toNat 8) v) (1 * 2 ^ Int.toNat (8 + 5 - 1) - 1) < 4096 ∧
    0 ≤ bits + 8 - 5 ∧ bits + 8 - 5 < 5 ∧
    (ret ++ [Builtin.bitAnd ((Builtin.bitAnd (Builtin.bitOr (acc * 2 ^ Int.toNat 8) v) (1 * 2 ^ Int.toNat (8 + 5 - 1) - 1)).fdiv (2 ^ (bits + 8 - 5).toNat)) (1 * 2 ^ Int.toNat 5 - 1)]).length ≤ 2 * (pre ++ [v]).length := by
  refine ⟨?_, (acc85_b acc v).1, (acc85_b acc v).2, by omega, by omega, by simp only [List.length_append, List.length_cons, List.length_nil]; omega⟩
  rw [run85_snoc, hr, st85, if_neg hW]; rfl
theorem f85a {acc bits : Int} {ret ns : List Int} (hr : run85 ns = (acc, bits, ret)) (h : bits = 0) : ret = cv85 ns := by rw [cv85, hr, fin85, if_pos h]
theorem f85b {acc bits : Int} {ret ns : List Int} (hr : run85 ns = (acc, bits, ret)) (h : bits ≠ 0) : ret ++ [Builtin.bitAnd (acc * 2 ^ (5 - bits).toNat) (1 * 2 ^ Int.toNat 5 - 1)] = cv85 ns := by rw [cv85, hr, fin85, if_neg h]
set_option maxHeartbeats 4000000 in
theorem c_cv85 {w : World} {mg mb : Str → Option Value} {l : Addr} {vs : List Value} {ns : List Int} (hi : IntsAre vs ns) (hn : ns.length ≤ 100) (hb : ∀ n ∈ ns, 0 ≤ n ∧ n < 256) {t1 t2 : Tok} :
    Can w mg mb 56 [.ref l, .int 8 t1, .int 5 t2] 1 10 (fun g => g.IsList l vs.toArray) (listPost (cv85 ns)) := by
  have hK : hd.heap_39 w.params = hd.heap_39 w.params ∧ PySem.Challenge.rw_sx0008_01 = PySem.Challenge.rw_sx0008_01 := ⟨rfl, rfl⟩
  revert hK
  k_fill
  intro hK
  k_with_none
  w_on
  refine' can_intro ?k6 ?k7 (by decide) ?k9 ?kB ?_ ?c2 ?c3 ?c4 ?c5
  case k6 => k_is
  case k7 => k_is
  case k9 => intro s X; exact binds_K X rfl (by k_is) rfl rfl rfl
  case kB => exact locs rfl
  case c5 => decide
  case c2 => exact rfl
  case c3 => exact rfl
  case c4 => exact rfl
  intro dp un gd env outer base L s h₁ tk B F N X T hl hdp hun
  (try dsimp only)
  k_fold
  k_with "pyIter ref" => (k_state (fun pre acc bits ret => run85 pre = (acc, bits, ret) ∧ 0 ≤ acc ∧ acc < 4096 ∧ 0 ≤ bits ∧ bits < 5 ∧ ret.length ≤ 2 * pre.length) "acc" "bits" "ret"; all_goals (try (have hkN := hb kN kMem; obtain ⟨hk0, hk1⟩ := hkN)))
  k_with "state" => first
    | with_reducible exact w85s
    | with_reducible exact w85a (by assumption) (by assumption) (by assumption) (by assumption) (by assumption)
    | with_reducible exact w85b (by assumption) (by assumption) (by assumption) (by assumption) (by assumption)

  k_steps
  all_goals (try dsimp only)
  all_goals (try k_unfold)
  all_goals (try simp only [List.push_toArray] at *)
  · exact absurd (fdiv8 hk0 hk1) (by assumption)
  · refine Fin.list (by k_asm) (by k_asm) (by k_mem) ?_
    rw [← f85b (by assumption) (by assumption)]
    exact ints_snoc (by assumption)
  · refine Fin.list (by k_asm) (by k_asm) (by k_mem) ?_
    rw [← f85a (by assumption) (by assumption)]
    assumption
end

section
def optPost (o : Option (List Int)) (g h' : Heap) (v : Value) : Prop := match o with
  | some r => listPost r g h' v
  | none => v = .none
theorem fdiv5 {v : Int} (h0 : 0 ≤ v) (h1 : v < 32) : v.fdiv (2 ^ Int.toNat 5) = 0 := by
  show v.fdiv 32 = 0
  rw [Int.fdiv_eq_ediv_of_nonneg _ (by decide)]; omega
def acc58 (acc v : Int) : Int := Builtin.bitAnd (Builtin.bitOr (acc * 2 ^ Int.toNat 5) v) (1 * 2 ^ Int.toNat (5 + 8 - 1) - 1)
def grp8 (acc b : Int) : Int := Builtin.bitAnd (acc.fdiv (2 ^ b.toNat)) (1 * 2 ^ Int.toNat 8 - 1)
def st58 (s : Int × Int × List Int) (v : Int) : Int × Int × List Int :=
  if 8 ≤ s.2.1 + 5 then (acc58 s.1 v, s.2.1 + 5 - 8, s.2.2 ++ [grp8 (acc58 s.1 v) (s.2.1 + 5 - 8)]) else (acc58 s.1 v, s.2.1 + 5, s.2.2)
def run58 (ns : List Int) : Int × Int × List Int := ns.foldl st58 (0, 0, [])
def fin58 (s : Int × Int × List Int) : Option (List Int) := if 5 ≤ s.2.1 then none else if Builtin.bitAnd (s.1 * 2 ^ (8 - s.2.1).toNat) (1 * 2 ^ Int.toNat 8 - 1) = 0 then some s.2.2 else none
def cv58 (ns : List Int) : Option (List Int) := fin58 (run58 ns)
theorem run58_snoc (ns : List Int) (v : Int) : run58 (ns ++ [v]) = st58 (run58 ns) v := by simp [run58]
theorem acc58_b (acc v : Int) : 0 ≤ acc58 acc v ∧ acc58 acc v < 4096 := by
  have := and_bounds (Builtin.bitOr (acc * 2 ^ Int.toNat 5) v) (1 * 2 ^ Int.toNat (5 + 8 - 1) - 1) (by decide)
  have e : (1 * 2 ^ Int.toNat (5 + 8 - 1) - 1 : Int) = 4095 := by decide
  unfold acc58; omega
theorem w58s : run58 [] = (0, 0, []) ∧ (0 : Int) ≤ 0 ∧ (0 : Int) < 4096 ∧ (0 : Int) ≤ 0 ∧ (0 : Int) < 8 ∧ ([] : List Int).length ≤ ([] : List Int).length := ⟨rfl, by omega, by omega, by omega, by omega, Nat.le_refl _⟩
theorem w58a {acc bits v : Int} {ret pre : List Int} (hr : run58 pre = (acc, bits, ret)) (hb0 : 0 ≤ bits) (hb1 : bits < 8) (hl : ret.length ≤ pre.length) (hW : 8 ≤ bits + 5) :
    run58 (pre ++ [v]) = (Builtin.bitAnd (Builtin.bitOr (acc * 2 ^ Int.toNat 5) v) (1 * 2 ^ Int.toNat (5 + 8 - 1) - 1), bits + 5 - 8,
      ret ++ [Builtin.bitAnd ((Builtin.bitAnd (Builtin.bitOr (acc * 2 ^ Int.toNat 5) v) (1 * 2 ^ Int.toNat (5 + 8 - 1) - 1)).fdiv (2 ^ (bits + 5 - 8).toNat)) (1 * 2 ^ Int.toNat 8 - 1)]) ∧
    0 ≤ Builtin.bitAnd (Builtin.bitOr (acc * 2 ^ Int.toNat 5) v) (1 * 2 ^ Int.toNat (5 + 8 - 1) - 1) ∧ Builtin.bitAnd (Builtin.bitOr (acc * 2 ^ Int.toNat 5) v) (1 * 2 ^ Int.toNat (5 + 8 - 1) - 1) < 4096 ∧
    0 ≤ bits + 5 - 8 ∧ bits + 5 - 8 < 8 ∧
    (ret ++ [Builtin.bitAnd ((Builtin.bitAnd (Builtin.bitOr (acc * 2 ^ Int.toNat 5) v) (1 * 2 ^ Int.toNat (5 + 8 - 1) - 1)).fdiv (2 ^ (bits + 5 - 8).toNat)) (1 * 2 ^ Int.toNat 8 - 1)]).length ≤ (pre ++ [v]).length := by
  refine ⟨?_, (acc58_b acc v).1, (acc58_b acc v).2, by omega, by omega, by simp only [List.length_append, List.length_cons, List.length_nil]; omega⟩
  rw [run58_snoc, hr, st58, if_pos hW]; rfl
theorem w58b {acc bits v : Int} {ret pre : List Int} (hr : run58 pre = (acc, bits, ret)) (hb0 : 0 ≤ bits) (hb1 : bits < 8) (hl : ret.length ≤ pre.length) (hW : ¬ 8 ≤ bits + 5) :
    run58 (pre ++ [v]) = (Builtin.bitAnd (Builtin.bitOr (acc * 2 ^ Int.toNat 5) v) (1 * 2 ^ Int.toNat (5 + 8 - 1) - 1), bits + 5, ret) ∧
    0 ≤ Builtin.bitAnd (Builtin.bitOr (acc * 2 ^ Int.toNat 5) v) (1 * 2 ^ Int.toNat (5 + 8 - 1) - 1) ∧ Builtin.bitAnd (Builtin.bitOr (acc * 2 ^ Int.toNat 5) v) (1 * 2 ^ Int.toNat (5 + 8 - 1) - 1) < 4096 ∧
    0 ≤ bits + 5 ∧ bits + 5 < 8 ∧ ret.length ≤ (pre ++ [v]).length := by
  refine ⟨?_, (acc58_b acc v).1, (acc58_b acc v).2, by omega, by omega, by simp only [List.length_append, List.length_cons, List.length_nil]; omega⟩
  rw [run58_snoc, hr, st58, if_neg hW]; rfl
theorem f58a {acc bits : Int} {ret ns : List Int} (hr : run58 ns = (acc, bits, ret)) (h : 5 ≤ bits) : cv58 ns = none := by rw [cv58, hr, fin58, if_pos h]
theorem f58b {acc bits : Int} {ret ns : List Int} (hr : run58 ns = (acc, bits, ret)) (h : ¬ 5 ≤ bits) (h2 : Builtin.bitAnd (acc * 2 ^ (8 - bits).toNat) (1 * 2 ^ Int.toNat 8 - 1) ≠ 0) : cv58 ns = none := by rw [cv58, hr, fin58, if_neg h, if_neg h2]
theorem f58c {acc bits : Int} {ret ns : List Int} (hr : run58 ns = (acc, bits, ret)) (h : ¬ 5 ≤ bits) (h2 : Builtin.bitAnd (acc * 2 ^ (8 - bits).toNat) (1 * 2 ^ Int.toNat 8 - 1) = 0) : cv58 ns = some ret := by rw [cv58, hr, fin58, if_neg h, if_pos h2]
set_option maxHeartbeats 4000000 in
theorem c_cv58 {w : World} {mg mb : Str → Option Value} {l : Addr} {vs : List Value} {ns : List Int} (hi : IntsAre vs ns) (hn : ns.length ≤ 100) (hb : ∀ n ∈ ns, 0 ≤ n ∧ n < 32) {t1 t2 : Tok} :
    Can w mg mb 56 [.ref l, .int 5 t1, .int 8 t2, .bool false] 1 10 (fun g => g.IsList l vs.toArray) (optPost (cv58 ns)) := by
  have hK : hd.heap_39 w.params = hd.heap_39 w.params ∧ PySem.Challenge.rw_sx0008_01 = PySem.Challenge.rw_sx0008_01 := ⟨rfl, rfl⟩
  revert hK
  k_fill
  intro hK
  walk_at "MINE enter"
  k_with "pyIter ref" => (k_state (fun pre acc bits ret => run58 pre = (acc, bits, ret) ∧ 0 ≤ acc ∧ acc < 4096 ∧ 0 ≤ bits ∧ bits < 8 ∧ ret.length ≤ pre.length) "acc" "bits" "ret"; all_goals (try (have hkN := hb kN kMem; obtain ⟨hk0, hk1⟩ := hkN)))
  k_with "state" => first
    | with_reducible exact w58s
    | with_reducible exact w58a (by assumption) (by assumption) (by assumption) (by assumption) (by assumption)
    | with_reducible exact w58b (by assumption) (by assumption) (by assumption) (by assumption) (by assumption)
  k_steps
  all_goals (try dsimp only)
  all_goals (try k_unfold)
  · exact absurd (fdiv5 hk0 hk1) (by assumption)
  · exact Fin.intro (by k_asm) (by rw [f58a (by assumption) (by assumption)]; rfl)
  · exact Fin.intro (by k_asm) (by rw [f58b (by assumption) (by omega) (by assumption)]; rfl)
  · rw [f58c (by assumption) (by omega) (by assumption)]
    exact Fin.list (by k_asm) (by k_asm) (by k_mem) (by assumption)
end

section
theorem sgn_mem {k : Int} (h0 : 0 ≤ k) (h1 : k < 32) : sgn k ∈ charset := by
  unfold sgn
  have : k.toNat < charset.length := by simp [charset]; omega
  rw [List.getD_eq_getElem?_getD, List.getElem?_eq_getElem this, Option.getD_some]
  exact List.getElem_mem this
theorem sgn_pos : ∀ k : _root_.Fin 32, posI charset (charset.getD k.val 0) = (k.val : Int) := by decide +kernel
theorem posI_sgn {k : Int} (h0 : 0 ≤ k) (h1 : k < 32) : posI charset (sgn k) = k := by
  have := sgn_pos ⟨k.toNat, by omega⟩
  simp only at this
  unfold sgn
  rw [this]; omega
theorem charset_plain : ∀ c ∈ charset, plainSign c = true ∧ c ≠ 49 := by decide +kernel
theorem plain_ge {l : List Nat} {k : Nat} (hp : ∀ c ∈ l, plainSign c = true) (hk : k ∈ l) : 33 ≤ k ∧ k < 127 := by
  have := hp k hk
  simp [plainSign] at this
  omega
def addr (cs : List Nat) (ds : List Int) : List Nat := cs ++ 49 :: ds.map sgn
set_option maxHeartbeats 4000000 in
theorem c_bdec {w : World} {mg mb : Str → Option Value} {cs : List Nat} {t : Tok} {ds : List Int} (hx0 : 1 ≤ cs.length) (hx : cs.length ≤ 83) (hp : ∀ c ∈ cs, plainSign c = true) (hn0 : 6 ≤ ds.length) (hn : ds.length ≤ 100) (hb : ∀ n ∈ ds, 0 ≤ n ∧ n < 32) :
    CanG w mg mb 48 [.str (T (addr cs ds)) t] 3 60 (fun _ => True) (fun g h' v => if polyI (hrpI (T cs) ++ ds) = 1 then pairPost (fun x => ∃ t, x = .str (T cs) t) (ds.take (ds.length - 6)) g h' v else noPair g h' v) := by
  have hK : hd.heap_39 w.params = hd.heap_39 w.params ∧ PySem.Challenge.rw_sx0008_01 = PySem.Challenge.rw_sx0008_01 := ⟨rfl, rfl⟩
  revert hK
  k_fill
  intro hK
  walk_at "MINE enterG"
  have hfull : ∀ c ∈ addr cs ds, plainSign c = true := fun c hc => (List.mem_append.mp hc).elim (hp c) fun h => (List.mem_cons.mp h).elim (fun e => e ▸ rfl) fun h => by
    obtain ⟨d, hd, rfl⟩ := List.mem_map.mp h
    exact (charset_plain _ (sgn_mem (hb d hd).1 (hb d hd).2)).1
  have hno : 49 ∉ ds.map sgn := fun h => by
    obtain ⟨d, hd, e⟩ := List.mem_map.mp h
    exact (charset_plain _ (sgn_mem (hb d hd).1 (hb d hd).2)).2 e
  have hmap : (ds.map sgn).map (posI charset) = ds := by
    rw [List.map_map]
    refine (List.map_congr_left fun d hd => ?_).trans (List.map_id _)
    exact posI_sgn (hb d hd).1 (hb d hd).2
  have hflen : (addr cs ds).length = cs.length + 1 + ds.length := by simp [addr]; omega
  k_with "eval GeneratorExp" => walk_at "MINE gen"
  k_with "GenS" => walk_at "MINE genS"
  k_with "len" => omega
  have hch : ∀ c ∈ ds.map sgn, c ∈ charset := fun c hc => by
    obtain ⟨d, hd, rfl⟩ := List.mem_map.mp hc
    exact sgn_mem (hb d hd).1 (hb d hd).2
  have hdrop : (addr cs ds).drop ((cs.length : Int) + 1).toNat = ds.map sgn := by
    rw [show ((cs.length : Int) + 1).toNat = cs.length + 1 from by omega]; simp [addr]
  k_with "T" => exact congrArg T hdrop
  have htake : (addr cs ds).take (cs.length : Int).toNat = cs := by
    rw [show (cs.length : Int).toNat = cs.length from by omega]; simp [addr]
  k_with "call ref" => k_dflt (refine' useB (c_verify (ns := ds) ?c1 ?c2 ?c3) ?k1 ?k2 ?k3 ?k4 ?k5 ?k6 ?k7 ?k8 ?k9 ?k10 ?_; (walk_at "MINE call"); (case c1 => rw [T_len, htake]; omega); (case c2 => assumption); (case c3 => omega); walk_at "MINE retB")
  k_with "exec Assign cons ListComp" => walk_at "MINE compSA"
  k_with "SrcS" => (refine SrcS.intro (by rfl) (by k_asm) (by k_asm) (by rw [T_len, hdrop, List.length_map]; omega) ?_; intro g'; (refine comp_str_int (posI charset) (fun kPre k kPost t I oI C oC D m₂ ys h tk E' kEq hC hx F' N' off' ne' => ?_) (fun ys hys => ?_)); all_goals (try (rw [T_cps, hdrop, hmap] at hys)))
  k_with "elem" => exact ⟨_, rfl⟩
  k_steps
  all_goals (try (with_reducible show Keeps _ _); exact ⟨rfl, _, _, rfl, fun _ _ e => e⟩)
  all_goals (try (with_reducible exact congrArg Value.bool (decide_eq_false (by have := plain_ge hfull (by assumption); omega))))
  all_goals (try (with_reducible exact congrArg Value.bool (decide_eq_true (by have := by assumption; exact hch _ this))))
  all_goals (try (exact (show Keeps _ _ from ⟨_, _, rfl, fun _ _ e => e⟩)))
  all_goals (try (exact congrArg Value.bool (decide_eq_true (hch _ (by (first | assumption | (rw [← hdrop]; assumption)))))))
  all_goals (try dsimp only)
  all_goals (try k_unfold)
  · exact absurd (show (T (addr cs ds) != T (addr cs ds)) = true by assumption) (by simp)
  · rw [htake] at *
    exact FinG.yes (by assumption) (FinG.pair (by assumption) (by k_asm) (by k_asm) (by k_mem) (by assumption) (by assumption) (by (repeat (first | assumption | exact rfl | refine Eq.trans (by assumption) ?_))) (by k_mem) (by k_mem) (by assumption) ⟨_, rfl⟩)
  · rw [htake] at *
    exact FinG.no (by assumption) (FinG.nothing (by assumption) (by k_asm) (by k_asm) (by k_mem) (by assumption) (by assumption) (by (repeat (first | assumption | exact rfl | refine Eq.trans (by assumption) ?_))) (by k_mem))
end

section
section
variable {w : World} {mg mb : Str → Option Value} {f : Addr} {vs : List Value} {dd uu : Nat} {pre : Heap → Prop}
  {dp un : Nat} {gd : Option (List Code)} {env : Env} {outer : List Env} {A₀ : Around} {base h₀ : Heap} {L : Addr} {m : Str → Option Value} {news : List (Addr × Obj)} {s : Shared} {Q E : Value → Shared → Prop}
theorem useO {o : Option (List Int)} (C : Can w mg mb f vs dd uu pre (optPost o))
    (B : Below A₀ base outer h₀) (F : Fr h₀ L s.heap m) (X : (hd.heap_39 w.params).In h₀) (N : News h₀ L s.heap news)
    (T : TopRead hd.view_39 (looseW hd.view_39 [Str.ofString "convertbits"]) mg mb h₀) (hf : env.frame = some L) (hk : env.scope.kind = .function) (hp : pre s.heap) (hd : dp + dd < recursionLimit) (hu : un + uu < cLine)
    (ret₁ : ∀ r, o = some r → ∀ D us n h' tk', Fr h₀ L h' m → News h₀ L h' ((D, listOf (List.toArray us) n) :: news) → LCg.Off1 D news → IntsAre us r → Q (.ref D) { s with heap := h', toks := tk' })
    (ret₂ : o = none → ∀ h' tk', Fr h₀ L h' m → News h₀ L h' news → Q .none { s with heap := h', toks := tk' }) :
    wpAny (model PySem.Challenge.rw_sx0008_01.row.prog w) { handled := none, depth := dp, frames := some (env :: outer), guards := gd, units := un } (call (.ref f) vs) Q E s := by
  cases o with
  | some r => exact useL (r := r) C B F X N T hf hk hp hd hu (ret₁ r rfl)
  | none =>
    refine C dp un gd env outer A₀ base h₀ L m news s Q E B F X N T hf hk hp hd hu fun v h' tk' st p => ?_
    have : v = .none := p
    subst this; exact ret₂ rfl h' tk' (fr_stays F st) (news_stays N st)
end
theorem st58_len (s : Int × Int × List Int) (v : Int) : (st58 s v).2.2.length ≤ s.2.2.length + 1 := by
  unfold st58; split
  · simp
  · dsimp only; omega
theorem fold58_len : ∀ (ns : List Int) (s : Int × Int × List Int), (ns.foldl st58 s).2.2.length ≤ s.2.2.length + ns.length
  | [], s => Nat.le_refl _
  | v :: ns, s => by
    have h1 := fold58_len ns (st58 s v)
    have h2 := st58_len s v
    rw [List.foldl_cons, List.length_cons]
    omega
theorem cv58_len {ns r : List Int} (h : cv58 ns = some r) : r.length ≤ ns.length := by
  have := fold58_len ns (0, 0, [])
  unfold cv58 fin58 at h
  split at h
  · cases h
  split at h
  · cases h
    simpa [run58] using this
  · cases h
def decP (v : Int) (r : List Int) : Bool := decide (2 ≤ r.length ∧ r.length ≤ 40 ∧ v ≤ 16 ∧ (v ≠ 0 ∨ r.length = 20 ∨ r.length = 32))
def decI (cs : List Nat) (v : Int) (ds : List Int) : Option (Int × List Int) :=
  if polyI (hrpI (T cs) ++ v :: ds) = 1 then
    match cv58 (ds.take (ds.length - 6)) with
    | none => none
    | some r => if decP v r = true then some (v, r) else none
  else none
def decPost (o : Option (Int × List Int)) (g h' : Heap) (v : Value) : Prop := match o with
  | none => noPair g h' v
  | some (x, ns) => pairPost (fun y => ∃ t, y = .int x t) ns g h' v
theorem decI_a {cs : List Nat} {v : Int} {ds : List Int} (h : ¬ polyI (hrpI (T cs) ++ v :: ds) = 1) : decI cs v ds = none := by rw [decI, if_neg h]
theorem decI_b {cs : List Nat} {v : Int} {ds : List Int} (h : cv58 (ds.take (ds.length - 6)) = none) : decI cs v ds = none := by
  rw [decI, h]; split <;> rfl
theorem decI_c {cs : List Nat} {v : Int} {ds r : List Int} (h : cv58 (ds.take (ds.length - 6)) = some r) (h2 : ¬ (2 ≤ r.length ∧ r.length ≤ 40 ∧ v ≤ 16 ∧ (v ≠ 0 ∨ r.length = 20 ∨ r.length = 32))) : decI cs v ds = none := by
  rw [decI, h]; split
  · dsimp only; unfold decP; rw [decide_eq_false h2]; rfl
  · rfl
theorem decI_d {cs : List Nat} {v : Int} {ds r : List Int} (h1 : polyI (hrpI (T cs) ++ v :: ds) = 1) (h : cv58 (ds.take (ds.length - 6)) = some r) (h2 : 2 ≤ r.length ∧ r.length ≤ 40 ∧ v ≤ 16 ∧ (v ≠ 0 ∨ r.length = 20 ∨ r.length = 32)) : decI cs v ds = some (v, r) := by
  rw [decI, h, if_pos h1]
  dsimp only
  unfold decP; rw [if_pos (decide_eq_true h2)]
theorem FinG.decN {o : Option (Int × List Int)} {s₀ s' : Shared} {fl : Flow} (ho : o = none) (h : FinG s₀ noPair fl s') : FinG s₀ (decPost o) fl s' := by subst ho; exact h
theorem FinG.decS {o : Option (Int × List Int)} {x : Int} {ns : List Int} {s₀ s' : Shared} {fl : Flow} (ho : o = some (x, ns)) (h : FinG s₀ (pairPost (fun y => ∃ t, y = .int x t) ns) fl s') : FinG s₀ (decPost o) fl s' := by subst ho; exact h
theorem c_bdec2 {w : World} {mg mb : Str → Option Value} {cs : List Nat} {t : Tok} {v : Int} {ds : List Int} (hx0 : 1 ≤ cs.length) (hx : cs.length ≤ 83) (hp : ∀ c ∈ cs, plainSign c = true) (hn0 : 6 ≤ ds.length) (hn : ds.length ≤ 99) (hb : ∀ n ∈ v :: ds, 0 ≤ n ∧ n < 32) :
    CanG w mg mb 48 [.str (T (addr cs (v :: ds))) t] 3 60 (fun _ => True) (fun g h' x => if polyI (hrpI (T cs) ++ v :: ds) = 1 then pairPost (fun x => ∃ t, x = .str (T cs) t) (v :: ds.take (ds.length - 6)) g h' x else noPair g h' x) := by
  have htk : (v :: ds).take ((v :: ds).length - 6) = v :: ds.take (ds.length - 6) := by
    rw [List.length_cons, show ds.length + 1 - 6 = (ds.length - 6) + 1 from by omega, List.take_succ_cons]
  have := c_bdec (w := w) (mg := mg) (mb := mb) (t := t) (ds := v :: ds) hx0 hx hp (by simp only [List.length_cons]; omega) (by simp only [List.length_cons]; omega) hb
  rw [htk] at this
  exact this
set_option maxHeartbeats 4000000 in
theorem c_decode {w : World} {mg mb : Str → Option Value} {cs : List Nat} {t₁ t₂ : Tok} {v : Int} {ds : List Int} (hx0 : 1 ≤ cs.length) (hx : cs.length ≤ 83) (hp : ∀ c ∈ cs, plainSign c = true) (hn0 : 6 ≤ ds.length) (hn : ds.length ≤ 99) (hb : ∀ n ∈ v :: ds, 0 ≤ n ∧ n < 32) :
    CanG w mg mb 63 [.str (T cs) t₁, .str (T (addr cs (v :: ds))) t₂] 4 80 (fun _ => True) (decPost (decI cs v ds)) := by
  have hK : hd.heap_39 w.params = hd.heap_39 w.params ∧ PySem.Challenge.rw_sx0008_01 = PySem.Challenge.rw_sx0008_01 := ⟨rfl, rfl⟩
  revert hK
  k_fill
  intro hK
  walk_at "MINE enterG"
  have hb2 : ∀ n ∈ ds.take (ds.length - 6), 0 ≤ n ∧ n < 32 := fun n hn => hb n (.tail _ (List.mem_of_mem_take hn))
  have hl2 : (ds.take (ds.length - 6)).length ≤ 100 := by simp only [List.length_take]; omega
  k_with "call ref" => k_dflt (first
    | ((refine' useP (c_bdec2 (ds := ds) (v := v) ?c1 ?c2 ?c3 ?c4 ?c5 ?c6) ?k1 ?k2 ?k3 ?k4 ?k5 ?km ?kc ?k6 ?k7 ?k8 ?k9 ?k10 ?k11 ?k12 ?k13 ?_ ?_); (walk_at "MINE callG"); (case c1 => assumption); (case c2 => assumption); (case c3 => assumption); (case c4 => assumption); (case c5 => assumption); (case c6 => assumption); walk_at "MINE retP")
    | ((refine' useO (c_cv58 (ns := ds.take (ds.length - 6)) ?c1 ?c2 ?c3) ?k1 ?k2 ?k3 ?k4 ?k5 ?k6 ?k7 ?k8 ?k9 ?k10 ?_ ?_); (walk_at "MINE call"); (case c1 => assumption); (case c2 => assumption); (case c3 => assumption); walk_at "MINE retO"))
  k_with "len" => (have hcl := cv58_len (by assumption); omega)
  k_steps
  all_goals (try dsimp only)
  all_goals (try k_unfold)
  all_goals (try rw [show (v :: ds.take (ds.length - 6)).getD (Int.toNat 0) 0 = v from rfl] at *)
  all_goals first
    | exact absurd (show (T cs != T cs) = true by assumption) (by simp)
    | exact FinG.decS (decI_d (cs := cs) (v := v) (ds := ds) (by assumption) (by assumption) ⟨by omega, by omega, by omega, by omega⟩) (FinG.pair (by assumption) (by k_asm) (by k_asm) (by k_mem) (by assumption) (by assumption) (by (repeat (first | assumption | exact rfl | refine Eq.trans (by assumption) ?_))) (by k_mem) (by k_mem) (by assumption) ⟨_, rfl⟩)
    | exact FinG.decN (decI_a (by assumption)) (FinG.nothing (by assumption) (by k_asm) (by k_asm) (by k_mem) (by assumption) (by assumption) (by (repeat (first | assumption | exact rfl | refine Eq.trans (by assumption) ?_))) (by k_mem))
    | exact FinG.decN (decI_b (by assumption)) (FinG.nothing (by assumption) (by k_asm) (by k_asm) (by k_mem) (by assumption) (by assumption) (by (repeat (first | assumption | exact rfl | refine Eq.trans (by assumption) ?_))) (by k_mem))
    | exact FinG.decN (decI_c (cs := cs) (v := v) (ds := ds) (by assumption) (by omega)) (FinG.nothing (by assumption) (by k_asm) (by k_asm) (by k_mem) (by assumption) (by assumption) (by (repeat (first | assumption | exact rfl | refine Eq.trans (by assumption) ?_))) (by k_mem))
end

section
section
variable {w : World} {mg mb : Str → Option Value} {f : Addr} {vs : List Value} {dd uu : Nat} {pre : Heap → Prop}
  {dp un : Nat} {gd : Option (List Code)} {env : Env} {outer : List Env} {A₀ : Around} {base h₀ : Heap} {L : Addr} {m : Str → Option Value} {news : List (Addr × Obj)} {ps : Array Value} {bm : Addr} {ob : Obj} {s : Shared} {Q E : Value → Shared → Prop} {gg : Obj → List (Addr × Obj)}
theorem useD {o : Option (Int × List Int)} (C : CanG w mg mb f vs dd uu pre (decPost o))
    (B : Below A₀ base outer h₀) (F : Fr h₀ L s.heap m) (X : (hd.heap_39 w.params).In h₀) (N : News h₀ L s.heap news)
    (T : TopRead hd.view_39 (looseW hd.view_39 [Str.ofString "convertbits"]) mg mb h₀) (M : BMod h₀ mainGlobals mg bm ob) (Ch : CodeHd h₀ 47 45) (hf : env.frame = some L) (hk : env.scope.kind = .function) (hp : pre s.heap) (hd : dp + dd < recursionLimit) (hu : un + uu < cLine)
    (G : AllBare s.gens) (U : UpdF 45 (tabObj ps) news gg) (ht : TriplesOk ps.toList)
    (ret₁ : ∀ x ns, o = some (x, ns) → ∀ D l n us tx (s' : Shared) ps', IntsAre us ns → Fr h₀ L s'.heap m → News h₀ L s'.heap ((D, { cls := .type "tuple", data := .seq #[.int x tx, .ref l] }) :: (l, listOf (List.toArray us) n) :: gg (tabObj ps')) →
      LCg.Off1 D ((l, listOf (List.toArray us) n) :: gg (tabObj ps')) → LCg.Off1 l (gg (tabObj ps')) → TriplesOk ps'.toList → AllBare s'.gens → s'.os = s.os → Q (.ref D) s')
    (ret₂ : o = none → ∀ D (s' : Shared) ps', Fr h₀ L s'.heap m → News h₀ L s'.heap ((D, { cls := .type "tuple", data := .seq #[.none, .none] }) :: gg (tabObj ps')) →
      LCg.Off1 D (gg (tabObj ps')) → TriplesOk ps'.toList → AllBare s'.gens → s'.os = s.os → Q (.ref D) s') :
    wpAny (model PySem.Challenge.rw_sx0008_01.row.prog w) { handled := none, depth := dp, frames := some (env :: outer), guards := gd, units := un } (call (.ref f) vs) Q E s := by
  cases o with
  | none =>
    have C' : CanG w mg mb f vs dd uu pre (fun g h' v => if False then pairPost (fun _ => False) [] g h' v else noPair g h' v) := by
      simp only [if_false]
      exact C
    exact useP C' B F X N T M Ch hf hk hp hd hu G U ht (fun h => h.elim) fun _ => ret₂ rfl
  | some p =>
    obtain ⟨x, ns⟩ := p
    have C' : CanG w mg mb f vs dd uu pre (fun g h' v => if True then pairPost (fun y => ∃ t, y = .int x t) ns g h' v else noPair g h' v) := by
      simp only [if_true]
      exact C
    refine useP C' B F X N T M Ch hf hk hp hd hu G U ht (fun _ D l n us y s' ps' hy => ?_) fun h => absurd trivial h
    obtain ⟨t, rfl⟩ := hy
    exact ret₁ x ns rfl D l n us t s' ps'
end
def strPost (o : Option (List Nat)) (v : Value) : Prop := match o with
  | none => v = .none
  | some cs => ∃ t, v = .str (T cs) t
def fullI (cs : List Nat) (v : Int) (ns : List Int) : List Int := cv85 ns ++ createI (T cs) (v :: cv85 ns)
def encI (cs : List Nat) (v : Int) (ns : List Int) : Option (List Nat) := match decI cs v (fullI cs v ns) with
  | none => none
  | some _ => some (addr cs (v :: fullI cs v ns))
theorem encT_addr (cs : List Nat) (v : Int) (ns : List Int) : encT cs (v :: cv85 ns) = addr cs (v :: fullI cs v ns) := by
  simp [encT, addr, fullI]
theorem grp5_b (acc b : Int) : 0 ≤ grp5 acc b ∧ grp5 acc b < 32 := by
  have := and_bounds (acc.fdiv (2 ^ b.toNat)) (1 * 2 ^ Int.toNat 5 - 1) (by decide)
  have e : (1 * 2 ^ Int.toNat 5 - 1 : Int) = 31 := by decide
  unfold grp5; omega
theorem fold85_b : ∀ (ns : List Int) (s : Int × Int × List Int), (∀ n ∈ s.2.2, 0 ≤ n ∧ n < 32) → (∀ n ∈ (ns.foldl st85 s).2.2, 0 ≤ n ∧ n < 32) ∧ (ns.foldl st85 s).2.2.length ≤ s.2.2.length + 2 * ns.length
  | [], s, h => ⟨h, by simp⟩
  | v :: ns, s, h => by
    have hs : (∀ n ∈ (st85 s v).2.2, 0 ≤ n ∧ n < 32) ∧ (st85 s v).2.2.length ≤ s.2.2.length + 2 := by
      unfold st85
      split
      · refine ⟨fun n hn => ?_, by simp⟩
        simp only [List.mem_append, List.mem_cons, List.not_mem_nil, or_false] at hn
        rcases hn with (hn | rfl) | rfl
        · exact h n hn
        · exact grp5_b _ _
        · exact grp5_b _ _
      · refine ⟨fun n hn => ?_, by simp⟩
        simp only [List.mem_append, List.mem_cons, List.not_mem_nil, or_false] at hn
        rcases hn with hn | rfl
        · exact h n hn
        · exact grp5_b _ _
    have := fold85_b ns (st85 s v) hs.1
    rw [List.foldl_cons]
    exact ⟨this.1, by rw [List.length_cons]; omega⟩
theorem cv85_b (ns : List Int) : (∀ n ∈ cv85 ns, 0 ≤ n ∧ n < 32) ∧ (cv85 ns).length ≤ 2 * ns.length + 1 := by
  have h := fold85_b ns (0, 0, []) (by simp)
  unfold cv85 fin85 run85
  split
  · exact ⟨h.1, by have := h.2; simp at this; omega⟩
  · refine ⟨fun n hn => ?_, by have := h.2; simp at this ⊢; omega⟩
    simp only [List.mem_append, List.mem_cons, List.not_mem_nil, or_false] at hn
    rcases hn with hn | rfl
    · exact h.1 n hn
    · have := and_bounds ((ns.foldl st85 (0, 0, [])).1 * 2 ^ (5 - (ns.foldl st85 (0, 0, [])).2.1).toNat) (1 * 2 ^ Int.toNat 5 - 1) (by decide)
      have e : (1 * 2 ^ Int.toNat 5 - 1 : Int) = 31 := by decide
      omega
theorem fullI_b {cs : List Nat} {v : Int} {ns : List Int} (hv : 0 ≤ v ∧ v < 32) : ∀ n ∈ v :: fullI cs v ns, 0 ≤ n ∧ n < 32 := by
  intro n hn
  rcases List.mem_cons.mp hn with rfl | hn
  · exact hv
  rcases List.mem_append.mp hn with hn | hn
  · exact (cv85_b ns).1 n hn
  · exact create_bounds _ _ n hn
theorem fullI_len (cs : List Nat) (v : Int) (ns : List Int) : (fullI cs v ns).length = (cv85 ns).length + 6 := by
  rw [fullI, List.length_append, create_len]
theorem encI_n {cs : List Nat} {v : Int} {ns : List Int} (h : decI cs v (fullI cs v ns) = none) : encI cs v ns = none := by rw [encI, h]
theorem encI_s {cs : List Nat} {v : Int} {ns : List Int} {r} (h : decI cs v (fullI cs v ns) = some r) : encI cs v ns = some (addr cs (v :: fullI cs v ns)) := by rw [encI, h]
theorem FinG.strN {o : Option (List Nat)} {s₀ s' : Shared} {fl : Flow} (ho : o = none) (h : FinG s₀ (fun _ _ v => v = .none) fl s') : FinG s₀ (fun _ _ => strPost o) fl s' := by subst ho; exact h
theorem FinG.strS {o : Option (List Nat)} {x : List Nat} {s₀ s' : Shared} {fl : Flow} (ho : o = some x) (h : FinG s₀ (fun _ _ v => ∃ t, v = .str (T x) t) fl s') : FinG s₀ (fun _ _ => strPost o) fl s' := by subst ho; exact h
theorem c_benc2 {w : World} {mg mb : Str → Option Value} {cs : List Nat} {t : Tok} {l : Addr} {vs : List Value} {v : Int} {ns : List Int} (hx : cs.length ≤ 100) (hi : IntsAre vs ([v] ++ cv85 ns)) (hn : ns.length ≤ 20) (hv : 0 ≤ v ∧ v < 32) :
    Can w mg mb 43 [.str (T cs) t, .ref l] 3 40 (fun g => g.IsList l vs.toArray) (fun _ _ u => ∃ t, u = .str (T (addr cs (v :: fullI cs v ns))) t) := by
  have h := c_benc (w := w) (mg := mg) (mb := mb) (cs := cs) (t := t) (l := l) (vs := vs) (ns := v :: cv85 ns) hx hi (by have := (cv85_b ns).2; simp only [List.length_cons]; omega) (fun n hn => by
    rcases List.mem_cons.mp hn with rfl | hn
    · exact hv
    · exact (cv85_b ns).1 n hn)
  rw [encT_addr] at h
  exact h
set_option maxHeartbeats 4000000 in
theorem c_encode {w : World} {mg mb : Str → Option Value} {cs : List Nat} {t₁ t₂ : Tok} {v : Int} {l : Addr} {vs : List Value} {ns : List Int} (hx0 : 1 ≤ cs.length) (hx : cs.length ≤ 83) (hp : ∀ c ∈ cs, plainSign c = true) (hi : IntsAre vs ns) (hn : ns.length ≤ 20) (hb : ∀ n ∈ ns, 0 ≤ n ∧ n < 256) (hv : 0 ≤ v ∧ v < 32) :
    CanG w mg mb 70 [.str (T cs) t₁, .int v t₂, .ref l] 5 100 (fun h => h.IsList l vs.toArray) (fun _ _ => strPost (encI cs v ns)) := by
  have hK : hd.heap_39 w.params = hd.heap_39 w.params ∧ PySem.Challenge.rw_sx0008_01 = PySem.Challenge.rw_sx0008_01 := ⟨rfl, rfl⟩
  revert hK
  k_fill
  intro hK
  walk_at "MINE enterG"
  have hlg := list_g (by assumption) (show Heap.IsList _ l vs.toArray by assumption) (by assumption)
  have hcl := (cv85_b ns).2
  have hfl := fullI_len cs v ns
  have hfb := fullI_b (cs := cs) (ns := ns) hv
  k_with "len" => (have hcl := (cv85_b ns).2; omega)
  k_with "call ref" => k_dflt (first
    | ((refine' useL (c_cv85 (ns := ns) ?c1 ?c2 ?c3) ?k1 ?k2 ?k3 ?k4 ?k5 ?k6 ?k7 ?k8 ?k9 ?k10 ?_); (walk_at "MINE call"); (case c1 => assumption); (case c2 => omega); (case c3 => assumption); walk_at "MINE retL")
    | ((refine' useS (c_benc2 (ns := ns) ?c1 ?c2 ?c3 ?c4) ?k1 ?k2 ?k3 ?k4 ?k5 ?k6 ?k7 ?k8 ?k9 ?k10 ?_); (walk_at "MINE call"); (case c1 => omega); (case c2 => assumption); (case c3 => assumption); (case c4 => assumption); walk_at "MINE retS")
    | ((refine' useD (c_decode (v := v) (ds := fullI cs v ns) ?c1 ?c2 ?c3 ?c4 ?c5 ?c6) ?k1 ?k2 ?k3 ?k4 ?k5 ?km ?kc ?k6 ?k7 ?k8 ?k9 ?k10 ?k11 ?k12 ?k13 ?_ ?_); (walk_at "MINE callG"); (case c1 => assumption); (case c2 => assumption); (case c3 => assumption); (case c4 => omega); (case c5 => omega); (case c6 => assumption); walk_at "MINE retD"))
  k_steps
  all_goals (try dsimp only)
  all_goals (try k_unfold)
  · exact FinG.strS (encI_s (by assumption)) (FinG.intro (by assumption) (by k_asm) (by k_asm) (by k_mem) (by assumption) (by assumption) (by (repeat (first | assumption | exact rfl | refine Eq.trans (by assumption) ?_))) ⟨_, rfl⟩)
  · exact FinG.strN (encI_n (by assumption)) (FinG.intro (by assumption) (by k_asm) (by k_asm) (by k_mem) (by assumption) (by assumption) (by (repeat (first | assumption | exact rfl | refine Eq.trans (by assumption) ?_))) rfl)
end

section
def atI (ns : List Int) (k o : Int) : Int := if k < (ns.length : Int) then ns.getD k.toNat 0 else o
set_option maxHeartbeats 4000000 in
theorem c_at {w : World} {mg mb : Str → Option Value} {t₁ t₂ : Tok} {k o : Int} {l : Addr} {vs : List Value} {ns : List Int} (hi : IntsAre vs ns) (hn : ns.length ≤ 63) (hk : 0 ≤ k) :
    Can w mg mb 77 [.ref l, .int k t₁, .int o t₂] 1 10 (fun h => h.IsList l vs.toArray) (fun _ _ u => ∃ t, u = .int (atI ns k o) t) := by
  have hK : hd.heap_39 w.params = hd.heap_39 w.params ∧ PySem.Challenge.rw_sx0008_01 = PySem.Challenge.rw_sx0008_01 := ⟨rfl, rfl⟩
  revert hK
  k_fill
  intro hK
  walk_at "MINE enter"
  k_with "subscriptTail Name Name ref int" => walk_at "MINE itemI"
  k_steps
  all_goals (try dsimp only)
  all_goals (try k_unfold)
  · exact Fin.intro (by k_asm) ⟨_, by rw [atI, if_pos (by assumption)]⟩
  · exact Fin.intro (by k_asm) ⟨_, by rw [atI, if_neg (by assumption)]⟩
end

section
def digS (b most : Int) : Nat → Int → Int → List Int
  | 0, _, _ => []
  | f + 1, i, x => if b ≤ x ∧ i < most then (x.fdiv b).fmod b :: digS b most f (i + 1) (x.fdiv b) else []
def digitsI (n b most : Int) : List Int := ((if n < 0 then -n else n).fmod b) :: digS b most 6 1 (if n < 0 then -n else n)
theorem digS_yes {b most i x : Int} {f : Nat} (h1 : b ≤ x) (h2 : i < most) : digS b most (f + 1) i x = (x.fdiv b).fmod b :: digS b most f (i + 1) (x.fdiv b) := by rw [digS, if_pos ⟨h1, h2⟩]
theorem digS_n1 {b most i x : Int} {f : Nat} (h1 : ¬ b ≤ x) : digS b most (f + 1) i x = [] := by rw [digS, if_neg fun h => h1 h.1]
theorem digS_n2 {b most i x : Int} {f : Nat} (h1 : ¬ i < most) : digS b most (f + 1) i x = [] := by rw [digS, if_neg fun h => h1 h.2]
set_option maxHeartbeats 4000000 in
theorem c_dig {w : World} {mg mb : Str → Option Value} {t₁ t₂ t₃ : Tok} {n b most : Int} (hb0 : 2 ≤ b) (hb1 : b ≤ 256) (hm0 : 1 ≤ most) (hm1 : most ≤ 6) :
    Can w mg mb 84 [.int n t₁, .int b t₂, .int most t₃] 1 10 (fun _ => True) (listPost (digitsI n b most)) := by
  have hK : hd.heap_39 w.params = hd.heap_39 w.params ∧ PySem.Challenge.rw_sx0008_01 = PySem.Challenge.rw_sx0008_01 := ⟨rfl, rfl⟩
  revert hK
  k_fill
  intro hK
  walk_at "MINE enter"
  k_with "ite" => (refine ite_neg (fun hq => (by have hq2 := of_decide_eq_true hq; (try simp only [List.length_append, List.length_cons, List.length_nil, List.length_map] at hq2); omega)) ?_)
  k_steps
  all_goals (try dsimp only)
  all_goals (try k_unfold)
  all_goals (try simp only [List.push_toArray] at *)
  all_goals (refine Fin.list (by k_asm) (by k_asm) (by k_mem) ?_)
  all_goals (try simp only [List.length_cons, List.length_nil, List.length_append] at *)
  all_goals unfold digitsI
  all_goals (repeat (first | rw [digS_yes (by assumption) (by omega)] | rw [digS_n1 (by assumption)] | rw [digS_n2 (by omega)]))
  all_goals (repeat (refine IntsAre.cons _ _ ?_))
  all_goals exact IntsAre.nil
end

section
def byStep (n : Int) : Int := Builtin.bitXor (n * 2) (cond (decide (15 < n)) 41 0)
def byT (t : List Int) (n : Int) : List Int := t ++ t.map fun x => Builtin.bitXor x n
def byI (n : Int) : List Int := byT (byT (byT (byT (byT [0] n) (byStep n)) (byStep (byStep n))) (byStep (byStep (byStep n)))) (byStep (byStep (byStep (byStep n))))
local macro_rules | `(tactic| walk_at "MINE len") => `(tactic| ((simp only [List.length_append, List.length_cons, List.length_nil, List.length_map]) <;> decide))
set_option maxHeartbeats 4000000 in
theorem c_by {w : World} {mg mb : Str → Option Value} {t₁ : Tok} {n : Int} :
    Can w mg mb 89 [.int n t₁] 1 20 (fun _ => True) (listPost (byI n)) := by
  have hK : hd.heap_39 w.params = hd.heap_39 w.params ∧ PySem.Challenge.rw_sx0008_01 = PySem.Challenge.rw_sx0008_01 := ⟨rfl, rfl⟩
  revert hK
  k_fill
  intro hK
  walk_at "MINE enterC"
  k_with "eval IfExp" => (refine IfExp_ints ?_)
  k_with "eval ListComp" => walk_at "MINE comp"
  k_with "CompSrc" => (walk_at "MINE srcL"; (refine comp_list_int (fun x => Builtin.bitXor x _) (by assumption) (fun kPre k kPost t I oI C oC D m₂ ys h tk E' kEq hC hx F' N' off' ne' => ?_) (fun ys hys => ?_)))
  k_with "elem" => exact ⟨_, rfl⟩
  k_steps
  all_goals (try dsimp only)
  all_goals (try k_unfold)
  exact Fin.list (by k_asm) (by k_asm) (by k_mem) (by assumption)
end

section
def RunPre (st vl tb : Addr) (vs : List Value) (t1 t2 t3 t4 t5 t6 : Tok) (a1 a2 a3 a4 a5 : Addr) (v1 v2 v3 v4 v5 : List Value) (g : Heap) : Prop :=
  g.IsList st [Value.int 0 t1, .int 0 t2, .int 0 t3, .int 0 t4, .int 0 t5, .int 0 t6].toArray ∧ g.IsList vl vs.toArray ∧ g.IsList tb [Value.ref a1, .ref a2, .ref a3, .ref a4, .ref a5].toArray ∧
  g.IsList a1 v1.toArray ∧ g.IsList a2 v2.toArray ∧ g.IsList a3 v3.toArray ∧ g.IsList a4 v4.toArray ∧ g.IsList a5 v5.toArray
abbrev St6 := Int × Int × Int × Int × Int × Int
def runStep (b1 b2 b3 b4 b5 : List Int) (s : St6) (value : Int) : St6 :=
  (Builtin.bitXor (b1.getD s.1.toNat 0) s.2.1, Builtin.bitXor (b2.getD s.1.toNat 0) s.2.2.1, Builtin.bitXor (b3.getD s.1.toNat 0) s.2.2.2.1, Builtin.bitXor (b4.getD s.1.toNat 0) s.2.2.2.2.1, Builtin.bitXor (b1.getD s.1.toNat 0) s.2.2.2.2.2, Builtin.bitXor (b5.getD s.1.toNat 0) value)
def runL (b1 b2 b3 b4 b5 : List Int) (ns : List Int) : St6 := ns.foldl (runStep b1 b2 b3 b4 b5) (0, 0, 0, 0, 0, 0)
def runR (s : St6) : List Int := [s.1, s.2.1, s.2.2.1, s.2.2.2.1, s.2.2.2.2.1, s.2.2.2.2.2]
theorem runL_snoc (b1 b2 b3 b4 b5 : List Int) (ns : List Int) (v : Int) : runL b1 b2 b3 b4 b5 (ns ++ [v]) = runStep b1 b2 b3 b4 b5 (runL b1 b2 b3 b4 b5 ns) v := by simp [runL]
def is5 (n : Int) : Prop := 0 ≤ n ∧ n < 32
theorem is5_0 : is5 0 := ⟨by decide, by decide⟩
def all5 (l : List Int) : Prop := l.length = 32 ∧ ∀ n ∈ l, is5 n
theorem is5.lo {n : Int} (h : is5 n) : 0 ≤ n := h.1
theorem is5.idx {n : Int} {l : List Int} (h : is5 n) (e : all5 l) : n < (l.length : Int) := by have := h.2; rw [e.1]; exact this
theorem all5.small {l : List Int} (e : all5 l) : l.length ≤ 1000 := by rw [e.1]; decide
theorem is5_xor {a b : Int} (ha : is5 a) (hb : is5 b) : is5 (Builtin.bitXor a b) := xor_lt (n := 5) ha.1 ha.2 hb.1 hb.2
theorem is5_get {l : List Int} (h : all5 l) (u : Int) : is5 (l.getD u.toNat 0) := by
  rw [List.getD_eq_getElem?_getD]
  cases e : l[u.toNat]? with
  | none => exact is5_0
  | some x => exact h.2 x (List.mem_of_getElem? e)
theorem wr0 {b1 b2 b3 b4 b5 : List Int} : runL b1 b2 b3 b4 b5 [] = (0, 0, 0, 0, 0, 0) ∧ is5 0 ∧ is5 0 ∧ is5 0 ∧ is5 0 ∧ is5 0 ∧ is5 0 := ⟨rfl, is5_0, is5_0, is5_0, is5_0, is5_0, is5_0⟩
theorem wr1 {b1 b2 b3 b4 b5 pre : List Int} {k u v w x y z : Int} (e1 : all5 b1) (e2 : all5 b2) (e3 : all5 b3) (e4 : all5 b4) (e5 : all5 b5) (hk : is5 k) (hr : runL b1 b2 b3 b4 b5 pre = (u, v, w, x, y, z)) (hu : is5 u) (hv : is5 v) (hw : is5 w) (hx : is5 x) (hy : is5 y) (hz : is5 z) :
    runL b1 b2 b3 b4 b5 (pre ++ [k]) = (Builtin.bitXor (b1.getD u.toNat 0) v, Builtin.bitXor (b2.getD u.toNat 0) w, Builtin.bitXor (b3.getD u.toNat 0) x, Builtin.bitXor (b4.getD u.toNat 0) y, Builtin.bitXor (b1.getD u.toNat 0) z, Builtin.bitXor (b5.getD u.toNat 0) k) ∧
    is5 (Builtin.bitXor (b1.getD u.toNat 0) v) ∧ is5 (Builtin.bitXor (b2.getD u.toNat 0) w) ∧ is5 (Builtin.bitXor (b3.getD u.toNat 0) x) ∧ is5 (Builtin.bitXor (b4.getD u.toNat 0) y) ∧ is5 (Builtin.bitXor (b1.getD u.toNat 0) z) ∧ is5 (Builtin.bitXor (b5.getD u.toNat 0) k) := by
  rw [runL_snoc, hr]
  exact ⟨rfl, is5_xor (is5_get e1 u) hv, is5_xor (is5_get e2 u) hw, is5_xor (is5_get e3 u) hx, is5_xor (is5_get e4 u) hy, is5_xor (is5_get e1 u) hz, is5_xor (is5_get e5 u) hk⟩
local macro_rules | `(tactic| walk_at "MINE len") => `(tactic| (with_reducible exact all5.small (by assumption)))
set_option maxHeartbeats 4000000 in
theorem c_run {w : World} {mg mb : Str → Option Value} {st vl tb : Addr} {vs : List Value} {ns : List Int} {t1 t2 t3 t4 t5 t6 : Tok} {a1 a2 a3 a4 a5 : Addr} {v1 v2 v3 v4 v5 : List Value} {b1 b2 b3 b4 b5 : List Int}
    (hi : IntsAre vs ns) (hn : ns.length ≤ 100) (hb : ∀ n ∈ ns, is5 n) (h1 : IntsAre v1 b1) (h2 : IntsAre v2 b2) (h3 : IntsAre v3 b3) (h4 : IntsAre v4 b4) (h5 : IntsAre v5 b5) (e1 : all5 b1) (e2 : all5 b2) (e3 : all5 b3) (e4 : all5 b4) (e5 : all5 b5) :
    Can w mg mb 96 [.ref st, .ref vl, .ref tb] 1 20 (RunPre st vl tb vs t1 t2 t3 t4 t5 t6 a1 a2 a3 a4 a5 v1 v2 v3 v4 v5) (listPost (runR (runL b1 b2 b3 b4 b5 ns))) := by
  have hK : hd.heap_39 w.params = hd.heap_39 w.params ∧ PySem.Challenge.rw_sx0008_01 = PySem.Challenge.rw_sx0008_01 := ⟨rfl, rfl⟩
  revert hK
  k_fill
  intro hK
  walk_at "MINE enter"
  obtain ⟨p1, p2, p3, p4, p5, p6, p7, p8⟩ := (show RunPre st vl tb vs t1 t2 t3 t4 t5 t6 a1 a2 a3 a4 a5 v1 v2 v3 v4 v5 _ by assumption)
  k_with "pyIter ref" => (k_state (fun pre u v w x y z => runL b1 b2 b3 b4 b5 pre = (u, v, w, x, y, z) ∧ is5 u ∧ is5 v ∧ is5 w ∧ is5 x ∧ is5 y ∧ is5 z) "u" "v" "w" "x" "y" "z")
  k_with "subscriptTail Name Name ref int" => walk_at "MINE itemI"
  k_with "idx" => first | with_reducible exact is5.lo (by assumption) | with_reducible exact is5.idx (by assumption) (by assumption)
  k_with "len" => with_reducible exact all5.small (by assumption)
  k_with "state" => first
    | with_reducible exact wr0
    | with_reducible exact wr1 (by assumption) (by assumption) (by assumption) (by assumption) (by assumption) (hb kN kMem) (by assumption) (by assumption) (by assumption) (by assumption) (by assumption) (by assumption) (by assumption)
  k_steps
  all_goals (try dsimp only)
  all_goals (try k_unfold)
  refine Fin.list (vs := [_, _, _, _, _, _]) (by k_asm) (by k_asm) (by k_mem) ?_
  rw [show runL b1 b2 b3 b4 b5 ns = (_, _, _, _, _, _) by assumption]
  exact .cons _ _ (.cons _ _ (.cons _ _ (.cons _ _ (.cons _ _ (.cons _ _ .nil)))))
end

section
section
variable {w : World} {mg mb : Str → Option Value} {f : Addr} {vs : List Value} {dd uu : Nat} {pre : Heap → Prop} {A₀ : Around} {base : Heap} {outer : List Env} {env : Env} {h₀ : Heap} {L : Addr} {m : Str → Option Value} {news : List (Addr × Obj)} {gg : Obj → List (Addr × Obj)} {s : Shared} {bm : Addr} {ob : Obj} {dp un : Nat} {gd : Option (List Code)} {ps : Array Value} {Q E : Value → Shared → Prop}
theorem useStr {o : Option (List Nat)} {x : List Nat} (ho : o = some x) (C : CanG w mg mb f vs dd uu pre (fun _ _ => strPost o))
    (B : Below A₀ base outer h₀) (F : Fr h₀ L s.heap m) (X : (hd.heap_39 w.params).In h₀) (N : News h₀ L s.heap news)
    (T : TopRead hd.view_39 (looseW hd.view_39 [Str.ofString "convertbits"]) mg mb h₀) (M : BMod h₀ mainGlobals mg bm ob) (Ch : CodeHd h₀ 47 45) (hf : env.frame = some L) (hk : env.scope.kind = .function) (hp : pre s.heap) (hd : dp + dd < recursionLimit) (hu : un + uu < cLine)
    (G : AllBare s.gens) (U : UpdF 45 (tabObj ps) news gg) (ht : TriplesOk ps.toList)
    (ret : ∀ t (s' : Shared) ps', Fr h₀ L s'.heap m → News h₀ L s'.heap (gg (tabObj ps')) → TriplesOk ps'.toList → AllBare s'.gens → s'.os = s.os → Q (.str (Mine.T x) t) s') :
    wpAny (model PySem.Challenge.rw_sx0008_01.row.prog w) { handled := none, depth := dp, frames := some (env :: outer), guards := gd, units := un } (call (.ref f) vs) Q E s := by
  subst ho
  refine useG C B F X N T M Ch hf hk hp hd hu G U ht fun v s' ps' F' N' ht' G' os' _ _ hpost => ?_
  obtain ⟨t, rfl⟩ := hpost
  exact ret t s' ps' F' N' ht' G' os'
theorem useStrN {o : Option (List Nat)} (ho : o = none) (C : CanG w mg mb f vs dd uu pre (fun _ _ => strPost o))
    (B : Below A₀ base outer h₀) (F : Fr h₀ L s.heap m) (X : (hd.heap_39 w.params).In h₀) (N : News h₀ L s.heap news)
    (T : TopRead hd.view_39 (looseW hd.view_39 [Str.ofString "convertbits"]) mg mb h₀) (M : BMod h₀ mainGlobals mg bm ob) (Ch : CodeHd h₀ 47 45) (hf : env.frame = some L) (hk : env.scope.kind = .function) (hp : pre s.heap) (hd : dp + dd < recursionLimit) (hu : un + uu < cLine)
    (G : AllBare s.gens) (U : UpdF 45 (tabObj ps) news gg) (ht : TriplesOk ps.toList)
    (ret : ∀ (s' : Shared) ps', Fr h₀ L s'.heap m → News h₀ L s'.heap (gg (tabObj ps')) → TriplesOk ps'.toList → AllBare s'.gens → s'.os = s.os → Q .none s') :
    wpAny (model PySem.Challenge.rw_sx0008_01.row.prog w) { handled := none, depth := dp, frames := some (env :: outer), guards := gd, units := un } (call (.ref f) vs) Q E s := by
  subst ho
  refine useG C B F X N T M Ch hf hk hp hd hu G U ht fun v s' ps' F' N' ht' G' os' _ _ hpost => ?_
  have hv : v = .none := hpost
  subst hv
  exact ret s' ps' F' N' ht' G' os'
theorem useDS {o : Option (Int × List Int)} {x : Int} {ns : List Int} (ho : o = some (x, ns)) (C : CanG w mg mb f vs dd uu pre (decPost o))
    (B : Below A₀ base outer h₀) (F : Fr h₀ L s.heap m) (X : (hd.heap_39 w.params).In h₀) (N : News h₀ L s.heap news)
    (T : TopRead hd.view_39 (looseW hd.view_39 [Str.ofString "convertbits"]) mg mb h₀) (M : BMod h₀ mainGlobals mg bm ob) (Ch : CodeHd h₀ 47 45) (hf : env.frame = some L) (hk : env.scope.kind = .function) (hp : pre s.heap) (hd : dp + dd < recursionLimit) (hu : un + uu < cLine)
    (G : AllBare s.gens) (U : UpdF 45 (tabObj ps) news gg) (ht : TriplesOk ps.toList)
    (ret : ∀ D l n us tx (s' : Shared) ps', IntsAre us ns → Fr h₀ L s'.heap m → News h₀ L s'.heap ((D, { cls := .type "tuple", data := .seq #[.int x tx, .ref l] }) :: (l, listOf (List.toArray us) n) :: gg (tabObj ps')) →
      LCg.Off1 D ((l, listOf (List.toArray us) n) :: gg (tabObj ps')) → LCg.Off1 l (gg (tabObj ps')) → TriplesOk ps'.toList → AllBare s'.gens → s'.os = s.os → Q (.ref D) s') :
    wpAny (model PySem.Challenge.rw_sx0008_01.row.prog w) { handled := none, depth := dp, frames := some (env :: outer), guards := gd, units := un } (call (.ref f) vs) Q E s :=
  useD C B F X N T M Ch hf hk hp hd hu G U ht (fun x' ns' e => by rw [ho] at e; cases e; exact ret) fun e => by rw [ho] at e; cases e
theorem useDN {o : Option (Int × List Int)} (ho : o = none) (C : CanG w mg mb f vs dd uu pre (decPost o))
    (B : Below A₀ base outer h₀) (F : Fr h₀ L s.heap m) (X : (hd.heap_39 w.params).In h₀) (N : News h₀ L s.heap news)
    (T : TopRead hd.view_39 (looseW hd.view_39 [Str.ofString "convertbits"]) mg mb h₀) (M : BMod h₀ mainGlobals mg bm ob) (Ch : CodeHd h₀ 47 45) (hf : env.frame = some L) (hk : env.scope.kind = .function) (hp : pre s.heap) (hd : dp + dd < recursionLimit) (hu : un + uu < cLine)
    (G : AllBare s.gens) (U : UpdF 45 (tabObj ps) news gg) (ht : TriplesOk ps.toList)
    (ret : ∀ D (s' : Shared) ps', Fr h₀ L s'.heap m → News h₀ L s'.heap ((D, { cls := .type "tuple", data := .seq #[.none, .none] }) :: gg (tabObj ps')) →
      LCg.Off1 D (gg (tabObj ps')) → TriplesOk ps'.toList → AllBare s'.gens → s'.os = s.os → Q (.ref D) s') :
    wpAny (model PySem.Challenge.rw_sx0008_01.row.prog w) { handled := none, depth := dp, frames := some (env :: outer), guards := gd, units := un } (call (.ref f) vs) Q E s :=
  useD C B F X N T M Ch hf hk hp hd hu G U ht (fun x' ns' e => by rw [ho] at e; cases e) fun _ => ret
end
/-- the end of one way of an If that may let the table grow -/
def TabEnd (h₀ : Heap) (L : Addr) (m : Str → Option Value) (gg : Obj → List (Addr × Obj)) (s₁ : Shared) (f : Flow) (s₂ : Shared) : Prop :=
  f = .next ∧ ∃ ps', Fr h₀ L s₂.heap m ∧ News h₀ L s₂.heap (gg (tabObj ps')) ∧ TriplesOk ps'.toList ∧ AllBare s₂.gens ∧ s₂.os = s₁.os
theorem TabEnd.intro {h₀ : Heap} {L : Addr} {m : Str → Option Value} {gg : Obj → List (Addr × Obj)} {s₁ s₂ : Shared} {ps' : Array Value} {news' : List (Addr × Obj)}
    (F : Fr h₀ L s₂.heap m) (N : News h₀ L s₂.heap news') (hm : (45, tabObj ps') ∈ news') (hsub : ∀ p ∈ gg (tabObj ps'), p ∈ news') (ht : TriplesOk ps'.toList) (G : AllBare s₂.gens) (os : s₂.os = s₁.os) :
    TabEnd h₀ L m gg s₁ .next s₂ := ⟨rfl, ps', F, fun p hp => N p (hsub p hp), ht, G, os⟩
theorem If_tab {M : Model} {A : Around} {E : Value → Shared → Prop} {s : Shared} {env : Env} {h₀ : Heap} {L : Addr} {ps : Array Value} {m : Str → Option Value} {news : List (Addr × Obj)} {gg : Obj → List (Addr × Obj)} {test : Expr} {body orelse : List Stmt} {pos : Pos} {Q : Flow → Shared → Prop}
    (_ : Fr h₀ L s.heap m) (_ : News h₀ L s.heap news) (_ : UpdF 45 (tabObj ps) news gg)
    (h : wpAny M A (isTrue test env (eval test env)) (fun c s₂ => if c then wpAny M A (execs body env) (TabEnd h₀ L m gg s) E s₂ else wpAny M A (execs orelse env) (TabEnd h₀ L m gg s) E s₂) E s)
    (ret : ∀ (s' : Shared) ps', Fr h₀ L s'.heap m → News h₀ L s'.heap (gg (tabObj ps')) → TriplesOk ps'.toList → AllBare s'.gens → s'.os = s.os → Q .next s') :
    wpAny M A (exec (.If test body orelse pos) env) Q E s := by
  have key : ∀ f s₂, TabEnd h₀ L m gg s f s₂ → Q f s₂ := fun f s₂ hc => by
    obtain ⟨rfl, ps', F, N, ht, G, os⟩ := hc
    exact ret s₂ ps' F N ht G os
  refine wpAny_If (wpAny_mono h (fun c s₂ hc => ?_) fun _ _ e => e)
  cases c
  · exact wpAny_mono hc key fun _ _ e => e
  · exact wpAny_mono hc key fun _ _ e => e
end

section
def nameSign (k : Int) : Nat := if k < 32 then (33 + k).toNat else (59 + k).toNat
theorem fmod_b {x b : Int} (hb : 0 < b) : 0 ≤ x.fmod b ∧ x.fmod b < b := ⟨Int.fmod_nonneg_of_pos x hb, Int.fmod_lt_of_pos x hb⟩
theorem digS_b {b most : Int} (hb : 0 < b) : ∀ (f : Nat) (i x : Int), 1 ≤ i → (∀ n ∈ digS b most f i x, 0 ≤ n ∧ n < b) ∧ (((digS b most f i x).length : Int) ≤ most - i ∨ digS b most f i x = [])
  | 0, i, x, _ => ⟨fun n hn => (by cases hn), .inr rfl⟩
  | f + 1, i, x, hi => by
    rw [digS]
    split
    · have ih := digS_b (most := most) hb f (i + 1) (x.fdiv b) (by omega)
      refine ⟨fun n hn => ?_, .inl ?_⟩
      · rcases List.mem_cons.mp hn with rfl | hn
        · exact fmod_b hb
        · exact ih.1 n hn
      · rcases ih.2 with h | h
        · simp only [List.length_cons]; omega
        · rw [h]; simp only [List.length_cons, List.length_nil]; omega
    · exact ⟨fun n hn => (List.not_mem_nil hn).elim, .inr rfl⟩
theorem digitsI_b {n b most : Int} (hb : 0 < b) (hm : 1 ≤ most) : (∀ x ∈ digitsI n b most, 0 ≤ x ∧ x < b) ∧ 1 ≤ (digitsI n b most).length ∧ ((digitsI n b most).length : Int) ≤ most := by
  have h := digS_b (most := most) hb 6 1 (if n < 0 then -n else n) (by omega)
  unfold digitsI
  refine ⟨fun x hx => ?_, by simp, ?_⟩
  · rcases List.mem_cons.mp hx with rfl | hx
    · exact fmod_b hb
    · exact h.1 x hx
  · rcases h.2 with h | h
    · simp only [List.length_cons]; omega
    · rw [h]; simp only [List.length_cons, List.length_nil]; omega
def srcI (ns : List Int) : List Int := if 5 < ns.length then (ns.drop 5).take 6 else [700, 99]
theorem srcI_no {ns : List Int} {t u : Tok} (h : ¬ 5 < (ns.length : Int)) : IntsAre [Value.int 700 t, Value.int 99 u] (srcI ns) := by
  rw [srcI, if_neg (by omega)]; l_ints
theorem srcI_yes {ns : List Int} {ws : List Value} (h : 5 < (ns.length : Int)) (hi : IntsAre ws (List.take (min 11 ns.length - 5) (List.drop 5 ns))) : IntsAre ws (srcI ns) := by
  have e : List.take (min 11 ns.length - 5) (List.drop 5 ns) = List.take 6 (List.drop 5 ns) := by
    rw [List.take_eq_take_iff, List.length_drop]; omega
  rw [srcI, if_pos (by omega), ← e]; exact hi
def progS (p : List Int) (k : Int) : List Int := if (p.length : Int) < 6 then p ++ digitsI k 256 (6 - (p.length : Int)) else p
def progI (ks : List Int) : List Int := ks.foldl progS []
theorem progI_snoc (ks : List Int) (k : Int) : progI (ks ++ [k]) = progS (progI ks) k := by simp [progI]
theorem progI_bF : ∀ (ks p : List Int), ((∀ x ∈ p, 0 ≤ x ∧ x < 256) ∧ (p.length : Int) ≤ 6) → ((∀ x ∈ ks.foldl progS p, 0 ≤ x ∧ x < 256) ∧ ((ks.foldl progS p).length : Int) ≤ 6)
  | [], p, h => h
  | k :: ks, p, h => by
    refine progI_bF ks _ ?_
    unfold progS
    split
    · have hd := digitsI_b (n := k) (b := 256) (most := 6 - (p.length : Int)) (by decide) (by omega)
      refine ⟨fun x hx => ?_, ?_⟩
      · rcases List.mem_append.mp hx with hx | hx
        · exact h.1 x hx
        · exact hd.1 x hx
      · rw [List.length_append]; omega
    · exact h
theorem progI_b (ks : List Int) : (∀ x ∈ progI ks, 0 ≤ x ∧ x < 256) ∧ ((progI ks).length : Int) ≤ 6 := progI_bF ks [] ⟨fun _ h => (by cases h), by decide⟩
def progJ (p : List Int) : List Int := if (p.length : Int) < 2 then p ++ [0] else p
theorem progJ_yes {p : List Int} {us : List Value} (h : (p.length : Int) < 2) (hi : IntsAre us (p ++ [0])) : IntsAre us (progJ p) := by rw [progJ, if_pos h]; exact hi
theorem progJ_no {p : List Int} {us : List Value} (h : ¬ (p.length : Int) < 2) (hi : IntsAre us p) : IntsAre us (progJ p) := by rw [progJ, if_neg h]; exact hi
theorem progS_yes {us : List Value} {pre : List Int} {k : Int} (h : ((progI pre).length : Int) < 6) (hi : IntsAre us (progI pre ++ digitsI k 256 (6 - ((progI pre).length : Int)))) : IntsAre us (progI (pre ++ [k])) := by
  rw [progI_snoc, progS, if_pos h]; exact hi
theorem progS_no {us : List Value} {pre : List Int} {k : Int} (h : ¬ ((progI pre).length : Int) < 6) (hi : IntsAre us (progI pre)) : IntsAre us (progI (pre ++ [k])) := by
  rw [progI_snoc, progS, if_neg h]; exact hi
theorem progS_mono : ∀ (ks p : List Int), p.length ≤ (ks.foldl progS p).length
  | [], p => Nat.le_refl _
  | k :: ks, p => by
    refine Nat.le_trans ?_ (progS_mono ks (progS p k))
    unfold progS
    split
    · rw [List.length_append]; omega
    · exact Nat.le_refl _
theorem srcI_ne (ns : List Int) : ∃ k ks, srcI ns = k :: ks := by
  unfold srcI
  split
  · rename_i h
    cases e : (ns.drop 5).take 6 with
    | nil => have := congrArg List.length e; simp at this; omega
    | cons a b => exact ⟨a, b, rfl⟩
  · exact ⟨700, [99], rfl⟩
theorem progJ_b (ns : List Int) : (∀ x ∈ progJ (progI (srcI ns)), 0 ≤ x ∧ x < 256) ∧ 2 ≤ ((progJ (progI (srcI ns))).length : Int) ∧ ((progJ (progI (srcI ns))).length : Int) ≤ 6 := by
  have h1 := progI_b (srcI ns)
  have h2 : 1 ≤ (progI (srcI ns)).length := by
    obtain ⟨k, ks, e⟩ := srcI_ne ns
    rw [e]
    refine Nat.le_trans ?_ (progS_mono ks (progS [] k))
    have := digitsI_b (n := k) (b := 256) (most := 6) (by decide) (by decide)
    show 1 ≤ (digitsI k 256 6).length
    omega
  unfold progJ
  split
  · refine ⟨fun x hx => ?_, ?_, ?_⟩
    · rcases List.mem_append.mp hx with hx | hx
      · exact h1.1 x hx
      · rw [List.mem_singleton.mp hx]; decide
    · simp only [List.length_append, List.length_cons, List.length_nil]; omega
    · simp only [List.length_append, List.length_cons, List.length_nil]; omega
  · exact ⟨h1.1, by omega, h1.2⟩
theorem digS_len {b most : Int} : ∀ (f : Nat) (i x : Int), (digS b most f i x).length ≤ f
  | 0, _, _ => Nat.le_refl _
  | f + 1, i, x => by
    rw [digS]; split
    · rw [List.length_cons]; have := digS_len (b := b) (most := most) f (i + 1) (x.fdiv b); omega
    · exact Nat.zero_le _
theorem digits_len {n b most : Int} {us : List Value} (_ : IntsAre us (digitsI n b most)) : (digitsI n b most).length ≤ 7 := by
  rw [digitsI, List.length_cons]; have := digS_len (b := b) (most := most) 6 1 (if n < 0 then -n else n); omega
theorem fd5 {x : Int} (h0 : 0 ≤ x) (h1 : x ≤ 52) : 0 ≤ (8 * x + 4).fdiv 5 ∧ (8 * x + 4).fdiv 5 ≤ 84 := by
  rw [Int.fdiv_eq_ediv_of_nonneg _ (by decide)]; omega
def laidS (t p : Int) (l : List Int) (k : Int) : List Int :=
  if (t.fdiv (2 ^ (7 - k).toNat)).fmod 2 = 1 then l.set (1 + (8 * p + k).fdiv 5).toNat (l.getD (1 + (8 * p + k).fdiv 5).toNat 0 + 2 ^ (4 - (8 * p + k).fmod 5).toNat) else l
def laidI (t p : Int) (l : List Int) (ks : List Int) : List Int := ks.foldl (laidS t p) l
theorem laidI_snoc (t p : Int) (l ks : List Int) (k : Int) : laidI t p l (ks ++ [k]) = laidS t p (laidI t p l ks) k := by simp [laidI]
theorem laidI_len (t p : Int) : ∀ (ks l : List Int), (laidI t p l ks).length = l.length
  | [], _ => rfl
  | k :: ks, l => by
    show (laidI t p (laidS t p l k) ks).length = _
    rw [laidI_len t p ks, laidS]
    split
    · rw [List.length_set]
    · rfl
theorem lay_len {t p a x : Int} {ks : List Int} (hx : 0 ≤ x) : ((laidI t p ([a] ++ List.replicate x.toNat 0) ks).length : Int) = 1 + x := by
  rw [laidI_len]; simp; omega
theorem lay_ix {p n k : Int} (h0 : 0 ≤ p) (h1 : p < n) (h2 : 0 ≤ k) (h3 : k < 8) : 0 ≤ 1 + (8 * p + k).fdiv 5 ∧ 1 + (8 * p + k).fdiv 5 < 1 + (8 * n + 4).fdiv 5 := by
  rw [Int.fdiv_eq_ediv_of_nonneg _ (by decide), Int.fdiv_eq_ediv_of_nonneg _ (by decide)]; omega
theorem laidS_yes {t p : Int} {l : List Int} {ks : List Int} {k : Int} {us : List Value} (h : (t.fdiv (2 ^ (7 - k).toNat)).fmod 2 = 1)
    (hi : IntsAre us ((laidI t p l ks).set (1 + (8 * p + k).fdiv 5).toNat ((laidI t p l ks).getD (1 + (8 * p + k).fdiv 5).toNat 0 + 2 ^ (4 - (8 * p + k).fmod 5).toNat))) : IntsAre us (laidI t p l (ks ++ [k])) := by
  rw [laidI_snoc, laidS, if_pos h]; exact hi
theorem laidS_no {t p : Int} {l : List Int} {ks : List Int} {k : Int} {us : List Value} (h : ¬ (t.fdiv (2 ^ (7 - k).toNat)).fmod 2 = 1) (hi : IntsAre us (laidI t p l ks)) : IntsAre us (laidI t p l (ks ++ [k])) := by
  rw [laidI_snoc, laidS, if_neg h]; exact hi
theorem ints_zeros {us : List Value} {k : Nat} (h : IntsAre us (List.replicate k [(0 : Int)]).flatten) : IntsAre us (List.replicate k 0) := by
  have e : ∀ k : Nat, (List.replicate k [(0 : Int)]).flatten = List.replicate k 0 := fun k => by
    induction k with
    | zero => rfl
    | succ k ih => rw [List.replicate_succ, List.flatten_cons, ih]; rfl
  rw [← e]; exact h
theorem all5_of {l : List Int} (h : (l.length == 32 && l.all fun n => decide (0 ≤ n) && decide (n < 32)) = true) : all5 l := by
  rw [Bool.and_eq_true, beq_iff_eq, List.all_eq_true] at h
  refine ⟨h.1, fun n hn => ?_⟩
  have := h.2 n hn
  rw [Bool.and_eq_true, decide_eq_true_eq, decide_eq_true_eq] at this
  exact this
theorem by_all5 : all5 (byI 29) ∧ all5 (byI 22) ∧ all5 (byI 20) ∧ all5 (byI 21) ∧ all5 (byI 18) :=
  ⟨all5_of (by decide +kernel), all5_of (by decide +kernel), all5_of (by decide +kernel), all5_of (by decide +kernel), all5_of (by decide +kernel)⟩
def layI (vv oo pl tu : Int) (pg : List Int) : List Int := laidI tu pl ([Builtin.bitXor vv oo] ++ List.replicate ((8 * (pg.length : Int) + 4).fdiv 5).toNat 0) (rangeKs 0 8)
def remI (la : List Int) : List Int := runR (runL (byI 29) (byI 22) (byI 20) (byI 21) (byI 18) (la ++ List.replicate (Int.toNat 6) 0))
def maskI (ds lf : List Int) : List Int := (rangeKs 0 lf.length).map fun k => Builtin.bitXor (ds.getD k.toNat 0) (lf.getD k.toNat 0)
def turnedI (pg : List Int) (pl tu : Int) : List Int := (rangeKs 0 pg.length).map fun k => Builtin.bitXor (pg.getD k.toNat 0) (if k = pl then tu else 0)
end

namespace Plain
section
/-- a list of naturals, read as ints -/
def C (l : List Nat) : List Int := l.map fun n : Nat => (n : Int)
theorem C_app (a b : List Nat) : C (a ++ b) = C a ++ C b := List.map_append
theorem C_cons (a : Nat) (l : List Nat) : C (a :: l) = (a : Int) :: C l := rfl
theorem C_len (a : List Nat) : (C a).length = a.length := List.length_map _
theorem C_of : ∀ {l : List Int}, (∀ x ∈ l, 0 ≤ x) → l = C (l.map Int.toNat)
  | [], _ => rfl
  | a :: l, h => by
    have ha := h a (.head _)
    have ih := C_of (l := l) fun x hx => h x (.tail _ hx)
    rw [List.map_cons, C_cons, ← ih, Int.toNat_of_nonneg ha]
theorem C_inj {a b : List Nat} (h : C a = C b) : a = b := by
  induction a generalizing b with
  | nil => cases b with
    | nil => rfl
    | cons => simp [C] at h
  | cons x a ih => cases b with
    | nil => simp [C] at h
    | cons y b =>
      rw [C_cons, C_cons] at h
      injection h with h1 h2
      rw [ih h2, Int.ofNat.inj h1]
theorem split_xor {k a b a' b' : Nat} (hb : b < 2 ^ k) (hb' : b' < 2 ^ k) : (a * 2 ^ k + b) ^^^ (a' * 2 ^ k + b') = (a ^^^ a') * 2 ^ k + (b ^^^ b') := by
  have h1 : ((a * 2 ^ k + b) ^^^ (a' * 2 ^ k + b')) / 2 ^ k = a ^^^ a' := by
    rw [Nat.xor_div_two_pow]
    have e1 : (a * 2 ^ k + b) / 2 ^ k = a := by rw [Nat.mul_comm, Nat.mul_add_div (Nat.two_pow_pos k), Nat.div_eq_of_lt hb, Nat.add_zero]
    have e2 : (a' * 2 ^ k + b') / 2 ^ k = a' := by rw [Nat.mul_comm, Nat.mul_add_div (Nat.two_pow_pos k), Nat.div_eq_of_lt hb', Nat.add_zero]
    rw [e1, e2]
  have h2 : ((a * 2 ^ k + b) ^^^ (a' * 2 ^ k + b')) % 2 ^ k = b ^^^ b' := by
    rw [Nat.xor_mod_two_pow]
    have e1 : (a * 2 ^ k + b) % 2 ^ k = b := by rw [Nat.mul_comm, Nat.mul_add_mod, Nat.mod_eq_of_lt hb]
    have e2 : (a' * 2 ^ k + b') % 2 ^ k = b' := by rw [Nat.mul_comm, Nat.mul_add_mod, Nat.mod_eq_of_lt hb']
    rw [e1, e2]
  have := Nat.div_add_mod ((a * 2 ^ k + b) ^^^ (a' * 2 ^ k + b')) (2 ^ k)
  rw [h1, h2, Nat.mul_comm] at this
  exact this.symm
abbrev N6 := Nat × Nat × Nat × Nat × Nat × Nat
def pack (s : N6) : Nat := ((((s.1 * 2 ^ 5 + s.2.1) * 2 ^ 5 + s.2.2.1) * 2 ^ 5 + s.2.2.2.1) * 2 ^ 5 + s.2.2.2.2.1) * 2 ^ 5 + s.2.2.2.2.2
def b6 (s : N6) : Prop := s.1 < 32 ∧ s.2.1 < 32 ∧ s.2.2.1 < 32 ∧ s.2.2.2.1 < 32 ∧ s.2.2.2.2.1 < 32 ∧ s.2.2.2.2.2 < 32
def x6 (s t : N6) : N6 := (s.1 ^^^ t.1, s.2.1 ^^^ t.2.1, s.2.2.1 ^^^ t.2.2.1, s.2.2.2.1 ^^^ t.2.2.2.1, s.2.2.2.2.1 ^^^ t.2.2.2.2.1, s.2.2.2.2.2 ^^^ t.2.2.2.2.2)
theorem x_lt {a b : Nat} (ha : a < 32) (hb : b < 32) : a ^^^ b < 32 := Nat.xor_lt_two_pow (n := 5) ha hb
theorem b6_x {s t : N6} (hs : b6 s) (ht : b6 t) : b6 (x6 s t) := ⟨x_lt hs.1 ht.1, x_lt hs.2.1 ht.2.1, x_lt hs.2.2.1 ht.2.2.1, x_lt hs.2.2.2.1 ht.2.2.2.1, x_lt hs.2.2.2.2.1 ht.2.2.2.2.1, x_lt hs.2.2.2.2.2 ht.2.2.2.2.2⟩
theorem pack_x {s t : N6} (hs : b6 s) (ht : b6 t) : pack s ^^^ pack t = pack (x6 s t) := by
  unfold pack x6
  dsimp only
  rw [split_xor (k := 5) hs.2.2.2.2.2 ht.2.2.2.2.2, split_xor (k := 5) hs.2.2.2.2.1 ht.2.2.2.2.1, split_xor (k := 5) hs.2.2.2.1 ht.2.2.2.1, split_xor (k := 5) hs.2.2.1 ht.2.2.1, split_xor (k := 5) hs.2.1 ht.2.1]
theorem pack_inj {s t : N6} (hs : b6 s) (ht : b6 t) (h : pack s = pack t) : s = t := by
  obtain ⟨a, b, c, d, e, f⟩ := s
  obtain ⟨a', b', c', d', e', f'⟩ := t
  unfold pack at h
  unfold b6 at hs ht
  dsimp only at h hs ht
  have h1 : f = f' := by omega
  subst h1
  have h2 : e = e' := by omega
  subst h2
  have h3 : d = d' := by omega
  subst h3
  have h4 : c = c' := by omega
  subst h4
  have h5 : b = b' := by omega
  subst h5
  have h6 : a = a' := by omega
  rw [h6]
def tabN (k : Int) (u : Nat) : Nat := ((byI k).map Int.toNat).getD u 0
def T29 : List Nat := (byI 29).map Int.toNat
def T22 : List Nat := (byI 22).map Int.toNat
def T20 : List Nat := (byI 20).map Int.toNat
def T21 : List Nat := (byI 21).map Int.toNat
def T18 : List Nat := (byI 18).map Int.toNat
def g6 (u : Nat) : N6 := (T29.getD u 0, T22.getD u 0, T20.getD u 0, T21.getD u 0, T29.getD u 0, T18.getD u 0)
def sh6 (s : N6) (v : Nat) : N6 := (s.2.1, s.2.2.1, s.2.2.2.1, s.2.2.2.2.1, s.2.2.2.2.2, v)
def nst (s : N6) (v : Nat) : N6 := x6 (g6 s.1) (sh6 s v)
def genN (u : Nat) : Nat := (if u / 1 % 2 = 0 then 0 else 996825010) ^^^ (if u / 2 % 2 = 0 then 0 else 642813549) ^^^ (if u / 4 % 2 = 0 then 0 else 513874426) ^^^ (if u / 8 % 2 = 0 then 0 else 1027748829) ^^^ (if u / 16 % 2 = 0 then 0 else 705979059)
def b6B (s : N6) : Bool := decide (s.1 < 32) && decide (s.2.1 < 32) && decide (s.2.2.1 < 32) && decide (s.2.2.2.1 < 32) && decide (s.2.2.2.2.1 < 32) && decide (s.2.2.2.2.2 < 32)
theorem b6_of {s : N6} (h : b6B s = true) : b6 s := by
  unfold b6B at h
  simp only [Bool.and_eq_true, decide_eq_true_eq] at h
  exact ⟨h.1.1.1.1.1, h.1.1.1.1.2, h.1.1.1.2, h.1.1.2, h.1.2, h.2⟩
theorem gen_all : (List.range 32).all (fun u => genN u == pack (g6 u) && b6B (g6 u)) = true := by decide +kernel
theorem gen_ok {u : Nat} (h : u < 32) : genN u = pack (g6 u) ∧ b6 (g6 u) := by
  have := List.all_eq_true.mp gen_all u (List.mem_range.mpr h)
  rw [Bool.and_eq_true, beq_iff_eq] at this
  exact ⟨this.1, b6_of this.2⟩
theorem g6_zero : g6 0 = (0, 0, 0, 0, 0, 0) := by decide +kernel
theorem lin_all : (List.range 32).all (fun u => (List.range 32).all fun v => g6 (u ^^^ v) == x6 (g6 u) (g6 v)) = true := by decide +kernel
theorem g6_lin {u v : Nat} (hu : u < 32) (hv : v < 32) : g6 (u ^^^ v) = x6 (g6 u) (g6 v) := by
  have := List.all_eq_true.mp (List.all_eq_true.mp lin_all u (List.mem_range.mpr hu)) v (List.mem_range.mpr hv)
  exact eq_of_beq this
theorem g18_all : (List.range 32).all (fun u => u == 0 || !((g6 u).2.2.2.2.2 == 0)) = true := by decide +kernel
theorem sh6_b {s : N6} {v : Nat} (hs : b6 s) (hv : v < 32) : b6 (sh6 s v) := ⟨hs.2.1, hs.2.2.1, hs.2.2.2.1, hs.2.2.2.2.1, hs.2.2.2.2.2, hv⟩
theorem nst_b {s : N6} {v : Nat} (hs : b6 s) (hv : v < 32) : b6 (nst s v) := b6_x (gen_ok hs.1).2 (sh6_b hs hv)
theorem xx (a b c d : Nat) : (a ^^^ b) ^^^ (c ^^^ d) = (a ^^^ c) ^^^ (b ^^^ d) := by
  rw [Nat.xor_assoc, Nat.xor_assoc, ← Nat.xor_assoc b, Nat.xor_comm b c, Nat.xor_assoc c]
theorem x6_swap (a b c d : N6) : x6 (x6 a b) (x6 c d) = x6 (x6 a c) (x6 b d) := by
  unfold x6; dsimp only; simp only [xx]
theorem nst_lin {s t : N6} {v w : Nat} (hs : b6 s) (ht : b6 t) : nst (x6 s t) (v ^^^ w) = x6 (nst s v) (nst t w) := by
  unfold nst
  rw [show (x6 s t).1 = s.1 ^^^ t.1 from rfl, g6_lin hs.1 ht.1, show sh6 (x6 s t) (v ^^^ w) = x6 (sh6 s v) (sh6 t w) from rfl, x6_swap]
def nf (s : N6) (l : List Nat) : N6 := l.foldl nst s
theorem nf_app (s : N6) (a b : List Nat) : nf s (a ++ b) = nf (nf s a) b := List.foldl_append
def zx (a b : List Nat) : List Nat := List.zipWith (fun x y => x ^^^ y) a b
def is32 (l : List Nat) : Prop := ∀ x ∈ l, x < 32
theorem nf_b : ∀ {l : List Nat} {s : N6}, b6 s → is32 l → b6 (nf s l)
  | [], _, hs, _ => hs
  | v :: l, s, hs, hl => nf_b (l := l) (nst_b hs (hl v (.head _))) fun x hx => hl x (.tail _ hx)
theorem nf_lin : ∀ {a b : List Nat} {s t : N6}, b6 s → b6 t → is32 a → is32 b → a.length = b.length → nf (x6 s t) (zx a b) = x6 (nf s a) (nf t b)
  | [], [], _, _, _, _, _, _, _ => rfl
  | [], _ :: _, _, _, _, _, _, _, h => by cases h
  | _ :: _, [], _, _, _, _, _, _, h => by cases h
  | v :: a, w :: b, s, t, hs, ht, ha, hb, h => by
    show nf (nst (x6 s t) (v ^^^ w)) (zx a b) = _
    rw [nst_lin hs ht]
    exact nf_lin (nst_b hs (ha v (.head _))) (nst_b ht (hb w (.head _))) (fun x hx => ha x (.tail _ hx)) (fun x hx => hb x (.tail _ hx)) (Nat.succ.inj h)
def z6 : N6 := (0, 0, 0, 0, 0, 0)
def e6 : N6 := (0, 0, 0, 0, 0, 1)
theorem z6_b : b6 z6 := by unfold b6 z6; decide
theorem e6_b : b6 e6 := by unfold b6 e6; decide
theorem x6_z (s : N6) : x6 s z6 = s := by unfold x6 z6; simp
theorem z_x6 (s : N6) : x6 z6 s = s := by unfold x6 z6; simp
theorem x6_self (s : N6) : x6 s s = z6 := by unfold x6 z6; simp
theorem x6_assoc (a b c : N6) : x6 (x6 a b) c = x6 a (x6 b c) := by unfold x6; dsimp only; simp only [Nat.xor_assoc]
theorem nst_z : nst z6 0 = z6 := by unfold nst; rw [show z6.1 = 0 from rfl, g6_zero]; rfl
theorem nf_zeros : ∀ k : Nat, nf z6 (List.replicate k 0) = z6
  | 0 => rfl
  | k + 1 => by
    show nf (nst z6 0) (List.replicate k 0) = z6
    rw [nst_z]; exact nf_zeros k
def l6 (s : N6) : List Nat := [s.1, s.2.1, s.2.2.1, s.2.2.2.1, s.2.2.2.2.1, s.2.2.2.2.2]
theorem l6_b {s : N6} (h : b6 s) : is32 (l6 s) := by
  intro x hx
  simp only [l6, List.mem_cons, List.not_mem_nil, or_false] at hx
  rcases hx with rfl | rfl | rfl | rfl | rfl | rfl
  · exact h.1
  · exact h.2.1
  · exact h.2.2.1
  · exact h.2.2.2.1
  · exact h.2.2.2.2.1
  · exact h.2.2.2.2.2
theorem nst0 (b c d e f v : Nat) : nst (0, b, c, d, e, f) v = (b, c, d, e, f, v) := by
  unfold nst; rw [show ((0, b, c, d, e, f) : N6).1 = 0 from rfl, g6_zero]
  show x6 z6 _ = _
  rw [z_x6]; rfl
theorem nf_l6 (s : N6) : nf z6 (l6 s) = s := by
  obtain ⟨a, b, c, d, e, f⟩ := s
  show nst (nst (nst (nst (nst (nst (0, 0, 0, 0, 0, 0) a) b) c) d) e) f = _
  simp only [nst0]
theorem zx_zero_r : ∀ (a : List Nat), zx a (List.replicate a.length 0) = a
  | [] => rfl
  | x :: a => by
    show (x ^^^ 0) :: zx a (List.replicate a.length 0) = _
    rw [zx_zero_r a, Nat.xor_zero]
theorem zx_zero_l : ∀ (a : List Nat), zx (List.replicate a.length 0) a = a
  | [] => rfl
  | x :: a => by
    show (0 ^^^ x) :: zx (List.replicate a.length 0) a = _
    rw [zx_zero_l a, Nat.zero_xor]
theorem zx_app {a b c d : List Nat} (h : a.length = c.length) : zx (a ++ b) (c ++ d) = zx a c ++ zx b d := by
  unfold zx; exact List.zipWith_append h
theorem rep_b (k : Nat) : is32 (List.replicate k 0) := fun x hx => by rw [List.eq_of_mem_replicate hx]; decide
theorem is32_app {a b : List Nat} (ha : is32 a) (hb : is32 b) : is32 (a ++ b) := fun x hx => (List.mem_append.mp hx).elim (ha x) (hb x)
/-- the last six signs go into the state as they are -/
theorem nf_tail {s c : N6} {a : List Nat} (hs : b6 s) (ha : is32 a) (hc : b6 c) : nf s (a ++ l6 c) = x6 (nf s (a ++ List.replicate 6 0)) c := by
  have e : a ++ l6 c = zx (a ++ List.replicate 6 0) (List.replicate a.length 0 ++ l6 c) := by
    rw [zx_app (by rw [List.length_replicate]), zx_zero_r]
    rw [show zx (List.replicate 6 0) (l6 c) = l6 c from zx_zero_l (l6 c)]
  have hh := nf_lin (s := s) (t := z6) (a := a ++ List.replicate 6 0) (b := List.replicate a.length 0 ++ l6 c) hs z6_b (is32_app ha (rep_b 6)) (is32_app (rep_b _) (l6_b hc)) (by simp [l6])
  rw [x6_z, ← e] at hh
  rw [hh, nf_app z6, nf_zeros, nf_l6]
end
section
theorem fdiv_nat (a b : Nat) : (a : Int).fdiv (b : Int) = ((a / b : Nat) : Int) := by
  rw [Int.fdiv_eq_ediv_of_nonneg _ (Int.natCast_nonneg b)]; exact (Int.natCast_ediv a b).symm
theorem turn_nat {u c k g : Nat} {i : Int} (hi : (2 : Int) ^ i.toNat = (k : Nat)) (hg : ([996825010, 642813549, 513874426, 1027748829, 705979059] : List Int).getD i.toNat 0 = ((g : Nat) : Int)) :
    turnI (u : Int) (c : Int) i = ((c ^^^ (if u / k % 2 = 0 then 0 else g) : Nat) : Int) := by
  unfold turnI
  rw [hi, hg, fdiv_nat, bitAnd_m1]
  by_cases h : u / k % 2 = 0
  · rw [if_pos h, if_pos (by omega)]
    rw [show (0 : Int) = ((0 : Nat) : Int) from rfl, xor_nat]
  · rw [if_neg h, if_neg (by omega), xor_nat]
theorem stepI_nst {s : N6} {v : Nat} (hs : b6 s) (hv : v < 32) : stepI (pack s : Int) (v : Int) = ((pack (nst s v) : Nat) : Int) := by
  have hsh := sh6_b hs hv
  have htop : (pack s : Int).fdiv (2 ^ Int.toNat 25) = ((s.1 : Nat) : Int) := by
    rw [show (2 : Int) ^ Int.toNat 25 = ((33554432 : Nat) : Int) from by decide, fdiv_nat]
    have : pack s / 33554432 = s.1 := by
      obtain ⟨h1, h2, h3, h4, h5, h6⟩ := hs
      unfold pack; omega
    rw [this]
  have hst : startI (pack s : Int) (v : Int) = ((pack (sh6 s v) : Nat) : Int) := by
    unfold startI
    rw [show (33554431 : Int) = ((33554431 : Nat) : Int) from rfl, bitAnd_nat, show (33554431 : Nat) = 2 ^ 25 - 1 from by decide, Nat.and_two_pow_sub_one_eq_mod,
      show (2 : Int) ^ Int.toNat 5 = ((32 : Nat) : Int) from by decide, ← Int.natCast_mul, xor_nat]
    have h := split_xor (k := 5) (a := pack s % 2 ^ 25) (b := 0) (a' := 0) (b' := v) (by decide) hv
    rw [Nat.zero_mul, Nat.zero_add, Nat.add_zero, Nat.xor_zero, Nat.zero_xor] at h
    rw [show (32 : Nat) = 2 ^ 5 from rfl, h]
    have : pack s % 2 ^ 25 * 2 ^ 5 + v = pack (sh6 s v) := by
      obtain ⟨h1, h2, h3, h4, h5, h6⟩ := hs
      unfold pack sh6; dsimp only; omega
    rw [this]
  unfold stepI inI
  rw [htop, hst]
  simp only [List.foldl_cons, List.foldl_nil]
  rw [turn_nat (k := 1) (g := 996825010) (by decide) rfl, turn_nat (k := 2) (g := 642813549) (by decide) rfl, turn_nat (k := 4) (g := 513874426) (by decide) rfl, turn_nat (k := 8) (g := 1027748829) (by decide) rfl, turn_nat (k := 16) (g := 705979059) (by decide) rfl]
  have hg := gen_ok hs.1
  have e2 : ((((pack (sh6 s v) ^^^ (if s.1 / 1 % 2 = 0 then 0 else 996825010)) ^^^ (if s.1 / 2 % 2 = 0 then 0 else 642813549)) ^^^ (if s.1 / 4 % 2 = 0 then 0 else 513874426)) ^^^ (if s.1 / 8 % 2 = 0 then 0 else 1027748829)) ^^^ (if s.1 / 16 % 2 = 0 then 0 else 705979059) = pack (sh6 s v) ^^^ genN s.1 := by
    unfold genN; simp only [Nat.xor_assoc]
  rw [e2]
  rw [hg.1, pack_x hsh hg.2]
  have : x6 (sh6 s v) (g6 s.1) = nst s v := by unfold nst x6; simp only [Nat.xor_comm]
  rw [this]
theorem fold_nf : ∀ {l : List Nat} {s : N6}, b6 s → is32 l → (C l).foldl stepI (pack s : Int) = ((pack (nf s l) : Nat) : Int)
  | [], _, _, _ => rfl
  | v :: l, s, hs, hl => by
    rw [C_cons, List.foldl_cons, stepI_nst hs (hl v (.head _))]
    exact fold_nf (nst_b hs (hl v (.head _))) fun x hx => hl x (.tail _ hx)
theorem poly_nf {l : List Nat} (hl : is32 l) : polyI (C l) = ((pack (nf e6 l) : Nat) : Int) := by
  unfold polyI
  rw [show (1 : Int) = ((pack e6 : Nat) : Int) from rfl]
  exact fold_nf e6_b hl
def hN (cs : List Nat) : List Nat := cs.map (fun c => c / 32) ++ [0] ++ cs.map fun c => c % 32
theorem hrp_C (cs : List Nat) : hrpI (T cs) = C (hN cs) := by
  unfold hrpI hN
  rw [T_cps, C_app, C_app]
  congr 1
  · congr 1
    unfold C
    rw [List.map_map]
    refine List.map_congr_left fun c _ => ?_
    show (c : Int).fdiv (2 ^ Int.toNat 5) = _
    rw [show (2 : Int) ^ Int.toNat 5 = ((32 : Nat) : Int) from by decide, fdiv_nat]; rfl
  · unfold C
    rw [List.map_map]
    refine List.map_congr_left fun c _ => ?_
    show Builtin.bitAnd (c : Int) 31 = _
    rw [bitAnd_m5]; rfl
theorem hN_b {cs : List Nat} (h : ∀ c ∈ cs, c < 1024) : is32 (hN cs) := by
  intro x hx
  unfold hN at hx
  rcases List.mem_append.mp hx with hx | hx
  · rcases List.mem_append.mp hx with hx | hx
    · obtain ⟨c, hc, rfl⟩ := List.mem_map.mp hx
      have := h c hc; omega
    · rw [List.mem_singleton.mp hx]; decide
  · obtain ⟨c, _, rfl⟩ := List.mem_map.mp hx
    omega
def s0 (cs : List Nat) : N6 := nf e6 (hN cs)
theorem s0_b {cs : List Nat} (h : ∀ c ∈ cs, c < 1024) : b6 (s0 cs) := nf_b e6_b (hN_b h)
theorem poly_s0 {cs : List Nat} {l : List Nat} (h : ∀ c ∈ cs, c < 1024) (hl : is32 l) : polyI (hrpI (T cs) ++ C l) = ((pack (nf (s0 cs) l) : Nat) : Int) := by
  rw [hrp_C, ← C_app, poly_nf (is32_app (hN_b h) hl), nf_app]; rfl
theorem pack_e6 : pack e6 = 1 := rfl
theorem poly_one {cs : List Nat} {l : List Nat} (h : ∀ c ∈ cs, c < 1024) (hl : is32 l) : polyI (hrpI (T cs) ++ C l) = 1 ↔ nf (s0 cs) l = e6 := by
  rw [poly_s0 h hl]
  constructor
  · intro e
    refine pack_inj (nf_b (s0_b h) hl) e6_b ?_
    rw [pack_e6]; exact Int.ofNat.inj e
  · intro e; rw [e, pack_e6]; rfl
def chkN (cs : List Nat) (l : List Nat) : N6 := x6 (nf (s0 cs) (l ++ List.replicate 6 0)) e6
theorem chk_b {cs : List Nat} {l : List Nat} (h : ∀ c ∈ cs, c < 1024) (hl : is32 l) : b6 (chkN cs l) := b6_x (nf_b (s0_b h) (is32_app hl (rep_b 6))) e6_b
theorem dig_pack {t : N6} (ht : b6 t) : (rangeKs 0 6).map (digI (pack t : Int)) = C (l6 t) := by
  obtain ⟨h1, h2, h3, h4, h5, h6⟩ := ht
  have key : ∀ (i : Int) (k : Nat), (2 : Int) ^ (5 * (5 - i)).toNat = ((k : Nat) : Int) → digI (pack t : Int) i = ((pack t / k % 32 : Nat) : Int) := by
    intro i k hk
    unfold digI
    rw [hk, fdiv_nat, bitAnd_m5]; rfl
  rw [show rangeKs 0 6 = [0, 1, 2, 3, 4, 5] from by decide]
  simp only [List.map_cons, List.map_nil]
  rw [key 0 33554432 (by decide), key 1 1048576 (by decide), key 2 32768 (by decide), key 3 1024 (by decide), key 4 32 (by decide), key 5 1 (by decide)]
  unfold l6 C
  simp only [List.map_cons, List.map_nil]
  have e1 : pack t / 33554432 % 32 = t.1 := by unfold pack; omega
  have e2 : pack t / 1048576 % 32 = t.2.1 := by unfold pack; omega
  have e3 : pack t / 32768 % 32 = t.2.2.1 := by unfold pack; omega
  have e4 : pack t / 1024 % 32 = t.2.2.2.1 := by unfold pack; omega
  have e5 : pack t / 32 % 32 = t.2.2.2.2.1 := by unfold pack; omega
  have e6 : pack t / 1 % 32 = t.2.2.2.2.2 := by unfold pack; omega
  rw [e1, e2, e3, e4, e5, e6]
theorem create_C {cs : List Nat} {l : List Nat} (h : ∀ c ∈ cs, c < 1024) (hl : is32 l) : createI (T cs) (C l) = C (l6 (chkN cs l)) := by
  unfold createI
  rw [show ([0, 0, 0, 0, 0, 0] : List Int) = C (List.replicate 6 0) from rfl, List.append_assoc, ← C_app, poly_s0 h (is32_app hl (rep_b 6)),
    show (1 : Int) = ((pack e6 : Nat) : Int) from rfl, xor_nat, pack_x (nf_b (s0_b h) (is32_app hl (rep_b 6))) e6_b]
  exact dig_pack (chk_b h hl)
theorem chk_good {cs : List Nat} {l : List Nat} (h : ∀ c ∈ cs, c < 1024) (hl : is32 l) : nf (s0 cs) (l ++ l6 (chkN cs l)) = e6 := by
  rw [nf_tail (s0_b h) hl (chk_b h hl), chkN, ← x6_assoc, x6_self, z_x6]
theorem C_getD (l : List Nat) (i : Nat) : (C l).getD i 0 = ((l.getD i 0 : Nat) : Int) := by
  unfold C
  rw [List.getD_eq_getElem?_getD, List.getD_eq_getElem?_getD, List.getElem?_map]
  cases l[i]? <;> rfl
def c6 (s : N6) : St6 := ((s.1 : Int), (s.2.1 : Int), (s.2.2.1 : Int), (s.2.2.2.1 : Int), (s.2.2.2.2.1 : Int), (s.2.2.2.2.2 : Int))
theorem by_C : byI 29 = C T29 ∧ byI 22 = C T22 ∧ byI 20 = C T20 ∧ byI 21 = C T21 ∧ byI 18 = C T18 := by decide +kernel
theorem run_nst (s : N6) (v : Nat) : runStep (C T29) (C T22) (C T20) (C T21) (C T18) (c6 s) (v : Int) = c6 (nst s v) := by
  unfold runStep
  simp only [show (c6 s).1 = (s.1 : Int) from rfl, show (c6 s).2.1 = (s.2.1 : Int) from rfl, show (c6 s).2.2.1 = (s.2.2.1 : Int) from rfl, show (c6 s).2.2.2.1 = (s.2.2.2.1 : Int) from rfl, show (c6 s).2.2.2.2.1 = (s.2.2.2.2.1 : Int) from rfl, show (c6 s).2.2.2.2.2 = (s.2.2.2.2.2 : Int) from rfl, Int.toNat_natCast, C_getD, xor_nat]
  rfl
theorem run_C (l : List Nat) : runR (runL (byI 29) (byI 22) (byI 20) (byI 21) (byI 18) (C l)) = C (l6 (nf z6 l)) := by
  obtain ⟨h1, h2, h3, h4, h5⟩ := by_C
  rw [h1, h2, h3, h4, h5]
  have key : ∀ (l : List Nat) (s : N6), (C l).foldl (runStep (C T29) (C T22) (C T20) (C T21) (C T18)) (c6 s) = c6 (nf s l) := by
    intro l
    induction l with
    | nil => intro s; rfl
    | cons v l ih =>
      intro s
      rw [C_cons, List.foldl_cons, run_nst]
      exact ih _
  unfold runL
  rw [show ((0, 0, 0, 0, 0, 0) : St6) = c6 z6 from rfl, key]
  rfl
end
section
abbrev S3 := Nat × Nat × List Nat
def m85 (s : S3) (v : Nat) : S3 :=
  if 2 ≤ s.2.1 then ((s.1 * 2 ^ 8 + v) % 2 ^ 12, s.2.1 - 2, s.2.2 ++ [(s.1 * 2 ^ 8 + v) % 2 ^ 12 / 2 ^ (s.2.1 + 3) % 2 ^ 5, (s.1 * 2 ^ 8 + v) % 2 ^ 12 / 2 ^ (s.2.1 - 2) % 2 ^ 5])
  else ((s.1 * 2 ^ 8 + v) % 2 ^ 12, s.2.1 + 3, s.2.2 ++ [(s.1 * 2 ^ 8 + v) % 2 ^ 12 / 2 ^ (s.2.1 + 3) % 2 ^ 5])
def f85 (s : S3) : List Nat := if s.2.1 = 0 then s.2.2 else s.2.2 ++ [s.1 * 2 ^ (5 - s.2.1) % 2 ^ 5]
def n85 (l : List Nat) : List Nat := f85 (l.foldl m85 (0, 0, []))
def m58 (s : S3) (v : Nat) : S3 :=
  if 3 ≤ s.2.1 then ((s.1 * 2 ^ 5 + v) % 2 ^ 12, s.2.1 - 3, s.2.2 ++ [(s.1 * 2 ^ 5 + v) % 2 ^ 12 / 2 ^ (s.2.1 - 3) % 2 ^ 8])
  else ((s.1 * 2 ^ 5 + v) % 2 ^ 12, s.2.1 + 5, s.2.2)
def r58 (l : List Nat) : S3 := l.foldl m58 (0, 0, [])
def c3 (s : S3) : Int × Int × List Int := ((s.1 : Int), (s.2.1 : Int), C s.2.2)
theorem or_nat {a v k : Nat} (hv : v < 2 ^ k) : Builtin.bitOr ((a : Int) * ((2 ^ k : Nat) : Int)) (v : Int) = ((a * 2 ^ k + v : Nat) : Int) := by
  have h := split_xor (k := k) (a := a) (b := 0) (a' := 0) (b' := v) (Nat.two_pow_pos k) hv
  rw [Nat.zero_mul, Nat.zero_add, Nat.add_zero, Nat.xor_zero, Nat.zero_xor] at h
  have h2 := xor_add (a * 2 ^ k) (a * 2 ^ k) v (Nat.le_refl _)
  rw [bitOr_and, ← Int.natCast_mul, bitAnd_nat]
  omega
theorem and12 (a : Nat) : Builtin.bitAnd (a : Int) (1 * 2 ^ Int.toNat (8 + 5 - 1) - 1) = ((a % 2 ^ 12 : Nat) : Int) := by
  rw [show (1 * 2 ^ Int.toNat (8 + 5 - 1) - 1 : Int) = ((2 ^ 12 - 1 : Nat) : Int) from by decide, bitAnd_nat, Nat.and_two_pow_sub_one_eq_mod]
theorem and12' (a : Nat) : Builtin.bitAnd (a : Int) (1 * 2 ^ Int.toNat (5 + 8 - 1) - 1) = ((a % 2 ^ 12 : Nat) : Int) := by
  rw [show (1 * 2 ^ Int.toNat (5 + 8 - 1) - 1 : Int) = ((2 ^ 12 - 1 : Nat) : Int) from by decide, bitAnd_nat, Nat.and_two_pow_sub_one_eq_mod]
theorem and5 (a : Nat) : Builtin.bitAnd (a : Int) (1 * 2 ^ Int.toNat 5 - 1) = ((a % 2 ^ 5 : Nat) : Int) := by
  rw [show (1 * 2 ^ Int.toNat 5 - 1 : Int) = ((2 ^ 5 - 1 : Nat) : Int) from by decide, bitAnd_nat, Nat.and_two_pow_sub_one_eq_mod]
theorem and8 (a : Nat) : Builtin.bitAnd (a : Int) (1 * 2 ^ Int.toNat 8 - 1) = ((a % 2 ^ 8 : Nat) : Int) := by
  rw [show (1 * 2 ^ Int.toNat 8 - 1 : Int) = ((2 ^ 8 - 1 : Nat) : Int) from by decide, bitAnd_nat, Nat.and_two_pow_sub_one_eq_mod]
theorem p2 (k : Nat) : (2 : Int) ^ k = ((2 ^ k : Nat) : Int) := by rw [Int.natCast_pow]; rfl
theorem acc85_nat {a v : Nat} (hv : v < 256) : acc85 (a : Int) (v : Int) = (((a * 2 ^ 8 + v) % 2 ^ 12 : Nat) : Int) := by
  unfold acc85
  rw [show (2 : Int) ^ Int.toNat 8 = ((2 ^ 8 : Nat) : Int) from by decide, or_nat (k := 8) hv, and12]
theorem acc58_nat {a v : Nat} (hv : v < 32) : acc58 (a : Int) (v : Int) = (((a * 2 ^ 5 + v) % 2 ^ 12 : Nat) : Int) := by
  unfold acc58
  rw [show (2 : Int) ^ Int.toNat 5 = ((2 ^ 5 : Nat) : Int) from by decide, or_nat (k := 5) hv, and12']
theorem grp5_nat {a k : Nat} {b : Int} (hb : b.toNat = k) : grp5 (a : Int) b = ((a / 2 ^ k % 2 ^ 5 : Nat) : Int) := by
  unfold grp5; rw [hb, p2, fdiv_nat, and5]
theorem grp8_nat {a k : Nat} {b : Int} (hb : b.toNat = k) : grp8 (a : Int) b = ((a / 2 ^ k % 2 ^ 8 : Nat) : Int) := by
  unfold grp8; rw [hb, p2, fdiv_nat, and8]
theorem st85_nat (s : S3) {v : Nat} (hv : v < 256) : st85 (c3 s) (v : Int) = c3 (m85 s v) := by
  unfold st85 m85
  rw [show (c3 s).1 = (s.1 : Int) from rfl, show (c3 s).2.1 = (s.2.1 : Int) from rfl, show (c3 s).2.2 = C s.2.2 from rfl, acc85_nat hv]
  by_cases h : 2 ≤ s.2.1
  · rw [if_pos (by omega), if_pos h, grp5_nat (k := s.2.1 + 3) (by omega), grp5_nat (k := s.2.1 - 2) (by omega)]
    unfold c3; dsimp only
    rw [C_app, List.append_assoc]
    refine Prod.ext rfl (Prod.ext ?_ rfl)
    show (s.2.1 : Int) + 8 - 5 - 5 = ((s.2.1 - 2 : Nat) : Int)
    omega
  · rw [if_neg (by omega), if_neg h, grp5_nat (k := s.2.1 + 3) (by omega)]
    unfold c3; dsimp only
    rw [C_app]
    refine Prod.ext rfl (Prod.ext ?_ rfl)
    show (s.2.1 : Int) + 8 - 5 = ((s.2.1 + 3 : Nat) : Int)
    omega
theorem st58_nat (s : S3) {v : Nat} (hv : v < 32) : st58 (c3 s) (v : Int) = c3 (m58 s v) := by
  unfold st58 m58
  rw [show (c3 s).1 = (s.1 : Int) from rfl, show (c3 s).2.1 = (s.2.1 : Int) from rfl, show (c3 s).2.2 = C s.2.2 from rfl, acc58_nat hv]
  by_cases h : 3 ≤ s.2.1
  · rw [if_pos (by omega), if_pos h, grp8_nat (k := s.2.1 - 3) (by omega)]
    unfold c3; dsimp only
    rw [C_app]
    refine Prod.ext rfl (Prod.ext ?_ rfl)
    show (s.2.1 : Int) + 5 - 8 = ((s.2.1 - 3 : Nat) : Int)
    omega
  · rw [if_neg (by omega), if_neg h]
    refine Prod.ext rfl (Prod.ext ?_ rfl)
    show (s.2.1 : Int) + 5 = ((s.2.1 + 5 : Nat) : Int)
    omega
def is256 (l : List Nat) : Prop := ∀ x ∈ l, x < 256
theorem fold85_nat : ∀ (l : List Nat) (s : S3), is256 l → (C l).foldl st85 (c3 s) = c3 (l.foldl m85 s)
  | [], _, _ => rfl
  | v :: l, s, h => by
    rw [C_cons, List.foldl_cons, List.foldl_cons, st85_nat s (h v (.head _))]
    exact fold85_nat l _ fun x hx => h x (.tail _ hx)
theorem fold58_nat : ∀ (l : List Nat) (s : S3), is32 l → (C l).foldl st58 (c3 s) = c3 (l.foldl m58 s)
  | [], _, _ => rfl
  | v :: l, s, h => by
    rw [C_cons, List.foldl_cons, List.foldl_cons, st58_nat s (h v (.head _))]
    exact fold58_nat l _ fun x hx => h x (.tail _ hx)
theorem mulp (a k : Nat) : (a : Int) * (2 : Int) ^ k = ((a * 2 ^ k : Nat) : Int) := by rw [p2, Int.natCast_mul]
theorem cv85_C {l : List Nat} (h : is256 l) : cv85 (C l) = C (n85 l) := by
  unfold cv85 n85 run85
  rw [show ((0, 0, []) : Int × Int × List Int) = c3 (0, 0, []) from rfl, fold85_nat l _ h]
  generalize l.foldl m85 (0, 0, []) = s
  unfold fin85 f85
  rw [show (c3 s).1 = (s.1 : Int) from rfl, show (c3 s).2.1 = (s.2.1 : Int) from rfl, show (c3 s).2.2 = C s.2.2 from rfl]
  by_cases hz : s.2.1 = 0
  · rw [if_pos hz, if_pos (by omega)]
  · rw [if_neg hz, if_neg (by omega), show (5 - (s.2.1 : Int)).toNat = 5 - s.2.1 from by omega, mulp, and5, C_app]; rfl
theorem cv58_C {l : List Nat} (h : is32 l) {a b : Nat} {r : List Nat} (hr : r58 l = (a, b, r)) (hb : b < 5) (hz : a * 2 ^ (8 - b) % 2 ^ 8 = 0) : cv58 (C l) = some (C r) := by
  unfold cv58 run58
  rw [show ((0, 0, []) : Int × Int × List Int) = c3 (0, 0, []) from rfl, fold58_nat l _ h, show l.foldl m58 (0, 0, []) = (a, b, r) from hr]
  unfold fin58
  rw [show (c3 (a, b, r)).1 = (a : Int) from rfl, show (c3 (a, b, r)).2.1 = (b : Int) from rfl, show (c3 (a, b, r)).2.2 = C r from rfl]
  rw [if_neg (by omega), show (8 - (b : Int)).toNat = 8 - b from by omega, mulp, and8, hz]; rfl
/-- two runs side by side -/
def zs (s t : S3) : S3 := (s.1 ^^^ t.1, s.2.1, zx s.2.2 t.2.2)
def al (s t : S3) : Prop := s.2.1 = t.2.1 ∧ s.2.2.length = t.2.2.length
theorem acc_lin {k n a a' v v' : Nat} (hv : v < 2 ^ k) (hv' : v' < 2 ^ k) : ((a ^^^ a') * 2 ^ k + (v ^^^ v')) % 2 ^ n = (a * 2 ^ k + v) % 2 ^ n ^^^ (a' * 2 ^ k + v') % 2 ^ n := by
  rw [← split_xor hv hv', Nat.xor_mod_two_pow]
theorem out_lin (a a' k n : Nat) : (a ^^^ a') / 2 ^ k % 2 ^ n = (a / 2 ^ k % 2 ^ n) ^^^ (a' / 2 ^ k % 2 ^ n) := by rw [Nat.xor_div_two_pow, Nat.xor_mod_two_pow]
theorem m85_lin {s t : S3} {v w : Nat} (h : al s t) (hv : v < 256) (hw : w < 256) : m85 (zs s t) (v ^^^ w) = zs (m85 s v) (m85 t w) ∧ al (m85 s v) (m85 t w) := by
  obtain ⟨a, b, r⟩ := s
  obtain ⟨a', b', r'⟩ := t
  obtain ⟨h1, h2⟩ := h
  have h1 : b = b' := h1
  have h2 : r.length = r'.length := h2
  subst h1
  unfold m85 zs al
  dsimp only
  rw [acc_lin (k := 8) hv hw]
  by_cases hb : 2 ≤ b
  · simp only [if_pos hb]
    rw [out_lin, out_lin, zx_app h2]
    exact ⟨rfl, trivial, by simp [h2]⟩
  · simp only [if_neg hb]
    rw [out_lin, zx_app h2]
    exact ⟨rfl, trivial, by simp [h2]⟩
theorem m58_lin {s t : S3} {v w : Nat} (h : al s t) (hv : v < 32) (hw : w < 32) : m58 (zs s t) (v ^^^ w) = zs (m58 s v) (m58 t w) ∧ al (m58 s v) (m58 t w) := by
  obtain ⟨a, b, r⟩ := s
  obtain ⟨a', b', r'⟩ := t
  obtain ⟨h1, h2⟩ := h
  have h1 : b = b' := h1
  have h2 : r.length = r'.length := h2
  subst h1
  unfold m58 zs al
  dsimp only
  rw [acc_lin (k := 5) hv hw]
  by_cases hb : 3 ≤ b
  · simp only [if_pos hb]
    rw [out_lin, zx_app h2]
    exact ⟨rfl, trivial, by simp [h2]⟩
  · simp only [if_neg hb]
    exact ⟨trivial, trivial, h2⟩
theorem f85m_lin : ∀ {l k : List Nat} {s t : S3}, al s t → is256 l → is256 k → l.length = k.length → (zx l k).foldl m85 (zs s t) = zs (l.foldl m85 s) (k.foldl m85 t) ∧ al (l.foldl m85 s) (k.foldl m85 t)
  | [], [], _, _, h, _, _, _ => ⟨rfl, h⟩
  | [], _ :: _, _, _, _, _, _, h => by cases h
  | _ :: _, [], _, _, _, _, _, h => by cases h
  | v :: l, w :: k, s, t, h, hl, hk, e => by
    have hm := m85_lin h (hl v (.head _)) (hk w (.head _))
    show (zx l k).foldl m85 (m85 (zs s t) (v ^^^ w)) = _ ∧ _
    rw [hm.1]
    exact f85m_lin hm.2 (fun x hx => hl x (.tail _ hx)) (fun x hx => hk x (.tail _ hx)) (Nat.succ.inj e)
theorem f58m_lin : ∀ {l k : List Nat} {s t : S3}, al s t → is32 l → is32 k → l.length = k.length → (zx l k).foldl m58 (zs s t) = zs (l.foldl m58 s) (k.foldl m58 t) ∧ al (l.foldl m58 s) (k.foldl m58 t)
  | [], [], _, _, h, _, _, _ => ⟨rfl, h⟩
  | [], _ :: _, _, _, _, _, _, h => by cases h
  | _ :: _, [], _, _, _, _, _, h => by cases h
  | v :: l, w :: k, s, t, h, hl, hk, e => by
    have hm := m58_lin h (hl v (.head _)) (hk w (.head _))
    show (zx l k).foldl m58 (m58 (zs s t) (v ^^^ w)) = _ ∧ _
    rw [hm.1]
    exact f58m_lin hm.2 (fun x hx => hl x (.tail _ hx)) (fun x hx => hk x (.tail _ hx)) (Nat.succ.inj e)
theorem mul_lin (a a' k n : Nat) : (a ^^^ a') * 2 ^ k % 2 ^ n = (a * 2 ^ k % 2 ^ n) ^^^ (a' * 2 ^ k % 2 ^ n) := by
  have h := split_xor (k := k) (a := a) (b := 0) (a' := a') (b' := 0) (Nat.two_pow_pos k) (Nat.two_pow_pos k)
  rw [Nat.add_zero, Nat.add_zero, Nat.xor_zero, Nat.add_zero] at h
  rw [← h, Nat.xor_mod_two_pow]
theorem n85_lin {l k : List Nat} (hl : is256 l) (hk : is256 k) (e : l.length = k.length) : n85 (zx l k) = zx (n85 l) (n85 k) ∧ (n85 l).length = (n85 k).length := by
  have h := f85m_lin (s := (0, 0, [])) (t := (0, 0, [])) ⟨rfl, rfl⟩ hl hk e
  unfold n85
  rw [show ((0, 0, []) : S3) = zs (0, 0, []) (0, 0, []) from rfl, h.1, show zs (0, 0, []) (0, 0, []) = ((0, 0, []) : S3) from rfl]
  obtain ⟨h1, h2⟩ := h.2
  generalize l.foldl m85 (0, 0, []) = s at h1 h2
  generalize k.foldl m85 (0, 0, []) = t at h1 h2
  unfold f85
  rw [show (zs s t).2.1 = s.2.1 from rfl, show (zs s t).2.2 = zx s.2.2 t.2.2 from rfl, show (zs s t).1 = s.1 ^^^ t.1 from rfl, ← h1]
  by_cases hb : s.2.1 = 0
  · simp only [if_pos hb]; exact ⟨trivial, h2⟩
  · simp only [if_neg hb]
    rw [mul_lin, zx_app h2]
    exact ⟨rfl, by simp [h2]⟩
theorem r58_lin {l k : List Nat} (hl : is32 l) (hk : is32 k) (e : l.length = k.length) : r58 (zx l k) = zs (r58 l) (r58 k) ∧ al (r58 l) (r58 k) :=
  f58m_lin (s := (0, 0, [])) (t := (0, 0, [])) ⟨rfl, rfl⟩ hl hk e
end
section
def K29 : List Nat := [0, 29, 19, 14, 15, 18, 28, 1, 30, 3, 13, 16, 17, 12, 2, 31, 21, 8, 6, 27, 26, 7, 9, 20, 11, 22, 24, 5, 4, 25, 23, 10]
def K22 : List Nat := [0, 22, 5, 19, 10, 28, 15, 25, 20, 2, 17, 7, 30, 8, 27, 13, 1, 23, 4, 18, 11, 29, 14, 24, 21, 3, 16, 6, 31, 9, 26, 12]
def K20 : List Nat := [0, 20, 1, 21, 2, 22, 3, 23, 4, 16, 5, 17, 6, 18, 7, 19, 8, 28, 9, 29, 10, 30, 11, 31, 12, 24, 13, 25, 14, 26, 15, 27]
def K21 : List Nat := [0, 21, 3, 22, 6, 19, 5, 16, 12, 25, 15, 26, 10, 31, 9, 28, 24, 13, 27, 14, 30, 11, 29, 8, 20, 1, 23, 2, 18, 7, 17, 4]
def K18 : List Nat := [0, 18, 13, 31, 26, 8, 23, 5, 29, 15, 16, 2, 7, 21, 10, 24, 19, 1, 30, 12, 9, 27, 4, 22, 14, 28, 3, 17, 20, 6, 25, 11]
theorem KT : T29 = K29 ∧ T22 = K22 ∧ T20 = K20 ∧ T21 = K21 ∧ T18 = K18 := by decide +kernel
def gK (u : Nat) : N6 := (K29.getD u 0, K22.getD u 0, K20.getD u 0, K21.getD u 0, K29.getD u 0, K18.getD u 0)
def nstK (s : N6) (v : Nat) : N6 :=
  match s with
  | (u, a, b, c, d, e) => (K29.getD u 0 ^^^ a, K22.getD u 0 ^^^ b, K20.getD u 0 ^^^ c, K21.getD u 0 ^^^ d, K29.getD u 0 ^^^ e, K18.getD u 0 ^^^ v)
theorem nstK_eq (s : N6) (v : Nat) : nst s v = nstK s v := by
  obtain ⟨h1, h2, h3, h4, h5⟩ := KT
  obtain ⟨u, a, b, c, d, e⟩ := s
  unfold nst nstK x6 g6 sh6
  rw [h1, h2, h3, h4, h5]
def nfK (s : N6) (l : List Nat) : N6 := l.foldl nstK s
theorem nfK_eq (s : N6) (l : List Nat) : nf s l = nfK s l := by
  unfold nf nfK
  rw [show nst = nstK from funext fun s => funext fun v => nstK_eq s v]
def unit (n i t : Nat) : List Nat := (List.replicate n 0).set i t
def layS (t i : Nat) (l : List Nat) (k : Nat) : List Nat := if t / 2 ^ (7 - k) % 2 = 1 then l.set (1 + (8 * i + k) / 5) (l.getD (1 + (8 * i + k) / 5) 0 + 2 ^ (4 - (8 * i + k) % 5)) else l
def accB (t : Nat) (x k : Nat) : Nat := if t / 2 ^ (7 - k) % 2 = 1 then x ^^^ 2 ^ (7 - k) else x
theorem bits_all : (List.range 256).all (fun t => (List.range 8).foldl (accB t) 0 == t) = true := by decide +kernel
theorem bits_id {t : Nat} (h : t < 256) : (List.range 8).foldl (accB t) 0 = t := eq_of_beq (List.all_eq_true.mp bits_all t (List.mem_range.mpr h))
theorem pow_lt {k : Nat} (_ : k < 8) : 2 ^ (7 - k) < 256 := Nat.lt_of_le_of_lt (Nat.pow_le_pow_right (by decide) (show 7 - k ≤ 7 by omega)) (by decide)
theorem x8_lt {a b : Nat} (ha : a < 256) (hb : b < 256) : a ^^^ b < 256 := Nat.xor_lt_two_pow (n := 8) ha hb
theorem accB_lt {t x k : Nat} (hx : x < 256) (hk : k < 8) : accB t x k < 256 := by
  unfold accB; split
  · exact x8_lt hx (pow_lt hk)
  · exact hx
theorem all_bits {Q : Nat → Prop} (h0 : Q 0) (hb : ∀ k, k < 8 → Q (2 ^ (7 - k))) (hx : ∀ a b, a < 256 → b < 256 → Q a → Q b → Q (a ^^^ b)) {t : Nat} (ht : t < 256) : Q t := by
  have key : ∀ (ks : List Nat), (∀ k ∈ ks, k < 8) → ∀ x, x < 256 → Q x → Q (ks.foldl (accB t) x) := by
    intro ks
    induction ks with
    | nil => intro _ x _ hq; exact hq
    | cons k ks ih =>
      intro hk x hx' hq
      refine ih (fun j hj => hk j (.tail _ hj)) _ (accB_lt hx' (hk k (.head _))) ?_
      unfold accB; split
      · exact hx _ _ hx' (pow_lt (hk k (.head _))) hq (hb k (hk k (.head _)))
      · exact hq
  have := key (List.range 8) (fun k hk => List.mem_range.mp hk) 0 (by decide) h0
  rwa [bits_id ht] at this
theorem fold_lin {α : Type} {F : Nat → α} {op : α → α → α} (hF : ∀ a b, a < 256 → b < 256 → F (a ^^^ b) = op (F a) (F b)) (t : Nat) : ∀ (ks : List Nat), (∀ k ∈ ks, k < 8) → ∀ a, a < 256 → ks.foldl (fun e k => if t / 2 ^ (7 - k) % 2 = 1 then op e (F (2 ^ (7 - k))) else e) (F a) = F (ks.foldl (accB t) a)
  | [], _, _, _ => rfl
  | k :: ks, hk, a, ha => by
    rw [List.foldl_cons, List.foldl_cons, ← fold_lin hF t ks (fun j hj => hk j (.tail _ hj)) _ (accB_lt ha (hk k (.head _)))]
    congr 1
    unfold accB
    split
    · exact (hF _ _ ha (pow_lt (hk k (.head _)))).symm
    · rfl
theorem zx_set : ∀ (l k : List Nat) (i a b : Nat), zx (l.set i a) (k.set i b) = (zx l k).set i (a ^^^ b)
  | [], _, _, _, _ => by simp [zx]
  | _ :: _, [], _, _, _ => by simp [zx]
  | x :: l, y :: k, 0, a, b => rfl
  | x :: l, y :: k, i + 1, a, b => by
    show (x ^^^ y) :: zx (l.set i a) (k.set i b) = (x ^^^ y) :: (zx l k).set i (a ^^^ b)
    rw [zx_set l k i a b]
theorem unit_x (n i a b : Nat) : unit n i (a ^^^ b) = zx (unit n i a) (unit n i b) := by
  unfold unit
  rw [zx_set]
  have := zx_zero_r (List.replicate n 0)
  rw [List.length_replicate] at this
  rw [this]
theorem unit_b {n i t : Nat} (ht : t < 256) : is256 (unit n i t) := by
  intro x hx
  rcases List.mem_or_eq_of_mem_set hx with h | h
  · rw [List.eq_of_mem_replicate h]; decide
  · rw [h]; exact ht
theorem unit_len (n i t : Nat) : (unit n i t).length = n := by unfold unit; rw [List.length_set, List.length_replicate]
def e85 (n i t : Nat) : List Nat := n85 (unit n i t)
theorem e85_x {n i a b : Nat} (ha : a < 256) (hb : b < 256) : e85 n i (a ^^^ b) = zx (e85 n i a) (e85 n i b) := by
  unfold e85
  rw [unit_x]
  exact (n85_lin (unit_b ha) (unit_b hb) (by rw [unit_len, unit_len])).1
def tri (i : Nat) (us : Nat → List Nat) : List Nat → List Nat → List Nat → Bool
  | [], l, e => l == 0 :: e
  | k :: ks, l, e => tri i us ks l e && tri i us ks (l.set (1 + (8 * i + k) / 5) (l.getD (1 + (8 * i + k) / 5) 0 + 2 ^ (4 - (8 * i + k) % 5))) (zx e (us k))
theorem tri_ok {i : Nat} {us : Nat → List Nat} (t : Nat) : ∀ (ks l e : List Nat), tri i us ks l e = true → ks.foldl (layS t i) l = 0 :: ks.foldl (fun e k => if t / 2 ^ (7 - k) % 2 = 1 then zx e (us k) else e) e
  | [], l, e, h => eq_of_beq h
  | k :: ks, l, e, h => by
    have h := Bool.and_eq_true _ _ ▸ (show (tri i us ks l e && tri i us ks (l.set (1 + (8 * i + k) / 5) (l.getD (1 + (8 * i + k) / 5) 0 + 2 ^ (4 - (8 * i + k) % 5))) (zx e (us k))) = true from h)
    rw [List.foldl_cons, List.foldl_cons]
    unfold layS
    by_cases hb : t / 2 ^ (7 - k) % 2 = 1
    · rw [if_pos hb, if_pos hb]; exact tri_ok t ks _ _ h.2
    · rw [if_neg hb, if_neg hb]; exact tri_ok t ks _ _ h.1
def triC (n i : Nat) : Bool := tri i (fun k => e85 n i (2 ^ (7 - k))) (List.range 8) (List.replicate (1 + (8 * n + 4) / 5) 0) (e85 n i 0)
def pairs : List (Nat × Nat) := [(2, 0), (2, 1), (3, 0), (3, 1), (3, 2), (4, 0), (4, 1), (4, 2), (4, 3), (5, 0), (5, 1), (5, 2), (5, 3), (5, 4), (6, 0), (6, 1), (6, 2), (6, 3), (6, 4), (6, 5)]
theorem pairs_mem {n i : Nat} (h1 : 2 ≤ n) (h2 : n ≤ 6) (h3 : i < n) : (n, i) ∈ pairs := by
  have : n = 2 ∨ n = 3 ∨ n = 4 ∨ n = 5 ∨ n = 6 := by omega
  rcases this with rfl | rfl | rfl | rfl | rfl
  · have : i = 0 ∨ i = 1 := by omega
    rcases this with rfl | rfl <;> decide
  · have : i = 0 ∨ i = 1 ∨ i = 2 := by omega
    rcases this with rfl | rfl | rfl <;> decide
  · have : i = 0 ∨ i = 1 ∨ i = 2 ∨ i = 3 := by omega
    rcases this with rfl | rfl | rfl | rfl <;> decide
  · have : i = 0 ∨ i = 1 ∨ i = 2 ∨ i = 3 ∨ i = 4 := by omega
    rcases this with rfl | rfl | rfl | rfl | rfl <;> decide
  · have : i = 0 ∨ i = 1 ∨ i = 2 ∨ i = 3 ∨ i = 4 ∨ i = 5 := by omega
    rcases this with rfl | rfl | rfl | rfl | rfl | rfl <;> decide
theorem tri_all : pairs.all (fun q => triC q.1 q.2) = true := by decide +kernel
theorem lay_eq {n i t : Nat} (h1 : 2 ≤ n) (h2 : n ≤ 6) (h3 : i < n) (ht : t < 256) : (List.range 8).foldl (layS t i) (List.replicate (1 + (8 * n + 4) / 5) 0) = 0 :: e85 n i t := by
  have h := List.all_eq_true.mp tri_all (n, i) (pairs_mem h1 h2 h3)
  rw [tri_ok t _ _ _ h]
  have := fold_lin (F := e85 n i) (op := zx) (fun a b ha hb => e85_x ha hb) t (List.range 8) (fun k hk => List.mem_range.mp hk) 0 (by decide)
  rw [this, bits_id ht]
theorem layS_len (t i : Nat) (l : List Nat) (k : Nat) : (layS t i l k).length = l.length := by unfold layS; split <;> simp
theorem fold_len {t i : Nat} : ∀ (ks l : List Nat), (ks.foldl (layS t i) l).length = l.length
  | [], _ => rfl
  | k :: ks, l => by rw [List.foldl_cons, fold_len ks, layS_len]
theorem e85_len {n i t : Nat} (h1 : 2 ≤ n) (h2 : n ≤ 6) (h3 : i < n) (ht : t < 256) : (e85 n i t).length = (8 * n + 4) / 5 := by
  have := congrArg List.length (lay_eq h1 h2 h3 ht)
  rw [fold_len, List.length_replicate, List.length_cons] at this
  omega
def Good (l : List Nat) : Prop := is256 l ∧ is32 (n85 l) ∧ (r58 (n85 l)).2.2 = l ∧ (r58 (n85 l)).2.1 < 5 ∧ (r58 (n85 l)).1 * 2 ^ (8 - (r58 (n85 l)).2.1) % 2 ^ 8 = 0
def goodB (l : List Nat) : Bool := l.all (fun x => decide (x < 256)) && (n85 l).all (fun x => decide (x < 32)) && (r58 (n85 l)).2.2 == l && decide ((r58 (n85 l)).2.1 < 5) && (r58 (n85 l)).1 * 2 ^ (8 - (r58 (n85 l)).2.1) % 2 ^ 8 == 0
theorem good_of {l : List Nat} (h : goodB l = true) : Good l := by
  unfold goodB at h
  simp only [Bool.and_eq_true, List.all_eq_true, decide_eq_true_eq, beq_iff_eq] at h
  exact ⟨h.1.1.1.1, h.1.1.1.2, h.1.1.2, h.1.2, h.2⟩
theorem zx_b {n : Nat} : ∀ {a b : List Nat}, (∀ x ∈ a, x < 2 ^ n) → (∀ x ∈ b, x < 2 ^ n) → ∀ x ∈ zx a b, x < 2 ^ n
  | [], _, _, _, x, h => by simp [zx] at h
  | _ :: _, [], _, _, x, h => by simp [zx] at h
  | u :: a, v :: b, ha, hb, x, h => by
    rcases List.mem_cons.mp (show x ∈ (u ^^^ v) :: zx a b from h) with rfl | h
    · exact Nat.xor_lt_two_pow (ha _ (.head _)) (hb _ (.head _))
    · exact zx_b (fun y hy => ha y (.tail _ hy)) (fun y hy => hb y (.tail _ hy)) x h
theorem good_x {a b : List Nat} (ha : Good a) (hb : Good b) (e : a.length = b.length) : Good (zx a b) := by
  obtain ⟨a1, a2, a3, a4, a5⟩ := ha
  obtain ⟨b1, b2, b3, b4, b5⟩ := hb
  have h := n85_lin a1 b1 e
  have r := r58_lin a2 b2 h.2
  unfold Good
  rw [h.1, r.1]
  refine ⟨zx_b (n := 8) a1 b1, zx_b (n := 5) a2 b2, ?_, a4, ?_⟩
  · show zx (r58 (n85 a)).2.2 (r58 (n85 b)).2.2 = zx a b
    rw [a3, b3]
  · show ((r58 (n85 a)).1 ^^^ (r58 (n85 b)).1) * 2 ^ (8 - (r58 (n85 a)).2.1) % 2 ^ 8 = 0
    rw [mul_lin, a5, r.2.1, b5]; rfl
theorem good_all : pairs.all (fun q => goodB (unit q.1 q.2 0) && (List.range 8).all fun k => goodB (unit q.1 q.2 (2 ^ (7 - k)))) = true := by decide +kernel
theorem good_unit {n i t : Nat} (h1 : 2 ≤ n) (h2 : n ≤ 6) (h3 : i < n) (ht : t < 256) : Good (unit n i t) := by
  have h := List.all_eq_true.mp good_all (n, i) (pairs_mem h1 h2 h3)
  rw [Bool.and_eq_true, List.all_eq_true] at h
  exact all_bits (Q := fun t => Good (unit n i t)) (good_of h.1) (fun k hk => good_of (h.2 k (List.mem_range.mpr hk))) (fun a b ha hb qa qb => by
    show Good (unit n i (a ^^^ b))
    rw [unit_x]; exact good_x qa qb (by rw [unit_len, unit_len])) ht
theorem unit_split : ∀ (j m x : Nat), unit (j + (m + 1)) j x = List.replicate j 0 ++ x :: List.replicate m 0
  | 0, m, x => by unfold unit; rw [Nat.zero_add, List.replicate_succ]; rfl
  | j + 1, m, x => by
    have ih := unit_split j m x
    unfold unit at ih ⊢
    rw [show j + 1 + (m + 1) = (j + (m + 1)) + 1 from by omega, List.replicate_succ, List.set_cons_succ, ih, List.replicate_succ]; rfl
theorem good_any {l : List Nat} (h1 : 2 ≤ l.length) (h2 : l.length ≤ 6) (hl : is256 l) : Good l := by
  have key : ∀ (q p : List Nat), p ++ q = l → Good (p ++ List.replicate q.length 0) → Good (p ++ q) := by
    intro q
    induction q with
    | nil => intro p _ h; exact h
    | cons x q ih =>
      intro p e2 hp
      have hlen : p.length + (q.length + 1) = l.length := by rw [← e2, List.length_append, List.length_cons]
      have hx : x < 256 := hl x (by rw [← e2]; exact List.mem_append_right _ (.head _))
      have hu := good_unit (n := p.length + (q.length + 1)) (i := p.length) (t := x) (by omega) (by omega) (by omega) hx
      rw [unit_split] at hu
      have := good_x hp hu (by simp)
      rw [List.length_cons, List.replicate_succ, zx_app (by rw [List.length_replicate]), zx_zero_r] at this
      have hz := zx_zero_r (List.replicate q.length 0)
      rw [List.length_replicate] at hz
      rw [show zx (0 :: List.replicate q.length 0) (x :: List.replicate q.length 0) = x :: List.replicate q.length 0 from by
        show (0 ^^^ x) :: zx (List.replicate q.length 0) (List.replicate q.length 0) = _
        rw [hz, Nat.zero_xor]] at this
      have h2 := ih (p ++ [x]) (by rw [← e2, List.append_assoc]; rfl) (by rw [List.append_assoc]; exact this)
      rw [List.append_assoc] at h2
      exact h2
  refine key l [] rfl ?_
  have := good_unit (n := l.length) (i := 0) (t := 0) h1 h2 (by omega) (by decide)
  obtain ⟨m, hm⟩ : ∃ m, l.length = m + 1 := ⟨l.length - 1, by omega⟩
  rw [hm, ← Nat.zero_add (m + 1), unit_split] at this
  rw [hm, List.replicate_succ]
  exact this
end
section
def pN (n i t : Nat) : Nat := pack (nf z6 ((0 :: e85 n i t) ++ List.replicate 6 0))
def pK (n i t : Nat) : Nat := pack (nfK z6 ((0 :: e85 n i t) ++ List.replicate 6 0))
def aN (n a : Nat) : Nat := pack (nf z6 ((a :: List.replicate ((8 * n + 4) / 5) 0) ++ List.replicate 6 0))
def aK (n a : Nat) : Nat := pack (nfK z6 ((a :: List.replicate ((8 * n + 4) / 5) 0) ++ List.replicate 6 0))
theorem pK_eq (n i t : Nat) : pN n i t = pK n i t := by unfold pN pK; rw [nfK_eq]
theorem aK_eq (n a : Nat) : aN n a = aK n a := by unfold aN aK; rw [nfK_eq]
def aL (n : Nat) : List Nat := (List.range 32).map (aK n)
def trp (as : List Nat) (ps : Nat → Nat) : List Nat → Nat → Nat → Bool
  | [], x, p => x == 0 || !(as.contains p)
  | k :: ks, x, p => trp as ps ks x p && trp as ps ks (x ^^^ 2 ^ (7 - k)) (p ^^^ ps k)
theorem trp_ok {as : List Nat} {ps : Nat → Nat} (t : Nat) : ∀ (ks : List Nat) (x p : Nat), trp as ps ks x p = true → ks.foldl (accB t) x = 0 ∨ as.contains (ks.foldl (fun e k => if t / 2 ^ (7 - k) % 2 = 1 then e ^^^ ps k else e) p) = false
  | [], x, p, h => by
    have h : (x == 0 || !(as.contains p)) = true := h
    rw [Bool.or_eq_true, beq_iff_eq, Bool.not_eq_true'] at h
    exact h
  | k :: ks, x, p, h => by
    have h : (trp as ps ks x p && trp as ps ks (x ^^^ 2 ^ (7 - k)) (p ^^^ ps k)) = true := h
    rw [Bool.and_eq_true] at h
    rw [List.foldl_cons, List.foldl_cons]
    unfold accB
    by_cases hb : t / 2 ^ (7 - k) % 2 = 1
    · rw [if_pos hb, if_pos hb]; exact trp_ok t ks _ _ h.2
    · rw [if_neg hb, if_neg hb]; exact trp_ok t ks _ _ h.1
theorem trp_all : pairs.all (fun q => trp (aL q.1) (fun k => pK q.1 q.2 (2 ^ (7 - k))) (List.range 8) 0 (pK q.1 q.2 0)) = true := by decide +kernel
theorem a_all : [2, 3, 4, 5, 6].all (fun n => (List.range 32).all fun a => a == 0 || !(aK n a == 0)) = true := by decide +kernel
theorem p_zero : pairs.all (fun q => pK q.1 q.2 0 == 0) = true := by decide +kernel
end
section
theorem C_mem {k : Nat} {l : List Nat} (h : ∀ x ∈ l, x < k) : ∀ x ∈ C l, 0 ≤ x ∧ x < (k : Int) := by
  intro x hx
  obtain ⟨y, hy, rfl⟩ := List.mem_map.mp hx
  have := h y hy
  exact ⟨Int.natCast_nonneg y, by omega⟩
theorem x6_eq {s t : N6} (h : x6 s t = z6) : s = t := by
  have h2 : x6 (x6 s t) t = x6 z6 t := by rw [h]
  rw [x6_assoc, x6_self, x6_z, z_x6] at h2
  exact h2
theorem x6_comm (s t : N6) : x6 s t = x6 t s := by unfold x6; simp only [Nat.xor_comm]
theorem e85_b {n i t : Nat} (h1 : 2 ≤ n) (h2 : n ≤ 6) (h3 : i < n) (ht : t < 256) : is32 (e85 n i t) := (good_unit h1 h2 h3 ht).2.1
theorem is32_cons {a : Nat} {l : List Nat} (ha : a < 32) (hl : is32 l) : is32 (a :: l) := fun x hx => by
  rcases List.mem_cons.mp hx with rfl | hx
  · exact ha
  · exact hl x hx
theorem zx_cons (a b : Nat) (l k : List Nat) : zx (a :: l) (b :: k) = (a ^^^ b) :: zx l k := rfl
theorem zz (k : Nat) : zx (List.replicate k 0) (List.replicate k 0) = List.replicate k 0 := by
  have := zx_zero_r (List.replicate k 0)
  rwa [List.length_replicate] at this
theorem zx_len {a b : List Nat} (h : a.length = b.length) : (zx a b).length = a.length := by simp [zx, h]
theorem pN_x {n i a b : Nat} (h1 : 2 ≤ n) (h2 : n ≤ 6) (h3 : i < n) (ha : a < 256) (hb : b < 256) : pN n i (a ^^^ b) = pN n i a ^^^ pN n i b := by
  unfold pN
  have ba := is32_app (is32_cons (by decide : 0 < 32) (e85_b h1 h2 h3 ha)) (rep_b 6)
  have bb := is32_app (is32_cons (by decide : 0 < 32) (e85_b h1 h2 h3 hb)) (rep_b 6)
  have el : (e85 n i a).length = (e85 n i b).length := by rw [e85_len h1 h2 h3 ha, e85_len h1 h2 h3 hb]
  rw [pack_x (nf_b z6_b ba) (nf_b z6_b bb), e85_x ha hb]
  have e : 0 :: zx (e85 n i a) (e85 n i b) ++ List.replicate 6 0 = zx (0 :: e85 n i a ++ List.replicate 6 0) (0 :: e85 n i b ++ List.replicate 6 0) := by
    rw [zx_app (by simp [el]), zx_cons, zz, Nat.xor_zero]
  rw [e]
  have := nf_lin (s := z6) (t := z6) z6_b z6_b ba bb (by simp [el])
  rw [x6_z] at this
  rw [this]
theorem rem_ne {n i t a : Nat} (h1 : 2 ≤ n) (h2 : n ≤ 6) (h3 : i < n) (ht : t < 256) (ha : a < 32) (h : nf z6 ((a :: e85 n i t) ++ List.replicate 6 0) = z6) : a = 0 ∧ t = 0 := by
  have hm := e85_len h1 h2 h3 ht
  have ba := is32_app (is32_cons ha (rep_b ((8 * n + 4) / 5))) (rep_b 6)
  have bb := is32_app (is32_cons (by decide : 0 < 32) (e85_b h1 h2 h3 ht)) (rep_b 6)
  have e : a :: e85 n i t ++ List.replicate 6 0 = zx (a :: List.replicate ((8 * n + 4) / 5) 0 ++ List.replicate 6 0) (0 :: e85 n i t ++ List.replicate 6 0) := by
    rw [zx_app (by simp [hm]), zx_cons, zz, Nat.xor_zero, ← hm, zx_zero_l]
  rw [e] at h
  have hl := nf_lin (s := z6) (t := z6) z6_b z6_b ba bb (by simp [hm])
  rw [x6_z, h] at hl
  have hq : aN n a = pN n i t := congrArg pack (x6_eq hl.symm)
  by_cases h0 : t = 0
  · refine ⟨?_, h0⟩
    have hz := List.all_eq_true.mp p_zero (n, i) (pairs_mem h1 h2 h3)
    rw [beq_iff_eq] at hz
    have hz : pK n i 0 = 0 := hz
    rw [h0, pK_eq, hz, aK_eq] at hq
    have hn : n ∈ [2, 3, 4, 5, 6] := by
      have : n = 2 ∨ n = 3 ∨ n = 4 ∨ n = 5 ∨ n = 6 := by omega
      rcases this with rfl | rfl | rfl | rfl | rfl <;> decide
    have := List.all_eq_true.mp (List.all_eq_true.mp a_all n hn) a (List.mem_range.mpr ha)
    rw [hq] at this
    simpa using this
  · exfalso
    have hc := List.all_eq_true.mp trp_all (n, i) (pairs_mem h1 h2 h3)
    have hz := List.all_eq_true.mp p_zero (n, i) (pairs_mem h1 h2 h3)
    have := trp_ok t _ _ _ hc
    rw [bits_id ht] at this
    rcases this with hh | hh
    · exact h0 hh
    · have hf := fold_lin (F := pK n i) (op := fun x y => x ^^^ y) (fun a b ha hb => by rw [← pK_eq, ← pK_eq, ← pK_eq]; exact pN_x h1 h2 h3 ha hb) t (List.range 8) (fun k hk => List.mem_range.mp hk) 0 (by decide)
      rw [bits_id ht] at hf
      have hh : (aL n).contains ((List.range 8).foldl (fun e k => if t / 2 ^ (7 - k) % 2 = 1 then e ^^^ pK n i (2 ^ (7 - k)) else e) (pK n i 0)) = false := hh
      rw [hf, ← pK_eq, ← hq, aK_eq] at hh
      have : (aL n).contains (aK n a) = true := by
        rw [List.contains_iff_mem]
        exact List.mem_map.mpr ⟨a, List.mem_range.mpr ha, rfl⟩
      rw [this] at hh; cases hh
theorem range_ks (n : Nat) : rangeKs 0 n = C (List.range n) := by
  unfold rangeKs C
  refine List.map_congr_left fun i _ => ?_
  exact Int.zero_add _
theorem mask_C {a b : List Nat} (h : a.length = b.length) : maskI (C a) (C b) = C (zx a b) := by
  unfold maskI
  rw [C_len, range_ks]
  unfold C
  rw [List.map_map]
  apply List.ext_getElem
  · simp [zx, h]
  · intro i h1 h2
    simp only [List.getElem_map, List.getElem_range, Function.comp_apply, Int.toNat_natCast]
    have hi : i < b.length := by simpa using h1
    rw [show (List.map (fun n : Nat => (n : Int)) a).getD i 0 = ((a.getD i 0 : Nat) : Int) from C_getD a i, show (List.map (fun n : Nat => (n : Int)) b).getD i 0 = ((b.getD i 0 : Nat) : Int) from C_getD b i, xor_nat]
    simp only [zx, List.getElem_zipWith, List.getD_eq_getElem?_getD]
    rw [List.getElem?_eq_getElem (by omega), List.getElem?_eq_getElem hi]; rfl
theorem turned_C {l : List Nat} {p t : Nat} : turnedI (C l) (p : Int) (t : Int) = C (zx l (unit l.length p t)) := by
  unfold turnedI
  rw [C_len, range_ks]
  unfold C
  rw [List.map_map]
  apply List.ext_getElem
  · simp [zx, unit_len]
  · intro i h1 h2
    simp only [List.getElem_map, List.getElem_range, Function.comp_apply, Int.toNat_natCast]
    have hi : i < l.length := by simpa using h1
    rw [show (List.map (fun n : Nat => (n : Int)) l).getD i 0 = ((l.getD i 0 : Nat) : Int) from C_getD l i]
    rw [show (if (i : Int) = (p : Int) then (t : Int) else 0) = ((if i = p then t else 0 : Nat) : Int) from by
      by_cases hip : i = p
      · rw [if_pos hip, if_pos (by omega)]
      · rw [if_neg hip, if_neg (by omega)]; rfl, xor_nat]
    simp only [zx, List.getElem_zipWith, unit, List.getElem_set, List.getElem_replicate, List.getD_eq_getElem?_getD]
    rw [List.getElem?_eq_getElem hi]
    by_cases hip : i = p
    · rw [if_pos hip, if_pos hip.symm]; rfl
    · rw [if_neg hip, if_neg (Ne.symm hip)]; rfl
theorem C_set (l : List Nat) (i x : Nat) : (C l).set i (x : Int) = C (l.set i x) := by unfold C; rw [List.map_set]
theorem laidS_C {t p k : Nat} (hk : k < 8) (l : List Nat) : laidS (t : Int) (p : Int) (C l) (k : Int) = C (layS t p l k) := by
  unfold laidS layS
  have e1 : ((7 : Int) - (k : Int)).toNat = 7 - k := by omega
  have e2 : (8 * (p : Int) + (k : Int)) = ((8 * p + k : Nat) : Int) := by omega
  rw [e1, p2, fdiv_nat, e2, show (5 : Int) = ((5 : Nat) : Int) from rfl, fdiv_nat]
  have e3 : (((t / 2 ^ (7 - k) : Nat) : Int)).fmod 2 = ((t / 2 ^ (7 - k) % 2 : Nat) : Int) := by
    rw [Int.fmod_eq_emod_of_nonneg _ (by decide)]; rfl
  have e4 : (((8 * p + k : Nat) : Int)).fmod ((5 : Nat) : Int) = (((8 * p + k) % 5 : Nat) : Int) := by
    rw [Int.fmod_eq_emod_of_nonneg _ (by decide)]; rfl
  rw [e3, e4]
  have e5 : (1 + (((8 * p + k) / 5 : Nat) : Int)).toNat = 1 + (8 * p + k) / 5 := by omega
  have e6 : (4 - (((8 * p + k) % 5 : Nat) : Int)).toNat = 4 - (8 * p + k) % 5 := by omega
  rw [e5, e6, p2, C_getD]
  by_cases h : t / 2 ^ (7 - k) % 2 = 1
  · rw [if_pos h, if_pos (by omega), ← Int.natCast_add, C_set]
  · rw [if_neg h, if_neg (by omega)]
theorem laidI_C {t p : Nat} : ∀ (ks : List Nat), (∀ k ∈ ks, k < 8) → ∀ l, laidI (t : Int) (p : Int) (C l) (C ks) = C (ks.foldl (layS t p) l)
  | [], _, _ => rfl
  | k :: ks, h, l => by
    show (C ks).foldl (laidS t p) (laidS t p (C l) k) = _
    rw [laidS_C (h k (.head _))]
    exact laidI_C ks (fun j hj => h j (.tail _ hj)) _
theorem layS_head (t p a b k : Nat) (l : List Nat) : ∃ m, layS t p (a :: l) k = a :: m ∧ layS t p (b :: l) k = b :: m := by
  unfold layS
  have e : 1 + (8 * p + k) / 5 = (8 * p + k) / 5 + 1 := Nat.add_comm _ _
  rw [e]
  by_cases h : t / 2 ^ (7 - k) % 2 = 1
  · rw [if_pos h, if_pos h]; exact ⟨_, rfl, rfl⟩
  · rw [if_neg h, if_neg h]; exact ⟨_, rfl, rfl⟩
theorem fold_head {t p a b : Nat} : ∀ (ks l : List Nat), ∃ m, ks.foldl (layS t p) (a :: l) = a :: m ∧ ks.foldl (layS t p) (b :: l) = b :: m
  | [], l => ⟨l, rfl, rfl⟩
  | k :: ks, l => by
    obtain ⟨m, h1, h2⟩ := layS_head t p a b k l
    rw [List.foldl_cons, List.foldl_cons, h1, h2]
    exact fold_head ks m
theorem lay_C {v o p t : Nat} {l : List Nat} (h1 : 2 ≤ l.length) (h2 : l.length ≤ 6) (h3 : p < l.length) (ht : t < 256) : layI (v : Int) (o : Int) (p : Int) (t : Int) (C l) = C ((v ^^^ o) :: e85 l.length p t) := by
  unfold layI
  rw [C_len, xor_nat, range_ks]
  have e : ((8 * (l.length : Int) + 4).fdiv 5).toNat = (8 * l.length + 4) / 5 := by
    rw [Int.fdiv_eq_ediv_of_nonneg _ (by decide)]; omega
  rw [e, show ([((v ^^^ o : Nat) : Int)] ++ List.replicate ((8 * l.length + 4) / 5) (0 : Int)) = C ((v ^^^ o) :: List.replicate ((8 * l.length + 4) / 5) 0) from by
    rw [C_cons]; unfold C; rw [List.map_replicate]; rfl]
  rw [laidI_C _ (fun k hk => List.mem_range.mp hk)]
  obtain ⟨m, hm1, hm2⟩ := fold_head (t := t) (p := p) (a := v ^^^ o) (b := 0) (List.range 8) (List.replicate ((8 * l.length + 4) / 5) 0)
  have hle := lay_eq h1 h2 h3 ht
  rw [show 1 + (8 * l.length + 4) / 5 = (8 * l.length + 4) / 5 + 1 from Nat.add_comm _ _, List.replicate_succ, hm2] at hle
  injection hle with _ hle
  rw [hm1, hle]
theorem rem_C (l : List Nat) : remI (C l) = C (l6 (nf z6 (l ++ List.replicate 6 0))) := by
  unfold remI
  rw [show C l ++ List.replicate (Int.toNat 6) (0 : Int) = C (l ++ List.replicate 6 0) from by rw [C_app]; rfl, run_C]
theorem set_zero : ∀ (n i : Nat), (List.replicate n 0).set i 0 = List.replicate n 0
  | 0, _ => rfl
  | n + 1, 0 => rfl
  | n + 1, i + 1 => by rw [List.replicate_succ, List.set_cons_succ, set_zero n i]
end
section
theorem lay_ok' {t p a : Int} {n : Nat} (ht : 0 ≤ t ∧ t < 256) (hp : 0 ≤ p ∧ p < (n : Int)) (hn : 2 ≤ (n : Int) ∧ (n : Int) ≤ 6) (ha : is5 a) : ∀ x ∈ laidI t p ([a] ++ List.replicate ((8 * (n : Int) + 4).fdiv 5).toNat 0) (rangeKs 0 8), is5 x := by
  obtain ⟨a, rfl⟩ := Int.eq_ofNat_of_zero_le ha.1
  obtain ⟨t, rfl⟩ := Int.eq_ofNat_of_zero_le ht.1
  obtain ⟨p, rfl⟩ := Int.eq_ofNat_of_zero_le hp.1
  have h := lay_C (v := a) (o := 0) (p := p) (t := t) (l := List.replicate n 0) (by rw [List.length_replicate]; omega) (by rw [List.length_replicate]; omega) (by rw [List.length_replicate]; omega) (by omega)
  unfold layI at h
  rw [xor_nat, Nat.xor_zero, C_len, List.length_replicate] at h
  rw [h]
  exact C_mem (k := 32) (is32_cons (by have := ha.2; omega) (e85_b (by omega) (by omega) (by omega) (by omega)))
theorem full_C {nm l : List Nat} {v : Nat} (hnm : ∀ c ∈ nm, c < 1024) (hv : v < 32) (hl : Good l) : fullI nm (v : Int) (C l) = C (n85 l ++ l6 (chkN nm (v :: n85 l))) := by
  unfold fullI
  rw [cv85_C hl.1, ← C_cons, create_C hnm (is32_cons hv hl.2.1), C_app]
theorem cv58_85 {l : List Nat} (hl : Good l) : cv58 (C (n85 l)) = some (C l) := by
  obtain ⟨_, h2, h3, h4, h5⟩ := hl
  exact cv58_C h2 (a := (r58 (n85 l)).1) (b := (r58 (n85 l)).2.1) (r := l) (Prod.ext rfl (Prod.ext rfl h3)) h4 h5
theorem take_6 (d : List Nat) (s : N6) : (C (d ++ l6 s)).take ((C (d ++ l6 s)).length - 6) = C d := by
  rw [C_app, List.length_append, C_len, C_len, show (l6 s).length = 6 from rfl, Nat.add_sub_cancel, ← C_len d]
  exact List.take_left
theorem poly_full {nm l : List Nat} {v : Nat} (hnm : ∀ c ∈ nm, c < 1024) (hv : v < 32) (hl : is32 l) : polyI (hrpI (T nm) ++ (v : Int) :: C (l ++ l6 (chkN nm (v :: l)))) = 1 := by
  have h := is32_cons hv hl
  rw [← C_cons]
  have h2 : is32 (v :: (l ++ l6 (chkN nm (v :: l)))) := is32_cons hv (is32_app hl (l6_b (chk_b hnm h)))
  exact (poly_one hnm h2).mpr (by rw [← List.cons_append]; exact chk_good hnm h)
theorem PL' {nm : List Nat} {vv oo pl tu : Int} {pg : List Int} (hnm : ∀ c ∈ nm, plainSign c = true) (hv : 1 ≤ vv ∧ vv ≤ 16) (ho : 0 ≤ oo ∧ oo < 32) (hpg : ∀ x ∈ pg, 0 ≤ x ∧ x < 256) (hn : 2 ≤ (pg.length : Int) ∧ (pg.length : Int) ≤ 6) (hp : 0 ≤ pl ∧ pl < (pg.length : Int)) (ht : 0 ≤ tu ∧ tu < 256) :
    decI nm vv (fullI nm vv pg) = some (vv, pg) ∧ (layI vv oo pl tu pg ++ remI (layI vv oo pl tu pg)).length = (vv :: fullI nm vv pg).length ∧
    maskI (vv :: fullI nm vv pg) (layI vv oo pl tu pg ++ remI (layI vv oo pl tu pg)) = oo :: fullI nm oo (turnedI pg pl tu) ∧
    decI nm oo (fullI nm oo (turnedI pg pl tu)) = (if 0 < oo ∧ oo < 17 then some (oo, turnedI pg pl tu) else none) ∧
    (oo :: fullI nm oo (turnedI pg pl tu) ≠ vv :: fullI nm vv pg → decI nm oo (cv85 (turnedI pg pl tu) ++ createI (T nm) (vv :: cv85 pg)) = none) ∧
    (∀ x ∈ turnedI pg pl tu, 0 ≤ x ∧ x < 256) ∧ (turnedI pg pl tu).length = pg.length ∧ (∀ x ∈ layI vv oo pl tu pg ++ remI (layI vv oo pl tu pg), 0 ≤ x ∧ x < 32) := by
  have hnm' : ∀ c ∈ nm, c < 1024 := fun c hc => by
    have := hnm c hc
    unfold plainSign at this
    simp only [Bool.or_eq_true, Bool.and_eq_true, decide_eq_true_eq] at this
    omega
  obtain ⟨v, rfl⟩ := Int.eq_ofNat_of_zero_le (show 0 ≤ vv by omega)
  obtain ⟨o, rfl⟩ := Int.eq_ofNat_of_zero_le ho.1
  obtain ⟨p, rfl⟩ := Int.eq_ofNat_of_zero_le hp.1
  obtain ⟨t, rfl⟩ := Int.eq_ofNat_of_zero_le ht.1
  obtain ⟨l, rfl⟩ : ∃ l, pg = C l := ⟨_, C_of fun x hx => (hpg x hx).1⟩
  rw [C_len] at hn hp
  have hl : is256 l := fun x hx => by
    have := (hpg (x : Int) (List.mem_map.mpr ⟨x, hx, rfl⟩)).2
    omega
  have h1 : 2 ≤ l.length := by omega
  have h2 : l.length ≤ 6 := by omega
  have h3 : p < l.length := by omega
  have h4 : t < 256 := by omega
  have hv' : v < 32 := by omega
  have ho' : o < 32 := by omega
  have gl := good_any h1 h2 hl
  have gu := good_unit h1 h2 h3 h4
  have el : l.length = (unit l.length p t).length := by rw [unit_len]
  have gt := good_x gl gu el
  have hd := n85_lin gl.1 gu.1 el
  have hb := e85_b h1 h2 h3 h4
  have hvo : v ^^^ o < 32 := x_lt hv' ho'
  have hld : (n85 l).length = (e85 l.length p t).length := hd.2
  rw [turned_C, lay_C h1 h2 h3 h4, rem_C, ← C_app, full_C hnm' hv' gl, full_C hnm' ho' gt, cv85_C gl.1, cv85_C gt.1, ← C_cons, ← C_cons, ← C_cons, create_C hnm' (is32_cons hv' gl.2.1), C_len, C_len, C_len, C_len, hd.1]
  rw [show n85 (unit l.length p t) = e85 l.length p t from rfl]
  generalize hE : e85 l.length p t = e at hb hld
  have hwd : zx (n85 l) e = n85 (zx l (unit l.length p t)) := by rw [hd.1, ← hE]; rfl
  have bd : is32 (zx (n85 l) e) := by rw [hwd]; exact gt.2.1
  have bδ : is32 ((v ^^^ o) :: e) := is32_cons hvo hb
  have bs := s0_b hnm'
  have bvs := is32_cons hv' gl.2.1
  have ews : o :: zx (n85 l) e = zx (v :: n85 l) ((v ^^^ o) :: e) := by
    rw [zx_cons, ← Nat.xor_assoc, Nat.xor_self, Nat.zero_xor]
  have elen : (v :: n85 l).length = ((v ^^^ o) :: e).length := by rw [List.length_cons, List.length_cons, hld]
  have ez : (o :: zx (n85 l) e) ++ List.replicate 6 0 = zx ((v :: n85 l) ++ List.replicate 6 0) (((v ^^^ o) :: e) ++ List.replicate 6 0) := by
    rw [zx_app elen, zz, ews]
  have hlin := nf_lin (s := s0 nm) (t := z6) bs z6_b (is32_app bvs (rep_b 6)) (is32_app bδ (rep_b 6)) (by rw [List.length_append, List.length_append, elen])
  rw [x6_z, ← ez] at hlin
  have hchk : chkN nm (o :: zx (n85 l) e) = x6 (chkN nm (v :: n85 l)) (nf z6 (((v ^^^ o) :: e) ++ List.replicate 6 0)) := by
    unfold chkN
    rw [hlin, x6_assoc, x6_assoc]
    congr 1
    exact x6_comm _ _
  have brem : b6 (nf z6 (((v ^^^ o) :: e) ++ List.replicate 6 0)) := nf_b z6_b (is32_app bδ (rep_b 6))
  refine ⟨?_, ?_, ?_, ?_, ?_, ?_, ?_, ?_⟩
  · refine decI_d (r := C l) (poly_full hnm' hv' gl.2.1) ?_ ?_
    · rw [take_6]; exact cv58_85 gl
    · rw [C_len]; omega
  · simp only [List.length_append, List.length_cons, show ∀ s : N6, (l6 s).length = 6 from fun _ => rfl]
    omega
  · rw [mask_C (by simp only [List.length_append, List.length_cons, show ∀ s : N6, (l6 s).length = 6 from fun _ => rfl]; omega)]
    rw [← List.cons_append, zx_app elen, ← ews, hchk]; rfl
  · have hpoly := poly_full (nm := nm) hnm' ho' bd
    have h58 : cv58 ((C (zx (n85 l) e ++ l6 (chkN nm (o :: zx (n85 l) e)))).take ((C (zx (n85 l) e ++ l6 (chkN nm (o :: zx (n85 l) e)))).length - 6)) = some (C (zx l (unit l.length p t))) := by
      rw [take_6, hwd]; exact cv58_85 gt
    have hlen : (C (zx l (unit l.length p t))).length = l.length := by rw [C_len, zx_len el]
    by_cases hq : 0 < (o : Int) ∧ (o : Int) < 17
    · rw [if_pos hq]
      exact decI_d hpoly h58 (by rw [hlen]; omega)
    · rw [if_neg hq]
      exact decI_c h58 (by rw [hlen]; omega)
  · intro hne
    refine decI_a fun hp1 => hne ?_
    rw [← C_app, ← C_cons] at hp1
    have hb2 : is32 (o :: (zx (n85 l) e ++ l6 (chkN nm (v :: n85 l)))) := is32_cons ho' (is32_app bd (l6_b (chk_b hnm' bvs)))
    have h6 := (poly_one hnm' hb2).mp hp1
    rw [← List.cons_append, nf_tail bs (is32_cons ho' bd) (chk_b hnm' bvs), hlin] at h6
    have hz : nf z6 (((v ^^^ o) :: e) ++ List.replicate 6 0) = z6 := by
      unfold chkN at h6
      rw [x6_swap, x6_self, z_x6] at h6
      have := congrArg (fun q => x6 q e6) h6
      simp only [x6_assoc, x6_self, x6_z] at this
      exact this
    rw [← hE] at hz
    obtain ⟨hz1, hz2⟩ := rem_ne h1 h2 h3 h4 hvo hz
    have hov : o = v := by
      have : v ^^^ (v ^^^ o) = v := by rw [hz1, Nat.xor_zero]
      rw [← Nat.xor_assoc, Nat.xor_self, Nat.zero_xor] at this
      exact this
    have he : zx (n85 l) e = n85 l := by
      rw [hwd, hz2]
      congr 1
      unfold unit
      rw [set_zero, zx_zero_r]
    rw [he, hov]
  · have := gt.1
    exact C_mem (k := 256) this
  · exact zx_len el
  · exact C_mem (k := 32) (is32_app bδ (l6_b brem))
end
end Plain

section
theorem lay_ok {t p a : Int} {n : Nat} (ht : 0 ≤ t ∧ t < 256) (hp : 0 ≤ p ∧ p < (n : Int)) (hn : 2 ≤ (n : Int) ∧ (n : Int) ≤ 6) (ha : is5 a) : ∀ x ∈ laidI t p ([a] ++ List.replicate ((8 * (n : Int) + 4).fdiv 5).toNat 0) (rangeKs 0 8), is5 x := Plain.lay_ok' ht hp hn ha
theorem ver_is5 (x y : Int) : is5 (Builtin.bitXor (1 + x.fmod 16) (y.fmod 32)) := is5_xor ⟨by have := fmod_b (x := x) (b := 16) (by decide); omega, by have := fmod_b (x := x) (b := 16) (by decide); omega⟩ (fmod_b (by decide))
theorem is5_zeros {la : List Int} {k : Nat} (h : ∀ x ∈ la, is5 x) : ∀ x ∈ la ++ List.replicate k 0, is5 x := fun x hx => (List.mem_append.mp hx).elim (h x) fun hx => (List.eq_of_mem_replicate hx) ▸ is5_0
theorem runR_len (s : St6) : (runR s).length = 6 := rfl
theorem PL {nm : List Nat} {vv oo pl tu : Int} {pg : List Int} (hnm : ∀ c ∈ nm, plainSign c = true) (hv : 1 ≤ vv ∧ vv ≤ 16) (ho : 0 ≤ oo ∧ oo < 32) (hpg : ∀ x ∈ pg, 0 ≤ x ∧ x < 256) (hn : 2 ≤ (pg.length : Int) ∧ (pg.length : Int) ≤ 6) (hp : 0 ≤ pl ∧ pl < (pg.length : Int)) (ht : 0 ≤ tu ∧ tu < 256) :
    decI nm vv (fullI nm vv pg) = some (vv, pg) ∧ (layI vv oo pl tu pg ++ remI (layI vv oo pl tu pg)).length = (vv :: fullI nm vv pg).length ∧
    maskI (vv :: fullI nm vv pg) (layI vv oo pl tu pg ++ remI (layI vv oo pl tu pg)) = oo :: fullI nm oo (turnedI pg pl tu) ∧
    decI nm oo (fullI nm oo (turnedI pg pl tu)) = (if 0 < oo ∧ oo < 17 then some (oo, turnedI pg pl tu) else none) ∧
    (oo :: fullI nm oo (turnedI pg pl tu) ≠ vv :: fullI nm vv pg → decI nm oo (cv85 (turnedI pg pl tu) ++ createI (T nm) (vv :: cv85 pg)) = none) ∧
    (∀ x ∈ turnedI pg pl tu, 0 ≤ x ∧ x < 256) ∧ (turnedI pg pl tu).length = pg.length ∧ (∀ x ∈ layI vv oo pl tu pg ++ remI (layI vv oo pl tu pg), 0 ≤ x ∧ x < 32) := Plain.PL' hnm hv ho hpg hn hp ht
theorem name_b {ks : List Int} (h : ∀ x ∈ ks, 0 ≤ x ∧ x < 68) : ∀ c ∈ ks.map nameSign, plainSign c = true := by
  intro c hc
  obtain ⟨k, hk, rfl⟩ := List.mem_map.mp hc
  have hk := h k hk
  unfold nameSign
  split
  · unfold plainSign; rw [Bool.or_eq_true]; left
    rw [Bool.and_eq_true, decide_eq_true_eq, decide_eq_true_eq]; omega
  · unfold plainSign; rw [Bool.or_eq_true]; right
    rw [Bool.and_eq_true, decide_eq_true_eq, decide_eq_true_eq]; omega
theorem ver_b (x : Int) : 1 ≤ 1 + x.fmod 16 ∧ 1 + x.fmod 16 ≤ 16 := by have := fmod_b (x := x) (b := 16) (by decide); omega
theorem ver_b2 (x : Int) : 0 ≤ 1 + x.fmod 16 ∧ 1 + x.fmod 16 < 32 := by have := fmod_b (x := x) (b := 16) (by decide); omega
theorem trip_nil : TriplesOk (#[] : Array Value).toList := trivial
theorem addr_len (cs : List Nat) (ds : List Int) : (addr cs ds).length = cs.length + 1 + ds.length := by
  simp only [addr, List.length_append, List.length_cons, List.length_map]; omega
theorem addr_take (cs : List Nat) (ds : List Int) : (addr cs ds).take ((cs.length : Int) + 1).toNat = cs ++ [49] := by
  rw [show ((cs.length : Int) + 1).toNat = (cs ++ [49]).length from by rw [List.length_append]; simp only [List.length_cons, List.length_nil]; omega, show addr cs ds = (cs ++ [49]) ++ ds.map sgn from by simp [addr]]
  exact List.take_left
theorem addr_drop (cs : List Nat) (ds : List Int) : (addr cs ds).drop ((cs.length : Int) + 1).toNat = ds.map sgn := by
  rw [show ((cs.length : Int) + 1).toNat = (cs ++ [49]).length from by rw [List.length_append]; simp only [List.length_cons, List.length_nil]; omega, show addr cs ds = (cs ++ [49]) ++ ds.map sgn from by simp [addr]]
  exact List.drop_left
theorem addr_cut {cs : List Nat} {a : Int} {x y : List Int} : addr cs (a :: (x ++ y)) = addr cs (a :: x) ++ y.map sgn := by simp [addr]
theorem addr_dummy : True := trivial
theorem addr_take6 {cs : List Nat} {v : Int} {p : List Int} : (addr cs (v :: fullI cs v p)).take ((addr cs (v :: fullI cs v p)).length - (-(-6 : Int)).toNat) = addr cs (v :: cv85 p) := by
  unfold fullI
  rw [addr_cut, List.length_append, List.length_map, create_len, show (-(-6 : Int)).toNat = 6 from rfl, Nat.add_sub_cancel]
  exact List.take_left
theorem addr_drop6 {cs : List Nat} {v : Int} {p : List Int} : (addr cs (v :: fullI cs v p)).drop ((addr cs (v :: fullI cs v p)).length - (-(-6 : Int)).toNat) = (createI (T cs) (v :: cv85 p)).map sgn := by
  unfold fullI
  rw [addr_cut, List.length_append, List.length_map, create_len, show (-(-6 : Int)).toNat = 6 from rfl, Nat.add_sub_cancel]
  exact List.drop_left
section
variable {prog : Program} {w : World} {A : Around} {E : Value → Shared → Prop} {s : Shared}
theorem ne_str_same {x : Str} {t u : Tok} {Q : Value → Shared → Prop} (h : Q (.bool false) s) : wpAny (model prog w) A (compareOp .NotEq (.str x t) (.str x u)) Q E s := by
  refine ne_str ?_
  rw [show (x != x) = false from by simp]
  exact h
theorem in_neg {l : Addr} {vs : List Value} {ns : List Int} {k : Int} {t : Tok} {Q : Value → Shared → Prop} (hl : s.heap.IsList l vs.toArray) (hi : IntsAre vs ns) (hb : ∀ n ∈ ns, 0 ≤ n ∧ n < 32) (hk : k < 0)
    (h : Q (.bool false) s) : wpAny (model prog w) A (compareOp .In (.int k t) (.ref l)) Q E s := by
  refine in_list_ints hl hi ?_
  rw [show (ns.any (· == k)) = false from by
    rw [List.any_eq_false]
    intro n hn
    have := (hb n hn).1
    rw [beq_iff_eq]; omega]
  exact h
end
theorem eq_pair {prog : Program} {w : World} {A : Around} {E : Value → Shared → Prop} {s : Shared} {h₀ : Heap} {L D D' l l' : Addr} {us us' : List Value} {x : Int} {tx tx' : Tok} {n n' : Nat} {ns : List Int} {news : List (Addr × Obj)} {Q : Value → Shared → Prop} (N : News h₀ L s.heap news)
    (h1 : (D, ({ cls := .type "tuple", data := .seq #[.int x tx, .ref l] } : Obj)) ∈ news) (h3 : (D', ({ cls := .type "tuple", data := .seq #[.int x tx', .ref l'] } : Obj)) ∈ news) (h2 : (l, listOf us.toArray n) ∈ news) (h4 : (l', listOf us'.toArray n') ∈ news)
    (hi : IntsAre us ns) (hi' : IntsAre us' ns) (hu : A.units + 64 < cLine) (h : Q (.bool true) s) : wpAny (model prog w) A (compareOp .Eq (.ref D) (.ref D')) Q E s := by
  have hs : SeqAt.shaped (.tuple [.int x, .list (ns.map PyData.int)]) = true := by simp [SeqAt.shaped, PyData.canLay0, PyData.canLayAll0, PyData.depth, PyData.depthAll, ke_canLayAll0, ke_depthAll]
  refine eq_dataH (da := .tuple [.int x, .list (ns.map PyData.int)]) (db := .tuple [.int x, .list (ns.map PyData.int)])
    (reads_tuple_at (N _ h1).1 rfl rfl (ReadsAll.cons (Reads.int _ _) (ReadsAll.cons (reads_newData (News.isList N h2) (ke_carried hi)) .nil)))
    (reads_tuple_at (N _ h3).1 rfl rfl (ReadsAll.cons (Reads.int _ _) (ReadsAll.cons (reads_newData (News.isList N h4) (ke_carried hi')) .nil))) hs hs hu ?_
  rw [show PyData.eqv (.tuple [.int x, .list (ns.map PyData.int)]) (.tuple [.int x, .list (ns.map PyData.int)]) = true from by simp [PyData.eqv, PyData.eqvAll, ked_eqvAll]]
  exact h
theorem map_pos {ds : List Int} (h : ∀ n ∈ ds, 0 ≤ n ∧ n < 32) : (ds.map sgn).map (posI charset) = ds := by
  rw [List.map_map]
  exact (List.map_congr_left fun d hd => posI_sgn (h d hd).1 (h d hd).2).trans (List.map_id _)
theorem is5_getD {l : List Int} (h : ∀ x ∈ l, 0 ≤ x ∧ x < 32) (i : Nat) : is5 (l.getD i 0) := by
  rw [List.getD_eq_getElem?_getD]
  cases e : l[i]? with
  | none => exact is5_0
  | some x => exact h x (List.mem_of_getElem? e)
theorem sign_ix {ds lf : List Int} (h1 : ∀ x ∈ ds, 0 ≤ x ∧ x < 32) (h2 : ∀ x ∈ lf, 0 ≤ x ∧ x < 32) (k : Int) : 0 ≤ Builtin.bitXor (ds.getD k.toNat 0) (lf.getD k.toNat 0) ∧ Builtin.bitXor (ds.getD k.toNat 0) (lf.getD k.toNat 0) < 32 :=
  is5_xor (is5_getD h1 _) (is5_getD h2 _)
theorem made_eq {cs : List Nat} {ds lf ms : List Int} (h : maskI ds lf = ms) : cs ++ [49] ++ (rangeKs 0 lf.length).map (fun k => sgn (Builtin.bitXor (ds.getD k.toNat 0) (lf.getD k.toNat 0))) = addr cs ms := by
  rw [← h]; unfold addr maskI; rw [List.map_map]; simp [Function.comp_def]
theorem addr_glue (cs : List Nat) (v : Int) (p y : List Int) : addr cs (v :: p) ++ y.map sgn = addr cs (v :: (p ++ y)) := addr_cut.symm
theorem ne_of_T {cs : List Nat} {a b : List Int} (h : (T (addr cs a) != T (addr cs b)) = true) : a ≠ b := fun e => by subst e; simp at h
theorem turn_yes {pl tu k : Int} {pg : List Int} {u : Tok} (h : k = pl) : ∃ t, Value.int (Builtin.bitXor (pg.getD k.toNat 0) tu) u = .int (Builtin.bitXor (pg.getD k.toNat 0) (if k = pl then tu else 0)) t := ⟨u, by rw [if_pos h]⟩
theorem turn_no {pl tu k : Int} {pg : List Int} {u : Tok} (h : ¬ k = pl) : ∃ t, Value.int (Builtin.bitXor (pg.getD k.toNat 0) 0) u = .int (Builtin.bitXor (pg.getD k.toNat 0) (if k = pl then tu else 0)) t := ⟨u, by rw [if_neg h]⟩
theorem mix_b {cs : List Nat} {v u : Int} {p q : List Int} (hv : 0 ≤ v ∧ v < 32) : ∀ n ∈ v :: (cv85 p ++ createI (T cs) (u :: cv85 q)), 0 ≤ n ∧ n < 32 := by
  intro n hn
  rcases List.mem_cons.mp hn with rfl | hn
  · exact hv
  rcases List.mem_append.mp hn with hn | hn
  · exact (cv85_b p).1 n hn
  · exact create_bounds _ _ n hn
theorem natLt {a b : Nat} (h : a < b) : a < b := h
theorem nameLo {k : Int} {u : Tok} (h : k < 32) : ∃ t, Value.str ⟨#[(33 + k).toNat]⟩ u = .str (T [nameSign k]) t := ⟨u, by rw [nameSign, if_pos h]; rfl⟩
theorem nameHi {k : Int} {u : Tok} (h : ¬ k < 32) : ∃ t, Value.str ⟨#[(59 + k).toNat]⟩ u = .str (T [nameSign k]) t := ⟨u, by rw [nameSign, if_neg h]; rfl⟩
end

structure Stop (p : Prop) : Prop where
  h : p
theorem post_ok (args : List WData) : (PySem.Challenge.rw_sx0008_01.row).claim.post args (.bool true) args = true := postW_of (by wrow_shape) (by wtm_val) (by rfl)
local macro_rules | `(tactic| walk_at "FinE") => `(tactic| (refine finE_N ?_; intro D' n' h' tk' F' N' o1'; (try k_sweep)))
local macro_rules | `(tactic| walk_at "FinA") => `(tactic| (refine finA_N ?_; intro D' n' h' tk' F' N' o1'; (try k_sweep)))
local macro_rules | `(tactic| walk_at "MINE retL") => `(tactic| (k_whole; intro D' us' n' h' tk' F' N' o1' hi'; (try k_sweep); (try k_fold)))
local macro_rules | `(tactic| walk_at "MINE retD1") => `(tactic| (intro x' ns' er' D' l' n' us' tx' s' ps' hi' F' N' o1' o2' ht' G' os'; (try k_sweep); (try k_fold)))
local macro_rules | `(tactic| walk_at "MINE retD2") => `(tactic| (intro er' D' s' ps' F' N' o1' ht' G' os'; (try k_sweep); (try k_fold)))
local macro_rules | `(tactic| walk_at "MINE off") => `(tactic| first
  | (refine' off1_get ?m1 ?m2; (case m1 => with_reducible assumption); (case m2 => k_mem))
  | (refine' Ne.symm (off1_get ?m1 ?m2); (case m1 => with_reducible assumption); (case m2 => k_mem))
  | (refine' offI_get ?m1 ?m2; (case m1 => with_reducible assumption); (case m2 => k_mem))
  | (refine' Ne.symm (offI_get ?m1 ?m2); (case m1 => with_reducible assumption); (case m2 => k_mem)))
local macro_rules | `(tactic| k_ne) => `(tactic| (refine neN ?_; (try dsimp only); first | with_reducible assumption | with_reducible exact Ne.symm (by assumption) | omega | walk_at "MINE off"))
local macro_rules | `(tactic| walk_at "MINE sub") => `(tactic| repeat (first | exact List.forall_mem_nil _ | refine List.forall_mem_cons.mpr ⟨by k_mem, ?_⟩))
local macro_rules | `(tactic| walk_at "MINE len") => `(tactic| first | omega | (simp only [List.length_append, List.length_cons, List.length_nil, List.length_replicate]; omega) | (k_extra "len"))
local macro_rules | `(tactic| walk_at "binaryOp Mult ref int") => `(tactic| (k_here; k_dflt (refine' mul_ints_N ?k1 ?k2 ?k3 ?k4 ?k5 ?k6 ?k7 ?k8 ?_; (case k1 => k_asm); (case k2 => k_asm); (case k3 => k_mem); (case k4 => walk_at "MINE ints"); (case k5 => simp); (case k6 => walk_at "MINE len"); (case k7 => walk_at "MINE len"); (case k8 => walk_at "MINE len"); k_whole); intro D' us' h' F' N' l1 hi'; (try k_lt l1); replace hi' := ints_zeros hi'; (try k_sweep)))
local macro_rules | `(tactic| walk_at "pyIter ref") => `(tactic| k_extra "pyIter ref")
local macro_rules | `(tactic| walk_at "setItem ref int") => `(tactic| k_extra "setItem ref int")
local macro_rules | `(tactic| walk_at "subscriptTail Name BinOp ref int") => `(tactic| k_extra "subscriptTail Name BinOp ref int")
local macro_rules | `(tactic| walk_at "CompEnd") => `(tactic| k_extra "CompEnd")
local macro_rules | `(tactic| walk_at "MINE callG") => `(tactic| ((case k8 => first | exact trivial | walk_at "MINE list" | k_extra "pre"); (case k1 => k_asm); (case k2 => k_asm); (case k3 => k_asm); (case k4 => k_asm); (case k5 => k_asm); (case km => k_asm); (case kc => k_asm); (case k6 => exact rfl); (case k7 => exact rfl); (case k9 => omega); (case k10 => omega); (case k11 => assumption); (case k12 => k_updF); (case k13 => first | assumption | exact trip_nil)))
local macro_rules | `(tactic| walk_at "MINE slice") => `(tactic| ((case k1 => walk_at "MINE T"); (case k2 => k_asm); (case k3 => k_asm); (case k5 => walk_at "MINE len"); (case k6 => walk_at "MINE len"); k_whole; intro h' t' k' F' N'; (try k_sweep); k_extra "sliced"))
local macro_rules | `(tactic| walk_at "subscriptTail Name Slice str ref") => `(tactic| (k_here; k_dflt (first
  | ((with_reducible show wpAny _ _ (subscriptTail _ (PySem.Expr.Slice (some _) none none _) (Value.str _ _) (Value.ref _)) _ _ _); first
    | (refine' sliceT_from (s := ⟨_, _, _, _, _⟩) ?k1 ?k2 ?k3 ?k4 ?k5 ?k6 ?_; (case k4 => omega); walk_at "MINE slice")
    | (refine' sliceT_from_neg (s := ⟨_, _, _, _, _⟩) ?k1 ?k2 ?k3 ?k4 ?k5 ?k6 ?_; (case k4 => omega); walk_at "MINE slice"))
  | ((with_reducible show wpAny _ _ (subscriptTail _ (PySem.Expr.Slice none (some _) none _) (Value.str _ _) (Value.ref _)) _ _ _); first
    | (refine' sliceT_to (s := ⟨_, _, _, _, _⟩) ?k1 ?k2 ?k3 ?k4 ?k5 ?k6 ?_; (case k4 => omega); walk_at "MINE slice")
    | (refine' sliceT_to_neg (s := ⟨_, _, _, _, _⟩) ?k1 ?k2 ?k3 ?k4 ?k5 ?k6 ?_; (case k4 => omega); walk_at "MINE slice")))))
local macro_rules | `(tactic| walk_at "compareOp NotEq str str") => `(tactic| k_extra "compareOp NotEq str str")
local macro_rules | `(tactic| walk_at "compareOp In int ref") => `(tactic| k_extra "compareOp In int ref")
local macro_rules | `(tactic| walk_at "exec If") => `(tactic| k_extra "exec If")
local macro_rules | `(tactic| walk_at "subscriptTail Name Name ref int") => `(tactic| k_extra "subscriptTail Name Name ref int")
local macro_rules | `(tactic| walk_at "binaryOp Add str str") => `(tactic| (k_dflt (refine' addT ?k1 ?k2 ?k3 ?_; (case k1 => walk_at "MINE T"); (case k2 => walk_at "MINE T"); (case k3 => walk_at "MINE len"); k_whole); intro t' tk'; (try k_extra "added")))
local macro_rules | `(tactic| walk_at "compareOp Eq ref ref") => `(tactic| k_extra "compareOp Eq ref ref")

section
set_option maxHeartbeats 200000000 in
theorem lawT : PySem.Challenge.rw_sx0008_01.Holds := hd (by
  lge_go0
  (with_reducible rename LGe.Mark => hMark); clear hMark
  rename Fr _ _ _ _ => F0
  rename News _ _ _ _ => N0
  rename BMod _ _ _ _ _ => M0
  rename Frag.In _ _ => X0
  rename Heap.IsList _ _ _ => hL0
  rename IntsAre _ _ => hI0
  rename ¬ _ < (_ : Int) => hlen0
  rename Shared.gens _ = _ => hg0
  rename Top _ _ _ _ _ _ => T0
  have hT := law_tabs (c := 47) (P := 45) (x := Str.ofString "bech32_decode") T0 X0 (by rfl) (by rfl)
  have h45 := natLt (Heap.lt_size (hT (47, 45) (.head _)).2)
  dsimp only at h45
  have FF := ghost_fr hT F0
  have NN := ghost_news hT F0 N0
  have XX := ghost_K hT X0 (by rfl)
  have TT := ghost_read hT (topRead_of T0)
  have MM := ghost_bmod hT M0
  have Ch := (ghost_code hT).1
  rename Below _ _ _ _ => K0
  clear K0
  have BB := ghost_below hT
  have GG : AllBare _ := AllBare.of_eq hg0
  have hL := ghost_list hT hL0
  clear F0 N0 M0 X0 hL0 T0
  simp only [List.map_cons, List.map_nil, List.cons_append, List.nil_append] at NN
  (repeat (rename _ = Data.cell (bindC _ _ _) => hcX; replace hcX := hcX.trans (show _ = Data.cell none from by with_unfolding_all rfl)))
  dsimp only [callerA, Around.deeper, Option.map_some]
  k_drop
  all_goals (try k_fold)
  (with_reducible rename List Int => ns)
  have hdp1 : 1 + claimMargin + 1 + 20 < recursionLimit := by decide
  have hcl1 : 4 + 3 + 300 < cLine := by decide
  have hlen : ns.length ≤ 63 := by omega
  have hnm := digitsI_b (n := atI ns 0 2759) (b := 68) (most := 2) (by decide) (by decide)
  k_with_none
  k_with "pyIter ref" => refine Stop.h ?_
  k_with "call ref" => k_dflt (first
    | ((with_reducible show wpAny _ _ (call (Value.ref 77) _) _ _ _); (refine' useI (c_at (ns := ns) ?c1 ?c2 ?c3) ?k1 ?k2 ?k3 ?k4 ?k5 ?k6 ?k7 ?k8 ?k9 ?k10 ?_); (walk_at "MINE call"); (case c1 => assumption); (case c2 => assumption); (case c3 => decide); walk_at "MINE retI")
    | ((with_reducible show wpAny _ _ (call (Value.ref 84) _) _ _ _); (refine' useL (c_dig ?c1 ?c2 ?c3 ?c4) ?k1 ?k2 ?k3 ?k4 ?k5 ?k6 ?k7 ?k8 ?k9 ?k10 ?_); (walk_at "MINE call"); (case c1 => decide); (case c2 => decide); (case c3 => first | decide | omega); (case c4 => first | decide | omega); walk_at "MINE retL"; (rename IntsAre _ (digitsI _ _ _) => hDig); have hdl := digits_len hDig))
  k_with "exec Assign cons ListComp" => walk_at "MINE compA"
  k_with "CompSrc" => ((with_reducible show LCg.CompSrc _ _ _ _ _ _ _ (Expr.Call _ [Expr.IfExp _ _ _ _] _ _) _ _ _ _ _ _); walk_at "MINE srcL"; (refine comp_list_str (fun k => T [nameSign k]) (fun n => 0 ≤ n ∧ n < 68) (by exact hnm.1) (by assumption) (fun k t I oI C oC D m₂ ys h tk E' hk hC hx F' N' off' ne' => ?_) (fun ys hys => ?_)); (case' refine_1 => obtain ⟨hk0, hk1⟩ := hk))
  k_with "elem" => first | with_reducible exact nameLo (by assumption) | with_reducible exact nameHi (by assumption) | exact ⟨_, rfl⟩
  k_with "len" => (have := hnm.2; omega)
  k_with "eval IfExp" => (k_here; (with_reducible show wpAny _ _ (eval (Expr.IfExp _ (Expr.Subscript _ _ _) _ _) _) _ _ _); k_dflt (refine' IfExp_src (srcI ns) ?k1 ?k2 ?_ ?retA; (case k1 => k_asm); (case k2 => k_asm); (case' retA => intro l us' n' h' tk' F' N' hi' is'; (try k_sweep); (replace N' := nd2 (nd2 N')); dsimp only)))
  k_with "SrcR" => first
    | exact SrcR.intro (by k_asm) (by k_asm) (by k_mem) (by repeat (first | exact List.forall_mem_nil _ | refine List.forall_mem_cons.mpr ⟨by k_mem, ?_⟩)) (by omega) (srcI_no (by omega))
    | exact SrcR.intro (by k_asm) (by k_asm) (by k_mem) (by repeat (first | exact List.forall_mem_nil _ | refine List.forall_mem_cons.mpr ⟨by k_mem, ?_⟩)) (by omega) (srcI_yes (by assumption) (by assumption))
  k_steps
  k_with_none
  refine ⟨?_⟩
  k_with "pyIter ref" => refine Stop.h ?_
  k_with "call ref" => k_dflt (first
    | ((with_reducible show wpAny _ _ (call (Value.ref 77) _) _ _ _); (refine' useI (c_at (ns := ns) ?c1 ?c2 ?c3) ?k1 ?k2 ?k3 ?k4 ?k5 ?k6 ?k7 ?k8 ?k9 ?k10 ?_); (walk_at "MINE call"); (case c1 => assumption); (case c2 => assumption); (case c3 => decide); walk_at "MINE retI")
    | ((with_reducible show wpAny _ _ (call (Value.ref 84) _) _ _ _); (refine' useL (c_dig ?c1 ?c2 ?c3 ?c4) ?k1 ?k2 ?k3 ?k4 ?k5 ?k6 ?k7 ?k8 ?k9 ?k10 ?_); (walk_at "MINE call"); (case c1 => decide); (case c2 => decide); (case c3 => first | decide | omega); (case c4 => first | decide | omega); walk_at "MINE retL"; (rename IntsAre _ (digitsI _ _ _) => hDig); have hdl := digits_len hDig))
  k_with "exec Assign cons ListComp" => walk_at "MINE compA"
  k_with "CompSrc" => ((with_reducible show LCg.CompSrc _ _ _ _ _ _ _ (Expr.Call _ [Expr.IfExp _ _ _ _] _ _) _ _ _ _ _ _); walk_at "MINE srcL"; (refine comp_list_str (fun k => T [nameSign k]) (fun n => 0 ≤ n ∧ n < 68) (by exact hnm.1) (by assumption) (fun k t I oI C oC D m₂ ys h tk E' hk hC hx F' N' off' ne' => ?_) (fun ys hys => ?_)); (case' refine_1 => obtain ⟨hk0, hk1⟩ := hk))
  k_with "elem" => first | with_reducible exact nameLo (by assumption) | with_reducible exact nameHi (by assumption) | exact ⟨_, rfl⟩
  k_with "len" => (have := hnm.2; omega)
  k_with "eval IfExp" => (k_here; (with_reducible show wpAny _ _ (eval (Expr.IfExp _ (Expr.Subscript _ _ _) _ _) _) _ _ _); k_dflt (refine' IfExp_src (srcI ns) ?k1 ?k2 ?_ ?retA; (case k1 => k_asm); (case k2 => k_asm); (case' retA => intro l us' n' h' tk' F' N' hi' is'; (try k_sweep); (replace N' := nd2 (nd2 N')); dsimp only)))
  k_with "SrcR" => first
    | exact SrcR.intro (by k_asm) (by k_asm) (by k_mem) (by repeat (first | exact List.forall_mem_nil _ | refine List.forall_mem_cons.mpr ⟨by k_mem, ?_⟩)) (by omega) (srcI_no (by omega))
    | exact SrcR.intro (by k_asm) (by k_asm) (by k_mem) (by repeat (first | exact List.forall_mem_nil _ | refine List.forall_mem_cons.mpr ⟨by k_mem, ?_⟩)) (by omega) (srcI_yes (by assumption) (by assumption))
  k_with "pyIter ref" => (k_here; k_dflt (refine' cell_loop5 progI ?hLe ?hh ?F ?N ?hcp ?U ?hd ?hl ?hi ?hq ?hu ?hlt ?turnA ?doneA; (case hh => exact rfl); (case F => k_asm); (case N => k_asm); (case hLe => rfl); (case hd => assumption); (case hcp => k_mem); (case U => k_updF); (case hq => k_mem); (case hi => assumption); (case hl => (intro o; (try dsimp only); k_mem)); (case hu => (show IntsAre _ []; l_ints)); (case hlt => omega)); (case' turnA => intro kPre k kPost t us n q oc I oI h tk kEq hu hd hlt hI F' N'; (try dsimp only at N' hI); have hpb := progI_b kPre; (try k_sweep)); (case' doneA => intro m₁ us n q oc h tk hu hd hlt F' N'; (try dsimp only at N'); (replace N' := nd1 (nd1 N')); have hpb := progI_b (srcI ns); (try k_sweep)))
  k_with "CellEnd" => (refine' CellEnd.intro ?F ?N ?hsub ?hm ?hI ?hi ?hd ?hlt; (case F => k_asm); (case N => k_asm); (case hd => assumption); (case hsub => walk_at "MINE sub"); (case hi => first | exact progS_yes (by assumption) (by assumption) | exact progS_no (by assumption) (by assumption)); (case hlt => omega); (case hI => ((try dsimp only); k_all)); (case hm => (intro z hz; exact if_neg hz)))
  k_with "exec If" => (k_here; (with_reducible show wpAny _ _ (exec (Stmt.If (Expr.Compare (Expr.Call _ _ _ _) [CmpOp.Lt] [Expr.Constant (Const.int 2) _ _] _) _ _ _) _) _ _ _); k_dflt (refine' If_cell (progJ (progI (srcI ns))) ?k1 ?k2 ?k3 ?k4 ?_ ?retB; (case k1 => k_asm); (case k2 => k_asm); (case k3 => (refine' cell_in ?cInA ?cInB; (case cInA => assumption); (case cInB => k_mem))); (case k4 => k_updF)); (case' retB => intro q us n oc h tk F' N' hu hd hlt; (try dsimp only at N'); (replace N' := nd1 N'); (have hpb := progJ_b ns); (generalize hpg : progJ (progI (srcI ns)) = pg at hu hpb); (obtain ⟨hpb1, hpb2, hpb3⟩ := hpb); (have hplb := fmod_b (x := atI ns 3 0) (b := (pg.length : Int)) (by omega)); (have hfd := fd5 (x := (pg.length : Int)) (by omega) (by omega)); (try k_sweep)))
  k_with "CellAt" => (refine' CellAt.intro ?F ?N ?hd ?hsub ?hi ?hlt; (case F => k_asm); (case N => k_asm); (case hd => assumption); (case hsub => walk_at "MINE sub"); (case hi => first | exact progJ_yes (by assumption) (by assumption) | exact progJ_no (by assumption) (by assumption)); (case hlt => omega))
  k_steps
  k_with_none
  refine ⟨?_⟩
  k_with "exec Assign cons ListComp" => refine Stop.h ?_
  k_with "call ref" => k_dflt (first
    | ((with_reducible show wpAny _ _ (call (Value.ref 77) _) _ _ _); (refine' useI (c_at (ns := ns) ?c1 ?c2 ?c3) ?k1 ?k2 ?k3 ?k4 ?k5 ?k6 ?k7 ?k8 ?k9 ?k10 ?_); (walk_at "MINE call"); (case c1 => assumption); (case c2 => assumption); (case c3 => decide); walk_at "MINE retI")
    | ((with_reducible show wpAny _ _ (call (Value.ref 84) _) _ _ _); (refine' useL (c_dig ?c1 ?c2 ?c3 ?c4) ?k1 ?k2 ?k3 ?k4 ?k5 ?k6 ?k7 ?k8 ?k9 ?k10 ?_); (walk_at "MINE call"); (case c1 => decide); (case c2 => decide); (case c3 => first | decide | omega); (case c4 => first | decide | omega); walk_at "MINE retL"; (rename IntsAre _ (digitsI _ _ _) => hDig); have hdl := digits_len hDig))
  k_with "CompSrc" => ((with_reducible show LCg.CompSrc _ _ _ _ _ _ _ (Expr.Call _ [Expr.IfExp _ _ _ _] _ _) _ _ _ _ _ _); walk_at "MINE srcL"; (refine comp_list_str (fun k => T [nameSign k]) (fun n => 0 ≤ n ∧ n < 68) (by exact hnm.1) (by assumption) (fun k t I oI C oC D m₂ ys h tk E' hk hC hx F' N' off' ne' => ?_) (fun ys hys => ?_)); (case' refine_1 => obtain ⟨hk0, hk1⟩ := hk))
  k_with "elem" => first | with_reducible exact nameLo (by assumption) | with_reducible exact nameHi (by assumption) | exact ⟨_, rfl⟩
  k_with "len" => (have := hnm.2; omega)
  k_with "eval IfExp" => (k_here; (with_reducible show wpAny _ _ (eval (Expr.IfExp _ (Expr.Subscript _ _ _) _ _) _) _ _ _); k_dflt (refine' IfExp_src (srcI ns) ?k1 ?k2 ?_ ?retA; (case k1 => k_asm); (case k2 => k_asm); (case' retA => intro l us' n' h' tk' F' N' hi' is'; (try k_sweep); (replace N' := nd2 (nd2 N')); dsimp only)))
  k_with "SrcR" => first
    | exact SrcR.intro (by k_asm) (by k_asm) (by k_mem) (by repeat (first | exact List.forall_mem_nil _ | refine List.forall_mem_cons.mpr ⟨by k_mem, ?_⟩)) (by omega) (srcI_no (by omega))
    | exact SrcR.intro (by k_asm) (by k_asm) (by k_mem) (by repeat (first | exact List.forall_mem_nil _ | refine List.forall_mem_cons.mpr ⟨by k_mem, ?_⟩)) (by omega) (srcI_yes (by assumption) (by assumption))
  k_with "len" => omega
  k_with "pyIter ref" => (k_here; k_dflt (refine' laid_loop (n := 8) (Str.ofString "bit") (laidI ((atI ns 4 3).fmod 256) ((atI ns 3 0).fmod ↑pg.length) ([Builtin.bitXor (1 + (atI ns 1 0).fmod 16) ((atI ns 2 5).fmod 32)] ++ List.replicate ((8 * (↑pg.length : Int) + 4).fdiv 5).toNat 0)) ?hLe ?hh ?hr ?hsmall ?hn ?F ?N ?hm ?U ?hu ?hx ?turnC ?doneC; (case hh => exact rfl); (case F => k_asm); (case N => k_asm); (case hLe => rfl); (case hr => assumption); (case hsmall => decide); (case hn => rfl); (case hu => assumption); (case hm => k_mem); (case U => k_updF); (case hx => decide)); (case' turnC => intro kPre k t b us I oI h tk hk hklt hu hI F' N'; (try dsimp only at N' hI); (have hk0 : 0 ≤ k := by omega); (have hk8 : k < 8 := by omega); (have hix := lay_ix hplb.1 hplb.2 hk0 hk8); (have hll := lay_len (t := (atI ns 4 3).fmod 256) (p := (atI ns 3 0).fmod ↑pg.length) (a := Builtin.bitXor (1 + (atI ns 1 0).fmod 16) ((atI ns 2 5).fmod 32)) (ks := kPre) hfd.1); (have hfm := fmod_b (x := 8 * (atI ns 3 0).fmod ↑pg.length + k) (b := 5) (by decide)); (try k_sweep)); (case' doneC => intro a b us h tk hu F' N'; (try dsimp only at N'); (have hll := lay_len (t := (atI ns 4 3).fmod 256) (p := (atI ns 3 0).fmod ↑pg.length) (a := Builtin.bitXor (1 + (atI ns 1 0).fmod 16) ((atI ns 2 5).fmod 32)) (ks := rangeKs 0 8) hfd.1); (have hlb := lay_ok (t := (atI ns 4 3).fmod 256) (p := (atI ns 3 0).fmod ↑pg.length) (n := pg.length) (a := Builtin.bitXor (1 + (atI ns 1 0).fmod 16) ((atI ns 2 5).fmod 32)) (fmod_b (by decide)) hplb ⟨hpb2, hpb3⟩ (ver_is5 _ _)); (generalize hla : laidI ((atI ns 4 3).fmod 256) ((atI ns 3 0).fmod ↑pg.length) ([Builtin.bitXor (1 + (atI ns 1 0).fmod 16) ((atI ns 2 5).fmod 32)] ++ List.replicate ((8 * (↑pg.length : Int) + 4).fdiv 5).toNat 0) (rangeKs 0 8) = la at hu hll hlb); (replace N' := nd1 (nd1 (nd1 N'))); (try k_sweep)))
  k_with "LaidEnd" => ((try subst hgi1); refine' LaidEnd.intro ?F ?N ?hi ?hsub ?hm; (case F => k_asm); (case N => k_asm); (case hi => first | exact laidS_yes (by assumption) (by assumption) | exact laidS_no (by assumption) (by assumption)); (case hsub => walk_at "MINE sub"); (case hm => (intro z h1 h2; simp only [if_neg h1, if_neg h2])))
  k_with "setItem ref int" => (k_here; k_dflt (refine' setI_N ?F ?N ?hm ?U ?hi ?h0 ?h1 ?hz ?_; (case F => k_asm); (case N => k_asm); (case hm => k_mem); (case U => k_updF); (case hi => assumption); (case h0 => omega); (case h1 => omega); (case hz => omega)); (intro us h' F' N' hi'; (try dsimp only at N'); (try k_sweep)))
  k_with "subscriptTail Name BinOp ref int" => ((generalize hgi1 : 1 + (8 * (atI ns 3 0).fmod ↑pg.length + k).fdiv 5 = ii1); (walk_at "MINE itemI"))
  k_steps
  k_with_none
  refine ⟨?_⟩
  k_with "call ref" => refine Stop.h ?_
  k_with "exec Assign cons ListComp" => walk_at "MINE compA"
  k_with "CompSrc" => ((with_reducible show LCg.CompSrc _ _ _ _ _ _ _ (Expr.Call _ [Expr.Name _ _] _ _) _ _ _ _ _ _); (k_dflt (refine' LCg.CompSrc.ledger ?k1 ?k2 ?k3 ?k4 ?k5 ?_; (case k3 => k_asm); (case k4 => k_mem); (case k1 => exact rfl); (case k2 => k_asm); (case k5 => exact Nat.le_of_ble_eq_true rfl))); intro g'; k_dflt (refine comp_tabs (ns := [29, 22, 20, 21, 18]) byI (by (show IntsAre [_, _, _, _, _] _); l_ints) (fun k cur t I oI C oC D m₂ ys h tk E' hcur hC hx F' N' off' ne' => ?_) (fun ys tl hT => ?_)); (case' refine_2 => obtain ⟨a1, a2, a3, a4, a5, v1, v2, v3, v4, v5, n1, n2, n3, n4, n5, rfl, rfl, ib1, ib2, ib3, ib4, ib5, ob1, ob2, ob3, ob4, ob5⟩ := TabsR.five hT; clear hT; obtain ⟨eb1, eb2, eb3, eb4, eb5⟩ := by_all5; generalize hb1 : byI 29 = b1 at ib1 eb1; generalize hb2 : byI 22 = b2 at ib2 eb2; generalize hb3 : byI 20 = b3 at ib3 eb3; generalize hb4 : byI 21 = b4 at ib4 eb4; generalize hb5 : byI 18 = b5 at ib5 eb5; (try dsimp only [List.cons_append, List.nil_append])))
  k_with "call ref" => k_dflt ((with_reducible show wpAny _ _ (call (Value.ref 89) _) _ _ _); (refine' useL (c_by) ?k1 ?k2 ?k3 ?k4 ?k5 ?k6 ?k7 ?k8 ?k9 ?k10 ?_); (walk_at "MINE call"); walk_at "MINE retL")
  k_with "CompEnd" => (refine' tab_end ?k1 ?k2 ?k3 ?k4 ?k5 ?k6 ?k7; (case k1 => k_asm); (case k2 => k_asm); (case k3 => exact rfl); (case k4 => assumption); (case k5 => assumption); (case k6 => assumption); (case k7 => exact .inr ⟨_, hcur _ (by k_mem), rfl, _, rfl⟩))
  k_with "call ref" => k_dflt ((with_reducible show wpAny _ _ (call (Value.ref 96) _) _ _ _); (refine' useL (c_run ?c1 ?c2 ?c3 ib1 ib2 ib3 ib4 ib5 eb1 eb2 eb3 eb4 eb5) ?k1 ?k2 ?k3 ?k4 ?k5 ?k6 ?k7 ?k8 ?k9 ?k10 ?_); (case c1 => assumption); (walk_at "MINE call"); (case c2 => walk_at "MINE len"); (case c3 => exact is5_zeros hlb); walk_at "MINE retL"; dsimp only [qk])
  k_with "pre" => exact ⟨by walk_at "MINE list", by walk_at "MINE list", by walk_at "MINE list", by walk_at "MINE list", by walk_at "MINE list", by walk_at "MINE list", by walk_at "MINE list", by walk_at "MINE list"⟩
  k_with "len" => (simp only [List.length_append, runR_len, List.length_replicate]; omega)
  k_steps
  k_with_none
  refine ⟨?_⟩
  k_with "call ref" => k_dflt ((with_reducible show wpAny _ _ (call (Value.ref 70) [Value.str (T (List.map nameSign _)) _, Value.int (1 + Int.fmod _ _) _, Value.ref _]) _ _ _); (rename Fr _ _ _ _ => F6); (rename News _ _ _ _ => N6); (replace N6 := nd1 (nd1 (nd1 (nd1 (nd1 (nd1 (nd1 (nd1 (nd1 (nd1 (nd1 (nd1 (nd1 N6))))))))))))); (have PLx := PL (nm := List.map nameSign (digitsI (atI ns 0 2759) 68 2)) (vv := 1 + (atI ns 1 0).fmod 16) (oo := (atI ns 2 5).fmod 32) (pl := (atI ns 3 0).fmod ↑pg.length) (tu := (atI ns 4 3).fmod 256) (pg := pg) (name_b hnm.1) (ver_b _) (fmod_b (by decide)) hpb1 ⟨hpb2, hpb3⟩ hplb (fmod_b (by decide))); (rw [show layI (1 + (atI ns 1 0).fmod 16) ((atI ns 2 5).fmod 32) ((atI ns 3 0).fmod ↑pg.length) ((atI ns 4 3).fmod 256) pg = la from hla, show remI la = runR (runL b1 b2 b3 b4 b5 (la ++ List.replicate (Int.toNat 6) 0)) from by rw [remI, hb1, hb2, hb3, hb4, hb5]] at PLx); (obtain ⟨P1, P2, P3, P4, P5, P6, P7, P13⟩ := PLx); (have P8 := fullI_len (List.map nameSign (digitsI (atI ns 0 2759) 68 2)) (1 + (atI ns 1 0).fmod 16) pg); (have P9 := cv85_b pg); (have P10 := fullI_b (cs := List.map nameSign (digitsI (atI ns 0 2759) 68 2)) (ns := pg) (ver_b2 (atI ns 1 0))); (rename IntsAre _ (la ++ runR _) => hIlf); (generalize hlf : la ++ runR (runL b1 b2 b3 b4 b5 (la ++ List.replicate (Int.toNat 6) 0)) = lf at P2 P3 P13 hIlf); (have P15 : lf.length = (cv85 pg).length + 7 := by rw [P2, List.length_cons, P8]); (have P14 : lf.length ≤ 40 := by omega); (have hnp := name_b hnm.1); (have hnl1 : 1 ≤ (List.map nameSign (digitsI (atI ns 0 2759) 68 2)).length := by rw [List.length_map]; omega); (have hnl2 : (List.map nameSign (digitsI (atI ns 0 2759) 68 2)).length ≤ 2 := by rw [List.length_map]; omega); (have P11 := fullI_len (List.map nameSign (digitsI (atI ns 0 2759) 68 2)) ((atI ns 2 5).fmod 32) (turnedI pg ((atI ns 3 0).fmod ↑pg.length) ((atI ns 4 3).fmod 256))); (have P12 := cv85_b (turnedI pg ((atI ns 3 0).fmod ↑pg.length) ((atI ns 4 3).fmod 256))); (refine' useStr (encI_s P1) (c_encode (ns := pg) ?c1 ?c2 ?c3 ?c4 ?c5 ?c6 ?c7) ?k1 ?k2 ?k3 ?k4 ?k5 ?km ?kc ?k6 ?k7 ?k8 ?k9 ?k10 ?k11 ?k12 ?k13 ?_); (walk_at "MINE callG"); (case c1 => assumption); (case c2 => omega); (case c3 => assumption); (case c4 => assumption); (case c5 => omega); (case c6 => assumption); (case c7 => exact ver_b2 _); (intro t' s' ps' F' N' ht' G' os'); (try dsimp only at N'); (try k_sweep); (try k_fold))
  k_with "sliced" => first | rw [addr_take] | rw [addr_drop] | rw [addr_take6] | rw [addr_drop6]
  k_with "len" => (simp only [addr_len, List.length_cons, P8, P11, List.length_map]; omega)
  k_with "compareOp NotEq str str" => refine ne_str_same ?_
  k_with "compareOp In int ref" => (k_here; k_dflt (refine' in_neg ?k1 ?k2 ?k3 ?k4 ?_; (case k1 => walk_at "MINE list"); (case k2 => assumption); (case k3 => assumption); (case k4 => decide)))
  k_with "eval ListComp" => first
    | ((with_reducible show wpAny _ _ (eval (Expr.ListComp _ [⟨_, Expr.Subscript _ _ _, _, _⟩] _ _) _) _ _ _); walk_at "MINE compS")
    | ((with_reducible show wpAny _ _ (eval (Expr.ListComp _ [⟨_, Expr.Call _ _ _ _, _, _⟩] _ _) _) _ _ _); walk_at "MINE comp")
  k_with "SrcS" => (refine SrcS.intro (by rfl) (by k_asm) (by k_asm) (by rw [T_len, List.length_map, List.length_cons, P8]; omega) ?_; intro g'; (refine comp_str_int (posI charset) (fun kPre k kPost t I oI C oC D m₂ ys h tk E' kEq hC hx F' N' off' ne' => ?_) (fun ys hys => ?_)); (case' refine_2 => rw [T_cps, map_pos P10] at hys))
  k_with "CompSrc" => first
    | ((with_reducible show LCg.CompSrc _ _ _ _ _ _ _ (Expr.Subscript _ _ _) _ _ _ _ _ _); k_dflt (refine' LCg.CompSrc.range ?k1 ?k2 ?k3 ?k4 ?k5 ?k6 ?k7 ?_; (case k1 => exact rfl); (case k2 => k_asm); (case k3 => k_asm); (case k4 => assumption); (case k5 => exact small_one (by omega) (by omega) (by omega) (by omega)); (case k6 => exact rangeSize_nat _ _); (case k7 => (rw [PySem.sizeLine_eq]; omega))); intro g'; (refine comp_range_str (fun k => T [sgn (Builtin.bitXor ((((1 + (atI ns 1 0).fmod 16) :: fullI (List.map nameSign (digitsI (atI ns 0 2759) 68 2)) (1 + (atI ns 1 0).fmod 16) pg)).getD k.toNat 0) (lf.getD k.toNat 0))]) (fun k t I oI C oC D m₂ ys h tk E' kLo kHi hC hx F' N' off' ne' => ?_) (fun ys hys => ?_)); (case' refine_1 => have hsx := sign_ix P10 P13 k); (case' refine_2 => rw [show ((lf.length : Int) - 0).toNat = lf.length from by omega] at hys))
    | ((with_reducible show LCg.CompSrc _ _ _ _ _ _ _ (Expr.BinOp _ _ _ _) _ _ _ _ _ _); k_dflt (refine' LCg.CompSrc.range ?k1 ?k2 ?k3 ?k4 ?k5 ?k6 ?k7 ?_; (case k1 => exact rfl); (case k2 => k_asm); (case k3 => k_asm); (case k4 => assumption); (case k5 => exact small_one (by omega) (by omega) (by omega) (by omega)); (case k6 => exact rangeSize_nat _ _); (case k7 => (rw [PySem.sizeLine_eq]; omega))); intro g'; (refine comp_range_int (fun k => Builtin.bitXor (pg.getD k.toNat 0) (if k = (atI ns 3 0).fmod ↑pg.length then (atI ns 4 3).fmod 256 else 0)) (fun k t I oI C oC D m₂ ys h tk E' kLo kHi hC hx F' N' off' ne' => ?_) (fun ys hys => ?_)); (case' refine_2 => rw [show ((pg.length : Int) - 0).toNat = pg.length from by omega] at hys; (k_dflt (have hys2 : IntsAre ys (turnedI pg ((atI ns 3 0).fmod ↑pg.length) ((atI ns 4 3).fmod 256)) := hys)); clear hys))
  k_with "elem" => first | with_reducible exact turn_yes (by assumption) | with_reducible exact turn_no (by assumption) | with_reducible exact ⟨_, rfl⟩
  k_with "subscriptTail Name Name ref int" => walk_at "MINE itemI"
  k_with "idx" => omega
  k_with "len" => (simp only [rangeKs_length]; omega)
  k_with "len" => (simp only [addr_len, List.length_cons, List.length_map, create_len]; omega)
  k_with "added" => first | rw [made_eq P3] | rw [addr_glue]
  k_with "call ref" => k_dflt ((with_reducible show wpAny _ _ (call (Value.ref 70) [Value.str (T (List.map nameSign _)) _, Value.int (Int.fmod _ _) _, Value.ref _]) _ _ _); (rename Fr _ _ _ _ => F8); (by_cases hL : (atI ns 2 5).fmod 32 < 17); (case' pos => rw [decide_eq_true hL] at F8); (case' neg => rw [decide_eq_false hL] at F8))
  k_with "call ref" => k_dflt ((with_reducible show wpAny _ _ (call (Value.ref 63) [Value.str _ _, Value.str (T (addr _ (_ :: (cv85 _ ++ createI _ (_ :: cv85 _))))) _]) _ _ _); (refine' useDN (P5 (ne_of_T (by assumption))) (c_decode ?c1 ?c2 ?c3 ?c4 ?c5 ?c6) ?k1 ?k2 ?k3 ?k4 ?k5 ?km ?kc ?k6 ?k7 ?k8 ?k9 ?k10 ?k11 ?k12 ?k13 ?_); (walk_at "MINE callG"); (case c1 => assumption); (case c2 => omega); (case c3 => assumption); (case c4 => (simp only [List.length_append, create_len]; omega)); (case c5 => (simp only [List.length_append, create_len]; omega)); (case c6 => exact mix_b (fmod_b (by decide))); (intro D' s' ps' F' N' o1' ht' G' os'); (try dsimp only at N'); (try k_sweep); (try k_fold))
  k_with "call ref" => k_dflt ((with_reducible show wpAny _ _ (call (Value.ref 70) [Value.str (T (List.map nameSign _)) _, Value.int (Int.fmod _ _) _, Value.ref _]) _ _ _); (refine' useStr (encI_s (P4.trans (if_pos ⟨by omega, by omega⟩))) (c_encode ?c1 ?c2 ?c3 ?c4 ?c5 ?c6 ?c7) ?k1 ?k2 ?k3 ?k4 ?k5 ?km ?kc ?k6 ?k7 ?k8 ?k9 ?k10 ?k11 ?k12 ?k13 ?_); (walk_at "MINE callG"); (case c1 => assumption); (case c2 => omega); (case c3 => assumption); (case c4 => exact hys2); (case c5 => omega); (case c6 => assumption); (case c7 => exact fmod_b (by decide)); (intro t' s' ps' F' N' ht' G' os'); (try dsimp only at N'); (try k_sweep); (try k_fold))
  k_with "call ref" => k_dflt ((with_reducible show wpAny _ _ (call (Value.ref 70) [Value.str (T (List.map nameSign _)) _, Value.int (Int.fmod _ _) _, Value.ref _]) _ _ _); (refine' useStrN (encI_n (P4.trans (if_neg (by omega)))) (c_encode ?c1 ?c2 ?c3 ?c4 ?c5 ?c6 ?c7) ?k1 ?k2 ?k3 ?k4 ?k5 ?km ?kc ?k6 ?k7 ?k8 ?k9 ?k10 ?k11 ?k12 ?k13 ?_); (walk_at "MINE callG"); (case c1 => assumption); (case c2 => omega); (case c3 => assumption); (case c4 => exact hys2); (case c5 => omega); (case c6 => assumption); (case c7 => exact fmod_b (by decide)); (intro s' ps' F' N' ht' G' os'); (try dsimp only at N'); (try k_sweep); (try k_fold))
  k_with "call ref" => k_dflt ((with_reducible show wpAny _ _ (call (Value.ref 63) [Value.str _ _, Value.str (T (addr _ (_ :: fullI _ _ _))) _]) _ _ _); (refine' useDS (P4.trans (if_pos ⟨by omega, by omega⟩)) (c_decode ?c1 ?c2 ?c3 ?c4 ?c5 ?c6) ?k1 ?k2 ?k3 ?k4 ?k5 ?km ?kc ?k6 ?k7 ?k8 ?k9 ?k10 ?k11 ?k12 ?k13 ?_); (walk_at "MINE callG"); (case c1 => assumption); (case c2 => omega); (case c3 => assumption); (case c4 => omega); (case c5 => omega); (case c6 => exact fullI_b (fmod_b (by decide))); (intro D' l' n' us' tx' s' ps' hi' F' N' o1' o2' ht' G' os'); (try dsimp only at N'); (try k_sweep); (try k_fold))
  k_with "call ref" => k_dflt ((with_reducible show wpAny _ _ (call (Value.ref 63) [Value.str _ _, Value.str (T (addr _ (_ :: fullI _ _ _))) _]) _ _ _); (refine' useDN (P4.trans (if_neg (by omega))) (c_decode ?c1 ?c2 ?c3 ?c4 ?c5 ?c6) ?k1 ?k2 ?k3 ?k4 ?k5 ?km ?kc ?k6 ?k7 ?k8 ?k9 ?k10 ?k11 ?k12 ?k13 ?_); (walk_at "MINE callG"); (case c1 => assumption); (case c2 => omega); (case c3 => assumption); (case c4 => omega); (case c5 => omega); (case c6 => exact fullI_b (fmod_b (by decide))); (intro D' s' ps' F' N' o1' ht' G' os'); (try dsimp only at N'); (try k_sweep); (try k_fold))
  k_with "exec If" => (k_here; (with_reducible show wpAny _ _ (exec (Stmt.If (Expr.BoolOp _ (Expr.Compare (Expr.Name _ _) [CmpOp.NotEq] [Expr.Name _ _] _ :: _) _) _ _ _) _) _ _ _); k_dflt (refine' If_tab ?k1 ?k2 ?k3 ?_ ?retC; (case k1 => k_asm); (case k2 => k_asm); (case k3 => k_updF)); (case' retC => intro s' ps' F' N' ht' G' os'; (try dsimp only at N'); (try k_sweep)))
  k_with "TabEnd" => (refine' TabEnd.intro ?F ?N ?hm ?hsub ?ht ?G ?os; (case F => k_asm); (case N => k_asm); (case hm => k_mem); (case hsub => ((try dsimp only); walk_at "MINE sub")); (case ht => first | assumption | exact trip_nil); (case G => assumption); (case os => (repeat (first | assumption | exact rfl | refine Eq.trans (by assumption) ?_))))
  k_with "compareOp Eq ref ref" => (k_here; k_dflt (refine' eq_pair ?N ?h1 ?h3 ?h2 ?h4 ?hi ?hi' ?hu ?_; (case N => k_asm); (case h1 => k_mem); (case h3 => k_mem); (case h2 => k_mem); (case h4 => k_mem); (case hi => assumption); (case hi' => assumption); (case hu => first | ke_room | (dsimp only; omega))))
  k_steps
  all_goals first
    | (exfalso; (rename ¬ (List.length (_ :: _) : Int) = (List.length _ : Int) => hne); rw [List.length_cons, P8] at hne; omega)
    | (refine' law_fin hT ?F ?N ?hm ?G ?hos ?hr ?hp; (case F => k_asm); (case N => k_asm); (case hm => k_mem); (case G => assumption); (case hos => (repeat (first | assumption | exact rfl | refine Eq.trans (by assumption) ?_))); (case hr => exact fun _ _ => rfl); (case hp => exact post_ok _)))
end

end Mine
set_option maxRecDepth 100000 in
theorem PySem.Challenge.cw_sx0008_01_holds : PySem.Challenge.rw_sx0008_01.Holds :=
  Mine.lawT
