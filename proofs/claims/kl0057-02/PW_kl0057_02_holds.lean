import PyProof.Rows.All
import Wide.All
import OpenK.AllK
import Wide.FinOn
import PyProof.EqAt
import PyProof.P3Eq
import PySem.Challenge.RW_kl0057_02
set_option Elab.async false
section
namespace Mine
end Mine
end
section
open PySem PySem.W PyProof.Rows
set_option maxRecDepth 100000
set_option maxHeartbeats 8000000
namespace Mine2
theorem PySem.W.holds_open {r : OpenRow} {q : Program} {loose : List Str} {Xt : Shared → Bool} {XP : (Str → Option Value) → Heap → Prop} {α : Type} {Yf : Shared → α} {Ya : World → α} {YP : World → Heap → Prop} {d : DefRec} {kwd : List (Str × PySem.Expr)} {N : Nat}
    (left : ∀ w, (openEnds treeTable r.prog w N).map (fun s => (openSeen q loose (importedModules r.prog.main.body) Xt true s, Yf s)) = some (openGood q loose, Ya w))
    (hY : ∀ w s, Yf s = Ya w → YP w s.heap) (hYk : ∀ w h h', YP w h → (∀ b o, h.get? b = some o → h'.get? b = some o) → YP w h')
    (hX : ∀ s, Xt s = true → XP (s.heap.nsMap mainGlobals) s.heap) (hXk : ∀ mg h h', XP mg h → (∀ b o, h.get? b = some o → h'.get? b = some o) → XP mg h')
    (hdef : defOf q r.name = some (d, kwd)) (hp : r.prog.theDef r.name = some (d.params, d.body, d.scope)) (hk : kwWritten? d.params.kwonlyargs d.params.kw_defaults = some kwd) (hRf : ∀ s, Xt s = true → RecFacts r.records s.heap)
    (hwr : (!r.writes || r.records.isEmpty) = true) (k1 : r.wellSaid = true) (ok : (chainsOk q && opensWell r.prog && (frees r.toRowW && r.within.isEmpty)) = true) (hb : r.prog.bare) (hw : r.toRowW.promised)
    (call : WalkO q loose XP YP r.toRowW d kwd fun f vs => PySem.call f vs) : r.Holds :=
  _root_.PySem.W.holds_open left hY hYk hX hXk hdef hp hk hRf hwr k1 ok hb hw call
open_top hd for PySem.Challenge.rw_kl0057_02
end Mine2
end
section
open PySem PySem.W PyProof.Rows
set_option maxRecDepth 100000
set_option maxHeartbeats 8000000
namespace Mine
abbrev Ar (dp un : Nat) (fr : Option (List Env)) (gd : Option (List Code)) : Around := { handled := none, depth := dp, frames := fr, guards := gd, units := un }
abbrev KeepAll (h h' : Heap) : Prop := ∀ b o, h.get? b = some o → h'.get? b = some o
theorem KeepAll.trans {a b c : Heap} (x : KeepAll a b) (y : KeepAll b c) : KeepAll a c := fun d o e => y d o (x d o e)
theorem KeepAll.none_of {a b : Heap} (x : KeepAll a b) {d : Addr} (e : b.get? d = none) : a.get? d = none := by
  cases q : a.get? d with
  | none => rfl
  | some o => rw [x d o q] at e; cases e
theorem Fr.keepAll {h₀ h h' : Heap} {L : Addr} {m : Str → Option Value} (F : Fr h₀ L h m) (k : KeepAll h h') : Fr h₀ L h' m :=
  ⟨F.ns.keeps k, fun b o e => k b o (F.keep b o e), F.above⟩
theorem News.keepAll {h₀ h h' : Heap} {L : Addr} {news : List (Addr × Obj)} (N : News h₀ L h news) (k : KeepAll h h') : News h₀ L h' news :=
  fun q hq => ⟨k _ _ (N q hq).1, (N q hq).2⟩
def Led (base h : Heap) (news : List (Addr × Obj)) : Prop := ∀ q ∈ news, h.get? q.1 = some q.2 ∧ base.get? q.1 = none
theorem Led.nil {base h : Heap} : Led base h [] := fun _ hq => nomatch hq
theorem Led.cons {base h : Heap} {a : Addr} {o : Obj} {news : List (Addr × Obj)} (h1 : h.get? a = some o) (h2 : base.get? a = none) (N : Led base h news) : Led base h ((a, o) :: news) := by
  intro q hq
  rcases List.mem_cons.mp hq with rfl | hq
  · exact ⟨h1, h2⟩
  · exact N q hq
theorem get?_size_none (h : Heap) {a : Addr} (ha : h.objs.size ≤ a) : h.get? a = none := Heap.get?_none_of_le ha
abbrev fnRec (name qual : Str) (params : Arguments) (body : List Stmt) (scope : Scope) (pm code doc : Value) : FuncData :=
  { name, qualname := qual, params, body := .stmts body, scope, globals := mainGlobals, closure := [], defaults := .none, kwdefaults := .none,
    doc, pyModule := pm, code, builtins := builtinsNs }
theorem enter {prog : Program} {w : World} {A : Around} {R : Result → Shared → Prop} {s : Shared} {base : Heap} {news : List (Addr × Obj)} {name qual : Str} {params : Arguments} {body : List Stmt} {scope : Scope}
    {pm cd doc : Value} {a : Addr} {o : Obj} {args : List Value} {binds : List (Str × Value)}
    (hk : KeepAll base s.heap) (hsz : base.objs.size ≤ s.heap.objs.size) (hN : Led base s.heap news)
    (hroom : A.depth < recursionLimit) (ho : s.heap.get? a = some o) (hdata : o.data = .func (fnRec name qual params body scope pm cd doc)) (hlim : s.heap.NoLimit) (hcd : s.heap.CodeRec cd qual)
    (hbind : bindArgs (fnRec name qual params body scope pm cd doc) ⟨args, []⟩ = pure binds)
    (hloc : ∀ x ∈ binds, scope.names.lookup x.1 = some .local)
    (h : ∀ L h₁ tk, Fr base L h₁ (fun x => binds.reverse.lookup x) → News base L h₁ news → (∀ q ∈ news, q.1 < L) → KeepAll s.heap h₁ → s.heap.get? L = none →
      wpAny (model prog w) (A.deeper (envOf qual scope L a cd)) (execs body (envOf qual scope L a cd))
        (fun f s' => R (.ok (.ret (match f with | .ret v => v | _ => .none))) s')
        (fun e s' => wpAny (model prog w) (A.deeper (envOf qual scope L a cd)) (leaving (envOf qual scope L a cd) e)
          (fun _ s'' => R (.error e) s'') (fun e' s'' => R (.error e') s'') s')
        { s with heap := h₁, toks := tk })
    (hco : scope.isCoroutine = false := by rfl) (hgen : scope.isGenerator = false := by rfl) (hk' : scope.kind = .function := by rfl)
    (hcell : ∀ x ∈ scope.names, x.2 ≠ .cell := by decide) :
    codeAny (model prog w) A (.call (.ref a) ⟨args, []⟩) R s := by
  refine codeAny_call_function hroom ho hdata hco hgen rfl hcd ?_
  rw [hbind]
  refine wpAny_pure (wpAny_newFunctionEnv hcell hloc (fun h₁ hns hsb => ?_) hk')
  have kf : KeepAll s.heap h₁ := fun b o e => hsb.extBut b o (Nat.ne_of_lt (Heap.lt_size e)) (Heap.get?_push_of_some _ e)
  refine ⟨hlim.keeps kf, ?_⟩
  show codeAny _ _ (.func body (envOf qual scope _ a cd)) _ _
  have F : Fr base s.heap.objs.size h₁ _ := ⟨hns, fun b o e => kf _ _ (hk b o e), hsz⟩
  exact codeAny_func (h _ h₁ _ F (fun q hq => ⟨kf _ _ (hN q hq).1, Nat.ne_of_lt (Heap.lt_size (hN q hq).1), (hN q hq).2⟩) (fun q hq => Heap.lt_size (hN q hq).1) kf (get?_size_none _ (Nat.le_refl _)))
theorem enterV {prog : Program} {w : World} {A : Around} {R : Result → Shared → Prop} {s : Shared} {base : Heap} {news : List (Addr × Obj)} {name qual : Str} {params : Arguments} {body : List Stmt} {scope : Scope}
    {pm cd doc : Value} {a : Addr} {o : Obj} {args vs : List Value} {binds : Value → List (Str × Value)}
    (hk : KeepAll base s.heap) (hsz : base.objs.size ≤ s.heap.objs.size) (hN : Led base s.heap news)
    (hroom : A.depth < recursionLimit) (ho : s.heap.get? a = some o) (hdata : o.data = .func (fnRec name qual params body scope pm cd doc)) (hlim : s.heap.NoLimit) (hcd : s.heap.CodeRec cd qual)
    (hbind : bindArgs (fnRec name qual params body scope pm cd doc) ⟨args, []⟩ = (newTuple vs >>= fun t => pure (binds t)))
    (hloc : ∀ t, ∀ x ∈ binds t, scope.names.lookup x.1 = some .local) (hv : vs.length ≤ sizeLine)
    (h : ∀ L T h₁ tk, Fr base L h₁ (fun x => (binds (.ref T)).reverse.lookup x) → News base L h₁ ((T, { cls := .type "tuple", data := .seq vs.toArray }) :: news) → (∀ q ∈ news, q.1 < T) → T < L → KeepAll s.heap h₁ → s.heap.get? L = none →
      wpAny (model prog w) (A.deeper (envOf qual scope L a cd)) (execs body (envOf qual scope L a cd))
        (fun f s' => R (.ok (.ret (match f with | .ret v => v | _ => .none))) s')
        (fun e s' => wpAny (model prog w) (A.deeper (envOf qual scope L a cd)) (leaving (envOf qual scope L a cd) e)
          (fun _ s'' => R (.error e) s'') (fun e' s'' => R (.error e') s'') s')
        { s with heap := h₁, toks := tk })
    (hco : scope.isCoroutine = false := by rfl) (hgen : scope.isGenerator = false := by rfl) (hk' : scope.kind = .function := by rfl)
    (hcell : ∀ x ∈ scope.names, x.2 ≠ .cell := by decide) :
    codeAny (model prog w) A (.call (.ref a) ⟨args, []⟩) R s := by
  refine codeAny_call_function hroom ho hdata hco hgen rfl hcd ?_
  rw [hbind]
  refine wpAny_bind (wpAny_newTuple (wpAny_pure (wpAny_newFunctionEnv hcell (hloc _) (fun h₁ hns hsb => ?_) hk')) hv)
  have kp : KeepAll s.heap (s.heap.push { cls := .type "tuple", data := .seq vs.toArray }) := fun b o e => Heap.get?_push_of_some _ e
  have hsz1 : (s.heap.push { cls := .type "tuple", data := .seq vs.toArray }).objs.size = s.heap.objs.size + 1 := Heap.size_push ..
  have kf : KeepAll (s.heap.push { cls := .type "tuple", data := .seq vs.toArray }) h₁ := fun b o e => hsb.extBut b o (Nat.ne_of_lt (Heap.lt_size e)) (Heap.get?_push_of_some _ e)
  refine ⟨hlim.keeps (kp.trans kf), ?_⟩
  show codeAny _ _ (.func body (envOf qual scope _ a cd)) _ _
  have F : Fr base (s.heap.push { cls := .type "tuple", data := .seq vs.toArray }).objs.size h₁ _ := ⟨hns, fun b o e => kf _ _ (kp _ _ (hk b o e)), by rw [hsz1]; exact Nat.le_succ_of_le hsz⟩
  refine codeAny_func (h _ s.heap.objs.size h₁ _ F (fun q hq => ?_) (fun q hq => Heap.lt_size (hN q hq).1) (by rw [hsz1]; exact Nat.lt_succ_self _) (kp.trans kf) (get?_size_none _ (by rw [hsz1]; exact Nat.le_succ _)))
  rcases List.mem_cons.mp hq with rfl | hq
  · exact ⟨kf _ _ (Heap.get?_push_size _ rfl), by rw [hsz1]; exact Nat.ne_of_lt (Nat.lt_succ_self _), get?_size_none _ hsz⟩
  · exact ⟨kf _ _ (kp _ _ (hN q hq).1), by rw [hsz1]; exact Nat.ne_of_lt (Nat.lt_succ_of_lt (Heap.lt_size (hN q hq).1)), (hN q hq).2⟩
theorem Ctx_In_mono {Γ : Ctx} {dp un dp' un' : Nat} {fr : Option (List Env)} {gd : Option (List Code)} (h : Γ.In (Ar dp un fr gd)) (hd : dp ≤ dp') (hu : un ≤ un') : Γ.In (Ar dp' un' none none) :=
  ⟨h.1, Nat.le_trans h.2.1 hd, fun _ e => (nomatch e), fun _ e => (nomatch e), Nat.le_trans h.2.2.2.2 hu⟩
theorem wpAny_up {α : Type} {M : Model} {dp un dp' un' : Nat} {fr : Option (List Env)} {gd : Option (List Code)} {t : Sem α} {Q : α → Shared → Prop} {E : Value → Shared → Prop} {s : Shared}
    (hd : dp ≤ dp') (hu : un ≤ un') (h : wpAny M (Ar dp' un' none none) t Q E s) : wpAny M (Ar dp un fr gd) t Q E s :=
  fun Γ p hΓ => h Γ p (Ctx_In_mono hΓ hd hu)
section
variable {prog : Program} {w : World} {A : Around} {E : Value → Shared → Prop} {s : Shared}
theorem call_iter {v : Value} {Q : Value → Shared → Prop} (h : wpAny (model prog w) A.in1 (pyIter v) Q E s) : wpAny (model prog w) A (PySem.call (.builtin "iter") [v]) Q E s := by
  refine Calls.call_function_entry (by decide +kernel) (by decide +kernel) kdk_entry_iter (kdk_args_iter _) ?_
  unfold Builtin.«iter»
  refine wpAny_bind (m := someArgs "iter" 1 2 _) (wpAny_of_eq (a := [v]) (by first | rfl | kernel_rfl!) ?_)
  show wpAny _ _ (pyIter v >>= _) _ _ _
  exact wpAny_bind (wpAny_mono h (fun r s' hr => wpAny_pure ⟨_, rfl, hr⟩) fun _ _ x => x)
theorem call_next {a : Addr} {f : Value} {Q : Value → Shared → Prop} (hf : wpAny (model prog w) A.in1 (specialOf (.ref a) "__next__") (fun r s' => r = some f ∧ s' = s) E s)
    (h : wpAny (model prog w) A.in1 (callSpecial? (.ref a) "__next__") (fun r s' => ∃ v, r = some v ∧ Q v s') E s) : wpAny (model prog w) A (PySem.call (.builtin "next") [.ref a]) Q E s := by
  refine Calls.call_function_entry (by decide +kernel) (by decide +kernel) kdk_entry_next (kdk_args_next _) ?_
  unfold Builtin.«next»
  refine wpAny_bind (m := someArgs "next" 1 2 _) (wpAny_of_eq (a := [Value.ref a]) (by first | rfl | kernel_rfl!) ?_)
  dsimp only
  refine wpAny_bind (wpAny_mono hf (fun r s' hr => ?_) fun _ _ x => x)
  obtain ⟨rfl, rfl⟩ := hr
  refine wpAny_ite_split (fun hab => absurd hab (by simp)) (fun _ => ?_)
  refine wpAny_bind (wpAny_mono h (fun r s' hr => ?_) fun _ _ x => x)
  obtain ⟨v, rfl, hq⟩ := hr
  exact wpAny_pure ⟨_, rfl, hq⟩
end
structure Ext (S : List Addr) (W : Addr → Prop) (V : Nat → Prop) (s s' : Shared) : Prop where
  heap : ∀ b o, b ∉ S → ¬ W b → s.heap.get? b = some o → s'.heap.get? b = some o
  slots : ∀ b o, b ∈ S → ¬ W b → s.heap.get? b = some o → ∃ sl, s'.heap.get? b = some { o with slots := sl }
  gens : ∀ g, ¬ V g → ∀ x, s.gens[g]? = some x → s'.gens[g]? = some x
  gsize : s.gens.size ≤ s'.gens.size
  bare : AllBare s.gens → AllBare s'.gens
  os : s'.os = s.os
abbrev NoA : Addr → Prop := fun _ => False
abbrev NoG : Nat → Prop := fun _ => False
theorem Ext.refl (S : List Addr) (W : Addr → Prop) (V : Nat → Prop) (s : Shared) : Ext S W V s s :=
  ⟨fun _ _ _ _ e => e, fun _ o _ _ e => ⟨o.slots, e⟩, fun _ _ _ e => e, Nat.le_refl _, fun h => h, rfl⟩
theorem Ext.trans {S : List Addr} {W : Addr → Prop} {V : Nat → Prop} {a b c : Shared} (x : Ext S W V a b) (y : Ext S W V b c) : Ext S W V a c :=
  ⟨fun d o h1 h2 e => y.heap d o h1 h2 (x.heap d o h1 h2 e),
   fun d o h1 h2 e => let ⟨_, e1⟩ := x.slots d o h1 h2 e; let ⟨sl, e2⟩ := y.slots d _ h1 h2 e1; ⟨sl, e2⟩,
   fun g hg z e => y.gens g hg z (x.gens g hg z e), Nat.le_trans x.gsize y.gsize, fun h => y.bare (x.bare h), y.os.trans x.os⟩
theorem Ext.mono {S S' : List Addr} {W W' : Addr → Prop} {V V' : Nat → Prop} {a b : Shared} (x : Ext S W V a b) (hS : ∀ b, b ∈ S → b ∈ S') (hW : ∀ b, W b → W' b) (hV : ∀ g, V g → V' g) : Ext S' W' V' a b :=
  ⟨fun d o h1 h2 e => x.heap d o (fun q => h1 (hS d q)) (fun q => h2 (hW d q)) e,
   fun d o _ h2 e => by
    by_cases q : d ∈ S
    · exact x.slots d o q (fun q => h2 (hW d q)) e
    · exact ⟨o.slots, x.heap d o q (fun q => h2 (hW d q)) e⟩,
   fun g hg z e => x.gens g (fun q => hg (hV g q)) z e, x.gsize, x.bare, x.os⟩
theorem Ext.of_heap {S : List Addr} {W : Addr → Prop} {V : Nat → Prop} {s : Shared} {h' : Heap} {tk : Nat} (hk : ∀ b o, ¬ W b → s.heap.get? b = some o → h'.get? b = some o) : Ext S W V s { s with heap := h', toks := tk } :=
  ⟨fun b o _ hw e => hk b o hw e, fun b o _ hw e => ⟨o.slots, hk b o hw e⟩, fun _ _ _ e => e, Nat.le_refl _, fun h => h, rfl⟩
theorem Ext.of_keep {S : List Addr} {W : Addr → Prop} {V : Nat → Prop} {s : Shared} {h' : Heap} {tk : Nat} (hk : KeepAll s.heap h') : Ext S W V s { s with heap := h', toks := tk } :=
  .of_heap fun b o _ e => hk b o e
theorem Ext.keepAll {V : Nat → Prop} {s s' : Shared} (x : Ext [] NoA V s s') : KeepAll s.heap s'.heap := fun b o e => x.heap b o (by simp) (fun h => h) e
theorem Ext.fresh {S : List Addr} {W W' : Addr → Prop} {V : Nat → Prop} {s s₁ s' : Shared} (x : Ext S W V s s₁) (y : Ext S W' V s₁ s') (hW : ∀ b, W' b → s.heap.get? b = none ∨ W b) : Ext S W V s s' :=
  ⟨fun d o h1 h2 e => y.heap d o h1 (fun q => (hW d q).elim (fun q => by rw [q] at e; cases e) h2) (x.heap d o h1 h2 e),
   fun d o h1 h2 e => let ⟨_, e1⟩ := x.slots d o h1 h2 e; let ⟨sl, e2⟩ := y.slots d _ h1 (fun q => (hW d q).elim (fun q => by rw [q] at e; cases e) h2) e1; ⟨sl, e2⟩,
   fun g hg z e => y.gens g hg z (x.gens g hg z e), Nat.le_trans x.gsize y.gsize, fun h => y.bare (x.bare h), y.os.trans x.os⟩
theorem Ext.ns {S : List Addr} {W : Addr → Prop} {V : Nat → Prop} {s s' : Shared} {L : Addr} {m : Str → Option Value} (x : Ext S W V s s') (hL : ¬ W L) (n : s.heap.Ns L m) : s'.heap.Ns L m := by
  obtain ⟨o, es, ep, ho, hd, r⟩ := n
  by_cases q : L ∈ S
  · obtain ⟨sl, hs⟩ := x.slots L o q hL ho
    exact ⟨_, es, ep, hs, hd, r⟩
  · exact ⟨o, es, ep, x.heap L o q hL ho, hd, r⟩
theorem Ext.fr {S : List Addr} {W : Addr → Prop} {V : Nat → Prop} {s s' : Shared} {h₀ : Heap} {L : Addr} {m : Str → Option Value} (x : Ext S W V s s') (F : Fr h₀ L s.heap m) (hL : ¬ W L) (hS : ∀ b ∈ S, h₀.get? b = none) (hW : ∀ b, W b → h₀.get? b = none) : Fr h₀ L s'.heap m :=
  ⟨x.ns hL F.ns, fun b o e => x.heap b o (fun q => by rw [hS b q] at e; cases e) (fun q => by rw [hW b q] at e; cases e) (F.keep b o e), F.above⟩
theorem Ext.news {S : List Addr} {W : Addr → Prop} {V : Nat → Prop} {s s' : Shared} {h₀ : Heap} {L : Addr} {news : List (Addr × Obj)} (x : Ext S W V s s') (N : News h₀ L s.heap news) (hS : ∀ q ∈ news, q.1 ∉ S) (hW : ∀ q ∈ news, ¬ W q.1) : News h₀ L s'.heap news :=
  fun q hq => ⟨x.heap _ _ (hS q hq) (hW q hq) (N q hq).1, (N q hq).2⟩
def hide (S : List Addr) (h : Heap) : Heap := S.foldr (fun a h => h.update a fun o => { o with data := .freed }) h
theorem hide1_get (h : Heap) (a b : Addr) : (h.update a fun o => { o with data := .freed }).get? b = if b = a then none else h.get? b := by
  by_cases q : b = a
  · subst q
    rw [if_pos rfl]
    cases e : (h.update b fun o => { o with data := .freed }).get? b with
    | none => rfl
    | some o =>
      exfalso
      obtain ⟨objs, l⟩ := h
      have e' : (match (objs.modify b fun o => { o with data := .freed })[b]? with | some ⟨_, _, .freed, _⟩ => none | o => o) = some o := e
      rw [Array.getElem?_modify] at e'
      simp only [if_true] at e'
      cases q : objs[b]? with
      | none => rw [q] at e'; simp at e'
      | some x => rw [q] at e'; simp at e'
  · rw [if_neg q]
    exact Heap.get?_update_other _ _ (Ne.symm q)
theorem hide_get (S : List Addr) (h : Heap) (b : Addr) : (hide S h).get? b = if b ∈ S then none else h.get? b := by
  induction S with
  | nil => simp [hide]
  | cons a S ih =>
    show ((hide S h).update a _).get? b = _
    rw [hide1_get, ih]
    by_cases q : b = a
    · simp [q]
    · simp [q]
theorem hide_size (S : List Addr) (h : Heap) : (hide S h).objs.size = h.objs.size := by
  induction S with
  | nil => rfl
  | cons a S ih =>
    show ((hide S h).update a _).objs.size = _
    rw [Heap.size_after_update]; exact ih
theorem hide_keep (S : List Addr) (h : Heap) : KeepAll (hide S h) h := fun b o e => by
  rw [hide_get] at e
  split at e
  · cases e
  · exact e
theorem hide_some {S : List Addr} {h : Heap} {b : Addr} {o : Obj} (hb : b ∉ S) (e : h.get? b = some o) : (hide S h).get? b = some o := by rw [hide_get, if_neg hb]; exact e
theorem hide_none {S : List Addr} {h : Heap} {b : Addr} (hb : b ∈ S) : (hide S h).get? b = none := by rw [hide_get, if_pos hb]
theorem keep_hide {S : List Addr} {b h : Heap} (k : KeepAll b h) (hS : ∀ a ∈ S, b.get? a = none) : KeepAll b (hide S h) := fun a o e =>
  hide_some (fun q => by rw [hS a q] at e; cases e) (k a o e)
def restOf (base h : Heap) (L : Addr) : List (Addr × Obj) :=
  (List.range h.objs.size).filterMap fun b => if b = L then none else match base.get? b with | some _ => none | none => (h.get? b).map fun o => (b, o)
theorem restOf_news (base h : Heap) (L : Addr) : News base L h (restOf base h L) := by
  rintro ⟨b, o⟩ hq
  obtain ⟨c, _, hc⟩ := List.mem_filterMap.mp hq
  by_cases q : c = L
  · rw [if_pos q] at hc; cases hc
  · rw [if_neg q] at hc
    cases e : base.get? c with
    | some o' => rw [e] at hc; cases hc
    | none =>
      rw [e] at hc
      cases e2 : h.get? c with
      | none => rw [e2] at hc; cases hc
      | some o2 => rw [e2] at hc; cases hc; exact ⟨e2, q, e⟩
theorem restOf_mem {base h : Heap} {L b : Addr} {o : Obj} (e : h.get? b = some o) (hL : b ≠ L) (hb : base.get? b = none) : (b, o) ∈ restOf base h L := by
  refine List.mem_filterMap.mpr ⟨b, List.mem_range.mpr (Heap.lt_size e), ?_⟩
  rw [if_neg hL, hb, e]; rfl
theorem keep_rest {base h h' : Heap} {L : Addr} {m m' : Str → Option Value} {news : List (Addr × Obj)} (F : Fr base L h m) (F' : Fr base L h' m') (N' : News base L h' news) (hs : ∀ q ∈ restOf base h L, q ∈ news) :
    ∀ b o, b ≠ L → h.get? b = some o → h'.get? b = some o := fun b o hL e => by
  cases q : base.get? b with
  | some o' =>
    have := F.keep b o' q
    rw [e] at this
    cases this
    exact F'.keep b o q
  | none => exact (N' _ (hs _ (restOf_mem e hL q))).1
end Mine
end
section
open PySem PySem.W PyProof.Rows Mine
set_option maxRecDepth 100000
set_option maxHeartbeats 8000000
namespace Mine2
theorem kfill_ : (PySem.Challenge.rw_kl0057_02 = PySem.Challenge.rw_kl0057_02) ∧ (hd.heap_39 = hd.heap_39) := by
  k_fill
  exact ⟨rfl, rfl⟩
noncomputable abbrev prog := PySem.Challenge.rw_kl0057_02.row.prog
noncomputable abbrev p := hd.view_39
abbrev loose : List Str := [Str.ofString "islice", Str.ofString "filterfalse", Str.ofString "_dedupe"]
structure PW (w : World) (mg mb : Str → Option Value) (h : Heap) : Prop where
  K : (hd.heap_39 w.params).In h
  T : TopRead p loose mg mb h
theorem PW.keepAll {w : World} {mg mb : Str → Option Value} {h h' : Heap} (P : PW w mg mb h) (k : KeepAll h h') : PW w mg mb h' := ⟨P.K.keeps k, P.T.keeps k⟩
end Mine2
end
section
open PySem PySem.W PyProof.Rows
open Sem (wp)
set_option maxRecDepth 100000
set_option maxHeartbeats 8000000
namespace Mine
section
variable {prog : Program} {w : World}
def Since (L : Addr) (s₀ s : Shared) : Prop := ∃ h' tk, s = { s₀ with heap := h', toks := tk } ∧ ∀ b o, b ≠ L → s₀.heap.get? b = some o → h'.get? b = some o
theorem Since.refl (L : Addr) (s : Shared) : Since L s s := ⟨s.heap, s.toks, rfl, fun _ _ _ e => e⟩
theorem Since.step {L : Addr} {s₀ s : Shared} (x : Since L s₀ s) {h' : Heap} {tk : Nat} (hk : ∀ b o, b ≠ L → s.heap.get? b = some o → h'.get? b = some o) : Since L s₀ { s with heap := h', toks := tk } := by
  obtain ⟨h₁, t₁, rfl, k⟩ := x
  exact ⟨h', tk, rfl, fun b o hb e => hk b o hb (k b o hb e)⟩
def TextProto (St : Heap → Prop) (L : Addr) (xs0 : List Str) : Protocol := fun m s₀ v s kap =>
  (∃ x t, v = .str x t ∧ xs0[xs0.length - 1 - m]? = some x) ∧ Since L s₀ s ∧ (∃ o, s.heap.get? L = some o) ∧
    ∀ s'' : Shared, St s''.heap → (∀ o, s.heap.get? L = some o → s''.heap.get? L = some o) → kap (.send .none) s''
def TextEnd (L : Addr) : GenEnd := fun n s₀ r s₁ => r = .ok (.ret .none) ∧ (n = 0 ∧ Since L s₀ s₁)
theorem seg_bw {M : Model} {A : Around} {R : GenEnd} {Y : Protocol} {n : Nat} {s₀ : Shared} {c : Code} {fs : List Frame} {s : Shared} {α β : Type} {m : Sem α} {K : α → Sem β} {K' : β → Sem Fin} {H' : Value → Sem Fin} {gd lv}
    (h : wpAny M (A.over c fs) m (fun a s' => Seg M A R Y n s₀ c ((K a).wrap K' H' gd lv) fs s') (fun x s' => Seg M A R Y n s₀ c (H' x) fs s') s) : Seg M A R Y n s₀ c ((m >>= K).wrap K' H' gd lv) fs s := by
  rw [Sem.bind_eq_wrap', Sem.wrap_wrap]; exact seg_wrap h
structure YieldLoop (prog : Program) (w : World) (D U : Nat) (env : Env) (test e : Expr) (st1 : Stmt) (St : Heap → Prop) (I : Str → Heap → Prop) (more : Str → Bool) (next : Str → Str) : Prop where
  test : ∀ dp un fr gd x (s : Shared) (Q : Bool → Shared → Prop) E, dp ≤ D → un ≤ U → St s.heap → I x s.heap →
    (∀ h' tk, (∀ b o, b ≠ env.locals → s.heap.get? b = some o → h'.get? b = some o) → St h' → I x h' → Q (more x) { s with heap := h', toks := tk }) → wpAny (model prog w) (Ar dp un fr gd) (isTrue test env (eval test env)) Q E s
  val : ∀ dp un fr gd x (s : Shared) (Q : Value → Shared → Prop) E, dp ≤ D → un ≤ U → St s.heap → I x s.heap →
    (∀ h' tk t, (∀ b o, b ≠ env.locals → s.heap.get? b = some o → h'.get? b = some o) → St h' → I x h' → Q (.str x t) { s with heap := h', toks := tk }) → wpAny (model prog w) (Ar dp un fr gd) (eval e env) Q E s
  step : ∀ dp un fr gd x (s : Shared) (Q : Flow → Shared → Prop) E, dp ≤ D → un ≤ U → more x = true → St s.heap → I x s.heap →
    (∀ h' tk, (∀ b o, b ≠ env.locals → s.heap.get? b = some o → h'.get? b = some o) → St h' → I (next x) h' → Q .next { s with heap := h', toks := tk }) → wpAny (model prog w) (Ar dp un fr gd) (exec st1 env) Q E s
  frame : ∀ x h h', St h' → I x h → (∀ o, h.get? env.locals = some o → h'.get? env.locals = some o) → I x h'
  there : ∀ x h, I x h → ∃ o, h.get? env.locals = some o
  plain : env.scope.isCoroutine = false
  quiet : interactive env = false
inductive Comes (more : Str → Bool) (next : Str → Str) : Str → List Str → Prop where
  | nil {x} : more x = false → Comes more next x []
  | cons {x xs} : more x = true → Comes more next (next x) xs → Comes more next x (x :: xs)
theorem tree_turn {e : Expr} {st1 : Stmt} {env : Env} {py pe : Pos} (hco : env.scope.isCoroutine = false) (hi : interactive env = false) {K : Flow → Sem Fin} :
    (execs [.Expr (.Yield (some e) py) pe, st1] env >>= K) = (standAt pe >>= fun _ => eval e env >>= fun v => standAt py >>= fun _ => suspend v >>= fun r =>
      (match r with | .send x => pure x | .throw e => raiseThrown e) >>= fun x => dropValue (.Yield (some e) py) pe x >>= fun f => (match f with | .next => execs [st1] env | f => pure f) >>= K) := by
  have h1 : execs [.Expr (.Yield (some e) py) pe, st1] env = (exec (.Expr (.Yield (some e) py) pe) env >>= fun f => match f with | .next => execs [st1] env | f => pure f) := rfl
  have h2 : exec (.Expr (.Yield (some e) py) pe) env = (do standAt pe; let v ← eval (.Yield (some e) py) env; dropValue (.Yield (some e) py) pe v) := exec_Expr env _ _ hi rfl
  have h3 : eval (.Yield (some e) py) env = (do let v ← eval e env; standAt py; yieldOut env v) := rfl
  have h4 : ∀ v, yieldOut env v = (suspend v >>= fun r => match r with | .send x => pure x | .throw e => raiseThrown e) := fun v => by
    unfold yieldOut
    rw [hco]
    rfl
  rw [h1, h2, h3]
  simp only [h4, bind_assoc]
theorem suffix_get {xs0 xs : List Str} {x : Str} {pre : List Str} (e : xs0 = pre ++ x :: xs) : xs0[xs0.length - 1 - xs.length]? = some x := by
  subst e
  simp
theorem seg_loop {D U : Nat} {env : Env} {test e : Expr} {st1 : Stmt} {py pe : Pos} {St : Heap → Prop} {I : Str → Heap → Prop} {more : Str → Bool} {next : Str → Str}
    (Y : YieldLoop prog w (D + 1) (U + 3) env test e st1 St I more next) {xs0 : List Str} {kW : Result → Sem Fin} {hd : Option Value} {g : Bool} {l : List Value} {bodyF : List Stmt} {pW : Pos} {gdA : Option (List Code)} {frA : Option (List Env)}
    (hhd : hd = none) (hg : g = false)
    (hend : ∀ s₀ s, Since env.locals s₀ s → Seg (model prog w) (Ar D U frA gdA) (TextEnd env.locals) (TextProto St env.locals xs0) 0 s₀ (.func bodyF env) (kW (.ok .next)) [] s) :
    ∀ (xs : List Str) (x : Str) (pre : List Str) (s₀ s : Shared), Comes more next x xs → xs0 = pre ++ xs → Since env.locals s₀ s → St s.heap → I x s.heap →
      Seg (model prog w) (Ar D U frA gdA) (TextEnd env.locals) (TextProto St env.locals xs0) xs.length s₀ (.whileLoop test [.Expr (.Yield (some e) py) pe, st1] [] env)
        ((model prog w).den (.whileLoop test [.Expr (.Yield (some e) py) pe, st1] [] env)) [.ret kW hd g l (.func bodyF env) pW []] s := by
  subst hhd hg
  intro xs
  induction xs with
  | nil =>
    intro x pre s₀ s hc hx hs hst hi
    obtain hm : more x = false := by cases hc; assumption
    show Seg _ _ _ _ _ s₀ _ ((whileTurn test _ [] env).onRaise (fun x => do noteFrame x env; theTreesLotGoes x)) _ s
    unfold whileTurn
    rw [Sem.onRaise_eq_wrap]
    refine seg_bw (Y.test _ _ _ _ x s _ _ (Nat.le_refl _) (by first | exact Nat.le_refl _ | omega) hst hi fun h' tk hk hst' hi' => ?_)
    rw [hm]
    exact seg_leaf (.ok .next) (hend s₀ _ (hs.step hk))
  | cons y ys ih =>
    intro x pre s₀ s hc hx hs hst hi
    obtain ⟨rfl, hm, hc⟩ : y = x ∧ more x = true ∧ Comes more next (next x) ys := by cases hc; exact ⟨rfl, by assumption, by assumption⟩
    show Seg _ _ _ _ _ s₀ _ ((whileTurn test _ [] env).onRaise (fun x => do noteFrame x env; theTreesLotGoes x)) _ s
    unfold whileTurn
    rw [Sem.onRaise_eq_wrap]
    refine seg_bw (Y.test _ _ _ _ y s _ _ (Nat.le_refl _) (by first | exact Nat.le_refl _ | omega) hst hi fun h' tk hk hst' hi' => ?_)
    rw [hm]
    simp only [if_true]
    rw [tree_turn Y.plain Y.quiet]
    refine seg_bw (wpAny_standAt ?_)
    refine seg_bw (Y.val _ _ _ _ y _ _ _ (Nat.le_refl _) (by first | exact Nat.le_refl _ | omega) hst' hi' fun h2 tk2 t hk2 hst2 hi2 => ?_)
    refine seg_bw (wpAny_standAt ?_)
    refine seg_yield rfl rfl rfl ⟨⟨y, t, rfl, suffix_get hx⟩, (hs.step hk).step hk2, Y.there _ _ hi2, fun s'' hst3 hL => ?_⟩
    have hi3 := Y.frame _ _ _ hst3 hi2 hL
    show Seg _ _ _ _ _ s'' _ (((pure Value.none : Sem Value) >>= fun x => dropValue (.Yield (some e) py) pe x >>= fun f => (match f with | .next => execs [st1] env | f => pure f) >>= _).wrap _ _ _ _) _ s''
    refine seg_bw (wpAny_pure ?_)
    rw [dropValue_plain (fun a h => by cases h)]
    refine seg_bw (wpAny_pure ?_)
    have one : execs [st1] env = (exec st1 env >>= fun f => match f with | .next => execs [] env | f => pure f) := rfl
    show Seg _ _ _ _ _ s'' _ ((execs [st1] env >>= _).wrap _ _ _ _) _ s''
    rw [one, bind_assoc]
    refine seg_bw (Y.step _ _ _ _ y _ _ _ (Nat.le_refl _) (by first | exact Nat.le_refl _ | omega) hm hst3 hi3 fun h4 tk4 hk4 hst4 hi4 => ?_)
    show Seg _ _ _ _ _ s'' _ (((pure Flow.next : Sem Flow) >>= _).wrap _ _ _ _) _ _
    refine seg_bw (wpAny_pure ?_)
    exact seg_again rfl (ih (next y) (pre ++ [y]) s'' _ hc (by rw [hx]; simp) ((Since.refl _ _).step hk4) hst4 hi4)
theorem seg_func {D U : Nat} {env : Env} {test e : Expr} {st0 st1 : Stmt} {py pe pw : Pos} {St : Heap → Prop} {I : Str → Heap → Prop} {more : Str → Bool} {next : Str → Str}
    (Y : YieldLoop prog w (D + 1) (U + 3) env test e st1 St I more next) {xs : List Str} {x : Str} {gdA : Option (List Code)} {frA : Option (List Env)} {s₀ s : Shared}
    (hc : Comes more next x xs)
    (h0 : ∀ dp un fr gd (Q : Flow → Shared → Prop) E, dp ≤ D + 1 → un ≤ U + 3 → (∀ h' tk, (∀ b o, b ≠ env.locals → s.heap.get? b = some o → h'.get? b = some o) → St h' → I x h' → Q .next { s with heap := h', toks := tk }) → wpAny (model prog w) (Ar dp un fr gd) (exec st0 env) Q E s)
    (hs : Since env.locals s₀ s) :
    Seg (model prog w) (Ar D U frA gdA) (TextEnd env.locals) (TextProto St env.locals xs) xs.length s₀ (.func [st0, .While test [.Expr (.Yield (some e) py) pe, st1] [] pw] env)
      ((model prog w).den (.func [st0, .While test [.Expr (.Yield (some e) py) pe, st1] [] pw] env)) [] s := by
  show Seg _ _ _ _ _ s₀ _ (do point; match ← (execs [st0, .While test [.Expr (.Yield (some e) py) pe, st1] [] pw] env).onRaise (leaving env) with | .ret v => ret v | _ => ret .none) _ s
  refine seg_bind (wpAny_point ?_)
  have e1 : execs [st0, .While test [.Expr (.Yield (some e) py) pe, st1] [] pw] env = (exec st0 env >>= fun f => match f with | .next => execs [.While test [.Expr (.Yield (some e) py) pe, st1] [] pw] env | f => pure f) := rfl
  have e2 : execs [.While test [.Expr (.Yield (some e) py) pe, st1] [] pw] env = (standAt pw >>= fun _ => runOwn (.whileLoop test [.Expr (.Yield (some e) py) pe, st1] [] env) env >>= fun f => match f with | .next => execs [] env | f => pure f) := by
    have : execs [.While test [.Expr (.Yield (some e) py) pe, st1] [] pw] env = ((standAt pw >>= fun _ => runOwn (.whileLoop test [.Expr (.Yield (some e) py) pe, st1] [] env) env) >>= fun f => match f with | .next => execs [] env | f => pure f) := rfl
    rw [this, bind_assoc]
  rw [e1, Sem.onRaise_eq_wrap, Sem.bind_eq_wrap' (exec st0 env), Sem.wrap_wrap, Sem.bind_eq_wrap', Sem.wrap_wrap]
  refine seg_wrap (h0 _ _ _ _ _ _ (Nat.le_refl _) (by first | exact Nat.le_refl _ | omega) fun h' tk hk hst hi => ?_)
  dsimp only
  rw [e2, Sem.wrap_wrap]
  refine seg_bw (wpAny_standAt ?_)
  refine seg_call (h := none) (g := false) (k := _) fun pp => ?_
  refine seg_loop Y rfl rfl (fun s₁ s₂ hss => ?_) xs x [] s₀ _ hc rfl (hs.step hk) hst hi
  exact seg_end (.ok (.ret .none)) ⟨rfl, rfl, hss⟩
theorem seg_funcL {D U : Nat} {env : Env} {L : Addr} {test e : Expr} {st0 st1 : Stmt} {py pe pw : Pos} {St : Heap → Prop} {I : Str → Heap → Prop} {more : Str → Bool} {next : Str → Str}
    {xs : List Str} {x : Str} {gdA : Option (List Code)} {frA : Option (List Env)} {s₀ s : Shared}
    (hL : L = env.locals) (Y : YieldLoop prog w (D + 1) (U + 3) env test e st1 St I more next)
    (hc : Comes more next x xs)
    (h0 : ∀ dp un fr gd (Q : Flow → Shared → Prop) E, dp ≤ D + 1 → un ≤ U + 3 → (∀ h' tk, (∀ b o, b ≠ L → s.heap.get? b = some o → h'.get? b = some o) → St h' → I x h' → Q .next { s with heap := h', toks := tk }) → wpAny (model prog w) (Ar dp un fr gd) (exec st0 env) Q E s)
    (hs : Since L s₀ s) :
    Seg (model prog w) (Ar D U frA gdA) (TextEnd L) (TextProto St L xs) xs.length s₀ (.func [st0, .While test [.Expr (.Yield (some e) py) pe, st1] [] pw] env)
      ((model prog w).den (.func [st0, .While test [.Expr (.Yield (some e) py) pe, st1] [] pw] env)) [] s := by
  subst hL
  exact seg_func Y hc h0 hs
def GenText (prog : Program) (w : World) (D U : Nat) (St : Heap → Prop) (a : Addr) (g : Nat) (L : Addr) (xs0 xs : List Str) (s : Shared) : Prop :=
  s.heap.IsGen a g ∧ a ≠ L ∧ (∃ pre, xs0 = pre ++ xs) ∧ ∃ gs oL, s.gens[g]? = some gs ∧ s.heap.get? L = some oL ∧
    ∀ s'' : Shared, St s''.heap → s''.heap.get? L = some oL → gs.Goes (model prog w) (Ar D U none none).in1 (TextEnd L) (TextProto St L xs0) xs.length (.send .none) s''
theorem GenText.keeps {D U : Nat} {St : Heap → Prop} {a : Addr} {g : Nat} {L : Addr} {xs0 xs : List Str} {s s' : Shared} (G : GenText prog w D U St a g L xs0 xs s)
    (ha : ∀ o, s.heap.get? a = some o → s'.heap.get? a = some o) (hL : ∀ o, s.heap.get? L = some o → s'.heap.get? L = some o) (hg : ∀ x, s.gens[g]? = some x → s'.gens[g]? = some x) : GenText prog w D U St a g L xs0 xs s' := by
  obtain ⟨⟨o, nm, qn, ho, r⟩, h1, h2, gs, oL, h3, h4, h5⟩ := G
  exact ⟨⟨o, nm, qn, ha _ ho, r⟩, h1, h2, gs, oL, hg _ h3, hL _ h4, h5⟩
theorem setGen_other {s : Shared} {g k : Nat} {x : GenState} (h : k ≠ g) : (s.setGen g x).gens[k]? = s.gens[k]? := by simp [Shared.setGen, Ne.symm h]
theorem setGen_size {s : Shared} {g : Nat} {x : GenState} : (s.setGen g x).gens.size = s.gens.size := by simp [Shared.setGen]
theorem setGen_bare {s : Shared} {g : Nat} {x : GenState} (hx : x.bare = true) (h : AllBare s.gens) : AllBare (s.setGen g x).gens := fun y hy => by
  obtain ⟨i, hi, e⟩ := Array.mem_iff_getElem.mp hy
  have q : (s.setGen g x).gens[i]? = some y := by rw [Array.getElem?_eq_getElem hi, e]
  by_cases c : i = g
  · subst c
    have : (s.setGen i x).gens[i]? = some x := by
      rw [setGen_size] at hi
      simp [Shared.setGen, hi]
    rw [this] at q
    cases q; exact hx
  · rw [setGen_other c] at q
    exact h y (Array.mem_of_getElem? q)
theorem ext_of_since {s s₁ : Shared} {g : Nat} {L : Addr} {gs : GenState} (hb : gs.bare = true) (hs : Since L (s.setGen g .running) s₁) : Ext [] (· = L) (· = g) s (s₁.setGen g gs) := by
  obtain ⟨h', tk, rfl, hk⟩ := hs
  refine ⟨fun b o _ hw e => hk b o hw e, fun b _ hm _ _ => absurd hm (by simp), fun k hk z e => ?_, ?_, fun h => setGen_bare hb ?_, rfl⟩
  · rw [setGen_other hk]
    show (s.setGen g .running).gens[k]? = _
    rw [setGen_other hk]; exact e
  · rw [setGen_size]; show _ ≤ (s.setGen g .running).gens.size; rw [setGen_size]; exact Nat.le_refl _
  · show AllBare (s.setGen g .running).gens
    exact setGen_bare rfl h
section
variable {D U dp un : Nat} {fr : Option (List Env)} {gd : Option (List Code)} {St : Heap → Prop} {a : Addr} {g : Nat} {L : Addr} {xs0 xs : List Str} {x : Str} {s : Shared} {Q : Option Value → Shared → Prop} {E : Value → Shared → Prop}
theorem gen_wake {n : Nat} {gs : GenState} {Q : Fin → Shared → Prop} (_hst : St (s.heap)) (hlim : s.heap.NoLimit) (hD : D < recursionLimit) (hg : s.heap.IsGen a g) (hgs : s.gens[g]? = some gs)
    (hgo : gs.Goes (model prog w) (Ar D U none none).in1 (TextEnd L) (TextProto St L xs0) n (.send .none) (s.setGen g .running))
    (hY : ∀ v s₁ gs', gs'.bare = true → TextProto St L xs0 (n - 1) (s.setGen g .running) v s₁ (fun r' s'' => match n with | 0 => False | m + 1 => gs'.Goes (model prog w) (Ar D U none none).in1 (TextEnd L) (TextProto St L xs0) m r' s'') → Q (.done (.ret v)) (s₁.setGen g gs'))
    (hR : ∀ s₁, n = 0 → Since L (s.setGen g .running) s₁ → ∀ e h', Heap.NewExc s₁.heap h' e "StopIteration" → E (.ref e) { s₁.setGen g .finished with heap := h' }) :
    wpAny (model prog w) (Ar D U none none).in1 (Builtin.Generator.genWake (.ref a) (.send .none)) Q E s := by
  unfold Builtin.Generator.genWake
  refine wpAny_bind (wpAny_holding (wpAny_genNumber hg (wpAny_bind (wpAny_genState hgs ?_))))
  cases gs with
  | running => exact hgo.elim
  | finished => exact hgo.elim
  | _ =>
    refine wpAny_bind (wpAny_roomToWake hlim hD ?_)
    show wpAny _ _ (.resume g (.send .none) [] _) _ _ s
    refine wpAny_resumeQ hgs hgo (fun x s₁ hx => ?_) (fun v s₁ gs' hb hv => ?_)
    · obtain ⟨rfl, hn, hp⟩ := hx
      show wpAny _ _ (newExc (.type "StopIteration") [] >>= _) _ _ _
      refine wpAny_bind ?_
      simp only [newExc, newTuple]
      refine wpAny_bind (wpAny_newObj_type ?_ (by size_fits))
      refine wpAny_bind (m := firstArgMember _ _) (wpAny_of_eq (a := Value.none) (by first | rfl | (simp only [firstArgMember]; rfl)) ?_)
      refine wpAny_newObj_type ?_ (by size_fits)
      simp only [raiseNew]
      refine wpAny_bind (wpAny_bind (wpAny_handled ?_))
      refine wpAny_throw ?_
      refine hR s₁ hn hp _ _ ⟨fun b o e => Heap.get?_push_of_some _ (Heap.get?_push_of_some _ e), get?_size_none _ ?_, _, _, Heap.get?_push_size _ rfl, rfl, rfl⟩
      show s₁.heap.objs.size ≤ (Heap.push _ _).objs.size
      rw [Heap.size_push]; exact Nat.le_succ _
    · exact wpAny_pure (hY v s₁ gs' hb hv)
theorem gen_special (hg : s.heap.IsGen a g) {Q : Option Value → Shared → Prop}
    (h : wpAny (model prog w) (Ar D U none none).in1 (Builtin.Generator.genWake (.ref a) (.send .none)) (fun fin s' => ∃ v, fin = .done (.ret v) ∧ Q (some v) s') E s) :
    wpAny (model prog w) (Ar D U none none) (callSpecial? (.ref a) (Str.ofString "__next__")) Q E s :=
  wpAny_callSpecial?_slot (name := Str.ofString "__next__") hg.typeIs slot_gen_next (wpAny_call_entry slot_gen_next hg.typeIs entry_gen_next h (args_gen_next _))
theorem gen_next_cons (hG : GenText prog w D U St a g L xs0 (x :: xs) s) (hst : ∀ h', (∀ b o, b ≠ L → s.heap.get? b = some o → h'.get? b = some o) → St h') (hlim : s.heap.NoLimit) (hD : D < recursionLimit) (hd : dp ≤ D) (hu : un ≤ U)
    (hQ : ∀ t s', Ext [] (· = L) (· = g) s s' → GenText prog w D U St a g L xs0 xs s' → Q (some (.str x t)) s') :
    wpAny (model prog w) (Ar dp un fr gd) (callSpecial? (.ref a) (Str.ofString "__next__")) Q E s := by
  obtain ⟨hg, haL, ⟨pre, hpre⟩, gs, oL, hgs, hL, hgo⟩ := hG
  refine wpAny_up hd hu (gen_special hg (gen_wake (n := (x :: xs).length) (hst _ fun _ _ _ e => e) hlim hD hg hgs (hgo _ (hst _ fun _ _ _ e => e) hL) (fun v s₁ gs' hb hv => ?_) fun s₁ hn => absurd hn (by simp)))
  obtain ⟨⟨y, t, rfl, hy⟩, hs, ⟨oL', hoL⟩, hk⟩ := hv
  have hxy : y = x := by
    have e := suffix_get hpre
    rw [show (x :: xs).length - 1 = xs.length from rfl, e] at hy
    exact (Option.some.inj hy).symm
  subst hxy
  have hE := ext_of_since hb hs
  refine ⟨_, rfl, hQ t _ hE ?_⟩
  obtain ⟨h', tk, rfl, hkk⟩ := hs
  have hlt : g < s.gens.size := by
    rcases Nat.lt_or_ge g s.gens.size with h' | h'
    · exact h'
    · rw [Array.getElem?_eq_none h'] at hgs; cases hgs
  obtain ⟨o, nm, qn, ho, r⟩ := hg
  have hg' : h'.IsGen a g := ⟨o, nm, qn, hkk a o haL ho, r⟩
  have hoL : h'.get? L = some oL' := hoL
  refine ⟨hg', haL, ⟨pre ++ [y], by rw [hpre]; simp⟩, gs', oL', ?_, hoL, fun s'' hst'' hL'' => hk s'' hst'' fun o ho => ?_⟩
  · simp [Shared.setGen, hlt]
  · have ho' : h'.get? L = some o := ho
    rw [hoL] at ho'
    rw [← Option.some.inj ho']; exact hL''
theorem gen_next_nil (hG : GenText prog w D U St a g L xs0 [] s) (hst : ∀ h', (∀ b o, b ≠ L → s.heap.get? b = some o → h'.get? b = some o) → St h') (hlim : s.heap.NoLimit) (hD : D < recursionLimit) (hd : dp ≤ D) (hu : un ≤ U)
    (hQ : ∀ e s' h', Ext [] (· = L) (· = g) s s' → Heap.NewExc s'.heap h' e "StopIteration" → E (.ref e) { s' with heap := h' }) :
    wpAny (model prog w) (Ar dp un fr gd) (callSpecial? (.ref a) (Str.ofString "__next__")) Q E s := by
  obtain ⟨hg, haL, _, gs, oL, hgs, hL, hgo⟩ := hG
  refine wpAny_up hd hu (gen_special hg (gen_wake (n := 0) (hst _ fun _ _ _ e => e) hlim hD hg hgs (hgo _ (hst _ fun _ _ _ e => e) hL) (fun v s₁ gs' hb hv => ?_) fun s₁ _ hs e h' hx => ?_))
  · obtain ⟨⟨y, t, rfl, hy⟩, hs, ⟨oL', hoL⟩, hk⟩ := hv
    obtain ⟨h', tk, rfl, hkk⟩ := hs
    exact (hk { s.setGen g .running with heap := h', toks := tk } (hst h' hkk) fun _ e => e : False).elim
  · exact hQ e (s₁.setGen g .finished) h' (ext_of_since rfl hs) hx
end
theorem enterGen {A : Around} {R : Result → Shared → Prop} {s : Shared} {base : Heap} {name qual : Str} {params : Arguments} {body : List Stmt} {scope : Scope}
    {pm cd doc : Value} {f : Addr} {o : Obj} {args : List Value} {binds : List (Str × Value)}
    (hk : KeepAll base s.heap) (hsz : base.objs.size ≤ s.heap.objs.size)
    (hroom : A.depth < recursionLimit) (ho : s.heap.get? f = some o) (hdata : o.data = .func (fnRec name qual params body scope pm cd doc)) (hlim : s.heap.NoLimit) (hcd : s.heap.CodeRec cd qual)
    (hbind : bindArgs (fnRec name qual params body scope pm cd doc) ⟨args, []⟩ = pure binds)
    (hloc : ∀ x ∈ binds, scope.names.lookup x.1 = some .local)
    (h : ∀ L a h₁ tk, Fr base L h₁ (fun x => binds.reverse.lookup x) → KeepAll s.heap h₁ → s.heap.get? L = none → s.heap.get? a = none → a ≠ L → h₁.IsGen a s.gens.size →
      R (.ok (.ret (.ref a))) { s with heap := h₁, toks := tk, gens := s.gens.push (.fresh (.func body (envOf qual scope L f cd))) })
    (hco : scope.isCoroutine = false := by rfl) (hgen : scope.isGenerator = true := by rfl) (hk' : scope.kind = .function := by rfl)
    (hcell : ∀ x ∈ scope.names, x.2 ≠ .cell := by decide) :
    codeAny (model prog w) A (.call (.ref f) ⟨args, []⟩) R s := by
  refine codeAny_call_generator hroom ho hdata hco hgen rfl hcd ?_
  rw [hbind]
  refine wpAny_pure (wpAny_newFunctionEnv hcell hloc (fun h₁ hns hsb => ?_) hk')
  have kf : KeepAll s.heap h₁ := fun b o e => hsb.extBut b o (Nat.ne_of_lt (Heap.lt_size e)) (Heap.get?_push_of_some _ e)
  refine ⟨hlim.keeps kf, ?_⟩
  have hL := hns.lt
  have kp : KeepAll h₁ (h₁.push { cls := .type "generator", data := .fields #[.int s.gens.size 0, .str name (s.toks + binds.length), .str qual (s.toks + binds.length + 1)] }) := fun b o e => Heap.get?_push_of_some _ e
  have F : Fr base s.heap.objs.size h₁ _ := ⟨hns, fun b o e => kf _ _ (hk b o e), hsz⟩
  refine h s.heap.objs.size h₁.objs.size _ _ (Fr.keepAll F kp) (kf.trans kp) (get?_size_none _ (Nat.le_refl _)) (get?_size_none _ (Nat.le_of_lt hL)) (Nat.ne_of_gt hL) ?_
  exact ⟨_, _, _, Heap.get?_push_size _ rfl, rfl, rfl, rfl⟩
end
end Mine
end
section
open PySem PySem.W PyProof.Rows
set_option maxRecDepth 100000
set_option maxHeartbeats 8000000
namespace Mine
section
variable {M : Model} {A : Around} {E : Value → Shared → Prop} {s : Shared}
theorem note_firstW {base : Heap} {env : Env} {outer : List Env} {L e : Addr} {oe : Obj} {vs : Array Value} {a0 : Value} {Q : Unit → Shared → Prop}
    (hfr : A.frames = some (env :: outer)) (hl : s.heap.FunFrames base (env :: outer)) (hf : env.frame = some L)
    (he : s.heap.get? e = some oe) (hkb : base.StaysIn s.heap) (hen : base.get? e = none) (hd : oe.data = .fields vs) (h1 : vs[1]? = some .none) (h0 : vs[0]? = some a0)
    (h : ∀ h', Heap.NotedW base (env :: outer) e oe.cls a0 (rawInt L) s.heap h' → Q () { s with heap := h' }) : wpAny M A (noteFrame (.ref e) env) Q E s := by
  unfold noteFrame
  simp only [hf]
  refine wpAny_bind (wpAny_field he hd h1 ?_)
  rw [if_neg (by decide)]
  exact wpAny_entryW hfr hl hf he hkb hen hd (Array.getElem?_eq_some_iff.mp h1).1 h0 h
theorem raise_bare {base : Heap} {env : Env} {l : List Env} {L e : Addr} {cls a0 : Value} {pos : Pos} {Q : Flow → Shared → Prop} (hh : A.handled = some (.ref e)) (hf : env.frame = some L)
    (R : Heap.FlyingW base l e cls a0 s.heap) (h : ∀ h', Heap.HeldW base l e cls a0 L h' → s.heap.UpToSlots h' → E (.ref e) { s with heap := h' }) :
    wpAny M A (exec (.Raise none none pos) env) Q E s := by
  obtain ⟨_, _, _, oe, vs, T, oT, ts, he, hc, hd, h1, _⟩ := id R
  rw [arm_exec_Raise]
  refine wpAny_bind (wpAny_standAt ?_)
  show wpAny M A (raiseStmt env none none) Q E s
  unfold raiseStmt
  refine wpAny_bind (wpAny_handled ?_)
  rw [hh]
  dsimp only
  refine wpAny_bind (wpAny_rule ?_)
  refine wpAny_bind (wpAny_field he hd h1 ?_)
  rw [if_neg (show ¬ ((Value.ref T == Value.none) = true) from by simp)]
  rw [hf]
  refine wpAny_bind (setFlight_onW R fun h' hh hs => wpAny_throw (h h' hh hs))
theorem leaves_heldU {base : Heap} {env : Env} {outer : List Env} {L e : Addr} {cls a0 : Value} {Q : Unit → Shared → Prop} (hf : env.frame = some L)
    (hh : Heap.HeldW base (env :: outer) e cls a0 L s.heap) (hQ : ∀ h', Heap.FlyingW base outer e cls a0 h' → s.heap.UpToSlots h' → Q () { s with heap := h' }) : wpAny M A (leaving env (.ref e)) Q E s := by
  unfold leaving
  refine wpAny_bind (wpAny_noteFrame_againW hf hh.2.2.2 ?_)
  refine wpAny_landsW hh fun h' hfl hs => ?_
  obtain ⟨k1, k2, ⟨_, _, k3⟩, k4⟩ := hfl
  exact hQ h' ⟨k1, k2, k3, k4⟩ hs
theorem leaves_newU {base h : Heap} {env : Env} {outer : List Env} {L e : Addr} {cls : String} {Q : Unit → Shared → Prop}
    (hfr : A.frames = some (env :: outer)) (hf : env.frame = some L) (hkb : base.StaysIn h) (hl : h.FunFrames base (env :: outer)) (hx : Heap.NewExc h s.heap e cls)
    (hQ : ∀ a0 h', Heap.FlyingW base outer e (.type cls) a0 h' → s.heap.UpToSlots h' → Q () { s with heap := h' }) : wpAny M A (leaving env (.ref e)) Q E s := by
  obtain ⟨ob, tp, he, hcls, hd⟩ := hx.there
  have hen : base.get? e = none := by
    cases hq : base.get? e with
    | none => rfl
    | some o' => have := hkb e o' hq; rw [hx.new] at this; cases this
  refine wpAny_leaving_firstW (a0 := tp) hfr (hl.of_keeps fun b o hb _ => ⟨o, hx.keeps b o hb, rfl⟩) hf he (fun b o hb => hx.keeps b o (hkb b o hb)) hen hd rfl rfl fun h' hL => ?_
  obtain ⟨k1, ⟨_, _, k2⟩, k3, k4⟩ := hL
  exact hQ tp h' ⟨k1, hen, k2, by rw [← hcls]; exact k3⟩ k4
end
section
variable {prog : Program} {w : World} {A : Around} {E : Value → Shared → Prop} {s' : Shared}
theorem try_caught {outer : List Env} {env : Env} {L e : Addr} {B h : Heap} {t : Expr} {b₀ : Stmt} {suite : List Stmt} {pos : Pos} {rest : List ExceptHandler} {Q : Flow → Shared → Prop}
    (hfr : A.frames = some (env :: outer)) (hf : env.frame = some L) (hB : B.StaysIn h) (hl : h.FunFrames B (env :: outer)) (hx : Heap.NewExc h s'.heap e "StopIteration")
    (hname : ∀ h' (Q' : Value → Shared → Prop), B.StaysIn h' → s'.heap.UpToSlots h' → Q' (.type "BaseException") { s' with heap := h' } → wpAny (model prog w) (A.mark (some (.ref e))) (eval t env) Q' E { s' with heap := h' })
    (k : ∀ a0 h', Heap.FlyingW B (env :: outer) e (.type "StopIteration") a0 h' → s'.heap.UpToSlots h' → wpAny (model prog w) (A.mark (some (.ref e))) (execs (b₀ :: suite) env) Q E { s' with heap := h' })
    (hE : PassesOwnAt (model prog w) (A.mark (some (.ref e))) A env E := by passes_own) :
    wpAny (model prog w) A (noteFrame (.ref e) env) (fun _ s₂ => wpAny (model prog w) A (setFlight (.ref e) none) (fun _ s₃ => wpAny (model prog w) A (handleBy (.ref e) env (.ExceptHandler (some t) none (b₀ :: suite) pos :: rest)) Q E s₃) E s₂) E s' := by
  obtain ⟨ob, tp, he, hcls, hd⟩ := hx.there
  have hen : B.get? e = none := by
    cases hq : B.get? e with
    | none => rfl
    | some o' => have := hB e o' hq; rw [hx.new] at this; cases this
  refine note_firstW (a0 := tp) hfr (hl.of_keeps fun b o hb _ => ⟨o, hx.keeps b o hb, rfl⟩) hf he (fun b o hb => hx.keeps b o (hB b o hb)) hen hd rfl rfl fun h₁ hN => ?_
  obtain ⟨n1, n2, n3, n4⟩ := hN
  have H1 : Heap.HeldW B (env :: outer) e (.type "StopIteration") tp L h₁ := ⟨n1, hen, n2, by rw [← hcls]; exact n3⟩
  refine wpAny_landsW H1 fun h₂ hfl hs₂ => ?_
  have hs₂' : s'.heap.UpToSlots h₂ := Heap.UpToSlots.trans n4 hs₂
  have hT : ({ s' with heap := h₂ } : Shared).TypeIs (.ref e) "StopIteration" := hfl.there
  refine wpAny_handleBy_builtin (X := "StopIteration") (T := "BaseException") (b := true) (by rw [isSubtype_type]; kernel_rfl) (by kernel_rfl) (by rw [isSubtype_type]; kernel_rfl) (wpAny_passesOwnAt hE (hname _ _ hfl.1 hs₂' ⟨rfl, hT, ?_⟩))
  refine lands_againW hfl fun h₃ hfl₃ hs₃ => ?_
  exact wpAny_passesOwnAt hE (k _ _ hfl₃ (hs₂'.trans hs₃))
end
structure InIt (prog : Program) (w : World) (it : Addr) (base : Heap) (W : Addr → Prop) (V : Nat → Prop) (own : List Addr) (R : List Str → Shared → Prop) : Prop where
  look : ∀ xs (s : Shared), R xs s → ∃ T id, s.TypeIs (.ref it) T ∧ typeLookup (.type T) "__next__" = pure (some (.builtin id))
  cons : ∀ dp un fr gd y ys (s : Shared) (Q : Option Value → Shared → Prop) E, dp ≤ 500 → un ≤ 5000 → KeepAll base s.heap → s.heap.NoLimit → R (y :: ys) s →
    (∀ t s', Ext [] W V s s' → R ys s' → Q (some (.str y t)) s') → wpAny (model prog w) (Ar dp un fr gd) (callSpecial? (.ref it) (Str.ofString "__next__")) Q E s
  nil : ∀ dp un fr gd (s : Shared) (Q : Option Value → Shared → Prop) E, dp ≤ 500 → un ≤ 5000 → KeepAll base s.heap → s.heap.NoLimit → R [] s →
    (∀ e s' h', Ext [] W V s s' → Heap.NewExc s'.heap h' e "StopIteration" → E (.ref e) { s' with heap := h' }) → wpAny (model prog w) (Ar dp un fr gd) (callSpecial? (.ref it) (Str.ofString "__next__")) Q E s
  keeps : ∀ xs (s s' : Shared), R xs s → (∀ b ∈ own, ∀ o, s.heap.get? b = some o → s'.heap.get? b = some o) → (∀ g, V g → ∀ x, s.gens[g]? = some x → s'.gens[g]? = some x) → R xs s'
  there : ∀ xs (s : Shared), R xs s → ∀ b ∈ own, ∃ o, s.heap.get? b = some o
  sub : ∀ b, W b → b ∈ own
  itn : it ∈ own
  off : ∀ b ∈ own, base.get? b = none
structure OwnIt (prog : Program) (w : World) (x : Addr) (base : Heap) (W : Addr → Prop) (V : Nat → Prop) (own : List Addr) (R : List Str → Shared → Prop) : Prop where
  cons : ∀ dp un l gd y ys (s : Shared) (Q : Option Value → Shared → Prop) E, dp ≤ 400 → un ≤ 4000 → KeepAll base s.heap → s.heap.NoLimit → s.heap.FunFrames base l → R (y :: ys) s →
    (∀ t s', Ext [] W V s s' → R ys s' → Q (some (.str y t)) s') → wpAny (model prog w) (Ar dp un (some l) gd) (pyNext (.ref x)) Q E s
  nil : ∀ dp un l gd (s : Shared) (Q : Option Value → Shared → Prop) E, dp ≤ 400 → un ≤ 4000 → KeepAll base s.heap → s.heap.NoLimit → s.heap.FunFrames base l → (∀ f ∈ l.filterMap (·.frame), f ∉ own) → R [] s →
    (∀ s', Ext (l.filterMap (·.frame)) W V s s' → Q none s') → wpAny (model prog w) (Ar dp un (some l) gd) (pyNext (.ref x)) Q E s
  iter : ∀ dp un l gd xs (s : Shared) (Q : Value → Shared → Prop) E, dp ≤ 400 → un ≤ 4000 → KeepAll base s.heap → s.heap.NoLimit → R xs s →
    (∀ s', Ext [] NoA NoG s s' → R xs s' → Q (.ref x) s') → wpAny (model prog w) (Ar dp un (some l) gd) (pyIter (.ref x)) Q E s
  typ : ∀ xs (s : Shared) (A : Around) (Q : Value → Shared → Prop) E, KeepAll base s.heap → R xs s → (∀ T, (T == Value.type "list") = false → (T == Value.type "tuple") = false → Q T s) → wpAny (model prog w) A (typeOf (.ref x)) Q E s
  nolen : ∀ xs (s : Shared) (A : Around) (Q : Option Value → Shared → Prop) E, KeepAll base s.heap → R xs s → Q none s → wpAny (model prog w) A (specialOf (.ref x) "__len__") Q E s
  nohint : ∀ xs (s : Shared) (A : Around) (Q : Option Value → Shared → Prop) E, KeepAll base s.heap → R xs s → Q none s → wpAny (model prog w) A (specialOf (.ref x) "__length_hint__") Q E s
  keeps : ∀ xs (s s' : Shared), R xs s → (∀ b ∈ own, ∀ o, s.heap.get? b = some o → s'.heap.get? b = some o) → (∀ g, V g → ∀ x, s.gens[g]? = some x → s'.gens[g]? = some x) → R xs s'
  there : ∀ xs (s : Shared), R xs s → ∀ b ∈ own, ∃ o, s.heap.get? b = some o
  sub : ∀ b, W b → b ∈ own
  itn : x ∈ own
  off : ∀ b ∈ own, base.get? b = none
section
variable {prog : Program} {w : World} {dp un : Nat} {fr : Option (List Env)} {gd : Option (List Code)} {E : Value → Shared → Prop} {s : Shared}
  {it : Addr} {base : Heap} {W : Addr → Prop} {V : Nat → Prop} {own : List Addr} {R : List Str → Shared → Prop} {Q : Value → Shared → Prop}
theorem InIt.next_cons (I : InIt prog w it base W V own R) {y : Str} {ys : List Str} (hd : dp ≤ 500) (hu : un + 1 ≤ 5000) (hk : KeepAll base s.heap) (hl : s.heap.NoLimit) (hR : R (y :: ys) s)
    (h : ∀ t s', Ext [] W V s s' → R ys s' → Q (.str y t) s') : wpAny (model prog w) (Ar dp un fr gd) (PySem.call (.builtin "next") [.ref it]) Q E s := by
  obtain ⟨T, id, hT, hlk⟩ := I.look _ _ hR
  exact call_next (f := .builtin id) (wpAny_specialOf hT hlk ⟨rfl, rfl⟩) (I.cons dp (un + 1) fr gd y ys s _ _ hd hu hk hl hR fun t s' x r => ⟨_, rfl, h t s' x r⟩)
theorem InIt.next_nil (I : InIt prog w it base W V own R) (hd : dp ≤ 500) (hu : un + 1 ≤ 5000) (hk : KeepAll base s.heap) (hl : s.heap.NoLimit) (hR : R [] s)
    (h : ∀ e s' h', Ext [] W V s s' → Heap.NewExc s'.heap h' e "StopIteration" → E (.ref e) { s' with heap := h' }) : wpAny (model prog w) (Ar dp un fr gd) (PySem.call (.builtin "next") [.ref it]) Q E s := by
  obtain ⟨T, id, hT, hlk⟩ := I.look _ _ hR
  exact call_next (f := .builtin id) (wpAny_specialOf hT hlk ⟨rfl, rfl⟩) (I.nil dp (un + 1) fr gd s _ _ hd hu hk hl hR h)
theorem InIt.next (I : InIt prog w it base W V own R) {xs : List Str} (hd : dp ≤ 500) (hu : un + 1 ≤ 5000) (hk : KeepAll base s.heap) (hl : s.heap.NoLimit) (hR : R xs s)
    (hc : ∀ y ys, xs = y :: ys → ∀ t s', Ext [] W V s s' → R ys s' → Q (.str y t) s') (hn : xs = [] → ∀ e s' h', Ext [] W V s s' → Heap.NewExc s'.heap h' e "StopIteration" → E (.ref e) { s' with heap := h' }) :
    wpAny (model prog w) (Ar dp un fr gd) (PySem.call (.builtin "next") [.ref it]) Q E s := by
  cases xs with
  | nil => exact I.next_nil hd hu hk hl hR (hn rfl)
  | cons y ys => exact I.next_cons hd hu hk hl hR (hc y ys rfl)
theorem inIt_gen {a Lg : Addr} {g : Nat} {xs0 : List Str} {St : Heap → Prop} (hSt : ∀ h, KeepAll base h → St h) (ha : base.get? a = none) (hL : base.get? Lg = none) :
    InIt prog w a base (· = Lg) (· = g) [a, Lg] (fun xs s => GenText prog w 500 5000 St a g Lg xs0 xs s) where
  look := fun xs s G => ⟨"generator", "generator.__next__", G.1.typeIs, slot_gen_next.lookup⟩
  cons := fun dp un fr gd y ys s Q E hd hu hk hl hR hQ => gen_next_cons hR (fun h' hh => hSt _ fun b o e => hh b o (fun q => by rw [q, hL] at e; cases e) (hk b o e)) hl (by decide) hd hu hQ
  nil := fun dp un fr gd s Q E hd hu hk hl hR hQ => gen_next_nil hR (fun h' hh => hSt _ fun b o e => hh b o (fun q => by rw [q, hL] at e; cases e) (hk b o e)) hl (by decide) hd hu hQ
  keeps := fun xs s s' hR hk hg => hR.keeps (hk a (.head _)) (hk Lg (.tail _ (.head _))) (hg g rfl)
  there := fun xs s hR b hb => by
    obtain ⟨⟨o, nm, qn, ho, r⟩, h1, h2, gs, oL, h3, h4, h5⟩ := hR
    rcases List.mem_cons.mp hb with rfl | hb
    · exact ⟨_, ho⟩
    · rcases List.mem_cons.mp hb with rfl | hb
      · exact ⟨_, h4⟩
      · cases hb
  sub := fun b hb => by rw [hb]; exact .tail _ (.head _)
  itn := .head _
  off := fun b hb => by
    rcases List.mem_cons.mp hb with rfl | hb
    · exact ha
    · rcases List.mem_cons.mp hb with rfl | hb
      · exact hL
      · cases hb
end
section
variable {M : Model} {A : Around} {E : Value → Shared → Prop} {s : Shared} {K : Frag} {x C f : Addr} {ox : Obj} {od : Option Obj}
theorem own_next {Q : Option Value → Shared → Prop} (X : K.In s.heap) (I : InstAt s.heap x ox C od) (hs : findIn K (.ref C) "__next__" = some (some (.ref f))) (hf : isFn K (.ref f) = true)
    (h : wpAny M A (PySem.call (.ref f) [.ref x]) (fun v s' => Q (some v) s') (fun e s' => s'.TypeIs e "StopIteration" ∧ Q none s') s) : wpAny M A (pyNext (.ref x)) Q E s := by
  unfold pyNext
  refine wpAny_bind (wpAny_attempt (special_fn (name := "__next__") (args := []) X I hs (beq_iff_eq.mp hf) (wpAny_mono h (fun v s' hq => ?_) (fun e s' he => ?_))))
  · exact wpAny_pure hq
  · refine wpAny_bind (wpAny_isInstance (b := true) he.1 isSubtype_stop ?_)
    exact wpAny_pure he.2
theorem own_iter {g : Value} {Q : Value → Shared → Prop} (X : K.In s.heap) (I : InstAt s.heap x ox C od) (hs : findIn K (.ref C) "__iter__" = some (some (.ref f))) (hf : isFn K (.ref f) = true) (hn : findIn K (.ref C) "__next__" = some (some g))
    (h : wpAny M A (PySem.call (.ref f) [.ref x]) (fun v s' => v = .ref x ∧ K.In s'.heap ∧ (∃ ox' od', InstAt s'.heap x ox' C od') ∧ Q (.ref x) s') E s) : wpAny M A (pyIter (.ref x)) Q E s := by
  have fin : wpAny M A (PySem.call (.ref f) [.ref x] >>= fun v => pure (some v)) (fun r s' => ∃ v, r = some v ∧ OwitIt M A Q E v s') E s :=
    wpAny_bind (wpAny_mono h (fun v s' h' => wpAny_pure ⟨v, rfl, by
      obtain ⟨rfl, X', ⟨ox', od', I'⟩, hq⟩ := h'
      unfold OwitIt
      exact wpAny_bind (I'.type.here ((looks_findIn X' hn).here hq))⟩) fun _ _ z => z)
  have one : ∀ refuse : Sem Value, wpAny M A (callSpecialIfBoundUnlessNone? (.ref x) "__iter__" refuse) (fun r s' => ∃ v, r = some v ∧ OwitIt M A Q E v s') E s := by
    intro refuse
    simp only [callSpecialIfBoundUnlessNone?, bindSpecialIfBound?]
    refine wpAny_holding (wpAny_bind (wpAny_bind (wpAny_bind (I.type.here ((looks_findIn X hs).here ?_)))))
    refine wpAny_bind (wpAny_askSetting (wpAny_ite ?_))
    have fin2 : wpAny M A (if (Value.ref f == Value.none) = true then (refuse >>= fun v => pure (some v)) else (PySem.call (.ref f) [.ref x] >>= fun v => pure (some v))) (fun r s' => ∃ v, r = some v ∧ OwitIt M A Q E v s') E s := by
      rw [if_neg (show ¬ ((Value.ref f == Value.none) = true) from Bool.false_ne_true)]
      exact fin
    split
    · exact wpAny_bind ((bind_fn X _ (beq_iff_eq.mp hf)).here (wpAny_pure (by exact fin2)))
    · exact wpAny_tryCatch (wpAny_bind ((bind_fn X _ (beq_iff_eq.mp hf)).here (wpAny_pure (by exact fin2))))
  unfold pyIter
  refine wpAny_bind (wpAny_bind (I.type.here ((looks_findIn X hs).here ?_)))
  show wpAny M A (callSpecialIfBoundUnlessNone? (.ref x) "__iter__" _ >>= _) Q E s
  refine wpAny_bind (wpAny_mono (one _) (fun r s' hr => ?_) fun _ _ z => z)
  obtain ⟨v, rfl, hv⟩ := hr
  refine wpAny_bind (wpAny_mono hv (fun r s₂ hr => ?_) fun _ _ z => z)
  cases r with
  | none => exact hr.elim
  | some g => exact wpAny_pure hr
end
section
variable {prog : Program} {w : World} {base : Heap}
theorem ownIt_gen {a Lg : Addr} {g : Nat} {xs0 : List Str} {St : Heap → Prop} (hSt : ∀ h, KeepAll base h → St h) (ha : base.get? a = none) (hL : base.get? Lg = none) :
    OwnIt prog w a base (· = Lg) (· = g) [a, Lg] (fun xs s => GenText prog w 500 5000 St a g Lg xs0 xs s) where
  cons := fun dp un l gd y ys s Q E hd hu hk hl _ hR hQ => by
    unfold pyNext
    refine wpAny_bind (wpAny_attempt ((inIt_gen (w := w) hSt ha hL).cons dp un _ gd y ys s _ _ (by omega) (by omega) hk hl hR fun t s' x r => ?_))
    exact wpAny_pure (hQ t s' x r)
  nil := fun dp un l gd s Q E hd hu hk hl _ _ hR hQ => by
    unfold pyNext
    refine wpAny_bind (wpAny_attempt ((inIt_gen (w := w) hSt ha hL).nil dp un _ gd s _ _ (by omega) (by omega) hk hl hR fun e s' h' x hx => ?_))
    obtain ⟨ob, t, he, hc, _⟩ := hx.there
    refine wpAny_bind (wpAny_isInstance (T := "StopIteration") (b := true) ⟨ob, he, hc⟩ isSubtype_stop ?_)
    refine wpAny_pure (hQ _ ((x.trans (c := { s' with heap := h' }) ⟨fun b o _ _ e => hx.keeps b o e, fun b o _ _ e => ⟨o.slots, hx.keeps b o e⟩, fun _ _ _ e => e, Nat.le_refl _, fun h => h, rfl⟩).mono (fun _ h => nomatch h) (fun _ h => h) fun _ h => h))
  iter := fun dp un l gd xs s Q E hd hu hk hl hR hQ => wpAny_pyIter_gen hR.1 (hQ _ (.refl ..) hR)
  typ := fun xs s A Q E hk hR hQ => wpAny_typeOf hR.1.typeIs (hQ _ (by decide) (by decide))
  nolen := fun xs s A Q E hk hR hQ => wpAny_specialOf hR.1.typeIs F.gen_no_len hQ
  nohint := fun xs s A Q E hk hR hQ => wpAny_specialOf hR.1.typeIs F.gen_no_hint hQ
  keeps := (inIt_gen (prog := prog) (w := w) hSt ha hL).keeps
  there := (inIt_gen (prog := prog) (w := w) hSt ha hL).there
  sub := (inIt_gen (prog := prog) (w := w) (xs0 := xs0) (g := g) hSt ha hL).sub
  itn := (inIt_gen (prog := prog) (w := w) (xs0 := xs0) (g := g) hSt ha hL).itn
  off := (inIt_gen (prog := prog) (w := w) (xs0 := xs0) (g := g) hSt ha hL).off
end
end Mine
end
section
open PySem PySem.W PyProof.Rows
set_option maxRecDepth 100000
set_option maxHeartbeats 8000000
namespace Mine
def patch (S : List Addr) (b h : Heap) : Heap := { b with objs := b.objs.mapIdx fun i o => if i ∈ S then (h.objs[i]?).getD o else o }
theorem patch_size (S : List Addr) (b h : Heap) : (patch S b h).objs.size = b.objs.size := by simp [patch]
def unFreed (x : Option Obj) : Option Obj := match x with | some ⟨_, _, .freed, _⟩ => none | o => o
theorem get?_unFreed (h : Heap) (a : Addr) : h.get? a = unFreed h.objs[a]? := rfl
theorem patch_objs (S : List Addr) (b h : Heap) (a : Addr) : (patch S b h).objs[a]? = b.objs[a]?.map fun o => if a ∈ S then (h.objs[a]?).getD o else o := by
  show (b.objs.mapIdx _)[a]? = _
  rw [Array.getElem?_mapIdx]
theorem patch_off {S : List Addr} {b h : Heap} {a : Addr} (ha : a ∉ S) : (patch S b h).get? a = b.get? a := by
  rw [get?_unFreed, get?_unFreed, patch_objs]
  cases b.objs[a]? with
  | none => rfl
  | some o => simp only [Option.map_some, if_neg ha]
theorem patch_on {S : List Addr} {b h : Heap} {a : Addr} (ha : a ∈ S) (hb : a < b.objs.size) (hh : a < h.objs.size) : (patch S b h).get? a = h.get? a := by
  rw [get?_unFreed, get?_unFreed, patch_objs, Array.getElem?_eq_getElem hb, Array.getElem?_eq_getElem hh]
  simp only [Option.map_some, if_pos ha, Option.getD_some]
theorem KeepAll.patch {S : List Addr} {c b h : Heap} (k : KeepAll c b) (hS : ∀ a ∈ S, c.get? a = none) : KeepAll c (patch S b h) := fun a o e => by
  rw [patch_off fun q => by rw [hS a q] at e; cases e]
  exact k a o e
theorem Fr.patch {S : List Addr} {V : Nat → Prop} {W : Addr → Prop} {b : Heap} {L : Addr} {m : Str → Option Value} {s s' : Shared} (F : Fr b L s.heap m) (x : Ext [] W V s s') (hW : ∀ a, W a → a ∈ S) (hS : ∀ a ∈ S, ∃ o, b.get? a = some o) (hS' : ∀ a ∈ S, ∃ o, s'.heap.get? a = some o)
    : Fr (patch S b s'.heap) L s'.heap m := by
  have hL : L ∉ S := fun q => by
    obtain ⟨o, ho⟩ := hS L q
    exact Nat.lt_irrefl _ (Nat.lt_of_lt_of_le (Heap.lt_size ho) F.above)
  refine ⟨x.ns (fun q => hL (hW _ q)) F.ns, fun a o e => ?_, by rw [patch_size]; exact F.above⟩
  by_cases q : a ∈ S
  · obtain ⟨o', ho'⟩ := hS a q
    obtain ⟨o2, ho2⟩ := hS' a q
    rw [patch_on q (Heap.lt_size ho') (Heap.lt_size ho2)] at e
    exact e
  · rw [patch_off q] at e
    exact x.heap a o (by simp) (fun z => q (hW a z)) (F.keep a o e)
theorem News.patch {S : List Addr} {V : Nat → Prop} {W : Addr → Prop} {b : Heap} {L : Addr} {news : List (Addr × Obj)} {s s' : Shared} (N : News b L s.heap news) (x : Ext [] W V s s') (hW : ∀ a, W a → a ∈ S) (hS : ∀ a ∈ S, ∃ o, b.get? a = some o)
    : News (patch S b s'.heap) L s'.heap news := fun q hq => by
  obtain ⟨n1, n2, n3⟩ := N q hq
  have hqS : q.1 ∉ S := fun z => by
    obtain ⟨o', ho'⟩ := hS _ z
    rw [n3] at ho'; cases ho'
  exact ⟨x.heap _ _ (by simp) (fun z => hqS (hW _ z)) n1, n2, by rw [patch_off hqS]; exact n3⟩
def Holds (X : List Addr) (W : Addr → Prop) (h b : Heap) : Prop := ∀ a o, a ∉ X → ¬ W a → h.get? a = some o → b.get? a = some o
theorem Holds.hide {X : List Addr} {W : Addr → Prop} {h : Heap} : Holds X W h (hide X h) := fun _ _ h1 _ e => hide_some h1 e
theorem Holds.keep {X : List Addr} {W : Addr → Prop} {h b c : Heap} (x : Holds X W h b) (k : KeepAll b c) : Holds X W h c := fun a o h1 h2 e => k a o (x a o h1 h2 e)
theorem Holds.ext {X : List Addr} {W : Addr → Prop} {V : Nat → Prop} {h b : Heap} {s s' : Shared} (x : Holds X W h b) (k : KeepAll b s.heap) (y : Ext [] W V s s') : Holds X W h s'.heap := fun a o h1 h2 e => y.heap a o (by simp) h2 (k a o (x a o h1 h2 e))
theorem Holds.turn {X own : List Addr} {W : Addr → Prop} {V : Nat → Prop} {h b : Heap} {s s' : Shared} (x : Holds X W h b) (k : KeepAll b s.heap) (y : Ext [] W V s s') : Holds X W h (patch own b s'.heap) := fun a o h1 h2 e => by
  have e1 := x a o h1 h2 e
  have e2 := y.heap a o (by simp) h2 (k a o e1)
  by_cases q : a ∈ own
  · rw [patch_on q (Heap.lt_size e1) (Heap.lt_size e2)]; exact e2
  · rw [patch_off q]; exact e1
structure GExt (V : Nat → Prop) (a b : Array GenState) (oa ob : OsState) : Prop where
  gens : ∀ g, ¬ V g → ∀ x, a[g]? = some x → b[g]? = some x
  gsize : a.size ≤ b.size
  bare : AllBare a → AllBare b
  os : ob = oa
theorem GExt.refl (V : Nat → Prop) (a : Array GenState) (o : OsState) : GExt V a a o o := ⟨fun _ _ _ e => e, Nat.le_refl _, fun h => h, rfl⟩
theorem GExt.trans {V : Nat → Prop} {a b c : Array GenState} {oa ob oc : OsState} (x : GExt V a b oa ob) (y : GExt V b c ob oc) : GExt V a c oa oc := ⟨fun g hg z e => y.gens g hg z (x.gens g hg z e), Nat.le_trans x.gsize y.gsize, fun h => y.bare (x.bare h), y.os.trans x.os⟩
theorem Ext.g {S : List Addr} {W : Addr → Prop} {V : Nat → Prop} {s s' : Shared} (x : Ext S W V s s') : GExt V s.gens s'.gens s.os s'.os := ⟨x.gens, x.gsize, x.bare, x.os⟩
theorem Holds.fin {X : List Addr} {W : Addr → Prop} {V : Nat → Prop} {s s' : Shared} (x : Holds X W s.heap s'.heap) (g : GExt V s.gens s'.gens s.os s'.os) : Ext [] (fun b => b ∈ X ∨ W b) V s s' :=
  ⟨fun b o _ hw e => x b o (fun q => hw (.inl q)) (fun q => hw (.inr q)) e, fun b o hb => absurd hb (by simp), g.gens, g.gsize, g.bare, g.os⟩
theorem patch_own {own : List Addr} {b h h2 : Heap} (hk2 : KeepAll (patch own b h) h2) (hown : ∀ a ∈ own, ∃ o, b.get? a = some o) : ∀ a ∈ own, ∀ o, h.get? a = some o → h2.get? a = some o := fun a ha o e => by
  obtain ⟨o', ho'⟩ := hown a ha
  exact hk2 a o (by rw [patch_on ha (Heap.lt_size ho') (Heap.lt_size e)]; exact e)
end Mine
end
section
open PySem PySem.W PyProof.Rows
set_option maxRecDepth 100000
set_option maxHeartbeats 8000000
namespace Mine
def trunc (L : Addr) (h : Heap) : Heap := { h with objs := h.objs.extract 0 L }
theorem trunc_size (L : Addr) (h : Heap) : (trunc L h).objs.size ≤ L := by
  show (h.objs.extract 0 L).size ≤ L
  rw [Array.size_extract]; omega
theorem trunc_get {L : Addr} {h : Heap} {a : Addr} (ha : a < L) : (trunc L h).get? a = h.get? a := by
  rw [get?_unFreed, get?_unFreed]
  show unFreed (h.objs.extract 0 L)[a]? = _
  rw [Array.getElem?_extract]
  by_cases q : a < h.objs.size
  · rw [if_pos (by simp only [Nat.sub_zero]; exact Nat.lt_min.mpr ⟨ha, q⟩), Nat.zero_add]
  · rw [if_neg (by simp only [Nat.sub_zero]; exact fun z => q (Nat.lt_min.mp z).2), Array.getElem?_eq_none (Nat.le_of_not_lt q)]
theorem trunc_keep {L : Addr} {h : Heap} : KeepAll (trunc L h) h := fun b o e => by
  by_cases q : b < L
  · rw [trunc_get q] at e; exact e
  · have : (trunc L h).objs.size ≤ b := Nat.le_trans (trunc_size L h) (Nat.le_of_not_lt q)
    rw [get?_size_none _ this] at e; cases e
theorem ff_of {h B h' B' : Heap} : ∀ {l : List Env}, h.FunFrames B l → (∀ b ∈ l.filterMap (·.frame), ∀ o, h.get? b = some o → (∀ vs, o.data ≠ .fields vs) → ∃ o', h'.get? b = some o' ∧ o'.data = o.data) →
    (∀ b ∈ l.filterMap (·.frame), B'.get? b = none) → h'.FunFrames B' l
  | [], _, _, _ => trivial
  | env :: l, ⟨hk, ⟨L, o, hf, hn, ho, hd⟩, hr⟩, k, n => by
    have m : ∀ b ∈ l.filterMap (·.frame), b ∈ (env :: l).filterMap (·.frame) := fun b hb => by
      rw [List.filterMap_cons, hf]; exact .tail _ hb
    have m0 : L ∈ (env :: l).filterMap (·.frame) := by rw [List.filterMap_cons, hf]; exact .head _
    obtain ⟨o', ho', hd'⟩ := k L m0 o ho hd
    exact ⟨hk, ⟨L, o', hf, n L m0, ho', fun vs => hd' ▸ hd vs⟩, ff_of hr (fun b hb => k b (m b hb)) fun b hb => n b (m b hb)⟩
abbrev frs (l : List Env) : List Addr := l.filterMap (·.frame)
structure Exc (e T : Addr) (oe oT : Obj) : Prop where
  ne : T ≠ e
  cls : oe.cls = .type "StopIteration"
  dat : ∃ vs ts, oe.data = .fields vs ∧ vs[1]? = some (.ref T) ∧ oT.data = .fields ts ∧ ts[3]? = some .none ∧ ∃ a0, vs[0]? = some a0
theorem Exc.fly {e T L : Addr} {oe oT : Obj} {b B h : Heap} {env : Env} {l : List Env} {news : List (Addr × Obj)} {m : Str → Option Value} (x : Exc e T oe oT) (F : Fr b L h m) (N : News b L h news) (h1 : (e, oe) ∈ news) (h2 : (T, oT) ∈ news)
    (hBb : KeepAll B b) (hL : B.get? L = none) (hf : env.frame = some L) (hk : env.scope.kind ≠ .module) (hl : h.FunFrames B l) :
    ∃ a0, Heap.FlyingW B (env :: l) e (.type "StopIteration") a0 h := by
  obtain ⟨ne, hc, vs, ts, hd, hv1, hdT, h3, a0, hv0⟩ := x
  have he := N _ h1
  have hT := N _ h2
  exact ⟨a0, fun b o z => F.keep b o (hBb b o z), hBb.none_of he.2.2, Heap.FunFrames.cons hk hf F.ns hL hl, oe, vs, T, oT, ts, he.1, ⟨hc, hv0⟩, hd, hv1, hBb.none_of hT.2.2, ne, hT.1, hdT, h3⟩
section
variable {prog : Program} {w : World} {A : Around} {E : Value → Shared → Prop} {s' : Shared}
theorem catch_here {env : Env} {l : List Env} {L e : Addr} {b2 Bl : Heap} {h' : Heap} {m : Str → Option Value} {news : List (Addr × Obj)} {t : Expr} {b₀ : Stmt} {suite : List Stmt} {pos : Pos} {rest : List ExceptHandler} {Q : Flow → Shared → Prop}
    (hfr : A.frames = some (env :: l)) (hf : env.frame = some L) (hkind : env.scope.kind ≠ .module) (F : Fr b2 L s'.heap m) (hl : s'.heap.FunFrames Bl l) (hll : ∀ f ∈ frs l, f < L)
    (hN : ∀ q ∈ news, s'.heap.get? q.1 = some q.2 ∧ q.1 < L ∧ q.1 ∉ frs l) (hx : Heap.NewExc s'.heap h' e "StopIteration")
    (hname : ∀ h'' (Q' : Value → Shared → Prop), (hide (L :: frs l) s'.heap).StaysIn h'' → s'.heap.UpToSlots h'' → Q' (.type "BaseException") { s' with heap := h'' } → wpAny (model prog w) (A.mark (some (.ref e))) (eval t env) Q' E { s' with heap := h'' })
    (k : ∀ T oe oT b3 h'', Fr b3 L h'' m → News b3 L h'' (news ++ [(e, oe), (T, oT)]) → Exc e T oe oT → (∀ b o, b < L → b ∉ frs l → b ∉ news.map (·.1) → s'.heap.get? b = some o → b3.get? b = some o) →
      (∀ b ∈ frs l, ∀ o, s'.heap.get? b = some o → ∃ sl, b3.get? b = some { o with slots := sl }) → (∀ q ∈ news, q.1 ≠ e ∧ q.1 ≠ T) →
      wpAny (model prog w) (A.mark (some (.ref e))) (execs (b₀ :: suite) env) Q E { s' with heap := h'' })
    (hE : PassesOwnAt (model prog w) (A.mark (some (.ref e))) A env E := by passes_own) :
    wpAny (model prog w) A (noteFrame (.ref e) env) (fun _ s₂ => wpAny (model prog w) A (setFlight (.ref e) none) (fun _ s₃ => wpAny (model prog w) A (handleBy (.ref e) env (.ExceptHandler (some t) none (b₀ :: suite) pos :: rest)) Q E s₃) E s₂) E { s' with heap := h' } := by
  have hL : ∀ b ∈ frs l, b ∈ L :: frs l := fun b hb => .tail _ hb
  have up0 : s'.heap.UpToSlots h' := Heap.UpToSlots.of_keeps hx.keeps
  refine try_caught (B := hide (L :: frs l) s'.heap) (h := s'.heap) hfr hf (hide_keep _ _) (Heap.FunFrames.cons hkind hf F.ns (hide_none (.head _)) (ff_of hl (fun b _ o e _ => ⟨o, e, rfl⟩) fun b hb => hide_none (hL b hb))) hx
    (fun h'' Q' hs hu hq => hname h'' Q' hs (up0.trans hu) hq) (fun a0 h'' hfly hup => ?_) hE
  obtain ⟨f1, f2, f3, oe, vs, T, oT, ts, he, ⟨hc, h0⟩, hd, h1, hnT, hTe, hT, hdT, h3⟩ := hfly
  have up : s'.heap.UpToSlots h'' := up0.trans hup
  have ns : h''.Ns L m := up.ns F.ns
  have TL : T ≠ L := by
    rintro rfl
    obtain ⟨o, es, ep, ho, hd', _⟩ := ns
    rw [hT] at ho; cases ho; rw [hdT] at hd'; cases hd'
  have eL : e ≠ L := by
    rintro rfl
    obtain ⟨o, es, ep, ho, hd', _⟩ := F.ns
    rw [hx.new] at ho; cases ho
  have fe : ∀ b ∈ frs l, b ≠ e := fun b hb q => by
    obtain ⟨_, o, ho, _⟩ := hl.mem hb
    rw [q, hx.new] at ho; cases ho
  have fT : ∀ b ∈ frs l, b ≠ T := fun b hb q => by
    obtain ⟨_, o, ho, hdo⟩ := hl.mem hb
    obtain ⟨sl, hs⟩ := up b o ho hdo
    rw [q, hT] at hs
    have := Option.some.inj hs
    rw [this] at hdT
    exact hdo _ hdT
  have ne : ∀ q ∈ news, q.1 ≠ e := fun q hq z => by
    have := (hN q hq).1
    rw [z, hx.new] at this; cases this
  have nT : ∀ q ∈ news, q.1 ≠ T := fun q hq z => by
    obtain ⟨n1, n2, n3⟩ := hN q hq
    have : (hide (L :: frs l) s'.heap).get? q.1 = some q.2 := hide_some (by
      simp only [List.mem_cons, not_or]; exact ⟨Nat.ne_of_lt n2, n3⟩) n1
    rw [z, hnT] at this; cases this
  have keep : ∀ b o, b < L → b ∉ frs l → s'.heap.get? b = some o → h''.get? b = some o := fun b o h1 h2 e0 =>
    f1 b o (hide_some (by simp only [List.mem_cons, not_or]; exact ⟨Nat.ne_of_lt h1, h2⟩) e0)
  have notin : ∀ b o, b < L → b ∉ frs l → b ∉ news.map (·.1) → s'.heap.get? b = some o → b ∉ e :: T :: news.map (·.1) := fun b o h1 h2 h3 e0 => by
    simp only [List.mem_cons, not_or]
    refine ⟨fun q => ?_, fun q => ?_, h3⟩
    · rw [q, hx.new] at e0; cases e0
    · have : (hide (L :: frs l) s'.heap).get? b = some o := hide_some (by simp only [List.mem_cons, not_or]; exact ⟨Nat.ne_of_lt h1, h2⟩) e0
      rw [q, hnT] at this; cases this
  refine k T oe oT (trunc L (hide (e :: T :: news.map (·.1)) h'')) h'' ⟨ns, fun b o z => hide_keep _ _ b o (trunc_keep b o z), trunc_size _ _⟩ ?_ ⟨hTe, hc, vs, ts, hd, h1, hdT, h3, a0, h0⟩ ?_ ?_ fun q hq => ⟨ne q hq, nT q hq⟩
  · have nn : ∀ b ∈ e :: T :: news.map (·.1), (trunc L (hide (e :: T :: news.map (·.1)) h'')).get? b = none := fun b hb => trunc_keep.none_of (hide_none hb)
    intro q hq
    rcases List.mem_append.mp hq with hq | hq
    · obtain ⟨n1, n2, n3⟩ := hN q hq
      exact ⟨keep _ _ n2 n3 n1, Nat.ne_of_lt n2, nn _ (.tail _ (.tail _ (List.mem_map_of_mem hq)))⟩
    · rcases List.mem_cons.mp hq with rfl | hq
      · exact ⟨he, eL, nn _ (.head _)⟩
      · rcases List.mem_cons.mp hq with rfl | hq
        · exact ⟨hT, TL, nn _ (.tail _ (.head _))⟩
        · cases hq
  · intro b o hb hbf hbn e0
    rw [trunc_get hb]
    exact hide_some (notin b o hb hbf hbn e0) (keep b o hb hbf e0)
  · intro b hb o e0
    obtain ⟨_, o', ho', hdo⟩ := hl.mem hb
    rw [e0] at ho'; cases ho'
    obtain ⟨sl, hs⟩ := up b o e0 hdo
    refine ⟨sl, ?_⟩
    rw [trunc_get (hll b hb)]
    refine hide_some ?_ hs
    simp only [List.mem_cons, not_or]
    refine ⟨fe b hb, fT b hb, fun q => ?_⟩
    obtain ⟨q', hq', e'⟩ := List.mem_map.mp q
    exact (hN q' hq').2.2 (e' ▸ hb)
theorem raise_out {A' : Around} {env : Env} {l : List Env} {L e T : Addr} {oe oT : Obj} {b3 : Heap} {m : Str → Option Value} {news : List (Addr × Obj)} {pos : Pos} {Q : Flow → Shared → Prop} {R : Value → Shared → Prop} {E' : Value → Shared → Prop}
    (hh : A.handled = some (.ref e)) (hf : env.frame = some L) (hkind : env.scope.kind ≠ .module) (F : Fr b3 L s'.heap m) (N : News b3 L s'.heap news) (h1 : (e, oe) ∈ news) (h2 : (T, oT) ∈ news) (x : Exc e T oe oT)
    (hl : s'.heap.FunFrames (hide (frs l) b3) l)
    (hR : ∀ h', (hide (frs l) b3).StaysIn h' → s'.heap.UpToSlots h' → ({ s' with heap := h' } : Shared).TypeIs (.ref e) "StopIteration" → R (.ref e) { s' with heap := h' }) :
    wpAny (model prog w) A (exec (.Raise none none pos) env) Q (fun e s' => wpAny (model prog w) A' (leaving env e) (fun _ s'' => R e s'') E' s') s' := by
  obtain ⟨a0, fly⟩ := x.fly (B := hide (frs l) b3) (env := env) (l := l) F N h1 h2 (hide_keep _ _) ((hide_keep _ _).none_of (by
    cases q : b3.get? L with
    | none => rfl
    | some o => exact absurd (Heap.lt_size q) (Nat.not_lt_of_le F.above))) hf hkind hl
  exact raise_bare hh hf fly fun h1 H1 u1 => leaves_heldU hf H1 fun h2 f2 u2 => hR h2 f2.1 (u1.trans u2) f2.there
end
theorem ext_raise {l : List Env} {X : List Addr} {W : Addr → Prop} {V : Nat → Prop} {s s' : Shared} {base h4 h5 b3 : Heap} {L : Addr} {tk : Nat} (H : Holds X W s.heap s'.heap) (hsL : s.heap.objs.size ≤ L) (hl : s.heap.FunFrames base l)
    (hfX : ∀ f ∈ frs l, f ∉ X ∧ ¬ W f) (hb : ∀ b o, b < L → b ∉ frs l → b ∉ X → s'.heap.get? b = some o → b3.get? b = some o)
    (hf3 : ∀ b ∈ frs l, ∀ o, s'.heap.get? b = some o → ∃ sl, b3.get? b = some { o with slots := sl }) (k4 : KeepAll b3 h4) (hst : (hide (frs l) b3).StaysIn h5) (hu : h4.UpToSlots h5)
    (g : GExt V s.gens s'.gens s.os s'.os) : Ext (frs l) (fun b => b ∈ X ∨ W b) V s { s' with heap := h5, toks := tk } := by
  refine ⟨fun b o hbf hw e => ?_, fun b o hbf hw e => ?_, g.gens, g.gsize, g.bare, g.os⟩
  · exact hst b o (hide_some hbf (hb b o (Nat.lt_of_lt_of_le (Heap.lt_size e) hsL) hbf (fun q => hw (.inl q)) (H b o (fun q => hw (.inl q)) (fun q => hw (.inr q)) e)))
  · obtain ⟨_, o', ho', hdo⟩ := hl.mem hbf
    rw [e] at ho'; cases ho'
    obtain ⟨sl, h3⟩ := hf3 b hbf o (H b o (hfX b hbf).1 (hfX b hbf).2 e)
    obtain ⟨sl', h5'⟩ := hu b _ (k4 _ _ h3) hdo
    exact ⟨sl', h5'⟩
theorem ff_keep {l : List Env} {X : List Addr} {W : Addr → Prop} {base h h' : Heap} (H : Holds X W h h') (hl : h.FunFrames base l) (hfX : ∀ f ∈ frs l, f ∉ X ∧ ¬ W f) : h'.FunFrames base l :=
  ff_of hl (fun b hb o e _ => ⟨o, H b o (hfX b hb).1 (hfX b hb).2 e, rfl⟩) fun _ hb => (hl.mem hb).1
theorem ff_lt {l : List Env} {base h : Heap} {L : Addr} (hl : h.FunFrames base l) (hL : h.objs.size ≤ L) : ∀ f ∈ frs l, f < L := fun f hf => by
  obtain ⟨_, o, ho, _⟩ := hl.mem hf
  exact Nat.lt_of_lt_of_le (Heap.lt_size ho) hL
theorem fr_zero {b : Heap} {L : Addr} {m : Str → Option Value} {s s' : Shared} {own : List Addr} {W : Addr → Prop} {V : Nat → Prop} (F : Fr b L s.heap m) (x : Ext [] W V s s') (hW : ∀ a, W a → a ∈ own) (hown : ∀ a ∈ own, ∃ o, b.get? a = some o) : Fr (trunc 0 s'.heap) L s'.heap m :=
  ⟨x.ns (fun q => by
    obtain ⟨o, ho⟩ := hown L (hW L q)
    exact Nat.lt_irrefl _ (Nat.lt_of_lt_of_le (Heap.lt_size ho) F.above)) F.ns, trunc_keep, Nat.le_trans (trunc_size 0 _) (Nat.zero_le _)⟩
end Mine
end
section
open PySem PySem.W PyProof.Rows PySem.Builtin PySem.Builtin.ObjectAttr
set_option maxRecDepth 100000
set_option maxHeartbeats 8000000
namespace Mine
theorem entry_set_ga : entryFor table "set.__getattribute__" = some Builtin.«object.__getattribute__» :=
  entryFor_alias (id' := "object.__getattribute__") (by kernel_rfl) rfl (by decide +kernel) (by kernel_rfl)
theorem slot_md_get : Slot "method_descriptor" "__get__" "method_descriptor.__get__" :=
  .of (owner := "method_descriptor") (n := "__get__") (by rw [typeLookup_type, builtinLookup_eq_fast]; kernel_rfl) (by decide +kernel) (by decide +kernel) (by decide +kernel)
    (by first | exact .inl (by decide +kernel) | exact .inr (by decide +kernel)) (by rw [isSubtype_type]; kernel_rfl)
theorem entry_md_get : entryFor table "method_descriptor.__get__" = some Builtin.«method_descriptor.__get__» := entryFor_of_tree (by kernel_rfl)
theorem args_md_get (a b c : Value) : argsOk "method_descriptor.__get__" ⟨[a, b, c], []⟩ := by unfold argsOk; kernel_rfl
theorem lk_md_set : typeLookup (.type "method_descriptor") "__set__" = pure none := by rw [typeLookup_type, builtinLookup_eq_fast]; kernel_rfl
theorem lk_md_delete : typeLookup (.type "method_descriptor") "__delete__" = pure none := by rw [typeLookup_type, builtinLookup_eq_fast]; kernel_rfl
section
variable {prog : Program} {w : World} {A : Around} {E : Value → Shared → Prop} {s : Shared}
theorem getAttr_contains {S : Addr} {o : Obj} {es : Array (Int × Value)} {ep : Nat} {tb : SetTable} {Q : Value → Shared → Prop} (hS : s.heap.get? S = some o) (hex : o.ExactSet) (hd : o.data = .set es ep tb)
    (h : Q (.ref s.heap.objs.size) { s with heap := s.heap.push { cls := .type "builtin_function_or_method", data := .fields #[.builtin "set.__contains__", .ref S] }, toks := s.toks + 1 }) :
    wpAny (model prog w) A (getAttr (.ref S) "__contains__" true) Q E s := by
  obtain ⟨hc, hdi, hsl⟩ := hex
  obtain ⟨hp, g, d, tk, os⟩ := s
  have hT : ∀ k, ({ heap := hp, gens := g, drawn := d, toks := k, os := os } : Shared).TypeIs (.ref S) "set" := fun k => ⟨o, hS, hc⟩
  have h1 := F.slot_set_getattribute.lookup
  have h2 := F.slot_set_contains.lookup
  have h3 := F.slot_set_getattribute.bind (.ref S)
  have h4 := F.type_set_contains
  have h5 := slot_md_get.lookup
  have h6 := lk_md_set
  have h7 := lk_md_delete
  unfold getAttr getAttrBy getAttrByItsOwn hookBefore callGetattribute boundAndCalled
  repeat (first | (with_reducible refine wpAny_loadPart_at hS ?_; rw [hc]) | (rw [h1]) | wp_step)
  refine codeAny_call_builtin F.slot_set_getattribute.plain entry_set_ga (F.slot_set_getattribute.check _ _ _ _ _ _ _ _ (hT _) (F.args_set_getattribute_2 _ _) ?_)
  unfold Builtin.«object.__getattribute__» slotArgs
  repeat (first | (with_reducible refine wpAny_loadPart_at hS ?_; rw [hc]) | (rw [h2]) | (rw [h4]) | (rw [h5]) | (rw [h6]) | (rw [h7]) | wp_step)
  rw [hd]
  dsimp only
  unfold instanceDict
  repeat (first | (with_reducible refine wpAny_loadPart_at hS ?_; rw [hc]) | (rw [hdi]) | wp_step)
  refine codeAny_call_builtin slot_md_get.plain entry_md_get (slot_md_get.check _ _ _ _ _ _ _ _ F.type_set_contains (args_md_get _ _ _) ?_)
  unfold Builtin.«method_descriptor.__get__»
  refine wpAny_bind (wpAny_of_eq (a := (.builtin "set.__contains__", some (.ref S), some (.type "set"))) (by first | rfl | kernel_rfl) ?_)
  dsimp only
  rw [if_neg (by decide +kernel)]
  refine wpAny_bind (wpAny_bind (wpAny_of_eq (a := ((Str.ofString "__contains__"), Value.type "set")) (by first | rfl | kernel_rfl) ?_))
  dsimp only
  refine wpAny_bind (wpAny_isInstance (hT _) (b := true) sub_set_self ?_)
  rw [if_neg (by decide)]
  refine wpAny_pure ?_
  refine wpAny_bind (wpAny_newObj_type ?_)
  refine wpAny_pure ?_
  dsimp only
  refine wpAny_pure ?_
  dsimp only
  exact wpAny_pure h
end
end Mine
end
section
open PySem PySem.W PyProof.Rows PySem.Builtin PySem.Builtin.ObjectAttr
set_option maxRecDepth 100000
set_option maxHeartbeats 8000000
namespace Mine
theorem sub_set_module : isSubtype (.type "set") (.type "module") = pure false := by rw [isSubtype_type]; kernel_rfl
theorem sig_sc : Manifest.signature? "set.__contains__" = some ⟨.oneArg, "set.__contains__", "__contains__", .self, [⟨"object", .posOnly, true⟩]⟩ := by kernel_rfl
theorem kind_sc : builtinKind "set.__contains__" = some .method := by decide +kernel
abbrev boundSet (S : Addr) : Obj := { cls := .type "builtin_function_or_method", data := .fields #[.builtin "set.__contains__", .ref S] }
section
variable {prog : Program} {w : World} {A : Around} {E : Value → Shared → Prop} {s : Shared}
theorem check_bound_contains {M : Model} {S : Addr} {v : Value} {Q : Unit → Shared → Prop} {o : Obj} {es : Array (Int × Value)} {ep : Nat} {tb : SetTable} (hS : s.heap.get? S = some o) (hex : o.ExactSet) (hd : o.data = .set es ep tb) (hQ : Q () s) :
    wpAny M A (checkBoundCall "set.__contains__" ⟨[.ref S, v], []⟩) Q E s := by
  obtain ⟨hc, hdi, hsl⟩ := hex
  obtain ⟨hp, g, d, tk, os⟩ := s
  have hT : ({ heap := hp, gens := g, drawn := d, toks := tk, os := os } : Shared).TypeIs (.ref S) "set" := ⟨o, hS, hc⟩
  simp only [checkBoundCall, sig_sc, kind_sc]
  rw [if_neg (by decide)]
  refine wpAny_bind (wpAny_isInstance hT (b := false) sub_set_module ?_)
  rw [if_neg (by decide +kernel)]
  refine wpAny_bind ?_
  simp only [isType]
  repeat (first | (with_reducible refine wpAny_loadPart_at hS ?_; rw [hc]) | wp_step)
  exact hQ
theorem call_boundSet {q S : Addr} {y : Str} {t : Tok} {Sm : Str → Bool} {n : Nat} {Q : Value → Shared → Prop} (hq : s.heap.get? q = some (boundSet S)) (hS : s.heap.SetOf (strKind prog w) S Sm n)
    (h : Q (.bool (Sm y)) { s with toks := s.toks + 1 }) : wpAny (model prog w) A (PySem.call (.ref q) [.str y t]) Q E s := by
  obtain ⟨o, es, ep, tb, ho, hex, hd, _⟩ := id hS
  obtain ⟨hh, g, dr, tk, os⟩ := s
  refine wpAny_call (codeAny_of_tree ?_)
  show wpAny _ _ (callAny (.ref q) _) _ _ _
  dsimp only at hq
  refine nd_load hq ?_
  refine wpAny_bind (wpAny_pure ?_)
  dsimp only
  rw [if_pos (by decide +kernel)]
  simp only [List.getElem?_toArray, List.getElem?_cons_zero, List.getElem?_cons_succ]
  rw [if_pos (by decide +kernel)]
  refine wpAny_bind (check_bound_contains ho hex hd ?_)
  refine wpAny_pure ⟨plainId_quiet (by decide +kernel) _, codeAny_builtin entry_set_contains ?_⟩
  rw [Around.under_plainId (by decide +kernel) _]
  unfold Builtin.«frozenset.__contains__» Builtin.Frozenset.oneOther
  simp only [List.isEmpty_nil, bind_assoc]
  unfold Builtin.Frozenset.addrOf Builtin.Frozenset.withSetAsKey setContains
  refine wpAny_bind (wpAny_pure ?_)
  try dsimp only
  refine wpAny_bind (wpAny_pure ?_)
  try dsimp only
  refine wpAny_bind (wpAny_tryCatch ?_)
  refine wpAny_holding ?_
  refine wpAny_bind ((strKind prog w).pyHash (strKind_is _ _ _ _) ?_)
  refine wpAny_bind (wpAny_setFind_of (knd := strKind prog w) (strKind_is _ _ _ _) rfl hS fun r hr => ?_)
  refine wpAny_pure ?_
  show wpAny _ _ (ret (Value.bool r.isSome)) _ _ _
  rw [hr]
  exact wpAny_pure h
end
end Mine
end
section
open PySem PySem.W PyProof.Rows PySem.Builtin PySem.Builtin.ObjectAttr
set_option maxRecDepth 100000
set_option maxHeartbeats 8000000
namespace Mine
structure Both (P T : Prop) : Prop where
  one : P
  two : T
structure Box (P : Prop) : Prop where
  out : P
abbrev boundOf (vs : Array Value) : Obj := { cls := .type "builtin_function_or_method", data := .fields vs }
section
variable {M : Model} {A : Around} {E : Value → Shared → Prop} {s : Shared}
theorem callWith_boundB {pos : Pos} {u : Addr} {vs : Array Value} {first : List Value} {env : Env} {e : Expr} {rest : List Expr} {Q : Value → Shared → Prop}
    (h : wpAny M A (spliced (backTo pos (starEach (e :: rest) env))) (fun xs s₁ => Both (s₁.heap.get? u = some (boundOf vs)) (wpAny M A (PySem.call (.ref u) (first ++ xs)) Q E s₁)) E s)
    (he : starEach (e :: rest) env = (false, eval e env) :: starEach rest env := by rfl) (hplain : (backTo pos (starEach rest env)).any (·.1) = false := by rfl) :
    wpAny M A (callWith pos (.ref u) first (backTo pos (starEach (e :: rest) env)) []) Q E s := by
  rw [he] at h ⊢
  have hp : (backTo pos ((false, eval e env) :: starEach rest env)).any (·.1) = false := by show (false || (backTo pos (starEach rest env)).any (·.1)) = false; rw [hplain]; rfl
  unfold callWith
  refine wpAny_bind (wpAny_holding (wpAny_mono (Calls.evalArgs_plain h : wpAny M A (evalArgs (.ref u) true _ []) (fun x s₁ => Both (s₁.heap.get? u = some (boundOf vs)) (wpAny M A (PySem.call (.ref u) (first ++ x.pos) x.kw) Q E s₁)) E s) (fun x s₁ h₁ => wpAny_bind (wpAny_standAt ?_)) fun _ _ x => x))
  obtain ⟨ho, hcall⟩ := h₁
  simp only [hp, List.any_nil, Bool.or_false]
  refine wpAny_bind (m := keeperOf (.ref u)) ?_
  unfold keeperOf
  refine wpAny_bind (wpAny_load ho ?_)
  simp only [show (Value.type "builtin_function_or_method" != Value.type "method") = true by decide, show (Value.type "builtin_function_or_method" == Value.type "builtin_function_or_method" || Value.type "builtin_function_or_method" == Value.type "method-wrapper") = true by decide, if_true]
  refine wpAny_pure ?_
  exact wpAny_bind (wpAny_mono hcall (fun r s₂ hr => wpAny_bind (wpAny_holding (wpAny_point (wpAny_pure hr)))) fun _ _ x => x)
end
theorem setOf_keep {prog : Program} {w : World} {K : Type} [DecidableEq K] {knd : KeyKind prog w K} {h h' : Heap} {a : Addr} {S : K → Bool} {n : Nat} (x : h.SetOf knd a S n) (k : KeepAll h h') : h'.SetOf knd a S n :=
  let ⟨o, es, ep, t, ho, rest⟩ := x; ⟨o, es, ep, t, k _ _ ho, rest⟩
end Mine
end
section
open PySem PySem.W PyProof.Rows
set_option maxRecDepth 100000
set_option maxHeartbeats 8000000
namespace Mine
def overlay (C : List Addr) (b h : Heap) : Heap := { h with objs := h.objs.mapIdx fun i o => if i ∈ C then o else (b.get? i).getD { o with data := .freed } }
theorem overlay_objs (C : List Addr) (b h : Heap) (a : Addr) : (overlay C b h).objs[a]? = h.objs[a]?.map fun o => if a ∈ C then o else (b.get? a).getD { o with data := .freed } := by
  show (h.objs.mapIdx _)[a]? = _
  rw [Array.getElem?_mapIdx]
theorem overlay_on {C : List Addr} {b h : Heap} {a : Addr} (ha : a ∈ C) : (overlay C b h).get? a = h.get? a := by
  rw [get?_unFreed, get?_unFreed, overlay_objs]
  cases h.objs[a]? with
  | none => rfl
  | some o => simp only [Option.map_some, if_pos ha]
theorem unFreed_get (h : Heap) (a : Addr) (o : Obj) (e : h.get? a = some o) : unFreed (some o) = some o := by
  have e2 := e
  rw [get?_unFreed] at e2
  cases q : h.objs[a]? with
  | none => rw [q] at e2; cases e2
  | some o' =>
    rw [q] at e2
    have : o' = o := by
      obtain ⟨c, d, dt, sl⟩ := o'
      cases dt <;> first | exact Option.some.inj e2 | cases e2
    rw [this] at e2; exact e2
theorem overlay_off {C : List Addr} {b h : Heap} {a : Addr} (ha : a ∉ C) (k : KeepAll b h) : (overlay C b h).get? a = b.get? a := by
  rw [get?_unFreed, overlay_objs]
  by_cases q : a < h.objs.size
  · rw [Array.getElem?_eq_getElem q]
    simp only [Option.map_some, if_neg ha]
    cases e : b.get? a with
    | none => rfl
    | some o => exact unFreed_get b a o e
  · rw [Array.getElem?_eq_none (Nat.le_of_not_lt q)]
    cases e : b.get? a with
    | none => rfl
    | some o => exact absurd (Heap.lt_size (k a o e)) q
theorem overlay_keep {C : List Addr} {b h : Heap} (k : KeepAll b h) : KeepAll (overlay C b h) h := fun a o e => by
  by_cases q : a ∈ C
  · rw [overlay_on q] at e; exact e
  · rw [overlay_off q k] at e; exact k a o e
theorem keep_overlay {C : List Addr} {b h : Heap} (hC : ∀ a ∈ C, b.get? a = none) (k : KeepAll b h) : KeepAll b (overlay C b h) := fun a o e => by
  rw [overlay_off (fun q => by rw [hC a q] at e; cases e) k]; exact e
section
variable {prog : Program} {w : World}
theorem InIt.up {it : Addr} {base be : Heap} {W : Addr → Prop} {V : Nat → Prop} {own : List Addr} {R : List Str → Shared → Prop} (I : InIt prog w it base W V own R) (k : KeepAll base be) (ho : ∀ b ∈ own, be.get? b = none) : InIt prog w it be W V own R where
  look := I.look
  cons := fun dp un fr gd y ys s Q E hd hu hk => I.cons dp un fr gd y ys s Q E hd hu (k.trans hk)
  nil := fun dp un fr gd s Q E hd hu hk => I.nil dp un fr gd s Q E hd hu (k.trans hk)
  keeps := I.keeps
  there := I.there
  sub := I.sub
  itn := I.itn
  off := ho
end
end Mine
end
section
open PySem PySem.W PyProof.Rows PySem.Builtin PySem.Builtin.ObjectAttr
set_option maxRecDepth 100000
set_option maxHeartbeats 8000000
namespace Mine
def metAt (xs : List Str) (i : Nat) : List Str := (xs.take i).foldl (fun σ x => if σ.any (· == x) then σ else σ ++ [x]) []
theorem metAt_zero (xs : List Str) : metAt xs 0 = [] := by simp [metAt]
theorem metAt_succ (xs : List Str) {i : Nat} (h : i < xs.length) : metAt xs (i + 1) = if (metAt xs i).any (· == xs[i]) then metAt xs i else metAt xs i ++ [xs[i]] := by
  unfold metAt
  rw [List.take_succ_eq_append_getElem h, List.foldl_append]; rfl
theorem metAt_len (xs : List Str) : ∀ i, (metAt xs i).length ≤ i
  | 0 => by rw [metAt_zero]; exact Nat.le_refl _
  | i + 1 => by
    by_cases h : i < xs.length
    · rw [metAt_succ xs h]
      have := metAt_len xs i
      split
      · omega
      · rw [List.length_append, List.length_singleton]; omega
    · have e : xs.take (i + 1) = xs.take i := by rw [List.take_of_length_le (by omega), List.take_of_length_le (by omega)]
      have : metAt xs (i + 1) = metAt xs i := by unfold metAt; rw [e]
      rw [this]; exact Nat.le_succ_of_le (metAt_len xs i)
theorem metAt_any (xs : List Str) (k : Str) : ∀ i, (metAt xs i).any (· == k) = (xs.take i).any (· == k)
  | 0 => by simp [metAt_zero]
  | i + 1 => by
    by_cases h : i < xs.length
    · rw [metAt_succ xs h, List.take_succ_eq_append_getElem h, List.any_append, ← metAt_any xs k i]
      by_cases q : (metAt xs i).any (· == xs[i]) = true
      · rw [if_pos q]
        by_cases e : xs[i] = k
        · rw [← e, q]; simp
        · have : (xs[i] == k) = false := by simpa using e
          simp [this]
      · rw [if_neg q, List.any_append]
    · have e : xs.take (i + 1) = xs.take i := by rw [List.take_of_length_le (by omega), List.take_of_length_le (by omega)]
      have : metAt xs (i + 1) = metAt xs i := by unfold metAt; rw [e]
      rw [this, e]; exact metAt_any xs k i
theorem StrsAre.at_ {vs : List Value} {xs : List Str} (x : StrsAre vs xs) (i : Nat) (v : Value) (h : vs[i]? = some v) : ∃ t, ∃ h : i < xs.length, v = .str xs[i] t := by
  induction x generalizing i with
  | nil => cases h
  | cons n t hr ih =>
    cases i with
    | zero => cases h; exact ⟨t, Nat.succ_pos _, rfl⟩
    | succ i =>
      obtain ⟨t', hl, e⟩ := ih i h
      exact ⟨t', Nat.succ_lt_succ hl, e⟩
theorem StrsAre.len {vs : List Value} {xs : List Str} (x : StrsAre vs xs) : vs.length = xs.length := by
  induction x with
  | nil => rfl
  | cons n t hr ih => exact congrArg Nat.succ ih
section
variable {prog : Program} {w : World} {A : Around} {R : Result → Shared → Prop} {I : Addr} {fp wr : List Addr} {G : Array GenState → Array GenState → Prop} {n : Nat} {P : Nat → Value → Prop} {St : Nat → Shared → Prop}
theorem setAdd_str {S : Addr} {Sm : Str → Bool} {m : Nat} {s : Shared} {y : Str} {t : Tok} {Q : Bool → Shared → Prop} {E : Value → Shared → Prop} (hS : s.heap.SetOf (strKind prog w) S Sm m) (hb : m + 1 < scanBound)
    (h : ∀ b h', Heap.SameBut S s.heap h' → h'.SetOf (strKind prog w) S (fun k => Sm k || decide (k = y)) (if Sm y then m else m + 1) → Q b { s with heap := h', toks := s.toks + 1 }) :
    wpAny (model prog w) A (setAdd S (.str y t)) Q E s := by
  unfold setAdd
  refine wpAny_holding ?_
  refine wpAny_bind ((strKind prog w).pyHash (k := y) (strKind_is _ _ _ _) ?_)
  exact wpAny_setAddHashed_of (knd := strKind prog w) (s := { s with toks := s.toks + 1 }) (strKind_is _ _ _ _) rfl hS hb fun h' hsb hS2 => h _ h' hsb hS2
theorem set_update_strs {xs : List Str} (W : WalksS prog w A.in1 I fp wr G xs.length P St) (S : Addr) (hSf : S ∉ fp)
    (hval : ∀ i v, P i v → ∃ t, ∃ h : i < xs.length, v = .str xs[i] t) (hb : xs.length + 1 < scanBound) :
    ∀ (k i : Nat) (s : Shared), xs.length - i = k → i ≤ xs.length → St i s →
      s.heap.SetOf (strKind prog w) S (fun k' => (metAt xs i).any (· == k')) (metAt xs i).length →
      (∀ s', Moved (S :: wr) G s s' → s'.heap.SetOf (strKind prog w) S (fun k' => (metAt xs xs.length).any (· == k')) (metAt xs xs.length).length → R (.ok (.ret .none)) s') →
      codeAny (model prog w) A (.builtin "set.update.loop" ⟨[.ref S, .ref I], []⟩) R s := by
  have hSw : S ∉ wr := fun h => hSf (W.sub _ h)
  have hsub : ∀ b ∈ wr, b ∈ S :: wr := fun b hb => List.mem_cons_of_mem _ hb
  have still : ∀ {s s' : Shared} {Sm m}, Moved wr G s s' → s.heap.SetOf (strKind prog w) S Sm m → s'.heap.SetOf (strKind prog w) S Sm m := fun hm ⟨o, es, ep, t, ho, rest⟩ => ⟨o, es, ep, t, hm.heap S _ hSw ho, rest⟩
  intro k
  induction k with
  | zero =>
    intro i s hk hi hst hS hR
    obtain rfl : i = xs.length := by omega
    refine codeAny_builtin F.entry_set_update_loop ?_
    rw [Around.under_plainId F.plain_set_update_loop _]
    show wpAny _ A.in1 (pyNext (.ref I) >>= _) _ _ s
    refine wpAny_bind (W.done s _ _ hst fun s' hm => ?_)
    show wpAny _ A.in1 (ret Value.none) _ _ s'
    exact wpAny_pure (hR s' (hm.mono hsub) (still hm hS))
  | succ k ih =>
    intro i s hk hi hst hS hR
    have hlt : i < xs.length := by omega
    refine codeAny_builtin F.entry_set_update_loop ?_
    rw [Around.under_plainId F.plain_set_update_loop _]
    show wpAny _ A.in1 (pyNext (.ref I) >>= _) _ _ s
    refine wpAny_bind (W.item i s _ _ hlt hst fun v s' hP hst' hm => ?_)
    obtain ⟨t, _, rfl⟩ := hval i v hP
    show wpAny _ A.in1 (holding [Value.str xs[i] t] (setAdd S (.str xs[i] t)) >>= _) _ _ s'
    have hroom : (metAt xs i).length + 1 < scanBound := by have := metAt_len xs i; omega
    refine wpAny_bind (wpAny_holding (setAdd_str (still hm hS) hroom fun b h' hsb hS2 => ?_))
    have hSi : h'.SetOf (strKind prog w) S (fun k' => (metAt xs (i + 1)).any (· == k')) (metAt xs (i + 1)).length := by
      refine SetOf_congr hS2 (fun k' => ?_) ?_
      · rw [metAt_any, metAt_any, List.take_succ_eq_append_getElem hlt, List.any_append]
        congr 1
        rw [List.any_cons, List.any_nil, Bool.or_false]
        by_cases e : k' = xs[i]
        · rw [decide_eq_true e, e, beq_self_eq_true]
        · have e' : xs[i] ≠ k' := fun q => e q.symm
          rw [decide_eq_false e, beq_eq_false_iff_ne.mpr e']
      · rw [metAt_succ xs hlt]
        by_cases q : (metAt xs i).any (· == xs[i]) = true
        · rw [if_pos q, if_pos q]
        · rw [if_neg q, if_neg q, List.length_append]; rfl
    refine wpAny_pure ⟨plainId_quiet F.plain_set_update_loop _, ih (i + 1) _ (by omega) hlt (W.frame _ s' _ _ hst' (Nat.le_succ _) fun b hb o e => ?_) hSi fun s'' hm'' hS'' => ?_⟩
    · rw [hsb.2 b (fun h : b = S => hSf (by rw [← h]; exact hb))]; exact e
    · refine hR s'' (Moved.trans W.gtrans ((hm.mono hsub).then_heap (Nat.le_succ _) fun b o hb e => ?_) hm'') hS''
      rw [hsb.2 b (fun h : b = S => hb (by rw [h]; exact List.mem_cons_self))]; exact e
end
section
variable {prog : Program} {w : World} {A : Around} {E : Value → Shared → Prop} {s : Shared}
theorem call_set_by {a : Value} {Q : Value → Shared → Prop}
    (h0 : ∀ led s₁, s₁ = { s with heap := s.heap.push { cls := .type "set", dict := none, data := .set #[] 0 (.fresh 0 0 led) } } →
      wpAny (model prog w) A.in1.in1 (Builtin.«set.__init__» ⟨[.ref s.heap.objs.size, a], []⟩) (fun fin s₂ => fin = .done (.ret .none) ∧ Q (.ref s.heap.objs.size) s₂) E s₁) :
    wpAny (model prog w) A (PySem.call (.type "set") [a]) Q E s := by
  obtain ⟨c, tl, hmro⟩ := F.called_set.mro
  have hmade := F.called_set.made
  have hsub := F.called_set.sub
  refine wpAny_call (codeAny_of_tree ?_)
  show wpAny _ _ (callAny (.type "set") _) _ _ _
  refine wpAny_pure ⟨Code.quiet_builtin _ (by decide +kernel), codeAny_builtin F.entry_type_call ?_⟩
  rw [Around.under_plain (weight_type_call_type "set" [a] []) rfl]
  have h1 := F.called_set.notType
  have h2 := F.called_set.canCreate
  have hct := F.typeCall_set_1 a
  repeat (any_goals (first | assumption | wp_step))
  refine codeAny_mono (code_set_new_1 a (E := E) (Q₁ := fun obj s₁ => ∃ led : Bool, obj = .ref s.heap.objs.size ∧ s₁ = { s with heap := s.heap.push { cls := .type "set", dict := none, data := .set #[] 0 (.fresh 0 0 led) } }) fun led => ⟨led, rfl, rfl⟩) fun r s₁ hr => ?_
  cases r with
  | error e => exact hr
  | ok fl =>
    cases fl with
    | ret obj =>
      obtain ⟨led, rfl, hs₁⟩ := hr
      have hT : s₁.TypeIs (.ref s.heap.objs.size) "set" := by subst hs₁; exact ⟨_, Heap.get?_push_size _ rfl, rfl⟩
      have hli := F.called_set.init.lookup
      have hbi := F.called_set.init.bind (.ref s.heap.objs.size)
      have hz := h0 led s₁ hs₁
      repeat (any_goals (first | assumption | wp_step))
      refine codeAny_mono (codeAny_call_builtin (R := wants (fun r s₂ => r = .none ∧ Q (.ref s.heap.objs.size) s₂) E) F.called_set.init.plain F.entry_set_init (check_set_init_1 hT (wpAny_mono hz (fun fin s₂ h => ?_) fun _ _ e => e))) fun r₂ s₂ hr₂ => ?_
      · obtain ⟨rfl, hq⟩ := h
        exact ⟨rfl, hq⟩
      · cases r₂ with
        | error e => exact hr₂
        | ok fl₂ =>
          cases fl₂ with
          | ret r =>
            obtain ⟨rfl, hq⟩ := hr₂
            repeat (any_goals (first | assumption | wp_step))
          | _ => exact hr₂.elim
    | _ => exact hr.elim
end
end Mine
end
section
open PySem PySem.W PyProof.Rows
set_option maxRecDepth 100000
set_option maxHeartbeats 8000000
namespace Mine
abbrev listObj (vs : List Value) (c : Nat) : Obj := { cls := .type "list", dict := none, data := .seq vs.toArray c, slots := #[] }
section
variable {prog : Program} {w : World} {dp un : Nat} {l : List Env} {gd : Option (List Code)} {base : Heap} {x : Addr} {W : Addr → Prop} {V : Nat → Prop} {own : List Addr} {R : List Str → Shared → Prop}
theorem StrsAre.snoc {vs : List Value} {ys : List Str} (x : StrsAre vs ys) (y : Str) (t : Tok) : StrsAre (vs ++ [.str y t]) (ys ++ [y]) := by
  induction x with
  | nil => exact .cons y t .nil
  | cons z u hr ih => exact .cons z u ih
theorem Ext.addW {S : List Addr} {W W' : Addr → Prop} {V : Nat → Prop} {s s' : Shared} (y : Ext S W V s s') (h : ∀ b, W b → W' b) : Ext S W' V s s' := y.mono (fun _ h => h) h fun _ h => h
theorem extend_own (I : OwnIt prog w x base W V own R) {D : Addr} {res : Value} {Rr : Result → Shared → Prop} (hD : D ∉ own) (hDb : base.get? D = none) (hd : dp ≤ 400) (hu : un + 1 ≤ 4000) (hff : ∀ f ∈ l.filterMap (·.frame), f ∉ own ∧ f ≠ D) (hnl : base.NoLimit) :
    ∀ (xs : List Str) (s : Shared) (vs : List Value) (c : Nat) (ys : List Str), KeepAll base s.heap → s.heap.FunFrames base l → R xs s → s.heap.get? D = some (listObj vs c) → StrsAre vs ys → ys.length + xs.length ≤ 1000 →
      (∀ s' vs' c', Ext (l.filterMap (·.frame)) (fun b => b = D ∨ W b) V s s' → s'.heap.get? D = some (listObj vs' c') → StrsAre vs' (ys ++ xs) → Rr (.ok (.ret res)) s') →
      codeAny (model prog w) (Ar dp un (some l) gd) (.builtin "list.extend.loop" ⟨[.ref D, .ref x, res], []⟩) Rr s := by
  have hDW : ¬ W D := fun h => hD (I.sub D h)
  intro xs
  induction xs with
  | nil =>
    intro s vs c ys hk hf hR hS hv hn hQ
    refine codeAny_builtin F.entry_extend_loop ?_
    rw [Around.under_plainId F.plain_extend_loop _]
    show wpAny _ (Ar dp (un + 1) (some l) gd) (pyNext (.ref x) >>= _) _ _ s
    refine wpAny_bind (I.nil dp (un + 1) l gd s _ _ hd hu hk (hnl.keeps hk) hf (fun f h => (hff f h).1) hR fun s' hE => ?_)
    refine wpAny_pure (hQ s' vs c (hE.addW fun b h => .inr h) ?_ (by rw [List.append_nil]; exact hv))
    exact hE.heap D _ (fun h => (hff D h).2 rfl) hDW hS
  | cons y xs ih =>
    intro s vs c ys hk hf hR hS hv hn hQ
    refine codeAny_builtin F.entry_extend_loop ?_
    rw [Around.under_plainId F.plain_extend_loop _]
    show wpAny _ (Ar dp (un + 1) (some l) gd) (pyNext (.ref x) >>= _) _ _ s
    refine wpAny_bind (I.cons dp (un + 1) l gd y xs s _ _ hd hu hk (hnl.keeps hk) hf hR fun t s' hE hR' => ?_)
    have hS' := hE.heap D _ (by simp) hDW hS
    have hlen := StrsAre.len hv
    show wpAny _ _ (updateSeq D (·.push (.str y t)) >>= _) _ _ _
    refine wpAny_bind ?_
    have hEW : ∀ b o, ¬ W b → s.heap.get? b = some o → s'.heap.get? b = some o := fun b o h e => hE.heap b o (by simp) h e
    have upd : Ext [] (fun b => b = D) V s' { s' with heap := s'.heap.update D (Obj.mapSeq (·.push (.str y t))) } := Ext.of_heap (s := s') (tk := s'.toks) fun b o hw e => by
      rw [Heap.get?_update_other _ _ (Ne.symm hw)]; exact e
    have e2 : Ext [] (fun b => b = D ∨ W b) V s { s' with heap := s'.heap.update D (Obj.mapSeq (·.push (.str y t))) } := (hE.addW fun b h => .inr h).trans (upd.addW fun b h => .inl h)
    have hk2 : KeepAll base (s'.heap.update D (Obj.mapSeq (·.push (.str y t)))) := fun b o e => e2.heap b o (by simp) (fun h => by
      rcases h with h | h
      · rw [h, hDb] at e; cases e
      · rw [I.off b (I.sub b h)] at e; cases e) (hk b o e)
    have hf2 : (s'.heap.update D (Obj.mapSeq (·.push (.str y t)))).FunFrames base l := ff_of hf (fun b hb o e _ => ⟨o, e2.heap b o (by simp) (fun h => by
      rcases h with h | h
      · exact (hff b hb).2 h
      · exact (hff b hb).1 (I.sub b h)) e, rfl⟩) fun b hb => (hf.mem hb).1
    have hR2 : R xs { s' with heap := s'.heap.update D (Obj.mapSeq (·.push (.str y t))) } := I.keeps _ _ _ hR' (fun b hb o e => by
      rw [Heap.get?_update_other _ _ (fun h => hD (by rw [h]; exact hb))]; exact e) fun _ _ _ e => e
    have hD2 := Heap.get?_update_self (Obj.mapSeq (·.push (Value.str y t))) hS' rfl
    have hobj : Obj.mapSeq (·.push (Value.str y t)) (listObj vs c) = listObj (vs ++ [.str y t]) (c + 1) := by
      simp [Obj.mapSeq, listObj]
    refine wpAny_updateSeq hS' rfl (wpAny_pure ⟨plainId_quiet F.plain_extend_loop _, ih _ (vs ++ [.str y t]) _ (ys ++ [y]) hk2 hf2 hR2 (hD2.trans (congrArg some hobj)) (StrsAre.snoc hv y t) ?_ ?_⟩) ?_ ?_
    · rw [List.length_append, List.length_singleton]
      rw [List.length_cons] at hn
      omega
    · intro s2 vs' c' hE2 hD3 hv'
      refine hQ s2 vs' c' ((e2.mono (fun _ h => nomatch h) (fun _ h => h) fun _ h => h).trans hE2) hD3 ?_
      rw [List.append_assoc] at hv'
      exact hv'
    · rw [List.size_toArray, sizeLine_eq, hlen]; omega
    · rw [Array.size_push, List.size_toArray, sizeLine_eq, hlen]; omega
theorem extendWith_own (I : OwnIt prog w x base W V own R) {D : Addr} {res : Value} {Rr : Result → Shared → Prop} {xs : List Str} {s : Shared} {vs : List Value} {c : Nat} {ys : List Str} (hD : D ∉ own) (hDb : base.get? D = none) (hd : dp ≤ 400) (hu : un + 2 ≤ 4000)
    (hff : ∀ f ∈ l.filterMap (·.frame), f ∉ own ∧ f ≠ D) (hnl : base.NoLimit) (hk : KeepAll base s.heap) (hf : s.heap.FunFrames base l) (hR : R xs s) (hS : s.heap.get? D = some (listObj vs c)) (hv : StrsAre vs ys) (hn : ys.length + xs.length ≤ 1000)
    (hQ : ∀ s' vs' c', Ext (l.filterMap (·.frame)) (fun b => b = D ∨ W b) V s s' → s'.heap.get? D = some (listObj vs' c') → StrsAre vs' (ys ++ xs) → Rr (.ok (.ret res)) s') :
    wpAny (model prog w) (Ar dp (un + 1) (some l) gd) (Builtin.List.listExtendWith (.ref D) (.ref x) res)
      (fun fin s' => match fin with | .done f => Rr (.ok f) s' | .again c' => c'.quiet = true ∧ codeAny (model prog w) (Ar dp un (some l) gd) c' Rr s') (fun e s' => Rr (.error e) s') s := by
  have hDx : D ≠ x := fun e => hD (e ▸ I.itn)
  have hDW : ¬ W D := fun h => hD (I.sub D h)
  unfold Builtin.List.listExtendWith
  refine wpAny_bind (I.typ _ _ _ _ _ hk hR fun T h2 h3 => ?_)
  have h1 : Builtin.List.listSameRef (.ref D) (.ref x) = false := by simp [Builtin.List.listSameRef, hDx]
  simp only [h1, h2, h3, Bool.or_false, Bool.false_eq_true, if_false]
  refine wpAny_bind (I.iter dp (un + 1) l gd xs s _ _ hd (by omega) hk (hnl.keeps hk) hR fun s1 hE1 hR1 => ?_)
  have hk1 : KeepAll base s1.heap := hk.trans hE1.keepAll
  have hS1 := hE1.keepAll _ _ hS
  refine wpAny_bind (wpAny_holding ?_)
  unfold Builtin.List.listLengthHint
  refine wpAny_bind (I.nolen _ _ _ _ _ hk1 hR1 ?_)
  show wpAny _ _ (specialOf (Value.ref x) (Str.ofString "__length_hint__") >>= _) _ _ _
  refine wpAny_bind (I.nohint _ _ _ _ _ hk1 hR1 ?_)
  refine wpAny_pure ?_
  show wpAny _ _ (rule "list.extend.makes-room" >>= fun _ => Builtin.List.listTouch (.ref D) >>= fun _ =>
    again (.builtin "list.extend.loop" ⟨[.ref D, .ref x, res], []⟩)) _ _ _
  refine wpAny_bind (wpAny_rule ?_)
  refine wpAny_bind ?_
  have hlen := StrsAre.len hv
  show wpAny _ _ (updateSeq D (·.push .none) >>= fun _ => updateSeq D (·.pop)) _ _ _
  refine wpAny_bind (wpAny_updateSeq hS1 rfl ?_ ?_ ?_)
  rotate_left
  · rw [List.size_toArray, sizeLine_eq, hlen]; omega
  · rw [Array.size_push, List.size_toArray, sizeLine_eq, hlen]; omega
  have hS2 := Heap.get?_update_self (Obj.mapSeq (·.push Value.none)) hS1 rfl
  have ho2 : Obj.mapSeq (·.push Value.none) (listObj vs c) = listObj (vs ++ [.none]) (c + 1) := by simp [Obj.mapSeq, listObj]
  rw [ho2] at hS2
  refine wpAny_updateSeq hS2 rfl ?_ ?_ ?_
  rotate_left
  · rw [List.size_toArray, List.length_append, List.length_singleton, sizeLine_eq, hlen]; omega
  · rw [Array.size_pop, List.size_toArray, List.length_append, List.length_singleton, sizeLine_eq, hlen]; omega
  have hS3 := Heap.get?_update_self (Obj.mapSeq (·.pop)) hS2 rfl
  have ho3 : Obj.mapSeq (·.pop) (listObj (vs ++ [.none]) (c + 1)) = listObj vs (c + 2) := by simp [Obj.mapSeq, listObj]
  rw [ho3] at hS3
  have oth : ∀ b o, b ≠ D → s1.heap.get? b = some o → ((s1.heap.update D (Obj.mapSeq (·.push Value.none))).update D (Obj.mapSeq (·.pop))).get? b = some o :=
    fun b o hb e => (Heap.get?_update_other _ _ (Ne.symm hb)).trans ((Heap.get?_update_other _ _ (Ne.symm hb)).trans e)
  have upd : Ext [] (fun b => b = D) V s1 { s1 with heap := (s1.heap.update D (Obj.mapSeq (·.push Value.none))).update D (Obj.mapSeq (·.pop)) } := Ext.of_heap (s := s1) (tk := s1.toks) fun b o hw e => oth b o hw e
  have e2 : Ext [] (fun b => b = D ∨ W b) V s { s1 with heap := (s1.heap.update D (Obj.mapSeq (·.push Value.none))).update D (Obj.mapSeq (·.pop)) } := (hE1.mono (fun _ h => h) (fun _ h => h.elim) fun _ h => h.elim).trans (upd.addW fun b h => .inl h)
  refine wpAny_pure ⟨plainId_quiet F.plain_extend_loop _, extend_own I hD hDb hd (by omega) hff hnl xs _ vs _ ys ?_ ?_ ?_ hS3 hv hn ?_⟩
  · exact fun b o e => oth b o (fun h => by rw [h, hDb] at e; cases e) (hk1 b o e)
  · exact ff_of hf (fun b hb o e _ => ⟨o, oth b o (hff b hb).2 (hE1.keepAll b o e), rfl⟩) fun b hb => (hf.mem hb).1
  · exact I.keeps _ _ _ hR1 (fun b hb o e => oth b o (fun h => hD (h ▸ hb)) e) fun _ _ _ e => e
  · intro s2 vs' c' hE2 hD3 hv'
    exact hQ s2 vs' c' ((e2.mono (fun _ h => nomatch h) (fun _ h => h) fun _ h => h).trans hE2) hD3 hv'
theorem call_list_own (I : OwnIt prog w x base W V own R) {Q : Value → Shared → Prop} {E : Value → Shared → Prop} {xs : List Str} {s : Shared} (hd : dp ≤ 400) (hu : un + 4 ≤ 4000)
    (hff : ∀ f ∈ l.filterMap (·.frame), f ∉ own) (hnl : base.NoLimit) (hk : KeepAll base s.heap) (hf : s.heap.FunFrames base l) (hR : R xs s) (hn : xs.length ≤ 1000)
    (hQ : ∀ D s' vs c, Ext (l.filterMap (·.frame)) W V s s' → s.heap.get? D = none → (∀ b o, s.heap.get? b = some o → b < D) → s'.heap.get? D = some (listObj vs c) → StrsAre vs xs → Q (.ref D) s') :
    wpAny (model prog w) (Ar dp un (some l) gd) (PySem.call (.type "list") [.ref x]) Q E s := by
  refine callType_codes (Q₁ := fun obj s₁ => obj = .ref s.heap.objs.size ∧ s₁ = { s with heap := s.heap.push { cls := .type "list", data := .seq #[] } }) F.called_list (F.typeCall_list_1 _) F.entry_list_init
    (code_list_new _ ⟨rfl, rfl⟩) fun obj s₁ h₁ => ?_
  obtain ⟨rfl, rfl⟩ := h₁
  have kp : KeepAll s.heap (s.heap.push { cls := .type "list", data := .seq #[] }) := fun b o e => Heap.get?_push_of_some _ e
  have hS : (s.heap.push { cls := .type "list", data := .seq #[] }).get? s.heap.objs.size = some (listObj [] 0) := Heap.get?_push_size _ rfl
  have hDn : s.heap.get? s.heap.objs.size = none := get?_size_none _ (Nat.le_refl _)
  have hD : s.heap.objs.size ∉ own := fun h => by
    obtain ⟨o, ho⟩ := I.there _ _ hR _ h
    exact Nat.lt_irrefl _ (Heap.lt_size ho)
  refine ⟨⟨_, hS, rfl⟩, F.args_list_init_2 _ _, ?_⟩
  show wpAny _ (Ar dp (un + 1 + 1) (some l) gd) (do let old ← Builtin.List.listItems (.ref s.heap.objs.size); Builtin.List.listUpdate (.ref s.heap.objs.size) (fun _ => #[]); letGo old.toList.reverse; Builtin.List.listExtendWith (.ref s.heap.objs.size) (.ref x) .none) _ _ _
  refine wpAny_bind ?_
  unfold Builtin.List.listItems
  refine wpAny_bind (wpAny_seqItems hS rfl (wpAny_pure ?_))
  show wpAny _ _ (updateSeq s.heap.objs.size (fun _ => #[]) >>= fun _ => letGo (#[] : Array Value).toList.reverse >>= fun _ => Builtin.List.listExtendWith (.ref s.heap.objs.size) (.ref x) .none) _ _ _
  refine wpAny_bind (wpAny_updateSeq hS rfl ?_)
  have hS2 := Heap.get?_update_self (Obj.mapSeq (fun _ => (#[] : Array Value))) hS rfl
  have ho2 : Obj.mapSeq (fun _ => (#[] : Array Value)) (listObj [] 0) = listObj [] 0 := by simp [Obj.mapSeq, listObj]
  rw [ho2] at hS2
  have oth : KeepAll s.heap ((s.heap.push { cls := .type "list", data := .seq #[] }).update s.heap.objs.size (Obj.mapSeq (fun _ => (#[] : Array Value)))) := fun b o e =>
    (Heap.get?_update_other _ _ (Nat.ne_of_gt (Heap.lt_size e))).trans (kp b o e)
  refine wpAny_bind (wpAny_letGo ?_)
  have ex0 : Ext [] NoA V s { s with heap := (s.heap.push { cls := .type "list", data := .seq #[] }).update s.heap.objs.size (Obj.mapSeq (fun _ => (#[] : Array Value))) } := Ext.of_heap (s := s) (tk := s.toks) fun b o _ e => oth b o e
  refine extendWith_own I (Rr := wants (fun r s₂ => r = .none ∧ Q (.ref s.heap.objs.size) s₂) E) (ys := []) hD (hk.none_of hDn) hd (by omega) (fun f h => ⟨hff f h, fun e => ?_⟩) hnl (hk.trans oth) (ff_of hf (fun b _ o e _ => ⟨o, oth b o e, rfl⟩) fun b hb => (hf.mem hb).1) (I.keeps _ _ _ hR (fun b _ o e => oth b o e) fun _ _ _ e => e) hS2 .nil (by simpa using hn) fun s' vs' c' hE hD' hv' => ?_
  · obtain ⟨_, o, ho, _⟩ := hf.mem h
    rw [e, hDn] at ho; cases ho
  · refine ⟨rfl, hQ _ s' vs' c' ?_ hDn (fun b o e => Heap.lt_size e) hD' (by simpa using hv')⟩
    exact Ext.fresh (ex0.mono (fun _ h => nomatch h) (fun _ h => h.elim) fun _ h => h) hE fun b h => by
      rcases h with h | h
      · exact .inl (by rw [h]; exact hDn)
      · exact .inr h
end
end Mine
end
section
open PySem PySem.W PyProof.Rows
set_option maxRecDepth 100000
set_option maxHeartbeats 8000000
namespace Mine
def OkL (base : Heap) (l : List Env) (h : Heap) : Prop := KeepAll base h ∧ h.FunFrames base l
theorem OkL.ext {base : Heap} {l : List Env} {W : Addr → Prop} {V : Nat → Prop} {s s' : Shared} (o : OkL base l s.heap) (x : Ext (frs l) W V s s') (hW : ∀ b, W b → base.get? b = none ∧ b ∉ frs l) : OkL base l s'.heap := by
  refine ⟨fun b ob e => x.heap b ob (fun h => ?_) (fun h => ?_) (o.1 b ob e), ff_of o.2 (fun b hb ob e _ => ?_) fun b hb => (o.2.mem hb).1⟩
  · rw [(o.2.mem h).1] at e; cases e
  · rw [(hW b h).1] at e; cases e
  · obtain ⟨sl, h⟩ := x.slots b ob hb (fun h => (hW b h).2 hb) e
    exact ⟨_, h, rfl⟩
theorem Ext.shrink {S : List Addr} {W W' : Addr → Prop} {V V' : Nat → Prop} {s s' : Shared} (x : Ext S W' V' s s') (hW : ∀ b, W' b → s.heap.get? b = none ∨ W b) (hV : ∀ g, V' g → V g ∨ s.gens.size ≤ g) : Ext S W V s s' :=
  ⟨fun b o h1 h2 e => x.heap b o h1 (fun h => (hW b h).elim (fun q => by rw [q] at e; cases e) h2) e,
   fun b o h1 h2 e => x.slots b o h1 (fun h => (hW b h).elim (fun q => by rw [q] at e; cases e) h2) e,
   fun g hg z e => x.gens g (fun h => (hV g h).elim hg fun q => by rw [Array.getElem?_eq_none q] at e; cases e) z e, x.gsize, x.bare, x.os⟩
structure It (prog : Program) (w : World) (A : Around) {α : Type} (Val : α → Value → Prop) (it : Addr) (OK : Heap → Prop) (S : List Addr) (W : Addr → Prop) (V : Nat → Prop) (own : List Addr) (R : List α → Shared → Prop) : Prop where
  cons : ∀ y ys (s : Shared) (Q : Option Value → Shared → Prop) E, OK s.heap → R (y :: ys) s → (∀ v s', Val y v → Ext [] W V s s' → R ys s' → Q (some v) s') → wpAny (model prog w) A (pyNext (.ref it)) Q E s
  nil : ∀ (s : Shared) (Q : Option Value → Shared → Prop) E, OK s.heap → R [] s → (∀ s', Ext S W V s s' → Q none s') → wpAny (model prog w) A (pyNext (.ref it)) Q E s
  iter : ∀ xs (s : Shared) (Q : Value → Shared → Prop) E, OK s.heap → R xs s → (∀ s', Ext [] NoA NoG s s' → R xs s' → Q (.ref it) s') → wpAny (model prog w) A (pyIter (.ref it)) Q E s
  keeps : ∀ xs (s s' : Shared), R xs s → (∀ b ∈ own, ∀ o, s.heap.get? b = some o → s'.heap.get? b = some o) → (∀ g, V g → ∀ x, s.gens[g]? = some x → s'.gens[g]? = some x) → R xs s'
  sub : ∀ b, W b → b ∈ own
section
variable {prog : Program} {w : World} {A : Around} {E : Value → Shared → Prop} {s : Shared}
theorem append_obj {D : Addr} {vs : List Value} {c : Nat} {x : Value} {Q : Value → Shared → Prop} (hS : s.heap.get? D = some (listObj vs c)) (hsz : vs.length ≤ 16777216)
    (hQ : ∀ h', h'.get? D = some (listObj (vs ++ [x]) (c + 1)) → Heap.SameBut D s.heap h' → Q .none { s with heap := h' }) : wpAny (model prog w) A (PySem.call (.builtin "list.append") [.ref D, x]) Q E s := by
  have hT : s.TypeIs (.ref D) "list" := ⟨_, hS, rfl⟩
  have hz : vs.toArray.size ≤ sizeLine := by rw [sizeLine_eq]; simpa using hsz
  refine wpAny_call_entry slot_list_append hT entry_list_append ?_ (args_list_append _ _)
  show wpAny _ _ (updateSeq D (·.push x) >>= fun _ => ret .none) _ _ s
  refine wpAny_bind ?_
  refine wpAny_updateSeq hS rfl (wpAny_pure ⟨.none, rfl, hQ _ ?_ (Heap.SameBut.update ..)⟩) hz (by simp only [Array.size_push]; omega)
  have hobj : Obj.mapSeq (·.push x) (listObj vs c) = listObj (vs ++ [x]) (c + 1) := by
    simp [Obj.mapSeq, listObj]
  rw [← hobj]
  exact Heap.get?_update_self _ hS rfl
structure EltEnd {α : Type} (F : α → Value → Heap → Prop) (S : List Addr) (C : Addr) (s : Shared) (y : α) (r : Value) (s' : Shared) : Prop where
  val : F y r s'.heap
  ext : Ext S (fun b => b = C) NoG s s'
  ns : ∃ m, s'.heap.Ns C m
variable {α : Type} {Val : α → Value → Prop} {it D C : Addr} {OK : Heap → Prop} {S : List Addr} {W : Addr → Prop} {V : Nat → Prop} {own : List Addr} {R : List α → Shared → Prop} {F : α → Value → Heap → Prop}
inductive FillJ (OK : Heap → Prop) (S : List Addr) (W : Addr → Prop) (V : Nat → Prop) (D C : Addr) (R : List α → Shared → Prop) (F : α → Value → Heap → Prop) (s₀ : Shared) (vs0 : List Value) (xs : List α) (n : Nat) (s' : Shared) : Prop
  | mk (done rest : List α) (vs : List Value) (c : Nat) (m : Str → Option Value) (hx : xs = done ++ rest) (hn : n = rest.length) (ok : OK s'.heap) (hR : R rest s') (hD : s'.heap.get? D = some (listObj (vs0 ++ vs) c)) (hP : Paired (fun y v => F y v s'.heap) done vs) (hns : s'.heap.Ns C m)
      (hE : Ext S (fun b => b = D ∨ b = C ∨ W b) V s₀ s') : FillJ OK S W V D C R F s₀ vs0 xs n s'
theorem Paired.up {β : Type} {P Q : α → β → Prop} (h : ∀ a b, P a b → Q a b) {l : List α} {r : List β} (x : Paired P l r) : Paired Q l r := by
  induction x with
  | nil => exact .nil
  | cons x t ih => exact .cons (h _ _ x) ih
theorem fill_loop {elt iter : Expr} {gens : List Comprehension} {scope : Scope} {pos : Pos} {depth : Nat} {x : Str} {px : Pos} {cenv : Env} {Rr : Result → Shared → Prop} {s₀ : Shared} {vs0 : List Value} {c0 : Nat} {xs : List α} {m0 : Str → Option Value}
    (heq : compTurn (.ListComp elt gens scope pos) depth (.ref it) (.ref D) cenv = (standAt iter.pos >>= fun _ => pyNext (.ref it) >>= fun r => match r with
      | none => pure (.done .next)
      | some v => letOwnedTupleGo (.Name x px) (.ref it) v >>= fun _ => assign (.Name x px) cenv v >>= fun _ =>
        (eval elt cenv >>= fun y => PySem.call (.builtin "list.append") [.ref D, y] >>= fun _ => pure ()) >>= fun _ => again (.compLoop (.ListComp elt gens scope pos) depth (.ref it) (.ref D) cenv)))
    (I : It prog w A Val it OK S W V own R) (hx : cenv.kindOf x = some .local) (hp : (cenv.scope.kind == .class || (cenv.scope.kind == .module && cenv.locals != cenv.globals)) = false)
    (hloc : cenv.locals = C) (hD : D ∉ own) (hC : C ∉ own) (hDC : D ≠ C) (hDS : D ∉ S) (hCS : C ∉ S)
    (hOK : ∀ (s s' : Shared), OK s.heap → Ext S (fun b => b = D ∨ b = C ∨ W b) V s s' → OK s'.heap)
    (hF : ∀ y v (s s' : Shared), F y v s.heap → Ext S (fun b => b = D ∨ b = C ∨ W b) V s s' → F y v s'.heap)
    (hoS : ∀ b ∈ own, b ∉ S)
    (helt : ∀ y v (s₃ : Shared) m, y ∈ xs → OK s₃.heap → Ext S (fun b => b = D ∨ b = C ∨ W b) V s₀ s₃ → s₃.heap.Ns C m → m x = some v → Val y v → wpAny (model prog w) A (eval elt cenv) (fun r s₄ => EltEnd F S C s₃ y r s₄) (fun _ _ => False) s₃)
    (hn : vs0.length + xs.length ≤ 16777216) (hok : OK s.heap) (hR : R xs s) (hS : s.heap.get? D = some (listObj vs0 c0)) (hns : s.heap.Ns C m0) (hX : Ext S (fun b => b = D ∨ b = C ∨ W b) V s₀ s)
    (hEnd : ∀ s' vs c m, Ext S (fun b => b = D ∨ b = C ∨ W b) V s₀ s' → OK s'.heap → s'.heap.get? D = some (listObj (vs0 ++ vs) c) → Paired (fun y v => F y v s'.heap) xs vs → s'.heap.Ns C m → Rr (.ok .next) s') :
    codeAny (model prog w) A (.compLoop (.ListComp elt gens scope pos) depth (.ref it) (.ref D) cenv) Rr s := by
  subst hloc
  have hDW : ¬ W D := fun h => hD (I.sub D h)
  have hCW : ¬ W cenv.locals := fun h => hC (I.sub _ h)
  refine codeAny_loop rfl (FillJ OK S W V D cenv.locals R F s₀ vs0 xs) (fun n s hJ => ?_) xs.length ⟨[], xs, [], c0, m0, rfl, rfl, hok, hR, by rw [List.append_nil]; exact hS, .nil, hns, hX⟩
  show wpAny _ _ ((compTurn (.ListComp elt gens scope pos) depth (.ref it) (.ref D) cenv).onRaise (fun x => do noteFrame x cenv; theTreesLotGoes x)) _ _ s
  refine wpAny_noted ?_
  rw [heq]
  obtain ⟨done, rest, vs, c, m, hxs, rfl, ok1, R1, S1, P1, n1, X1⟩ := hJ
  refine wpAny_bind (wpAny_standAt (wpAny_bind ?_))
  cases rest with
  | nil =>
    refine I.nil s _ _ ok1 R1 fun s' hE => wpAny_pure ?_
    have e1 : Ext S (fun b => b = D ∨ b = cenv.locals ∨ W b) V s s' := hE.mono (fun _ h => h) (fun _ h => .inr (.inr h)) fun _ h => h
    refine hEnd s' vs c m (X1.trans e1) (hOK _ _ ok1 e1) (hE.heap _ _ hDS hDW S1) (by rw [hxs, List.append_nil]; exact Paired.up (fun a b h => hF a b s s' h e1) P1) (Ext.ns hE hCW n1)
  | cons y ys =>
    refine I.cons y ys s _ _ ok1 R1 fun v s₁ hv hE R2 => ?_
    have e1 : Ext S (fun b => b = D ∨ b = cenv.locals ∨ W b) V s s₁ := hE.mono (fun _ h => nomatch h) (fun _ h => .inr (.inr h)) fun _ h => h
    refine wpAny_bind (wpAny_of_eq (a := ()) rfl (wpAny_bind ?_))
    refine wpAny_assign_Name (wpAny_storeName_local hx (Ext.ns hE hCW n1) (fun h₂ hn₂ hs₂ => ?_) hp)
    have e2 : Ext [] (fun b => b = cenv.locals) V s₁ { s₁ with heap := h₂, toks := s₁.toks + 1 } := Ext.of_heap fun b o hb e => (hs₂.2 b hb).trans e
    have e2' : Ext S (fun b => b = D ∨ b = cenv.locals ∨ W b) V s₁ { s₁ with heap := h₂, toks := s₁.toks + 1 } := e2.mono (fun _ h => nomatch h) (fun _ h => .inr (.inl h)) fun _ h => h
    have ok2 := hOK _ _ ok1 (e1.trans e2')
    refine wpAny_bind (wpAny_bind (wpAny_mono (helt y v _ _ (by rw [hxs]; simp) ok2 (X1.trans (e1.trans e2')) hn₂ (by simp) hv) (fun r s₄ hr => ?_) fun _ _ f => f.elim))
    obtain ⟨hval, hext, m4, hn4⟩ := hr
    have e3 : Ext S (fun b => b = D ∨ b = cenv.locals ∨ W b) V { s₁ with heap := h₂, toks := s₁.toks + 1 } s₄ := hext.mono (fun _ h => h) (fun _ h => .inr (.inl h)) fun _ h => h.elim
    have S4 : s₄.heap.get? D = some (listObj (vs0 ++ vs) c) := hext.heap _ _ hDS hDC ((hs₂.2 D hDC).trans (hE.heap _ _ (by simp) hDW S1))
    have hlen : vs.length = done.length := P1.length.symm
    have hsz : (vs0 ++ vs).length ≤ 16777216 := by
      rw [List.length_append, hlen]
      rw [hxs, List.length_append] at hn
      omega
    refine wpAny_bind (append_obj S4 hsz fun h₅ hS5 hs5 => wpAny_pure (wpAny_pure ⟨rfl, ys.length, Nat.lt_succ_self _, ?_⟩))
    have e4 : Ext [] (fun b => b = D) V s₄ { s₄ with heap := h₅ } := Ext.of_heap (s := s₄) (tk := s₄.toks) fun b o hb e => (hs5.2 b hb).trans e
    have e4' : Ext S (fun b => b = D ∨ b = cenv.locals ∨ W b) V s₄ { s₄ with heap := h₅ } := e4.mono (fun _ h => nomatch h) (fun _ h => .inl h) fun _ h => h
    have eAll := (e1.trans e2').trans (e3.trans e4')
    have R5 : R ys { s₄ with heap := h₅ } := I.keeps ys s₁ _ R2 (fun b hb o e => by
      have h1 : b ≠ cenv.locals := fun h => hC (h ▸ hb)
      have h2 : b ≠ D := fun h => hD (h ▸ hb)
      exact (hs5.2 b h2).trans (hext.heap b o (hoS b hb) h1 ((hs₂.2 b h1).trans e))) (fun g _ z e => hext.gens g (fun h => h) z e)
    refine ⟨done ++ [y], ys, vs ++ [r], c + 1, m4, by rw [hxs]; simp, rfl, hOK _ _ ok1 eAll, R5, by rw [← List.append_assoc]; exact hS5, ?_, Ext.ns e4 (fun h => hDC h.symm) hn4, X1.trans eAll⟩
    exact Paired.snoc (Paired.up (fun a b h => hF a b s _ h eAll) P1) (hF y r s₄ _ hval e4')
end
end Mine
end
section
open PySem PySem.W PyProof.Rows
set_option maxRecDepth 100000
set_option maxHeartbeats 8000000
namespace Mine
section
variable {prog : Program} {w : World} {A : Around} {E : Value → Shared → Prop}
theorem It.of_walks {α : Type} {Val : α → Value → Prop} {I : Addr} {fp wr : List Addr} {n : Nat} {P : Nat → Value → Prop} {St : Nat → Heap → Prop} {OK : Heap → Prop} {S : List Addr} {xs0 : List α} (K : Walks prog w A I fp wr n P St)
    (hlen : xs0.length = n) (hv : ∀ i y v, xs0[i]? = some y → P i v → Val y v) :
    It prog w A Val I OK S (fun b => b ∈ wr) NoG fp (fun ys s => ∃ i, i ≤ n ∧ St i s.heap ∧ ys = xs0.drop i) where
  cons := fun y ys s Q E _ ⟨i, hi, hst, hy⟩ hQ => by
    have hlt : i < n := by
      rcases Nat.lt_or_ge i n with h | h
      · exact h
      · rw [List.drop_of_length_le (by omega)] at hy; cases hy
    have hlt' : i < xs0.length := by omega
    rw [List.drop_eq_getElem_cons hlt'] at hy
    have hy1 : y = xs0[i] := (List.cons.inj hy).1
    have hy2 : ys = xs0.drop (i + 1) := (List.cons.inj hy).2
    exact K.item i s Q E hlt hst fun v h' tk hp hst' hk => hQ v _ (hv i y v (by rw [hy1]; exact List.getElem?_eq_getElem hlt') hp) (.of_heap fun b o hb e => hk b o hb e) ⟨i + 1, hlt, hst', hy2⟩
  nil := fun s Q E _ ⟨i, hi, hst, hy⟩ hQ => by
    have hge : n ≤ i := by
      rcases Nat.lt_or_ge i n with h | h
      · have hlt' : i < xs0.length := by omega
        rw [List.drop_eq_getElem_cons hlt'] at hy; cases hy
      · exact h
    have : i = n := Nat.le_antisymm hi hge
    subst this
    exact K.done s Q E hst fun h' tk hk => hQ _ (.of_heap fun b o hb e => hk b o hb e)
  iter := fun xs s Q E _ hR hQ => by
    obtain ⟨i, hi, hst, hy⟩ := hR
    exact K.self i s Q E hst (hQ s (.refl _ _ _ s) ⟨i, hi, hst, hy⟩)
  keeps := fun xs s s' ⟨i, hi, hst, hy⟩ hk _ => ⟨i, hi, K.frame i _ _ hst hk, hy⟩
  sub := fun b hb => K.sub b hb
theorem It.of_own {dp un : Nat} {l : List Env} {gd : Option (List Code)} {x : Addr} {base : Heap} {W : Addr → Prop} {V : Nat → Prop} {own : List Addr} {R : List Str → Shared → Prop} (I : OwnIt prog w x base W V own R) (hd : dp ≤ 400) (hu : un ≤ 4000) (hnl : base.NoLimit)
    (hff : ∀ f ∈ frs l, f ∉ own) : It prog w (Ar dp un (some l) gd) (fun y v => ∃ t, v = .str y t) x (OkL base l) (frs l) W V own R where
  cons := fun y ys s Q E ok hR hQ => I.cons dp un l gd y ys s Q E hd hu ok.1 (hnl.keeps ok.1) ok.2 hR fun t s' hE hR' => hQ _ s' ⟨t, rfl⟩ hE hR'
  nil := fun s Q E ok hR hQ => I.nil dp un l gd s Q E hd hu ok.1 (hnl.keeps ok.1) ok.2 hff hR hQ
  iter := fun xs s Q E ok hR hQ => I.iter dp un l gd xs s Q E hd hu ok.1 (hnl.keeps ok.1) hR hQ
  keeps := I.keeps
  sub := I.sub
end
def CompTail (prog : Program) (w : World) (A : Around) (E : Value → Shared → Prop) (e : Expr) (scope : Scope) (cl : List (Str × Addr)) (env : Env) (use : Option (Value → Sem Unit)) (Q : Value → Shared → Prop) (it : Value) (s₂ : Shared) : Prop :=
  wpAny (model prog w) A (newList []) (fun acc s₃ => wpAny (model prog w) A (newFunctionEnv scope env.globals cl [] env.qual none .none (some env)) (fun cenv s₄ =>
    codeAny (model prog w) A (.compStart e 0 it acc { cenv with scope := relabel scope env }) (compPost (model prog w) A E use Q acc cenv.locals) s₄) E s₃) E s₂
section
variable {prog : Program} {w : World} {A : Around} {E : Value → Shared → Prop} {env : Env} {s : Shared}
theorem comp_head {elt target iter : Expr} {ifs : List Expr} {gens : List Comprehension} {scope : Scope} {cl : List (Str × Addr)} {pos : Pos} {Q : Value → Shared → Prop}
    (hclos : closureFor scope env = pure cl) (hkind : scope.kind = .function) (hnames : ∀ y ∈ scope.names, y.2 = .local → scope.names.lookup y.1 = some .local)
    (h : wpAny (model prog w) A (eval iter env) (fun xv s₁ => wpAny (model prog w) A (pyIter xv) (fun it s₂ => CompTail prog w A E (.ListComp elt (⟨target, iter, ifs, 0⟩ :: gens) scope pos) scope cl env none Q it s₂) E s₁) E s)
    (hs : ∀ x, foldedSetIterable iter env x = pure x := by intro _; rfl) :
    wpAny (model prog w) A (eval (.ListComp elt (⟨target, iter, ifs, 0⟩ :: gens) scope pos) env) Q E s := by
  rw [eval_ListComp]
  exact wpAny_comprehension_free (use := none) rfl hs hclos hkind hnames h
theorem assign_head {elt target iter : Expr} {ifs : List Expr} {gens : List Comprehension} {y : Str} {py : Pos} {scope : Scope} {cl : List (Str × Addr)} {pos spos : Pos} {Q : Flow → Shared → Prop}
    (hsw : swapsWith (.ListComp elt (⟨target, iter, ifs, 0⟩ :: gens) scope pos) (some (.Name y py)) spos.line env = pure true)
    (hclos : closureFor scope env = pure cl) (hkind : scope.kind = .function) (hnames : ∀ z ∈ scope.names, z.2 = .local → scope.names.lookup z.1 = some .local)
    (h : wpAny (model prog w) A (eval iter env) (fun xv s₁ => wpAny (model prog w) A (pyIter xv) (fun it s₂ => CompTail prog w A E (.ListComp elt (⟨target, iter, ifs, 0⟩ :: gens) scope pos) scope cl env (some (assign (.Name y py) env)) (fun _ s' => Q .next s') it s₂) E s₁) E s)
    (hs : ∀ x, foldedSetIterable iter env x = pure x := by intro _; rfl) :
    wpAny (model prog w) A (exec (.Assign [.Name y py] (.ListComp elt (⟨target, iter, ifs, 0⟩ :: gens) scope pos) spos) env) Q E s := by
  rw [exec_Assign_Name_used _ _ _ _ hsw]
  refine wpAny_bind (wpAny_standAt (wpAny_bind ?_))
  show wpAny _ A (do let _ ← comprehension (.ListComp elt (⟨target, iter, ifs, 0⟩ :: gens) scope pos) scope env _ (newList []) false (eval iter env) (some (assign (.Name y py) env))) _ _ s
  exact wpAny_bind (wpAny_mono (wpAny_comprehension_free (use := some (assign (.Name y py) env)) (Q := fun _ s' => Q .next s') rfl hs hclos hkind hnames h) (fun _ s' hq => wpAny_pure (wpAny_pure hq)) fun _ _ e => e)
variable {α : Type} {Val : α → Value → Prop} {it : Addr} {OK : Heap → Prop} {S : List Addr} {W : Addr → Prop} {V : Nat → Prop} {own : List Addr} {R : List α → Shared → Prop} {F : α → Value → Heap → Prop}
structure NewDC (s₂ : Shared) (S own : List Addr) (D C : Addr) : Prop where
  d : s₂.heap.get? D = none
  c : s₂.heap.get? C = none
  lt : D < C
  dsz : s₂.heap.objs.size ≤ D
  hi : C ≤ s₂.heap.objs.size + 1
theorem comp_go {elt iter : Expr} {x : Str} {px : Pos} {scope : Scope} {cl : List (Str × Addr)} {pos : Pos} {use : Option (Value → Sem Unit)} {Q : Value → Shared → Prop} {xs : List α}
    (hcell : ∀ y ∈ scope.names, y.2 ≠ .cell) (hkind : scope.kind = .function) (hx : scope.names.lookup x = some .local)
    (I : It prog w A Val it OK S W V own R) (hR : R xs s) (hok : OK s.heap) (hthere : ∀ b ∈ own, ∃ o, s.heap.get? b = some o) (hSt : ∀ b ∈ S, ∃ o, s.heap.get? b = some o) (hoS : ∀ b ∈ own, b ∉ S)
    (hOK : ∀ D C, NewDC s S own D C → ∀ (s s' : Shared), OK s.heap → Ext S (fun b => b = D ∨ b = C ∨ W b) V s s' → OK s'.heap)
    (hF : ∀ D C, NewDC s S own D C → ∀ y v (s s' : Shared), F y v s.heap → Ext S (fun b => b = D ∨ b = C ∨ W b) V s s' → F y v s'.heap)
    (helt : ∀ D C, NewDC s S own D C → ∀ y v (s₃ : Shared) m, y ∈ xs → OK s₃.heap → Ext S (fun b => b = D ∨ b = C ∨ W b) V s s₃ → s₃.heap.Ns C m → m x = some v → Val y v →
      wpAny (model prog w) A (eval elt (compEnvC scope cl C env)) (fun r s₄ => EltEnd F S C s₃ y r s₄) (fun _ _ => False) s₃)
    (hn : xs.length ≤ 16777216)
    (hEnd : ∀ D C s' vs c m, NewDC s S own D C → Ext S W V s s' → OK s'.heap → s'.heap.get? D = some (listObj vs c) → Paired (fun y v => F y v s'.heap) xs vs → s'.heap.Ns C m → compPost (model prog w) A E use Q (.ref D) C (.ok .next) s') :
    CompTail prog w A E (.ListComp elt [⟨.Name x px, iter, [], 0⟩] scope pos) scope cl env use Q (.ref it) s := by
  refine wpAny_newObj_type (wpAny_newFunctionEnv hcell (by intro y hy; simp at hy) (fun h₁ hns₁ hsb₁ => ?_) hkind)
  have kp : KeepAll s.heap (s.heap.push { cls := .type "list", dict := none, data := .seq ([] : List Value).toArray }) := fun b o e => Heap.get?_push_of_some _ e
  have kh : KeepAll (s.heap.push { cls := .type "list", dict := none, data := .seq ([] : List Value).toArray }) h₁ := fun b o e => hsb₁.extBut b o (Nat.ne_of_lt (Heap.lt_size e)) (Heap.get?_push_of_some _ e)
  have hCs : (s.heap.push { cls := .type "list", dict := none, data := .seq ([] : List Value).toArray }).objs.size = s.heap.objs.size + 1 := Heap.size_push ..
  have hD0 : h₁.get? s.heap.objs.size = some (listObj [] 0) := kh _ _ (Heap.get?_push_size _ rfl)
  generalize hCC : (s.heap.push { cls := .type "list", dict := none, data := .seq ([] : List Value).toArray }).objs.size = C at *
  have N : NewDC s S own s.heap.objs.size C := ⟨get?_size_none _ (Nat.le_refl _), get?_size_none _ (by rw [hCs]; exact Nat.le_succ _), by rw [hCs]; exact Nat.lt_succ_self _, Nat.le_refl _, Nat.le_of_eq hCs⟩
  generalize s.heap.objs.size = D at N hD0
  have e0 : Ext S (fun b => b = D ∨ b = C ∨ W b) V s { s with heap := h₁, toks := s.toks + ([] : List (Str × Value)).length } := .of_keep (kp.trans kh)
  have nt : ∀ b, s.heap.get? b = none → ∀ l : List Addr, (∀ b ∈ l, ∃ o, s.heap.get? b = some o) → b ∉ l := fun b e l hl h => by
    obtain ⟨o, ho⟩ := hl b h
    rw [e] at ho; cases ho
  have loop : ∀ s₄ : Shared, R xs s₄ → OK s₄.heap → Ext S (fun b => b = D ∨ b = C ∨ W b) V s s₄ → s₄.heap.get? D = some (listObj [] 0) → s₄.heap.Ns C (fun _ => none) →
      codeAny (model prog w) A (.compLoop (.ListComp elt [⟨.Name x px, iter, [], 0⟩] scope pos) 0 (.ref it) (.ref D) (compEnvC scope cl C env)) (compPost (model prog w) A E use Q (.ref D) C) s₄ := by
    intro s₄ hR4 ok4 x4 d4 n4
    refine fill_loop (F := F) (C := C) (vs0 := []) (s₀ := s) (compTurn_list1 _ _ _ _ _ _ _ _) I (lookup_relabel_local hx) (by simp [compEnvC, relabel, hkind]) rfl (nt D N.d _ hthere) (nt C N.c _ hthere) (Nat.ne_of_lt N.lt) (nt D N.d _ hSt) (nt C N.c _ hSt)
      (hOK D C N) (hF D C N) hoS (helt D C N) (by simpa using hn) ok4 hR4 d4 n4 x4 fun s' vs c m X ok' d' P n' => ?_
    exact hEnd D C s' vs c m N (X.shrink (fun b hb => by
      rcases hb with h | h | h
      · exact .inl (h ▸ N.d)
      · exact .inl (h ▸ N.c)
      · exact .inr h) fun g h => .inl h) ok' d' P n'
  have hR1 : R xs { s with heap := h₁, toks := s.toks + ([] : List (Str × Value)).length } := I.keeps _ _ _ hR (fun b _ o e => kh _ _ (kp _ _ e)) fun _ _ _ e => e
  have ok1 := hOK D C N _ _ hok e0
  refine codeAny_compStart_list (loop _ hR1 ok1 e0 hD0 hns₁) ?_
  refine I.iter xs _ _ _ ok1 hR1 fun s' hE hR' => ?_
  have e1 : Ext S (fun b => b = D ∨ b = C ∨ W b) V _ s' := hE.mono (fun _ h => nomatch h) (fun _ h => h.elim) fun _ h => h.elim
  exact loop s' hR' (hOK D C N _ _ ok1 e1) (e0.trans e1) (hE.keepAll _ _ hD0) (Ext.ns hE (fun h => h) hns₁)
end
end Mine
end
section
open PySem PySem.W PyProof.Rows
set_option maxRecDepth 100000
set_option maxHeartbeats 8000000
namespace Mine
section
variable {prog : Program} {w : World} {A : Around} {E : Value → Shared → Prop} {env : Env} {s : Shared}
variable {α : Type} {Val : α → Value → Prop} {it : Addr} {l : List Env} {base : Heap} {W : Addr → Prop} {V : Nat → Prop} {own : List Addr} {R : List α → Shared → Prop} {F : α → Value → Heap → Prop}
theorem OkL.frs_there {h : Heap} (o : OkL base l h) : ∀ b ∈ frs l, ∃ ob, h.get? b = some ob := fun b hb => let ⟨_, ob, e, _⟩ := o.2.mem hb; ⟨ob, e⟩
theorem NewDC.ok {D C : Addr} (N : NewDC s (frs l) own D C) (hok : OkL base l s.heap) (hW : ∀ b, W b → base.get? b = none ∧ b ∉ frs l) : ∀ (s s' : Shared), OkL base l s.heap → Ext (frs l) (fun b => b = D ∨ b = C ∨ W b) V s s' → OkL base l s'.heap := fun s₁ s₂ o x => by
  refine o.ext x fun b hb => ?_
  have nt : ∀ b, s.heap.get? b = none → base.get? b = none ∧ b ∉ frs l := fun b e => ⟨hok.1.none_of e, fun h => by
    obtain ⟨ob, hob⟩ := hok.frs_there b h
    rw [e] at hob; cases hob⟩
  rcases hb with rfl | rfl | hb
  · exact nt _ N.d
  · exact nt _ N.c
  · exact hW b hb
theorem comp_val {D C : Addr} {m : Str → Option Value} {S : List Addr} {s' : Shared} {vs : List Value} {c : Nat} {Q : Value → Shared → Prop} {xs : List α} (N : NewDC s S own D C) (X : Ext S W V s s') (d : s'.heap.get? D = some (listObj vs c)) (P : Paired (fun y v => F y v s'.heap) xs vs) (n : s'.heap.Ns C m)
    (hF : ∀ y v (s s' : Shared), F y v s.heap → Ext S (fun b => b = D ∨ b = C ∨ W b) V s s' → F y v s'.heap)
    (hQ : ∀ s'', Ext S W V s s'' → s''.heap.get? D = some (listObj vs c) → Paired (fun y v => F y v s''.heap) xs vs → Q (.ref D) s'') :
    compPost (model prog w) A E none Q (.ref D) C (.ok .next) s' := by
  refine ⟨m, n, fun h' hs => ?_⟩
  have e : Ext [] (fun b => b = C) V s' { s' with heap := h' } := Ext.of_heap (s := s') (tk := s'.toks) fun b o hb e => (hs.2 b hb).trans e
  refine hQ _ ((X.mono (fun _ h => h) (fun _ h => .inr h) (fun _ h => h)).trans (e.mono (fun _ h => nomatch h) (W' := fun b => b = C ∨ W b) (fun _ h => .inl h) fun _ h => h) |>.shrink (fun b hb => ?_) fun g h => .inl h) ((hs.2 D (Nat.ne_of_lt N.lt)).trans d) (Paired.up (fun a b h => hF a b s' _ h (e.mono (fun _ h => nomatch h) (fun _ h => .inr (.inl h)) fun _ h => h)) P)
  rcases hb with h | h
  · exact .inl (h ▸ N.c)
  · exact .inr h
theorem comp_asg {D C : Addr} {m mL : Str → Option Value} {S : List Addr} {s' : Shared} {vs : List Value} {c : Nat} {Q : Shared → Prop} {xs : List α} {y : Str} {py : Pos} {L : Addr} (N : NewDC s S own D C) (X : Ext S W V s s') (d : s'.heap.get? D = some (listObj vs c)) (P : Paired (fun y v => F y v s'.heap) xs vs) (n : s'.heap.Ns C m)
    (hF : ∀ y v (s s' : Shared), F y v s.heap → Ext S (fun b => b = D ∨ b = C ∨ W b) V s s' → F y v s'.heap)
    (hFL : ∀ y v h h', F y v h → Heap.SameBut L h h' → F y v h')
    (hloc : env.locals = L) (hk : env.kindOf y = some .local) (hp : (env.scope.kind == .class || (env.scope.kind == .module && env.locals != env.globals)) = false) (hL : s.heap.Ns L mL) (hLW : ¬ W L)
    (hQ : ∀ s'', Ext S (fun b => b = L ∨ W b) V s s'' → s''.heap.Ns L (fun z => if z = y then some (.ref D) else mL z) → s''.heap.get? D = some (listObj vs c) → Paired (fun y v => F y v s''.heap) xs vs → Q s'') :
    compPost (model prog w) A E (some (assign (.Name y py) env)) (fun _ s' => Q s') (.ref D) C (.ok .next) s' := by
  subst hloc
  show wpAny _ _ (assign (.Name y py) env (.ref D)) _ _ _
  have hLne : ∀ b, s.heap.get? b = none → b ≠ env.locals := fun b e h => by
    obtain ⟨o, _, _, ho, _⟩ := hL
    rw [← h, e] at ho; cases ho
  have hDL := hLne D N.d
  have hCL := hLne C N.c
  refine wpAny_assign_Name (wpAny_storeName_local hk (Ext.ns X hLW hL) (fun h₂ hn₂ hs₂ => ?_) hp)
  refine ⟨m, n.sameBut hs₂ hCL, fun h' hs => ?_⟩
  have e1 : Ext [] (fun b => b = env.locals) V s' { s' with heap := h₂, toks := s'.toks + 1 } := Ext.of_heap fun b o hb e => (hs₂.2 b hb).trans e
  have e2 : Ext [] (fun b => b = C) V { s' with heap := h₂, toks := s'.toks + 1 } { s' with heap := h', toks := s'.toks + 1 } := Ext.of_heap (s := { s' with heap := h₂, toks := s'.toks + 1 }) fun b o hb e => (hs.2 b hb).trans e
  refine hQ _ (((X.mono (fun _ h => h) (W' := fun b => b = C ∨ b = env.locals ∨ W b) (fun _ h => .inr (.inr h)) (fun _ h => h)).trans ((e1.mono (fun _ h => nomatch h) (fun _ h => .inr (.inl h)) fun _ h => h).trans (e2.mono (fun _ h => nomatch h) (fun _ h => .inl h) fun _ h => h))).shrink (fun b hb => ?_) fun g h => .inl h) (hn₂.sameBut hs (Ne.symm hCL)) ((hs.2 D (Nat.ne_of_lt N.lt)).trans ((hs₂.2 D hDL).trans d))
    (Paired.up (fun a b h => hF a b { s' with heap := h₂, toks := s'.toks + 1 } _ (hFL a b _ _ h hs₂) (e2.mono (fun _ h => nomatch h) (fun _ h => .inr (.inl h)) fun _ h => h)) P)
  rcases hb with h | h
  · exact .inl (h ▸ N.c)
  · exact .inr h
theorem comp_over {elt iter : Expr} {x : Str} {px : Pos} {scope : Scope} {cl : List (Str × Addr)} {pos : Pos} {Q : Value → Shared → Prop} {xs : List α}
    (hcell : ∀ y ∈ scope.names, y.2 ≠ .cell) (hkind : scope.kind = .function) (hx : scope.names.lookup x = some .local)
    (I : It prog w A Val it (OkL base l) (frs l) W V own R) (hR : R xs s) (hok : OkL base l s.heap) (hthere : ∀ b ∈ own, ∃ o, s.heap.get? b = some o) (hoS : ∀ b ∈ own, b ∉ frs l) (hW : ∀ b, W b → base.get? b = none)
    (hF : ∀ D C, NewDC s (frs l) own D C → ∀ y v (s s' : Shared), F y v s.heap → Ext (frs l) (fun b => b = D ∨ b = C ∨ W b) V s s' → F y v s'.heap)
    (helt : ∀ D C, NewDC s (frs l) own D C → ∀ y v (s₃ : Shared) m, y ∈ xs → OkL base l s₃.heap → Ext (frs l) (fun b => b = D ∨ b = C ∨ W b) V s s₃ → s₃.heap.Ns C m → m x = some v → Val y v →
      wpAny (model prog w) A (eval elt (compEnvC scope cl C env)) (fun r s₄ => EltEnd F (frs l) C s₃ y r s₄) (fun _ _ => False) s₃)
    (hn : xs.length ≤ 16777216)
    (hQ : ∀ D s' vs c, s.heap.get? D = none → s.heap.objs.size ≤ D → Ext (frs l) W V s s' → s'.heap.get? D = some (listObj vs c) → Paired (fun y v => F y v s'.heap) xs vs → Q (.ref D) s') :
    CompTail prog w A E (.ListComp elt [⟨.Name x px, iter, [], 0⟩] scope pos) scope cl env none Q (.ref it) s :=
  comp_go hcell hkind hx I hR hok hthere hok.frs_there hoS (fun D C N => N.ok hok fun b h => ⟨hW b h, hoS b (I.sub b h)⟩) hF helt hn fun D C s' vs c m N X _ d P n => comp_val N X d P n (hF D C N) fun s'' X d P => hQ D s'' vs c N.d N.dsz X d P
theorem comp_set {elt iter : Expr} {x y : Str} {px py : Pos} {scope : Scope} {cl : List (Str × Addr)} {pos : Pos} {Q : Shared → Prop} {xs : List α} {L : Addr} {mL : Str → Option Value}
    (hcell : ∀ y ∈ scope.names, y.2 ≠ .cell) (hkind : scope.kind = .function) (hx : scope.names.lookup x = some .local)
    (hloc : env.locals = L) (hk : env.kindOf y = some .local) (hp : (env.scope.kind == .class || (env.scope.kind == .module && env.locals != env.globals)) = false) (hL : s.heap.Ns L mL) (hLW : ¬ W L)
    (I : It prog w A Val it (OkL base l) (frs l) W V own R) (hR : R xs s) (hok : OkL base l s.heap) (hthere : ∀ b ∈ own, ∃ o, s.heap.get? b = some o) (hoS : ∀ b ∈ own, b ∉ frs l) (hW : ∀ b, W b → base.get? b = none)
    (hF : ∀ D C, NewDC s (frs l) own D C → ∀ y v (s s' : Shared), F y v s.heap → Ext (frs l) (fun b => b = D ∨ b = C ∨ W b) V s s' → F y v s'.heap)
    (hFL : ∀ y v h h', F y v h → Heap.SameBut L h h' → F y v h')
    (helt : ∀ D C, NewDC s (frs l) own D C → ∀ y v (s₃ : Shared) m, y ∈ xs → OkL base l s₃.heap → Ext (frs l) (fun b => b = D ∨ b = C ∨ W b) V s s₃ → s₃.heap.Ns C m → m x = some v → Val y v →
      wpAny (model prog w) A (eval elt (compEnvC scope cl C env)) (fun r s₄ => EltEnd F (frs l) C s₃ y r s₄) (fun _ _ => False) s₃)
    (hn : xs.length ≤ 16777216)
    (hQ : ∀ D s' vs c, s.heap.get? D = none → s.heap.objs.size ≤ D → Ext (frs l) (fun b => b = L ∨ W b) V s s' → s'.heap.Ns L (fun z => if z = y then some (.ref D) else mL z) → s'.heap.get? D = some (listObj vs c) → Paired (fun y v => F y v s'.heap) xs vs → Q s') :
    CompTail prog w A E (.ListComp elt [⟨.Name x px, iter, [], 0⟩] scope pos) scope cl env (some (assign (.Name y py) env)) (fun _ s' => Q s') (.ref it) s :=
  comp_go hcell hkind hx I hR hok hthere hok.frs_there hoS (fun D C N => N.ok hok fun b h => ⟨hW b h, hoS b (I.sub b h)⟩) hF helt hn fun D C s' vs c m N X _ d P n => comp_asg N X d P n (hF D C N) hFL hloc hk hp hL hLW fun s'' X nL d P => hQ D s'' vs c N.d N.dsz X nL d P
end
end Mine
end
section
open PySem PySem.W PyProof.Rows
set_option maxRecDepth 100000
set_option maxHeartbeats 8000000
namespace Mine
theorem compTurn_two0 (elt iter iter2 : Expr) (x x2 : Str) (px px2 : Pos) (scope : Scope) (pos : Pos) (it acc : Value) (env : Env) :
    compTurn (.ListComp elt [⟨.Name x px, iter, [], 0⟩, ⟨.Name x2 px2, iter2, [], 0⟩] scope pos) 0 it acc env = (standAt iter.pos >>= fun _ => pyNext it >>= fun r => match r with
      | none => pure (.done .next)
      | some v => letOwnedTupleGo (.Name x px) it v >>= fun _ => assign (.Name x px) env v >>= fun _ =>
        eval iter2 env >>= fun xv => standAt iter2.pos >>= fun _ => foldedSetIterable iter2 env xv >>= fun xv => holding [xv] (pyIter xv) >>= fun itv =>
          runOwn (.compStart (.ListComp elt [⟨.Name x px, iter, [], 0⟩, ⟨.Name x2 px2, iter2, [], 0⟩] scope pos) 1 itv acc env) env >>= fun _ =>
          again (.compLoop (.ListComp elt [⟨.Name x px, iter, [], 0⟩, ⟨.Name x2 px2, iter2, [], 0⟩] scope pos) 0 it acc env)) := by rfl
theorem compTurn_two1 (elt iter iter2 : Expr) (x x2 : Str) (px px2 : Pos) (scope : Scope) (pos : Pos) (it acc : Value) (env : Env) :
    compTurn (.ListComp elt [⟨.Name x px, iter, [], 0⟩, ⟨.Name x2 px2, iter2, [], 0⟩] scope pos) 1 it acc env = (standAt iter2.pos >>= fun _ => pyNext it >>= fun r => match r with
      | none => pure (.done .next)
      | some v => letOwnedTupleGo (.Name x2 px2) it v >>= fun _ => assign (.Name x2 px2) env v >>= fun _ =>
        (eval elt env >>= fun x => PySem.call (.builtin "list.append") [acc, x] >>= fun _ => pure ()) >>= fun _ =>
          again (.compLoop (.ListComp elt [⟨.Name x px, iter, [], 0⟩, ⟨.Name x2 px2, iter2, [], 0⟩] scope pos) 1 it acc env)) := by rfl
theorem codeAny_compStart_two {prog : Program} {w : World} {A : Around} {R : Result → Shared → Prop} {s : Shared} {elt iter iter2 t1 t2 scope pos it acc env}
    (h0 : codeAny (model prog w) A (.compLoop (.ListComp elt [⟨t1, iter, [], 0⟩, ⟨t2, iter2, [], 0⟩] scope pos) 1 it acc env) R s)
    (h : wpAny (model prog w) A (pyIter it) (fun it' s' => codeAny (model prog w) A (.compLoop (.ListComp elt [⟨t1, iter, [], 0⟩, ⟨t2, iter2, [], 0⟩] scope pos) 1 it' acc env) R s')
      (notedBy (model prog w) A env fun x s' => R (.error x) s') s) :
    codeAny (model prog w) A (.compStart (.ListComp elt [⟨t1, iter, [], 0⟩, ⟨t2, iter2, [], 0⟩] scope pos) 1 it acc env) R s := by
  refine codeAny_of_tree ?_
  show wpAny _ _ ((compStart (.ListComp elt [⟨t1, iter, [], 0⟩, ⟨t2, iter2, [], 0⟩] scope pos) 1 it acc env).onRaise (fun x => do noteFrame x env; standAt theWindowsPlace)) _ _ s
  refine wpAny_notedAt ?_
  unfold compStart
  show wpAny _ _ (ask >>= _) _ _ s
  refine wpAny_bind (wpAny_askSetting (wpAny_ite ?_))
  split
  · exact wpAny_bind (wpAny_pure (wpAny_pure (And.intro rfl h0)))
  · refine wpAny_bind (wpAny_rule ?_)
    show wpAny _ _ (standAt iter2.pos >>= _) _ _ s
    exact wpAny_bind (wpAny_standAt (wpAny_bind (wpAny_mono h (fun it' s' h' => wpAny_pure (And.intro rfl h')) fun _ _ x => x)))
section
variable {prog : Program} {w : World} {A : Around} {E : Value → Shared → Prop} {env : Env} {s : Shared}
variable {α γ : Type} {Val : α → Value → Prop} {it D C : Addr} {OK : Heap → Prop} {S : List Addr} {W : Addr → Prop} {V : Nat → Prop} {own : List Addr} {R : List α → Shared → Prop} {F : γ → Value → Prop} {g : α → List γ}
inductive InnerOut (prog : Program) (w : World) (A : Around) (S : List Addr) (D C : Addr) (F : γ → Value → Prop) (elt : Expr) (x2 : Str) (cenv : Env) (ys : List γ) (s₃ : Shared) (itv : Value) (s₅ : Shared) : Prop
  | mk (Val2 : γ → Value → Prop) (it2 : Addr) (OK2 : Heap → Prop) (W2 : Addr → Prop) (V2 : Nat → Prop) (own2 : List Addr) (R2 : List γ → Shared → Prop) (e : itv = .ref it2) (I : It prog w A Val2 it2 OK2 S W2 V2 own2 R2) (hR : R2 ys s₅) (ok : OK2 s₅.heap)
    (h1 : ∀ b ∈ own2, b ≠ D ∧ b ≠ C ∧ b ∉ S) (h2 : ∀ b, W2 b → s₃.heap.get? b = none) (h3 : ∀ g, V2 g → s₃.gens.size ≤ g)
    (h4 : ∀ (s s' : Shared), OK2 s.heap → Ext S (fun b => b = D ∨ b = C ∨ W2 b) V2 s s' → OK2 s'.heap)
    (h5 : ∀ y v (s₆ : Shared) m, y ∈ ys → OK2 s₆.heap → Ext S (fun b => b = D ∨ b = C ∨ W2 b) V2 s₅ s₆ → s₆.heap.Ns C m → m x2 = some v → Val2 y v → wpAny (model prog w) A (eval elt cenv) (fun r s₇ => EltEnd (fun y v _ => F y v) S C s₆ y r s₇) (fun _ _ => False) s₆) :
    InnerOut prog w A S D C F elt x2 cenv ys s₃ itv s₅
structure InnerAt (prog : Program) (w : World) (A : Around) (S own : List Addr) (D C : Addr) (F : γ → Value → Prop) (elt : Expr) (x2 : Str) (cenv : Env) (ys : List γ) (s₃ : Shared) (itv : Value) (s₅ : Shared) : Prop where
  out : InnerOut prog w A S D C F elt x2 cenv ys s₃ itv s₅
  ext : Ext S (fun b => b = C) NoG s₃ s₅
  ns : ∃ m, s₅.heap.Ns C m
inductive FillJ2 (OK : Heap → Prop) (S : List Addr) (W : Addr → Prop) (V : Nat → Prop) (D C : Addr) (R : List α → Shared → Prop) (F : γ → Value → Prop) (g : α → List γ) (s₀ : Shared) (xs : List α) (n : Nat) (s' : Shared) : Prop
  | mk (done rest : List α) (vs : List Value) (c : Nat) (m : Str → Option Value) (hx : xs = done ++ rest) (hn : n = rest.length) (ok : OK s'.heap) (hR : R rest s') (hD : s'.heap.get? D = some (listObj vs c)) (hP : Paired F (done.flatMap g) vs) (hns : s'.heap.Ns C m)
      (hE : Ext S (fun b => b = D ∨ b = C ∨ W b) V s₀ s') : FillJ2 OK S W V D C R F g s₀ xs n s'
theorem Paired.app {β : Type} {P : γ → β → Prop} {a c : List γ} {b d : List β} (h1 : Paired P a b) (h : Paired P c d) : Paired P (a ++ c) (b ++ d) := by
  induction h1 with
  | nil => exact h
  | cons x t ih => exact .cons x ih
theorem fill_loop2 {elt iter iter2 : Expr} {scope : Scope} {pos : Pos} {x x2 : Str} {px px2 : Pos} {cenv : Env} {Rr : Result → Shared → Prop} {s₀ : Shared} {c0 : Nat} {xs : List α} {m0 : Str → Option Value}
    (hh : A.mark none = A) (I : It prog w A Val it OK S W V own R) (hx : cenv.kindOf x = some .local) (hx2 : cenv.kindOf x2 = some .local) (hp : (cenv.scope.kind == .class || (cenv.scope.kind == .module && cenv.locals != cenv.globals)) = false)
    (hs2 : ∀ v, foldedSetIterable iter2 cenv v = pure v)
    (hloc : cenv.locals = C) (hD : D ∉ own) (hC : C ∉ own) (hDC : D ≠ C) (hDS : D ∉ S) (hCS : C ∉ S)
    (hOK : ∀ (s s' : Shared), OK s.heap → Ext S (fun b => b = D ∨ b = C ∨ W b) V s s' → OK s'.heap)
    (hoS : ∀ b ∈ own, b ∉ S)
    (hin : ∀ y v (s₃ : Shared) m vs c, y ∈ xs → OK s₃.heap → Ext S (fun b => b = D ∨ b = C ∨ W b) V s₀ s₃ → s₃.heap.Ns C m → m x = some v → Val y v → s₃.heap.get? D = some (listObj vs c) →
      wpAny (model prog w) A (eval iter2 cenv) (fun xv s₄ => wpAny (model prog w) A (pyIter xv) (fun itv s₅ => InnerAt prog w A S own D C F elt x2 cenv (g y) s₃ itv s₅) (fun _ _ => False) s₄) (fun _ _ => False) s₃)
    (hn : (xs.flatMap g).length ≤ 16777216) (hok : OK s.heap) (hR : R xs s) (hS : s.heap.get? D = some (listObj [] c0)) (hns : s.heap.Ns C m0) (hX : Ext S (fun b => b = D ∨ b = C ∨ W b) V s₀ s)
    (hEnd : ∀ s' vs c m, Ext S (fun b => b = D ∨ b = C ∨ W b) V s₀ s' → OK s'.heap → s'.heap.get? D = some (listObj vs c) → Paired F (xs.flatMap g) vs → s'.heap.Ns C m → Rr (.ok .next) s') :
    codeAny (model prog w) A (.compLoop (.ListComp elt [⟨.Name x px, iter, [], 0⟩, ⟨.Name x2 px2, iter2, [], 0⟩] scope pos) 0 (.ref it) (.ref D) cenv) Rr s := by
  subst hloc
  have hDW : ¬ W D := fun h => hD (I.sub D h)
  have hCW : ¬ W cenv.locals := fun h => hC (I.sub _ h)
  refine codeAny_loop rfl (FillJ2 OK S W V D cenv.locals R F g s₀ xs) (fun n s hJ => ?_) xs.length ⟨[], xs, [], c0, m0, rfl, rfl, hok, hR, hS, .nil, hns, hX⟩
  show wpAny _ _ ((compTurn (.ListComp elt [⟨.Name x px, iter, [], 0⟩, ⟨.Name x2 px2, iter2, [], 0⟩] scope pos) 0 (.ref it) (.ref D) cenv).onRaise (fun x => do noteFrame x cenv; theTreesLotGoes x)) _ _ s
  refine wpAny_noted ?_
  rw [compTurn_two0]
  obtain ⟨done, rest, vs, c, m, hxs, rfl, ok1, R1, S1, P1, n1, X1⟩ := hJ
  refine wpAny_bind (wpAny_standAt (wpAny_bind ?_))
  cases rest with
  | nil =>
    refine I.nil s _ _ ok1 R1 fun s' hE => wpAny_pure ?_
    have e1 : Ext S (fun b => b = D ∨ b = cenv.locals ∨ W b) V s s' := hE.mono (fun _ h => h) (fun _ h => .inr (.inr h)) fun _ h => h
    exact hEnd s' vs c m (X1.trans e1) (hOK _ _ ok1 e1) (hE.heap _ _ hDS hDW S1) (by rw [hxs, List.append_nil]; exact P1) (Ext.ns hE hCW n1)
  | cons y ys =>
    refine I.cons y ys s _ _ ok1 R1 fun v s₁ hv hE R2 => ?_
    have e1 : Ext S (fun b => b = D ∨ b = cenv.locals ∨ W b) V s s₁ := hE.mono (fun _ h => nomatch h) (fun _ h => .inr (.inr h)) fun _ h => h
    refine wpAny_bind (wpAny_of_eq (a := ()) rfl (wpAny_bind ?_))
    refine wpAny_assign_Name (wpAny_storeName_local hx (Ext.ns hE hCW n1) (fun h₂ hn₂ hs₂ => ?_) hp)
    have e2 : Ext [] (fun b => b = cenv.locals) V s₁ { s₁ with heap := h₂, toks := s₁.toks + 1 } := Ext.of_heap fun b o hb e => (hs₂.2 b hb).trans e
    have e2' : Ext S (fun b => b = D ∨ b = cenv.locals ∨ W b) V s₁ { s₁ with heap := h₂, toks := s₁.toks + 1 } := e2.mono (fun _ h => nomatch h) (fun _ h => .inr (.inl h)) fun _ h => h
    have ok2 := hOK _ _ ok1 (e1.trans e2')
    have S3 : h₂.get? D = some (listObj vs c) := (hs₂.2 D hDC).trans (hE.heap _ _ (by simp) hDW S1)
    refine wpAny_bind (wpAny_mono (hin y v { s₁ with heap := h₂, toks := s₁.toks + 1 } _ vs c (by rw [hxs]; simp) ok2 (X1.trans (e1.trans e2')) hn₂ (by simp) hv S3) (fun xv s₄ h₄ => ?_) fun _ _ f => f.elim)
    refine wpAny_bind (wpAny_standAt (wpAny_bind (wpAny_of_eq (hs2 xv) (wpAny_bind (wpAny_holding (wpAny_mono h₄ (fun itv s₅ h₅ => ?_) fun _ _ f => f.elim))))))
    obtain ⟨⟨Val2, it2, OK2, W2, V2, own2, R2', rfl, I2, hR2, hok2, hoff, hW2, hV2, hOK2, helt2⟩, hX5, m5, hn5⟩ := h₅
    have hCD : cenv.locals ≠ D := hDC.symm
    have S5 : s₅.heap.get? D = some (listObj vs c) := hX5.heap _ _ hDS hDC S3
    have hlen : vs.length = (done.flatMap g).length := P1.length.symm
    have hsz : vs.length + (g y).length ≤ 16777216 := by
      rw [hxs, List.flatMap_append, List.length_append, List.flatMap_cons, List.length_append] at hn
      omega
    have fin : ∀ s₆ vs2 c2 m2, Ext S (fun b => b = D ∨ b = cenv.locals ∨ W2 b) V2 s₅ s₆ → s₆.heap.get? D = some (listObj (vs ++ vs2) c2) → Paired F (g y) vs2 → s₆.heap.Ns cenv.locals m2 →
        FillJ2 OK S W V D cenv.locals R F g s₀ xs ys.length s₆ := by
      intro s₆ vs2 c2 m2 X6 S6 P6 n6
      have x56 : Ext S (fun b => b = D ∨ b = cenv.locals ∨ W2 b) V2 { s₁ with heap := h₂, toks := s₁.toks + 1 } s₆ := (hX5.mono (fun _ h => h) (fun _ h => .inr (.inl h)) fun _ h => h.elim).trans X6
      have e3 : Ext S (fun b => b = D ∨ b = cenv.locals ∨ W b) V { s₁ with heap := h₂, toks := s₁.toks + 1 } s₆ := x56.shrink (fun b hb => by
        rcases hb with h | h | h
        · exact .inr (.inl h)
        · exact .inr (.inr (.inl h))
        · exact .inl (hW2 b h)) fun g h => .inr (hV2 g h)
      have eAll := (e1.trans e2').trans e3
      refine ⟨done ++ [y], ys, vs ++ vs2, c2, m2, by rw [hxs]; simp, rfl, hOK _ _ ok1 eAll, ?_, S6, ?_, n6, X1.trans eAll⟩
      · refine I.keeps ys s₁ _ R2 (fun b hb o e => ?_) fun g hg z e => ?_
        · have h1 : b ≠ cenv.locals := fun h => hC (h ▸ hb)
          have h2 : b ≠ D := fun h => hD (h ▸ hb)
          have e' : h₂.get? b = some o := (hs₂.2 b h1).trans e
          exact x56.heap b o (hoS b hb) (fun h => by
            rcases h with h | h | h
            · exact h2 h
            · exact h1 h
            · have z := hW2 b h
              have z' : h₂.get? b = none := z
              rw [e'] at z'; cases z') e'
        · refine x56.gens g (fun h => ?_) z e
          have z1 : s₁.gens.size ≤ g := hV2 g h
          rw [Array.getElem?_eq_none z1] at e; cases e
      · rw [List.flatMap_append]
        exact Paired.app P1 (by simpa using P6)
    have inner : ∀ s₆ : Shared, R2' (g y) s₆ → OK2 s₆.heap → Ext S (fun b => b = D ∨ b = cenv.locals ∨ W2 b) V2 s₅ s₆ → s₆.heap.get? D = some (listObj vs c) → s₆.heap.Ns cenv.locals m5 →
        codeAny (model prog w) A (.compLoop (.ListComp elt [⟨.Name x px, iter, [], 0⟩, ⟨.Name x2 px2, iter2, [], 0⟩] scope pos) 1 (.ref it2) (.ref D) cenv)
          (fun r s' => r = .ok .next ∧ FillJ2 OK S W V D cenv.locals R F g s₀ xs ys.length s') s₆ := by
      intro s₆ r6 o6 x6 d6 n6
      exact fill_loop (F := fun y v _ => F y v) (C := cenv.locals) (vs0 := vs) (s₀ := s₅) (compTurn_two1 _ _ _ _ _ _ _ _ _ _ _ _) I2 hx2 hp rfl (fun h => (hoff D h).1 rfl) (fun h => (hoff _ h).2.1 rfl) hDC hDS hCS hOK2 (fun _ _ _ _ h _ => h) (fun b h => (hoff b h).2.2) helt2 hsz o6 r6 d6 n6 x6
        fun s' vs' c' m' X' _ d' P' n' => ⟨rfl, fin s' vs' c' m' X' d' P' n'⟩
    refine wpAny_bind (wpAny_runOwn ?_)
    show codeAny (model prog w) (A.mark none) _ _ _
    rw [hh]
    have r0 : Ext S (fun b => b = D ∨ b = cenv.locals ∨ W2 b) V2 s₅ s₅ := .refl _ _ _ s₅
    refine codeAny_mono (R := fun r s' => r = .ok .next ∧ FillJ2 OK S W V D cenv.locals R F g s₀ xs ys.length s') (codeAny_compStart_two (inner s₅ hR2 hok2 r0 S5 hn5) ?_) (fun r s' hr => ?_)
    · refine I2.iter (g y) s₅ _ _ hok2 hR2 fun s' hE' hR' => ?_
      have e1' : Ext S (fun b => b = D ∨ b = cenv.locals ∨ W2 b) V2 s₅ s' := hE'.mono (fun _ h => nomatch h) (fun _ h => h.elim) fun _ h => h.elim
      exact inner s' hR' (hOK2 _ _ hok2 e1') e1' (hE'.keepAll _ _ S5) (Ext.ns hE' (fun h => h) hn5)
    · obtain ⟨rfl, hJ⟩ := hr
      exact wpAny_pure ⟨rfl, ys.length, Nat.lt_succ_self _, hJ⟩
end
end Mine
end
section
open PySem PySem.W PyProof.Rows
set_option maxRecDepth 100000
set_option maxHeartbeats 8000000
set_option linter.unusedVariables false
namespace Mine
section
variable {prog : Program} {w : World} {A : Around} {E : Value → Shared → Prop} {env : Env} {s : Shared}
variable {α γ : Type} {Val : α → Value → Prop} {it : Addr} {l : List Env} {base : Heap} {W : Addr → Prop} {V : Nat → Prop} {own : List Addr} {R : List α → Shared → Prop} {F : γ → Value → Prop} {g : α → List γ}
theorem comp_over2 {elt iter iter2 : Expr} {x x2 : Str} {px px2 : Pos} {scope : Scope} {cl : List (Str × Addr)} {pos : Pos} {Q : Value → Shared → Prop} {xs : List α}
    (hh : A.mark none = A) (hcell : ∀ y ∈ scope.names, y.2 ≠ .cell) (hkind : scope.kind = .function) (hx : scope.names.lookup x = some .local) (hx2 : scope.names.lookup x2 = some .local)
    (hs2 : ∀ C v, foldedSetIterable iter2 (compEnvC scope cl C env) v = pure v)
    (I : It prog w A Val it (OkL base l) (frs l) W V own R) (hR : R xs s) (hok : OkL base l s.heap) (hthere : ∀ b ∈ own, ∃ o, s.heap.get? b = some o) (hoS : ∀ b ∈ own, b ∉ frs l) (hW : ∀ b, W b → base.get? b = none)
    (hin : ∀ D C, NewDC s (frs l) own D C → ∀ y v (s₃ : Shared) m vs c, y ∈ xs → OkL base l s₃.heap → Ext (frs l) (fun b => b = D ∨ b = C ∨ W b) V s s₃ → s₃.heap.Ns C m → m x = some v → Val y v → s₃.heap.get? D = some (listObj vs c) →
      wpAny (model prog w) A (eval iter2 (compEnvC scope cl C env)) (fun xv s₄ => wpAny (model prog w) A (pyIter xv) (fun itv s₅ => InnerAt prog w A (frs l) own D C F elt x2 (compEnvC scope cl C env) (g y) s₃ itv s₅) (fun _ _ => False) s₄) (fun _ _ => False) s₃)
    (hn : (xs.flatMap g).length ≤ 16777216)
    (hQ : ∀ D s' vs c, s.heap.get? D = none → s.heap.objs.size ≤ D → Ext (frs l) W V s s' → s'.heap.get? D = some (listObj vs c) → Paired F (xs.flatMap g) vs → Q (.ref D) s') :
    CompTail prog w A E (.ListComp elt [⟨.Name x px, iter, [], 0⟩, ⟨.Name x2 px2, iter2, [], 0⟩] scope pos) scope cl env none Q (.ref it) s := by
  refine wpAny_newObj_type (wpAny_newFunctionEnv hcell (by intro y hy; simp at hy) (fun h₁ hns₁ hsb₁ => ?_) hkind)
  have kp : KeepAll s.heap (s.heap.push { cls := .type "list", dict := none, data := .seq ([] : List Value).toArray }) := fun b o e => Heap.get?_push_of_some _ e
  have kh : KeepAll (s.heap.push { cls := .type "list", dict := none, data := .seq ([] : List Value).toArray }) h₁ := fun b o e => hsb₁.extBut b o (Nat.ne_of_lt (Heap.lt_size e)) (Heap.get?_push_of_some _ e)
  have hCs : (s.heap.push { cls := .type "list", dict := none, data := .seq ([] : List Value).toArray }).objs.size = s.heap.objs.size + 1 := Heap.size_push ..
  have hD0 : h₁.get? s.heap.objs.size = some (listObj [] 0) := kh _ _ (Heap.get?_push_size _ rfl)
  generalize hCC : (s.heap.push { cls := .type "list", dict := none, data := .seq ([] : List Value).toArray }).objs.size = C at *
  have N : NewDC s (frs l) own s.heap.objs.size C := ⟨get?_size_none _ (Nat.le_refl _), get?_size_none _ (by rw [hCs]; exact Nat.le_succ _), by rw [hCs]; exact Nat.lt_succ_self _, Nat.le_refl _, Nat.le_of_eq hCs⟩
  generalize s.heap.objs.size = D at N hD0
  have e0 : Ext (frs l) (fun b => b = D ∨ b = C ∨ W b) V s { s with heap := h₁, toks := s.toks + ([] : List (Str × Value)).length } := .of_keep (kp.trans kh)
  have nt : ∀ b, s.heap.get? b = none → ∀ l : List Addr, (∀ b ∈ l, ∃ o, s.heap.get? b = some o) → b ∉ l := fun b e l hl h => by
    obtain ⟨o, ho⟩ := hl b h
    rw [e] at ho; cases ho
  have hSt := hok.frs_there
  have hOK := N.ok (V := V) hok fun b h => ⟨hW b h, hoS b (I.sub b h)⟩
  have loop : ∀ s₄ : Shared, R xs s₄ → OkL base l s₄.heap → Ext (frs l) (fun b => b = D ∨ b = C ∨ W b) V s s₄ → s₄.heap.get? D = some (listObj [] 0) → s₄.heap.Ns C (fun _ => none) →
      codeAny (model prog w) A (.compLoop (.ListComp elt [⟨.Name x px, iter, [], 0⟩, ⟨.Name x2 px2, iter2, [], 0⟩] scope pos) 0 (.ref it) (.ref D) (compEnvC scope cl C env)) (compPost (model prog w) A E none Q (.ref D) C) s₄ := by
    intro s₄ hR4 ok4 x4 d4 n4
    refine fill_loop2 (F := F) (g := g) (C := C) (s₀ := s) hh I (lookup_relabel_local hx) (lookup_relabel_local hx2) (by simp [compEnvC, relabel, hkind]) (hs2 C) rfl (nt D N.d _ hthere) (nt C N.c _ hthere) (Nat.ne_of_lt N.lt) (nt D N.d _ hSt) (nt C N.c _ hSt)
      hOK hoS (hin D C N) hn ok4 hR4 d4 n4 x4 fun s' vs c m X ok' d' P n' => ?_
    exact comp_val (F := fun y v _ => F y v) N (X.shrink (fun b hb => by
      rcases hb with h | h | h
      · exact .inl (h ▸ N.d)
      · exact .inl (h ▸ N.c)
      · exact .inr h) fun g h => .inl h) d' P n' (fun _ _ _ _ h _ => h) fun s'' X d P => hQ D s'' vs c N.d N.dsz X d P
  have hR1 : R xs { s with heap := h₁, toks := s.toks + ([] : List (Str × Value)).length } := I.keeps _ _ _ hR (fun b _ o e => kh _ _ (kp _ _ e)) fun _ _ _ e => e
  have ok1 := hOK _ _ hok e0
  refine codeAny_compStart_list (loop _ hR1 ok1 e0 hD0 hns₁) ?_
  refine I.iter xs _ _ _ ok1 hR1 fun s' hE hR' => ?_
  have e1 : Ext (frs l) (fun b => b = D ∨ b = C ∨ W b) V _ s' := hE.mono (fun _ h => nomatch h) (fun _ h => h.elim) fun _ h => h.elim
  exact loop s' hR' (hOK _ _ ok1 e1) (e0.trans e1) (hE.keepAll _ _ hD0) (Ext.ns hE (fun h => h) hns₁)
end
end Mine
end
section
open PySem PySem.W PyProof.Rows
set_option maxRecDepth 100000
set_option maxHeartbeats 8000000
namespace Mine
theorem isList_keep {h h' : Heap} {a : Addr} {items : Array Value} (x : h.IsList a items) (k : KeepAll h h') : h'.IsList a items := let ⟨o, ho, r⟩ := x; ⟨o, k _ _ ho, r⟩
section
variable {prog : Program} {w : World} {base : Heap} {l it : Addr} {items : Array Value} {ss : List Str}
end
end Mine
end
section
open PySem PySem.W PyProof.Rows
set_option maxRecDepth 100000
set_option maxHeartbeats 8000000
set_option linter.unusedVariables false
namespace Mine
theorem unbox {P : Prop} (h : Box P) : P := h.out
section
variable {prog : Program} {w : World} {A : Around} {E : Value → Shared → Prop} {s : Shared} {env : Env}
theorem execs_box {M : Model} {st : Stmt} {rest : List Stmt} {Q : Flow → Shared → Prop} (h : wpAny M A (exec st env) (fun f s' => match f with | .next => Box (wpAny M A (execs rest env) Q E s') | f => Q f s') E s) : wpAny M A (execs (st :: rest) env) Q E s := by
  show wpAny M A (exec st env >>= fun f => match f with | .next => execs rest env | f => pure f) Q E s
  refine wpAny_bind (wpAny_mono h (fun f s' hf => ?_) fun _ _ e => e)
  cases f with
  | next => exact hf.out
  | cont => exact wpAny_pure hf
  | brk => exact wpAny_pure hf
  | ret v => exact wpAny_pure hf
abbrev RngR (n : Nat) (it : Addr) (ys : List Nat) (s : Shared) : Prop := ∃ i, i ≤ n ∧ IsRangeIter s.heap it (0 + (i : Nat) * 1) ((n : Int) - (i : Nat)) 1 ∧ ys = (List.range n).drop i
abbrev NatVal (k : Nat) (v : Value) : Prop := ∃ t, v = .int (k : Int) t
theorem small64 : ∀ n : Nat, n ≤ 64 → Builtin.Range.small 0 (n : Int) 1 = true ∧ Builtin.Range.rangeSize 0 (n : Int) 1 = (n : Int) := by decide
theorem it_range (hh : A.handled = none) (it : Addr) (n : Nat) (OK : Heap → Prop) (S : List Addr) : It prog w A NatVal it OK S (fun b => b ∈ [it]) NoG [it] (RngR n it) :=
  It.of_walks (Walks.range hh it 0 1 n) (by simp) fun i y v hy ⟨t, ht⟩ => ⟨t, by
    have hlt : i < n := by
      have := (List.getElem?_eq_some_iff.mp hy).1
      simpa using this
    rw [List.getElem?_range hlt] at hy
    cases hy
    rw [ht]
    congr 1
    omega⟩
theorem range_src {r : Addr} {n : Nat} {t u v : Tok} {Q : Value → Shared → Prop} (hr : IsRange s.heap r 0 (n : Int) 1 t u v) (hn : n ≤ 64)
    (hQ : ∀ (s₂ : Shared) it o, it = s.heap.objs.size → KeepAll s.heap s₂.heap → s₂.gens = s.gens → s₂.os = s.os → s.heap.get? it = none → s₂.heap.get? it = some o → o.cls = .type "range_iterator" → RngR n it (List.range n) s₂ → Q (.ref it) s₂) :
    wpAny (model prog w) A (pyIter (.ref r)) Q E s := by
  obtain ⟨h1, h2⟩ := small64 n hn
  refine wpAny_pyIter_range hr h1 (hQ _ _ _ rfl (fun b o e => Heap.get?_push_of_some _ e) rfl rfl (get?_size_none _ (Nat.le_refl _)) (Heap.get?_push_size _ rfl) rfl ⟨0, Nat.zero_le _, ?_, rfl⟩)
  rw [h2]
  have : (n : Int) - ((0 : Nat) : Int) = (n : Int) := by omega
  rw [this]
  exact Heap.get?_push_size _ rfl
abbrev LstV {α : Type} (l it : Addr) (items : Array Value) (xs : List α) (ys : List α) (s : Shared) : Prop := ∃ i, i ≤ items.size ∧ (s.heap.IsListIter it l i ∧ s.heap.IsList l items) ∧ ys = xs.drop i
theorem Paired.at_ {α : Type} {Val : α → Value → Prop} {xs : List α} {vs : List Value} (x : Paired Val xs vs) (i : Nat) (y : α) (v : Value) (h1 : xs[i]? = some y) (h2 : vs[i]? = some v) : Val y v := by
  induction x generalizing i with
  | nil => cases h1
  | cons h t ih =>
    cases i with
    | zero => cases h1; cases h2; exact h
    | succ i => exact ih i h1 h2
theorem it_list {α : Type} {Val : α → Value → Prop} {xs : List α} {items : Array Value} (hh : A.handled = none) (it l : Addr) (hne : l ≠ it) (P : Paired Val xs items.toList) (OK : Heap → Prop) (S : List Addr) :
    It prog w A Val it OK S (fun b => b ∈ [it]) NoG [it, l] (LstV l it items xs) :=
  It.of_walks (Walks.list hh it l hne items) (by rw [P.length]; simp) fun i y v hy hv => Paired.at_ P i y v hy (by rw [Array.getElem?_toList]; exact hv)
theorem list_src {α : Type} {l : Addr} {items : Array Value} {xs : List α} {Q : Value → Shared → Prop} (hl : s.heap.IsList l items)
    (hQ : ∀ (s₂ : Shared) it o, it = s.heap.objs.size → KeepAll s.heap s₂.heap → s₂.gens = s.gens → s₂.os = s.os → s.heap.get? it = none → s₂.heap.get? it = some o → o.cls = .type "list_iterator" → l ≠ it → LstV l it items xs xs s₂ → Q (.ref it) s₂) :
    wpAny (model prog w) A (pyIter (.ref l)) Q E s := by
  have hlt : l < s.heap.objs.size := by
    obtain ⟨o, ho, _⟩ := hl
    exact Heap.lt_size ho
  exact wpAny_pyIter_list hl (hQ { s with heap := s.heap.push _ } _ _ rfl (fun b o e => Heap.get?_push_of_some _ e) rfl rfl (get?_size_none _ (Nat.le_refl _)) (Heap.get?_push_size _ rfl) rfl (Nat.ne_of_lt hlt) ⟨0, Nat.zero_le _, ⟨⟨_, Heap.get?_push_size _ rfl, rfl, rfl⟩, isList_keep hl fun b o e => Heap.get?_push_of_some _ e⟩, rfl⟩)
theorem elt_end {α : Type} {F : α → Value → Heap → Prop} {S : List Addr} {base : Heap} {C : Addr} {m m' : Str → Option Value} {news : List (Addr × Obj)} {y : α} {r : Value} {s₃ s₄ : Shared} (F₀ : Fr base C s₃.heap m) (F' : Fr base C s₄.heap m') (N' : News base C s₄.heap news)
    (hs : ∀ q ∈ restOf base s₃.heap C, q ∈ news) (hg : s₄.gens = s₃.gens) (ho : s₄.os = s₃.os) (hv : F y r s₄.heap) : EltEnd F S C s₃ y r s₄ :=
  ⟨hv, ⟨fun b o _ hC e => keep_rest F₀ F' N' hs b o hC e, fun b o _ hC e => ⟨o.slots, keep_rest F₀ F' N' hs b o hC e⟩, fun g _ x e => by rw [hg]; exact e, by rw [hg]; exact Nat.le_refl _, fun h => by rw [hg]; exact h, ho⟩, m', F'.ns⟩
theorem elt_start {base : Heap} {C : Addr} {m : Str → Option Value} {s₃ : Shared} {news : List (Addr × Obj)} (hn : s₃.heap.Ns C m) (k : KeepAll base s₃.heap) (hsz : base.objs.size ≤ C) (hN : ∀ p ∈ news, s₃.heap.get? p.1 = some p.2 ∧ p.1 ≠ C ∧ base.get? p.1 = none) :
    Fr base C s₃.heap m ∧ News base C s₃.heap (news ++ restOf base s₃.heap C) :=
  ⟨⟨hn, k, hsz⟩, fun p hp => by
    rcases List.mem_append.mp hp with hp | hp
    · exact hN p hp
    · exact restOf_news base s₃.heap C p hp⟩
end
end Mine
end
section
open PySem PySem.W PyProof.Rows PySem.Calls
set_option maxRecDepth 100000
set_option maxHeartbeats 8000000
set_option linter.unusedVariables false
namespace Mine
theorem okl_of_fr {base h : Heap} {L : Addr} {m : Str → Option Value} {env : Env} (F : Fr base L h m) (hf : env.frame = some L) (hk : env.scope.kind ≠ .module) : OkL base [env] h := by
  obtain ⟨o, es, ep, ho, hd, _⟩ := F.ns
  exact ⟨F.keep, hk, ⟨L, o, hf, get?_size_none _ F.above, ho, fun vs e => by rw [hd] at e; cases e⟩, trivial⟩
theorem elt_ready {base : Heap} {L D C : Addr} {m m₃ : Str → Option Value} {news : List (Addr × Obj)} {S own : List Addr} {W : Addr → Prop} {V : Nat → Prop} {s₂ s₃ : Shared} (F : Fr base L s₂.heap m) (N : News base L s₂.heap news) (hS : S = [L]) (ND : NewDC s₂ S own D C)
    (X : Ext S (fun b => b = D ∨ b = C ∨ W b) V s₂ s₃) (hW : ∀ p ∈ news, ¬ W p.1) (k : KeepAll base s₃.heap) (hn : s₃.heap.Ns C m₃) :
    Fr base C s₃.heap m₃ ∧ News base C s₃.heap (news ++ restOf base s₃.heap C) := by
  have ne : ∀ b o, s₂.heap.get? b = some o → ∀ c, s₂.heap.get? c = none → b ≠ c := fun b o e c e' h => by rw [h, e'] at e; cases e
  refine elt_start hn k (Nat.le_trans F.above (Nat.le_trans (Nat.le_of_lt F.ns.lt) (Nat.le_trans ND.dsz (Nat.le_of_lt ND.lt)))) fun p hp => ?_
  have hp1 := N p hp
  refine ⟨X.heap _ _ (by rw [hS]; simp only [List.mem_singleton]; exact hp1.2.1) (fun h => ?_) hp1.1, ne _ _ hp1.1 _ ND.c, hp1.2.2⟩
  rcases h with h | h | h
  · exact ne _ _ hp1.1 _ ND.d h
  · exact ne _ _ hp1.1 _ ND.c h
  · exact hW p hp h
theorem ints_pick {vals : List Value} {ns : List Int} (hi : IntsAre vals ns) (a b c : Option Int) : ∃ ms, IntsAre (slicePick vals.toArray a b c).toList ms := by
  unfold slicePick
  generalize sliceRange _ _ _ = ix
  simp only
  induction ix with
  | nil => exact ⟨[], .nil⟩
  | cons i r ih =>
    obtain ⟨ms, h⟩ := ih
    rw [List.filterMap_cons]
    cases hx : vals.toArray[i]? with
    | none => exact ⟨ms, h⟩
    | some v =>
      obtain ⟨z, t, rfl, _⟩ := hi.at i v (by simpa using hx)
      exact ⟨z :: ms, .cons z t h⟩
section
variable {prog : Program} {w : World} {A : Around} {E : Value → Shared → Prop} {s : Shared}
theorem sum_any {l : Addr} {vs : List Value} {ns : List Int} {Q : Value → Shared → Prop} (hh : A.handled = none) (hl : s.heap.IsList l vs.toArray) (hi : IntsAre vs ns)
    (h : ∀ h' tk t', KeepAll s.heap h' → Q (.int ns.sum t') { s with heap := h', toks := tk }) : wpAny (model prog w) A (PySem.call (.builtin "sum") [.ref l]) Q E s := by
  obtain ⟨xs, e⟩ := hi.allInts.items
  have e2 := hi.numsOf
  rw [e] at hl
  refine sum_intListG hh hl fun h' tk t' hk => ?_
  have hs : preSum (numAt xs) xs.size = ns.sum := by
    rw [preSum_eq, List.take_of_length_le (by simp), ← nums_intItems, ← e, ← hi.numsOf]
  rw [hs]
  exact h h' tk t' hk
end
end Mine
namespace Mine
theorem elt_keep {α : Type} {F : α → Value → Heap → Prop} {S : List Addr} {C : Addr} {m : Str → Option Value} {y : α} {r : Value} {s₃ s₄ : Shared} (hn : s₃.heap.Ns C m) (k : KeepAll s₃.heap s₄.heap) (hg : s₄.gens = s₃.gens) (ho : s₄.os = s₃.os) (hv : F y r s₄.heap) : EltEnd F S C s₃ y r s₄ :=
  ⟨hv, ⟨fun b o _ _ e => k b o e, fun b o _ _ e => ⟨o.slots, k b o e⟩, fun g _ x e => by rw [hg]; exact e, by rw [hg]; exact Nat.le_refl _, fun h => by rw [hg]; exact h, ho⟩, m, hn.keeps k⟩
theorem comp_after {base : Heap} {L D : Addr} {m : Str → Option Value} {news : List (Addr × Obj)} {S : List Addr} {W : Addr → Prop} {V : Nat → Prop} {s s' : Shared} {o : Obj} (F : Fr base L s.heap m) (N : News base L s.heap news) (hX : Ext S W V s s') (hS : S = [L]) (hLW : ¬ W L) (hW : ∀ b, W b → base.get? b = none) (hWn : ∀ p ∈ news, ¬ W p.1)
    (hDs : s.heap.objs.size ≤ D) (hDv : s'.heap.get? D = some o) : Fr base L s'.heap m ∧ News base L s'.heap ((D, o) :: news) ∧ ∀ p ∈ news, p.1 < D := by
  subst hS
  have hLb : base.get? L = none := get?_size_none _ F.above
  refine ⟨Ext.fr hX F hLW (fun b hb => by rw [List.mem_singleton.mp hb]; exact hLb) hW, List.forall_mem_cons.mpr ⟨⟨hDv, Nat.ne_of_gt (Nat.lt_of_lt_of_le F.ns.lt hDs), get?_size_none _ (Nat.le_trans F.above (Nat.le_trans (Nat.le_of_lt F.ns.lt) hDs))⟩, Ext.news hX N (fun q hq h => (N q hq).2.1 (List.mem_singleton.mp h)) hWn⟩, fun p hp => Nat.lt_of_lt_of_le (Heap.lt_size (N p hp).1) hDs⟩
theorem comp_after_set {base : Heap} {L D : Addr} {m m' : Str → Option Value} {news : List (Addr × Obj)} {S : List Addr} {W : Addr → Prop} {V : Nat → Prop} {s s' : Shared} {o : Obj} (F : Fr base L s.heap m) (N : News base L s.heap news) (hX : Ext S (fun b => b = L ∨ W b) V s s') (hS : S = [L]) (hn : s'.heap.Ns L m') (hW : ∀ b, W b → base.get? b = none) (hWn : ∀ p ∈ news, ¬ W p.1)
    (hDs : s.heap.objs.size ≤ D) (hDv : s'.heap.get? D = some o) : Fr base L s'.heap m' ∧ News base L s'.heap ((D, o) :: news) ∧ ∀ p ∈ news, p.1 < D := by
  subst hS
  have hLb : base.get? L = none := get?_size_none _ F.above
  refine ⟨⟨hn, fun b o e => hX.heap b o (fun h => ?_) (fun h => ?_) (F.keep b o e), F.above⟩, List.forall_mem_cons.mpr ⟨⟨hDv, Nat.ne_of_gt (Nat.lt_of_lt_of_le F.ns.lt hDs), get?_size_none _ (Nat.le_trans F.above (Nat.le_trans (Nat.le_of_lt F.ns.lt) hDs))⟩,
    Ext.news hX N (fun q hq h => (N q hq).2.1 (List.mem_singleton.mp h)) fun q hq h => h.elim (N q hq).2.1 (hWn q hq)⟩, fun p hp => Nat.lt_of_lt_of_le (Heap.lt_size (N p hp).1) hDs⟩
  · rw [List.mem_singleton.mp h, hLb] at e; cases e
  · rcases h with h | h
    · rw [h, hLb] at e; cases e
    · rw [hW b h] at e; cases e
theorem news_off {base h : Heap} {L it : Addr} {news : List (Addr × Obj)} (N : News base L h news) (hin : h.get? it = none) : ∀ p ∈ news, ¬ p.1 ∈ [it] := fun p hp h => by
  have := (N p hp).1
  rw [List.mem_singleton.mp h, hin] at this; cases this
theorem fr_off {base h : Heap} {L it : Addr} {m : Str → Option Value} (F : Fr base L h m) (hin : h.get? it = none) : L ≠ it := fun h' => by
  obtain ⟨o, _, _, ho, _⟩ := F.ns
  rw [h', hin] at ho; cases ho
theorem strs_pairedF {α : Type} {f : α → Str} {xs : List α} {vs : List Value} (x : Paired (fun y v => ∃ t, v = Value.str (f y) t) xs vs) : StrsAre vs (xs.map f) := by
  induction x with
  | nil => exact .nil
  | cons h t ih =>
    obtain ⟨t', rfl⟩ := h
    exact .cons _ t' ih
theorem strs_paired {vs : List Value} {ss : List Str} (x : StrsAre vs ss) : Paired (fun (y : Str) v => ∃ t, v = Value.str y t) ss vs := by
  induction x with
  | nil => exact .nil
  | cons k t h ih => exact .cons ⟨t, rfl⟩ ih
theorem Paired.take_ {α : Type} {P : α → Value → Prop} {xs : List α} {vs : List Value} (n : Nat) (x : Paired P xs vs) : Paired P (xs.take n) (vs.take n) := by
  induction x generalizing n with
  | nil => cases n <;> exact .nil
  | cons h t ih =>
    cases n with
    | zero => exact .nil
    | succ n => exact .cons h (ih n)
theorem paired_intsF {α : Type} {f : α → Int} {xs : List α} {vs : List Value} (x : Paired (fun y v => ∃ t, v = Value.int (f y) t) xs vs) : IntsAre vs (xs.map f) := by
  induction x with
  | nil => exact .nil
  | cons h t ih =>
    obtain ⟨t', rfl⟩ := h
    exact .cons _ t' ih
section
variable {prog : Program} {w : World} {A : Around} {E : Value → Shared → Prop} {s : Shared}
theorem slice_tail {value slice : Expr} {l sl : Addr} {items : Array Value} {vl vu vs : Value} {lo hi st : Option Int} {ops : List Value} {Q : Value → Shared → Prop} (hl : s.heap.IsList l items) (hs : s.heap.IsSliceOf sl vl vu vs) (pl : IsPart vl lo) (pu : IsPart vu hi) (ps : IsPart vs st) (h0 : st ≠ some 0) (hsz : items.size ≤ 16777216)
    (h : Q (.ref s.heap.objs.size) { s with heap := s.heap.push { cls := .type "list", data := .seq (slicePick items lo hi st) } })
    (hsub : subscripted slice false (.ref l) (.ref sl) = operate ops (getItem (.ref l) (.ref sl))) : wpAny (model prog w) A (subscriptTail value slice (.ref l) (.ref sl)) Q E s :=
  tail_any hl.typeIs list_getitem_lookup (wpAny_getItem_list_slice hl hs pl pu ps h0 h (by rw [sizeLine_eq]; exact hsz)) hsub
end
section
variable {prog : Program} {w : World} {A : Around} {E : Value → Shared → Prop} {s : Shared}
end
section
variable {M : Model} {A : Around} {E : Value → Shared → Prop} {s : Shared} {K : Frag} {h₀ : Heap} {C : Addr} {m mg mb : Str → Option Value} {scope : Scope} {cl : List (Str × Addr)} {env : Env} {p : Program} {loose : List Str} {x : Str} {pos : Pos} {v : Value} {Q : Value → Shared → Prop}
theorem cn_local (F : Fr h₀ C s.heap m) (hx : m x = some v) (h : Q v s)
    (hk : (compEnvC scope cl C env).scope.kind = .function := by rfl) (hl : (compEnvC scope cl C env).kindOf x = some .local := by rfl) (hd : (x == ("__debug__" : Str)) = false := by decide) :
    wpAny M A (eval (.Name x pos) (compEnvC scope cl C env)) Q E s := wpAny_Name (wpAny_loadName_local hk hl F.ns hx h) hd
theorem cn_global (F : Fr h₀ C s.heap m) (X : K.In h₀) (T : TopRead p loose mg mb h₀) (e : nsIn K mainGlobals x = some (some v)) (h : Q v s) (hg : env.globals = mainGlobals := by rfl)
    (hk : (compEnvC scope cl C env).scope.kind = .function := by rfl) (hx : (compEnvC scope cl C env).kindOf x = some .globalImplicit := by rfl) (hd : (x == ("__debug__" : Str)) = false := by decide) :
    wpAny M A (eval (.Name x pos) (compEnvC scope cl C env)) Q E s :=
  Name_function_global hk hx (loadGlobal_global (env := compEnvC scope cl C env) (show s.heap.Ns env.globals mg from hg ▸ (T.keeps F.keep).g) (mg_of X T.g e) h) hd
theorem cn_built (F : Fr h₀ C s.heap m) (X : K.In h₀) (T : TopRead p loose mg mb h₀) (e : nsIn K mainGlobals x = some none) (hv : bootBuiltins x = some v) (hn : x ≠ "__name__") (h : Q v s) (hg : env.globals = mainGlobals := by rfl) (hb : env.builtins = builtinsNs := by rfl)
    (hk : (compEnvC scope cl C env).scope.kind = .function := by rfl) (hx : (compEnvC scope cl C env).kindOf x = some .globalImplicit := by rfl) (hd : (x == ("__debug__" : Str)) = false := by decide) :
    wpAny M A (eval (.Name x pos) (compEnvC scope cl C env)) Q E s :=
  Name_function_global hk hx (loadGlobal_builtin (env := compEnvC scope cl C env) (show s.heap.Ns env.globals mg from hg ▸ (T.keeps F.keep).g) (mg_none_of X T.g e) (show s.heap.Ns env.builtins mb from hb ▸ (T.keeps F.keep).b) ((T.builtins x hn).trans hv) h) hd
end
end Mine
end
section
open PySem PySem.W PyProof.Rows
set_option maxRecDepth 100000
set_option maxHeartbeats 8000000
namespace Mine
section
variable {prog : Program} {w : World} {A : Around} {E : Value → Shared → Prop} {env : Env}
end
end Mine
end
section
open PySem PySem.W PyProof.Rows
set_option maxRecDepth 100000
set_option maxHeartbeats 8000000
namespace Mine
section
variable {prog : Program} {w : World} {A : Around} {E : Value → Shared → Prop} {env : Env}
def ForTurn (prog : Program) (w : World) (A : Around) (env : Env) (target : Expr) (it : Value) (body : List Stmt) (J : Nat → Shared → Prop) (Q : Flow → Shared → Prop) (n : Nat) (r : Option Value) (s₁ : Shared) : Prop :=
  match r with
  | none => Q .next s₁
  | some v => wpAny (model prog w) A (letOwnedTupleGo target it v) (fun _ s₂ => wpAny (model prog w) A (assign target env v) (fun _ s₃ => wpAny (model prog w) A (execs body env) (fun f s₄ => match f with
      | .next => ∃ k, k < n ∧ J k s₄
      | .cont => ∃ k, k < n ∧ J k s₄
      | .brk => Q .next s₄
      | .ret v => Q (.ret v) s₄) (fun _ _ => False) s₃) (fun _ _ => False) s₂) (fun _ _ => False) s₁
theorem for_loop {target : Expr} {it : Value} {body : List Stmt} {s : Shared} {Q : Flow → Shared → Prop} {Ee : Value → Shared → Prop} (J : Nat → Shared → Prop)
    (turn : ∀ n s, J n s → wpAny (model prog w) A (pyNext it) (ForTurn prog w A env target it body J Q n) (fun _ _ => False) s) (n : Nat) (h : J n s) :
    codeAny (model prog w) A (.forLoop target it body [] env) (fun r s' => match r with | .ok f => Q f s' | .error e => Ee e s') s := by
  refine codeAny_loop' rfl J (fun n s hJ => ?_) n h
  show wpAny _ _ ((forTurn target it body [] env).onRaise (fun x => do noteFrame x env; theTreesLotGoes x)) _ _ s
  refine wpAny_noted ?_
  simp only [forTurn]
  refine wpAny_bind (wpAny_standAt (wpAny_bind (wpAny_onRaise (wpAny_mono (turn n s hJ) (fun r s₁ h₁ => ?_) fun _ _ f => f.elim))))
  cases r with
  | none => exact wpAny_pure (.inr ⟨rfl, codeAny_block (wpAny_execs_nil h₁)⟩)
  | some v =>
    refine wpAny_bind (wpAny_mono h₁ (fun _ s₂ h₂ => wpAny_bind (wpAny_mono h₂ (fun _ s₃ h₃ => wpAny_bind (wpAny_mono h₃ (fun f s₄ h₄ => ?_) fun _ _ f => f.elim)) fun _ _ f => f.elim)) fun _ _ f => f.elim)
    cases f with
    | next => exact wpAny_pure (.inl ⟨rfl, h₄⟩)
    | cont => exact wpAny_pure (.inl ⟨rfl, h₄⟩)
    | brk => exact wpAny_pure h₄
    | ret v => exact wpAny_pure h₄
theorem for_stmt {target iter : Expr} {body : List Stmt} {pos : Pos} {Q : Flow → Shared → Prop} {s : Shared}
    (h : wpAny (model prog w) A (eval iter env) (fun xv s₁ => wpAny (model prog w) A (pyIter xv) (fun it s₂ =>
      ∃ J : Nat → Shared → Prop, ∃ n, J n s₂ ∧ ∀ n s', J n s' → wpAny (model prog w) A (pyNext it) (ForTurn prog w A env target it body J Q n) (fun _ _ => False) s') E s₁) E s)
    (hs : ∀ x, foldedSetIterable iter env x = pure x := by intro _; rfl) :
    wpAny (model prog w) A (exec (.For target iter body [] pos) env) Q E s := by
  refine wpAny_For (wpAny_mono h (fun xv s₁ h₁ => wpAny_mono h₁ (fun it s₂ h₂ => ?_) fun _ _ e => e) fun _ _ e => e) hs
  obtain ⟨J, n, h0, turn⟩ := h₂
  exact for_loop J turn n h0
end
end Mine
end
section
open PySem PySem.W PyProof.Rows
namespace Mine
def nthO {α : Type} : Nat → List α → Option α
  | _, [] => none
  | 0, a :: _ => some a
  | n + 1, _ :: l => nthO n l
def picks {α : Type} (l : List α) : List Nat → List α → List α
  | [], R => R
  | i :: is, R => match nthO i l with
    | some a => a :: picks l is R
    | none => picks l is R
theorem nthO_mem {α : Type} {a : α} : ∀ {l : List α} {i : Nat}, nthO i l = some a → a ∈ l
  | [], i, h => by cases i <;> cases h
  | b :: l, 0, h => by cases h; exact .head _
  | b :: l, i + 1, h => .tail _ (nthO_mem (l := l) (i := i) h)
theorem picks_all {α : Type} {P : α → Prop} {l R : List α} (h : ∀ p ∈ l ++ R, P p) : ∀ is, ∀ p ∈ picks l is R, P p
  | [], p, hp => h p (List.mem_append_right _ hp)
  | i :: is, p, hp => by
    unfold picks at hp
    split at hp
    · next a e =>
      rcases List.mem_cons.mp hp with rfl | hp
      · exact h _ (List.mem_append_left _ (nthO_mem e))
      · exact picks_all h is p hp
    · exact picks_all h is p hp
theorem newsPick {base h : Heap} {L : Addr} (l R : List (Addr × Obj)) (is : List Nat) (N : News base L h (l ++ R)) : News base L h (picks l is R) := picks_all N is
theorem allC {α : Type} {P : α → Prop} {a : α} {l : List α} (h : P a) (t : ∀ p ∈ l, P p) : ∀ p ∈ a :: l, P p := List.forall_mem_cons.mpr ⟨h, t⟩
theorem allN {α : Type} {P : α → Prop} : ∀ p ∈ ([] : List α), P p := fun _ hp => nomatch hp
theorem some_at {α : Type} {x y : Option α} {a b : α} (h : x = some a) (e : x = some b) (g : y = some a) : y = some b := g.trans (h.symm.trans e)
end Mine
end
section
open PySem PySem.W PyProof.Rows PySem.Builtin PySem.Builtin.Str
set_option maxRecDepth 100000
set_option maxHeartbeats 8000000
namespace Mine
abbrev S (l : List Nat) : Str := ⟨l.toArray⟩
theorem S_of (x : Str) : x = S x.cps.toList := by cases x; simp [S]
theorem S_len (l : List Nat) : (S l).length = l.length := by simp [Str.length]
theorem S_inj {a b : List Nat} (h : S a = S b) : a = b := by
  have : a.toArray = b.toArray := congrArg Str.cps h
  simpa using this
def cutR (p : Nat → Bool) (l : List Nat) : List Nat := l.take (l.length - (l.reverse.takeWhile p).length)
theorem rstrip_S (l : List Nat) (y : Str) : Txt.rstripChars (S l) y = S (cutR y.cps.contains l) := by
  have h1 : stripLo y.cps.contains false (S l) = 0 := rfl
  have h2 : stripHi y.cps.contains true (S l) 0 = l.length - (l.reverse.takeWhile y.cps.contains).length := by
    simp only [stripHi, if_true, S_len, List.drop_zero]
  unfold Txt.rstripChars Txt.stripBy
  split
  · rename_i h
    unfold stripSame at h
    rw [h1, h2, Bool.and_eq_true] at h
    have h3 := h.2
    rw [beq_iff_eq, S_len] at h3
    unfold cutR
    rw [h3, List.take_length]
  · unfold PySem.stripped
    rw [h1, h2, strSub_mk]
    simp [cutR, S]
theorem cutR_app_all {p : Nat → Bool} {a b : List Nat} (hb : ∀ c ∈ b, p c = true) : cutR p (a ++ b) = cutR p a := by
  unfold cutR
  have : ((a ++ b).reverse.takeWhile p) = b.reverse ++ a.reverse.takeWhile p := by
    rw [List.reverse_append, List.takeWhile_append_of_pos (by simpa using hb)]
  rw [this, List.length_append, List.length_append, List.length_reverse]
  have e : a.length + b.length - (b.length + (a.reverse.takeWhile p).length) = a.length - (a.reverse.takeWhile p).length := by rw [Nat.add_comm, Nat.add_sub_add_left]
  rw [e, List.take_append_of_le_length (Nat.sub_le _ _)]
theorem cutR_last {p : Nat → Bool} {a : List Nat} {c : Nat} (hc : p c = false) : cutR p (a ++ [c]) = a ++ [c] := by
  unfold cutR
  rw [List.reverse_append]
  have e : (([c] : List Nat).reverse ++ a.reverse).takeWhile p = [] := by simp [hc]
  rw [e, List.length_nil, Nat.sub_zero, List.take_length]
theorem cutR_nil {p : Nat → Bool} : cutR p [] = [] := rfl
theorem cutR_all {p : Nat → Bool} {b : List Nat} (hb : ∀ c ∈ b, p c = true) : cutR p b = [] := by
  have := cutR_app_all (p := p) (a := []) hb
  rw [List.nil_append, cutR_nil] at this
  exact this
theorem of_slash : (Str.ofString "/") = S [47] := by decide
theorem slice_to (l : List Nat) {i : Nat} (hi : i ≤ l.length) : Txt.slice (S l) none (some (i : Int)) = S (l.take i) := by
  have e : strSliceIndices none (some (i : Int)) 1 (S l).length = strSliceIndices (some ((0 : Nat) : Int)) (some (i : Int)) 1 (S l).length := by
    have e1 : max (0 : Int) (min ((0 : Nat) : Int) ((S l).length : Int)) = 0 := by omega
    simp only [strSliceIndices, show ((1 : Int) > 0) = True from by simp, if_true, show ¬ (((0 : Nat) : Int) < 0) from by omega, if_false, e1]
  have hl : i ≤ (S l).length := by rw [S_len]; exact hi
  have h2 := StrLaws.sliced_plain (S l) (Nat.zero_le i) hl
  unfold Txt.slice
  rw [e]
  split
  · rename_i h
    have h3 := StrLaws.strSliceIndices_plain (Nat.zero_le i) hl
    rw [h3] at h
    simp only [List.length_map, List.length_range, Nat.sub_zero, Bool.and_eq_true, beq_iff_eq] at h
    rw [S_len] at h
    rw [h.2, List.take_length]
  · rw [h2]
    simp [S]
theorem subAt_slash {l : List Nat} {i : Nat} : StrLaws.At (S l) (S [47]) (S l).length i ↔ l[i]? = some 47 := by
  unfold StrLaws.At subAt
  rw [S_len, S_len]
  simp only [List.length_singleton]
  constructor
  · rintro ⟨h1, h2⟩
    rw [beq_iff_eq] at h2
    have := congrArg Array.toList h2
    simp only [Array.toList_extract, List.extract_eq_take_drop] at this
    have e : i + 1 - i = 1 := by omega
    rw [e] at this
    have hlt : i < l.length := by omega
    rw [List.drop_eq_getElem_cons hlt, List.take_succ_cons, List.take_zero] at this
    have this' : [l[i]] = [47] := this
    injection this' with h _
    rw [List.getElem?_eq_getElem hlt, h]
  · intro h
    obtain ⟨hlt, he⟩ := List.getElem?_eq_some_iff.mp h
    refine ⟨by omega, ?_⟩
    rw [beq_iff_eq]
    apply Array.ext'
    simp only [Array.toList_extract, List.extract_eq_take_drop]
    have e : i + 1 - i = 1 := by omega
    rw [e, List.drop_eq_getElem_cons hlt, he]
    simp
theorem rfind_none {l : List Nat} (h : 47 ∉ l) : Txt.rfind (S l) (S [47]) = -1 := by
  rcases rfind_whole (S l) (S [47]) with ⟨h0, _⟩ | ⟨i, _, hi, _⟩
  · exact h0
  · rw [subAt_slash] at hi
    exact absurd (List.mem_of_getElem? hi) h
theorem rfind_at {u d : List Nat} (h : 47 ∉ d) : Txt.rfind (S (u ++ 47 :: d)) (S [47]) = (u.length : Int) := by
  have hat : StrLaws.At (S (u ++ 47 :: d)) (S [47]) (S (u ++ 47 :: d)).length u.length := by
    rw [subAt_slash]; simp
  rcases rfind_whole (S (u ++ 47 :: d)) (S [47]) with ⟨_, hn⟩ | ⟨i, h0, hi, hn⟩
  · exact absurd hat (hn _)
  · rw [h0]
    rw [subAt_slash] at hi
    have : i = u.length := by
      rcases Nat.lt_trichotomy i u.length with q | q | q
      · exact absurd hat (hn _ q)
      · exact q
      · rw [List.getElem?_append_right (by omega), List.getElem?_cons] at hi
        rw [if_neg (by omega)] at hi
        exact absurd (List.mem_of_getElem? hi) h
    rw [this]
theorem mul_S (c : Nat) (n : Nat) : Txt.mul (S [c]) (n : Int) = S (List.replicate n c) := by
  unfold Txt.mul
  by_cases h0 : (n : Int) < 1
  · rw [if_pos h0]
    have : n = 0 := by omega
    subst this; rfl
  · rw [if_neg h0]
    by_cases h1 : (n : Int) = 1
    · have : n = 1 := by omega
      subst this
      rw [if_pos (by simp)]; rfl
    · rw [if_neg (by simp [Str.length, h1])]
      have : ∀ (k : Nat) (acc : Array Nat), ((List.replicate k (#[c] : Array Nat)).foldl (· ++ ·) acc).toList = acc.toList ++ List.replicate k c := by
        intro k
        induction k with
        | zero => intro acc; simp
        | succ k ih => intro acc; rw [List.replicate_succ, List.foldl_cons, ih]; simp [List.replicate_succ]
      have e := this n #[]
      simp only [Int.toNat_natCast]
      show (⟨(List.replicate n (S [c]).cps).foldl (· ++ ·) #[]⟩ : Str) = _
      have e2 : (List.replicate n (S [c]).cps).foldl (· ++ ·) #[] = (List.replicate n c).toArray := by
        apply Array.ext'
        rw [e]; simp
      rw [e2]
def splitHead (x : Str) : Str :=
  let h := Txt.slice x none (some (Txt.rfind x (Str.ofString "/") + 1))
  if (h.length : Int) ≠ 0 ∧ (h != Txt.mul (Str.ofString "/") h.length) = true then Txt.rstripChars h (Str.ofString "/") else h
theorem splitHead_len (x : Str) : (splitHead x).length ≤ x.length := by
  have h1 := Txt.slice_le x none (some (Txt.rfind x (Str.ofString "/") + 1))
  have h2 := len_rstripChars (Txt.slice x none (some (Txt.rfind x (Str.ofString "/") + 1))) (Str.ofString "/")
  unfold splitHead
  dsimp only
  split <;> omega
def bare (x : Str) : Str := Txt.rstripChars x (Str.ofString "/")
def moreOf (x : Str) : Bool := decide (((bare x).length : Int) ≠ 0)
abbrev AncComes := Comes moreOf splitHead
theorem bare_S (l : List Nat) : bare (S l) = S (cutR (· == 47) l) := by
  unfold bare
  rw [rstrip_S, of_slash]
  congr 2
  funext c
  show ([47] : List Nat).toArray.contains c = (c == 47)
  simp
  rw [Bool.eq_iff_iff]
  simp
theorem moreOf_S (l : List Nat) : moreOf (S l) = !(cutR (· == 47) l).isEmpty := by
  unfold moreOf
  rw [bare_S, S_len]
  cases cutR (· == 47) l with
  | nil => simp
  | cons a r => simp; omega
def sl (n : Nat) : List Nat := List.replicate n 47
def dt (n : Nat) : List Nat := List.replicate n 46
end Mine
end
section
open PySem PySem.W PyProof.Rows
set_option maxRecDepth 100000
set_option maxHeartbeats 8000000
namespace Mine
end Mine
end
section
open PySem PySem.W PyProof.Rows
set_option maxRecDepth 100000
set_option maxHeartbeats 8000000
namespace Mine
section
variable {prog : Program} {w : World} {A : Around} {E : Value → Shared → Prop} {env : Env}
end
end Mine
end
section
open PySem PySem.W PyProof.Rows
set_option maxRecDepth 100000
set_option maxHeartbeats 8000000
namespace Mine
section
variable {prog : Program} {w : World} {A : Around} {E : Value → Shared → Prop} {s : Shared}
end
end Mine
end
section
open PySem PySem.W PyProof.Rows PyProof.V
set_option maxRecDepth 100000
set_option maxHeartbeats 8000000
namespace Mine
section
variable {prog : Program} {w : World} {A : Around} {E : Value → Shared → Prop} {s : Shared}
end
end Mine
end
section
open PySem PySem.W PyProof.Rows
set_option maxRecDepth 100000
set_option maxHeartbeats 8000000
namespace Mine
end Mine
end
section
open PySem PySem.W PyProof.Rows
set_option maxRecDepth 100000
set_option maxHeartbeats 8000000
namespace Mine
theorem enterC {prog : Program} {w : World} {A : Around} {R : Result → Shared → Prop} {s : Shared} {base : Heap} {news : List (Addr × Obj)} {name qual : Str} {params : Arguments} {body : List Stmt} {scope : Scope}
    {pm cd doc : Value} {a : Addr} {o : Obj} {args : List Value} {binds : List (Str × Value)}
    (hk : KeepAll base s.heap) (hsz : base.objs.size ≤ s.heap.objs.size) (hN : Led base s.heap news)
    (hroom : A.depth < recursionLimit) (ho : s.heap.get? a = some o) (hdata : o.data = .func (fnRec name qual params body scope pm cd doc)) (hlim : s.heap.NoLimit) (hcd : s.heap.CodeRec cd qual)
    (hbind : bindArgs (fnRec name qual params body scope pm cd doc) ⟨args, []⟩ = pure binds)
    (hkind : ∀ n, ∀ x ∈ binds, scope.names.lookup x.1 = some .local ∨ (scope.names.lookup x.1 = some .cell ∧ ((cellsFrom n scope.names []).lookup x.1).isSome = true))
    (hnd : ((cellsFrom 0 scope.names []).map (·.1)).Nodup)
    (h : ∀ L h₁ tk cells, Fr base L h₁ (bindL (envOfC qual scope L a cd).kindOf binds fun _ => none) → News base L h₁ (cells ++ news) → (∀ q ∈ news, q.1 < L) →
      CellsAre (bindC (envOfC qual scope L a cd).kindOf binds fun _ => none) (cellsFrom (L + 1) scope.names []) cells → KeepAll s.heap h₁ → s.heap.get? L = none →
      wpAny (model prog w) (A.deeper (envOfC qual scope L a cd)) (execs body (envOfC qual scope L a cd))
        (fun f s' => R (.ok (.ret (match f with | .ret v => v | _ => .none))) s')
        (fun e s' => wpAny (model prog w) (A.deeper (envOfC qual scope L a cd)) (leaving (envOfC qual scope L a cd) e)
          (fun _ s'' => R (.error e) s'') (fun e' s'' => R (.error e') s'') s')
        { s with heap := h₁, toks := tk })
    (hco : scope.isCoroutine = false := by rfl) (hgen : scope.isGenerator = false := by rfl) (hk' : scope.kind = .function := by rfl) :
    codeAny (model prog w) A (.call (.ref a) ⟨args, []⟩) R s := by
  refine codeAny_call_function hroom ho hdata hco hgen rfl hcd ?_
  rw [hbind]
  refine wpAny_pure (wpAny_newFunctionEnv_cells hk' (hkind _) fun env' he s' x => ?_)
  subst he
  obtain ⟨h₁, tk, rfl, _⟩ := x.done
  have hk₁ : KeepAll s.heap h₁ := x.toInCall.keep
  refine ⟨hlim.keeps hk₁, codeAny_func ?_⟩
  obtain ⟨cells, NC, Y⟩ := Cl.news (h₀ := s.heap) (Nat.le_refl _) fun n c hm => ⟨x.cell n c (lookup_of_mem_nodup (cellsFrom_names scope.names 0 (s.heap.objs.size + 1) [] [] rfl ▸ hnd) hm), x.above n c hm⟩
  refine h s.heap.objs.size h₁ tk cells ⟨x.toInCall.ns, fun b o e => hk₁ b o (hk b o e), hsz⟩ (fun p hp => ?_) (fun p hp => Heap.lt_size (hN p hp).1) Y hk₁ (get?_size_none _ (Nat.le_refl _))
  rcases List.mem_append.mp hp with hp | hp
  · exact ⟨(NC p hp).1, (NC p hp).2.1, hk.none_of (NC p hp).2.2⟩
  · exact ⟨hk₁ _ _ (hN p hp).1, Nat.ne_of_lt (Heap.lt_size (hN p hp).1), (hN p hp).2⟩
theorem fr_named {h₀ h : Heap} {L : Addr} {m : Str → Option Value} (F : Fr h₀ L h m) (x : Str) (v : Value) (e : m x = some v) : Fr h₀ L h (fun y => if y = x then some v else m y) := by
  have : m = fun y => if y = x then some v else m y := by
    funext y
    by_cases q : y = x
    · rw [if_pos q, q]; exact e
    · rw [if_neg q]
  exact this ▸ F
end Mine
end
section
open PySem PySem.W PyProof.Rows PyProof.V
set_option maxRecDepth 100000
set_option maxHeartbeats 8000000
namespace Mine
def defOf (name : Str) : List Stmt → Option (List Stmt × Scope)
  | [] => none
  | .FunctionDef (name := n) (body := b) (scope := sc) .. :: r => if n = name then some (b, sc) else defOf name r
  | _ :: r => defOf name r
section
variable {prog : Program} {w : World} {A : Around} {E : Value → Shared → Prop} {s : Shared}
theorem cut_state {α : Type} {M : Model} {t : Sem α} {Q : α → Shared → Prop} {h' : Heap} (h : ∀ s1 : Shared, s1.heap = h' → s1.gens = s.gens → s1.os = s.os → wpAny M A t Q E s1) (e : s.heap = h' := by rfl) : wpAny M A t Q E s := h s e rfl rfl
end
end Mine
end
section
open PySem PySem.W PyProof.Rows PySem.Builtin PySem.Builtin.ObjectAttr
set_option maxRecDepth 100000
set_option maxHeartbeats 8000000
namespace Mine
theorem metAt_all (xs : List Str) (k : Str) : (metAt xs xs.length).any (· == k) = xs.any (· == k) := by rw [metAt_any, List.take_length]
section
variable {prog : Program} {w : World} {A : Around} {E : Value → Shared → Prop} {s : Shared}
theorem call_set_strs {l : Addr} {items : Array Value} {xs : List Str} {Q : Value → Shared → Prop} (hh : A.handled = none) (hl : s.heap.IsList l items) (hi : StrsAre items.toList xs) (hb : xs.length + 1 < scanBound)
    (h : ∀ h' tk n, h'.SetOf (strKind prog w) s.heap.objs.size (fun k => xs.any (· == k)) n → n ≤ xs.length → KeepAll s.heap h' → Q (.ref s.heap.objs.size) { s with heap := h', toks := tk }) :
    wpAny (model prog w) A (PySem.call (.type "set") [.ref l]) Q E s := by
  refine call_set_by fun led s₁ hs₁ => ?_
  obtain ⟨ol, hol, hcl, nl, hdl⟩ := hl
  obtain ⟨ocls, odict, odata, oslots⟩ := ol
  simp only at hcl hdl
  subst hcl; subst hdl
  have hS : (s.heap.push { cls := .type "set", dict := none, data := .set #[] 0 (.fresh 0 0 led) }).get? s.heap.objs.size = some { cls := .type "set", dict := none, data := .set #[] 0 (.fresh 0 0 led) } := Heap.get?_push_size _ rfl
  have hol' : (s.heap.push { cls := .type "set", dict := none, data := .set #[] 0 (.fresh 0 0 led) }).get? l = some { cls := .type "list", dict := odict, data := .seq items nl, slots := oslots } := Heap.get?_push_of_some _ hol
  have hsls := F.sub_list_set
  have hslf := F.sub_list_frozenset
  have hne : (Value.type "list" == Value.type "dict") = false := by decide
  have hl1 : (s.heap.push { cls := .type "set", dict := none, data := .set #[] 0 (.fresh 0 0 led) }).IsList l items := ⟨_, hol', rfl, nl, rfl⟩
  have hlen : items.size = xs.length := by rw [← StrsAre.len hi]; simp
  subst hs₁
  unfold Builtin.«set.__init__» noKeywords Builtin.Frozenset.updateFrom
  generalize hPI : pyIter = PI
  wp_walk
  subst hPI
  refine wpAny_pyIter_list hl1 ?_
  refine wpAny_bind (wpAny_runValue ?_)
  have hlS : l < s.heap.objs.size := Heap.lt_size hol
  have hneI : l ≠ (s.heap.push { cls := .type "set", dict := none, data := .set #[] 0 (.fresh 0 0 led) }).objs.size := by
    rw [Heap.size_push]; exact Nat.ne_of_lt (Nat.lt_succ_of_lt hlS)
  have hSf : s.heap.objs.size ∉ [(s.heap.push { cls := .type "set", dict := none, data := .set #[] 0 (.fresh 0 0 led) }).objs.size, l] := by
    rw [Heap.size_push]; simp only [List.mem_cons, List.not_mem_nil, or_false, not_or]
    exact ⟨Nat.ne_of_lt (Nat.lt_succ_self _), Nat.ne_of_gt hlS⟩
  have hval : ∀ (i : Nat) (v : Value), items[i]? = some v → ∃ t, ∃ h : i < xs.length, v = .str xs[i] t := fun i v hv =>
    StrsAre.at_ hi i v (by rw [Array.getElem?_toList]; exact hv)
  have W := (Walks.list (prog := prog) (w := w) (A := A.in1.in1.in1) (by simp [hh]) (s.heap.push { cls := .type "set", dict := none, data := .set #[] 0 (.fresh 0 0 led) }).objs.size l hneI items).toS
  rw [hlen] at W
  refine set_update_strs W s.heap.objs.size hSf hval hb (xs.length - 0) 0 _ (by omega) (Nat.zero_le _) ⟨⟨_, Heap.get?_push_size _ rfl, rfl, rfl⟩, (hl1.push _)⟩ ?hS0 ?hR
  case hS0 =>
    have hget : ((s.heap.push { cls := .type "set", dict := none, data := .set #[] 0 (.fresh 0 0 led) }).push { cls := .type "list_iterator", data := .fields #[.ref l, .int 0 0] }).get? s.heap.objs.size
        = some { cls := .type "set", dict := none, data := .set #[] 0 (.fresh 0 0 led) } := Heap.get?_push_of_some _ hS
    exact SetOf_congr ((setObjOf_fresh (knd := strKind prog w) led).setOf hget (by unfold scanBound; omega)) (fun _ => by rw [metAt_zero]; rfl) (by rw [metAt_zero]; rfl)
  case hR =>
    intro s' hm hS'
    obtain ⟨h', g', d', tk', os'⟩ := s'
    have eg : g' = s.gens := hm.gens
    have ed : d' = s.drawn := hm.drawn
    have eo : os' = s.os := hm.os
    subst eg; subst ed; subst eo
    show wpAny _ _ _ _ _ _
    refine wpAny_pure ?_
    show wpAny _ _ (ret Value.none) _ _ _
    refine wpAny_pure ⟨rfl, h h' tk' _ (SetOf_congr hS' (fun k => (metAt_all xs k)) rfl) (metAt_len xs xs.length) fun b o e => ?_⟩
    have hlt := Heap.lt_size e
    refine hm.heap b o ?_ (Heap.get?_push_of_some _ (Heap.get?_push_of_some _ e))
    rw [Heap.size_push]
    simp only [List.mem_cons, List.not_mem_nil, or_false, not_or]
    exact ⟨Nat.ne_of_lt hlt, Nat.ne_of_lt (Nat.lt_succ_of_lt hlt)⟩
end
end Mine
end
section
open PySem PySem.W PyProof.Rows PySem.Builtin PySem.Builtin.ObjectAttr
set_option maxRecDepth 100000
set_option maxHeartbeats 8000000
namespace Mine
section
variable {prog : Program} {w : World} {A : Around} {E : Value → Shared → Prop} {s : Shared}
end
end Mine
end
section
open PySem PySem.W PyProof.Rows
set_option maxRecDepth 100000
set_option maxHeartbeats 8000000
namespace Mine
open SetTable
def owned (ow : List (Option Nat)) : List Nat := ow.filterMap id
theorem owned_set (n : Nat) : ∀ {ow : List (Option Nat)} {j : Nat}, ow[j]? = some none → (owned (ow.set j (some n))).Perm (n :: owned ow)
  | [], j, h => by simp at h
  | x :: ow, 0, h => by
    simp at h
    subst h
    simp [owned]
  | x :: ow, j + 1, h => by
    have ih := owned_set n (ow := ow) (j := j) (by simpa using h)
    cases x with
    | none => simpa [owned] using ih
    | some k =>
      have e : owned ((some k :: ow).set (j + 1) (some n)) = k :: owned (ow.set j (some n)) := by simp [owned]
      have e2 : owned (some k :: ow) = k :: owned ow := by simp [owned]
      rw [e, e2]
      exact (ih.cons k).trans (List.Perm.swap n k _)
theorem owned_all : ∀ {ow : List (Option Nat)}, (∀ j : Nat, ow[j]? ≠ some (none : Option Nat)) → (owned ow).length = ow.length
  | [], _ => rfl
  | none :: _, h => absurd rfl (h 0)
  | some k :: ow, h => by
    have e2 : owned (some k :: ow) = k :: owned ow := by simp [owned]
    rw [e2, List.length_cons, List.length_cons, owned_all fun j => h (j + 1)]
def lcg (m i : Nat) : Nat := (i * 5 + 1) % (m + 1)
def orb (m : Nat) : Nat → Nat → List Nat
  | 0, _ => []
  | n + 1, i => i :: orb m n (lcg m i)
def Covers (m : Nat) : Prop := ∀ i ≤ m, ∀ j ≤ m, j ∈ orb m (m + 1) i
def bitsOf (l : List Nat) : Nat := l.foldr (fun j b => b ||| (1 <<< j)) 0
theorem bitsOf_mem : ∀ {l : List Nat} {j : Nat}, (bitsOf l).testBit j = true → j ∈ l
  | [], j, h => by simp [bitsOf] at h
  | k :: l, j, h => by
    have e : bitsOf (k :: l) = bitsOf l ||| (1 <<< k) := rfl
    rw [e, Nat.testBit_or, Bool.or_eq_true] at h
    rcases h with h | h
    · exact .tail _ (bitsOf_mem h)
    · rw [Nat.one_shiftLeft, Nat.testBit_two_pow] at h
      have : k = j := by simpa using h
      exact this ▸ .head _
theorem covers_of {m : Nat} (h : ((List.range (m + 1)).all fun i => Nat.beq (bitsOf (orb m (m + 1) i)) (2 ^ (m + 1) - 1)) = true) : Covers m := fun i hi j hj => by
  have := Nat.eq_of_beq_eq_true (List.all_eq_true.mp h i (List.mem_range.mpr (Nat.lt_succ_of_le hi)))
  refine bitsOf_mem ?_
  rw [this, Nat.testBit_two_pow_sub_one]
  exact decide_eq_true (Nat.lt_succ_of_le hj)
theorem covers7 : Covers 7 := covers_of (by decide +kernel)
theorem covers15 : Covers 15 := covers_of (by decide +kernel)
theorem covers31 : Covers 31 := covers_of (by decide +kernel)
theorem covers63 : Covers 63 := covers_of (by decide +kernel)
theorem covers127 : Covers 127 := covers_of (by decide +kernel)
theorem above_cases : ∀ n : Fin 128, sizeAbove n.val = 8 ∨ sizeAbove n.val = 16 ∨ sizeAbove n.val = 32 ∨ sizeAbove n.val = 64 ∨ sizeAbove n.val = 128 := by decide +kernel
theorem covers_above {n : Nat} (h : n < 128) : Covers (sizeAbove n - 1) := by
  rcases above_cases ⟨n, h⟩ with e | e | e | e | e <;> (dsimp only at e; rw [e])
  · exact covers7
  · exact covers15
  · exact covers31
  · exact covers63
  · exact covers127
theorem above_gt : ∀ n : Fin 128, n.val < sizeAbove n.val := by decide +kernel
section
variable {m : Nat} {ow : Array (Option Nat)}
theorem getD_none {j : Nat} (h : ow.getD j (some 0) = none) : ow.toList[j]? = some none := by
  unfold Array.getD at h
  split at h
  · next hj => rw [Array.getElem?_toList, Array.getElem?_eq_getElem hj]; exact congrArg some h
  · cases h
theorem free_some : ∀ (f i p j : Nat), layClean.free m ow f i p = some j → ow.toList[j]? = some none
  | 0, _, _, _, h => by unfold layClean.free at h; cases h
  | f + 1, i, p, j, h => by
    unfold layClean.free at h
    split at h
    · next k hk =>
      cases h
      have := List.find?_some hk
      exact getD_none (by simpa using this)
    · exact free_some f _ _ _ h
theorem free_none (f i p : Nat) (h : layClean.free m ow (f + 1) i p = none) : ow.getD i (some 0) ≠ none ∧ layClean.free m ow f (leap m i p).1 (leap m i p).2 = none := by
  unfold layClean.free at h
  split at h
  · cases h
  · next hk =>
    refine ⟨fun q => ?_, h⟩
    have hr : i ≤ runEnd m i := by unfold runEnd; split <;> omega
    have := List.find?_eq_none.mp hk 0 (List.mem_range.mpr (by omega))
    rw [Nat.add_zero, q] at this
    exact this rfl
theorem free_lcg : ∀ (f i : Nat), layClean.free m ow f i 0 = none → ∀ j ∈ orb m f i, ow.getD j (some 0) ≠ none
  | 0, _, _, _, hj => by cases hj
  | f + 1, i, h, j, hj => by
    obtain ⟨h1, h2⟩ := free_none f i 0 h
    rcases List.mem_cons.mp hj with rfl | hj
    · exact h1
    · exact free_lcg f _ h2 j hj
theorem free_zero : ∀ (n f i p : Nat), p < 32 ^ n → i ≤ m → layClean.free m ow (f + n) i p = none → ∃ i', i' ≤ m ∧ layClean.free m ow f i' 0 = none
  | 0, f, i, p, hp, hi, h => by
    have : p = 0 := by omega
    subst this
    exact ⟨i, hi, h⟩
  | n + 1, f, i, p, hp, hi, h => by
    obtain ⟨_, h2⟩ := free_none (f + n) i p h
    refine free_zero n f _ _ ?_ ?_ h2
    · show p / 32 < 32 ^ n
      rw [Nat.pow_succ] at hp
      exact (Nat.div_lt_iff_lt_mul (by decide)).mpr hp
    · exact Nat.le_of_lt_succ (Nat.mod_lt _ (Nat.succ_pos _))
theorem orb_more : ∀ (a b i : Nat), a ≤ b → ∀ j ∈ orb m a i, j ∈ orb m b i
  | 0, _, _, _, _, h => by cases h
  | a + 1, 0, _, h, _, _ => absurd h (Nat.not_succ_le_zero a)
  | a + 1, b + 1, i, h, j, hj => by
    rcases List.mem_cons.mp hj with rfl | hj
    · exact .head _
    · exact .tail _ (orb_more a b _ (Nat.le_of_succ_le_succ h) j hj)
theorem free_there (hc : Covers m) (hs : ow.size = m + 1) {j : Nat} (hj : ow.toList[j]? = some none) (h : Int) : ∃ j', layClean.free m ow (turns m) (bits h % (m + 1)) (bits h) = some j' := by
  cases q : layClean.free m ow (turns m) (bits h % (m + 1)) (bits h) with
  | some j' => exact ⟨j', rfl⟩
  | none =>
    exfalso
    have hb : bits h < 32 ^ 13 := by
      have h1 : h % (2 ^ 64 : Int) < 2 ^ 64 := Int.emod_lt_of_pos _ (by decide)
      have h0 : 0 ≤ h % (2 ^ 64 : Int) := Int.emod_nonneg _ (by decide)
      have : (h % (2 ^ 64 : Int)).toNat < 2 ^ 64 := by omega
      exact Nat.lt_trans this (by decide)
    have q' : layClean.free m ow (m + 2 + 13) (bits h % (m + 1)) (bits h) = none := q
    obtain ⟨i', hi', h2⟩ := free_zero 13 (m + 2) _ _ hb (Nat.le_of_lt_succ (Nat.mod_lt _ (Nat.succ_pos _))) q'
    have hjm : j ≤ m := by
      have := (List.getElem?_eq_some_iff.mp hj).1
      rw [Array.length_toList, hs] at this
      omega
    refine free_lcg _ _ h2 j (orb_more (m + 1) _ _ (Nat.le_succ _) j (hc i' hi' j hjm)) ?_
    obtain ⟨h3, h4⟩ := List.getElem?_eq_some_iff.mp hj
    rw [Array.length_toList] at h3
    unfold Array.getD
    rw [dif_pos h3]
    exact h4
end
abbrev stepL (m : Nat) (acc : Option (Array (Option Nat) × Nat)) (h : Int) : Option (Array (Option Nat) × Nat) := do
  let (owner, k) ← acc
  let j ← layClean.free m owner (turns m) (bits h % (m + 1)) (bits h)
  pure (owner.setIfInBounds j (some k), k + 1)
theorem lay_fold {m : Nat} (hc : Covers m) : ∀ (rest : List Int) (k : Nat) (ow : Array (Option Nat)), ow.size = m + 1 → (owned ow.toList).Perm (List.range k) → k + rest.length ≤ m →
    ∃ ow', rest.foldl (stepL m) (some (ow, k)) = some (ow', k + rest.length) ∧ ow'.size = m + 1 ∧ (owned ow'.toList).Perm (List.range (k + rest.length))
  | [], k, ow, hs, hp, _ => ⟨ow, rfl, hs, hp⟩
  | h :: rest, k, ow, hs, hp, hk => by
    rw [List.length_cons] at hk
    have hfree : ∃ j : Nat, ow.toList[j]? = some (none : Option Nat) := by
      apply Classical.byContradiction
      intro q
      have := owned_all (ow := ow.toList) fun j hj => q ⟨j, hj⟩
      rw [hp.length_eq, List.length_range, Array.length_toList, hs] at this
      omega
    obtain ⟨j, hj⟩ := hfree
    obtain ⟨j', hf⟩ := free_there hc hs hj h
    have hj' := free_some _ _ _ _ hf
    have e1 : stepL m (some (ow, k)) h = some (ow.setIfInBounds j' (some k), k + 1) := by
      show (layClean.free m ow (turns m) (bits h % (m + 1)) (bits h)).bind _ = _
      rw [hf]; rfl
    have hp' : (owned (ow.setIfInBounds j' (some k)).toList).Perm (List.range (k + 1)) := by
      rw [Array.toList_setIfInBounds, List.range_succ]
      refine ((owned_set k hj').trans (hp.cons k)).trans ?_
      exact (List.perm_append_singleton _ _).symm
    obtain ⟨ow', h1, h2, h3⟩ := lay_fold hc rest (k + 1) _ (by rw [Array.size_setIfInBounds]; exact hs) hp' (by omega)
    refine ⟨ow', ?_, h2, ?_⟩
    · rw [List.foldl_cons, e1, h1, List.length_cons]
      congr 2
      omega
    · rw [List.length_cons, ← Nat.add_assoc, Nat.add_right_comm]; exact h3
theorem layClean_ok {m : Nat} (hc : Covers m) (hs : Array Int) (hn : hs.size ≤ m) : ∃ ow, layClean m hs = some ow ∧ ow.size = m + 1 ∧ (owned ow.toList).Perm (List.range hs.size) := by
  obtain ⟨ow, h1, h2, h3⟩ := lay_fold hc hs.toList 0 (Array.replicate (m + 1) none) (by simp) (by simp [owned]) (by simpa using hn)
  refine ⟨ow, ?_, h2, by simpa using h3⟩
  unfold layClean
  rw [← Array.foldl_toList]
  have : (List.foldl (stepL m) (some (Array.replicate (m + 1) none, 0)) hs.toList).map (·.1) = some ow := by rw [h1]; rfl
  exact this
theorem laid_ok {m finger moves : Nat} {led plain : Bool} (hc : Covers m) (hs : Array Int) (hn : hs.size ≤ m) :
    ∃ t order, laid m finger moves led plain hs = some (t, order) ∧ order.toList.Perm (List.range hs.size) ∧ t.fits hs.size = true ∧ t.mask = m ∧ t.dummies = #[] := by
  obtain ⟨ow, h1, h2, h3⟩ := layClean_ok hc hs hn
  have hord : ((List.range (m + 1)).filterMap fun j => (ow.getD j none).map (j, ·)).map (·.2) = owned ow.toList := by
    rw [List.map_filterMap]
    have e : ow.toList = (List.range (m + 1)).map fun j => ow.getD j none := by
      apply List.ext_getElem
      · simp [h2]
      · intro i h4 h5
        have hi : i < ow.size := by simpa using h4
        simp [Array.getD, hi]
    unfold owned
    rw [e, List.filterMap_map]
    congr 1
    funext j
    show Option.map (fun x => x.snd) (Option.map (fun x => (j, x)) (ow.getD j none)) = ow.getD j none
    cases ow.getD j none <;> rfl
  have hlen : ((List.range (m + 1)).filterMap fun j => (ow.getD j none).map (j, ·)).length = hs.size := by
    rw [← List.length_map (f := (·.2)), hord, h3.length_eq, List.length_range]
  refine ⟨_, _, by unfold laid; rw [h1]; rfl, ?_, ?_, rfl, rfl⟩
  · show (((List.range (m + 1)).filterMap fun j => (ow.getD j none).map (j, ·)).map (·.2)).Perm _
    rw [hord]; exact h3
  · unfold SetTable.fits SetTable.fill
    simp only [List.size_toArray, List.length_map, hlen, List.size_toArray, List.length_nil, Nat.add_zero, beq_self_eq_true, Bool.true_and, decide_eq_true_eq]
    exact hn
theorem relay_perm {α : Type} {es : Array α} {order : Array Nat} (h : order.toList.Perm (List.range es.size)) : (order.filterMap (es[·]?)).toList.Perm es.toList ∧ (order.filterMap (es[·]?)).size = es.size := by
  have e : (order.filterMap (es[·]?)).toList.Perm es.toList := by
    rw [Array.toList_filterMap]
    refine (h.filterMap _).trans ?_
    have : (List.range es.size).filterMap (fun x => es[x]?) = es.toList := by
      have e2 : ∀ l : List α, (List.range l.length).filterMap (fun x => l[x]?) = l := by
        intro l
        induction l with
        | nil => rfl
        | cons a l ih =>
          rw [List.length_cons, List.range_succ_eq_map, List.filterMap_cons_some (f := fun x => (a :: l)[x]?) (b := a) rfl, List.filterMap_map]
          congr 1
      have := e2 es.toList
      rw [Array.length_toList] at this
      simpa using this
    rw [this]
  exact ⟨e, by rw [← Array.length_toList, e.length_eq, Array.length_toList]⟩
end Mine
end
section
open PySem PySem.W PyProof.Rows
set_option maxRecDepth 100000
set_option maxHeartbeats 8000000
namespace Mine
theorem pickS_erase {α : Type} : ∀ (l : List α) (i : Nat) (x : α), l[i]? = some x → (x :: l.eraseIdx i).Perm l
  | [], i, x, h => by simp at h
  | y :: l, 0, x, h => by simp at h; subst h; exact .refl _
  | y :: l, i + 1, x, h => by
    simp only [List.getElem?_cons_succ] at h
    rw [List.eraseIdx_cons_succ]
    exact (List.Perm.swap y x _).trans ((pickS_erase l i x h).cons y)
theorem pickS_go {α : Type} (next : Nat → Nat) : ∀ (n k : Nat) (left : List α) (out : Array α), left.length = n → (pickOrder.go next n k left out).toList.Perm (out.toList ++ left) := by
  intro n
  induction n with
  | zero => intro k left out h; unfold pickOrder.go; rw [List.length_eq_zero_iff.mp h, List.append_nil]
  | succ n ih =>
    intro k left out h
    have hlt : next k % left.length < left.length := Nat.mod_lt _ (by omega)
    unfold pickOrder.go
    rw [List.getElem?_eq_getElem hlt]
    dsimp only
    refine (ih _ _ _ (by rw [List.length_eraseIdx, if_pos hlt]; omega)).trans ?_
    rw [Array.toList_push, List.append_assoc]
    exact (pickS_erase left _ _ (List.getElem?_eq_getElem hlt)).append_left _
theorem pickS_perm {α : Type} (next : Nat → Nat) (xs : Array α) : (pickOrder next xs).toList.Perm xs.toList := by
  unfold pickOrder
  have := pickS_go next xs.size 0 xs.toList #[] (Array.length_toList ..)
  simpa using this
theorem above_fits : ∀ n : Fin 128, SetTable.sizeAbove n.val ≤ sizeLine := by decide +kernel
section
variable {prog : Program} {w : World} {K : Type} [DecidableEq K] {knd : KeyKind prog w K} {A : Around} {E : Value → Shared → Prop} {s : Shared}
abbrev inTextOrder (w : World) : Bool := w.params.followText "set-order"
theorem inTextOrder_of {Q : Bool → Shared → Prop} (h : Q (inTextOrder w) s) : wpAny (model prog w) A setsByText Q E s := by
  unfold setsByText
  exact wpAny_bind (wpAny_askSetting (wpAny_pure h))
def SetD (knd : KeyKind prog w K) (h : Heap) (a : Addr) (l : List K) : Prop := l.Nodup ∧ h.SetOf knd a (fun k => decide (k ∈ l)) l.length
theorem SetOf_eqv {h : Heap} {a : Addr} {S S' : K → Bool} {n n' : Nat} (x : h.SetOf knd a S n) (e : ∀ k, S k = S' k) (en : n = n') : h.SetOf knd a S' n' := by
  have : S = S' := funext e
  subst this; subst en; exact x
theorem SetD.keep {h h' : Heap} {a : Addr} {l : List K} (x : SetD knd h a l) (k : KeepAll h h') : SetD knd h' a l := ⟨x.1, setOf_keep x.2 k⟩
abbrev freshSet (led : Bool) : Obj := { cls := .type "set", dict := none, data := .set #[] 0 (.fresh 0 0 led) }
theorem laid_entries {m finger moves : Nat} {led plain : Bool} {es : Array (Int × Value)} (hc : Covers m) (hn : es.size ≤ m) :
    ∃ t order, SetTable.laid m finger moves led plain (es.map (·.1)) = some (t, order) ∧ (order.filterMap (es[·]?)).toList.Perm es.toList ∧ (order.filterMap (es[·]?)).size = es.size ∧ t.fits es.size = true ∧ t.mask = m ∧ t.dummies = #[] := by
  obtain ⟨t, order, h1, h2, h3, h6⟩ := laid_ok (finger := finger) (moves := moves) (led := led) (plain := plain) hc (es.map (·.1)) (by rw [Array.size_map]; exact hn)
  rw [Array.size_map] at h2 h3
  obtain ⟨h4, h5⟩ := relay_perm (es := es) h2
  exact ⟨t, order, h1, h4, h5, h3, h6⟩
theorem relay_of {a : Addr} {S : K → Bool} {n wanted : Nat} {Q : Unit → Shared → Prop} (hS : s.heap.SetOf knd a S n) (hw : wanted < 128) (hn : n < SetTable.sizeAbove wanted)
    (h : ∀ h', Heap.SameBut a s.heap h' → h'.SetOf knd a S n → Q () { s with heap := h' }) : wpAny (model prog w) A (setRelay a wanted) Q E s := by
  obtain ⟨o, es, ep, t, ho, hex, hd, hel, hmem, hb, hf, hes⟩ := hS
  have hfit := above_fits ⟨wanted, hw⟩
  dsimp only at hfit
  unfold setRelay
  refine wpAny_bind (wpAny_setState_of ho hd hf ?_)
  dsimp only
  rw [if_neg (Nat.not_lt.mpr hfit)]
  obtain ⟨t', order, h1, h2, h3, h4, _⟩ := laid_entries (finger := t.finger) (moves := t.movedTo (SetTable.sizeAbove wanted - 1)) (led := t.led) (plain := t.plain) (es := es) (covers_above hw) (by omega)
  have h1' : t.relaid (es.map (·.1)) wanted = some (t', order) := h1
  refine wpAny_bind (wpAny_of_eq (a := (order.filterMap (es[·]?), t')) ?_ ?_)
  · rw [h1']
    have hz : ((order.filterMap (es[·]?)).size != es.size) = false := by rw [h3]; simp
    show (if ((order.filterMap (es[·]?)).size != es.size) = true then (unsupported "internal:set-table-lost-an-element" : Sem Unit) >>= fun _ => pure (order.filterMap (es[·]?), t') else pure (order.filterMap (es[·]?), t')) = pure (order.filterMap (es[·]?), t')
    rw [hz]
    rfl
  · dsimp only
    refine wpAny_storeSet_of ho hd ?_ (fits_of_scanBound (by rw [h3]; exact hb))
    have := (SetOf_store (knd := knd) (es' := order.filterMap (es[·]?)) (t' := t') (S' := S) ho hex hd (hel.perm h2) (fun k => (hmem k).trans ⟨fun ⟨e, he, q⟩ => ⟨e, h2.mem_iff.mpr he, q⟩, fun ⟨e, he, q⟩ => ⟨e, h2.mem_iff.mp he, q⟩⟩) (by rw [h3]; exact hb) (by rw [h3]; exact h4)).2
    refine h _ (Heap.SameBut.update ..) ?_
    rw [h3, hes] at this
    exact this
theorem room_of {a : Addr} {S : K → Bool} {n more : Nat} {Q : Unit → Shared → Prop} (hS : s.heap.SetOf knd a S n) (hn : n + more < 64)
    (h : ∀ h', Heap.SameBut a s.heap h' → h'.SetOf knd a S n → Q () { s with heap := h' }) : wpAny (model prog w) A (setRoomFor a more) Q E s := by
  obtain ⟨o, es, ep, t, ho, hex, hd, hel, hmem, hb, hf, hes⟩ := id hS
  have hp : t.place.size = n := by
    unfold SetTable.fits at hf
    rw [Bool.and_eq_true, beq_iff_eq] at hf
    rw [hf.1, hes]
  unfold setRoomFor
  refine wpAny_bind (wpAny_setState_of ho hd hf ?_)
  dsimp only
  unfold SetTable.roomFor
  by_cases q : (t.fill + more) * 5 ≥ t.mask * 3
  · rw [if_pos q]
    dsimp only
    rw [hp]
    have := above_gt ⟨(n + more) * 2, by omega⟩
    dsimp only at this
    exact relay_of hS (by omega) (by omega) h
  · rw [if_neg q]
    exact wpAny_pure (h s.heap ⟨rfl, fun _ _ => rfl⟩ hS)
theorem reordered_of {es : Array (Int × Value)} {t' : SetTable} {order : Array Nat} (h3 : (order.filterMap (es[·]?)).size = es.size) :
    (if ((order.filterMap (es[·]?)).size != es.size) = true then (unsupported "internal:set-table-lost-an-element" : Sem Unit) >>= fun _ => pure (order.filterMap (es[·]?), t') else pure (order.filterMap (es[·]?), t')) = pure (order.filterMap (es[·]?), t') := by
  have hz : ((order.filterMap (es[·]?)).size != es.size) = false := by rw [h3]; simp
  rw [hz]
  rfl
theorem fresh_fits (led : Bool) : (SetTable.fresh 0 0 led).fits (0 : Nat) = true := by cases led <;> decide
theorem room_fresh {a : Addr} {led : Bool} {n : Nat} {Q : Unit → Shared → Prop} (hn : n < 64) (ho : s.heap.get? a = some (freshSet led))
    (h : ∀ h' ep t, Heap.SameBut a s.heap h' → h'.get? a = some { cls := .type "set", dict := none, data := .set #[] ep t } → t.place = #[] → t.dummies = #[] → Covers t.mask → n ≤ t.mask → Q () { s with heap := h' }) : wpAny (model prog w) A (setRoomFor a n) Q E s := by
  unfold setRoomFor
  refine wpAny_bind (wpAny_setState_of ho rfl (fresh_fits led) ?_)
  dsimp only
  unfold SetTable.roomFor
  by_cases q : ((SetTable.fresh 0 0 led).fill + n) * 5 ≥ (SetTable.fresh 0 0 led).mask * 3
  · rw [if_pos q]
    dsimp only
    have e0 : (SetTable.fresh 0 0 led).place.size = 0 := rfl
    rw [e0, Nat.zero_add]
    have hw : n * 2 < 128 := by omega
    have hgt := above_gt ⟨n * 2, hw⟩
    have hfit := above_fits ⟨n * 2, hw⟩
    dsimp only at hgt hfit
    unfold setRelay
    refine wpAny_bind (wpAny_setState_of ho rfl (fresh_fits led) ?_)
    dsimp only
    rw [if_neg (Nat.not_lt.mpr hfit)]
    obtain ⟨t', order, h1, h2, h3, h4, h5, h6⟩ := laid_entries (finger := 0) (moves := (SetTable.fresh 0 0 led).movedTo (SetTable.sizeAbove (n * 2) - 1)) (led := led) (plain := true) (es := #[]) (covers_above hw) (by simp)
    have h1' : (SetTable.fresh 0 0 led).relaid ((#[] : Array (Int × Value)).map (·.1)) (n * 2) = some (t', order) := h1
    refine wpAny_bind (wpAny_of_eq (a := (order.filterMap ((#[] : Array (Int × Value))[·]?), t')) ?_ ?_)
    · rw [h1']
      exact reordered_of h3
    · dsimp only
      have e1 : order.filterMap ((#[] : Array (Int × Value))[·]?) = #[] := Array.size_eq_zero_iff.mp h3
      rw [e1]
      refine wpAny_storeSet_of ho rfl (h _ _ t' (Heap.SameBut.update ..) (SetOf_store (knd := strKind prog w) (es' := #[]) (t' := t') (S' := fun _ => false) ho ⟨rfl, rfl, rfl⟩ rfl (fun e he => by simp at he) (fun k => by simp) (by decide) h4).1 ?_ h6 ?_ ?_) (by decide)
      · unfold SetTable.fits at h4
        rw [Bool.and_eq_true, beq_iff_eq] at h4
        exact Array.size_eq_zero_iff.mp h4.1
      · rw [h5]; exact covers_above hw
      · rw [h5]; omega
  · rw [if_neg q]
    have q' : ¬ (0 + n) * 5 ≥ 7 * 3 := q
    exact wpAny_pure (h s.heap 0 _ ⟨rfl, fun _ _ => rfl⟩ ho rfl rfl covers7 (by show n ≤ 7; omega))
theorem setD_fresh {h : Heap} {a : Addr} {led : Bool} (ho : h.get? a = some (freshSet led)) : SetD knd h a [] :=
  ⟨List.nodup_nil, SetOf_eqv ((setObjOf_fresh (knd := knd) led).setOf ho (by decide)) (fun k => by simp) rfl⟩
theorem merge_fresh {a b : Addr} {led : Bool} {m : List K} {each : Sem Unit} {Q : Unit → Shared → Prop} (hab : a ≠ b) (ho : s.heap.get? a = some (freshSet led)) (hB : SetD knd s.heap b m) (hm : m.length < 64)
    (h : ∀ h', Heap.SameBut a s.heap h' → SetD knd h' a m → Q () { s with heap := h' }) : wpAny (model prog w) A (setMerge a b each) Q E s := by
  obtain ⟨hnd, o, es, ep, t, hob, hex, hd, hel, hmem, hb, hf, hes⟩ := id hB
  unfold setMerge
  have hab' : (a == b) = false := by simpa using hab
  rw [hab']
  simp only [Bool.false_eq_true, if_false]
  refine wpAny_bind (wpAny_setState_of hob hd hf ?_)
  dsimp only
  by_cases q : es.isEmpty = true
  · rw [if_pos q]
    have hz : m = [] := by
      have : es.size = 0 := by simpa using q
      rw [hes] at this
      exact List.length_eq_zero_iff.mp this
    subst hz
    exact wpAny_pure (h s.heap ⟨rfl, fun _ _ => rfl⟩ (setD_fresh ho))
  · rw [if_neg q]
    refine wpAny_bind (room_fresh (n := es.size) (by omega) ho fun h1 ep1 t1 hsb1 ho1 hp1 hd1 hc1 hn1 => ?_)
    have hf1 : t1.fits (0 : Nat) = true := by unfold SetTable.fits SetTable.fill; rw [hp1, hd1]; simp
    refine wpAny_bind (wpAny_setState_of (s := { s with heap := h1 }) ho1 rfl hf1 ?_)
    dsimp only
    have hfill : (t1.fill != 0) = false := by unfold SetTable.fill; rw [hp1, hd1]; rfl
    unfold SetTable.road
    rw [hfill]
    simp only [Bool.false_eq_true, if_false]
    by_cases q2 : (t1.mask == t.mask && t.dummies.isEmpty) = true
    · rw [if_pos q2]
      dsimp only
      refine wpAny_storeSet_of (s := { s with heap := h1 }) ho1 rfl (h _ (hsb1.trans (Heap.SameBut.update ..)) ⟨hnd, ?_⟩) (fits_of_scanBound hb)
      have := (SetOf_store (knd := knd) (es' := es) (t' := { t with finger := t1.finger, led := t1.led && t.led, moves := t1.moves, plain := t1.plain && t.plain }) (S' := fun k => decide (k ∈ m)) ho1 ⟨rfl, rfl, rfl⟩ rfl hel hmem hb hf).2
      rw [hes] at this
      exact this
    · rw [if_neg q2]
      dsimp only
      obtain ⟨t', order, g1, g2, g3, g4, _⟩ := laid_entries (finger := t1.finger) (moves := t1.moves) (led := t1.led && t.led) (plain := t1.plain && t.plain) (es := es) hc1 hn1
      refine wpAny_bind (wpAny_of_eq (a := (order.filterMap (es[·]?), t')) ?_ ?_)
      · rw [g1]
        exact reordered_of g3
      · dsimp only
        refine wpAny_storeSet_of (s := { s with heap := h1 }) ho1 rfl (h _ (hsb1.trans (Heap.SameBut.update ..)) ⟨hnd, ?_⟩) (fits_of_scanBound (by rw [g3]; exact hb))
        have := (SetOf_store (knd := knd) (es' := order.filterMap (es[·]?)) (t' := t') (S' := fun k => decide (k ∈ m)) ho1 ⟨rfl, rfl, rfl⟩ rfl (hel.perm g2) (fun k => (hmem k).trans ⟨fun ⟨e, he, q⟩ => ⟨e, g2.mem_iff.mpr he, q⟩, fun ⟨e, he, q⟩ => ⟨e, g2.mem_iff.mp he, q⟩⟩) (by rw [g3]; exact hb) (by rw [g3]; exact g4)).2
        rw [g3, hes] at this
        exact this
end
end Mine
end
section
open PySem PySem.W PyProof.Rows
set_option maxRecDepth 100000
set_option maxHeartbeats 8000000
namespace Mine
section
variable {prog : Program} {w : World} {K : Type} [DecidableEq K] {knd : KeyKind prog w K} {A : Around} {E : Value → Shared → Prop} {s : Shared}
theorem walk_entries {b : Addr} {o : Obj} {es : Array (Int × Value)} {ep : Nat} {t : SetTable} {Q : Array (Int × Value) → Shared → Prop} (hob : s.heap.get? b = some o) (hd : o.data = .set es ep t) (hf : t.fits es.size = true)
    (hc : (inTextOrder w || (t.led && t.plain) || decide (es.size ≤ 1)) = true) (h : ∀ L : Array (Int × Value), L.toList.Perm es.toList → Q L s) : wpAny (model prog w) A (setWalk b) Q E s := by
  unfold setWalk
  refine wpAny_bind (wpAny_setState_of hob hd hf ?_)
  dsimp only
  refine wpAny_bind (inTextOrder_of ?_)
  by_cases hb : inTextOrder w = true
  · rw [hb, if_pos rfl]
    refine wpAny_bind (wpAny_askSetting (wpAny_pure (h _ (pickS_perm _ _))))
  · have hb' : inTextOrder w = false := by simpa using hb
    rw [hb'] at hc ⊢
    rw [if_neg Bool.false_ne_true]
    rw [Bool.false_or, Bool.or_eq_true, Bool.and_eq_true, decide_eq_true_eq] at hc
    refine wpAny_ite ?_
    rw [if_neg]
    · refine wpAny_bind ?_
      refine wpAny_ite ?_
      rw [if_neg]
      · exact wpAny_pure (wpAny_pure (h _ (.refl _)))
      · rcases hc with ⟨h1, h2⟩ | h1
        · simp [h1]
        · simp only [Bool.and_eq_true, decide_eq_true_eq]; omega
    · show ¬ (!t.plain && decide (es.size > 1)) = true
      rcases hc with ⟨h1, h2⟩ | h1
      · simp [h2]
      · simp only [Bool.and_eq_true, decide_eq_true_eq]; omega
theorem quiet_of {sets : List Addr} {Q : Bool → Shared → Prop} (hs : ∀ c ∈ sets, ∃ o es ep t, s.heap.get? c = some o ∧ o.data = .set es ep t ∧ t.fits es.size = true ∧ ElemsOf knd es.toList) (h : Q true s) :
    wpAny (model prog w) A (setsQuiet sets) Q E s := by
  unfold setsQuiet
  refine wpAny_bind (wpAny_forIn_list _ (fun rest b s' => s' = s ∧ b = ((none, ()) : Option Bool × Unit) ∧ ∀ c ∈ rest, c ∈ sets) _ ?_ ?_ _ _ ⟨rfl, rfl, fun _ h => h⟩)
  · rintro x rest b s' ⟨rfl, rfl, hr⟩
    obtain ⟨o, es, ep, t, hob, hd, hf, hel⟩ := hs x (hr x (.head _))
    refine wpAny_bind (wpAny_setEntries_of hob hd hf ?_)
    refine wpAny_bind ?_
    rw [← Array.forIn_toList]
    refine wpAny_forIn_list _ (fun rest b s'' => s'' = s' ∧ b = ((none, ()) : Option Bool × Unit) ∧ ∀ c ∈ rest, c ∈ es.toList) _ ?_ ?_ _ _ ⟨rfl, rfl, fun _ h => h⟩
    · rintro ⟨hx, x⟩ rest' b s'' ⟨rfl, rfl, hr'⟩
      have hsc := (hel _ (hr' _ (.head _))).2
      have hr2 : ∀ c ∈ rest', c ∈ es.toList := fun c hc => hr' c (.tail _ hc)
      dsimp only at hsc ⊢
      cases x <;> first | exact wpAny_pure ⟨rfl, rfl, hr2⟩ | cases hsc
    · rintro b s'' ⟨rfl, rfl, _⟩
      exact wpAny_pure ⟨rfl, rfl, fun c hc => hr c (.tail _ hc)⟩
  · rintro b s' ⟨rfl, rfl, _⟩
    exact wpAny_pure h
theorem walk_unseen {a b : Addr} {S : K → Bool} {n : Nat} {Q : Array (Int × Value) → Shared → Prop} {o : Obj} {es : Array (Int × Value)} {ep : Nat} {t : SetTable} (hab : a ≠ b) (hA : s.heap.SetOf knd a S n)
    (hob : s.heap.get? b = some o) (hd : o.data = .set es ep t) (hf : t.fits es.size = true) (hel : ElemsOf knd es.toList)
    (h : ∀ h' (L : Array (Int × Value)), Heap.SameBut a s.heap h' → h'.SetOf knd a S n → L.toList.Perm es.toList → Q L { s with heap := h' }) : wpAny (model prog w) A (setWalkUnseen b [a] (some a)) Q E s := by
  unfold setWalkUnseen
  refine wpAny_bind (wpAny_setState_of hob hd hf ?_)
  dsimp only
  refine wpAny_bind (inTextOrder_of ?_)
  by_cases hc : (inTextOrder w || (t.led && t.plain) || decide (es.size ≤ 1)) = true
  · rw [if_pos hc]
    exact walk_entries hob hd hf hc fun L hL => h s.heap L ⟨rfl, fun _ _ => rfl⟩ hA hL
  · rw [if_neg hc]
    obtain ⟨oa, ea, pa, ta, hoa, hxa, hda, hla, hma, hba, hfa, hna⟩ := id hA
    refine wpAny_bind (quiet_of (knd := knd) ?_ ?_)
    · intro c hc
      rcases List.mem_cons.mp hc with rfl | hc
      · exact ⟨o, es, ep, t, hob, hd, hf, hel⟩
      · rcases List.mem_cons.mp hc with rfl | hc
        · exact ⟨oa, ea, pa, ta, hoa, hda, hfa, hla⟩
        · cases hc
    · simp only [Bool.not_true, Bool.false_eq_true, if_false]
      refine wpAny_bind (wpAny_rule ?_)
      refine wpAny_bind (wpAny_setState_of hoa hda hfa ?_)
      dsimp only
      by_cases q : (ta.led && !t.led || ta.plain && !t.plain) = true
      · rw [if_pos q]
        refine wpAny_bind (wpAny_storeSet_of hoa hda (wpAny_pure (h _ es (Heap.SameBut.update ..) ?_ (.refl _))) (fits_of_scanBound hba))
        have := (SetOf_store (knd := knd) (es' := ea) (t' := { ta with led := ta.led && t.led, plain := ta.plain && t.plain }) (S' := S) hoa hxa hda hla hma hba hfa).2
        rw [hna] at this
        exact this
      · rw [if_neg q]
        exact wpAny_pure (h s.heap es ⟨rfl, fun _ _ => rfl⟩ hA (.refl _))
theorem nodup_snoc {l : List K} {k : K} (h : l.Nodup) (hk : k ∉ l) : (l ++ [k]).Nodup :=
  List.nodup_append.mpr ⟨h, List.nodup_cons.mpr ⟨List.not_mem_nil, List.nodup_nil⟩, fun x hx y hy e => by
    rw [List.mem_singleton.mp hy] at e; exact hk (e ▸ hx)⟩
theorem addD_of {a : Addr} {l : List K} {k : K} {x : Value} {Q : Bool → Shared → Prop} (hkey : knd.is k x = true) (hsc : x.scannable = true) (hA : SetD knd s.heap a l) (hb : l.length + 1 < scanBound)
    (h : ∀ h' b l', Heap.SameBut a s.heap h' → SetD knd h' a l' → (∀ k', k' ∈ l' ↔ k' ∈ l ∨ k' = k) → l'.length ≤ l.length + 1 → Q b { s with heap := h' }) : wpAny (model prog w) A (setAddHashed a x (knd.hash k)) Q E s := by
  refine wpAny_setAddHashed_of hkey hsc hA.2 hb fun h' hsb hS => ?_
  by_cases q : k ∈ l
  · refine h h' _ l hsb ⟨hA.1, SetOf_eqv hS (fun k' => ?_) (by rw [decide_eq_true q, if_pos rfl])⟩ (fun k' => ⟨.inl, fun h => h.elim id fun e => e ▸ q⟩) (Nat.le_succ _)
    by_cases e : k' = k
    · subst e; simp [q]
    · simp [e]
  · refine h h' _ (l ++ [k]) hsb ⟨nodup_snoc hA.1 q, SetOf_eqv hS (fun k' => ?_) (by rw [decide_eq_false q, List.length_append]; rfl)⟩ (fun k' => by rw [List.mem_append, List.mem_singleton]) (by rw [List.length_append]; exact Nat.le_refl _)
    simp [List.mem_append]
theorem merge_more {a b : Addr} {l m : List K} {each : Sem Unit} {Q : Unit → Shared → Prop} (hab : a ≠ b) (hl : l ≠ []) (hA : SetD knd s.heap a l) (hB : SetD knd s.heap b m) (hsz : l.length + m.length < 64)
    (heach : ∀ (s' : Shared) (Q' : Unit → Shared → Prop), s'.heap.get? b = s.heap.get? b → Q' () s' → wpAny (model prog w) A each Q' E s')
    (h : ∀ h' l', Heap.SameBut a s.heap h' → SetD knd h' a l' → (∀ k, k ∈ l' ↔ k ∈ l ∨ k ∈ m) → Q () { s with heap := h' }) : wpAny (model prog w) A (setMerge a b each) Q E s := by
  obtain ⟨hnd, o, es, ep, t, hob, hex, hd, hel, hmem, hb, hf, hes⟩ := id hB
  unfold setMerge
  have hab' : (a == b) = false := by simpa using hab
  rw [hab']
  simp only [Bool.false_eq_true, if_false]
  refine wpAny_bind (wpAny_setState_of hob hd hf ?_)
  dsimp only
  by_cases q : es.isEmpty = true
  · rw [if_pos q]
    have hz : m = [] := by
      have : es.size = 0 := by simpa using q
      rw [hes] at this
      exact List.length_eq_zero_iff.mp this
    subst hz
    exact wpAny_pure (h s.heap l ⟨rfl, fun _ _ => rfl⟩ hA fun k => by simp)
  · rw [if_neg q]
    refine wpAny_bind (room_of hA.2 (by omega) fun h1 hsb1 hA1 => ?_)
    obtain ⟨oa, ea, pa, ta, hoa, hxa, hda, hla, hma, hba, hfa, hna⟩ := id hA1
    refine wpAny_bind (wpAny_setState_of (s := { s with heap := h1 }) hoa hda hfa ?_)
    dsimp only
    have hfill : (ta.fill != 0) = true := by
      unfold SetTable.fits at hfa
      rw [Bool.and_eq_true, beq_iff_eq] at hfa
      have hl0 : 0 < l.length := List.length_pos_iff.mpr hl
      have : ta.fill ≠ 0 := by unfold SetTable.fill; omega
      simpa using this
    unfold SetTable.road
    rw [hfill]
    simp only [if_true]
    have hob1 : h1.get? b = some o := (hsb1.2 b (Ne.symm hab)).trans hob
    refine wpAny_bind (walk_unseen (s := { s with heap := h1 }) hab hA1 hob1 hd hf hel fun h2 L hsb2 hA2 hL => ?_)
    refine wpAny_bind ?_
    rw [← Array.forIn_toList]
    have hsz2 : L.toList.length = m.length := by rw [hL.length_eq, Array.length_toList, hes]
    refine wpAny_forIn_list _ (fun rest _ s' => ∃ h' l1, s' = { s with heap := h' } ∧ Heap.SameBut a s.heap h' ∧ SetD knd h' a l1 ∧ (∀ e ∈ rest, e ∈ es.toList) ∧ l1.length + rest.length < 64 ∧
      (∀ k, (k ∈ l1 ∨ ∃ e ∈ rest, knd.is k e.2 = true) ↔ (k ∈ l ∨ k ∈ m))) _ ?_ ?_ _ _ ⟨h2, l, rfl, hsb1.trans hsb2, ⟨hA.1, hA2⟩, fun e he => hL.mem_iff.mp he, by rw [hsz2]; exact hsz, fun k => ?_⟩
    · rintro ⟨hx, x⟩ rest _ s' ⟨h', l1, rfl, hsb, hA', hr, hlen, hk⟩
      obtain ⟨⟨k, hkx, hkh⟩, hsc⟩ := hel _ (hr _ (.head _))
      dsimp only at hkx hkh hsc ⊢
      subst hkh
      rw [List.length_cons] at hlen
      refine wpAny_bind (wpAny_holding (addD_of (s := { s with heap := h' }) hkx hsc hA' (by unfold scanBound; omega) fun h3 bb l2 hsb3 hA3 hm3 hl3 => ?_))
      have hobx : h3.get? b = s.heap.get? b := (hsb3.2 b (Ne.symm hab)).trans (hsb.2 b (Ne.symm hab))
      refine wpAny_bind (heach _ _ hobx ?_)
      refine wpAny_bind (wpAny_setState_of (s := { s with heap := h3 }) (hobx.trans hob) hd hf ?_)
      dsimp only
      rw [if_neg (by simp)]
      refine wpAny_pure ⟨h3, l2, rfl, hsb.trans hsb3, hA3, fun e he => hr e (.tail _ he), by omega, fun k' => ?_⟩
      rw [← hk k', hm3 k']
      constructor
      · rintro ((h | h) | ⟨e, he, h⟩)
        · exact .inl h
        · exact .inr ⟨_, .head _, h ▸ hkx⟩
        · exact .inr ⟨e, .tail _ he, h⟩
      · rintro (h | ⟨e, he, h⟩)
        · exact .inl (.inl h)
        · rcases List.mem_cons.mp he with rfl | he
          · exact .inl (.inr (knd.inj _ _ _ h hkx))
          · exact .inr ⟨e, he, h⟩
    · rintro _ s' ⟨h', l1, rfl, hsb, hA', _, _, hk⟩
      exact wpAny_pure (h h' l1 hsb hA' fun k => by rw [← hk k]; simp)
    · have : k ∈ m ↔ ∃ e ∈ L.toList, knd.is k e.2 = true := by
        have := hmem k
        rw [decide_eq_true_eq] at this
        rw [this]
        exact ⟨fun ⟨e, he, h⟩ => ⟨e, hL.mem_iff.mpr he, h⟩, fun ⟨e, he, h⟩ => ⟨e, hL.mem_iff.mp he, h⟩⟩
      rw [this]
end
end Mine
end
section
open PySem PySem.W PyProof.Rows
set_option maxRecDepth 100000
set_option maxHeartbeats 8000000
namespace Mine
theorem compTurn_set1 (elt target iter : Expr) (ifs : List Expr) (scope : Scope) (pos : Pos) (it acc : Value) (env : Env) :
    compTurn (.SetComp elt [⟨target, iter, ifs, 0⟩] scope pos) 0 it acc env = (do
      standAt iter.pos
      match ← pyNext it with
      | none => pure (.done .next)
      | some v =>
        letOwnedTupleGo target it v
        assign target env v
        let mut ok := true
        for c in ifs do
          if ok then ok ← isTrue c env (eval c env)
        if ok then
          (do let v ← eval elt env; standAt elt.pos; let _ ← PySem.call (.builtin "set.add") [acc, v])
        again (.compLoop (.SetComp elt [⟨target, iter, ifs, 0⟩] scope pos) 0 it acc env)) := by rfl
section
variable {prog : Program} {w : World} {A : Around} {E : Value → Shared → Prop} {s : Shared} {K : Type} [DecidableEq K] {knd : KeyKind prog w K}
variable {α : Type} {Val : α → Value → Prop} {it D C : Addr} {OK : Heap → Prop} {S : List Addr} {W : Addr → Prop} {V : Nat → Prop} {own : List Addr} {R : List α → Shared → Prop} {p : α → Bool} {f : α → K}
theorem codeAny_compStart_set {R : Result → Shared → Prop} {elt target iter ifs rest scope pos it acc env}
    (h0 : codeAny (model prog w) A (.compLoop (.SetComp elt (⟨target, iter, ifs, 0⟩ :: rest) scope pos) 0 it acc env) R s)
    (h : wpAny (model prog w) A (pyIter it) (fun it' s' => codeAny (model prog w) A (.compLoop (.SetComp elt (⟨target, iter, ifs, 0⟩ :: rest) scope pos) 0 it' acc env) R s')
      (notedBy (model prog w) A env fun x s' => R (.error x) s') s) :
    codeAny (model prog w) A (.compStart (.SetComp elt (⟨target, iter, ifs, 0⟩ :: rest) scope pos) 0 it acc env) R s := by
  refine codeAny_of_tree ?_
  show wpAny _ _ ((compStart (.SetComp elt (⟨target, iter, ifs, 0⟩ :: rest) scope pos) 0 it acc env).onRaise (fun x => do noteFrame x env; standAt theWindowsPlace)) _ _ s
  refine wpAny_notedAt ?_
  unfold compStart
  show wpAny _ _ (ask >>= _) _ _ s
  refine wpAny_bind (wpAny_askSetting (wpAny_ite ?_))
  split
  · first
      | exact wpAny_bind (wpAny_pure (wpAny_pure (And.intro rfl h0)))
      | exact wpAny_pure (And.intro rfl h0)
  · first
      | exact wpAny_bind (wpAny_rule (wpAny_bind (wpAny_standAt (wpAny_bind (wpAny_mono h (fun it' s' h' => wpAny_pure (And.intro rfl h')) fun _ _ x => x)))))
      | (refine wpAny_bind (wpAny_rule ?_); show wpAny _ _ (standAt iter.pos >>= _) _ _ s; exact wpAny_bind (wpAny_standAt (wpAny_bind (wpAny_mono h (fun it' s' h' => wpAny_pure (And.intro rfl h')) fun _ _ x => x))))
structure EltAt (S : List Addr) (C : Addr) (s s' : Shared) : Prop where
  ext : Ext S (fun b => b = C) NoG s s'
  ns : ∃ m, s'.heap.Ns C m
structure EltSet (knd : KeyKind prog w K) (S : List Addr) (C : Addr) (k : K) (s : Shared) (r : Value) (s' : Shared) : Prop where
  key : knd.is k r = true
  scan : r.scannable = true
  at_ : EltAt S C s s'
structure TestSet (knd : KeyKind prog w K) (A : Around) (S : List Addr) (C : Addr) (elt : Expr) (cenv : Env) (q : Bool) (k : K) (s : Shared) (b : Bool) (s' : Shared) : Prop where
  val : b = q
  at_ : EltAt S C s s'
  next : q = true → wpAny (model prog w) A (eval elt cenv) (fun r s'' => EltSet knd S C k s' r s'') (fun _ _ => False) s'
inductive FillS (knd : KeyKind prog w K) (OK : Heap → Prop) (S : List Addr) (W : Addr → Prop) (V : Nat → Prop) (D C : Addr) (R : List α → Shared → Prop) (p : α → Bool) (f : α → K) (s₀ : Shared) (xs : List α) (n : Nat) (s' : Shared) : Prop
  | mk (done rest : List α) (l : List K) (m : Str → Option Value) (hx : xs = done ++ rest) (hn : n = rest.length) (ok : OK s'.heap) (hR : R rest s') (hD : SetD knd s'.heap D l) (hl : l.length ≤ done.length) (hP : ∀ k, k ∈ l ↔ ∃ y ∈ done, p y = true ∧ k = f y) (hns : s'.heap.Ns C m)
      (hE : Ext S (fun b => b = D ∨ b = C ∨ W b) V s₀ s') : FillS knd OK S W V D C R p f s₀ xs n s'
theorem SetD.at_ {h h' : Heap} {l : List K} (x : SetD knd h D l) (k : ∀ o, h.get? D = some o → h'.get? D = some o) : SetD knd h' D l := by
  obtain ⟨hn, o, es, ep, t, ho, r⟩ := x
  exact ⟨hn, o, es, ep, t, k o ho, r⟩
theorem set_loop {elt iter c : Expr} {scope : Scope} {pos : Pos} {x : Str} {px : Pos} {cenv : Env} {Rr : Result → Shared → Prop} {s₀ : Shared} {xs : List α} {m0 : Str → Option Value}
    (I : It prog w A Val it OK S W V own R) (hx : cenv.kindOf x = some .local) (hp : (cenv.scope.kind == .class || (cenv.scope.kind == .module && cenv.locals != cenv.globals)) = false)
    (hloc : cenv.locals = C) (hD : D ∉ own) (hC : C ∉ own) (hDC : D ≠ C) (hDS : D ∉ S) (hCS : C ∉ S)
    (hOK : ∀ (s s' : Shared), OK s.heap → Ext S (fun b => b = D ∨ b = C ∨ W b) V s s' → OK s'.heap)
    (hoS : ∀ b ∈ own, b ∉ S)
    (helt : ∀ y v (s₃ : Shared) m, y ∈ xs → OK s₃.heap → Ext S (fun b => b = D ∨ b = C ∨ W b) V s₀ s₃ → s₃.heap.Ns C m → m x = some v → Val y v →
      wpAny (model prog w) A (isTrue c cenv (eval c cenv)) (fun b s₄ => TestSet knd A S C elt cenv (p y) (f y) s₃ b s₄) (fun _ _ => False) s₃)
    (hn : xs.length ≤ 1000) (hok : OK s.heap) (hR : R xs s) (hS : SetD knd s.heap D []) (hns : s.heap.Ns C m0) (hX : Ext S (fun b => b = D ∨ b = C ∨ W b) V s₀ s)
    (hEnd : ∀ s' l m, Ext S (fun b => b = D ∨ b = C ∨ W b) V s₀ s' → OK s'.heap → SetD knd s'.heap D l → (∀ k, k ∈ l ↔ ∃ y ∈ xs, p y = true ∧ k = f y) → l.length ≤ xs.length → s'.heap.Ns C m → Rr (.ok .next) s') :
    codeAny (model prog w) A (.compLoop (.SetComp elt [⟨.Name x px, iter, [c], 0⟩] scope pos) 0 (.ref it) (.ref D) cenv) Rr s := by
  subst hloc
  have hDW : ¬ W D := fun h => hD (I.sub D h)
  have hCW : ¬ W cenv.locals := fun h => hC (I.sub _ h)
  refine codeAny_loop rfl (FillS knd OK S W V D cenv.locals R p f s₀ xs) (fun n s hJ => ?_) xs.length ⟨[], xs, [], m0, rfl, rfl, hok, hR, hS, Nat.le_refl _, fun k => by simp, hns, hX⟩
  show wpAny _ _ ((compTurn (.SetComp elt [⟨.Name x px, iter, [c], 0⟩] scope pos) 0 (.ref it) (.ref D) cenv).onRaise (fun x => do noteFrame x cenv; theTreesLotGoes x)) _ _ s
  refine wpAny_noted ?_
  rw [compTurn_set1]
  obtain ⟨done, rest, l, m, hxs, rfl, ok1, R1, S1, L1, P1, n1, X1⟩ := hJ
  refine wpAny_bind (wpAny_standAt (wpAny_bind ?_))
  cases rest with
  | nil =>
    refine I.nil s _ _ ok1 R1 fun s' hE => wpAny_pure ?_
    have e1 : Ext S (fun b => b = D ∨ b = cenv.locals ∨ W b) V s s' := hE.mono (fun _ h => h) (fun _ h => .inr (.inr h)) fun _ h => h
    rw [List.append_nil] at hxs
    refine hEnd s' l m (X1.trans e1) (hOK _ _ ok1 e1) (S1.at_ fun o e => hE.heap _ _ hDS hDW e) (by rw [hxs]; exact P1) (by rw [hxs]; exact L1) (Ext.ns hE hCW n1)
  | cons y ys =>
    refine I.cons y ys s _ _ ok1 R1 fun v s₁ hv hE R2 => ?_
    have e1 : Ext S (fun b => b = D ∨ b = cenv.locals ∨ W b) V s s₁ := hE.mono (fun _ h => nomatch h) (fun _ h => .inr (.inr h)) fun _ h => h
    refine wpAny_bind (wpAny_of_eq (a := ()) rfl (wpAny_bind ?_))
    refine wpAny_assign_Name (wpAny_storeName_local hx (Ext.ns hE hCW n1) (fun h₂ hn₂ hs₂ => ?_) hp)
    have e2 : Ext [] (fun b => b = cenv.locals) V s₁ { s₁ with heap := h₂, toks := s₁.toks + 1 } := Ext.of_heap fun b o hb e => (hs₂.2 b hb).trans e
    have e2' : Ext S (fun b => b = D ∨ b = cenv.locals ∨ W b) V s₁ { s₁ with heap := h₂, toks := s₁.toks + 1 } := e2.mono (fun _ h => nomatch h) (fun _ h => .inr (.inl h)) fun _ h => h
    have ok2 := hOK _ _ ok1 (e1.trans e2')
    have S2 : SetD knd h₂ D l := (S1.at_ (h' := s₁.heap) fun o e => hE.heap _ _ (by simp) hDW e).at_ fun o e => (hs₂.2 D hDC).trans e
    refine wpAny_bind (wpAny_tests_one (wpAny_mono (helt y v _ _ (by rw [hxs]; simp) ok2 (X1.trans (e1.trans e2')) hn₂ (by simp) hv) (fun b s₄ hr => ?_) fun _ _ f => f.elim))
    obtain ⟨rfl, ⟨hext, m4, hn4⟩, hel⟩ := hr
    have e3 : Ext S (fun b => b = D ∨ b = cenv.locals ∨ W b) V { s₁ with heap := h₂, toks := s₁.toks + 1 } s₄ := hext.mono (fun _ h => h) (fun _ h => .inr (.inl h)) fun _ h => h.elim
    have S4 : SetD knd s₄.heap D l := S2.at_ fun o e => hext.heap _ _ hDS hDC e
    have R4 : R ys s₄ := I.keeps ys s₁ _ R2 (fun b hb o e => by
      have h1 : b ≠ cenv.locals := fun h => hC (h ▸ hb)
      exact hext.heap b o (hoS b hb) h1 ((hs₂.2 b h1).trans e)) (fun g _ z e => hext.gens g (fun h => h) z e)
    have hdl : (done ++ [y]).length = done.length + 1 := by simp
    by_cases hpy : p y = true
    · rw [if_pos hpy]
      refine wpAny_bind (wpAny_bind (wpAny_mono (hel hpy) (fun r s₅ hr => ?_) fun _ _ f => f.elim))
      obtain ⟨hk, hsc, hext5, m5, hn5⟩ := hr
      have e4 : Ext S (fun b => b = D ∨ b = cenv.locals ∨ W b) V s₄ s₅ := hext5.mono (fun _ h => h) (fun _ h => .inr (.inl h)) fun _ h => h.elim
      have S5 : SetD knd s₅.heap D l := S4.at_ fun o e => hext5.heap _ _ hDS hDC e
      have hlen : l.length + 1 < scanBound := by
        rw [hxs, List.length_append] at hn
        unfold scanBound
        omega
      refine wpAny_bind (wpAny_standAt (wpAny_bind (call_set_add hk hsc S5.2 hlen fun h₆ hs6 hS6 => wpAny_pure (wpAny_pure ⟨rfl, ys.length, Nat.lt_succ_self _, ?_⟩))))
      have e5 : Ext [] (fun b => b = D) V s₅ { s₅ with heap := h₆, toks := s₅.toks + 1 } := Ext.of_heap (s := s₅) (tk := s₅.toks + 1) fun b o hb e => (hs6.2 b hb).trans e
      have e5' : Ext S (fun b => b = D ∨ b = cenv.locals ∨ W b) V s₅ { s₅ with heap := h₆, toks := s₅.toks + 1 } := e5.mono (fun _ h => nomatch h) (fun _ h => .inl h) fun _ h => h
      have eAll := (e1.trans e2').trans ((e3.trans e4).trans e5')
      have R6 : R ys { s₅ with heap := h₆, toks := s₅.toks + 1 } := I.keeps ys s₄ _ R4 (fun b hb o e => by
        have h1 : b ≠ cenv.locals := fun h => hC (h ▸ hb)
        have h2 : b ≠ D := fun h => hD (h ▸ hb)
        exact (hs6.2 b h2).trans (hext5.heap b o (hoS b hb) h1 e)) (fun g _ z e => hext5.gens g (fun h => h) z e)
      by_cases q : f y ∈ l
      · refine ⟨done ++ [y], ys, l, m5, by rw [hxs]; simp, rfl, hOK _ _ ok1 eAll, R6, ⟨S5.1, SetOf_eqv hS6 (fun k' => ?_) (by rw [decide_eq_true q, if_pos rfl])⟩, by rw [hdl]; exact Nat.le_succ_of_le L1, fun k => ?_, Ext.ns e5 (fun h => hDC h.symm) hn5, X1.trans eAll⟩
        · by_cases e : k' = f y
          · subst e; simp [q]
          · simp [e]
        · rw [P1 k]
          constructor
          · rintro ⟨z, hz, h⟩; exact ⟨z, List.mem_append_left _ hz, h⟩
          · rintro ⟨z, hz, h1, h2⟩
            rcases List.mem_append.mp hz with hz | hz
            · exact ⟨z, hz, h1, h2⟩
            · rw [List.mem_singleton.mp hz] at h2
              exact (P1 k).mp (h2 ▸ q)
      · refine ⟨done ++ [y], ys, l ++ [f y], m5, by rw [hxs]; simp, rfl, hOK _ _ ok1 eAll, R6, ⟨nodup_snoc S5.1 q, SetOf_eqv hS6 (fun k' => ?_) (by rw [decide_eq_false q, List.length_append]; rfl)⟩, by rw [hdl, List.length_append]; exact Nat.succ_le_succ L1, fun k => ?_, Ext.ns e5 (fun h => hDC h.symm) hn5, X1.trans eAll⟩
        · simp [List.mem_append]
        · rw [List.mem_append, List.mem_singleton, P1 k]
          constructor
          · rintro (⟨z, hz, h⟩ | h)
            · exact ⟨z, List.mem_append_left _ hz, h⟩
            · exact ⟨y, by simp, hpy, h⟩
          · rintro ⟨z, hz, h1, h2⟩
            rcases List.mem_append.mp hz with hz | hz
            · exact .inl ⟨z, hz, h1, h2⟩
            · rw [List.mem_singleton.mp hz] at h2
              exact .inr h2
    · rw [if_neg hpy]
      refine wpAny_pure ⟨rfl, ys.length, Nat.lt_succ_self _, ?_⟩
      have eAll := (e1.trans e2').trans e3
      refine ⟨done ++ [y], ys, l, m4, by rw [hxs]; simp, rfl, hOK _ _ ok1 eAll, R4, S4, by rw [hdl]; exact Nat.le_succ_of_le L1, fun k => ?_, hn4, X1.trans eAll⟩
      rw [P1 k]
      constructor
      · rintro ⟨z, hz, h⟩; exact ⟨z, List.mem_append_left _ hz, h⟩
      · rintro ⟨z, hz, h1, h2⟩
        rcases List.mem_append.mp hz with hz | hz
        · exact ⟨z, hz, h1, h2⟩
        · rw [List.mem_singleton.mp hz] at h1
          exact absurd h1 hpy
theorem comp_headS {env : Env} {elt target iter : Expr} {ifs : List Expr} {gens : List Comprehension} {scope : Scope} {cl : List (Str × Addr)} {pos : Pos} {Q : Value → Shared → Prop}
    (hclos : closureFor scope env = pure cl) (hkind : scope.kind = .function) (hnames : ∀ y ∈ scope.names, y.2 = .local → scope.names.lookup y.1 = some .local)
    (h : wpAny (model prog w) A (eval iter env) (fun xv s₁ => wpAny (model prog w) A (pyIter xv) (fun it s₂ =>
      wpAny (model prog w) A (newSet (.type "set")) (fun acc s₃ => wpAny (model prog w) A (newFunctionEnv scope env.globals cl [] env.qual none .none (some env)) (fun cenv s₄ =>
        codeAny (model prog w) A (.compStart (.SetComp elt (⟨target, iter, ifs, 0⟩ :: gens) scope pos) 0 it acc { cenv with scope := relabel scope env }) (compPost (model prog w) A E none Q acc cenv.locals) s₄) E s₃) E s₂) E s₁) E s)
    (hs : ∀ x, foldedSetIterable iter env x = pure x := by intro _; rfl) :
    wpAny (model prog w) A (eval (.SetComp elt (⟨target, iter, ifs, 0⟩ :: gens) scope pos) env) Q E s := by
  rw [arm_eval_SetComp]
  exact wpAny_comprehension_free (use := none) rfl hs hclos hkind hnames h
abbrev RngA (a n : Nat) (it : Addr) (ys : List Nat) (s : Shared) : Prop := ∃ i, i ≤ n ∧ IsRangeIter s.heap it ((a : Int) + (i : Nat) * 1) ((n : Int) - (i : Nat)) 1 ∧ ys = ((List.range n).map fun k => a + k).drop i
theorem smallA : ∀ n : Nat, n ≤ 8 → Builtin.Range.small 1 ((n : Int) + 1) 1 = true ∧ Builtin.Range.rangeSize 1 ((n : Int) + 1) 1 = (n : Int) := by decide
theorem it_rangeA (hh : A.handled = none) (it : Addr) (a n : Nat) (OK : Heap → Prop) (S : List Addr) : It prog w A NatVal it OK S (fun b => b ∈ [it]) NoG [it] (RngA a n it) :=
  It.of_walks (Walks.range hh it a 1 n) (by simp) fun i y v hy ⟨t, ht⟩ => ⟨t, by
    have hlt : i < n := by
      have := (List.getElem?_eq_some_iff.mp hy).1
      simpa using this
    rw [List.getElem?_map, List.getElem?_range hlt] at hy
    cases hy
    rw [ht]
    congr 1
    show (a : Int) + (i : Int) * 1 = ((a + i : Nat) : Int)
    omega⟩
theorem rangeA_src {r : Addr} {n : Nat} {t u v : Tok} {Q : Value → Shared → Prop} (hr : IsRange s.heap r 1 ((n : Int) + 1) 1 t u v) (hn : n ≤ 8)
    (hQ : ∀ (s₂ : Shared) it o, it = s.heap.objs.size → KeepAll s.heap s₂.heap → s₂.gens = s.gens → s₂.os = s.os → s.heap.get? it = none → s₂.heap.get? it = some o → o.cls = .type "range_iterator" → RngA 1 n it ((List.range n).map fun k => 1 + k) s₂ → Q (.ref it) s₂) :
    wpAny (model prog w) A (pyIter (.ref r)) Q E s := by
  obtain ⟨h1, h2⟩ := smallA n hn
  refine wpAny_pyIter_range hr h1 (hQ _ _ _ rfl (fun b o e => Heap.get?_push_of_some _ e) rfl rfl (get?_size_none _ (Nat.le_refl _)) (Heap.get?_push_size _ rfl) rfl ⟨0, Nat.zero_le _, ?_, rfl⟩)
  rw [h2]
  have : (n : Int) - ((0 : Nat) : Int) = (n : Int) := by omega
  rw [this]
  exact Heap.get?_push_size _ rfl
theorem comp_overS {env : Env} {l : List Env} {base : Heap} {elt iter c : Expr} {x : Str} {px : Pos} {scope : Scope} {cl : List (Str × Addr)} {pos : Pos} {Q : Value → Shared → Prop} {xs : List α}
    (hcell : ∀ y ∈ scope.names, y.2 ≠ .cell) (hkind : scope.kind = .function) (hx : scope.names.lookup x = some .local)
    (I : It prog w A Val it (OkL base l) (frs l) W V own R) (hR : R xs s) (hok : OkL base l s.heap) (hthere : ∀ b ∈ own, ∃ o, s.heap.get? b = some o) (hoS : ∀ b ∈ own, b ∉ frs l) (hW : ∀ b, W b → base.get? b = none)
    (helt : ∀ D C, NewDC s (frs l) own D C → ∀ y v (s₃ : Shared) m, y ∈ xs → OkL base l s₃.heap → Ext (frs l) (fun b => b = D ∨ b = C ∨ W b) V s s₃ → s₃.heap.Ns C m → m x = some v → Val y v →
      wpAny (model prog w) A (isTrue c (compEnvC scope cl C env) (eval c (compEnvC scope cl C env))) (fun b s₄ => TestSet knd A (frs l) C elt (compEnvC scope cl C env) (p y) (f y) s₃ b s₄) (fun _ _ => False) s₃)
    (hn : xs.length ≤ 1000)
    (hQ : ∀ D s' k, s.heap.get? D = none → s.heap.objs.size ≤ D → Ext (frs l) W V s s' → SetD knd s'.heap D k → (∀ z, z ∈ k ↔ ∃ y ∈ xs, p y = true ∧ z = f y) → k.length ≤ xs.length → Q (.ref D) s') :
    wpAny (model prog w) A (newSet (.type "set")) (fun acc s₃ => wpAny (model prog w) A (newFunctionEnv scope env.globals cl [] env.qual none .none (some env)) (fun cenv s₄ =>
        codeAny (model prog w) A (.compStart (.SetComp elt [⟨.Name x px, iter, [c], 0⟩] scope pos) 0 (.ref it) acc { cenv with scope := relabel scope env }) (compPost (model prog w) A E none Q acc cenv.locals) s₄) E s₃) E s := by
  refine wpAny_newSet_of (knd := knd) fun led _ => wpAny_newFunctionEnv hcell (by intro y hy; simp at hy) (fun h₁ hns₁ hsb₁ => ?_) hkind
  have kp : KeepAll s.heap (s.heap.push (freshSet led)) := fun b o e => Heap.get?_push_of_some _ e
  have kh : KeepAll (s.heap.push (freshSet led)) h₁ := fun b o e => hsb₁.extBut b o (Nat.ne_of_lt (Heap.lt_size e)) (Heap.get?_push_of_some _ e)
  have hCs : (s.heap.push (freshSet led)).objs.size = s.heap.objs.size + 1 := Heap.size_push ..
  have hD0 : SetD knd h₁ s.heap.objs.size [] := setD_fresh (kh _ _ (Heap.get?_push_size _ rfl))
  generalize hCC : (s.heap.push (freshSet led)).objs.size = C at *
  have N : NewDC s (frs l) own s.heap.objs.size C := ⟨get?_size_none _ (Nat.le_refl _), get?_size_none _ (by rw [hCs]; exact Nat.le_succ _), by rw [hCs]; exact Nat.lt_succ_self _, Nat.le_refl _, Nat.le_of_eq hCs⟩
  generalize s.heap.objs.size = D at N hD0
  have hOK := N.ok (V := V) hok fun b h => ⟨hW b h, hoS b (I.sub b h)⟩
  have e0 : Ext (frs l) (fun b => b = D ∨ b = C ∨ W b) V s { s with heap := h₁, toks := s.toks + ([] : List (Str × Value)).length } := .of_keep (kp.trans kh)
  have nt : ∀ b, s.heap.get? b = none → ∀ l : List Addr, (∀ b ∈ l, ∃ o, s.heap.get? b = some o) → b ∉ l := fun b e l hl h => by
    obtain ⟨o, ho⟩ := hl b h
    rw [e] at ho; cases ho
  have loop : ∀ s₄ : Shared, R xs s₄ → OkL base l s₄.heap → Ext (frs l) (fun b => b = D ∨ b = C ∨ W b) V s s₄ → SetD knd s₄.heap D [] → s₄.heap.Ns C (fun _ => none) →
      codeAny (model prog w) A (.compLoop (.SetComp elt [⟨.Name x px, iter, [c], 0⟩] scope pos) 0 (.ref it) (.ref D) (compEnvC scope cl C env)) (compPost (model prog w) A E none Q (.ref D) C) s₄ := by
    intro s₄ hR4 ok4 x4 d4 n4
    refine set_loop (knd := knd) (p := p) (f := f) (C := C) (s₀ := s) I (lookup_relabel_local hx) (by simp [compEnvC, relabel, hkind]) rfl (nt D N.d _ hthere) (nt C N.c _ hthere) (Nat.ne_of_lt N.lt) (nt D N.d _ hok.frs_there) (nt C N.c _ hok.frs_there)
      hOK hoS (helt D C N) hn ok4 hR4 d4 n4 x4 fun s' k m X ok' d' P hk n' => ?_
    refine ⟨m, n', fun h' hs => ?_⟩
    have e : Ext [] (fun b => b = C) V s' { s' with heap := h' } := Ext.of_heap (s := s') (tk := s'.toks) fun b o hb e => (hs.2 b hb).trans e
    refine hQ D _ k N.d N.dsz (((X.trans (e.mono (fun _ h => nomatch h) (fun _ h => .inr (.inl h)) fun _ h => h)).shrink (fun b hb => ?_) fun g h => .inl h)) (d'.at_ fun o e => (hs.2 D (Nat.ne_of_lt N.lt)).trans e) P hk
    rcases hb with h | h | h
    · exact .inl (h ▸ N.d)
    · exact .inl (h ▸ N.c)
    · exact .inr h
  have hR1 : R xs { s with heap := h₁, toks := s.toks + ([] : List (Str × Value)).length } := I.keeps _ _ _ hR (fun b _ o e => kh _ _ (kp _ _ e)) fun _ _ _ e => e
  have ok1 := hOK _ _ hok e0
  refine codeAny_compStart_set (loop _ hR1 ok1 e0 hD0 hns₁) ?_
  refine I.iter xs _ _ _ ok1 hR1 fun s' hE hR' => ?_
  have e1 : Ext (frs l) (fun b => b = D ∨ b = C ∨ W b) V _ s' := hE.mono (fun _ h => nomatch h) (fun _ h => h.elim) fun _ h => h.elim
  exact loop s' hR' (hOK _ _ ok1 e1) (e0.trans e1) (hD0.at_ fun o e => hE.keepAll _ _ e) (Ext.ns hE (fun h => h) hns₁)
end
end Mine
end
section
namespace Mine
section
variable {α : Type} [DecidableEq α]
theorem nodup_le : ∀ (l m : List α), l.Nodup → (∀ x ∈ l, x ∈ m) → l.length ≤ m.length
  | [], _, _, _ => Nat.zero_le _
  | x :: l, m, h, s => by
    have hx : x ∈ m := s x (.head _)
    have h' := List.nodup_cons.mp h
    have := nodup_le l (m.erase x) h'.2 fun y hy => (List.mem_erase_of_ne (fun e : y = x => h'.1 (e ▸ hy))).mpr (s y (.tail _ hy))
    rw [List.length_erase_of_mem hx] at this
    have hp : 0 < m.length := List.length_pos_of_mem hx
    show l.length + 1 ≤ _
    omega
def freshOf (T a : List α) : List α := a.filter fun x => !T.any (· == x)
theorem mem_fresh {T a : List α} {x : α} : x ∈ freshOf T a ↔ x ∈ a ∧ x ∉ T := by
  simp only [freshOf, List.mem_filter, Bool.not_eq_true', List.any_eq_false, beq_iff_eq]
  constructor
  · rintro ⟨h, g⟩; exact ⟨h, fun hx => g x hx rfl⟩
  · rintro ⟨h, g⟩; exact ⟨h, fun y hy e => g (e ▸ hy)⟩
theorem nodup_fresh {T a : List α} (h : a.Nodup) : (freshOf T a).Nodup := h.filter _
structure Tree (A : List (List α)) (up : α → List α) : Prop where
  nodup : ∀ a ∈ A, a.Nodup
  up : ∀ a ∈ A, ∀ p x r, a = p ++ x :: r → r = up x
variable {A : List (List α)} {up : α → List α}
theorem Tree.mem_up (t : Tree A up) {a : List α} (ha : a ∈ A) {x y : α} (hx : x ∈ a) (hy : y ∈ up x) : y ∈ a := by
  obtain ⟨p, r, rfl⟩ := List.append_of_mem hx
  rw [← t.up _ ha p x r rfl] at hy
  simp [hy]
theorem Tree.cmp (t : Tree A up) {g : List α} (hg : g ∈ A) {x y : α} (hx : x ∈ g) (hy : y ∈ g) : x = y ∨ y ∈ up x ∨ x ∈ up y := by
  obtain ⟨p, r, rfl⟩ := List.append_of_mem hx
  rcases List.mem_append.mp hy with h | h
  · obtain ⟨p1, p2, rfl⟩ := List.append_of_mem h
    have := t.up _ hg p1 y (p2 ++ x :: r) (by simp)
    exact .inr (.inr (this ▸ by simp))
  · rcases List.mem_cons.mp h with h | h
    · exact .inl h.symm
    · exact .inr (.inl (t.up _ hg p x r rfl ▸ h))
theorem Tree.pigeon (t : Tree A up) : ∀ (G : List (List α)) (xs : List (List α × α)), (∀ g ∈ G, g ∈ A) → (∀ p ∈ xs, p.1 ∈ A ∧ p.2 ∈ p.1) →
    xs.Pairwise (fun p q => p.2 ∉ q.1 ∧ q.2 ∉ p.1) → (∀ p ∈ xs, ∃ g ∈ G, p.2 ∈ g) → xs.length ≤ G.length
  | [], xs, _, _, _, h => by
    cases xs with
    | nil => exact Nat.le_refl _
    | cons p l => obtain ⟨g, hg, _⟩ := h p (.head _); cases hg
  | g :: G, xs, hA, hx, hp, h => by
    have ih := Tree.pigeon t G (xs.filter fun p => !g.contains p.2) (fun g' hg' => hA g' (.tail _ hg')) (fun p hp' => hx p (List.mem_filter.mp hp').1) (hp.filter _) (fun p hp' => by
      obtain ⟨h1, h2⟩ := List.mem_filter.mp hp'
      obtain ⟨g', hg', hm⟩ := h p h1
      rcases List.mem_cons.mp hg' with rfl | hg'
      · simp [hm] at h2
      · exact ⟨g', hg', hm⟩)
    have one : (xs.filter fun p => g.contains p.2).length ≤ 1 := by
      have hf := hp.filter (fun p => g.contains p.2)
      cases e : xs.filter (fun p => g.contains p.2) with
      | nil => simp
      | cons p l =>
        cases l with
        | nil => simp
        | cons q l =>
          exfalso
          rw [e] at hf
          have hpq := (List.pairwise_cons.mp hf).1 q (.head _)
          have mp : p ∈ xs.filter (fun p => g.contains p.2) := by rw [e]; exact .head _
          have mq : q ∈ xs.filter (fun p => g.contains p.2) := by rw [e]; exact .tail _ (.head _)
          obtain ⟨p1, p2⟩ := List.mem_filter.mp mp
          obtain ⟨q1, q2⟩ := List.mem_filter.mp mq
          have pg : p.2 ∈ g := by simpa using p2
          have qg : q.2 ∈ g := by simpa using q2
          rcases t.cmp (hA g (.head _)) pg qg with e | e | e
          · exact hpq.2 (e ▸ (hx p p1).2)
          · exact hpq.2 (t.mem_up (hx p p1).1 (hx p p1).2 e)
          · exact hpq.1 (t.mem_up (hx q q1).1 (hx q q1).2 e)
    have tot : xs.length = (xs.filter fun p => g.contains p.2).length + (xs.filter fun p => !g.contains p.2).length := by
      rw [List.length_eq_countP_add_countP (fun p => g.contains p.2), List.countP_eq_length_filter, List.countP_eq_length_filter]
      congr 2
      congr 1
      funext p
      simp
    show _ ≤ G.length + 1
    omega
structure Run (A : List (List α)) (T : Nat → List α) (g : Nat → List α) (n : Nat) : Prop where
  zero : T 0 = []
  mem : ∀ k < n, g k ∈ A
  most : ∀ k < n, ∀ a ∈ A, (freshOf (T k) a).length ≤ (freshOf (T k) (g k)).length
  succ : ∀ k < n, T (k + 1) = T k ++ freshOf (T k) (g k)
variable {T g : Nat → List α} {n : Nat}
theorem Run.nodup (R : Run A T g n) (t : Tree A up) : ∀ k ≤ n, (T k).Nodup
  | 0, _ => by rw [R.zero]; exact List.nodup_nil
  | k + 1, h => by
    rw [R.succ k h]
    refine List.nodup_append.mpr ⟨R.nodup t k (Nat.le_of_lt h), nodup_fresh (t.nodup _ (R.mem k h)), fun x hx y hy e => ?_⟩
    exact (mem_fresh.mp hy).2 (e ▸ hx)
theorem Run.iff_mem (R : Run A T g n) : ∀ k ≤ n, ∀ x, x ∈ T k ↔ ∃ j, j < k ∧ x ∈ g j
  | 0, _, x => by rw [R.zero]; simp
  | k + 1, h, x => by
    rw [R.succ k h, List.mem_append, R.iff_mem k (Nat.le_of_lt h), mem_fresh, R.iff_mem k (Nat.le_of_lt h)]
    constructor
    · rintro (⟨j, hj, hx⟩ | ⟨hx, _⟩)
      · exact ⟨j, Nat.lt_succ_of_lt hj, hx⟩
      · exact ⟨k, Nat.lt_succ_self _, hx⟩
    · rintro ⟨j, hj, hx⟩
      by_cases q : ∃ j, j < k ∧ x ∈ g j
      · exact .inl q
      · have : j = k := by
          rcases Nat.lt_succ_iff_lt_or_eq.mp hj with h | h
          · exact absurd ⟨j, h, hx⟩ q
          · exact h
        exact .inr ⟨this ▸ hx, q⟩
theorem Run.closed (R : Run A T g n) (t : Tree A up) {k : Nat} (hk : k ≤ n) {x y : α} (hx : x ∈ T k) (hy : y ∈ up x) : y ∈ T k := by
  obtain ⟨j, hj, hx⟩ := (R.iff_mem k hk x).mp hx
  exact (R.iff_mem k hk y).mpr ⟨j, hj, t.mem_up (R.mem j (Nat.lt_of_lt_of_le hj hk)) hx hy⟩
theorem exchange (R : Run A T g n) (t : Tree A up) {k : Nat} (hk : k ≤ n) {c : List (List α)} (hc : ∀ a ∈ c, a ∈ A) (hl : k < c.length) :
    ∃ i, ∃ hi : i < c.length, ∀ x, x ∈ c[i] → (∀ j, ∀ hj : j < c.length, j ≠ i → x ∉ c[j]) → x ∉ T k := by
  apply Classical.byContradiction
  intro H
  have H' : ∀ i : Fin c.length, ∃ x, x ∈ c[i.val] ∧ (∀ j, ∀ hj : j < c.length, j ≠ i.val → x ∉ c[j]) ∧ x ∈ T k := fun i => by
    apply Classical.byContradiction
    intro q
    exact H ⟨i.val, i.isLt, fun x h1 h2 h3 => q ⟨x, h1, h2, h3⟩⟩
  let f : Fin c.length → List α × α := fun i => (c[i.val], Classical.choose (H' i))
  have hf : ∀ i, (f i).2 ∈ c[i.val] ∧ (∀ j, ∀ hj : j < c.length, j ≠ i.val → (f i).2 ∉ c[j]) ∧ (f i).2 ∈ T k := fun i => Classical.choose_spec (H' i)
  have := t.pigeon ((List.range k).map g) (List.ofFn f) (fun a ha => by
      obtain ⟨j, hj, rfl⟩ := List.mem_map.mp ha
      exact R.mem j (Nat.lt_of_lt_of_le (List.mem_range.mp hj) hk)) (fun p hp => by
      obtain ⟨i, rfl⟩ := List.mem_ofFn.mp hp
      exact ⟨hc _ (List.getElem_mem _), (hf i).1⟩) (by
      rw [List.pairwise_iff_getElem]
      intro i j hi hj hij
      rw [List.getElem_ofFn, List.getElem_ofFn]
      rw [List.length_ofFn] at hi hj
      exact ⟨(hf ⟨i, hi⟩).2.1 j hj (Nat.ne_of_gt hij), (hf ⟨j, hj⟩).2.1 i hi (Nat.ne_of_lt hij)⟩) (fun p hp => by
      obtain ⟨i, rfl⟩ := List.mem_ofFn.mp hp
      obtain ⟨j, hj, hx⟩ := (R.iff_mem k hk _).mp (hf i).2.2
      exact ⟨g j, List.mem_map.mpr ⟨j, List.mem_range.mpr hj, rfl⟩, hx⟩)
  rw [List.length_ofFn, List.length_map, List.length_range] at this
  omega
theorem Run.best (R : Run A T g n) (t : Tree A up) : ∀ k ≤ n, ∀ (c : List (List α)), (∀ a ∈ c, a ∈ A) → c.length = k → ∀ l : List α, l.Nodup → (∀ x ∈ l, ∃ a ∈ c, x ∈ a) → l.length ≤ (T k).length
  | 0, _, c, _, hl, l, _, h => by
    have : c = [] := List.length_eq_zero_iff.mp hl
    subst this
    cases l with
    | nil => simp
    | cons x l => obtain ⟨a, ha, _⟩ := h x (.head _); cases ha
  | k + 1, hk, c, hc, hl, l, hn, h => by
    obtain ⟨i, hi, hx⟩ := exchange R t (Nat.le_of_lt hk) hc (by omega)
    have ih := R.best t k (Nat.le_of_lt hk) (c.eraseIdx i) (fun a ha => hc a (List.mem_of_mem_eraseIdx ha)) (by rw [List.length_eraseIdx, if_pos hi]; omega)
    let P : α → Bool := fun x => (c.eraseIdx i).any fun a => a.contains x
    have e1 := ih (l.filter P) (hn.filter _) (fun x hx' => by
      have := (List.mem_filter.mp hx').2
      obtain ⟨a, ha, hm⟩ := List.any_eq_true.mp this
      exact ⟨a, ha, by simpa using hm⟩)
    have e2 : (l.filter fun x => !P x).length ≤ (freshOf (T k) c[i]).length := by
      refine nodup_le _ _ (hn.filter _) fun x hx' => ?_
      obtain ⟨h1, h2⟩ := List.mem_filter.mp hx'
      have h3 : ∀ a ∈ c.eraseIdx i, x ∉ a := fun a ha hm => by
        have : P x = true := List.any_eq_true.mpr ⟨a, ha, by simpa using hm⟩
        rw [this] at h2; cases h2
      have h4 : ∀ j, ∀ hj : j < c.length, j ≠ i → x ∉ c[j] := fun j hj hne => h3 _ (List.mem_eraseIdx_iff_getElem.mpr ⟨j, hj, hne, rfl⟩)
      obtain ⟨a, ha, hxa⟩ := h x h1
      obtain ⟨j, hj, rfl⟩ := List.getElem_of_mem ha
      have : j = i := Classical.byContradiction fun q => h4 j hj q hxa
      subst this
      exact mem_fresh.mpr ⟨hxa, hx x hxa h4⟩
    have e3 := R.most k hk c[i] (hc _ (List.getElem_mem _))
    have tot : l.length = (l.filter P).length + (l.filter fun x => !P x).length := by
      rw [List.length_eq_countP_add_countP P, List.countP_eq_length_filter, List.countP_eq_length_filter]
      congr 2
      congr 1
      funext p
      simp
    rw [R.succ k hk, List.length_append]
    omega
theorem sub_more {β : Type} : ∀ {c A : List β}, c.Sublist A → c.length < A.length → ∃ c' : List β, c'.Sublist A ∧ c'.length = c.length + 1 ∧ ∀ x ∈ c, x ∈ c'
  | _, _, .slnil, h => absurd h (by simp)
  | c, a :: A, .cons _ s, _ => ⟨a :: c, s.cons_cons a, rfl, fun x hx => .tail _ hx⟩
  | a :: c, _ :: A, .cons_cons _ s, h => by
    obtain ⟨c', h1, h2, h3⟩ := sub_more s (by simpa using h)
    refine ⟨a :: c', h1.cons_cons a, by simp [h2], fun x hx => ?_⟩
    rcases List.mem_cons.mp hx with rfl | hx
    · exact .head _
    · exact .tail _ (h3 x hx)
theorem sub_with {β : Type} {b : β} : ∀ {c A : List β}, c.Sublist A → b ∈ A → b ∉ c → ∃ c' : List β, c'.Sublist A ∧ c'.length = c.length + 1 ∧ b ∈ c' ∧ ∀ x ∈ c, x ∈ c'
  | _, _, .slnil, h, _ => by cases h
  | c, a :: A, .cons _ s, h, hb => by
    rcases List.mem_cons.mp h with rfl | h
    · exact ⟨b :: c, s.cons_cons b, rfl, .head _, fun x hx => .tail _ hx⟩
    · obtain ⟨c', h1, h2, h3, h4⟩ := sub_with s h hb
      exact ⟨c', h1.cons a, h2, h3, h4⟩
  | a :: c, _ :: A, .cons_cons _ s, h, hb => by
    have hba : b ≠ a := fun e => hb (e ▸ .head _)
    obtain ⟨c', h1, h2, h3, h4⟩ := sub_with s (by
      rcases List.mem_cons.mp h with e | h
      · exact absurd e hba
      · exact h) (fun q => hb (.tail _ q))
    refine ⟨a :: c', h1.cons_cons a, by simp [h2], .tail _ h3, fun x hx => ?_⟩
    rcases List.mem_cons.mp hx with rfl | hx
    · exact .head _
    · exact .tail _ (h4 x hx)
theorem Run.some_ (R : Run A T g n) (hn : n = A.length) : ∀ k ≤ n, ∃ c : List (List α), c.Sublist A ∧ c.length = k ∧ ∀ x ∈ T k, ∃ a ∈ c, x ∈ a
  | 0, _ => ⟨[], List.nil_sublist _, rfl, fun x hx => by rw [R.zero] at hx; cases hx⟩
  | k + 1, hk => by
    obtain ⟨c, h1, h2, h3⟩ := R.some_ hn k (Nat.le_of_lt hk)
    have key : ∃ c' : List (List α), c'.Sublist A ∧ c'.length = c.length + 1 ∧ g k ∈ c' ∧ ∀ x ∈ c, x ∈ c' := by
      by_cases q : g k ∈ c
      · obtain ⟨c', e1, e2, e3⟩ := sub_more h1 (by omega)
        exact ⟨c', e1, e2, e3 _ q, e3⟩
      · exact sub_with h1 (R.mem k hk) q
    obtain ⟨c', e1, e2, e3, e4⟩ := key
    refine ⟨c', e1, by omega, fun x hx => ?_⟩
    rw [R.succ k hk] at hx
    rcases List.mem_append.mp hx with hx | hx
    · obtain ⟨a, ha, hm⟩ := h3 x hx
      exact ⟨a, e4 a ha, hm⟩
    · exact ⟨g k, e3, (mem_fresh.mp hx).1⟩
theorem Run.all (R : Run A T g n) (t : Tree A up) (hn : n = A.length) {a : List α} (ha : a ∈ A) {x : α} (hx : x ∈ a) : x ∈ T n := by
  apply Classical.byContradiction
  intro q
  have := R.best t n (Nat.le_refl _) A (fun _ h => h) hn.symm (x :: T n) (List.nodup_cons.mpr ⟨q, R.nodup t n (Nat.le_refl _)⟩) (fun y hy => by
    rcases List.mem_cons.mp hy with rfl | hy
    · exact ⟨a, ha, hx⟩
    · obtain ⟨j, hj, hm⟩ := (R.iff_mem n (Nat.le_refl _) y).mp hy
      exact ⟨g j, R.mem j hj, hm⟩)
  exact absurd this (Nat.not_succ_le_self _)
def leafOf (A : List (List α)) (x : α) : Bool := !A.any fun a => a.tail.contains x
theorem leaf_iff {x : α} : leafOf A x = true ↔ ∀ a ∈ A, x ∉ a.tail := by
  simp only [leafOf, Bool.not_eq_true', List.any_eq_false]
  exact ⟨fun h a ha hx => h a ha (by simpa using hx), fun h a ha hx => h a ha (by simpa using hx)⟩
theorem Run.leaf_step (R : Run A T g n) (t : Tree A up) {k : Nat} (hk : k < n) (hne : freshOf (T k) (g k) ≠ []) : ((freshOf (T k) (g k)).filter (leafOf A)).length = 1 := by
  have hgA := R.mem k hk
  have hmost := R.most k hk
  cases hg : g k with
  | nil => rw [hg] at hne; exact absurd rfl hne
  | cons h r =>
    rw [hg] at hgA hne hmost
    have hr : r = up h := t.up _ hgA [] h r rfl
    have hnd := List.nodup_cons.mp (t.nodup _ hgA)
    have hT : h ∉ T k := fun q => hne (by
      apply List.eq_nil_iff_forall_not_mem.mpr
      intro x hx
      obtain ⟨h1, h2⟩ := mem_fresh.mp hx
      rcases List.mem_cons.mp h1 with rfl | h1
      · exact h2 q
      · exact h2 (R.closed t (Nat.le_of_lt hk) q (hr ▸ h1)))
    have hleaf : leafOf A h = true := by
      apply leaf_iff.mpr
      intro u hu hm
      cases u with
      | nil => cases hm
      | cons hu' u' =>
        have hm : h ∈ u' := hm
        have hund := List.nodup_cons.mp (t.nodup _ hu)
        obtain ⟨p, r', e⟩ := List.append_of_mem hm
        have er : r' = up h := t.up _ hu (hu' :: p) h r' (by rw [e]; rfl)
        have hin : ∀ x ∈ h :: r, x ∈ u' := fun x hx => by
          rw [e]
          rcases List.mem_cons.mp hx with rfl | hx
          · simp
          · rw [er, ← hr]; simp [hx]
        have hup : h ∈ up hu' := by rw [← t.up _ hu [] hu' u' rfl]; exact hm
        have hlt := nodup_le (hu' :: freshOf (T k) (h :: r)) (freshOf (T k) (hu' :: u')) (List.nodup_cons.mpr ⟨fun q => hund.1 (hin _ (mem_fresh.mp q).1), nodup_fresh (t.nodup _ hgA)⟩) (fun x hx => by
          rcases List.mem_cons.mp hx with rfl | hx
          · exact mem_fresh.mpr ⟨.head _, fun q => hT (R.closed t (Nat.le_of_lt hk) q hup)⟩
          · obtain ⟨h1, h2⟩ := mem_fresh.mp hx
            exact mem_fresh.mpr ⟨.tail _ (hin _ h1), h2⟩)
        have := hmost _ hu
        simp at hlt
        omega
    have e1 : freshOf (T k) (h :: r) = h :: freshOf (T k) r := by
      unfold freshOf
      rw [List.filter_cons_of_pos]
      simp only [Bool.not_eq_true', List.any_eq_false, beq_iff_eq]
      exact fun y hy e => hT (e ▸ hy)
    rw [e1, List.filter_cons_of_pos hleaf]
    have e2 : (freshOf (T k) r).filter (leafOf A) = [] := by
      apply List.filter_eq_nil_iff.mpr
      intro x hx hl
      exact leaf_iff.mp hl _ hgA (mem_fresh.mp hx).1
    rw [e2]; rfl
def gains (T g : Nat → List α) : Nat → Nat
  | 0 => 0
  | k + 1 => gains T g k + if freshOf (T k) (g k) = [] then 0 else 1
theorem Run.leaves (R : Run A T g n) (t : Tree A up) : ∀ k ≤ n, ((T k).filter (leafOf A)).length = gains T g k
  | 0, _ => by rw [R.zero]; rfl
  | k + 1, hk => by
    rw [R.succ k hk, List.filter_append, List.length_append, R.leaves t k (Nat.le_of_lt hk)]
    show _ = gains T g k + _
    congr 1
    by_cases q : freshOf (T k) (g k) = []
    · rw [q, if_pos rfl]; rfl
    · rw [if_neg q]; exact R.leaf_step t hk q
theorem Run.ends (R : Run A T g n) (t : Tree A up) (hn : n = A.length) {H : List α} (hH : H.Nodup) (hm : ∀ x, x ∈ H ↔ ∃ a ∈ A, a.head? = some x) : (H.filter (leafOf A)).length = gains T g n := by
  rw [← R.leaves t n (Nat.le_refl _)]
  refine Nat.le_antisymm (nodup_le _ _ (hH.filter _) fun x hx => ?_) (nodup_le _ _ ((R.nodup t n (Nat.le_refl _)).filter _) fun x hx => ?_)
  · obtain ⟨h1, h2⟩ := List.mem_filter.mp hx
    obtain ⟨a, ha, e⟩ := (hm x).mp h1
    refine List.mem_filter.mpr ⟨R.all t hn ha ?_, h2⟩
    cases a with
    | nil => cases e
    | cons y a => cases e; exact .head _
  · obtain ⟨h1, h2⟩ := List.mem_filter.mp hx
    refine List.mem_filter.mpr ⟨(hm x).mpr ?_, h2⟩
    obtain ⟨j, hj, hx'⟩ := (R.iff_mem n (Nat.le_refl _) x).mp h1
    have hA := R.mem j hj
    refine ⟨g j, hA, ?_⟩
    cases e : g j with
    | nil => rw [e] at hx'; cases hx'
    | cons y r =>
      rw [e] at hx' hA
      rcases List.mem_cons.mp hx' with rfl | q
      · rfl
      · exact absurd q (leaf_iff.mp h2 _ hA)
end
end Mine
end
section
open PySem PySem.W PyProof.Rows
set_option maxRecDepth 100000
set_option maxHeartbeats 8000000
namespace Mine
section
variable {prog : Program} {w : World} {A : Around} {E : Value → Shared → Prop} {s : Shared}
variable {α : Type} {Val : α → Value → Prop} {it D C : Addr} {OK : Heap → Prop} {S : List Addr} {W : Addr → Prop} {V : Nat → Prop} {own : List Addr} {R : List α → Shared → Prop} {F : α → Value → Heap → Prop}
theorem fill_loopT {elt target iter : Expr} {scope : Scope} {pos : Pos} {cenv : Env} {Rr : Result → Shared → Prop} {s₀ : Shared} {xs : List α} {m0 : Str → Option Value}
    (I : It prog w A Val it OK S W V own R) (hD : D ∉ own) (hC : C ∉ own) (hDC : D ≠ C) (hDS : D ∉ S) (hCS : C ∉ S)
    (hOK : ∀ (s s' : Shared), OK s.heap → Ext S (fun b => b = D ∨ b = C ∨ W b) V s s' → OK s'.heap)
    (hF : ∀ y v (s s' : Shared), F y v s.heap → Ext S (fun b => b = D ∨ b = C ∨ W b) V s s' → F y v s'.heap)
    (hoS : ∀ b ∈ own, b ∉ S)
    (helt : ∀ y ys v (s₁ : Shared) m, y ∈ xs → R ys s₁ → OK s₁.heap → Ext S (fun b => b = D ∨ b = C ∨ W b) V s₀ s₁ → s₁.heap.Ns C m → Val y v →
      wpAny (model prog w) A (letOwnedTupleGo target (.ref it) v) (fun _ s₂ => wpAny (model prog w) A (assign target cenv v) (fun _ s₃ => wpAny (model prog w) A (eval elt cenv) (fun r s₄ => EltEnd F S C s₁ y r s₄) (fun _ _ => False) s₃) (fun _ _ => False) s₂) (fun _ _ => False) s₁)
    (hn : xs.length ≤ 1000) (hok : OK s.heap) (hR : R xs s) (hS : s.heap.get? D = some (listObj [] 0)) (hns : s.heap.Ns C m0) (hX : Ext S (fun b => b = D ∨ b = C ∨ W b) V s₀ s)
    (hEnd : ∀ s' vs c m, Ext S (fun b => b = D ∨ b = C ∨ W b) V s₀ s' → OK s'.heap → s'.heap.get? D = some (listObj vs c) → Paired (fun y v => F y v s'.heap) xs vs → s'.heap.Ns C m → Rr (.ok .next) s') :
    codeAny (model prog w) A (.compLoop (.ListComp elt [⟨target, iter, [], 0⟩] scope pos) 0 (.ref it) (.ref D) cenv) Rr s := by
  have hDW : ¬ W D := fun h => hD (I.sub D h)
  have hCW : ¬ W C := fun h => hC (I.sub _ h)
  refine codeAny_loop rfl (FillJ OK S W V D C R F s₀ [] xs) (fun n s hJ => ?_) xs.length ⟨[], xs, [], 0, m0, rfl, rfl, hok, hR, by rw [List.append_nil]; exact hS, .nil, hns, hX⟩
  show wpAny _ _ ((compTurn (.ListComp elt [⟨target, iter, [], 0⟩] scope pos) 0 (.ref it) (.ref D) cenv).onRaise (fun x => do noteFrame x cenv; theTreesLotGoes x)) _ _ s
  refine wpAny_noted ?_
  rw [compTurn_list1]
  obtain ⟨done, rest, vs, c, m, hxs, rfl, ok1, R1, S1, P1, n1, X1⟩ := hJ
  rw [List.nil_append] at S1
  refine wpAny_bind (wpAny_standAt (wpAny_bind ?_))
  cases rest with
  | nil =>
    refine I.nil s _ _ ok1 R1 fun s' hE => wpAny_pure ?_
    have e1 : Ext S (fun b => b = D ∨ b = C ∨ W b) V s s' := hE.mono (fun _ h => h) (fun _ h => .inr (.inr h)) fun _ h => h
    refine hEnd s' vs c m (X1.trans e1) (hOK _ _ ok1 e1) (hE.heap _ _ hDS hDW S1) (by rw [hxs, List.append_nil]; exact Paired.up (fun a b h => hF a b s s' h e1) P1) (Ext.ns hE hCW n1)
  | cons y ys =>
    refine I.cons y ys s _ _ ok1 R1 fun v s₁ hv hE R2 => ?_
    have e1 : Ext S (fun b => b = D ∨ b = C ∨ W b) V s s₁ := hE.mono (fun _ h => nomatch h) (fun _ h => .inr (.inr h)) fun _ h => h
    refine wpAny_bind (wpAny_mono (helt y ys v s₁ m (by rw [hxs]; simp) R2 (hOK _ _ ok1 e1) (X1.trans e1) (Ext.ns hE hCW n1) hv) (fun _ s₂ h₂ => wpAny_bind (wpAny_mono h₂ (fun _ s₃ h₃ => wpAny_bind (wpAny_bind (wpAny_mono h₃ (fun r s₄ hr => ?_) fun _ _ f => f.elim))) fun _ _ f => f.elim)) fun _ _ f => f.elim)
    obtain ⟨hval, hext, m4, hn4⟩ := hr
    have e3 : Ext S (fun b => b = D ∨ b = C ∨ W b) V s₁ s₄ := hext.mono (fun _ h => h) (fun _ h => .inr (.inl h)) fun _ h => h.elim
    have S4 : s₄.heap.get? D = some (listObj vs c) := hext.heap _ _ hDS hDC (hE.heap _ _ (by simp) hDW S1)
    have hlen : vs.length = done.length := P1.length.symm
    have hsz : vs.length ≤ 16777216 := by
      rw [hxs, List.length_append] at hn
      omega
    refine wpAny_bind (append_obj S4 hsz fun h₅ hS5 hs5 => wpAny_pure (wpAny_pure ⟨rfl, ys.length, Nat.lt_succ_self _, ?_⟩))
    have e4 : Ext [] (fun b => b = D) V s₄ { s₄ with heap := h₅ } := Ext.of_heap (s := s₄) (tk := s₄.toks) fun b o hb e => (hs5.2 b hb).trans e
    have e4' : Ext S (fun b => b = D ∨ b = C ∨ W b) V s₄ { s₄ with heap := h₅ } := e4.mono (fun _ h => nomatch h) (fun _ h => .inl h) fun _ h => h
    have eAll := e1.trans (e3.trans e4')
    have R5 : R ys { s₄ with heap := h₅ } := I.keeps ys s₁ _ R2 (fun b hb o e => by
      have h1 : b ≠ C := fun h => hC (h ▸ hb)
      have h2 : b ≠ D := fun h => hD (h ▸ hb)
      exact (hs5.2 b h2).trans (hext.heap b o (hoS b hb) h1 e)) (fun g _ z e => hext.gens g (fun h => h) z e)
    refine ⟨done ++ [y], ys, vs ++ [r], c + 1, m4, by rw [hxs]; simp, rfl, hOK _ _ ok1 eAll, R5, by rw [List.nil_append]; exact hS5, ?_, Ext.ns e4 (fun h => hDC h.symm) hn4, X1.trans eAll⟩
    exact Paired.snoc (Paired.up (fun a b h => hF a b s _ h eAll) P1) (hF y r s₄ _ hval e4')
theorem comp_overT {env : Env} {l : List Env} {base : Heap} {elt target iter : Expr} {scope : Scope} {cl : List (Str × Addr)} {pos : Pos} {Q : Value → Shared → Prop} {xs : List α}
    (hcell : ∀ y ∈ scope.names, y.2 ≠ .cell) (hkind : scope.kind = .function)
    (I : It prog w A Val it (OkL base l) (frs l) W V own R) (hR : R xs s) (hok : OkL base l s.heap) (hthere : ∀ b ∈ own, ∃ o, s.heap.get? b = some o) (hoS : ∀ b ∈ own, b ∉ frs l) (hW : ∀ b, W b → base.get? b = none)
    (hF : ∀ D C, NewDC s (frs l) own D C → ∀ y v (s s' : Shared), F y v s.heap → Ext (frs l) (fun b => b = D ∨ b = C ∨ W b) V s s' → F y v s'.heap)
    (helt : ∀ D C, NewDC s (frs l) own D C → ∀ y ys v (s₁ : Shared) m, y ∈ xs → R ys s₁ → OkL base l s₁.heap → Ext (frs l) (fun b => b = D ∨ b = C ∨ W b) V s s₁ → s₁.heap.Ns C m → Val y v →
      wpAny (model prog w) A (letOwnedTupleGo target (.ref it) v) (fun _ s₂ => wpAny (model prog w) A (assign target (compEnvC scope cl C env) v) (fun _ s₃ => wpAny (model prog w) A (eval elt (compEnvC scope cl C env)) (fun r s₄ => EltEnd F (frs l) C s₁ y r s₄) (fun _ _ => False) s₃) (fun _ _ => False) s₂) (fun _ _ => False) s₁)
    (hn : xs.length ≤ 1000)
    (hQ : ∀ D s' vs c, s.heap.get? D = none → s.heap.objs.size ≤ D → Ext (frs l) W V s s' → s'.heap.get? D = some (listObj vs c) → Paired (fun y v => F y v s'.heap) xs vs → Q (.ref D) s') :
    CompTail prog w A E (.ListComp elt [⟨target, iter, [], 0⟩] scope pos) scope cl env none Q (.ref it) s := by
  refine wpAny_newObj_type (wpAny_newFunctionEnv hcell (by intro y hy; simp at hy) (fun h₁ hns₁ hsb₁ => ?_) hkind)
  have kp : KeepAll s.heap (s.heap.push { cls := .type "list", dict := none, data := .seq ([] : List Value).toArray }) := fun b o e => Heap.get?_push_of_some _ e
  have kh : KeepAll (s.heap.push { cls := .type "list", dict := none, data := .seq ([] : List Value).toArray }) h₁ := fun b o e => hsb₁.extBut b o (Nat.ne_of_lt (Heap.lt_size e)) (Heap.get?_push_of_some _ e)
  have hCs : (s.heap.push { cls := .type "list", dict := none, data := .seq ([] : List Value).toArray }).objs.size = s.heap.objs.size + 1 := Heap.size_push ..
  have hD0 : h₁.get? s.heap.objs.size = some (listObj [] 0) := kh _ _ (Heap.get?_push_size _ rfl)
  generalize hCC : (s.heap.push { cls := .type "list", dict := none, data := .seq ([] : List Value).toArray }).objs.size = C at *
  have N : NewDC s (frs l) own s.heap.objs.size C := ⟨get?_size_none _ (Nat.le_refl _), get?_size_none _ (by rw [hCs]; exact Nat.le_succ _), by rw [hCs]; exact Nat.lt_succ_self _, Nat.le_refl _, Nat.le_of_eq hCs⟩
  generalize s.heap.objs.size = D at N hD0
  have hOK := N.ok (V := V) hok fun b h => ⟨hW b h, hoS b (I.sub b h)⟩
  have e0 : Ext (frs l) (fun b => b = D ∨ b = C ∨ W b) V s { s with heap := h₁, toks := s.toks + ([] : List (Str × Value)).length } := .of_keep (kp.trans kh)
  have nt : ∀ b, s.heap.get? b = none → ∀ l : List Addr, (∀ b ∈ l, ∃ o, s.heap.get? b = some o) → b ∉ l := fun b e l hl h => by
    obtain ⟨o, ho⟩ := hl b h
    rw [e] at ho; cases ho
  have loop : ∀ s₄ : Shared, R xs s₄ → OkL base l s₄.heap → Ext (frs l) (fun b => b = D ∨ b = C ∨ W b) V s s₄ → s₄.heap.get? D = some (listObj [] 0) → s₄.heap.Ns C (fun _ => none) →
      codeAny (model prog w) A (.compLoop (.ListComp elt [⟨target, iter, [], 0⟩] scope pos) 0 (.ref it) (.ref D) (compEnvC scope cl C env)) (compPost (model prog w) A E none Q (.ref D) C) s₄ := by
    intro s₄ hR4 ok4 x4 d4 n4
    refine fill_loopT (F := F) (C := C) (s₀ := s) I (nt D N.d _ hthere) (nt C N.c _ hthere) (Nat.ne_of_lt N.lt) (nt D N.d _ hok.frs_there) (nt C N.c _ hok.frs_there)
      hOK (hF D C N) hoS (helt D C N) hn ok4 hR4 d4 n4 x4 fun s' vs c m X ok' d' P n' => ?_
    refine comp_val N (X.shrink (fun b hb => ?_) fun g h => .inl h) d' P n' (hF D C N) fun s'' X d P => hQ D s'' vs c N.d N.dsz X d P
    rcases hb with h | h | h
    · exact .inl (h ▸ N.d)
    · exact .inl (h ▸ N.c)
    · exact .inr h
  have hR1 : R xs { s with heap := h₁, toks := s.toks + ([] : List (Str × Value)).length } := I.keeps _ _ _ hR (fun b _ o e => kh _ _ (kp _ _ e)) fun _ _ _ e => e
  have ok1 := hOK _ _ hok e0
  refine codeAny_compStart_list (loop _ hR1 ok1 e0 hD0 hns₁) ?_
  refine I.iter xs _ _ _ ok1 hR1 fun s' hE hR' => ?_
  have e1 : Ext (frs l) (fun b => b = D ∨ b = C ∨ W b) V _ s' := hE.mono (fun _ h => nomatch h) (fun _ h => h.elim) fun _ h => h.elim
  exact loop s' hR' (hOK _ _ ok1 e1) (e0.trans e1) (hE.keepAll _ _ hD0) (Ext.ns hE (fun h => h) hns₁)
end
end Mine
end
section
open PySem PySem.W PyProof.Rows
set_option maxRecDepth 100000
set_option maxHeartbeats 8000000
namespace Mine
theorem entry_set_or : entryFor table "set.__or__" = some Builtin.«frozenset.__or__» :=
  entryFor_alias (id' := "frozenset.__or__") (by kernel_rfl) rfl (by decide +kernel) (by kernel_rfl)
theorem entry_set_eq : entryFor table "set.__eq__" = some Builtin.«frozenset.__eq__» :=
  entryFor_alias (id' := "frozenset.__eq__") (by kernel_rfl) rfl (by decide +kernel) (by kernel_rfl)
theorem sub_set_set : isSubtype (.type "set") (.type "set") = pure true := by rw [isSubtype_type]; kernel_rfl
theorem sub_set_frozen : isSubtype (.type "set") (.type "frozenset") = pure false := by rw [isSubtype_type]; kernel_rfl
section
variable {prog : Program} {w : World} {K : Type} [DecidableEq K] {knd : KeyKind prog w K} {A : Around} {E : Value → Shared → Prop} {s : Shared}
theorem SetD.typeIs {s : Shared} {a : Addr} {l : List K} (x : SetD knd s.heap a l) : s.TypeIs (.ref a) "set" := x.2.typeIs
theorem anySet_of {a : Addr} {Q : Bool → Shared → Prop} (hT : s.TypeIs (.ref a) "set") (h : Q true s) : wpAny (model prog w) A (Builtin.Frozenset.isAnySet (.ref a)) Q E s := by
  unfold Builtin.Frozenset.isAnySet
  refine wpAny_bind (wpAny_isInstance hT sub_set_set ?_)
  exact wpAny_pure h
theorem copy_of {a : Addr} {l : List K} {Q : Value → Shared → Prop} (hA : SetD knd s.heap a l) (hl : l.length < 64)
    (h : ∀ D h', s.heap.get? D = none → (∀ b o, s.heap.get? b = some o → b < D) → KeepAll s.heap h' → SetD knd h' D l → (l = [] → ∃ led, h'.get? D = some (freshSet led)) → Q (.ref D) { s with heap := h' }) :
    wpAny (model prog w) A (Builtin.Frozenset.copyOf a) Q E s := by
  unfold Builtin.Frozenset.copyOf Builtin.Frozenset.baseOf
  refine wpAny_bind (wpAny_bind (wpAny_isInstance hA.typeIs sub_set_set ?_))
  refine wpAny_pure ?_
  rw [if_pos rfl]
  refine wpAny_bind (wpAny_newSet_of (knd := knd) fun led _ => ?_)
  unfold Builtin.Frozenset.addrOf
  refine wpAny_bind (wpAny_pure ?_)
  have kp : KeepAll s.heap (s.heap.push (freshSet led)) := fun b o e => Heap.get?_push_of_some _ e
  have hD : (s.heap.push (freshSet led)).get? s.heap.objs.size = some (freshSet led) := Heap.get?_push_size _ rfl
  have hlt : ∀ b o, s.heap.get? b = some o → b < s.heap.objs.size := fun b o e => Heap.lt_size e
  have hne : s.heap.objs.size ≠ a := by
    obtain ⟨_, o, _, _, _, ho, _⟩ := hA
    exact Ne.symm (Nat.ne_of_lt (Heap.lt_size ho))
  by_cases q : l = []
  · subst q
    unfold setMerge
    have hab' : (s.heap.objs.size == a) = false := by simpa using hne
    rw [hab']
    simp only [Bool.false_eq_true, if_false]
    obtain ⟨_, o, es, ep, t, ho, hex, hd, hel, hmem, hb, hf, hes⟩ := hA.keep kp
    refine wpAny_bind ?_
    refine wpAny_bind (wpAny_setState_of ho hd hf ?_)
    dsimp only
    have : es.isEmpty = true := by
      have : es.size = 0 := hes
      simpa using this
    rw [if_pos this]
    exact wpAny_pure (wpAny_pure (h _ _ (get?_size_none _ (Nat.le_refl _)) hlt kp (setD_fresh hD) fun _ => ⟨led, hD⟩))
  · refine wpAny_bind (merge_fresh (knd := knd) hne hD (hA.keep kp) hl fun h' hsb hS => ?_)
    exact wpAny_pure (h _ h' (get?_size_none _ (Nat.le_refl _)) hlt (fun b o e => (hsb.2 b (Nat.ne_of_lt (Heap.lt_size e))).trans (kp b o e)) hS fun e => absurd e q)
theorem unchanged_of {ix : String} {b : Addr} {o : Obj} {es : Array (Int × Value)} {ep : Nat} {t : SetTable} {Q : Unit → Shared → Prop} (ho : s.heap.get? b = some o) (hd : o.data = .set es ep t) (hf : t.fits es.size = true) (h : Q () s) :
    wpAny (model prog w) A (Builtin.Frozenset.unchanged ix b ep) Q E s := by
  unfold Builtin.Frozenset.unchanged
  refine wpAny_bind (wpAny_setEpoch_of ho hd hf ?_)
  rw [if_neg (by simp)]
  exact wpAny_pure h
theorem update_of {ix : String} {a b : Addr} {l m : List K} {Q : Unit → Shared → Prop} (hab : a ≠ b) (hA : SetD knd s.heap a l) (hfr : l = [] → ∃ led, s.heap.get? a = some (freshSet led)) (hB : SetD knd s.heap b m) (hsz : l.length + m.length < 64)
    (h : ∀ h' l', Heap.SameBut a s.heap h' → SetD knd h' a l' → (∀ k, k ∈ l' ↔ k ∈ l ∨ k ∈ m) → Q () { s with heap := h' }) : wpAny (model prog w) A (Builtin.Frozenset.updateFrom ix a (.ref b)) Q E s := by
  obtain ⟨hnd, o, es, ep, t, hob, hex, hd, hel, hmem, hb, hf, hes⟩ := id hB
  unfold Builtin.Frozenset.updateFrom
  refine wpAny_bind (anySet_of hB.typeIs ?_)
  rw [if_pos rfl]
  unfold Builtin.Frozenset.addrOf Builtin.Frozenset.merge
  refine wpAny_bind (wpAny_pure ?_)
  refine wpAny_bind (wpAny_setEpoch_of hob hd hf ?_)
  by_cases q : l = []
  · obtain ⟨led, ho⟩ := hfr q
    refine merge_fresh (knd := knd) hab ho hB (by omega) fun h' hsb hS => h h' m hsb hS fun k => by rw [q]; simp
  · exact merge_more hab q hA hB hsz (fun s' Q' hg hq => unchanged_of (hg.trans hob) hd hf hq) h
theorem or_sets {a b : Addr} {l m : List K} {Q : Value → Shared → Prop} (hA : SetD knd s.heap a l) (hB : SetD knd s.heap b m) (hab : a ≠ b) (hsz : l.length + m.length < 64)
    (h : ∀ D h' l', s.heap.get? D = none → (∀ b o, s.heap.get? b = some o → b < D) → KeepAll s.heap h' → SetD knd h' D l' → (∀ k, k ∈ l' ↔ k ∈ l ∨ k ∈ m) → Q (.ref D) { s with heap := h' }) :
    wpAny (model prog w) A (binaryOp .BitOr (.ref a) (.ref b)) Q E s := by
  refine wpAny_binaryOp_same hA.typeIs hB.typeIs F.fills_set_or F.slot_set_or (wpAny_call_entry F.slot_set_or hA.typeIs entry_set_or ?_ (F.args_set_or_2 _ _))
  unfold Builtin.«frozenset.__or__»
  refine wpAny_bind (m := Builtin.Frozenset.slot1 "__or__" _) ?_
  unfold Builtin.Frozenset.slot1 slotArgs
  simp only [List.isEmpty_nil, Bool.not_true, Bool.false_eq_true, ↓reduceIte, bind_assoc, List.length_cons, List.length_nil, bne_self_eq_false]
  refine wpAny_bind (wpAny_pure ?_)
  refine wpAny_pure ?_
  dsimp only
  refine wpAny_bind (m := Builtin.Frozenset.isAnySet (.ref a) <&&> Builtin.Frozenset.isAnySet (.ref b)) ?_
  refine wpAny_bind (m := Builtin.Frozenset.isAnySet (.ref a)) (anySet_of hA.typeIs ?_)
  refine anySet_of hB.typeIs ?_
  simp only [Bool.not_true, Bool.false_eq_true, if_false]
  refine wpAny_bind (m := Builtin.Frozenset.addrOf (.ref a)) (wpAny_pure ?_)
  refine wpAny_bind ?_
  refine wpAny_bind (m := Builtin.Frozenset.copyOf a) (copy_of hA (by omega) fun D h1 hD hlt k1 hS1 hf1 => ?_)
  have hDb : D ≠ b := by
    obtain ⟨_, o, _, _, _, ho, _⟩ := hB
    exact Ne.symm (Nat.ne_of_lt (hlt b o ho))
  have hne : (Value.ref b != Value.ref a) = true := by
    have : Value.ref b ≠ Value.ref a := fun e => hab (by cases e; rfl)
    simpa using this
  rw [if_pos hne]
  refine wpAny_bind (m := Builtin.Frozenset.addrOf (.ref D)) (wpAny_pure ?_)
  refine wpAny_bind (wpAny_holding ?_)
  refine update_of (s := { s with heap := h1 }) hDb hS1 hf1 (hB.keep k1) hsz fun h2 l' hsb2 hS2 hm => ?_
  refine wpAny_pure ?_
  exact wpAny_pure ⟨_, rfl, fun e => by (cases e), h D h2 l' hD hlt (fun c o e => (hsb2.2 c (Nat.ne_of_lt (hlt c o e))).trans (k1 c o e)) hS2 hm⟩
theorem quietEq_of {x : Value} {Q : Bool → Shared → Prop} (hx : x.scannable = true) (h : Q true s) : wpAny (model prog w) A (Builtin.Frozenset.quietEq x) Q E s := by
  unfold Builtin.Frozenset.quietEq
  cases x <;> first | exact wpAny_pure h | cases hx
theorem walkUnseen_of {a b : Addr} {m : List K} {o : Obj} {es : Array (Int × Value)} {ep : Nat} {t : SetTable} {Q : List (Int × Value) → Shared → Prop} (ho : s.heap.get? a = some o) (hd : o.data = .set es ep t) (hf : t.fits es.size = true) (hel : ElemsOf knd es.toList)
    (hB : SetD knd s.heap b m) (h : Q es.toList s) : wpAny (model prog w) A (Builtin.Frozenset.walkUnseen a b) Q E s := by
  obtain ⟨_, o2, es2, ep2, t2, ho2, hex2, hd2, hel2, hmem2, hb2, hf2, hes2⟩ := id hB
  unfold Builtin.Frozenset.walkUnseen
  refine wpAny_bind (wpAny_setEntries_of ho hd hf ?_)
  refine wpAny_bind (wpAny_setEntries_of ho2 hd2 hf2 ?_)
  refine wpAny_bind (wpAny_forIn_list _ (fun rest b s' => s' = s ∧ b = ((none, ()) : Option (List (Int × Value)) × Unit) ∧ ∀ e ∈ rest, e.2.scannable = true) _ ?_ ?_ _ _ ⟨rfl, rfl, fun e he => ?_⟩)
  · rintro ⟨hx, x⟩ rest' bb s'' ⟨e1, e2, hr⟩
    subst e2
    rw [e1]
    dsimp only
    refine wpAny_bind (quietEq_of (hr _ (.head _)) ?_)
    simp only [Bool.not_true, Bool.false_eq_true, if_false]
    exact wpAny_pure ⟨rfl, rfl, fun e he => hr e (.tail _ he)⟩
  · rintro bb s' ⟨e1, e2, _⟩
    subst e2
    rw [e1]
    exact wpAny_pure h
  · rcases List.mem_append.mp he with he | he
    · exact (hel e he).2
    · exact (hel2 e he).2
theorem subset_of {ix : String} {a b : Addr} {l m : List K} {Q : Bool → Shared → Prop} (hA : SetD knd s.heap a l) (hB : SetD knd s.heap b m) (hlm : l.length ≤ m.length) (hsub : ∀ k ∈ l, k ∈ m) (h : Q true s) :
    wpAny (model prog w) A (Builtin.Frozenset.subsetOf ix a b) Q E s := by
  obtain ⟨_, o, es, ep, t, ho, hex, hd, hel, hmem, hb, hf, hes⟩ := id hA
  obtain ⟨_, o2, es2, ep2, t2, ho2, hex2, hd2, hel2, hmem2, hb2, hf2, hes2⟩ := id hB
  unfold Builtin.Frozenset.subsetOf Builtin.Frozenset.sizeOf
  refine wpAny_bind (wpAny_bind (wpAny_setEntries_of ho hd hf (wpAny_pure ?_)))
  refine wpAny_bind (wpAny_bind (wpAny_setEntries_of ho2 hd2 hf2 (wpAny_pure ?_)))
  rw [if_neg (by omega)]
  refine wpAny_bind (wpAny_setEpoch_of ho hd hf ?_)
  refine wpAny_bind (walkUnseen_of ho hd hf hel hB ?_)
  refine wpAny_bind (wpAny_forIn_list _ (fun rest b s' => s' = s ∧ b = ((none, ()) : Option Bool × Unit) ∧ ∀ e ∈ rest, e ∈ es.toList) _ ?_ ?_ _ _ ⟨rfl, rfl, fun _ h => h⟩)
  · rintro ⟨hx, x⟩ rest' bb s'' ⟨e1, e2, hr⟩
    subst e2
    rw [e1]
    obtain ⟨⟨k, hkx, hkh⟩, hsc⟩ := hel _ (hr _ (.head _))
    dsimp only at hkx hkh hsc ⊢
    subst hkh
    have hkl : k ∈ l := by
      have := (hmem k).mpr ⟨_, hr _ (.head _), hkx⟩
      simpa using this
    refine wpAny_bind (wpAny_holding (wpAny_setFind_of hkx hsc hB.2 fun r hrs => ?_))
    rw [decide_eq_true (hsub k hkl)] at hrs
    rw [if_neg (by cases r <;> simp_all)]
    refine wpAny_bind (unchanged_of ho hd hf ?_)
    exact wpAny_pure ⟨rfl, rfl, fun e he => hr e (.tail _ he)⟩
  · rintro bb s' ⟨e1, e2, _⟩
    subst e2
    rw [e1]
    exact wpAny_pure h
theorem eq_sets {a b : Addr} {l m : List K} {Q : Value → Shared → Prop} (hA : SetD knd s.heap a l) (hB : SetD knd s.heap b m) (hl : l.length = m.length) (hsub : ∀ k ∈ l, k ∈ m) (hu : A.units < cLine)
    (h : Q (.bool true) s) : wpAny (model prog w) A (richCompare .Eq (.ref a) (.ref b)) Q E s := by
  obtain ⟨_, o, es, ep, t, ho, hex, hd, hel, hmem, hb, hf, hes⟩ := id hA
  obtain ⟨_, o2, es2, ep2, t2, ho2, hex2, hd2, hel2, hmem2, hb2, hf2, hes2⟩ := id hB
  refine wpAny_richCompare_same_room hA.typeIs hB.typeIs F.slot_set_eq (wpAny_call_entry F.slot_set_eq hA.typeIs entry_set_eq ?_ (F.args_set_eq_2 _ _)) hu
  unfold Builtin.«frozenset.__eq__»
  refine wpAny_bind (m := Builtin.Frozenset.slot1 "__eq__" _) ?_
  unfold Builtin.Frozenset.slot1 slotArgs
  simp only [List.isEmpty_nil, Bool.not_true, Bool.false_eq_true, ↓reduceIte, bind_assoc, List.length_cons, List.length_nil, bne_self_eq_false]
  refine wpAny_bind (wpAny_pure ?_)
  refine wpAny_pure ?_
  refine wpAny_bind (m := Builtin.Frozenset.isAnySet (.ref b)) (anySet_of hB.typeIs ?_)
  simp only [Bool.not_true, Bool.false_eq_true, if_false]
  refine wpAny_bind (m := Builtin.Frozenset.addrOf (.ref a)) (wpAny_pure ?_)
  refine wpAny_bind (m := Builtin.Frozenset.addrOf (.ref b)) (wpAny_pure ?_)
  unfold Builtin.Frozenset.sizeOf
  refine wpAny_bind (wpAny_bind (wpAny_setEntries_of ho hd hf (wpAny_pure ?_)))
  refine wpAny_bind (wpAny_bind (wpAny_setEntries_of ho2 hd2 hf2 (wpAny_pure ?_)))
  have hz : (es.size != es2.size) = false := by
    have : es.size = es2.size := by omega
    rw [this]; simp
  refine wpAny_bind ?_
  rw [hz, if_neg Bool.false_ne_true]
  refine wpAny_bind (m := isInstance (.ref a) (.type "frozenset") <&&> isInstance (.ref b) (.type "frozenset")) ?_
  refine wpAny_bind (m := isInstance (.ref a) (.type "frozenset")) (wpAny_isInstance hA.typeIs sub_set_frozen ?_)
  refine wpAny_pure ?_
  rw [if_neg Bool.false_ne_true]
  refine subset_of hA hB (by omega) hsub ?_
  exact wpAny_pure ⟨_, rfl, fun e => by (cases e), h⟩
theorem len_set {a : Addr} {l : List K} {Q : Value → Shared → Prop} (hA : SetD knd s.heap a l) (h : Q (.int l.length (s.toks + 1)) { s with toks := s.toks + 1 + 1 }) : wpAny (model prog w) A (PySem.call (.builtin "len") [.ref a]) Q E s := by
  obtain ⟨_, o, es, ep, t, ho, hex, hd, hel, hmem, hb, hf, hes⟩ := id hA
  refine call_len_set ho hex hd hf (by unfold scanBound at hb; omega) ?_
  rw [hes]; exact h
end
end Mine
end
section
open PySem PySem.W PyProof.Rows PySem.Calls
set_option maxRecDepth 100000
set_option maxHeartbeats 8000000
set_option linter.unusedVariables false
namespace Mine
section
variable {prog : Program} {w : World} {A : Around} {E : Value → Shared → Prop} {s : Shared}
theorem ff_base {h B B' : Heap} {l : List Env} (f : h.FunFrames B l) (n : ∀ b ∈ frs l, B'.get? b = none) : h.FunFrames B' l := ff_of f (fun b _ o e _ => ⟨o, e, rfl⟩) n
end
theorem okl_hide {base h : Heap} {l : List Env} {X : List Addr} (o : OkL base l h) (hX : ∀ b ∈ frs l, b ∈ X) : OkL (hide X h) l h := ⟨hide_keep _ _, ff_base o.2 fun b hb => hide_none (hX b hb)⟩
theorem OkL.up {base h h' : Heap} {l : List Env} (o : OkL base l h) (k : KeepAll h h') : OkL base l h' := ⟨o.1.trans k, ff_of o.2 (fun b _ ob e _ => ⟨ob, k b ob e, rfl⟩) fun b hb => (o.2.mem hb).1⟩
theorem fills_list_iadd : fillsInplaceSlot (.type "list") "add" (Operator.Add == .Add) = pure false := by
  unfold fillsInplaceSlot
  show (typeLookup (.type "list") (dunderI "add") >>= fun fi => pure (fi.isSome && !isSeqSlot fi)) = pure false
  rw [PySem.F.slot_list_iadd.lookup]
  first | rfl | kernel_rfl
theorem seq_list_iadd : seqSlot? (.type "list") (dunderI "add") = pure (some (.builtin "list.__iadd__")) := by
  unfold seqSlot?
  show (typeLookup (.type "list") (dunderI "add") >>= _) = _
  rw [PySem.F.slot_list_iadd.lookup]
  first | rfl | kernel_rfl
section
variable {prog : Program} {w : World} {A : Around} {E : Value → Shared → Prop} {s : Shared}
theorem iadd_lists {l b : Addr} {vs ws : List Value} {c d : Nat} {Q : Value → Shared → Prop} (hl : s.heap.get? l = some (listObj vs c)) (hb : s.heap.get? b = some (listObj ws d)) (hsz : vs.length + ws.length ≤ 1000000)
    (h : ∀ h' c', h'.get? l = some (listObj (vs ++ ws) c') → Heap.SameBut l s.heap h' → Q (.ref l) { s with heap := h' }) : wpAny (model prog w) A (inplaceOp .Add (.ref l) (.ref b)) Q E s := by
  have hTl : s.TypeIs (.ref l) "list" := ⟨_, hl, rfl⟩
  have hTb : s.TypeIs (.ref b) "list" := ⟨_, hb, rfl⟩
  unfold inplaceOp
  refine wpAny_holding ?_
  refine wpAny_bind (wpAny_typeOf hTl (wpAny_bind (wpAny_of_eq fills_list_iadd ?_)))
  show wpAny _ A (if false = true then _ else _) Q E s
  rw [if_neg Bool.false_ne_true]
  refine wpAny_bind (binaryOp1_none (nm := "add") hTl hTb noFill_list_add ?_)
  refine wpAny_bind (wpAny_of_eq seq_list_iadd ?_)
  refine wpAny_bind (wpAny_rule ?_)
  refine call_meets F.slot_list_iadd hTl F.entry_list_iadd (F.args_list_iadd_2 _ _) (AutoSeq1.list___iadd___list_list_0 l vs.toArray c b ws.toArray d ?_ ?_ ?_) ⟨hl, hb, ?_⟩
  · have e : Builtin.List.listTooLong (vs.toArray.size + ws.toArray.size) = false := by
      unfold Builtin.List.listTooLong
      rw [sizeLine_eq]; simp; omega
    rw [e, Bool.and_false]
    exact Bool.false_ne_true
  · rw [sizeLine_eq]; simp; omega
  · rw [sizeLine_eq]; simp; omega
  · refine h _ (if ws = [] then c else c + 1) ?_ (Heap.SameBut.update ..)
    have hobj : Obj.mapSeq (fun x => x ++ ws.toArray) (listObj vs c) = listObj (vs ++ ws) (if ws = [] then c else c + 1) := by
      simp [Obj.mapSeq, listObj]
    rw [← hobj]
    exact Heap.get?_update_self _ hl rfl
end
end Mine
end
section
open PySem PySem.W PyProof.Rows Mine
set_option maxRecDepth 100000
set_option maxHeartbeats 8000000
namespace Mine2
variable {w : World} {mg mb : Str → Option Value} {dp un : Nat} {fr : Option (List Env)} {gd : Option (List Code)} {s : Shared} {Q : Value → Shared → Prop} {E : Value → Shared → Prop}
theorem kind_spec {n x : Str} {t t' : Tok} (P : PW w mg mb s.heap) (hdp : dp < recursionLimit)
   (hQ : ∀ t h' tk, KeepAll s.heap h' → Q (.str (Str.ofString "") t) { s with heap := h', toks := tk }) : wpAny (model prog w) (Ar dp un fr gd) (PySem.call (.ref 126) [.str n t, .str x t']) Q E s := by
  obtain ⟨KX, T⟩ := P
  have ho : s.heap.get? 126 = some _ := KX 126 _ (by k_is)
  refine wpAny_call ?_
  refine call_plain (by first | (show dp < recursionLimit; omega) | (show dp < 1000; omega)) ho rfl T.nolimit ?_ rfl ?_ ?_
  · exact ⟨125, _, _, _, rfl, KX 125 _ (by k_is), rfl, rfl⟩
  · exact locs rfl
  clear ho
  intro h₁ F
  have N : News s.heap s.heap.objs.size h₁ [] := News.nil
  k_steps
  rename Fr _ _ _ _ => F'
  exact hQ _ _ _ F'.keep
theorem fspath_spec {n x : Str} {t t' : Tok} (P : PW w mg mb s.heap) (hdp : dp + 1 < recursionLimit)
   (hQ : ∀ h' tk, KeepAll s.heap h' → Q (.str x t') { s with heap := h', toks := tk }) : wpAny (model prog w) (Ar dp un fr gd) (PySem.call (.ref 133) [.str n t, .str x t']) Q E s := by
  obtain ⟨KX, T⟩ := P
  have ho : s.heap.get? 133 = some _ := KX 133 _ (by k_is)
  refine wpAny_call ?_
  refine call_plain (by first | (show dp < recursionLimit; omega) | (show dp < 1000; omega)) ho rfl T.nolimit ?_ rfl ?_ ?_
  · exact ⟨132, _, _, _, rfl, KX 132 _ (by k_is), rfl, rfl⟩
  · exact locs rfl
  clear ho
  intro h₁ F
  have N : News s.heap s.heap.objs.size h₁ [] := News.nil
  k_steps
  refine kind_spec (PW.keepAll ⟨KX, T⟩ F.keep) hdp fun t1 h2 tk2 k2 => ?_
  have F2 := Fr.keepAll F k2
  have N2 := News.keepAll N k2
  clear F N
  k_steps
  rename Fr _ _ _ _ => F'
  exact hQ _ _ F'.keep
theorem is_int_spec {i : Int} {t : Tok} (P : PW w mg mb s.heap) (hdp : dp < recursionLimit)
   (hQ : ∀ h' tk, KeepAll s.heap h' → Q (.bool true) { s with heap := h', toks := tk }) : wpAny (model prog w) (Ar dp un fr gd) (PySem.call (.ref 28) [.int i t]) Q E s := by
  obtain ⟨KX, T⟩ := P
  have ho : s.heap.get? 28 = some _ := KX 28 _ (by k_is)
  refine wpAny_call ?_
  refine call_plain (by first | (show dp < recursionLimit; omega) | (show dp < 1000; omega)) ho rfl T.nolimit ?_ rfl ?_ ?_
  · exact ⟨27, _, _, _, rfl, KX 27 _ (by k_is), rfl, rfl⟩
  · exact locs rfl
  clear ho
  intro h₁ F
  have N : News s.heap s.heap.objs.size h₁ [] := News.nil
  k_steps
  rename Fr _ _ _ _ => F'
  exact hQ _ _ F'.keep
theorem whole_spec {i : Int} {x : Str} {t t' t'' : Tok} (P : PW w mg mb s.heap) (hdp : dp + 1 < recursionLimit) (hi : i ≤ 999999) (hi' : -999999 ≤ i)
   (hQ : ∀ h' tk, KeepAll s.heap h' → Q .none { s with heap := h', toks := tk }) : wpAny (model prog w) (Ar dp un fr gd) (PySem.call (.ref 35) [.int i t, .int 999999 t', .str x t'']) Q E s := by
  obtain ⟨KX, T⟩ := P
  have ho : s.heap.get? 35 = some _ := KX 35 _ (by k_is)
  refine wpAny_call ?_
  refine call_plain (by first | (show dp < recursionLimit; omega) | (show dp < 1000; omega)) ho rfl T.nolimit ?_ rfl ?_ ?_
  · exact ⟨34, _, _, _, rfl, KX 34 _ (by k_is), rfl, rfl⟩
  · exact locs rfl
  clear ho
  intro h₁ F
  have N : News s.heap s.heap.objs.size h₁ [] := News.nil
  k_steps
  refine is_int_spec (PW.keepAll ⟨KX, T⟩ F.keep) hdp fun h2 tk2 k2 => ?_
  have F2 := Fr.keepAll F k2
  have N2 := News.keepAll N k2
  clear F N
  k_steps
  all_goals (rename Fr _ _ _ _ => F'; exact hQ _ _ F'.keep)
theorem split_spec {x : Str} {t' : Tok} (P : PW w mg mb s.heap) (hdp : dp + 2 < recursionLimit) (hx : x.length ≤ 1000)
   (hQ : ∀ D t1 t2 y h' tk, KeepAll s.heap h' → h'.get? D = some { cls := .type "tuple", data := .seq #[.str (splitHead x) t1, .str y t2] } → s.heap.get? D = none → Q (.ref D) { s with heap := h', toks := tk }) : wpAny (model prog w) (Ar dp un fr gd) (PySem.call (.ref 140) [.str x t']) Q E s := by
  obtain ⟨KX, T⟩ := P
  have ho : s.heap.get? 140 = some _ := KX 140 _ (by k_is)
  refine wpAny_call ?_
  refine call_plain (by first | (show dp < recursionLimit; omega) | (show dp < 1000; omega)) ho rfl T.nolimit ?_ rfl ?_ ?_
  · exact ⟨139, _, _, _, rfl, KX 139 _ (by k_is), rfl, rfl⟩
  · exact locs rfl
  clear ho
  intro h₁ F
  have N : News s.heap s.heap.objs.size h₁ [] := News.nil
  k_steps
  refine fspath_spec (PW.keepAll ⟨KX, T⟩ F.keep) hdp fun h2 tk2 k2 => ?_
  have F2 := Fr.keepAll F k2
  have N2 := News.keepAll N k2
  clear F N
  k_steps
  all_goals (rename Fr _ _ _ _ => F'; rename News _ _ _ _ => N')
  · have sp : splitHead x = _ := if_pos ⟨by assumption, by assumption⟩
    rw [sp] at hQ
    exact hQ _ _ _ _ _ _ F'.keep (N' _ (.head _)).1 (N' _ (.head _)).2.2
  · have sp : splitHead x = _ := if_neg (fun q => Bool.noConfusion (q.2.symm.trans (by assumption)))
    rw [sp] at hQ
    exact hQ _ _ _ _ _ _ F'.keep (N' _ (.head _)).1 (N' _ (.head _)).2.2
  · have sp : splitHead x = _ := if_neg (fun q => absurd (by assumption) q.1)
    rw [sp] at hQ
    exact hQ _ _ _ _ _ _ F'.keep (N' _ (.head _)).1 (N' _ (.head _)).2.2
end Mine2
end
section
open PySem PySem.W PyProof.Rows Mine
set_option maxRecDepth 100000
set_option maxHeartbeats 8000000
namespace Mine2
variable {w : World} {mg mb : Str → Option Value} {dp un : Nat} {fr : Option (List Env)} {gd : Option (List Code)} {s : Shared} {Q : Value → Shared → Prop} {E : Value → Shared → Prop}
theorem make_at {A : Around} {C fI : Addr} {rest : List Value} {R : Result → Shared → Prop} (X : (hd.heap_39 w.params).In s.heap) (hm : makesIn (hd.heap_39 w.params) C = true)
    (hi : findIn (hd.heap_39 w.params) (.ref C) "__init__" = some (some (.ref fI))) (hf : typeIn (hd.heap_39 w.params) (.ref fI) = some (.type "function"))
    (h : ∀ x dx h', KeepAll s.heap h' → s.heap.get? dx = none → s.heap.get? x = none → h'.get? x = some (instObj C dx) → h'.get? dx = some (dictOf [] 0) → dx < x → s.heap.objs.size ≤ h'.objs.size →
      codeAny (model prog w) (A.under (.builtin "type.__call__" ⟨.ref C :: rest, []⟩)) (.call (.ref fI) ⟨.ref x :: rest, []⟩) (InitBack x R) { s with heap := h' }) :
    codeAny (model prog w) A (.call (.ref C) ⟨rest, []⟩) R s := by
  obtain ⟨hh, g, d, t, os⟩ := s
  refine make_core (makes_of X hm) (looks_findIn X hi) (fun self => bind_fn X self hf) (.inl rfl) (h _ hh.objs.size _ (fun b o e => Heap.get?_push_of_some _ (Heap.get?_push_of_some _ e)) ?_ ?_ ?_ ?_ (Nat.lt_succ_self _) ?_)
  · exact get?_size_none _ (Nat.le_refl _)
  · exact get?_size_none _ (Nat.le_succ _)
  · have := Heap.get?_push_size (hh.push emptyDict) (o := instObj C hh.objs.size) rfl
    rwa [Heap.size_push] at this
  · exact Heap.get?_push_of_some _ (Heap.get?_push_size _ rfl)
  · rw [Heap.size_push, Heap.size_push]; exact Nat.le_succ_of_le (Nat.le_succ _)
def IslObj (o : Obj) (dx it : Addr) (c n : Nat) : Prop :=
  ∃ t1 t2 t3 t4, o = { cls := .ref 68, dict := some dx, slots := #[some (.int c t1), some (.ref it), some (.int n t2), some (.int 1 t3), some (.int (-1) t4)] }
theorem islice_init {x dx a : Addr} {t1 : Tok} {g : Nat} {R : Result → Shared → Prop} {base : Heap} (P : PW w mg mb base) (hk : KeepAll base s.heap) (hsz : base.objs.size ≤ s.heap.objs.size)
    (hN : Led base s.heap [(x, instObj 68 dx), (dx, dictOf [] 0)]) (hl : dx < x) (hg : base.IsGen a g) (hdp : dp + 2 < recursionLimit)
    (hR : ∀ h' tk o, KeepAll base h' → h'.get? x = some o → IslObj o dx a 0 1 → h'.get? dx = some (dictOf [] 0) → R (.ok (.ret .none)) { s with heap := h', toks := tk }) :
    codeAny (model prog w) (Ar dp un fr gd) (.call (.ref 50) ⟨[.ref x, .ref a, .int 1 t1, .none], []⟩) R s := by
  obtain ⟨KX, T⟩ := P
  have ho : s.heap.get? 50 = some _ := hk _ _ (KX 50 _ (by k_is))
  refine' enterV (vs := [.int 1 t1, .none]) (binds := fun t => [("self", .ref x), ("iterable", .ref a), ("args", t)]) hk hsz hN ?e1 ho ?e2 (T.nolimit.keeps hk) ?e3 ?e4 ?e5 ?e6 ?_ ?e7 ?e8 ?e9 ?e10
  case e2 => exact rfl
  case e1 => show dp < recursionLimit; omega
  case e3 => exact ⟨49, _, _, _, rfl, hk _ _ (KX 49 _ (by k_is)), rfl, rfl⟩
  case e4 => rfl
  case e5 => exact fun t => locs rfl
  case e6 => exact Nat.le_of_ble_eq_true rfl
  case e7 => rfl
  case e8 => rfl
  case e9 => rfl
  case e10 => decide
  clear ho hk hsz hN
  intro L Tp h₁ tk F N l1 l2 kh hL
  k_lt l1
  k_lt2 hl
  k_lt2 l2
  k_steps
  rename Fr _ _ _ _ => F0
  rename News _ _ _ _ => N0
  refine whole_spec (PW.keepAll ⟨KX, T⟩ F0.keep) hdp (by decide) (by decide) fun h2 tk2 k2 => ?_
  replace F0 := Fr.keepAll F0 k2
  replace N0 := News.keepAll N0 k2
  k_steps
  rename Fr _ _ _ _ => F1
  rename News _ _ _ _ => N1
  refine call_iter (wpAny_pyIter_gen (hg.keeps F1.keep) ?_)
  k_steps
  rename Fr _ _ _ _ => F1
  rename News _ _ _ _ => N1
  exact hR _ _ _ F1.keep (N1 _ (.tail _ (.head _))).1 ⟨_, _, _, _, rfl⟩ (N1 _ (.tail _ (.tail _ (.head _)))).1
theorem islice_new {a : Addr} {t1 : Tok} {g : Nat} (P : PW w mg mb s.heap) (hg : s.heap.IsGen a g) (hdp : dp + 3 < recursionLimit)
    (hQ : ∀ x dx o h' tk, KeepAll s.heap h' → s.heap.get? x = none → s.heap.get? dx = none → dx < x → h'.get? x = some o → IslObj o dx a 0 1 → h'.get? dx = some (dictOf [] 0) → Q (.ref x) { s with heap := h', toks := tk }) :
    wpAny (model prog w) (Ar dp un fr gd) (PySem.call (.ref 68) [.ref a, .int 1 t1, .none]) Q E s := by
  refine wpAny_call (make_at (fI := 50) P.K (by k_is) (by k_is) (by k_is) fun x dx h' hk hdx hx h1 h2 hl hsz => ?_)
  refine islice_init (s := { s with heap := h' }) P hk hsz (Led.cons h1 hx (Led.cons h2 hdx Led.nil)) hl hg (by show dp + 1 + 2 < recursionLimit; omega) fun h2 tk o hk2 ho hi hd2 => ?_
  exact ⟨rfl, hQ x dx o h2 tk hk2 hx hdx hl ho hi hd2⟩
end Mine2
end
section
open PySem PySem.W PyProof.Rows Mine
set_option maxRecDepth 100000
set_option maxHeartbeats 8000000
namespace Mine2
section
variable {w : World} {mg mb : Str → Option Value} {dp un : Nat} {l : List Env} {gd : Option (List Code)} {s : Shared} {Q : Value → Shared → Prop} {E : Value → Shared → Prop}
  {W : Addr → Prop} {V : Nat → Prop} {own : List Addr} {R : List Str → Shared → Prop} {x dx it : Addr} {base : Heap} {o : Obj} {c : Nat} {xs : List Str}
def IslR (x dx it : Addr) (R : List Str → Shared → Prop) (xs : List Str) (s : Shared) : Prop :=
  s.heap.get? dx = some (dictOf [] 0) ∧ ∃ o, s.heap.get? x = some o ∧
    ((∃ c, c + xs.length ≤ 1000 ∧ IslObj o dx it c c ∧ R xs s) ∨ (IslObj o dx it 0 1 ∧ ∃ ys, ys.length ≤ 1000 ∧ xs = ys.tail ∧ R ys s))
def clsOf (name : Str) : List Stmt → List Stmt
  | [] => []
  | .ClassDef (name := n) (body := b) .. :: r => if n = name then b else clsOf name r
  | _ :: r => clsOf name r
noncomputable def islNext : List Stmt × Scope := ((defOf (Str.ofString "__next__") (clsOf (Str.ofString "islice") PySem.Challenge.pw_kl0057_02.main.body)).getD ([], default))
noncomputable def islCatch : List ExceptHandler := match islNext.1.drop 3 with
  | .Try (handlers := h) .. :: _ => h
  | _ => []
noncomputable abbrev islEnv (L : Addr) : Env := envOf (Str.ofString "islice.__next__") islNext.2 L 64 (.ref 63)
theorem isl_stop {L e : Addr} {m : Str → Option Value} {h' : Heap} {s' : Shared} {a1 a2 a3 a4 a5 : Value} {Qf : Flow → Shared → Prop} {R1 : Value → Shared → Prop} (P : PW w mg mb base) (hx : base.get? x = none) (hdx : base.get? dx = none)
    (F2 : Fr (trunc 0 s'.heap) L s'.heap m) (hm : m "self" = some (.ref x)) (nx : s'.heap.get? x = some { cls := .ref 68, dict := some dx, slots := #[some a1, some a2, some a3, some a4, some a5] }) (nd : s'.heap.get? dx = some (dictOf [] 0))
    (hxL : x < L) (hdL : dx < L) (hl : dx < x) (hsL : s.heap.objs.size ≤ L) (hk : KeepAll base s.heap) (kbs : KeepAll base s'.heap) (hl' : s.heap.FunFrames base l) (hW : ∀ f ∈ frs l, f ∉ [x, dx] ∧ ¬ W f)
    (H : Holds [x, dx] W s.heap s'.heap) (hg : GExt V s.gens s'.gens s.os s'.os) (hx' : Heap.NewExc s'.heap h' e "StopIteration")
    (hEx : ∀ e s', Ext (frs l) (fun b => b ∈ [x, dx] ∨ W b) V s s' → s'.TypeIs (.ref e) "StopIteration" → R1 (.ref e) s') :
    wpAny (model prog w) ((Ar dp un (some l) gd).deeper (islEnv L)) (noteFrame (.ref e) (islEnv L)) (fun _ s₂ => wpAny (model prog w) ((Ar dp un (some l) gd).deeper (islEnv L)) (setFlight (.ref e) none) (fun _ s₃ => wpAny (model prog w) ((Ar dp un (some l) gd).deeper (islEnv L)) (handleBy (.ref e) (islEnv L) islCatch) Qf
      (fun e s' => wpAny (model prog w) ((Ar dp un (some l) gd).deeper (islEnv L)) (leaving (islEnv L) e) (fun _ s'' => R1 e s'') (fun e' s'' => R1 e' s'') s') s₃)
      (fun e s' => wpAny (model prog w) ((Ar dp un (some l) gd).deeper (islEnv L)) (leaving (islEnv L) e) (fun _ s'' => R1 e s'') (fun e' s'' => R1 e' s'') s') s₂)
      (fun e s' => wpAny (model prog w) ((Ar dp un (some l) gd).deeper (islEnv L)) (leaving (islEnv L) e) (fun _ s'' => R1 e s'') (fun e' s'' => R1 e' s'') s') { s' with heap := h' } := by
  conv in islCatch => whnf
  have HF := ff_keep H hl' hW
  have hlt := ff_lt hl' hsL
  have bL : ∀ b o, base.get? b = some o → b < L := fun b o e0 => Nat.lt_of_lt_of_le (Heap.lt_size (hk b o e0)) hsL
  have kbt : KeepAll base (trunc L base) := fun b o e0 => by rw [trunc_get (bL b o e0)]; exact e0
  have bf : ∀ b o, base.get? b = some o → b ∉ frs l := fun b o e0 q => by rw [(hl'.mem q).1] at e0; cases e0
  refine catch_here (l := l) (news := [(x, _), (dx, _)]) rfl rfl (by show ScopeKind.function ≠ ScopeKind.module; decide) F2 HF hlt (allC ⟨nx, hxL, fun q => (hW _ q).1 (.head _)⟩ (allC ⟨nd, hdL, fun q => (hW _ q).1 (.tail _ (.head _))⟩ allN)) hx' (fun h'' Q' hs hu hq => ?_) (fun Tb oe oT b3 h'' F3 N3 X3 hb3 hf3 hne => ?_)
  · have FB : Fr (trunc L base) L h'' _ := ⟨hu.ns F2.ns, fun b o e0' => (fun e0 : base.get? b = some o => hs b o (hide_some (by simp only [List.mem_cons, not_or]; exact ⟨Nat.ne_of_lt (bL b o e0), bf b o e0⟩) (kbs b o e0))) (trunc_keep b o e0'), trunc_size _ _⟩
    exact name_B FB (P.keepAll kbt).K (P.keepAll kbt).T (by k_is) rfl (by decide) hq
  · have kb3 : KeepAll base b3 := fun b o e0 => hb3 b o (bL b o e0) (bf b o e0) (by
      simp only [List.map_cons, List.map_nil, List.mem_cons, List.not_mem_nil, or_false, not_or]
      exact ⟨fun q => (by rw [q, hx] at e0; cases e0), fun q => (by rw [q, hdx] at e0; cases e0)⟩) (kbs b o e0)
    obtain ⟨KX, T⟩ := P.keepAll kb3
    simp only [List.cons_append, List.nil_append] at N3
    obtain ⟨q1, q2⟩ := hne _ (.head _)
    obtain ⟨q3, q4⟩ := hne _ (.tail _ (.head _))
    dsimp only at q1 q2 q3 q4
    replace q1 := neN q1
    replace q2 := neN q2
    replace q3 := neN q3
    replace q4 := neN q4
    k_lt2 hl
    replace F3 := fr_named F3 "self" _ hm
    k_steps
    rename Fr _ _ _ _ => F4
    rename News _ _ _ _ => N4
    refine raise_out (e := e) (T := Tb) (l := l) rfl rfl (by show ScopeKind.function ≠ ScopeKind.module; decide) F4 N4 (.tail _ (.tail _ (.head _))) (.tail _ (.tail _ (.tail _ (.head _)))) X3 (ff_of HF (fun b hb o e0 _ => ?_) fun b hb => hide_none hb) fun h5 hst hu hT => ?_
    · obtain ⟨sl, h3⟩ := hf3 b hb o e0
      exact ⟨_, F4.keep _ _ h3, rfl⟩
    · exact hEx e _ (ext_raise (s' := s') H hsL hl' hW hb3 hf3 F4.keep hst hu hg) hT
theorem isl_later (I : InIt prog w it base W V own R) (P : PW w mg mb base) (hk : KeepAll base s.heap) (hx : base.get? x = none) (hdx : base.get? dx = none) (hxo : x ∉ own) (hdxo : dx ∉ own)
    (hox : s.heap.get? x = some o) (hod : s.heap.get? dx = some (dictOf [] 0)) (hI : IslObj o dx it c c) (hc : c ≤ 1000) (hl : dx < x)
    (hR : R xs s) (hdp : dp ≤ 450) (hu : un ≤ 4500)
    (hQ : ∀ y ys t s' o', xs = y :: ys → Ext [] (fun b => b ∈ [x, dx] ∨ W b) V s s' → s'.heap.get? x = some o' → IslObj o' dx it (c + 1) (c + 1) → s'.heap.get? dx = some (dictOf [] 0) → R ys s' → Q (.str y t) s')
    (hl' : xs = [] → s.heap.FunFrames base l) (hff : xs = [] → ∀ f ∈ frs l, f ∉ [x, dx] ∧ f ∉ own)
    (hEx : xs = [] → ∀ e s', Ext (frs l) (fun b => b ∈ [x, dx] ∨ W b) V s s' → s'.TypeIs (.ref e) "StopIteration" → E (.ref e) s') :
    wpAny (model prog w) (Ar dp un (some l) gd) (PySem.call (.ref 64) [.ref x]) Q E s := by
  have kb : KeepAll base (hide [x, dx] s.heap) := keep_hide hk fun a ha => by
    rcases List.mem_cons.mp ha with rfl | ha
    · exact hx
    · rcases List.mem_cons.mp ha with rfl | ha
      · exact hdx
      · cases ha
  obtain ⟨KX, T⟩ := P.keepAll kb
  obtain ⟨t1, t2, t3, t4, rfl⟩ := hI
  have hown : ∀ b ∈ own, ∃ o, (hide [x, dx] s.heap).get? b = some o := fun b hb => by
    obtain ⟨o, ho⟩ := I.there _ _ hR b hb
    exact ⟨o, hide_some (by simp only [List.mem_cons, List.not_mem_nil, or_false, not_or]; exact ⟨fun q => hxo (q ▸ hb), fun q => hdxo (q ▸ hb)⟩) ho⟩
  have ho : s.heap.get? 64 = some _ := hk _ _ (P.K 64 _ (by k_is))
  refine wpAny_call ?_
  refine' enter (base := hide [x, dx] s.heap) (hide_keep _ _) (by rw [hide_size]; exact Nat.le_refl _) (Led.cons hox (hide_none (.head _)) (Led.cons hod (hide_none (.tail _ (.head _))) Led.nil)) ?e1 ho ?e2 (P.T.nolimit.keeps hk) ?e3 ?e4 ?e5 ?_ ?e7 ?e8 ?e9 ?e10
  case e2 => exact rfl
  case e1 => show dp < 1000; omega
  case e3 => exact ⟨63, _, _, _, rfl, hk _ _ (P.K 63 _ (by k_is)), rfl, rfl⟩
  case e4 => rfl
  case e5 => exact locs rfl
  case e7 => rfl
  case e8 => rfl
  case e9 => rfl
  case e10 => decide
  clear ho
  intro L h₁ tk F N l1 kh hL
  k_lt l1
  k_lt2 hl
  k_steps
  rw [show decide ((c : Int) < (c : Int)) = false from by simp]
  k_steps
  rename Fr _ _ _ _ => F1
  rename News _ _ _ _ => N1
  have hR1 : R xs { s with heap := _, toks := tk } := I.keeps _ s { s with heap := _, toks := tk } hR (fun b hb o ho => F1.keep b o (hide_some (by simp only [List.mem_cons, List.not_mem_nil, or_false, not_or]; exact ⟨fun q => hxo (q ▸ hb), fun q => hdxo (q ▸ hb)⟩) ho)) fun _ _ _ e => e
  refine I.next (by show dp + 1 ≤ 500; omega) (by show un + 3 + 1 ≤ 5000; omega) (fun b o e => F1.keep b o (kb b o e)) (P.T.nolimit.keeps fun b o e => F1.keep b o (kb b o e)) hR1 (fun y ys hxs t s' hE hR' => ?_) (fun hxs e s' h' hE hx' => ?_)
  · have F2 := Fr.patch F1 hE I.sub hown (I.there _ _ hR')
    have N2 := News.patch N1 hE I.sub hown
    obtain ⟨KX, T⟩ := P.keepAll (kb.patch (h := s'.heap) I.off)
    have hkF := F1.keep
    have hg := Ext.g hE
    clear F1 N1
    k_steps
    rename Fr _ _ _ _ => F3
    rename News _ _ _ _ => N3
    exact hQ y ys t _ _ hxs ((Holds.hide.turn hkF hE |>.keep F3.keep).fin hg) (N3 _ (.head _)).1 ⟨_, _, _, _, rfl⟩ (N3 _ (.tail _ (.head _))).1 (I.keeps _ _ _ hR' (patch_own F3.keep hown) fun _ _ _ e => e)
  · replace hl' := hl' hxs
    replace hff := hff hxs
    replace hEx := hEx hxs
    have hg := Ext.g hE
    have hsL : s.heap.objs.size ≤ L := by
      have := F1.above
      simp only [patch_size, hide_size] at this
      exact this
    have hW : ∀ f ∈ frs l, f ∉ [x, dx] ∧ ¬ W f := fun f hf => ⟨(hff f hf).1, fun q => (hff f hf).2 (I.sub f q)⟩
    have H : Holds [x, dx] W s.heap s'.heap := (Holds.hide.keep F1.keep).ext (fun _ _ h => h) hE
    have F2 := fr_zero F1 hE I.sub hown
    have xW : ¬ W x := fun q => hxo (I.sub _ q)
    have dW : ¬ W dx := fun q => hdxo (I.sub _ q)
    have nx := hE.heap _ _ (by simp) xW (N1 _ (.head _)).1
    have nd := hE.heap _ _ (by simp) dW (N1 _ (.tail _ (.head _))).1
    have kbs : KeepAll base s'.heap := fun b o e0 => hE.heap b o (by simp) (fun q => by rw [I.off b (I.sub b q)] at e0; cases e0) (F1.keep b o (kb b o e0))
    exact isl_stop P hx hdx F2 rfl nx nd l1.1 l1.2 hl hsL hk kbs hl' hW H hg hx' hEx
theorem isl_first (I : InIt prog w it base W V own R) (P : PW w mg mb base) (hk : KeepAll base s.heap) (hx : base.get? x = none) (hdx : base.get? dx = none) (hxo : x ∉ own) (hdxo : dx ∉ own)
    (hox : s.heap.get? x = some o) (hod : s.heap.get? dx = some (dictOf [] 0)) (hI : IslObj o dx it 0 1) (hl : dx < x)
    (hR : R xs s) (hdp : dp ≤ 450) (hu : un ≤ 4500)
    (hQ : ∀ y0 y ys t s' o', xs = y0 :: y :: ys → Ext [] (fun b => b ∈ [x, dx] ∨ W b) V s s' → s'.heap.get? x = some o' → IslObj o' dx it 2 2 → s'.heap.get? dx = some (dictOf [] 0) → R ys s' → Q (.str y t) s')
    (hl' : xs.tail = [] → s.heap.FunFrames base l) (hff : xs.tail = [] → ∀ f ∈ frs l, f ∉ [x, dx] ∧ f ∉ own)
    (hEx : xs.tail = [] → ∀ e s', Ext (frs l) (fun b => b ∈ [x, dx] ∨ W b) V s s' → s'.TypeIs (.ref e) "StopIteration" → E (.ref e) s') :
    wpAny (model prog w) (Ar dp un (some l) gd) (PySem.call (.ref 64) [.ref x]) Q E s := by
  have kb : KeepAll base (hide [x, dx] s.heap) := keep_hide hk fun a ha => by
    rcases List.mem_cons.mp ha with rfl | ha
    · exact hx
    · rcases List.mem_cons.mp ha with rfl | ha
      · exact hdx
      · cases ha
  obtain ⟨KX, T⟩ := P.keepAll kb
  obtain ⟨t1, t2, t3, t4, rfl⟩ := hI
  have hown : ∀ b ∈ own, ∃ o, (hide [x, dx] s.heap).get? b = some o := fun b hb => by
    obtain ⟨o, ho⟩ := I.there _ _ hR b hb
    exact ⟨o, hide_some (by simp only [List.mem_cons, List.not_mem_nil, or_false, not_or]; exact ⟨fun q => hxo (q ▸ hb), fun q => hdxo (q ▸ hb)⟩) ho⟩
  have ho : s.heap.get? 64 = some _ := hk _ _ (P.K 64 _ (by k_is))
  refine wpAny_call ?_
  refine' enter (base := hide [x, dx] s.heap) (hide_keep _ _) (by rw [hide_size]; exact Nat.le_refl _) (Led.cons hox (hide_none (.head _)) (Led.cons hod (hide_none (.tail _ (.head _))) Led.nil)) ?e1 ho ?e2 (P.T.nolimit.keeps hk) ?e3 ?e4 ?e5 ?_ ?e7 ?e8 ?e9 ?e10
  case e2 => exact rfl
  case e1 => show dp < 1000; omega
  case e3 => exact ⟨63, _, _, _, rfl, hk _ _ (P.K 63 _ (by k_is)), rfl, rfl⟩
  case e4 => rfl
  case e5 => exact locs rfl
  case e7 => rfl
  case e8 => rfl
  case e9 => rfl
  case e10 => decide
  clear ho
  intro L h₁ tk F N l1 kh hL
  k_lt l1
  k_lt2 hl
  k_steps
  rename Fr _ _ _ _ => F1
  rename News _ _ _ _ => N1
  have hR1 : R xs { s with heap := _, toks := tk } := I.keeps _ s { s with heap := _, toks := tk } hR (fun b hb o ho => F1.keep b o (hide_some (by simp only [List.mem_cons, List.not_mem_nil, or_false, not_or]; exact ⟨fun q => hxo (q ▸ hb), fun q => hdxo (q ▸ hb)⟩) ho)) fun _ _ _ e => e
  refine I.next (by show dp + 1 ≤ 500; omega) (by show un + 3 + 1 ≤ 5000; omega) (fun b o e => F1.keep b o (kb b o e)) (P.T.nolimit.keeps fun b o e => F1.keep b o (kb b o e)) hR1 (fun y0 ys0 hxs t0 s0 hE0 hR0 => ?_) (fun hxs e s' h' hE hx' => ?_)
  · have F2 := Fr.patch F1 hE0 I.sub hown (I.there _ _ hR0)
    have N2 := News.patch N1 hE0 I.sub hown
    obtain ⟨KX0, T0⟩ := P.keepAll (kb.patch (h := s0.heap) I.off)
    have hkF0 := F1.keep
    have hg0 := Ext.g hE0
    clear F1 N1
    k_steps
    rename Fr _ _ _ _ => F1
    rename News _ _ _ _ => N1
    have kb2 : KeepAll base (patch own (hide [x, dx] s.heap) s0.heap) := kb.patch I.off
    have hown2 : ∀ b ∈ own, ∃ o, (patch own (hide [x, dx] s.heap) s0.heap).get? b = some o := fun b hb => by
      obtain ⟨o1, ho1⟩ := hown b hb
      obtain ⟨o2, ho2⟩ := I.there _ _ hR0 b hb
      exact ⟨o2, by rw [patch_on hb (Heap.lt_size ho1) (Heap.lt_size ho2)]; exact ho2⟩
    have hR2 : R ys0 { s0 with heap := _, toks := tk } := I.keeps _ s0 { s0 with heap := _, toks := tk } hR0 (patch_own F1.keep hown) fun _ _ _ e => e
    refine I.next (by show dp + 1 ≤ 500; omega) (by show un + 3 + 1 ≤ 5000; omega) (fun b o e => F1.keep b o (kb2 b o e)) (P.T.nolimit.keeps fun b o e => F1.keep b o (kb2 b o e)) hR2 (fun y ys hys t s' hE hR' => ?_) (fun hys e s' h' hE hx' => ?_)
    · have F2 := Fr.patch F1 hE I.sub hown2 (I.there _ _ hR')
      have N2 := News.patch N1 hE I.sub hown2
      obtain ⟨KX, T⟩ := P.keepAll (kb2.patch (h := s'.heap) I.off)
      have hkF := F1.keep
      have hg := Ext.g hE
      clear F1 N1
      k_steps
      rename Fr _ _ _ _ => F3
      rename News _ _ _ _ => N3
      exact hQ y0 y ys t _ _ (hxs.trans (congrArg _ hys)) ((((Holds.hide.turn hkF0 hE0).turn hkF hE).keep F3.keep).fin (hg0.trans hg)) (N3 _ (.head _)).1 ⟨_, _, _, _, rfl⟩ (N3 _ (.tail _ (.head _))).1 (I.keeps _ _ _ hR' (patch_own F3.keep hown2) fun _ _ _ e => e)
    · replace hl' := hl' (by rw [hxs, hys]; rfl)
      replace hff := hff (by rw [hxs, hys]; rfl)
      replace hEx := hEx (by rw [hxs, hys]; rfl)
      have hg := Ext.g hE
      have hsL : s.heap.objs.size ≤ L := by
        have := F1.above
        simp only [patch_size, hide_size] at this
        exact this
      have hW : ∀ f ∈ frs l, f ∉ [x, dx] ∧ ¬ W f := fun f hf => ⟨(hff f hf).1, fun q => (hff f hf).2 (I.sub f q)⟩
      have H : Holds [x, dx] W s.heap s'.heap := ((Holds.hide.turn hkF0 hE0).keep F1.keep).ext (fun _ _ h => h) hE
      have F2 := fr_zero F1 hE I.sub hown2
      have xW : ¬ W x := fun q => hxo (I.sub _ q)
      have dW : ¬ W dx := fun q => hdxo (I.sub _ q)
      have nx := hE.heap _ _ (by simp) xW (N1 _ (.head _)).1
      have nd := hE.heap _ _ (by simp) dW (N1 _ (.tail _ (.head _))).1
      have kbs : KeepAll base s'.heap := fun b o e0 => hE.heap b o (by simp) (fun q => by rw [I.off b (I.sub b q)] at e0; cases e0) (F1.keep b o (kb2 b o e0))
      exact isl_stop P hx hdx F2 rfl nx nd l1.1 l1.2 hl hsL hk kbs hl' hW H (hg0.trans hg) hx' hEx
  · replace hl' := hl' (by rw [hxs]; rfl)
    replace hff := hff (by rw [hxs]; rfl)
    replace hEx := hEx (by rw [hxs]; rfl)
    have hg := Ext.g hE
    have hsL : s.heap.objs.size ≤ L := by
      have := F1.above
      simp only [patch_size, hide_size] at this
      exact this
    have hW : ∀ f ∈ frs l, f ∉ [x, dx] ∧ ¬ W f := fun f hf => ⟨(hff f hf).1, fun q => (hff f hf).2 (I.sub f q)⟩
    have H : Holds [x, dx] W s.heap s'.heap := (Holds.hide.keep F1.keep).ext (fun _ _ h => h) hE
    have F2 := fr_zero F1 hE I.sub hown
    have xW : ¬ W x := fun q => hxo (I.sub _ q)
    have dW : ¬ W dx := fun q => hdxo (I.sub _ q)
    have nx := hE.heap _ _ (by simp) xW (N1 _ (.head _)).1
    have nd := hE.heap _ _ (by simp) dW (N1 _ (.tail _ (.head _))).1
    have kbs : KeepAll base s'.heap := fun b o e0 => hE.heap b o (by simp) (fun q => by rw [I.off b (I.sub b q)] at e0; cases e0) (F1.keep b o (kb b o e0))
    exact isl_stop P hx hdx F2 rfl nx nd l1.1 l1.2 hl hsL hk kbs hl' hW H hg hx' hEx
end
end Mine2
end
section
open PySem PySem.W PyProof.Rows Mine
set_option maxRecDepth 100000
set_option maxHeartbeats 8000000
namespace Mine2
section
variable {w : World} {mg mb : Str → Option Value} {dp un : Nat} {fr : Option (List Env)} {gd : Option (List Code)} {s : Shared} {Q : Value → Shared → Prop} {E : Value → Shared → Prop}
  {W : Addr → Prop} {V : Nat → Prop} {own : List Addr} {R : List Str → Shared → Prop} {x dx it : Addr} {base : Heap} {o : Obj}
theorem isl_iter (P : PW w mg mb s.heap) (hdp : dp < recursionLimit)
   (hQ : ∀ h' tk, KeepAll s.heap h' → Q (.ref x) { s with heap := h', toks := tk }) : wpAny (model prog w) (Ar dp un fr gd) (PySem.call (.ref 57) [.ref x]) Q E s := by
  obtain ⟨KX, T⟩ := P
  have ho : s.heap.get? 57 = some _ := KX 57 _ (by k_is)
  refine wpAny_call ?_
  refine' enter (base := s.heap) (fun _ _ e => e) (Nat.le_refl _) Led.nil ?e1 ho ?e2 T.nolimit ?e3 ?e4 ?e5 ?_ ?e7 ?e8 ?e9 ?e10
  case e2 => exact rfl
  case e1 => first | (show dp < recursionLimit; omega) | (show dp < 1000; omega)
  case e3 => exact ⟨56, _, _, _, rfl, KX 56 _ (by k_is), rfl, rfl⟩
  case e4 => rfl
  case e5 => exact locs rfl
  case e7 => rfl
  case e8 => rfl
  case e9 => rfl
  case e10 => decide
  clear ho
  intro L h₁ tk F N l1 kh hL
  k_steps
  rename Fr _ _ _ _ => F'
  exact hQ _ _ F'.keep
theorem IslR.at_ {xs : List Str} (hR : IslR x dx it R xs s) : ∃ ox od, InstAt s.heap x ox 68 od := by
  obtain ⟨hod, o, hox, h⟩ := hR
  rcases h with ⟨c, _, ⟨t1, t2, t3, t4, rfl⟩, _⟩ | ⟨⟨t1, t2, t3, t4, rfl⟩, _⟩
  · exact ⟨_, some _, hox, rfl, rfl, hod⟩
  · exact ⟨_, some _, hox, rfl, rfl, hod⟩
theorem ownIt_isl (I : InIt prog w it base W V own R) (P : PW w mg mb base) (hx : base.get? x = none) (hdx : base.get? dx = none) (hxo : x ∉ own) (hdxo : dx ∉ own) (hl : dx < x) :
    OwnIt prog w x base (fun b => b ∈ [x, dx] ∨ W b) V (x :: dx :: own) (IslR x dx it R) where
  cons := fun dp un l gd y ys s Q E hd hu hk hlim hff hR hQ => by
    obtain ⟨ox, od, hI⟩ := hR.at_
    refine own_next (f := 64) (P.K.keeps hk) hI (by k_is) (by k_is) ?_
    obtain ⟨hod, o, hox, ⟨c, hc, hO, hr⟩ | ⟨hO, zs, hz, hzs, hr⟩⟩ := hR
    · refine isl_later I P hk hx hdx hxo hdxo hox hod hO (Nat.le_trans (Nat.le_add_right _ _) hc) hl hr (by omega) (by omega) (fun y' ys' t s' o' e hE ho' hO' hd' hr' => ?_) (fun h => nomatch h) (fun h => nomatch h) fun h => nomatch h
      cases e
      exact hQ t s' hE ⟨hd', o', ho', .inl ⟨c + 1, Nat.le_trans (Nat.le_of_eq (Nat.succ_add_eq_add_succ _ _)) hc, hO', hr'⟩⟩
    · refine isl_first I P hk hx hdx hxo hdxo hox hod hO hl hr (by omega) (by omega) (fun y0 y' ys' t s' o' e hE ho' hO' hd' hr' => ?_) (fun h => nomatch hzs.trans h) (fun h => nomatch hzs.trans h) fun h => nomatch hzs.trans h
      subst e
      cases hzs
      exact hQ t s' hE ⟨hd', o', ho', .inl ⟨2, Nat.le_trans (Nat.le_of_eq (Nat.add_comm _ _)) hz, hO', hr'⟩⟩
  nil := fun dp un l gd s Q E hd hu hk hlim hff hfo hR hQ => by
    obtain ⟨ox, od, hI⟩ := hR.at_
    have hfo' : ∀ f ∈ frs l, f ∉ [x, dx] ∧ f ∉ own := fun f hf => ⟨fun q => hfo f hf (by
      rcases List.mem_cons.mp q with rfl | q
      · exact .head _
      · rcases List.mem_cons.mp q with rfl | q
        · exact .tail _ (.head _)
        · cases q), fun q => hfo f hf (.tail _ (.tail _ q))⟩
    refine own_next (f := 64) (P.K.keeps hk) hI (by k_is) (by k_is) ?_
    obtain ⟨hod, o, hox, ⟨c, hc, hO, hr⟩ | ⟨hO, zs, hz, hzs, hr⟩⟩ := hR
    · exact isl_later I P hk hx hdx hxo hdxo hox hod hO (Nat.le_trans (Nat.le_add_right _ _) hc) hl hr (by omega) (by omega) (fun _ _ _ _ _ e => nomatch e) (fun _ => hff) (fun _ => hfo') fun _ e s' hE hT => ⟨hT, hQ s' hE⟩
    · exact isl_first I P hk hx hdx hxo hdxo hox hod hO hl hr (by omega) (by omega) (fun _ _ _ _ _ _ e => nomatch hzs.trans (congrArg List.tail e)) (fun _ => hff) (fun _ => hfo') fun _ e s' hE hT => ⟨hT, hQ s' hE⟩
  iter := fun dp un l gd xs s Q E hd hu hk hlim hR hQ => by
    obtain ⟨ox, od, hI⟩ := hR.at_
    refine own_iter (f := 57) (P.K.keeps hk) hI (by k_is) (by k_is) (by k_is) (isl_iter (P.keepAll hk) (by show dp < 1000; omega) fun h' tk kh => ⟨rfl, P.K.keeps (hk.trans kh), ?_, hQ _ (.of_keep kh) ?_⟩)
    all_goals
      have hR' : IslR x dx it R xs { s with heap := h', toks := tk } := by
        obtain ⟨hod, o, hox, h⟩ := hR
        have kk : ∀ zs, R zs s → R zs { s with heap := h', toks := tk } := fun zs hr => I.keeps _ _ _ hr (fun b _ o e => kh b o e) fun _ _ _ e => e
        refine ⟨kh _ _ hod, o, kh _ _ hox, ?_⟩
        rcases h with ⟨c, hc, hO, hr⟩ | ⟨hO, zs, hz, hzs, hr⟩
        · exact .inl ⟨c, hc, hO, kk _ hr⟩
        · exact .inr ⟨hO, zs, hz, hzs, kk _ hr⟩
    · exact hR'.at_
    · exact hR'
  typ := fun xs s A Q E hk hR hQ => by
    obtain ⟨ox, od, hI⟩ := hR.at_
    exact hI.type.here (hQ _ (by decide) (by decide))
  nolen := fun xs s A Q E hk hR hQ => by
    obtain ⟨ox, od, hI⟩ := hR.at_
    exact wpAny_bind (hI.type.here ((looks_findIn (P.K.keeps hk) (r := none) (by k_is)).here hQ))
  nohint := fun xs s A Q E hk hR hQ => by
    obtain ⟨ox, od, hI⟩ := hR.at_
    exact wpAny_bind (hI.type.here ((looks_findIn (P.K.keeps hk) (r := none) (by k_is)).here hQ))
  keeps := fun xs s s' hR hk hg => by
    obtain ⟨hod, o, hox, h⟩ := hR
    have kk : ∀ zs, R zs s → R zs s' := fun zs hr => I.keeps _ _ _ hr (fun b hb o e => hk b (.tail _ (.tail _ hb)) o e) hg
    refine ⟨hk _ (.tail _ (.head _)) _ hod, o, hk _ (.head _) _ hox, ?_⟩
    rcases h with ⟨c, hc, hO, hr⟩ | ⟨hO, zs, hz, hzs, hr⟩
    · exact .inl ⟨c, hc, hO, kk _ hr⟩
    · exact .inr ⟨hO, zs, hz, hzs, kk _ hr⟩
  there := fun xs s hR b hb => by
    obtain ⟨hod, o, hox, h⟩ := hR
    rcases List.mem_cons.mp hb with rfl | hb
    · exact ⟨_, hox⟩
    · rcases List.mem_cons.mp hb with rfl | hb
      · exact ⟨_, hod⟩
      · rcases h with ⟨c, hc, hO, hr⟩ | ⟨hO, zs, hz, hzs, hr⟩
        · exact I.there _ _ hr b hb
        · exact I.there _ _ hr b hb
  sub := fun b hb => by
    rcases hb with hb | hb
    · rcases List.mem_cons.mp hb with rfl | hb
      · exact .head _
      · rcases List.mem_cons.mp hb with rfl | hb
        · exact .tail _ (.head _)
        · cases hb
    · exact .tail _ (.tail _ (I.sub _ hb))
  itn := .head _
  off := fun b hb => by
    rcases List.mem_cons.mp hb with rfl | hb
    · exact hx
    · rcases List.mem_cons.mp hb with rfl | hb
      · exact hdx
      · exact I.off b hb
end
end Mine2
end
section
open PySem PySem.W PyProof.Rows Mine
set_option maxRecDepth 100000
set_option maxHeartbeats 8000000
namespace Mine2
variable {w : World} {mg mb : Str → Option Value} {dp un : Nat} {fr : Option (List Env)} {gd : Option (List Code)} {s : Shared} {Q : Value → Shared → Prop} {E : Value → Shared → Prop}
abbrev AncI (base : Heap) (L : Addr) (x : Str) (h : Heap) : Prop := ∃ m t, Fr base L h m ∧ m "path" = some (.str x t) ∧ x.length ≤ 1000
theorem Fr.named {h₀ h : Heap} {L : Addr} {m : Str → Option Value} {x : Str} {v : Value} (F : Fr h₀ L h m) (e : m x = some v) : Fr h₀ L h (fun y => if y = x then some v else m y) := by
  have : m = fun y => if y = x then some v else m y := by
    funext y
    by_cases q : y = x
    · rw [if_pos q, q]; exact e
    · rw [if_neg q]
  exact this ▸ F
theorem ancestry_new {x : Str} {t : Tok} {xs : List Str} {base : Heap} (P : PW w mg mb base) (hk0 : KeepAll base s.heap) (hsz0 : base.objs.size ≤ s.heap.objs.size) (hdp : dp < recursionLimit) (hx : x.length ≤ 1000) (hc : AncComes (bare x) xs)
   (hQ : ∀ a L s', Ext [] NoA NoG s s' → s.heap.get? a = none → s.heap.get? L = none → GenText prog w 500 5000 (KeepAll base) a s.gens.size L xs xs s' → Q (.ref a) s') : wpAny (model prog w) (Ar dp un fr gd) (PySem.call (.ref 147) [.str x t]) Q E s := by
  obtain ⟨KX, T⟩ := P
  have ho : s.heap.get? 147 = some _ := hk0 _ _ (KX 147 _ (by k_is))
  refine wpAny_call ?_
  refine' enterGen (base := base) hk0 hsz0 ?e1 ho ?e2 (T.nolimit.keeps hk0) ?e3 ?e4 ?e5 ?_ ?e7 ?e8 ?e9 ?e10
  case e2 => exact rfl
  case e1 => show dp < recursionLimit; omega
  case e3 => exact ⟨146, _, _, _, rfl, hk0 _ _ (KX 146 _ (by k_is)), rfl, rfl⟩
  case e4 => rfl
  case e5 => exact locs rfl
  case e7 => rfl
  case e8 => rfl
  case e9 => rfl
  case e10 => decide
  clear ho
  intro L a h₁ tk F kh hL ha haL hg
  obtain ⟨oL, _, _, hoL, _⟩ := id F.ns
  refine hQ a L _ ⟨fun b o _ _ e => kh b o e, fun b _ hb _ _ => absurd hb (by simp), fun g _ x e => ?_, ?_, fun hb => AllBare.push hb rfl, rfl⟩ ha hL
    ⟨hg, haL, ⟨[], rfl⟩, _, oL, Array.getElem?_push_size .., hoL, fun s'' hst hL'' => ⟨rfl, ?_⟩⟩
  · show (s.gens.push _)[g]? = _
    rw [Array.getElem?_push_lt (Array.getElem?_eq_some_iff.mp e).1, ← Array.getElem?_eq_getElem]; exact e
  · show s.gens.size ≤ (s.gens.push _).size
    rw [Array.size_push]; exact Nat.le_succ _
  have F' : Fr base L s''.heap (fun x_1 => List.lookup x_1 [(Str.ofString "path", Value.str x t)]) := ⟨F.ns.at' fun o e => by rw [hoL] at e; cases e; exact hL'', hst, F.above⟩
  clear F hoL hL'' hg kh
  have frm : ∀ {y : Str} {h h' : Heap}, KeepAll base h' → AncI base L y h → (∀ o, h.get? L = some o → h'.get? L = some o) → AncI base L y h' := by
    rintro y h h' hk ⟨m, t, G, hm, hy⟩ hl
    exact ⟨m, t, ⟨G.ns.at' hl, hk, G.above⟩, hm, hy⟩
  refine seg_funcL (D := 500) (U := 5001) (I := AncI base L) (more := moreOf) (next := splitHead) (x := bare x) rfl ?_ hc ?_ (Since.refl _ _)
  · refine { test := ?_, val := ?_, step := ?_, frame := fun y h h' => frm, there := ?_, plain := rfl, quiet := rfl }
    · rintro dp un fr gd y s1 Q E hd1 hu1 hst ⟨m, t', G, hm, hy⟩ hQ
      have F := Fr.named G hm
      have N : News base L s1.heap [] := News.nil
      k_steps
      rw [show ((↑(Txt.rstripChars y (Str.ofString "/")).length : Int) != 0) = moreOf y from by
        unfold moreOf bare
        generalize ((Txt.rstripChars y (Str.ofString "/")).length : Int) = z
        by_cases q : z = 0 <;> simp [q]]
      exact hQ _ _ (fun _ _ _ e => e) hst ⟨m, t', G, hm, hy⟩
    · rintro dp un fr gd y s1 Q E hd1 hu1 hst ⟨m, t', G, hm, hy⟩ hQ
      have F := Fr.named G hm
      have N : News base L s1.heap [] := News.nil
      k_steps
      exact hQ _ _ _ (fun _ _ _ e => e) hst ⟨m, t', G, hm, hy⟩
    · rintro dp un fr gd y s1 Q E hd1 hu1 hmore hst ⟨m, t', G, hm, hy⟩ hQ
      have F := Fr.named G hm
      have N := restOf_news base s1.heap L
      have KR := fun h' m' news F' N' hs => @keep_rest base s1.heap h' L _ m' news F F' N' hs
      k_steps
      refine split_spec (PW.keepAll ⟨KX, T⟩ hst) (by show dp + 2 < 1000; omega) hy fun D t1 t2 z h2 tk2 k2 hD hDn => ?_
      have F2 := Fr.keepAll F k2
      have N2 : News base L h2 ((D, { cls := .type "tuple", data := .seq #[.str (splitHead y) t1, .str z t2] }) :: restOf base s1.heap L) := by
        intro q hq
        rcases List.mem_cons.mp hq with rfl | hq
        · refine ⟨hD, ?_, hst.none_of hDn⟩
          rintro rfl
          obtain ⟨o, _, _, ho, _⟩ := F.ns
          rw [ho] at hDn; cases hDn
        · exact News.keepAll N k2 q hq
      k_steps
      rename Fr _ _ _ _ => F1
      rename News _ _ _ _ => N1
      refine hQ _ _ (KR _ _ _ F1 N1 fun q hq => .tail _ hq) F1.keep ⟨_, _, F1, rfl, Nat.le_trans (splitHead_len y) hy⟩
    · rintro y h ⟨m, t', G, _⟩
      obtain ⟨o, _, _, ho, _⟩ := G.ns
      exact ⟨o, ho⟩
  · intro dp un fr gd Q E hd1 hu1 hQ
    have N := restOf_news base s''.heap L
    have KR := fun h' m' news F₁ N' hs => @keep_rest base s''.heap h' L _ m' news F' F₁ N' hs
    k_steps
    rename Fr _ _ _ _ => F1
    rename News _ _ _ _ => N1
    exact hQ _ _ (KR _ _ _ F1 N1 fun _ h => h) F1.keep ⟨_, _, F1, rfl, by show (Txt.rstripChars x (Str.ofString "/")).length ≤ 1000; omega⟩
end Mine2
end
section
open PySem PySem.W PyProof.Rows Mine
set_option maxRecDepth 100000
set_option maxHeartbeats 8000000
namespace Mine2
section
variable {w : World} {mg mb : Str → Option Value} {dp un : Nat} {fr : Option (List Env)} {l : List Env} {gd : Option (List Code)} {s : Shared} {Q : Value → Shared → Prop} {E : Value → Shared → Prop}
  {W : Addr → Prop} {V : Nat → Prop} {own : List Addr} {R : List Str → Shared → Prop} {x dx it q S : Addr} {base : Heap} {o : Obj} {y : Str} {ys : List Str} {Sm : Str → Bool} {n : Nat}
abbrev ffObj (dx q it : Addr) : Obj := { cls := .ref 108, dict := some dx, slots := #[some (.ref q), some (.ref it)] }
theorem ff_next (I : InIt prog w it base W V own R) (P : PW w mg mb base) (hk : KeepAll base s.heap) (hx : base.get? x = none) (hdx : base.get? dx = none) (hxo : x ∉ own) (hdxo : dx ∉ own)
    (hox : s.heap.get? x = some (ffObj dx q it)) (hod : s.heap.get? dx = some (dictOf [] 0)) (hl : dx < x) (hq : base.get? q = some (boundSet S)) (hS : base.SetOf (strKind prog w) S Sm n)
    (hR : R ys s) (hdp : dp ≤ 450) (hu : un ≤ 4500)
    (hl' : ys.dropWhile Sm = [] → s.heap.FunFrames base l) (hff : ys.dropWhile Sm = [] → ∀ f ∈ frs l, f ∉ [x, dx] ∧ f ∉ own)
    (hQ : ∀ y r, ys.dropWhile Sm = y :: r → ∀ t s', Ext [] (fun b => b ∈ [x, dx] ∨ W b) V s s' → s'.heap.get? x = some (ffObj dx q it) → s'.heap.get? dx = some (dictOf [] 0) → R r s' → Q (.str y t) s')
    (hEx : ys.dropWhile Sm = [] → ∀ e s', Ext (frs l) (fun b => b ∈ [x, dx] ∨ W b) V s s' → s'.TypeIs (.ref e) "StopIteration" → E (.ref e) s') :
    wpAny (model prog w) (Ar dp un (some l) gd) (PySem.call (.ref 104) [.ref x]) Q E s := by
  have kb : KeepAll base (hide [x, dx] s.heap) := keep_hide hk fun a ha => by
    rcases List.mem_cons.mp ha with rfl | ha
    · exact hx
    · rcases List.mem_cons.mp ha with rfl | ha
      · exact hdx
      · cases ha
  obtain ⟨KX, T⟩ := P.keepAll kb
  have hown : ∀ b ∈ own, ∃ o, (hide [x, dx] s.heap).get? b = some o := fun b hb => by
    obtain ⟨o, ho⟩ := I.there _ _ hR b hb
    exact ⟨o, hide_some (by simp only [List.mem_cons, List.not_mem_nil, or_false, not_or]; exact ⟨fun q => hxo (q ▸ hb), fun q => hdxo (q ▸ hb)⟩) ho⟩
  have ho : s.heap.get? 104 = some _ := hk _ _ (P.K 104 _ (by k_is))
  refine wpAny_call ?_
  refine' enter (base := hide [x, dx] s.heap) (hide_keep _ _) (by rw [hide_size]; exact Nat.le_refl _) (Led.cons hox (hide_none (.head _)) (Led.cons hod (hide_none (.tail _ (.head _))) Led.nil)) ?e1 ho ?e2 (P.T.nolimit.keeps hk) ?e3 ?e4 ?e5 ?_ ?e7 ?e8 ?e9 ?e10
  case e2 => exact rfl
  case e1 => show dp < 1000; omega
  case e3 => exact ⟨103, _, _, _, rfl, hk _ _ (P.K 103 _ (by k_is)), rfl, rfl⟩
  case e4 => rfl
  case e5 => exact locs rfl
  case e7 => rfl
  case e8 => rfl
  case e9 => rfl
  case e10 => decide
  clear ho
  intro L h₁ tk F N l1 kh hL
  k_lt l1
  k_lt2 hl
  have hsL : s.heap.objs.size ≤ L := by
    have := F.above
    simp only [hide_size] at this
    exact this
  refine wpAny_execs_cons (wpAny_mono (Q := fun f s' => Box (f = .next ∧ ∃ h' tk m, s' = { s with heap := h', toks := tk } ∧ Fr (hide [x, dx] s.heap) L h' m ∧ m "self" = some (.ref x) ∧ m "func" = some (.ref q) ∧
    News (hide [x, dx] s.heap) L h' [(x, ffObj dx q it), (dx, dictOf [] 0)])) ?_ ?_ fun _ _ e => e)
  · k_steps
    rename Fr _ _ _ _ => F1
    rename News _ _ _ _ => N1
    exact ⟨⟨rfl, _, _, _, rfl, F1, rfl, rfl, N1⟩⟩
  rintro f s1 ⟨rfl, h1, tk1, m, rfl, F1, m1, m2, N1⟩
  dsimp only
  refine wpAny_execs_cons (whl_start 1 ?_)
  have hR0 : R ys { s with heap := h1, toks := tk1 } := I.keeps _ s _ hR (fun b hb o ho => F1.keep b o (hide_some (by simp only [List.mem_cons, List.not_mem_nil, or_false, not_or]; exact ⟨fun q => hxo (q ▸ hb), fun q => hdxo (q ▸ hb)⟩) ho)) fun _ _ _ e => e
  clear KX T F N
  refine' (fun (loop : ∀ (zs : List Str) (b : Heap) (s0 : Shared) (m : Str → Option Value), zs.dropWhile Sm = ys.dropWhile Sm → KeepAll base b → Fr b L s0.heap m → m "self" = some (.ref x) → m "func" = some (.ref q) →
    News b L s0.heap [(x, ffObj dx q it), (dx, dictOf [] 0)] → (∀ a ∈ own, ∃ o, b.get? a = some o) → R zs s0 → Holds [x, dx] W s.heap b → GExt V s.gens s0.gens s.os s0.os → WhlRest _ _ _ _ _ _ _ _ _ 1 s0) =>
    loop ys _ _ m rfl kb F1 m1 m2 N1 hown hR0 Holds.hide (GExt.refl _ _ _)) ?_
  clear hR0 N1 F1 m1 m2 m hown kb hR kh
  intro zs
  induction zs with
  | nil =>
    intro b s0 m hz kb F m1 m2 N hown hR H hg
    replace F := Fr.named (Fr.named F m2) (v := .ref x) (x := "self") ((if_neg (by decide)).trans m1)
    obtain ⟨KX, T⟩ := P.keepAll kb
    refine whl_turn (k := 0) (by passes_own) ?_
    k_steps
    rename Fr _ _ _ _ => F1
    rename News _ _ _ _ => N1
    have hkF := F1.keep
    have hR1 : ∀ tk, R [] { s0 with toks := tk } := fun tk => I.keeps _ s0 { s0 with toks := tk } hR (fun _ _ _ e => e) fun _ _ _ e => e
    refine I.next_nil (by show dp + 1 ≤ 500; omega) (by show un + 3 + 1 ≤ 5000; omega) (fun b o e => F1.keep b o (kb b o e)) (P.T.nolimit.keeps fun b o e => F1.keep b o (kb b o e)) (hR1 _) fun e s' h' hE hx' => ?_
    have hz' : ys.dropWhile Sm = [] := hz.symm
    have hl' := hl' hz'
    have hff := hff hz'
    have hg1 := Ext.g hE
    have hg' : GExt V s.gens s'.gens s.os s'.os := hg.trans hg1
    have hW : ∀ f ∈ frs l, f ∉ [x, dx] ∧ ¬ W f := fun f hf => ⟨(hff f hf).1, fun q => (hff f hf).2 (I.sub f q)⟩
    have H' : Holds [x, dx] W s.heap s'.heap := H.ext (s := { s0 with toks := s0.toks + 1 }) hkF hE
    have HF := ff_keep H' hl' hW
    have hlt := ff_lt hl' hsL
    have F2 := fr_zero (s := { s0 with toks := s0.toks + 1 }) F1 hE I.sub hown
    have hL' : ∀ f ∈ frs l, f ≠ L := fun f hf => Nat.ne_of_lt (hlt f hf)
    refine leaves_newU (base := hide (frs l) (hide [L] s'.heap)) (outer := l) rfl rfl (fun b o e => hide_keep _ _ b o (hide_keep _ _ b o e)) (Heap.FunFrames.cons (by show ScopeKind.function ≠ ScopeKind.module; decide) rfl F2.ns ((hide_keep _ _).none_of (hide_none (.head _)))
      (ff_of HF (fun b _ o e _ => ⟨o, e, rfl⟩) fun b hb => hide_none hb)) hx' fun a0 h5 hfly hup => ?_
    refine hEx hz' e _ (ext_raise (s' := s') (b3 := hide [L] s'.heap) H' hsL hl' hW (fun b o hb _ _ e => hide_some (by simp only [List.mem_cons, List.not_mem_nil, or_false]; exact Nat.ne_of_lt hb) e)
      (fun b hb o e => ⟨o.slots, hide_some (by simp only [List.mem_cons, List.not_mem_nil, or_false]; exact hL' b hb) e⟩) (fun b o e => hx'.keeps b o (hide_keep _ _ b o e)) hfly.1 hup hg') hfly.there
  | cons z zs ih =>
    intro b s0 m hz kb F m1 m2 N hown hR H hg
    replace F := Fr.named (Fr.named F m2) (v := .ref x) (x := "self") ((if_neg (by decide)).trans m1)
    obtain ⟨KX, T⟩ := P.keepAll kb
    refine whl_turn (k := 0) (by passes_own) ?_
    generalize hWP : WhlPost prog w _ _ _ _ _ _ _ 0 = WP
    k_steps
    rename Fr _ _ _ _ => F1
    rename News _ _ _ _ => N1
    have hkF := F1.keep
    have hR1 : ∀ tk, R (z :: zs) { s0 with toks := tk } := fun tk => I.keeps _ s0 { s0 with toks := tk } hR (fun _ _ _ e => e) fun _ _ _ e => e
    refine I.next_cons (by show dp + 1 ≤ 500; omega) (by show un + 3 + 1 ≤ 5000; omega) (fun b o e => F1.keep b o (kb b o e)) (P.T.nolimit.keeps fun b o e => F1.keep b o (kb b o e)) (hR1 _) fun t s' hE hR' => ?_
    have hg1 := Ext.g hE
    have hg' := hg.trans hg1
    have F2 := Fr.patch (s := { s0 with toks := s0.toks + 1 }) F1 hE I.sub hown (I.there _ _ hR')
    have N2 := News.patch (s := { s0 with toks := s0.toks + 1 }) N1 hE I.sub hown
    have kb2 := kb.patch (h := s'.heap) I.off
    obtain ⟨KX, T⟩ := P.keepAll kb2
    clear F1 N1
    have hkF' := hkF
    k_steps
    rename Fr _ _ _ _ => F3
    rename News _ _ _ _ => N3
    refine callWith_boundB (vs := #[.builtin "set.__contains__", .ref S]) ?_
    k_steps
    rename Fr _ _ _ _ => F4
    rename News _ _ _ _ => N4
    have keep4 : KeepAll base _ := fun b o e => F4.keep b o (kb2 b o e)
    refine ⟨keep4 _ _ hq, call_boundSet (keep4 _ _ hq) (setOf_keep hS keep4) ?_⟩
    cases hb : Sm z with
    | false =>
      k_steps
      rename Fr _ _ _ _ => F5
      rename News _ _ _ _ => N5
      subst hWP
      have hdw : ys.dropWhile Sm = z :: zs := by rw [← hz, List.dropWhile_cons, hb]; rfl
      exact hQ z zs hdw t _ (((H.turn (s := { s0 with toks := s0.toks + 1 }) hkF' hE).keep F5.keep).fin hg') (N5 _ (.head _)).1 (N5 _ (.tail _ (.head _))).1 (I.keeps _ _ _ hR' (patch_own F5.keep hown) fun _ _ _ e => e)
    | true =>
      k_steps
      rename Fr _ _ _ _ => F5
      rename News _ _ _ _ => N5
      subst hWP
      have hdw : zs.dropWhile Sm = ys.dropWhile Sm := by rw [← hz, List.dropWhile_cons, hb]; rfl
      refine ih (patch own b s'.heap) _ _ hdw kb2 F5 rfl rfl N5 (fun a ha => ?_) (I.keeps _ _ _ hR' (patch_own F5.keep hown) fun _ _ _ e => e) (H.turn (s := { s0 with toks := s0.toks + 1 }) hkF' hE) hg'
      obtain ⟨o1, ho1⟩ := hown a ha
      obtain ⟨o2, ho2⟩ := I.there _ _ hR' a ha
      exact ⟨o2, by rw [patch_on ha (Heap.lt_size ho1) (Heap.lt_size ho2)]; exact ho2⟩
end
end Mine2
end
section
open PySem PySem.W PyProof.Rows Mine
set_option maxRecDepth 100000
set_option maxHeartbeats 8000000
namespace Mine2
section
variable {w : World} {mg mb : Str → Option Value} {dp un : Nat} {fr : Option (List Env)} {gd : Option (List Code)} {s : Shared} {Q : Value → Shared → Prop} {E : Value → Shared → Prop}
  {W : Addr → Prop} {V : Nat → Prop} {own : List Addr} {R : List Str → Shared → Prop} {x dx it q S : Addr} {base : Heap} {o : Obj} {Sm : Str → Bool} {n : Nat}
theorem ff_iter (P : PW w mg mb s.heap) (hdp : dp < recursionLimit)
   (hQ : ∀ h' tk, KeepAll s.heap h' → Q (.ref x) { s with heap := h', toks := tk }) : wpAny (model prog w) (Ar dp un fr gd) (PySem.call (.ref 97) [.ref x]) Q E s := by
  obtain ⟨KX, T⟩ := P
  have ho : s.heap.get? 97 = some _ := KX 97 _ (by k_is)
  refine wpAny_call ?_
  refine' enter (base := s.heap) (fun _ _ e => e) (Nat.le_refl _) Led.nil ?e1 ho ?e2 T.nolimit ?e3 ?e4 ?e5 ?_ ?e7 ?e8 ?e9 ?e10
  case e2 => exact rfl
  case e1 => first | (show dp < recursionLimit; omega) | (show dp < 1000; omega)
  case e3 => exact ⟨96, _, _, _, rfl, KX 96 _ (by k_is), rfl, rfl⟩
  case e4 => rfl
  case e5 => exact locs rfl
  case e7 => rfl
  case e8 => rfl
  case e9 => rfl
  case e10 => decide
  clear ho
  intro L h₁ tk F N l1 kh hL
  k_steps
  rename Fr _ _ _ _ => F'
  exact hQ _ _ F'.keep
def FfR (w : World) (x dx q it S : Addr) (Sm : Str → Bool) (n : Nat) (R : List Str → Shared → Prop) (xs : List Str) (s : Shared) : Prop :=
  s.heap.get? dx = some (dictOf [] 0) ∧ s.heap.get? x = some (ffObj dx q it) ∧ s.heap.get? q = some (boundSet S) ∧ s.heap.SetOf (strKind prog w) S Sm n ∧ ∃ ys, xs = ys.filter (fun y => !Sm y) ∧ R ys s
theorem FfR.at_ {xs : List Str} (hR : FfR w x dx q it S Sm n R xs s) : ∃ ox od, InstAt s.heap x ox 108 od :=
  ⟨_, some _, hR.2.1, rfl, rfl, hR.1⟩
theorem drop_filter {Sm : Str → Bool} : ∀ {ys : List Str} {y : Str} {r : List Str}, ys.dropWhile Sm = y :: r → ys.filter (fun y => !Sm y) = y :: r.filter (fun y => !Sm y)
  | [], _, _, h => by simp at h
  | z :: zs, y, r, h => by
    rw [List.dropWhile_cons] at h
    cases hz : Sm z with
    | true => rw [hz] at h; rw [List.filter_cons, hz]; exact drop_filter h
    | false => rw [hz] at h; simp only [Bool.false_eq_true, if_false] at h; cases h; rw [List.filter_cons, hz]; rfl
theorem drop_filter_nil {Sm : Str → Bool} : ∀ {ys : List Str}, ys.dropWhile Sm = [] → ys.filter (fun y => !Sm y) = []
  | [], _ => rfl
  | z :: zs, h => by
    rw [List.dropWhile_cons] at h
    cases hz : Sm z with
    | true => rw [hz] at h; rw [List.filter_cons, hz]; exact drop_filter_nil h
    | false => rw [hz] at h; simp at h
theorem ownIt_ff (I : InIt prog w it base W V own R) (P : PW w mg mb base) (hx : base.get? x = none) (hdx : base.get? dx = none) (hxo : x ∉ own) (hdxo : dx ∉ own) (hl : dx < x)
    (hqn : base.get? q = none) (hSn : base.get? S = none) (hqo : q ∉ own) (hSo : S ∉ own) (h1 : x ≠ q) (h2 : x ≠ S) (h3 : dx ≠ q) (h4 : dx ≠ S) :
    OwnIt prog w x base (fun b => b ∈ [x, dx] ∨ W b) V (x :: dx :: q :: S :: own) (FfR w x dx q it S Sm n R) := by
  have nC : ∀ a ∈ [q, S], base.get? a = none := fun a ha => by
    rcases List.mem_cons.mp ha with rfl | ha
    · exact hqn
    · rcases List.mem_cons.mp ha with rfl | ha
      · exact hSn
      · cases ha
  have oC : ∀ b ∈ own, b ∉ [q, S] := fun b hb ha => by
    rcases List.mem_cons.mp ha with rfl | ha
    · exact hqo hb
    · rcases List.mem_cons.mp ha with rfl | ha
      · exact hSo hb
      · cases ha
  have xC : x ∉ [q, S] := fun ha => by
    rcases List.mem_cons.mp ha with z | ha
    · exact h1 z
    · rcases List.mem_cons.mp ha with z | ha
      · exact h2 z
      · cases ha
  have dC : dx ∉ [q, S] := fun ha => by
    rcases List.mem_cons.mp ha with z | ha
    · exact h3 z
    · rcases List.mem_cons.mp ha with z | ha
      · exact h4 z
      · cases ha
  have still : ∀ {s s' : Shared} {S'}, Ext S' (fun b => b ∈ [x, dx] ∨ W b) V s s' → (∀ b ∈ [q, S], b ∉ S') → s.heap.get? q = some (boundSet S) → s.heap.SetOf (strKind prog w) S Sm n →
      s'.heap.get? q = some (boundSet S) ∧ s'.heap.SetOf (strKind prog w) S Sm n := fun {s s' S'} hE hS' e1 e2 => by
    have ne : ∀ b ∈ [q, S], ¬ (b ∈ [x, dx] ∨ W b) := fun b hb z => by
      rcases z with z | z
      · rcases List.mem_cons.mp z with rfl | z
        · exact xC hb
        · rcases List.mem_cons.mp z with rfl | z
          · exact dC hb
          · cases z
      · exact oC b (I.sub b z) hb
    obtain ⟨o, es, ep, t, ho, rest⟩ := e2
    exact ⟨hE.heap q _ (hS' _ (.head _)) (ne _ (.head _)) e1, o, es, ep, t, hE.heap S _ (hS' _ (.tail _ (.head _))) (ne _ (.tail _ (.head _))) ho, rest⟩
  have mem4 : ∀ {b : Addr}, b ∈ x :: dx :: q :: S :: own → b = x ∨ b = dx ∨ b = q ∨ b = S ∨ b ∈ own := fun {b} hb => by simpa [List.mem_cons] using hb
  refine { cons := ?_, nil := ?_, iter := ?_, typ := ?_, nolen := ?_, nohint := ?_, keeps := ?_, there := ?_, sub := ?_, itn := .head _, off := ?_ }
  · intro dp un l gd y ys s Q E hd hu hk hlim hff hR hQ
    obtain ⟨ox, od, hI⟩ := hR.at_
    refine own_next (f := 104) (P.K.keeps hk) hI (by k_is) (by k_is) ?_
    obtain ⟨hod, hox, hq, hS, zs, hz, hr⟩ := hR
    have kbe := keep_overlay nC hk
    have obe : KeepAll (overlay [q, S] base s.heap) s.heap := overlay_keep hk
    have hdne : zs.dropWhile Sm ≠ [] := fun z => by rw [drop_filter_nil z] at hz; cases hz
    refine ff_next (l := l) (ys := zs) (n := n) (I.up kbe fun b hb => by rw [overlay_off (oC b hb) hk]; exact I.off b hb) (P.keepAll kbe) obe (by rw [overlay_off xC hk]; exact hx) (by rw [overlay_off dC hk]; exact hdx) hxo hdxo hox hod hl
      (by rw [overlay_on (.head _)]; exact hq) ?_ hr (by omega) (by omega) (fun z => absurd z hdne) (fun z => absurd z hdne) ?_ (fun z => absurd z hdne)
    · obtain ⟨o, es, ep, t, ho, rest⟩ := hS
      exact ⟨o, es, ep, t, by rw [overlay_on (.tail _ (.head _))]; exact ho, rest⟩
    · intro y' r hdw t s' hE hx' hd' hr'
      have e := drop_filter hdw
      rw [← hz] at e
      cases e
      obtain ⟨k1, k2⟩ := still hE (fun b _ h => nomatch h) hq hS
      exact hQ t s' hE ⟨hd', hx', k1, k2, r, rfl, hr'⟩
  · intro dp un l gd s Q E hd hu hk hlim hff hfo hR hQ
    obtain ⟨ox, od, hI⟩ := hR.at_
    refine own_next (f := 104) (P.K.keeps hk) hI (by k_is) (by k_is) ?_
    obtain ⟨hod, hox, hq, hS, zs, hz, hr⟩ := hR
    have kbe := keep_overlay nC hk
    have obe : KeepAll (overlay [q, S] base s.heap) s.heap := overlay_keep hk
    have hdn : zs.dropWhile Sm = [] := by
      cases hc : zs.dropWhile Sm with
      | nil => rfl
      | cons y r => rw [drop_filter hc] at hz; cases hz
    refine ff_next (l := l) (ys := zs) (n := n) (I.up kbe fun b hb => by rw [overlay_off (oC b hb) hk]; exact I.off b hb) (P.keepAll kbe) obe (by rw [overlay_off xC hk]; exact hx) (by rw [overlay_off dC hk]; exact hdx) hxo hdxo hox hod hl
      (by rw [overlay_on (.head _)]; exact hq) ?_ hr (by omega) (by omega) (fun _ => ff_of hff (fun b _ o e _ => ⟨o, e, rfl⟩) fun b hb => ?_) (fun _ f hf => ⟨fun z => hfo f hf ?_, fun z => hfo f hf (.tail _ (.tail _ (.tail _ (.tail _ z))))⟩) (fun y' r hdw => by rw [hdn] at hdw; cases hdw) fun _ e s' hE hT => ⟨hT, hQ s' hE⟩
    · obtain ⟨o, es, ep, t, ho, rest⟩ := hS
      exact ⟨o, es, ep, t, by rw [overlay_on (.tail _ (.head _))]; exact ho, rest⟩
    · have : b ∉ [q, S] := fun z => hfo b hb (by
        rcases List.mem_cons.mp z with rfl | z
        · exact .tail _ (.tail _ (.head _))
        · rcases List.mem_cons.mp z with rfl | z
          · exact .tail _ (.tail _ (.tail _ (.head _)))
          · cases z)
      rw [overlay_off this hk]; exact (hff.mem hb).1
    · rcases List.mem_cons.mp z with rfl | z
      · exact .head _
      · rcases List.mem_cons.mp z with rfl | z
        · exact .tail _ (.head _)
        · cases z
  · intro dp un l gd xs s Q E hd hu hk hlim hR hQ
    obtain ⟨ox, od, hI⟩ := hR.at_
    refine own_iter (f := 97) (P.K.keeps hk) hI (by k_is) (by k_is) (by k_is) (ff_iter (P.keepAll hk) (by show dp < 1000; omega) fun h' tk kh => ⟨rfl, P.K.keeps (hk.trans kh), ?_, hQ _ (.of_keep kh) ?_⟩)
    all_goals
      have hR' : FfR w x dx q it S Sm n R xs { s with heap := h', toks := tk } := by
        obtain ⟨hod, hox, hq, hS, zs, hz, hr⟩ := hR
        exact ⟨kh _ _ hod, kh _ _ hox, kh _ _ hq, setOf_keep hS kh, zs, hz, I.keeps _ _ _ hr (fun b _ o e => kh b o e) fun _ _ _ e => e⟩
    · exact hR'.at_
    · exact hR'
  · intro xs s A Q E hk hR hQ
    obtain ⟨ox, od, hI⟩ := hR.at_
    exact hI.type.here (hQ _ (by decide) (by decide))
  · intro xs s A Q E hk hR hQ
    obtain ⟨ox, od, hI⟩ := hR.at_
    exact wpAny_bind (hI.type.here ((looks_findIn (P.K.keeps hk) (r := none) (by k_is)).here hQ))
  · intro xs s A Q E hk hR hQ
    obtain ⟨ox, od, hI⟩ := hR.at_
    exact wpAny_bind (hI.type.here ((looks_findIn (P.K.keeps hk) (r := none) (by k_is)).here hQ))
  · intro xs s s' hR hk hg
    obtain ⟨hod, hox, hq, ⟨o, es, ep, t, ho, rest⟩, zs, hz, hr⟩ := hR
    exact ⟨hk _ (.tail _ (.head _)) _ hod, hk _ (.head _) _ hox, hk _ (.tail _ (.tail _ (.head _))) _ hq, ⟨o, es, ep, t, hk _ (.tail _ (.tail _ (.tail _ (.head _)))) _ ho, rest⟩, zs, hz,
      I.keeps _ _ _ hr (fun b hb o e => hk b (.tail _ (.tail _ (.tail _ (.tail _ hb)))) o e) hg⟩
  · intro xs s hR b hb
    obtain ⟨hod, hox, hq, ⟨o, es, ep, t, ho, rest⟩, zs, hz, hr⟩ := hR
    rcases mem4 hb with rfl | rfl | rfl | rfl | hb
    · exact ⟨_, hox⟩
    · exact ⟨_, hod⟩
    · exact ⟨_, hq⟩
    · exact ⟨_, ho⟩
    · exact I.there _ _ hr b hb
  · intro b hb
    rcases hb with hb | hb
    · rcases List.mem_cons.mp hb with rfl | hb
      · exact .head _
      · rcases List.mem_cons.mp hb with rfl | hb
        · exact .tail _ (.head _)
        · cases hb
    · exact .tail _ (.tail _ (.tail _ (.tail _ (I.sub _ hb))))
  · intro b hb
    rcases mem4 hb with rfl | rfl | rfl | rfl | hb
    · exact hx
    · exact hdx
    · exact hqn
    · exact hSn
    · exact I.off b hb
end
end Mine2
end
section
open PySem PySem.W PyProof.Rows Mine
set_option maxRecDepth 100000
set_option maxHeartbeats 8000000
namespace Mine2
section
variable {w : World} {mg mb : Str → Option Value} {dp un : Nat} {fr : Option (List Env)} {gd : Option (List Code)} {s : Shared} {Q : Value → Shared → Prop} {E : Value → Shared → Prop}
  {x dx it q S b : Addr} {base : Heap} {T : Addr → Obj → Prop}
def IterOf (w : World) (b : Addr) (h0 base : Heap) (T : Addr → Obj → Prop) : Prop :=
  ∀ dp un fr gd (s2 : Shared) (Q : Value → Shared → Prop) E, dp ≤ 500 → un ≤ 5000 → KeepAll h0 s2.heap →
    (∀ it oi h', KeepAll s2.heap h' → h'.get? it = some oi → (∃ vs, oi.data = .fields vs) → base.get? it = none → (s2.heap.get? it = none ∨ h0.get? it = some oi) → T it oi → Q (.ref it) { s2 with heap := h' }) →
    wpAny (model prog w) (Ar dp un fr gd) (pyIter (.ref b)) Q E s2
theorem ff_init {h0 : Heap} {R : Result → Shared → Prop} (P : PW w mg mb h0) (hk : KeepAll h0 s.heap)
    (hox : s.heap.get? x = some (instObj 108 dx)) (hod : s.heap.get? dx = some (dictOf [] 0)) (hx : h0.get? x = none) (hdx : h0.get? dx = none) (hl : dx < x) (hI : IterOf w b h0 base T) (hdp : dp + 2 < 500) (hu : un + 10 ≤ 5000)
    (hR : ∀ h' tk it oi, KeepAll h0 h' → h'.get? x = some (ffObj dx q it) → h'.get? dx = some (dictOf [] 0) → h'.get? it = some oi → base.get? it = none → (s.heap.get? it = none ∨ h0.get? it = some oi) → x ≠ it → dx ≠ it → T it oi → R (.ok (.ret .none)) { s with heap := h', toks := tk }) :
    codeAny (model prog w) (Ar dp un fr gd) (.call (.ref 90) ⟨[.ref x, .ref q, .ref b], []⟩) R s := by
  have k0 : KeepAll h0 (hide [x, dx] s.heap) := keep_hide hk fun a ha => by
    rcases List.mem_cons.mp ha with rfl | ha
    · exact hx
    · rcases List.mem_cons.mp ha with rfl | ha
      · exact hdx
      · cases ha
  obtain ⟨KX, T0⟩ := P.keepAll k0
  have ho : s.heap.get? 90 = some _ := hk _ _ (P.K 90 _ (by k_is))
  refine' enter (base := hide [x, dx] s.heap) (hide_keep _ _) (by rw [hide_size]; exact Nat.le_refl _) (Led.cons hox (hide_none (.head _)) (Led.cons hod (hide_none (.tail _ (.head _))) Led.nil)) ?e1 ho ?e2 (P.T.nolimit.keeps hk) ?e3 ?e4 ?e5 ?_ ?e7 ?e8 ?e9 ?e10
  case e2 => exact rfl
  case e1 => show dp < 1000; omega
  case e3 => exact ⟨89, _, _, _, rfl, hk _ _ (P.K 89 _ (by k_is)), rfl, rfl⟩
  case e4 => rfl
  case e5 => exact locs rfl
  case e7 => rfl
  case e8 => rfl
  case e9 => rfl
  case e10 => decide
  clear ho
  intro L h₁ tk F N l1 kh hL
  k_lt l1
  k_lt2 hl
  k_steps
  rename Fr _ _ _ _ => F0
  rename News _ _ _ _ => N0
  refine call_iter (hI _ _ _ _ _ _ _ (by show dp + 1 ≤ 500; omega) (by show un + 3 + 1 ≤ 5000; omega) (k0.trans F0.keep) fun it oi h' hk' hoi hf hbn hor hT => ?_)
  have hor' : s.heap.get? it = none ∨ h0.get? it = some oi := hor.imp (fun z => KeepAll.none_of kh z) fun z => z
  replace F0 := Fr.keepAll F0 hk'
  replace N0 := News.keepAll N0 hk'
  obtain ⟨vs, hvs⟩ := hf
  have n1 : x ≠ it := by
    rintro rfl
    have := (N0 _ (.head _)).1
    rw [hoi] at this; cases this; cases hvs
  have n2 : dx ≠ it := by
    rintro rfl
    have := (N0 _ (.tail _ (.head _))).1
    rw [hoi] at this; cases this; cases hvs
  have n3 : it ≠ L := by
    rintro rfl
    obtain ⟨o, es, ep, ho, hd, _⟩ := F0.ns
    rw [hoi] at ho; cases ho; rw [hvs] at hd; cases hd
  have m1 := neN n1
  have m2 := neN n2
  rcases hor with hor | hor
  · have N1 : News (hide [x, dx] s.heap) L h' [(x, _), (dx, _), (it, oi)] := List.forall_mem_cons.mpr ⟨N0 _ (.head _), List.forall_mem_cons.mpr ⟨N0 _ (.tail _ (.head _)), List.forall_mem_cons.mpr ⟨⟨hoi, n3, (hide_keep _ _).none_of (KeepAll.none_of kh hor)⟩, fun _ h => nomatch h⟩⟩⟩
    clear N0
    k_steps
    rename Fr _ _ _ _ => F1
    rename News _ _ _ _ => N2
    exact hR _ _ it oi (k0.trans F1.keep) (N2 _ (.head _)).1 (N2 _ (.tail _ (.head _))).1 (N2 _ (.tail _ (.tail _ (.head _)))).1 hbn hor' n1 n2 hT
  · k_steps
    rename Fr _ _ _ _ => F1
    rename News _ _ _ _ => N2
    exact hR _ _ it oi (k0.trans F1.keep) (N2 _ (.head _)).1 (N2 _ (.tail _ (.head _))).1 (F1.keep _ _ (k0 _ _ hor)) hbn hor' n1 n2 hT
theorem IterOf.up {h0 h1 : Heap} (hI : IterOf w b h0 base T) (k : KeepAll h0 h1) : IterOf w b h1 base T := fun dp un fr gd s2 Q E hd hu hk hQ =>
  hI dp un fr gd s2 Q E hd hu (k.trans hk) fun it oi h' k' e f bn hor t => hQ it oi h' k' e f bn (hor.imp (fun z => z) fun z => k _ _ z) t
theorem ff_new (P : PW w mg mb s.heap) (hI : IterOf w b s.heap base T) (hdp : dp + 3 < 500) (hu : un + 20 ≤ 5000)
    (hQ : ∀ x dx h' tk it oi, KeepAll s.heap h' → s.heap.get? x = none → s.heap.get? dx = none → dx < x → h'.get? x = some (ffObj dx q it) → h'.get? dx = some (dictOf [] 0) → h'.get? it = some oi → base.get? it = none → x ≠ it → dx ≠ it → T it oi →
      Q (.ref x) { s with heap := h', toks := tk }) :
    wpAny (model prog w) (Ar dp un fr gd) (PySem.call (.ref 108) [.ref q, .ref b]) Q E s := by
  refine wpAny_call (make_at (fI := 90) P.K (by k_is) (by k_is) (by k_is) fun x dx h' hk hdx hx h1 h2 hl hsz => ?_)
  refine ff_init (s := { s with heap := h' }) P hk h1 h2 hx hdx hl hI (by show dp + 1 + 2 < 500; omega) (by show un + 1 + 10 ≤ 5000; omega) fun h2 tk it oi hk2 ho hd2 hi hn _ m1 m2 hT => ?_
  exact ⟨rfl, hQ x dx h2 tk it oi hk2 hx hdx hl ho hd2 hi hn m1 m2 hT⟩
def SetFrom (w : World) (b : Addr) (h0 : Heap) (Sm : Str → Bool) : Prop :=
  ∀ (A : Around) (s2 : Shared) (Q : Value → Shared → Prop) E, A.handled = none → KeepAll h0 s2.heap → (∀ S h' tk n, h'.SetOf (strKind prog w) S Sm n → KeepAll s2.heap h' → s2.heap.get? S = none → Q (.ref S) { s2 with heap := h', toks := tk }) →
    wpAny (model prog w) A (PySem.call (.type "set") [.ref b]) Q E s2
theorem difference_spec {a : Addr} {Ti : Addr → Obj → Prop} {Sm : Str → Bool} (P : PW w mg mb s.heap) (hI : IterOf w a s.heap base Ti) (hS : SetFrom w b s.heap Sm) (hne : ∀ it oi, Ti it oi → oi.cls ≠ .type "builtin_function_or_method" ∧ oi.cls ≠ .type "set")
    (hdp : dp + 5 < 450) (hu : un + 30 ≤ 4500)
    (hQ : ∀ x dx q S n h' tk it oi, KeepAll s.heap h' → s.heap.get? x = none → s.heap.get? dx = none → s.heap.get? q = none → s.heap.get? S = none → dx < x → h'.get? x = some (ffObj dx q it) → h'.get? dx = some (dictOf [] 0) → h'.get? q = some (boundSet S) → h'.SetOf (strKind prog w) S Sm n →
      h'.get? it = some oi → base.get? it = none → x ≠ it → dx ≠ it → q ≠ it → S ≠ it → x ≠ q → x ≠ S → dx ≠ q → dx ≠ S → Ti it oi → Q (.ref x) { s with heap := h', toks := tk }) :
    wpAny (model prog w) (Ar dp un fr gd) (PySem.call (.ref 155) [.ref a, .ref b]) Q E s := by
  obtain ⟨KX, T⟩ := P
  have ho : s.heap.get? 155 = some _ := KX 155 _ (by k_is)
  refine wpAny_call ?_
  refine call_plain (by first | (show dp < recursionLimit; omega) | (show dp < 1000; omega)) ho rfl T.nolimit ?_ rfl ?_ ?_
  · exact ⟨154, _, _, _, rfl, KX 154 _ (by k_is), rfl, rfl⟩
  · exact locs rfl
  clear ho
  intro h₁ F
  have N : News s.heap s.heap.objs.size h₁ [] := News.nil
  k_steps
  rename Fr _ _ _ _ => F0
  refine hS _ _ _ _ rfl F0.keep fun S h1 tk1 n hSo hk1 hSn => ?_
  obtain ⟨oS, es, ep, tb, hoS, hex, hdS, hrest⟩ := id hSo
  have F1 := Fr.keepAll F0 hk1
  have N1 : News s.heap s.heap.objs.size h1 [(S, oS)] := by
    intro q hq
    rcases List.mem_cons.mp hq with rfl | hq
    · refine ⟨hoS, ?_, KeepAll.none_of F0.keep hSn⟩
      rintro rfl
      obtain ⟨o, _, _, ho, _⟩ := F0.ns
      have : _ = none := hSn
      rw [ho] at this; cases this
    · cases hq
  clear N F0
  k_steps
  refine getAttr_contains hoS hex hdS ?_
  dsimp only
  have kp : KeepAll h1 (h1.push (boundSet S)) := fun b o e => Heap.get?_push_of_some _ e
  have F2 := Fr.keepAll F1 kp
  have N2 : News s.heap s.heap.objs.size (h1.push (boundSet S)) [(h1.objs.size, boundSet S), (S, oS)] := by
    have hLt : s.heap.objs.size < h1.objs.size := F1.ns.lt
    refine List.forall_mem_cons.mpr ⟨⟨Heap.get?_push_size _ rfl, Nat.ne_of_gt hLt, get?_size_none _ (Nat.le_of_lt hLt)⟩, News.keepAll N1 kp⟩
  clear F1 N1
  k_steps
  have P2 : PW w mg mb (h1.push (boundSet S)) := PW.keepAll ⟨KX, T⟩ F2.keep
  have hq2 := (N2 _ (.head _)).1
  have hs2 := (N2 _ (.tail _ (.head _))).1
  refine ff_new P2 (hI.up F2.keep) (by show dp + 1 + 3 < 500; omega) (by show un + 3 + 20 ≤ 5000; omega) fun x dx h3 tk3 it oi k3 hxn hdxn hl hox hod hoi hbn m1 m2 hT => ?_
  have hq3 := k3 _ _ hq2
  have hs3 := k3 _ _ hs2
  have fresh : ∀ c o, (h1.push (boundSet S)).get? c = some o → ∀ d, (h1.push (boundSet S)).get? d = none → d ≠ c := fun c o e d e' z => by rw [z, e] at e'; cases e'
  refine hQ x dx h1.objs.size S n h3 tk3 it oi (KeepAll.trans F2.keep k3) (KeepAll.none_of F2.keep hxn) (KeepAll.none_of F2.keep hdxn) (N2 _ (.head _)).2.2 (N2 _ (.tail _ (.head _))).2.2 hl hox hod hq3 (setOf_keep hSo (kp.trans k3)) hoi hbn m1 m2 ?_ ?_ (fresh _ _ hq2 _ hxn) (fresh _ _ hs2 _ hxn) (fresh _ _ hq2 _ hdxn) (fresh _ _ hs2 _ hdxn) hT
  · intro z
    rw [← z, hq3] at hoi
    cases hoi
    exact (hne _ _ hT).1 rfl
  · intro z
    rw [← z, hs3] at hoi
    cases hoi
    exact (hne _ _ hT).2 hex.1
def Stands (w : World) (x : Addr) (base h0 : Heap) (g0 : Nat) (xs : List Str) (s' : Shared) : Prop :=
  ∃ W V own R, OwnIt prog w x base W V own R ∧ R xs s' ∧ (∀ g, V g → g0 ≤ g) ∧ ∀ b ∈ own, h0.get? b = none
theorem parents_spec {y : Str} {t : Tok} {xs : List Str} (PB : PW w mg mb base) (k0 : KeepAll base s.heap) (hsz0 : base.objs.size ≤ s.heap.objs.size) (hdp : dp + 5 < 450) (hu : un + 30 ≤ 4500) (hy : y.length ≤ 1000) (hc : AncComes (bare y) xs) (hn : xs.length ≤ 1000)
    (hQ : ∀ x s', Ext [] NoA NoG s s' → Stands w x base s.heap s.gens.size xs.tail s' → Q (.ref x) s') :
    wpAny (model prog w) (Ar dp un fr gd) (PySem.call (.ref 119) [.str y t]) Q E s := by
  have P0 := PB.keepAll k0
  obtain ⟨KX, T⟩ := id P0
  have ho : s.heap.get? 119 = some _ := KX 119 _ (by k_is)
  refine wpAny_call ?_
  refine call_plain (by first | (show dp < recursionLimit; omega) | (show dp < 1000; omega)) ho rfl T.nolimit ?_ rfl ?_ ?_
  · exact ⟨118, _, _, _, rfl, KX 118 _ (by k_is), rfl, rfl⟩
  · exact locs rfl
  clear ho
  intro h₁ F
  have N : News s.heap s.heap.objs.size h₁ [] := News.nil
  k_steps
  have hsz : base.objs.size ≤ h₁.objs.size := Nat.le_trans hsz0 (Nat.le_trans F.above (Nat.le_of_lt F.ns.lt))
  refine ancestry_new (base := base) PB (k0.trans F.keep) hsz (by show dp + 1 < 1000; omega) hy hc fun ag Lg s1 hE hag hLg hG => ?_
  have F1 := Fr.keepAll F hE.keepAll
  have N1 := News.keepAll N hE.keepAll
  have hkF := F.keep
  clear F N
  k_steps
  rename Fr _ _ _ _ => F2
  have hga := hG.1
  have hgL : ∃ o, s1.heap.get? Lg = some o := by
    obtain ⟨_, _, _, _, oL, _, h4, _⟩ := hG
    exact ⟨oL, h4⟩
  refine islice_new (s := { s1 with toks := s1.toks + 1 }) (PW.keepAll P0 F2.keep) hga (by show dp + 1 + 3 < 1000; omega) fun x dx o h' tk kh hx hdx hl hox hI hod => ?_
  have hag' : base.get? ag = none := k0.none_of (KeepAll.none_of hkF hag)
  have hLg' : base.get? Lg = none := k0.none_of (KeepAll.none_of hkF hLg)
  have hx' : base.get? x = none := k0.none_of (KeepAll.none_of F2.keep hx)
  have hdx' : base.get? dx = none := k0.none_of (KeepAll.none_of F2.keep hdx)
  have nm : ∀ {c : Addr}, s1.heap.get? c = none → c ∉ [ag, Lg] := fun {c} e z => by
    rcases List.mem_cons.mp z with rfl | z
    · obtain ⟨o, _, _, ho, _⟩ := hga
      rw [e] at ho; cases ho
    · rcases List.mem_cons.mp z with rfl | z
      · obtain ⟨o, ho⟩ := hgL
        rw [e] at ho; cases ho
      · cases z
  have I := inIt_gen (prog := prog) (w := w) (base := base) (g := s.gens.size) (xs0 := xs) (St := KeepAll base) (fun _ k => k) hag' hLg'
  have hE' : Ext [] NoA NoG s { s1 with heap := h', toks := tk } := by
    have e1 : Ext [] NoA NoG s1 { s1 with heap := h', toks := tk } := .of_keep kh
    exact ((Ext.of_keep (s := s) hkF).trans hE).trans e1
  refine hQ x _ hE' ⟨_, _, _, _, ownIt_isl I PB hx' hdx' (nm hx) (nm hdx) hl, ⟨hod, o, hox, .inr ⟨hI, xs, hn, rfl, ?_⟩⟩, fun g h => by rw [h]; exact Nat.le_refl _, fun b hb => ?_⟩
  · exact hG.keeps (kh _) (kh _) fun _ e => e
  · simp only [List.mem_cons, List.not_mem_nil, or_false] at hb
    rcases hb with rfl | rfl | rfl | rfl
    · exact KeepAll.none_of F2.keep hx
    · exact KeepAll.none_of F2.keep hdx
    · exact KeepAll.none_of hkF hag
    · exact KeepAll.none_of hkF hLg
end
end Mine2
end
section
open PySem PySem.W PyProof.Rows Mine
set_option maxRecDepth 100000
set_option maxHeartbeats 8000000
namespace Mine2
section
variable {w : World} {mg mb : Str → Option Value} {dp un : Nat} {fr : Option (List Env)} {gd : Option (List Code)} {s : Shared} {Q : Value → Shared → Prop} {E : Value → Shared → Prop}
  {b : Addr} {base : Heap}
theorem setFrom_list {b : Addr} {h0 : Heap} {items : Array Value} {xs : List Str} (hl : h0.IsList b items) (hi : StrsAre items.toList xs) (hb : xs.length + 1 < scanBound) : SetFrom w b h0 (fun k => xs.any (· == k)) := fun A s2 Q E hh hk hQ =>
  call_set_strs hh (isList_keep hl hk) hi hb fun h' tk n hS _ kh => hQ _ h' tk n hS kh (get?_size_none _ (Nat.le_refl _))
theorem difference_gen {a Lg g g0 : Nat} {xs0 ss : List Str} {Sm : Str → Bool} {h0 : Heap} (PB : PW w mg mb base) (k0 : KeepAll base s.heap) (hk0 : KeepAll h0 s.heap) (hG : GenText prog w 500 5000 (KeepAll base) a g Lg xs0 ss s)
    (ha : base.get? a = none) (hL : base.get? Lg = none) (ha0 : h0.get? a = none) (hL0 : h0.get? Lg = none) (hg0 : g0 ≤ g) (hS : SetFrom w b s.heap Sm)
    (hdp : dp + 5 < 450) (hu : un + 30 ≤ 4500)
    (hQ : ∀ x s', Ext [] NoA NoG s s' → Stands w x base h0 g0 (ss.filter fun y => !Sm y) s' → Q (.ref x) s') :
    wpAny (model prog w) (Ar dp un fr gd) (PySem.call (.ref 155) [.ref a, .ref b]) Q E s := by
  have P := PB.keepAll k0
  obtain ⟨⟨og, nm, qn, hog, hgc, hgd, hgs⟩, hne, hpre, gs, oL, hgs1, hoL, hgoes⟩ := id hG
  refine difference_spec (base := base) (Ti := fun it oi => it = a ∧ oi = og) P ?_ hS ?_ hdp hu ?_
  · intro dp un fr gd s2 Q E _ _ hk hQ
    refine wpAny_pyIter_gen (hG.1.keeps hk) ?_
    exact hQ a og s2.heap (fun c o e => e) (hk _ _ hog) ⟨_, hgd⟩ ha (.inr hog) ⟨rfl, rfl⟩
  · rintro it oi ⟨_, rfl⟩
    rw [hgc]
    exact ⟨by decide, by decide⟩
  · rintro x dx q S n h' tk it oi kh hx hdx hq hSn hlt hox hod hoq hoS hoi hbn m1 m2 m3 m4 m5 m6 m7 m8 ⟨rfl, rfl⟩
    have I := inIt_gen (prog := prog) (w := w) (base := base) (g := g) (xs0 := xs0) (St := KeepAll base) (fun _ k => k) ha hL
    have nL : ∀ {c : Addr}, s.heap.get? c = none → c ≠ Lg := fun e z => by rw [z, hoL] at e; cases e
    have nm' : ∀ {c : Addr}, c ≠ it → c ≠ Lg → c ∉ [it, Lg] := fun h h2 z => by
      rcases List.mem_cons.mp z with z | z
      · exact h z
      · exact h2 (List.mem_singleton.mp z)
    refine hQ x _ (.of_keep kh) ⟨_, _, _, _, ownIt_ff (Sm := Sm) (n := n) I PB (k0.none_of hx) (k0.none_of hdx) (nm' m1 (nL hx)) (nm' m2 (nL hdx)) hlt (k0.none_of hq) (k0.none_of hSn) (nm' m3 (nL hq)) (nm' m4 (nL hSn)) m5 m6 m7 m8, ⟨hod, hox, hoq, hoS, ss, rfl, hG.keeps (fun o e => kh _ _ e) (fun o e => kh _ _ e) fun _ e => e⟩, fun g' h => by rw [h]; exact hg0, fun b hb => ?_⟩
    simp only [List.mem_cons, List.not_mem_nil, or_false] at hb
    rcases hb with rfl | rfl | rfl | rfl | rfl | rfl
    · exact hk0.none_of hx
    · exact hk0.none_of hdx
    · exact hk0.none_of hq
    · exact hk0.none_of hSn
    · exact ha0
    · exact hL0
end
end Mine2
end
section
open PySem PySem.W PyProof.Rows PySem.Builtin PySem.Builtin.ObjectAttr
set_option maxRecDepth 100000
set_option maxHeartbeats 8000000
namespace Mine
theorem typeCall_dict_0 : checkTypeCall "dict" ⟨[], []⟩ = pure () := by kernel_rfl
theorem newCall_dict_0 : checkBuiltinCall "dict.__new__" ⟨[.type "dict"], []⟩ = pure () := by kernel_rfl
theorem args_dict_init_1' (a : Value) : argsOk "dict.__init__" ⟨[a], []⟩ := by unfold argsOk; kernel_rfl
theorem check_fromkeys (v : Value) : checkBoundCall "dict.fromkeys" ⟨[.type "dict", v], []⟩ = pure () := by kernel_rfl
theorem entry_fromkeys : entryFor table "dict.fromkeys" = some Builtin.«dict.fromkeys» := entryFor_of_tree (by kernel_rfl)
theorem entry_fromkeys_loop : entryFor table "dict.fromkeys.loop" = some Builtin.«dict.fromkeys.loop» := entryFor_of_tree (by kernel_rfl)
theorem plain_fromkeys_loop : plainId "dict.fromkeys.loop" = true := by decide +kernel
theorem sub_dict_dict : isSubtype (.type "dict") (.type "dict") = pure true := by rw [isSubtype_type]; kernel_rfl
abbrev dedupeObj : Obj := { cls := .type "builtin_function_or_method", data := .fields #[.builtin "dict.fromkeys", .type "dict"] }
section
variable {K : Type} [DecidableEq K]
def keyed (xs : List K) : List (K × Value) := xs.foldl (fun kvs x => stored kvs x .none) []
theorem keyed_take_succ (xs : List K) {i : Nat} (h : i < xs.length) : keyed (xs.take (i + 1)) = stored (keyed (xs.take i)) xs[i] .none := by
  unfold keyed
  rw [List.take_succ_eq_append_getElem h, List.foldl_append]; rfl
theorem keyed_len (xs : List K) : (keyed xs).length ≤ xs.length := by
  unfold keyed
  suffices ∀ acc : List (K × Value), (xs.foldl (fun kvs x => stored kvs x .none) acc).length ≤ acc.length + xs.length by simpa using this []
  induction xs with
  | nil => intro acc; simp
  | cons x xs ih =>
    intro acc
    rw [List.foldl_cons, List.length_cons]
    have := ih (stored acc x .none)
    have := stored_length_le acc x (.none : Value)
    omega
end
section
variable {prog : Program} {w : World} {K : Type} [DecidableEq K] {knd : KeyKind prog w K} {A : Around} {E : Value → Shared → Prop} {s : Shared}
theorem code_dict_new_0 {Q₁ : Value → Shared → Prop} (h : Q₁ (.ref s.heap.objs.size) { s with heap := s.heap.push { cls := .type "dict", data := .dict #[] } }) :
    codeAny (model prog w) A (.call (.builtin "dict.__new__") ⟨[.type "dict"], []⟩) (wants Q₁ E) s := by
  refine codeAny_call_builtin F.kt_plain_dict_new F.kt_entry_dict_new (wpAny_of_eq newCall_dict_0 ?_)
  have hsub := F.kt_sub_dict
  have hmro := F.kt_mro_dict
  obtain ⟨hp, g, d, tk, os⟩ := s
  unfold Builtin.«dict.__new__»
  wp_walk
  exact h
theorem call_dict_0 {Q : Value → Shared → Prop} (h : Q (.ref s.heap.objs.size) { s with heap := s.heap.push { cls := .type "dict", data := .dict #[] } }) :
    wpAny (model prog w) A (PySem.call (.type "dict") []) Q E s := by
  refine callType_codes (Q₁ := fun obj s₁ => obj = .ref s.heap.objs.size ∧ s₁ = { s with heap := s.heap.push { cls := .type "dict", data := .dict #[] } }) F.kt_called_dict typeCall_dict_0 F.entry_dict_init (code_dict_new_0 ⟨rfl, rfl⟩) ?_
  rintro obj s₁ ⟨rfl, rfl⟩
  have hnew : (s.heap.push { cls := .type "dict", data := .dict #[] }).DictOf (strKind prog w) s.heap.objs.size [] := Heap.DictOf.new s.heap
  refine ⟨hnew.typeIs, args_dict_init_1' _, ?_⟩
  unfold Builtin.«dict.__init__»
  refine wpAny_bind ?_
  unfold Builtin.Dict.selfAndRest
  refine wpAny_bind (wpAny_notOrdered_dict hnew.typeIs ?_)
  show wpAny _ _ (pure (s.heap.objs.size, [])) _ _ _
  refine wpAny_pure ?_
  show wpAny _ _ (Builtin.Dict.addKeywords s.heap.objs.size [] >>= _) _ _ _
  exact wpAny_bind (wpAny_pure (wpAny_pure ⟨rfl, h⟩))
theorem fromkeys_loop {R : Result → Shared → Prop} {I : Addr} {fp wr : List Addr} {G : Array GenState → Array GenState → Prop} {P : Nat → Value → Prop} {St : Nat → Shared → Prop} {xs : List K}
    (W : WalksS prog w A.in1 I fp wr G xs.length P St) (D : Addr) (hDf : D ∉ fp) (hval : ∀ i v, P i v → ∃ h : i < xs.length, knd.is xs[i] v = true) (hb : xs.length ≤ 1000) :
    ∀ (k i : Nat) (s : Shared), xs.length - i = k → i ≤ xs.length → St i s → s.heap.DictOf knd D (keyed (xs.take i)) →
      (∀ s', Moved (D :: wr) G s s' → s'.heap.DictOf knd D (keyed xs) → R (.ok (.ret (.ref D))) s') →
      codeAny (model prog w) A (.builtin "dict.fromkeys.loop" ⟨[.ref D, .ref I, .none], []⟩) R s := by
  have hDw : D ∉ wr := fun h => hDf (W.sub _ h)
  have hsub : ∀ b ∈ wr, b ∈ D :: wr := fun b hb => List.mem_cons_of_mem _ hb
  have still : ∀ {s s' : Shared} {kvs}, Moved wr G s s' → s.heap.DictOf knd D kvs → s'.heap.DictOf knd D kvs := fun hm ⟨o, es, ep, ho, rest⟩ => ⟨o, es, ep, hm.heap D _ hDw ho, rest⟩
  intro k
  induction k with
  | zero =>
    intro i s hk hi hst hD hR
    obtain rfl : i = xs.length := by omega
    refine codeAny_builtin entry_fromkeys_loop ?_
    rw [Around.under_plainId plain_fromkeys_loop _]
    show wpAny _ A.in1 (pyNext (.ref I) >>= _) _ _ s
    refine wpAny_bind (W.done s _ _ hst fun s' hm => ?_)
    show wpAny _ A.in1 (ret (.ref D)) _ _ s'
    rw [List.take_length] at hD
    exact wpAny_pure (hR s' (hm.mono hsub) (still hm hD))
  | succ k ih =>
    intro i s hk hi hst hD hR
    have hlt : i < xs.length := by omega
    refine codeAny_builtin entry_fromkeys_loop ?_
    rw [Around.under_plainId plain_fromkeys_loop _]
    show wpAny _ A.in1 (pyNext (.ref I) >>= _) _ _ s
    refine wpAny_bind (W.item i s _ _ hlt hst fun v s' hP hst' hm => ?_)
    obtain ⟨_, hv⟩ := hval i v hP
    have hD' := still hm hD
    show wpAny _ A.in1 (typeOf (.ref D) >>= _) _ _ s'
    refine wpAny_bind (wpAny_typeOf hD'.typeIs ?_)
    rw [if_pos (by decide)]
    refine wpAny_bind (wpAny_pure ?_)
    refine wpAny_bind (wpAny_holding ?_)
    have hsz : (keyed (xs.take i)).length ≤ sizeLine := Nat.le_trans (keyed_len _) (by rw [List.length_take, sizeLine_eq]; omega)
    refine wpAny_dictSet_pairs hv hD' (fun h' hd2 hsb => ?_) hsz
    rw [← keyed_take_succ xs hlt] at hd2
    refine wpAny_pure ⟨plainId_quiet plain_fromkeys_loop _, ih (i + 1) _ (by omega) hlt (W.frame _ s' _ _ hst' (Nat.le_succ _) fun b hb o e => ?_) hd2 fun s'' hm'' hS'' => ?_⟩
    · rw [hsb.2 b (fun h : b = D => hDf (by rw [← h]; exact hb))]; exact e
    · refine hR s'' (Moved.trans W.gtrans ((hm.mono hsub).then_heap (Nat.le_succ _) fun b o hb e => ?_) hm'') hS''
      rw [hsb.2 b (fun h : b = D => hb (by rw [h]; exact List.mem_cons_self))]; exact e
end
end Mine
end
section
open PySem PySem.W PyProof.Rows PySem.Builtin PySem.Builtin.ObjectAttr
set_option maxRecDepth 100000
set_option maxHeartbeats 8000000
namespace Mine
section
variable {prog : Program} {w : World} {K : Type} [DecidableEq K] {knd : KeyKind prog w K} {A : Around} {E : Value → Shared → Prop} {s : Shared}
theorem call_dedupe {q l : Addr} {items : Array Value} {xs : List K} {Q : Value → Shared → Prop} (hq : s.heap.get? q = some dedupeObj) (hh : A.handled = none) (hl : s.heap.IsList l items) (hlen : items.size = xs.length)
    (hval : ∀ i v, items[i]? = some v → ∃ h : i < xs.length, knd.is xs[i] v = true) (hb : xs.length ≤ 1000)
    (h : ∀ D h' tk, h'.DictOf knd D (keyed xs) → s.heap.get? D = none → KeepAll s.heap h' → (∀ b o, s.heap.get? b = some o → b < D) → Q (.ref D) { s with heap := h', toks := tk }) : wpAny (model prog w) A (PySem.call (.ref q) [.ref l]) Q E s := by
  obtain ⟨ol, hol, hcl, nl, hdl⟩ := id hl
  obtain ⟨hhp, g, dr, tk, os⟩ := s
  refine wpAny_call (codeAny_of_tree ?_)
  show wpAny _ _ (callAny (.ref q) _) _ _ _
  dsimp only at hq
  refine nd_load hq ?_
  refine wpAny_bind (wpAny_pure ?_)
  dsimp only
  rw [if_pos (by decide +kernel)]
  simp only [List.getElem?_toArray, List.getElem?_cons_zero, List.getElem?_cons_succ]
  rw [if_pos (by decide +kernel)]
  refine wpAny_bind (wpAny_of_eq (a := ()) (check_fromkeys _) ?_)
  refine wpAny_pure ⟨plainId_quiet (by decide +kernel) _, codeAny_builtin entry_fromkeys ?_⟩
  rw [Around.under_plainId (by decide +kernel) _]
  have h1 := sub_dict_dict
  unfold Builtin.«dict.fromkeys»
  refine wpAny_bind (wpAny_of_eq (a := true) rfl ?_)
  rw [if_neg (by decide)]
  refine wpAny_bind (wpAny_of_eq (a := true) h1 ?_)
  rw [if_neg (by decide)]
  rw [if_neg (show ¬ ((!(([] : List (Str × Value)).isEmpty)) = true) from by decide)]
  refine wpAny_bind (wpAny_rule (wpAny_bind (wpAny_pure ?_)))
  refine wpAny_bind (call_dict_0 ?_)
  refine wpAny_holding ?_
  have hol' : (hhp.push { cls := .type "dict", data := .dict #[] }).get? l = some ol := Heap.get?_push_of_some _ hol
  have hD0 : (hhp.push { cls := .type "dict", data := .dict #[] }).DictOf knd hhp.objs.size [] := Heap.DictOf.new hhp
  refine wpAny_bind (wpAny_typeOf (T := "list") ⟨ol, hol', hcl⟩ ?_)
  refine wpAny_bind (wpAny_typeOf (T := "dict") ⟨_, Heap.get?_push_size _ rfl, rfl⟩ ?_)
  rw [if_neg (by decide)]
  refine wpAny_bind (wpAny_typeOf (T := "dict") ⟨_, Heap.get?_push_size _ rfl, rfl⟩ ?_)
  rw [if_neg (by decide)]
  have hl1 : (hhp.push { cls := .type "dict", data := .dict #[] }).IsList l items := ⟨ol, hol', hcl, nl, hdl⟩
  have hlS : l < hhp.objs.size := Heap.lt_size hol
  have hneI : l ≠ (hhp.push { cls := .type "dict", data := .dict #[] }).objs.size := by
    rw [Heap.size_push]; exact Nat.ne_of_lt (Nat.lt_succ_of_lt hlS)
  refine wpAny_bind (wpAny_pyIter_list hl1 ?_)
  have W := (Walks.list (prog := prog) (w := w) (A := A.in1) (by simp [hh]) (hhp.push { cls := .type "dict", data := .dict #[] }).objs.size l hneI items).toS
  rw [hlen] at W
  have hSf : hhp.objs.size ∉ [(hhp.push { cls := .type "dict", data := .dict #[] }).objs.size, l] := by
    rw [Heap.size_push]; simp only [List.mem_cons, List.not_mem_nil, or_false, not_or]
    exact ⟨Nat.ne_of_lt (Nat.lt_succ_self _), Nat.ne_of_gt hlS⟩
  refine wpAny_pure ⟨plainId_quiet plain_fromkeys_loop _, fromkeys_loop W hhp.objs.size hSf hval hb (xs.length - 0) 0 _ (by omega) (Nat.zero_le _) ⟨⟨_, Heap.get?_push_size _ rfl, rfl, rfl⟩, (hl1.push _)⟩ (hD0.push _) fun s' hm hD => ?_⟩
  obtain ⟨h', g', d', tk', os'⟩ := s'
  have eg : g' = g := hm.gens
  have ed : d' = dr := hm.drawn
  have eo : os' = os := hm.os
  subst eg; subst ed; subst eo
  refine h hhp.objs.size h' tk' hD (get?_size_none _ (Nat.le_refl _)) (fun b o e => ?_) fun b o e => Heap.lt_size e
  have hlt := Heap.lt_size e
  refine hm.heap b o ?_ (Heap.get?_push_of_some _ (Heap.get?_push_of_some _ e))
  rw [Heap.size_push]
  simp only [List.mem_cons, List.not_mem_nil, or_false, not_or]
  exact ⟨Nat.ne_of_lt hlt, Nat.ne_of_lt (Nat.lt_succ_of_lt hlt)⟩
end
end Mine
end
section
open PySem PySem.W PyProof.Rows
set_option maxRecDepth 100000
set_option maxHeartbeats 8000000
namespace Mine
section
variable {prog : Program} {w : World} {base : Heap} {d it : Addr} {kvs : List (Str × Value)} {ep : Nat}
theorem str_key {prog : Program} {w : World} {k : Str} {v : Value} (h : (PySem.strKind prog w).is k v = true) : ∃ t, v = .str k t := Value.isStrOf_shape h
def DctR (d it : Addr) (kvs : List (Str × Value)) (ep : Nat) (xs : List Str) (s : Shared) : Prop := ∃ i, s.heap.IsKeyIter it d i kvs.length ep ∧ xs = (kvs.map (·.1)).drop i
theorem inIt_dict (hm0 : base.DictAt (PySem.strKind prog w) d kvs ep) (hit : base.get? it = none) :
    InIt prog w it base (· = it) (fun _ => False) [it] (DctR d it kvs ep) where
  look := fun xs s ⟨i, h, _⟩ => ⟨"dict_keyiterator", "dict_keyiterator.__next__", h.typeIs, PySem.F.slot_dict_keyiterator_next.lookup⟩
  cons := fun dp un fr gd y ys s Q E hd hu hk hlim hR hQ => by
    obtain ⟨i, hit', hxs⟩ := hR
    obtain ⟨o, ho, hc, hdt⟩ := id hit'
    obtain ⟨od, es, hod, hcd, hdd, hks, hp, hn⟩ := hm0.keep hk
    have hsz : es.size = kvs.length := by rw [← hp.length]; simp
    have hlt : i < kvs.length := by
      rcases Nat.lt_or_ge i kvs.length with h | h
      · exact h
      · rw [List.drop_of_length_le (by simpa using h)] at hxs; cases hxs
    have hlt' : i < es.size := by rw [hsz]; exact hlt
    rw [List.drop_eq_getElem_cons (by simpa using hlt)] at hxs
    injection hxs with hy hys
    rw [List.getElem_map] at hy
    have hkey := (hp.get? (i := i) (e := es[i]) (k := kvs[i].1) (v := kvs[i].2) (by simp [hlt']) (by simp [hlt])).1
    obtain ⟨t, ht⟩ := str_key hkey
    refine wpAny_callSpecial?_slot (name := Str.ofString "__next__") hit'.typeIs PySem.F.slot_dict_keyiterator_next (wpAny_call_entry PySem.F.slot_dict_keyiterator_next hit'.typeIs PySem.F.entry_dict_keyiterator_next ?_ (PySem.F.args_dict_keyiterator_next_1 _))
    refine wpAny_bind (wpAny_pure ?_)
    refine wpAny_bind ?_
    refine wpAny_bind ?_
    first | refine wpAny_bind (wpAny_typeNameOfWhole_keyiter hit'.typeIs (wpAny_pure ?_)) | refine wpAny_bind (wpAny_typeNameOf_keyiter hit'.typeIs (wpAny_pure ?_))
    refine wpAny_bind (wpAny_fieldsOf ho hdt ?_)
    have hown : Builtin.Dict_items.ownsTuple "dict_keyiterator" = false := by decide
    simp only [hown, Bool.false_eq_true, if_false]
    show wpAny _ _ (if (Value.ref d == Value.none) = true then _ else _) _ _ s
    rw [if_neg (show ¬ ((Value.ref d == Value.none) = true) from Bool.false_ne_true)]
    refine wpAny_bind (wpAny_pure ?_)
    refine wpAny_bind (wpAny_dictEntries hod hdd ?_)
    rw [if_neg (by rw [hsz]; simp)]
    refine wpAny_bind (wpAny_pure ?_)
    refine wpAny_bind (wpAny_dictEpoch hod hdd ?_)
    rw [if_neg (by simp)]
    refine wpAny_pure ?_
    simp only [show ¬ ((i : Int) < 0) from by omega, if_false, Int.toNat_natCast, Array.getElem?_eq_getElem hlt']
    refine wpAny_bind ?_
    first | refine wpAny_bind (wpAny_typeNameOfWhole_keyiter hit'.typeIs (wpAny_pure ?_)) | refine wpAny_bind (wpAny_typeNameOf_keyiter hit'.typeIs (wpAny_pure ?_))
    refine wpAny_bind (wpAny_isOneOf_keyiter hit'.typeIs ?_)
    show wpAny _ _ (setField (.ref it) 1 (rawInt ((i : Int) + 1)) >>= _) _ _ s
    refine wpAny_bind (wpAny_setField ho hdt (by simp) ?_)
    have hit2 : (s.heap.update it (Obj.mapFields (·.setIfInBounds 1 (rawInt ((i : Int) + 1))))).IsKeyIter it d (i + 1) kvs.length ep :=
      ⟨_, Heap.get?_update_self _ ho (Obj.isFreed_of_fields (Obj.data_mapFields hdt _)), (Obj.cls_mapFields ..).trans hc, by rw [Obj.data_mapFields hdt]; simp [rawInt]⟩
    refine wpAny_bind (wpAny_holding ?_)
    refine wpAny_bind (wpAny_isOneOf_keyiter (s := { s with heap := s.heap.update it (Obj.mapFields (·.setIfInBounds 1 (rawInt ((i : Int) + 1)))) }) hit2.typeIs ?_)
    show wpAny _ _ (pure es[i].key) _ _ _
    refine wpAny_pure (wpAny_pure ⟨_, rfl, ?_⟩)
    rw [ht, ← hy]
    refine hQ t _ (Ext.of_heap (s := s) (tk := s.toks) fun b o hw e => ?_) ⟨i + 1, hit2, hys⟩
    rw [Heap.get?_update_other _ _ (Ne.symm hw)]; exact e
  nil := fun dp un fr gd s Q E hd hu hk hlim hR hQ => by
    obtain ⟨i, hit', hxs⟩ := hR
    obtain ⟨o, ho, hc, hdt⟩ := id hit'
    obtain ⟨od, es, hod, hcd, hdd, hks, hp, hn⟩ := hm0.keep hk
    have hsz : es.size = kvs.length := by rw [← hp.length]; simp
    have hge : es.size ≤ i := by
      rw [hsz]
      rcases Nat.lt_or_ge i kvs.length with h | h
      · rw [List.drop_eq_getElem_cons (by simpa using h)] at hxs; cases hxs
      · exact h
    refine wpAny_callSpecial?_slot (name := Str.ofString "__next__") hit'.typeIs PySem.F.slot_dict_keyiterator_next (wpAny_call_entry PySem.F.slot_dict_keyiterator_next hit'.typeIs PySem.F.entry_dict_keyiterator_next ?_ (PySem.F.args_dict_keyiterator_next_1 _))
    refine wpAny_bind (wpAny_pure ?_)
    refine wpAny_bind ?_
    refine wpAny_bind ?_
    first | refine wpAny_bind (wpAny_typeNameOfWhole_keyiter hit'.typeIs (wpAny_pure ?_)) | refine wpAny_bind (wpAny_typeNameOf_keyiter hit'.typeIs (wpAny_pure ?_))
    refine wpAny_bind (wpAny_fieldsOf ho hdt ?_)
    have hown : Builtin.Dict_items.ownsTuple "dict_keyiterator" = false := by decide
    simp only [hown, Bool.false_eq_true, if_false]
    show wpAny _ _ (if (Value.ref d == Value.none) = true then _ else _) _ _ s
    rw [if_neg (show ¬ ((Value.ref d == Value.none) = true) from Bool.false_ne_true)]
    refine wpAny_bind (wpAny_pure ?_)
    refine wpAny_bind (wpAny_dictEntries hod hdd ?_)
    rw [if_neg (by rw [hsz]; simp)]
    refine wpAny_bind (wpAny_pure ?_)
    refine wpAny_bind (wpAny_dictEpoch hod hdd ?_)
    rw [if_neg (by simp)]
    refine wpAny_pure ?_
    simp only [show ¬ ((i : Int) < 0) from by omega, if_false, Int.toNat_natCast, Array.getElem?_eq_none hge]
    refine wpAny_bind ?_
    first | refine wpAny_bind (wpAny_typeNameOfWhole_keyiter hit'.typeIs (wpAny_pure ?_)) | refine wpAny_bind (wpAny_typeNameOf_keyiter hit'.typeIs (wpAny_pure ?_))
    show wpAny _ _ (setField (.ref it) 0 .none >>= _) _ _ s
    refine wpAny_bind (wpAny_setField ho hdt (by simp) ?_)
    show wpAny _ _ (newExc (.type "StopIteration") [] >>= _) _ _ _
    refine wpAny_bind ?_
    simp only [newExc, newTuple]
    refine wpAny_bind (wpAny_newObj_type ?_ (by size_fits))
    refine wpAny_bind (m := firstArgMember _ _) (wpAny_of_eq (a := Value.none) (by first | rfl | (simp only [firstArgMember]; rfl)) ?_)
    refine wpAny_newObj_type ?_ (by size_fits)
    simp only [raiseNew]
    refine wpAny_bind (wpAny_handled ?_)
    refine wpAny_bind (wpAny_pure (wpAny_throw ?_))
    refine hQ _ { s with heap := s.heap.update it (Obj.mapFields (·.setIfInBounds 0 .none)) } _ (Ext.of_heap (s := s) (tk := s.toks) fun b o hw e => ?_) ⟨fun b o e => Heap.get?_push_of_some _ (Heap.get?_push_of_some _ e), get?_size_none _ ?_, _, _, Heap.get?_push_size _ rfl, rfl, rfl⟩
    · rw [Heap.get?_update_other _ _ (Ne.symm hw)]; exact e
    · rw [Heap.size_push]; exact Nat.le_succ _
  keeps := fun xs s s' ⟨i, hit', hxs⟩ hk _ => ⟨i, hit'.at fun o e => hk it (.head _) _ e, hxs⟩
  there := fun xs s ⟨i, ⟨o, ho, _⟩, _⟩ b hb => by
    rcases List.mem_cons.mp hb with rfl | hb
    · exact ⟨o, ho⟩
    · cases hb
  sub := fun b hb => by rw [hb]; exact .head _
  itn := .head _
  off := fun b hb => by
    rcases List.mem_cons.mp hb with rfl | hb
    · exact hit
    · cases hb
end
end Mine
end
section
open PySem PySem.W PyProof.Rows Mine
set_option maxRecDepth 100000
set_option maxHeartbeats 8000000
namespace Mine2
section
variable {w : World} {mg mb : Str → Option Value} {dp un : Nat} {fr : Option (List Env)} {gd : Option (List Code)} {s : Shared} {Q : Value → Shared → Prop} {E : Value → Shared → Prop}
  {b : Addr} {base : Heap}
theorem difference_dict {d : Addr} {kvs : List (Str × Value)} {Sm : Str → Bool} (PB : PW w mg mb base) (k0 : KeepAll base s.heap) (hl : base.DictOf (PySem.strKind prog w) d kvs) (lo : (d == sysModules) = false) (hS : SetFrom w b s.heap Sm)
    (hdp : dp + 5 < 450) (hu : un + 30 ≤ 4500)
    (hQ : ∀ x s', Ext [] NoA NoG s s' → Stands w x base s.heap s.gens.size ((kvs.map (·.1)).filter fun y => !Sm y) s' → Q (.ref x) s') :
    wpAny (model prog w) (Ar dp un fr gd) (PySem.call (.ref 155) [.ref d, .ref b]) Q E s := by
  have P := PB.keepAll k0
  obtain ⟨ep, hat⟩ := hl.dictAt
  refine difference_spec (base := base) (Ti := fun it oi => oi.cls = .type "dict_keyiterator" ∧ oi.data = .fields #[.ref d, .int (0 : Nat) 0, .int kvs.length 0, .int ep 0] ∧ s.heap.get? it = none) P ?_ hS ?_ hdp hu ?_
  · intro dp un fr gd s2 Q E _ _ hk hQ
    refine wpAny_pyIter_dict lo (hat.keep (k0.trans hk)) ?_
    exact hQ _ _ _ (fun c o e => Heap.get?_push_of_some _ e) (Heap.get?_push_size _ rfl) ⟨_, rfl⟩ (KeepAll.none_of (k0.trans hk) (get?_size_none _ (Nat.le_refl _))) (.inl (get?_size_none _ (Nat.le_refl _))) ⟨rfl, rfl, KeepAll.none_of hk (get?_size_none _ (Nat.le_refl _))⟩
  · rintro it oi ⟨h1, _⟩
    rw [h1]
    exact ⟨by decide, by decide⟩
  · rintro x dx q S n h' tk it oi kh hx hdx hq hSn hlt hox hod hoq hoS hoi hbn m1 m2 m3 m4 m5 m6 m7 m8 ⟨t1, t2, t3⟩
    have I := inIt_dict (prog := prog) (w := w) (base := base) hat hbn
    have nm : ∀ {c : Addr}, c ≠ it → c ∉ [it] := fun h z => by
      rcases List.mem_cons.mp z with z | z
      · exact h z
      · cases z
    refine hQ x _ (.of_keep kh) ⟨_, _, _, _, ownIt_ff (Sm := Sm) (n := n) I PB (k0.none_of hx) (k0.none_of hdx) (nm m1) (nm m2) hlt (k0.none_of hq) (k0.none_of hSn) (nm m3) (nm m4) m5 m6 m7 m8, ⟨hod, hox, hoq, hoS, _, rfl, 0, ⟨oi, hoi, t1, t2⟩, rfl⟩, fun g h => h.elim, fun b hb => ?_⟩
    simp only [List.mem_cons, List.not_mem_nil, or_false] at hb
    rcases hb with rfl | rfl | rfl | rfl | rfl
    all_goals assumption
end
end Mine2
end
section
open PySem PySem.W PyProof.Rows PySem.SeqAt
set_option maxRecDepth 100000
set_option maxHeartbeats 4000000
namespace Mine
theorem reads_ints {h : Heap} {vs : List Value} {ns : List Int} (x : IntsAre vs ns) : ReadsAll h vs (ns.map .int) [] := by
  induction x with
  | nil => exact .nil
  | cons n t r ih => exact .cons (as := []) (.int n t) ih
theorem lay_ints : ∀ ns : List Int, PyData.canLayAll0 (ns.map .int) = true
  | [] => by simp [PyData.canLayAll0]
  | n :: ns => by
    have := lay_ints ns
    simp [PyData.canLayAll0, PyData.canLay0, this]
theorem depth_ints : ∀ ns : List Int, PyData.depthAll (ns.map .int) = 0
  | [] => by simp [PyData.depthAll]
  | n :: ns => by
    have := depth_ints ns
    simp [PyData.depthAll, PyData.depth, this]
section
variable {prog : Program} {w : World} {A : Around} {E : Value → Shared → Prop} {s : Shared} {Q : Value → Shared → Prop}
theorem eqAt_ints {a b : Addr} {x y : Array Value} {ns : List Int} (ha : s.heap.IsList a x) (hb : s.heap.IsList b y) (hx : IntsAre x.toList ns) (hy : IntsAre y.toList ns) (hu : A.units + 1 < cLine) : EqAt A s (.ref a) (.ref b) true := by
  obtain ⟨o, ho, hc, n, hd⟩ := ha
  obtain ⟨o', ho', hc', n', hd'⟩ := hb
  have hl : (PyData.list (ns.map .int)).canLay0 = true := by simp [PyData.canLay0, lay_ints]
  have := eqAt_reads (.list (ns.map .int)) (.list (ns.map .int)) A s (.ref a) (.ref b) _ _ (.list ho hc hd (reads_ints hx)) (.list ho' hc' hd' (reads_ints hy)) hl hl (by simp [PyData.depth, depth_ints]; exact hu)
  rw [eqv_refl _ hl] at this
  exact this
end
end Mine
end
section
open PySem PySem.W PyProof.Rows PySem.Builtin PySem.Builtin.ObjectAttr
set_option maxRecDepth 100000
set_option maxHeartbeats 8000000
namespace Mine
theorem any_dec (l : List Str) (k : Str) : l.any (· == k) = decide (k ∈ l) := by
  rw [Bool.eq_iff_iff]; simp
theorem metAt_mem (xs : List Str) (z : Str) : z ∈ metAt xs xs.length ↔ z ∈ xs := by
  have h := metAt_all xs z
  rw [any_dec, any_dec] at h
  have := Bool.eq_iff_iff.mp h
  simpa using this
theorem metAt_nodup (xs : List Str) : ∀ i, (metAt xs i).Nodup
  | 0 => by rw [metAt_zero]; exact List.nodup_nil
  | i + 1 => by
    rcases Nat.lt_or_ge i xs.length with h | h
    · rw [metAt_succ xs h]
      split
      · exact metAt_nodup xs i
      · rename_i q
        refine List.nodup_append.mpr ⟨metAt_nodup xs i, by simp, fun a ha b hb e => ?_⟩
        rw [List.mem_singleton.mp hb] at e
        subst e
        exact q (by simpa using ha)
    · have e : xs.take (i + 1) = xs.take i := by rw [List.take_of_length_le h, List.take_of_length_le (Nat.le_succ_of_le h)]
      have : metAt xs (i + 1) = metAt xs i := by unfold metAt; rw [e]
      rw [this]; exact metAt_nodup xs i
section
variable {prog : Program} {w : World} {A : Around} {E : Value → Shared → Prop} {s : Shared}
theorem call_set_D {l : Addr} {items : Array Value} {xs : List Str} {Q : Value → Shared → Prop} (hh : A.handled = none) (hl : s.heap.IsList l items) (hi : StrsAre items.toList xs) (hb : xs.length + 1 < scanBound)
    (h : ∀ h' tk l', SetD (PySem.strKind prog w) h' s.heap.objs.size l' → (∀ z, z ∈ l' ↔ z ∈ xs) → KeepAll s.heap h' → Q (.ref s.heap.objs.size) { s with heap := h', toks := tk }) :
    wpAny (model prog w) A (PySem.call (.type "set") [.ref l]) Q E s := by
  refine call_set_by fun led s₁ hs₁ => ?_
  obtain ⟨ol, hol, hcl, nl, hdl⟩ := hl
  obtain ⟨ocls, odict, odata, oslots⟩ := ol
  simp only at hcl hdl
  subst hcl; subst hdl
  have hS : (s.heap.push { cls := .type "set", dict := none, data := .set #[] 0 (.fresh 0 0 led) }).get? s.heap.objs.size = some { cls := .type "set", dict := none, data := .set #[] 0 (.fresh 0 0 led) } := Heap.get?_push_size _ rfl
  have hol' : (s.heap.push { cls := .type "set", dict := none, data := .set #[] 0 (.fresh 0 0 led) }).get? l = some { cls := .type "list", dict := odict, data := .seq items nl, slots := oslots } := Heap.get?_push_of_some _ hol
  have hsls := F.sub_list_set
  have hslf := F.sub_list_frozenset
  have hne : (Value.type "list" == Value.type "dict") = false := by decide
  have hl1 : (s.heap.push { cls := .type "set", dict := none, data := .set #[] 0 (.fresh 0 0 led) }).IsList l items := ⟨_, hol', rfl, nl, rfl⟩
  have hlen : items.size = xs.length := by rw [← StrsAre.len hi]; simp
  subst hs₁
  unfold Builtin.«set.__init__» noKeywords Builtin.Frozenset.updateFrom
  generalize hPI : pyIter = PI
  wp_walk
  subst hPI
  refine wpAny_pyIter_list hl1 ?_
  refine wpAny_bind (wpAny_runValue ?_)
  have hlS : l < s.heap.objs.size := Heap.lt_size hol
  have hneI : l ≠ (s.heap.push { cls := .type "set", dict := none, data := .set #[] 0 (.fresh 0 0 led) }).objs.size := by
    rw [Heap.size_push]; exact Nat.ne_of_lt (Nat.lt_succ_of_lt hlS)
  have hSf : s.heap.objs.size ∉ [(s.heap.push { cls := .type "set", dict := none, data := .set #[] 0 (.fresh 0 0 led) }).objs.size, l] := by
    rw [Heap.size_push]; simp only [List.mem_cons, List.not_mem_nil, or_false, not_or]
    exact ⟨Nat.ne_of_lt (Nat.lt_succ_self _), Nat.ne_of_gt hlS⟩
  have hval : ∀ (i : Nat) (v : Value), items[i]? = some v → ∃ t, ∃ h : i < xs.length, v = .str xs[i] t := fun i v hv =>
    StrsAre.at_ hi i v (by rw [Array.getElem?_toList]; exact hv)
  have W := (Walks.list (prog := prog) (w := w) (A := A.in1.in1.in1) (by simp [hh]) (s.heap.push { cls := .type "set", dict := none, data := .set #[] 0 (.fresh 0 0 led) }).objs.size l hneI items).toS
  rw [hlen] at W
  refine set_update_strs W s.heap.objs.size hSf hval hb (xs.length - 0) 0 _ (by omega) (Nat.zero_le _) ⟨⟨_, Heap.get?_push_size _ rfl, rfl, rfl⟩, (hl1.push _)⟩ ?hS0 ?hR
  case hS0 =>
    have hget : ((s.heap.push { cls := .type "set", dict := none, data := .set #[] 0 (.fresh 0 0 led) }).push { cls := .type "list_iterator", data := .fields #[.ref l, .int 0 0] }).get? s.heap.objs.size
        = some { cls := .type "set", dict := none, data := .set #[] 0 (.fresh 0 0 led) } := Heap.get?_push_of_some _ hS
    exact SetOf_congr ((setObjOf_fresh (knd := strKind prog w) led).setOf hget (by unfold scanBound; omega)) (fun _ => by rw [metAt_zero]; rfl) (by rw [metAt_zero]; rfl)
  case hR =>
    intro s' hm hS'
    obtain ⟨h', g', d', tk', os'⟩ := s'
    have eg : g' = s.gens := hm.gens
    have ed : d' = s.drawn := hm.drawn
    have eo : os' = s.os := hm.os
    subst eg; subst ed; subst eo
    show wpAny _ _ _ _ _ _
    refine wpAny_pure ?_
    show wpAny _ _ (ret Value.none) _ _ _
    refine wpAny_pure ⟨rfl, h h' tk' (metAt xs xs.length) ⟨metAt_nodup xs xs.length, SetOf_eqv hS' (fun k => any_dec _ k) rfl⟩ (metAt_mem xs) fun b o e => ?_⟩
    have hlt := Heap.lt_size e
    refine hm.heap b o ?_ (Heap.get?_push_of_some _ (Heap.get?_push_of_some _ e))
    rw [Heap.size_push]
    simp only [List.mem_cons, List.not_mem_nil, or_false, not_or]
    exact ⟨Nat.ne_of_lt hlt, Nat.ne_of_lt (Nat.lt_succ_of_lt hlt)⟩
end
end Mine
end
section
open PySem PySem.W PyProof.Rows PySem.SeqAt
set_option maxRecDepth 100000
set_option maxHeartbeats 4000000
namespace Mine
def EqW (prog : Program) (w : World) (A : Around) (s : Shared) (y x : Value) : Prop :=
  ∀ (E : Value → Shared → Prop) (Q : Bool → Shared → Prop), Q true s → wpAny (model prog w) A (eqBool y x) Q E s
section
variable {prog : Program} {w : World} {A : Around} {E : Value → Shared → Prop} {s : Shared}
theorem EqW.of_at {y x : Value} (h : EqAt A s y x true) : EqW prog w A s y x := fun E Q hq => h prog w E Q hq
theorem EqW.of_refs {l b : Addr} (hne : l ≠ b) (h : ∀ (E : Value → Shared → Prop) (Q : Value → Shared → Prop), Q (.bool true) s → wpAny (model prog w) A (richCompare .Eq (.ref l) (.ref b)) Q E s) : EqW prog w A s (.ref l) (.ref b) := fun E Q hq => by
  unfold eqBool
  refine wpAny_holding ?_
  refine wpAny_ite_split (fun hab => absurd (by have := eq_of_beq hab; injection this) hne) (fun _ => ?_)
  exact wpAny_bind (h E _ (wpAny_truthy_bool hq))
theorem tuple_eqW {l b : Addr} {items items2 : Array Value} {n n2 : Nat} {dd dd2 : Option Addr} {sl sl2 : Array (Option Value)} {Q : PySem.Fin → Shared → Prop}
    (hl : s.heap.get? l = some { cls := .type "tuple", dict := dd, data := .seq items n, slots := sl }) (hb : s.heap.get? b = some { cls := .type "tuple", dict := dd2, data := .seq items2 n2, slots := sl2 })
    (hsz : items.size = items2.size) (he : ∀ p ∈ items.toList.zip items2.toList, EqW prog w A s p.1 p.2) (h : Q (.done (.ret (.bool true))) s) :
    wpAny (model prog w) A (Builtin.«tuple.__eq__» ⟨[.ref l, .ref b], []⟩) Q E s := by
  obtain ⟨hp, g, d, tk, os⟩ := s
  have f2 := AutoSeq1.sub_tuple_tuple
  wp_walk using wpAny_loadPart' hl, wpAny_loadPart' hb, wpAny_forIn_list _ (fun rest b s' => b.1 = none ∧ s' = ⟨hp, g, d, tk, os⟩ ∧ ∀ p ∈ rest, EqW prog w A ⟨hp, g, d, tk, os⟩ p.1 p.2) _
  case turn =>
    rintro ⟨y, x⟩ rest b s' ⟨hb', rfl, hz⟩
    refine wpAny_bind (hz _ (.head _) _ _ ?_)
    wp_walk
    exact ⟨rfl, rfl, fun p hp => hz p (.tail _ hp)⟩
  case fin =>
    rintro ⟨b1, b2⟩ s' ⟨hb', rfl, hz⟩
    simp only at hb'
    subst hb'
    wp_walk
    simpa [Builtin.Tuple.tupleCompareSizes, hsz] using h
  case h =>
    exact ⟨rfl, rfl, he⟩
theorem eq_pair {Q : Value → Shared → Prop} {a b la sa lb sb : Addr} {x y : Array Value} {ns : List Int} {l m : List Str} (ha : s.heap.IsTuple a #[.ref la, .ref sa]) (hb : s.heap.IsTuple b #[.ref lb, .ref sb])
    (h1 : s.heap.IsList la x) (h2 : s.heap.IsList lb y) (hx : IntsAre x.toList ns) (hy : IntsAre y.toList ns) (hA : SetD (PySem.strKind prog w) s.heap sa l) (hB : SetD (PySem.strKind prog w) s.heap sb m) (hne : sa ≠ sb) (hl : l.length = m.length) (hsub : ∀ k ∈ l, k ∈ m) (hu : A.units + 9 < cLine)
    (h : Q (.bool true) s) : wpAny (model prog w) A (compareOp .Eq (.ref a) (.ref b)) Q E s := by
  obtain ⟨⟨cls, dd, data, sl⟩, ho, hc, n, hd⟩ := id ha
  obtain ⟨⟨cls2, dd2, data2, sl2⟩, ho2, hc2, n2, hd2⟩ := id hb
  simp only at hc hd hc2 hd2
  subst hc hd hc2 hd2
  refine wpAny_richCompare_same_room (op := .Eq) ⟨_, ho, rfl⟩ ⟨_, ho2, rfl⟩ F.slot_tuple_eq (wpAny_call_entry F.slot_tuple_eq ⟨_, ho, rfl⟩ F.entry_tuple_eq ?_ (F.args_tuple_eq_2 _ _)) (by omega)
  refine tuple_eqW ho ho2 rfl (fun p hp => ?_) ?_
  · rcases List.mem_cons.mp hp with rfl | hp
    · exact EqW.of_at (eqAt_ints h1 h2 hx hy (by show A.units + 1 + 1 < cLine; omega))
    · rcases List.mem_cons.mp hp with rfl | hp
      · exact EqW.of_refs hne fun E' Q' hq => eq_sets hA hB hl hsub (by show A.units + 1 < cLine; omega) hq
      · cases hp
  · exact ⟨_, rfl, fun e => by (cases e), h⟩
end
end Mine
end
section
open PySem PySem.W PyProof.Rows
set_option maxRecDepth 100000
set_option maxHeartbeats 8000000
namespace Mine
section
variable {prog : Program} {w : World} {dp un : Nat} {l : List Env} {gd : Option (List Code)} {base : Heap} {x : Addr} {W : Addr → Prop} {V : Nat → Prop} {own : List Addr} {R : List Str → Shared → Prop}
end
end Mine
end
section
open PySem PySem.W PyProof.Rows PyProof.V
set_option maxRecDepth 100000
set_option maxHeartbeats 8000000
set_option linter.unusedVariables false
namespace Mine
theorem stored_keys {K : Type} [DecidableEq K] (kvs : List (K × Value)) (k : K) (v : Value) : (stored kvs k v).map (·.1) = if k ∈ kvs.map (·.1) then kvs.map (·.1) else kvs.map (·.1) ++ [k] := by
  unfold stored
  by_cases h : k ∈ kvs.map (·.1)
  · have h' : (kvs.any fun kv => decide (kv.1 = k)) = true := by
      obtain ⟨kv, h1, h2⟩ := List.mem_map.mp h
      exact List.any_eq_true.mpr ⟨kv, h1, by simp [h2]⟩
    rw [if_pos h, if_pos h', List.map_map]
    refine List.map_congr_left fun kv _ => ?_
    simp only [Function.comp]
    split <;> rfl
  · have h' : ¬ (kvs.any fun kv => decide (kv.1 = k)) = true := fun q => by
      obtain ⟨kv, h1, h2⟩ := List.any_eq_true.mp q
      exact h (List.mem_map.mpr ⟨kv, h1, of_decide_eq_true h2⟩)
    rw [if_neg h, if_neg h']
    simp
theorem keyed_all {K : Type} [DecidableEq K] : ∀ (xs : List K) (acc : List (K × Value)), (acc.map (·.1)).Nodup →
    ((xs.foldl (fun kvs x => stored kvs x Value.none) acc).map (·.1)).Nodup ∧ ∀ k, k ∈ (xs.foldl (fun kvs x => stored kvs x Value.none) acc).map (·.1) ↔ k ∈ acc.map (·.1) ∨ k ∈ xs
  | [], acc, h => ⟨h, fun k => by simp⟩
  | x :: xs, acc, h => by
    rw [List.foldl_cons]
    have hk := stored_keys acc x Value.none
    have hn : ((stored acc x Value.none).map (·.1)).Nodup := by
      rw [hk]
      split
      · exact h
      · rename_i hx
        exact List.nodup_append.mpr ⟨h, by simp, fun a ha b hb e => by
          rw [List.mem_singleton] at hb
          exact hx (hb ▸ e ▸ ha)⟩
    obtain ⟨h1, h2⟩ := keyed_all xs _ hn
    refine ⟨h1, fun k => ?_⟩
    rw [h2 k, hk, List.mem_cons]
    by_cases hx : x ∈ acc.map (·.1)
    · rw [if_pos hx]
      constructor
      · rintro (h | h)
        · exact .inl h
        · exact .inr (.inr h)
      · rintro (h | rfl | h)
        · exact .inl h
        · exact .inl hx
        · exact .inr h
    · rw [if_neg hx, List.mem_append, List.mem_singleton]
      constructor
      · rintro ((h | h) | h)
        · exact .inl h
        · exact .inr (.inl h)
        · exact .inr (.inr h)
      · rintro (h | h | h)
        · exact .inl (.inl h)
        · exact .inl (.inr h)
        · exact .inr h
theorem keyed_mem {K : Type} [DecidableEq K] (xs : List K) (k : K) : k ∈ (keyed xs).map (·.1) ↔ k ∈ xs := by
  have := (keyed_all xs [] List.nodup_nil).2 k
  simpa [keyed] using this
theorem keyed_nodup {K : Type} [DecidableEq K] (xs : List K) : ((keyed xs).map (·.1)).Nodup := (keyed_all xs [] List.nodup_nil).1
section
variable {many b : Nat} {a : Nat → Nat} {row pl0 : List Nat}
end
end Mine
end
section
open PySem PySem.W PyProof.Rows PyProof.V
set_option maxRecDepth 100000
set_option maxHeartbeats 4000000
namespace Mine
def chainR : Bool → List Nat → List (List Nat)
  | _, [] => []
  | b, c :: r => if c = 47 then chainR true r else if b then (c :: r).reverse :: chainR false r else chainR false r
theorem chainR_le : ∀ (b : Bool) (r : List Nat), ∀ t ∈ chainR b r, t.length ≤ r.length
  | _, [], t, h => by cases h
  | b, c :: r, t, h => by
    unfold chainR at h
    split at h
    · exact Nat.le_succ_of_le (chainR_le _ _ t h)
    · split at h
      · rcases List.mem_cons.mp h with rfl | h
        · simp
        · exact Nat.le_succ_of_le (chainR_le _ _ t h)
      · exact Nat.le_succ_of_le (chainR_le _ _ t h)
theorem chainR_len : ∀ (b : Bool) (r : List Nat), (chainR b r).length ≤ r.length
  | _, [] => Nat.le_refl _
  | b, c :: r => by
    unfold chainR
    split
    · exact Nat.le_succ_of_le (chainR_len _ _)
    · split
      · exact Nat.succ_le_succ (chainR_len _ _)
      · exact Nat.le_succ_of_le (chainR_len _ _)
theorem chainR_nodup : ∀ (b : Bool) (r : List Nat), (chainR b r).Nodup
  | _, [] => List.nodup_nil
  | b, c :: r => by
    unfold chainR
    split
    · exact chainR_nodup _ _
    · split
      · refine List.nodup_cons.mpr ⟨fun h => ?_, chainR_nodup _ _⟩
        have := chainR_le _ _ _ h
        simp at this
        omega
      · exact chainR_nodup _ _
theorem chainR_up : ∀ (b : Bool) (r : List Nat) (p : List (List Nat)) (t : List Nat) (z : List (List Nat)), chainR b r = p ++ t :: z → z = (chainR true t.reverse).tail
  | _, [], p, t, z, h => by
    have := congrArg List.length h
    simp [chainR] at this
  | b, c :: r, p, t, z, h => by
    unfold chainR at h
    split at h
    · exact chainR_up _ _ p t z h
    · rename_i hc
      split at h
      · cases p with
        | nil =>
          injection h with h1 h2
          rw [← h1, List.reverse_reverse]
          unfold chainR
          rw [if_neg hc, if_pos rfl]
          exact h2.symm
        | cons a p =>
          injection h with h1 h2
          exact chainR_up _ _ p t z h2
      · exact chainR_up _ _ p t z h
theorem chainR_mem : ∀ (b : Bool) (r : List Nat) (t : List Nat), t ∈ chainR b r ↔ ∃ p c q, r = p ++ c :: q ∧ c ≠ 47 ∧ t = (c :: q).reverse ∧ ((p = [] ∧ b = true) ∨ ∃ p', p = p' ++ [47])
  | b, [], t => by
    constructor
    · intro h; cases h
    · rintro ⟨p, c, q, h, _⟩
      have := congrArg List.length h
      simp at this
  | b, d :: r, t => by
    unfold chainR
    by_cases hd : d = 47
    · rw [if_pos hd, chainR_mem true r t]
      constructor
      · rintro ⟨p, c, q, rfl, hc, ht, h⟩
        refine ⟨d :: p, c, q, rfl, hc, ht, .inr ?_⟩
        rcases h with ⟨rfl, _⟩ | ⟨p', rfl⟩
        · exact ⟨[], by rw [hd]; rfl⟩
        · exact ⟨d :: p', rfl⟩
      · rintro ⟨p, c, q, e, hc, ht, h⟩
        cases p with
        | nil => injection e with e1 e2; exact absurd (e1.symm.trans hd) hc
        | cons x p =>
          injection e with e1 e2
          refine ⟨p, c, q, e2, hc, ht, ?_⟩
          rcases h with ⟨h, _⟩ | ⟨p', h⟩
          · cases h
          · cases p' with
            | nil => injection h with _ h; exact .inl ⟨h, rfl⟩
            | cons x p' => injection h with _ h; exact .inr ⟨p', h⟩
    · rw [if_neg hd]
      have key : t ∈ chainR false r ↔ ∃ p c q, r = p ++ c :: q ∧ c ≠ 47 ∧ t = (c :: q).reverse ∧ ((d :: p = [] ∧ b = true) ∨ ∃ p', d :: p = p' ++ [47]) := by
        rw [chainR_mem false r t]
        constructor
        · rintro ⟨p, c, q, e, hc, ht, h⟩
          refine ⟨p, c, q, e, hc, ht, .inr ?_⟩
          rcases h with ⟨_, h⟩ | ⟨p', rfl⟩
          · cases h
          · exact ⟨d :: p', rfl⟩
        · rintro ⟨p, c, q, e, hc, ht, h⟩
          refine ⟨p, c, q, e, hc, ht, .inr ?_⟩
          rcases h with ⟨h, _⟩ | ⟨p', h⟩
          · cases h
          · cases p' with
            | nil => injection h with h _; exact absurd h hd
            | cons x p' => injection h with _ h; exact ⟨p', h⟩
      have split_ : (∃ p c q, d :: r = p ++ c :: q ∧ c ≠ 47 ∧ t = (c :: q).reverse ∧ ((p = [] ∧ b = true) ∨ ∃ p', p = p' ++ [47])) ↔ (b = true ∧ t = (d :: r).reverse) ∨ ∃ p c q, r = p ++ c :: q ∧ c ≠ 47 ∧ t = (c :: q).reverse ∧ ((d :: p = [] ∧ b = true) ∨ ∃ p', d :: p = p' ++ [47]) := by
        constructor
        · rintro ⟨p, c, q, e, hc, ht, h⟩
          cases p with
          | nil =>
            injection e with e1 e2
            subst e1; subst e2
            rcases h with ⟨_, h⟩ | ⟨p', h⟩
            · exact .inl ⟨h, ht⟩
            · have := congrArg List.length h; simp at this
          | cons x p =>
            injection e with e1 e2
            subst e1
            exact .inr ⟨p, c, q, e2, hc, ht, h⟩
        · rintro (⟨hb, ht⟩ | ⟨p, c, q, e, hc, ht, h⟩)
          · exact ⟨[], d, r, rfl, hd, ht, .inl ⟨rfl, hb⟩⟩
          · exact ⟨d :: p, c, q, by rw [e]; rfl, hc, ht, h⟩
      rw [split_, ← key]
      cases b with
      | true => rw [if_pos rfl, List.mem_cons]; simp
      | false => simp
theorem cutR_rev_slash (r : List Nat) : cutR (· == 47) (47 :: r).reverse = cutR (· == 47) r.reverse := by
  rw [List.reverse_cons]
  exact cutR_app_all (b := [47]) fun c h => by rw [List.mem_singleton.mp h]; rfl
theorem cutR_rev_other {c : Nat} (hc : c ≠ 47) (r : List Nat) : cutR (· == 47) (c :: r).reverse = (c :: r).reverse := by
  rw [List.reverse_cons]
  exact cutR_last (by simpa using hc)
theorem chainR_false : ∀ r : List Nat, (47 ∉ r ∧ chainR false r = []) ∨ ∃ d q, r = d ++ 47 :: q ∧ 47 ∉ d ∧ chainR false r = chainR true q
  | [] => .inl ⟨by simp, rfl⟩
  | c :: r => by
    by_cases hc : c = 47
    · subst hc
      exact .inr ⟨[], r, rfl, by simp, by rw [chainR, if_pos rfl]⟩
    · have e : chainR false (c :: r) = chainR false r := by rw [chainR, if_neg hc]; rfl
      rcases chainR_false r with ⟨h1, h2⟩ | ⟨d, q, h1, h2, h3⟩
      · exact .inl ⟨by simp; exact ⟨fun h => hc h.symm, h1⟩, e.trans h2⟩
      · exact .inr ⟨c :: d, q, by rw [h1]; rfl, by simp; exact ⟨fun h => hc h.symm, h2⟩, e.trans h3⟩
theorem more_cut_nil {l : List Nat} (h : cutR (· == 47) l = []) : moreOf (S l) = false := by rw [moreOf_S, h]; rfl
theorem splitHead_none {l : List Nat} (h : 47 ∉ l) : splitHead (S l) = S [] := by
  have e : Txt.slice (S l) none (some (Txt.rfind (S l) (Str.ofString "/") + 1)) = S [] := by
    rw [of_slash, rfind_none h, show (-1 : Int) + 1 = ((0 : Nat) : Int) by rfl, slice_to _ (Nat.zero_le _)]
    simp
  unfold splitHead
  dsimp only
  rw [e, if_neg]
  rintro ⟨h, _⟩
  exact h rfl
theorem splitHead_at {u d : List Nat} (h : 47 ∉ d) : splitHead (S (u ++ 47 :: d)) = if u ++ [47] = List.replicate (u.length + 1) 47 then S (u ++ [47]) else S (cutR (· == 47) (u ++ [47])) := by
  have e : Txt.slice (S (u ++ 47 :: d)) none (some (Txt.rfind (S (u ++ 47 :: d)) (Str.ofString "/") + 1)) = S (u ++ [47]) := by
    rw [of_slash, rfind_at h, show ((u.length : Int) + 1) = ((u.length + 1 : Nat) : Int) by omega, slice_to _ (by simp)]
    congr 1
    rw [show u ++ 47 :: d = (u ++ [47]) ++ d by simp, List.take_left' (by simp)]
  unfold splitHead
  dsimp only
  rw [e]
  by_cases q : u ++ [47] = List.replicate (u.length + 1) 47
  · rw [if_pos q, if_neg]
    rintro ⟨_, h2⟩
    have hl : (u ++ [47]).length = u.length + 1 := by simp
    rw [of_slash, S_len, mul_S, hl, ← q] at h2
    simp at h2
  · rw [if_neg q, if_pos, ← bare_S]
    · rfl
    · refine ⟨by rw [S_len]; simp; omega, ?_⟩
      rw [of_slash, S_len, mul_S, bne_iff_ne]
      intro h2
      apply q
      have := S_inj h2
      rw [this]; simp
theorem chain_slashes : ∀ (n : Nat) (r : List Nat), r = List.replicate n 47 → chainR true r = []
  | 0, _, h => by rw [h]; rfl
  | n + 1, _, h => by rw [h, List.replicate_succ, chainR, if_pos rfl]; exact chain_slashes n _ rfl
theorem chain_comes : ∀ (n : Nat) (r : List Nat), r.length ≤ n → AncComes (S (cutR (· == 47) r.reverse)) ((chainR true r).map S)
  | _, [], _ => .nil rfl
  | 0, _ :: _, h => by cases h
  | n + 1, c :: r, h => by
    have h' : r.length ≤ n := Nat.le_of_succ_le_succ h
    by_cases hc : c = 47
    · subst hc
      rw [cutR_rev_slash, chainR, if_pos rfl]
      exact chain_comes n r h'
    · rw [cutR_rev_other hc, chainR, if_neg hc, if_pos rfl, List.map_cons]
      refine .cons ?_ ?_
      · rw [moreOf_S, cutR_rev_other hc]; simp
      · rcases chainR_false r with ⟨h1, h2⟩ | ⟨d, q, h1, h2, h3⟩
        · rw [h2, splitHead_none (by simp; exact ⟨h1, fun h => hc h.symm⟩)]
          exact .nil rfl
        · have hq : q.length ≤ n := by rw [h1] at h'; simp at h'; omega
          have e : (c :: r).reverse = q.reverse ++ 47 :: (c :: d).reverse := by rw [h1]; simp
          rw [e, splitHead_at (by simp; exact ⟨h2, fun h => hc h.symm⟩), h3]
          have ih := chain_comes n q hq
          have e2 : cutR (· == 47) (q.reverse ++ [47]) = cutR (· == 47) q.reverse := by rw [← List.reverse_cons]; exact cutR_rev_slash q
          split
          · rename_i hs
            have e3 : cutR (· == 47) (q.reverse ++ [47]) = [] := by
              rw [hs]
              exact cutR_all fun c h => by rw [(List.mem_replicate.mp h).2]; rfl
            have : chainR true q = [] := by
              refine chain_slashes q.length q ?_
              rw [List.replicate_succ'] at hs
              have := congrArg List.reverse (List.append_cancel_right hs)
              rw [List.reverse_reverse] at this
              rw [this]; simp
            rw [this]
            exact .nil (more_cut_nil e3)
          · rw [e2]; exact ih
def anc (y : Str) : List Str := (chainR true y.cps.toList.reverse).map S
theorem anc_comes (y : Str) : AncComes (bare y) (anc y) := by
  have := chain_comes _ y.cps.toList.reverse (Nat.le_refl _)
  rw [List.reverse_reverse, ← bare_S, ← S_of] at this
  exact this
theorem anc_nodup (y : Str) : (anc y).Nodup := by
  unfold anc
  refine List.Pairwise.map S (fun a b h e => h (S_inj e)) (chainR_nodup _ _)
theorem anc_len (y : Str) : (anc y).length ≤ y.length := by
  have := chainR_len true y.cps.toList.reverse
  rw [anc, List.length_map]
  simpa [Str.length] using this
theorem anc_up (y : Str) (p : List Str) (x : Str) (r : List Str) (h : anc y = p ++ x :: r) : r = (anc x).tail := by
  unfold anc at h
  obtain ⟨p', z', h1, h2, h3⟩ := List.map_eq_append_iff.mp h
  obtain ⟨t, z, h4, h5, h6⟩ := List.map_eq_cons_iff.mp h3
  have := chainR_up _ _ p' t z (h1.trans (by rw [h4]))
  rw [← h6, ← h5, this, anc]
  simp
theorem anc_tree (ys : List Str) : Tree (ys.map anc) (fun x => (anc x).tail) where
  nodup a ha := by obtain ⟨y, _, rfl⟩ := List.mem_map.mp ha; exact anc_nodup y
  up a ha p x r e := by obtain ⟨y, _, rfl⟩ := List.mem_map.mp ha; exact anc_up y p x r e
theorem anc_mem (y : Str) (z : Str) : z ∈ anc y ↔ ∃ p c q, y.cps.toList = p ++ c :: q ∧ c ≠ 47 ∧ z = S (p ++ [c]) ∧ (q = [] ∨ ∃ q', q = 47 :: q') := by
  unfold anc
  rw [List.mem_map]
  constructor
  · rintro ⟨t, ht, rfl⟩
    obtain ⟨p, c, q, e, hc, rfl, h⟩ := (chainR_mem _ _ _).mp ht
    have e' := congrArg List.reverse e
    rw [List.reverse_reverse] at e'
    refine ⟨q.reverse, c, p.reverse, by rw [e']; simp, hc, by simp, ?_⟩
    rcases h with ⟨rfl, _⟩ | ⟨p', rfl⟩
    · exact .inl rfl
    · exact .inr ⟨p'.reverse, by simp⟩
  · rintro ⟨p, c, q, e, hc, rfl, h⟩
    refine ⟨p ++ [c], (chainR_mem _ _ _).mpr ⟨q.reverse, c, p.reverse, by rw [e]; simp, hc, by simp, ?_⟩, rfl⟩
    rcases h with rfl | ⟨q', rfl⟩
    · exact .inl ⟨rfl, rfl⟩
    · exact .inr ⟨q'.reverse, by simp⟩
end Mine
end
section
open PySem PySem.W PyProof.Rows Mine
local macro_rules | `(tactic| walk_at "eval SetComp") => `(tactic| ((with_reducible show wpAny _ _ (eval (PySem.Expr.SetComp _ _ _ _) _) _ _ _); refine unbox ?_))
local macro_rules | `(tactic| walk_at "pyIter ref") => `(tactic| ((with_reducible show wpAny _ _ (pyIter (Value.ref _)) _ _ _); refine unbox ?_))
local macro_rules | `(tactic| walk_at "eval Name") => `(tactic| ((with_reducible show wpAny _ _ (eval (PySem.Expr.Name _ _) (compEnvC _ _ _ _)) _ _ _); with_unfolding_all first
  | refine lcf_cell (by k_asm) (by rfl) (by k_mem) (by k_asm) ?_ (by rfl) (by rfl)
  | refine cn_local (by k_asm) (by first | exact if_pos rfl | rfl) ?_
  | refine cn_global (by k_asm) (by k_asm) (by k_asm) (by k_is) ?_
  | refine cn_built (by k_asm) (by k_asm) (by k_asm) (by k_is) (by boot_by_name) (by decide) ?_))
section
open PySem PySem.W PyProof.Rows PyProof.V Mine
set_option maxRecDepth 100000
set_option maxHeartbeats 8000000
namespace Mine2
section
variable {w : World} {mg mb : Str → Option Value} {dp un : Nat} {fr : Option (List Env)} {gd : Option (List Code)} {s : Shared} {Q : Value → Shared → Prop} {E : Value → Shared → Prop}
def routeP (y : Str) (k : Nat) : Bool := (Txt.item y ((k : Int) - 1) != Str.ofString "/") && ([Str.ofString "", Str.ofString "/"].any fun x => x == Txt.slice y (some (k : Int)) (some ((k : Int) + 1)))
def routeL (y : Str) : List Str := (((List.range y.length).map fun k => 1 + k).filter (routeP y)).map fun (k : Nat) => Txt.slice y none (some (k : Int))
theorem eltAt_of {S : List Addr} {base : Heap} {C : Addr} {m m' : Str → Option Value} {news : List (Addr × Obj)} {s₃ s₄ : Shared} (F₀ : Fr base C s₃.heap m) (F' : Fr base C s₄.heap m') (N' : News base C s₄.heap news)
    (hs : ∀ q ∈ restOf base s₃.heap C, q ∈ news) (hg : s₄.gens = s₃.gens) (ho : s₄.os = s₃.os) : EltAt S C s₃ s₄ :=
  have e := elt_end (F := fun (_ : Unit) (_ : Value) (_ : Heap) => True) (S := S) (y := ()) (r := .none) F₀ F' N' hs hg ho trivial
  ⟨e.ext, e.ns⟩
theorem route_spec {y : Str} {t : Tok} (P : PW w mg mb s.heap) (hdp : dp + 5 < 450) (hu : un + 30 ≤ 4500) (hy : y.length ≤ 8)
    (hQ : ∀ D s' l, Ext [] NoA NoG s s' → s.heap.get? D = none → SetD (strKind prog w) s'.heap D l → l.length ≤ 8 → (∀ z, z ∈ l ↔ z ∈ routeL y) → Q (.ref D) s') :
    wpAny (model prog w) (Ar dp un fr gd) (PySem.call (.ref 167) [.str y t]) Q E s := by
  obtain ⟨KX, T⟩ := id P
  have ho : s.heap.get? 167 = some _ := KX 167 _ (by k_is)
  refine wpAny_call ?_
  refine' enterC (base := s.heap) (fun _ _ e => e) (Nat.le_refl _) Led.nil ?e1 ho ?e2 P.T.nolimit ?e3 ?e4 ?e5 ?e6 ?_ ?e7 ?e8 ?e9
  case e2 => exact rfl
  case e1 => show dp < 1000; omega
  case e3 => exact ⟨166, _, _, _, rfl, KX 166 _ (by k_is), rfl, rfl⟩
  case e4 => rfl
  case e5 => exact kindsX rfl
  case e6 => decide
  case e7 => rfl
  case e8 => rfl
  case e9 => rfl
  clear ho
  intro L h₁ tk cells F N l1 Y kh hL
  obtain ⟨q1, rfl, c1⟩ := CellsAre.one Y
  clear Y
  replace c1 := show _ = Data.cell (some (.str y t)) from c1
  simp only [List.cons_append, List.nil_append] at N
  k_steps
  refine Box.mk (comp_headS (by with_unfolding_all exact rfl) rfl (by decide) ?_)
  k_steps
  rename_i h2 tk2 t1 u1 v1 hr F2 N2 k2
  refine Box.mk (rangeA_src hr hy fun sb it oi hit kb gb ob hin hio hic hR => ?_)
  dsimp only at hit kb hin gb ob
  have Fb := Fr.keepAll F2 kb
  have Nb := News.keepAll N2 kb
  have hWn : ∀ p ∈ [(L + 1, q1)], ¬ p.1 ∈ [it] := fun p hp h => by
    have := (N2 p hp).1
    rw [List.mem_singleton.mp h, hin] at this; cases this
  have hLit : L ≠ it := fr_off F2 hin
  refine comp_overS (knd := strKind prog w) (p := routeP y) (f := fun k => Txt.slice y none (some (k : Int))) (l := [envOfC (Str.ofString "_law_route") ((defOf (Str.ofString "_law_route") PySem.Challenge.pw_kl0057_02.main.body).getD ([], default)).2 L 167 (.ref 166)]) (base := s.heap) (by decide) rfl rfl (it_rangeA rfl it 1 y.length _ _) hR (okl_of_fr Fb rfl ?_) (fun b hb => ⟨oi, by rw [List.mem_singleton.mp hb]; exact hio⟩)
    (fun b hb => by rw [List.mem_singleton.mp hb]; simp only [frs, List.filterMap]; exact fun h => hLit (List.mem_singleton.mp h).symm) (fun b hb => by rw [List.mem_singleton.mp hb]; exact KeepAll.none_of F2.keep hin) ?_ (by simp; omega) ?_
  · show ScopeKind.function ≠ ScopeKind.module
    decide
  · rintro D C ND k v s₃ m₃ hk ok3 X3 hn3 hx ⟨tv, rfl⟩
    obtain ⟨F3, N3⟩ := elt_ready Fb Nb rfl ND X3 hWn ok3.1 hn3
    simp only [List.cons_append, List.nil_append] at N3
    have F30 : Box (Fr s.heap C s₃.heap m₃) := ⟨F3⟩
    replace F3 := fr_named F3 "end" _ hx
    clear F2 N2 Fb Nb
    have hkb : (1 : Int) ≤ (k : Int) ∧ (k : Int) ≤ (y.length : Int) := by
      obtain ⟨j, hj, rfl⟩ := List.mem_map.mp hk
      have := List.mem_range.mp hj
      omega
    obtain ⟨hk1, hk2⟩ := hkb
    have hk3 : (0 : Int) ≤ (k : Int) - 1 := by omega
    have hk4 : (k : Int) - 1 < (y.length : Int) := by omega
    k_steps
    · rename Fr _ _ _ _ => F5
      rename News _ _ _ _ => N5
      refine ⟨?_, eltAt_of F30.out F5 N5 (fun q hq => by simp [hq]) rfl rfl, fun _ => ?_⟩
      · unfold routeP
        rename (_ != _) = true => e1
        rename (List.any _ _) = true => e2
        rw [e1, e2]; rfl
      · have hq1 := N5 (L + 1, q1) (by simp)
        have N6 : News s.heap C _ ((L + 1, q1) :: restOf s.heap _ C) := allC hq1 (restOf_news _ _ _)
        have F50 : Box (Fr s.heap C _ _) := ⟨F5⟩
        clear N5
        k_steps
        rename Fr _ _ _ _ => F7
        rename News _ _ _ _ => N7
        exact ⟨strKind_is _ _ _ _, rfl, eltAt_of F50.out F7 N7 (fun q hq => by simp [hq]) rfl rfl⟩
    · rename Fr _ _ _ _ => F5
      rename News _ _ _ _ => N5
      have e : routeP y k = false := by
        unfold routeP
        rename (_ != _) = true => e1
        rename (List.any _ _) = false => e2
        rw [e1, e2]; rfl
      exact ⟨e.symm, eltAt_of F30.out F5 N5 (fun q hq => by simp [hq]) rfl rfl, fun h => by rw [e] at h; cases h⟩
    · have e : routeP y k = false := by
        unfold routeP
        rename (_ != _) = false => e1
        rw [e1]; rfl
      exact ⟨e.symm, eltAt_of F30.out F3 N3 (fun q hq => by simp [hq]) rfl rfl, fun h => by rw [e] at h; cases h⟩
  · intro D sc k hDn hDs hX hS hk hkl
    have hS1 : ∀ b ∈ [L], s.heap.get? b = none := fun b hb => by rw [List.mem_singleton.mp hb]; exact hL
    have kall : KeepAll s.heap sc.heap := fun b o e => hX.heap b o (fun q => by rw [hS1 b q] at e; cases e) (fun q => by
      rw [List.mem_singleton.mp q, KeepAll.none_of F2.keep hin] at e; cases e) (Fb.keep b o e)
    have hg := Ext.g hX
    rw [gb, ob] at hg
    refine hQ D sc k ⟨fun b o _ _ e => kall b o e, fun b o hb => absurd hb (by simp), hg.gens, hg.gsize, hg.bare, hg.os⟩ (KeepAll.none_of Fb.keep hDn) hS (by simp at hkl; omega) fun z => ?_
    rw [hk z]
    simp only [routeL, List.mem_map, List.mem_filter]
    constructor
    · rintro ⟨a, h1, h2, h3⟩; exact ⟨a, ⟨h1, h2⟩, h3.symm⟩
    · rintro ⟨a, ⟨h1, h2⟩, h3⟩; exact ⟨a, h1, h2, h3.symm⟩
end
end Mine2
end
end
section
open PySem PySem.W PyProof.Rows PyProof.V Mine
set_option maxRecDepth 100000
set_option maxHeartbeats 8000000
namespace Mine2
def subsOf (ys : List Str) : List (List Str) := ys.foldl (fun cs y => cs ++ cs.map (· ++ [y])) [[]]
theorem subsOf_snoc (ys : List Str) (y : Str) : subsOf (ys ++ [y]) = subsOf ys ++ (subsOf ys).map (· ++ [y]) := by
  unfold subsOf; rw [List.foldl_append]; rfl
theorem rev_ind {α : Type} {P : List α → Prop} (h0 : P []) (h1 : ∀ l a, P l → P (l ++ [a])) (l : List α) : P l := by
  have : ∀ l : List α, P l.reverse := by
    intro l
    induction l with
    | nil => exact h0
    | cons a l ih => rw [List.reverse_cons]; exact h1 _ _ ih
  have := this l.reverse
  rwa [List.reverse_reverse] at this
theorem subsOf_len : ∀ ys : List Str, (subsOf ys).length = 2 ^ ys.length := by
  refine rev_ind rfl fun ys y ih => ?_
  rw [subsOf_snoc, List.length_append, List.length_map, ih, List.length_append, List.length_singleton, Nat.pow_succ]; omega
theorem subsOf_le : ∀ (ys : List Str) (c : List Str), c ∈ subsOf ys → c.length ≤ ys.length := by
  refine rev_ind ?_ fun ys y ih c hc => ?_
  · intro c hc
    cases hc with
    | head => exact Nat.le_refl _
    | tail _ h => cases h
  · rw [subsOf_snoc] at hc
    rw [List.length_append]
    rcases List.mem_append.mp hc with h | h
    · exact Nat.le_succ_of_le (ih c h)
    · obtain ⟨d, hd, rfl⟩ := List.mem_map.mp h
      rw [List.length_append]
      exact Nat.add_le_add_right (ih d hd) _
theorem subsOf_last : ∀ ys : List Str, ∃ init, subsOf ys = init ++ [ys] := by
  refine rev_ind ⟨[], rfl⟩ fun ys y ⟨init, ih⟩ => ?_
  rw [subsOf_snoc, ih, List.map_append]
  exact ⟨init ++ [ys] ++ init.map (· ++ [y]), by simp⟩
theorem Paired.last {α β : Type} {P : α → β → Prop} : ∀ {a : List α} {x : α} {b : List β}, Paired P (a ++ [x]) b → ∃ b' y, b = b' ++ [y] ∧ P x y
  | [], _, _, .cons h .nil => ⟨[], _, rfl, h⟩
  | _ :: _, _, _, .cons h t => by
    obtain ⟨b', y, e, hp⟩ := Paired.last t
    exact ⟨_ :: b', y, by rw [e]; rfl, hp⟩
abbrev tupObj (vs : Array Value) : Obj := { cls := .type "tuple", data := .seq vs }
structure ChAt (w : World) (c : List Str) (T D : Addr) (t : Tok) (l : List Str) (h : Heap) : Prop where
  tup : h.get? T = some (tupObj #[.int (c.length : Nat) t, .ref D])
  set : SetD (strKind prog w) h D l
  len : l.length ≤ 8 * c.length
  mem : ∀ z, z ∈ l ↔ ∃ y ∈ c, z ∈ routeL y
theorem ChAt.keep {w : World} {c : List Str} {T D : Addr} {t : Tok} {l : List Str} {h h' : Heap} (x : ChAt w c T D t l h) (k1 : ∀ o, h.get? T = some o → h'.get? T = some o) (k2 : ∀ o, h.get? D = some o → h'.get? D = some o) : ChAt w c T D t l h' :=
  ⟨k1 _ x.tup, x.set.at_ k2, x.len, x.mem⟩
def ChX (w : World) (base : Heap) (X : List Addr) (c : List Str) (v : Value) (h : Heap) : Prop := ∃ T D t l, v = .ref T ∧ (T ∉ X ∧ base.get? T = none) ∧ (D ∉ X ∧ base.get? D = none) ∧ ChAt w c T D t l h
def ChS (w : World) (sz : Nat) (c : List Str) (v : Value) (h : Heap) : Prop := ∃ T D t l, v = .ref T ∧ sz < T ∧ sz < D ∧ ChAt w c T D t l h
theorem ChX.keep {w : World} {base : Heap} {X : List Addr} {c : List Str} {v : Value} {h h' : Heap} (x : ChX w base X c v h) (k : ∀ b o, b ∉ X → base.get? b = none → h.get? b = some o → h'.get? b = some o) : ChX w base X c v h' := by
  obtain ⟨T, D, t, l, e, ⟨h1, h2⟩, ⟨h3, h4⟩, h5⟩ := x
  exact ⟨T, D, t, l, e, ⟨h1, h2⟩, ⟨h3, h4⟩, h5.keep (fun o => k T o h1 h2) (fun o => k D o h3 h4)⟩
theorem zip_paired {α β : Type} : ∀ {a : List α} {b : List β}, a.length = b.length → Paired (fun (y : α × β) v => v = y.2) (a.zip b) b
  | [], [], _ => .nil
  | [], _ :: _, h => by cases h
  | _ :: _, [], h => by cases h
  | _ :: a, _ :: b, h => .cons rfl (zip_paired (a := a) (b := b) (Nat.succ.inj h))
theorem zip_mem {α β : Type} {P : α → β → Prop} : ∀ {a : List α} {b : List β}, Paired P a b → ∀ y ∈ a.zip b, P y.1 y.2
  | _, _, .nil, y, h => by cases h
  | _, _, .cons h t, y, hy => by
    rcases List.mem_cons.mp hy with rfl | hy
    · exact h
    · exact zip_mem t y hy
theorem zip_fst {α β γ : Type} {P : α → γ → Prop} {f : α → α} : ∀ {a : List α} {b : List β} {c : List γ}, a.length = b.length → Paired (fun (y : α × β) v => P (f y.1) v) (a.zip b) c → Paired P (a.map f) c
  | [], _, c, _, h => by cases h; exact .nil
  | _ :: _, [], _, e, _ => by cases e
  | _ :: a, _ :: b, _, e, .cons h t => .cons h (zip_fst (a := a) (b := b) (Nat.succ.inj e) t)
theorem Paired.app2 {α β : Type} {P : α → β → Prop} : ∀ {a c : List α} {b d : List β}, Paired P a b → Paired P c d → Paired P (a ++ c) (b ++ d)
  | _, _, _, _, .nil, h => h
  | _, _, _, _, .cons h t, h2 => .cons h (Paired.app2 t h2)
theorem ChX.fresh {w : World} {base : Heap} {X : List Addr} {c : List Str} {v : Value} {h : Heap} {a : Addr} (x : ChX w base X c v h) (ha : h.get? a = none) : ChX w base (a :: X) c v h := by
  obtain ⟨T, D, t, l, e, ⟨h1, h2⟩, ⟨h3, h4⟩, h5⟩ := x
  refine ⟨T, D, t, l, e, ⟨fun q => ?_, h2⟩, ⟨fun q => ?_, h4⟩, h5⟩
  · rcases List.mem_cons.mp q with rfl | q
    · rw [h5.tup] at ha; cases ha
    · exact h1 q
  · rcases List.mem_cons.mp q with rfl | q
    · obtain ⟨_, o, _, _, _, ho, _⟩ := h5.set
      rw [ho] at ha; cases ha
    · exact h3 q
theorem ChX.notList {w : World} {base : Heap} {X : List Addr} {c : List Str} {v : Value} {h : Heap} {a : Addr} {o : Obj} (x : ChX w base X c v h) (ha : h.get? a = some o) (hc : o.cls = .type "list") : ChX w base (a :: X) c v h := by
  obtain ⟨T, D, t, l, e, ⟨h1, h2⟩, ⟨h3, h4⟩, h5⟩ := x
  refine ⟨T, D, t, l, e, ⟨fun q => ?_, h2⟩, ⟨fun q => ?_, h4⟩, h5⟩
  · rcases List.mem_cons.mp q with rfl | q
    · rw [h5.tup] at ha; cases ha; injection hc with e; exact absurd e (by decide)
    · exact h1 q
  · rcases List.mem_cons.mp q with rfl | q
    · obtain ⟨_, o', _, _, _, ho, hex, _⟩ := h5.set
      rw [ho] at ha; cases ha
      rw [hex.1] at hc; injection hc with e; exact absurd e (by decide)
    · exact h3 q
theorem rep_flat (n : Nat) : (List.replicate ((n : Int) + 1).toNat [(0 : Int)]).flatten = (List.replicate (n + 1) (0 : Nat)).map Int.ofNat := by
  have e : ((n : Int) + 1).toNat = n + 1 := by omega
  rw [e]
  generalize n + 1 = k
  induction k with
  | zero => rfl
  | succ k ih => rw [List.replicate_succ, List.replicate_succ, List.flatten_cons, ih]; rfl
theorem ChX.less {w : World} {base : Heap} {X Y : List Addr} {c : List Str} {v : Value} {h : Heap} (x : ChX w base X c v h) (hY : ∀ a ∈ Y, a ∈ X) : ChX w base Y c v h := by
  obtain ⟨T, D, t, l, e, ⟨h1, h2⟩, ⟨h3, h4⟩, h5⟩ := x
  exact ⟨T, D, t, l, e, ⟨fun q => h1 (hY _ q), h2⟩, ⟨fun q => h3 (hY _ q), h4⟩, h5⟩
def restX (base h : Heap) (L : Addr) (X : List Addr) : List (Addr × Obj) := (restOf base h L).filter fun q => !X.contains q.1
theorem restX_news (base h : Heap) (L : Addr) (X : List Addr) : News base L h (restX base h L X) := fun q hq => restOf_news base h L q (List.mem_filter.mp hq).1
theorem restX_mem {base h : Heap} {L b : Addr} {X : List Addr} {o : Obj} (e : h.get? b = some o) (hL : b ≠ L) (hX : b ∉ X) (hb : base.get? b = none) : (b, o) ∈ restX base h L X :=
  List.mem_filter.mpr ⟨restOf_mem e hL hb, by simpa using hX⟩
theorem restX_off {base h : Heap} {L : Addr} {X : List Addr} : ∀ p ∈ restX base h L X, p.1 ∉ X := fun p hp => by
  have := (List.mem_filter.mp hp).2
  simpa using this
theorem ChX.walk {w : World} {base : Heap} {X : List Addr} {L : Addr} {c : List Str} {v : Value} {h h' : Heap} {news : List (Addr × Obj)} (hL : L ∈ X) (x : ChX w base X c v h) (N : News base L h' news) (hs : ∀ q ∈ restX base h L X, q ∈ news) : ChX w base X c v h' :=
  x.keep fun b o h1 h2 e => (N (b, o) (hs _ (restX_mem e (fun q => h1 (q ▸ hL)) h1 h2))).1
theorem store_comp {M : Model} {A : Around} {E : Value → Shared → Prop} {s : Shared} {h₀ : Heap} {C : Addr} {m : Str → Option Value} {news : List (Addr × Obj)} {scope : Scope} {cl : List (Str × Addr)} {env : Env} {x : Str} {v : Value} {Q : Unit → Shared → Prop} (F : Fr h₀ C s.heap m) (N : News h₀ C s.heap news)
    (h : ∀ h', Fr h₀ C h' (fun y => if y = x then some v else m y) → News h₀ C h' news → Q () { s with heap := h', toks := s.toks + 1 })
    (hx : (compEnvC scope cl C env).kindOf x = some .local := by rfl) (hp : ((compEnvC scope cl C env).scope.kind == .class || ((compEnvC scope cl C env).scope.kind == .module && C != (compEnvC scope cl C env).globals)) = false := by rfl) : wpAny M A (storeName (compEnvC scope cl C env) x v) Q E s :=
  wpAny_storeName_local hx F.ns (fun h' hn hs => h h' (F.set hn hs) (N.set hs)) hp
theorem ints_set : ∀ {vs : List Value} {ns : List Int} (i : Nat) (z : Int) (t : Tok), IntsAre vs ns → IntsAre (vs.set i (.int z t)) (ns.set i z)
  | _, _, _, _, _, .nil => by simp; exact .nil
  | _, _, 0, z, t, .cons _ _ h => .cons z t h
  | _, _, i + 1, z, t, .cons a b h => .cons a b (ints_set i z t h)
theorem max_cast (ns : List Nat) (k n : Nat) : (if ((n : Nat) : Int) > (ns.map Int.ofNat).getD (((k : Nat) : Int)).toNat 0 then ((n : Nat) : Int) else (ns.map Int.ofNat).getD (((k : Nat) : Int)).toNat 0) = Int.ofNat (max (ns.getD k 0) n) := by
  have e : (ns.map Int.ofNat).getD (((k : Nat) : Int)).toNat 0 = Int.ofNat (ns.getD k 0) := by
    rw [Int.toNat_natCast, List.getD_eq_getElem?_getD, List.getD_eq_getElem?_getD, List.getElem?_map]
    cases ns[k]? <;> rfl
  rw [e]
  generalize ns.getD k 0 = a
  show (if (n : Int) > (a : Int) then (n : Int) else (a : Int)) = ((max a n : Nat) : Int)
  split <;> omega
theorem setItem_obj {prog : Program} {w : World} {A : Around} {E : Value → Shared → Prop} {s : Shared} {l : Addr} {vs : List Value} {c : Nat} {k : Int} {t : Tok} {v : Value} {Q : Unit → Shared → Prop} (ho : s.heap.get? l = some (listObj vs c))
    (h0 : 0 ≤ k) (hfit : k < 2 ^ 63) (hn : k < vs.length)
    (hQ : ∀ h' c', h'.get? l = some (listObj (vs.set k.toNat v) c') → Heap.SameBut l s.heap h' → Q () { s with heap := h' }) : wpAny (model prog w) A (setItem (.ref l) (.int k t) v) Q E s := by
  have hl : s.heap.IsList l vs.toArray := ⟨_, ho, rfl, _, rfl⟩
  unfold setItem
  try with_reducible refine wpAny_holding ?_
  first | refine wpAny_bind (wpAny_pure ?_) | skip
  refine wpAny_bind (wpAny_sequenceKey hl.typeIs (by decide) ?_)
  refine wpAny_bind (wpAny_callSpecial?_slot (name := Str.ofString "__setitem__") hl.typeIs slot_list_setitem
    (wpAny_call_entry slot_list_setitem hl.typeIs entry_list_setitem ?_ (args_list_setitem _ _ _)))
  show wpAny _ _ (Builtin.List.listSubscript? (.int k t) >>= _) _ _ s
  refine wpAny_bind (wpAny_listSubscript_int (fitsIndex_of h0 hfit) ?_)
  clear hfit
  obtain ⟨j, rfl⟩ := Int.eq_ofNat_of_zero_le h0
  have hj : j < vs.toArray.size := by simp; omega
  have hx' : vs.toArray[j]? = some vs.toArray[j] := Array.getElem?_eq_getElem hj
  show wpAny _ _ ((seqItemAt l j >>= fun r => pure (r.map (j, ·))) >>= _) _ _ s
  refine wpAny_bind (wpAny_bind (wpAny_seqItemAt ho rfl (wpAny_pure ?_)))
  rw [hx']
  show wpAny _ _ (setSeqItemAt l j v >>= _) _ _ s
  have hfin : ∃ c', (s.heap.update l (Obj.mapSeq (·.setIfInBounds j v))).get? l = some (listObj (vs.set j v) c') := by
    have e : ∃ c', Obj.mapSeq (·.setIfInBounds j v) (listObj vs c) = listObj (vs.set j v) c' := by
      simp [Obj.mapSeq, listObj]
    obtain ⟨c', e⟩ := e
    refine ⟨c', ?_⟩
    rw [← e]
    exact Heap.get?_update_self _ ho (by rw [e]; rfl)
  obtain ⟨c', hfin⟩ := hfin
  refine wpAny_bind (wpAny_setSeqItemAt ho rfl ?_)
  first
    | exact wpAny_bind (wpAny_pure (wpAny_pure ⟨.none, rfl, wpAny_pure (hQ _ c' hfin (Heap.SameBut.update ..))⟩))
    | exact wpAny_pure ⟨.none, rfl, wpAny_pure (hQ _ c' hfin (Heap.SameBut.update ..))⟩
theorem item_last {prog : Program} {w : World} {A : Around} {E : Value → Shared → Prop} {s : Shared} {value slice : Expr} {l : Addr} {x : Value} {vs : List Value} {u : Tok} {Q : Value → Shared → Prop} (hl : s.heap.IsList l (vs ++ [x]).toArray) (h : Q x s)
    (hs : subscripted slice false (.ref l) (.int (-1) u) = operate [.ref l, .int (-1) u] (getItem (.ref l) (.int (-1) u)) := by with_unfolding_all rfl) : wpAny (model prog w) A (subscriptTail value slice (.ref l) (.int (-1) u)) Q E s :=
  tail_any hl.typeIs slot_list_getitem.lookup (wpAny_getItem_list_neg hl (by decide) (by simp; omega) (by decide) (by
    have e : (-1 + ((vs ++ [x]).toArray.size : Int)).toNat = vs.length := by simp; omega
    rw [e]; simp) h) hs
end Mine2
end
section
open PySem PySem.W PyProof.Rows Mine
local macro_rules | `(tactic| walk_at "call builtin:len") => `(tactic| ((with_reducible show wpAny _ _ (PySem.call (Value.builtin "len") _) _ _ _); refine unbox ?_))
local macro_rules | `(tactic| walk_at "eval ListComp") => `(tactic| ((with_reducible show wpAny _ _ (eval (PySem.Expr.ListComp _ _ _ _) _) _ _ _); refine unbox ?_))
local macro_rules | `(tactic| walk_at "pyIter ref") => `(tactic| ((with_reducible show wpAny _ _ (pyIter (Value.ref _)) _ _ _); refine unbox ?_))
local macro_rules | `(tactic| walk_at "call ref") => `(tactic| ((with_reducible show wpAny _ _ (PySem.call (Value.ref _) _) _ _ _); refine unbox ?_))
local macro_rules | `(tactic| walk_at "binaryOp BitOr ref ref") => `(tactic| ((with_reducible show wpAny _ _ (binaryOp Operator.BitOr (Value.ref _) (Value.ref _)) _ _ _); refine unbox ?_))
local macro_rules | `(tactic| walk_at "inplaceOp Add ref ref") => `(tactic| ((with_reducible show wpAny _ _ (inplaceOp Operator.Add (Value.ref _) (Value.ref _)) _ _ _); refine unbox ?_))
local macro_rules | `(tactic| walk_at "eval Name") => `(tactic| ((with_reducible show wpAny _ _ (eval (PySem.Expr.Name _ _) (compEnvC _ _ _ _)) _ _ _); with_unfolding_all first
  | refine lcf_cell (by k_asm) (by rfl) (by k_mem) (by k_asm) ?_ (by rfl) (by rfl)
  | refine cn_local (by k_asm) (by first | exact if_pos rfl | rfl) ?_
  | refine cn_global (by k_asm) (by k_asm) (by k_asm) (by k_is) ?_
  | refine cn_built (by k_asm) (by k_asm) (by k_asm) (by k_is) (by boot_by_name) (by decide) ?_))
section
open PySem PySem.W PyProof.Rows PyProof.V Mine
set_option maxRecDepth 100000
set_option maxHeartbeats 8000000
namespace Mine2
noncomputable def mostDef : List Stmt × Scope := ((defOf (Str.ofString "_law_most") PySem.Challenge.pw_kl0057_02.main.body).getD ([], default))
section
variable {w : World} {mg mb : Str → Option Value} {dp un : Nat} {fr : Option (List Env)} {gd : Option (List Code)} {s : Shared} {Q : Value → Shared → Prop} {E : Value → Shared → Prop}
def CardOf (c : List Str) (n : Nat) : Prop := ∃ l : List Str, l.Nodup ∧ l.length = n ∧ ∀ z, z ∈ l ↔ ∃ y ∈ c, z ∈ routeL y
def mostStep (ns : List Nat) (p : List Str × Nat) : List Nat := ns.set p.1.length (max (ns.getD p.1.length 0) p.2)
def mostOf (len : Nat) (cs : List (List Str × Nat)) : List Nat := cs.foldl mostStep (List.replicate (len + 1) 0)
theorem mostOf_len (n : Nat) : ∀ cs : List (List Str × Nat), (mostOf n cs).length = n + 1 := by
  have : ∀ (cs : List (List Str × Nat)) (ns : List Nat), (cs.foldl mostStep ns).length = ns.length := by
    intro cs
    induction cs with
    | nil => intro ns; rfl
    | cons c cs ih => intro ns; rw [List.foldl_cons, ih]; simp [mostStep]
  intro cs
  unfold mostOf
  rw [this, List.length_replicate]
inductive Mo2J (w : World) (base : Heap) (L ch mo it : Addr) (ys : List Str) (vs : List Value) (c : Nat) (s : Shared) (n : Nat) (s' : Shared) : Prop
  | mk (done rest : List (List Str × Value)) (nn : List Nat) (m : Str → Option Value) (wm : List Value) (cm : Nat) (oi : Obj) (hx : (subsOf ys).zip vs = done ++ rest) (hn : n = rest.length) (hR : LstV ch it vs.toArray ((subsOf ys).zip vs) rest s')
    (F : Fr base L s'.heap m) (m1 : m "chosen" = some (.ref ch)) (m2 : m "most" = some (.ref mo)) (N : News base L s'.heap [(mo, listObj wm cm), (ch, listObj vs c), (it, oi)])
    (hP : Paired (fun c v => ChX w base [L, ch, mo, it] c v s'.heap) (subsOf ys) vs) (hnn : Paired (fun (p : List Str × Value) k => CardOf p.1 k) done nn) (hwm : IntsAre wm ((mostOf ys.length ((done.map (·.1)).zip nn)).map Int.ofNat)) (hg : GExt NoG s.gens s'.gens s.os s'.os) : Mo2J w base L ch mo it ys vs c s n s'
section
variable {w : World} {mg mb : Str → Option Value} {dp un : Nat} {fr : Option (List Env)} {gd : Option (List Code)} {s : Shared} {Q : Flow → Shared → Prop} {E : Value → Shared → Prop}
theorem most_second {base : Heap} {L ch mo : Addr} {vs wm : List Value} {c cm : Nat} {ys : List Str} {m : Str → Option Value} (P : PW w mg mb base) (hdp : dp + 10 < 450) (hu : un + 40 ≤ 4500) (hys : ys.length ≤ 6)
    (F : Fr base L s.heap m) (m1 : m "chosen" = some (.ref ch)) (m2 : m "most" = some (.ref mo)) (N : News base L s.heap [(mo, listObj wm cm), (ch, listObj vs c)]) (hlt : ch < mo) (hLc : L < ch)
    (hP : Paired (fun c v => ChX w base [L, ch, mo] c v s.heap) (subsOf ys) vs) (hwm : IntsAre wm ((List.replicate (ys.length + 1) (0 : Nat)).map Int.ofNat))
    (hQ : ∀ T s' H wm cm nn l, GExt NoG s.gens s'.gens s.os s'.os → KeepAll base s'.heap → s'.heap.get? T = some (tupObj #[.ref mo, .ref H]) → s'.heap.get? mo = some (listObj wm cm) → IntsAre wm ((mostOf ys.length ((subsOf ys).zip nn)).map Int.ofNat) → Paired CardOf (subsOf ys) nn →
      SetD (strKind prog w) s'.heap H l → (∀ z, z ∈ l ↔ ∃ y ∈ ys, z ∈ routeL y) → base.get? T = none → base.get? H = none → Q (.ret (.ref T)) s') :
    wpAny (model prog w) ((Ar dp un fr gd).deeper (envOfC (Str.ofString "_law_most") mostDef.2 L 172 (.ref 171))) (execs (mostDef.1.drop 3) (envOfC (Str.ofString "_law_most") mostDef.2 L 172 (.ref 171))) Q E s := by
  conv in (List.drop 3 _) => whnf
  conv => enter [2, 2, 2]; whnf
  conv => enter [3, 2, 2]; whnf
  obtain ⟨KX, T⟩ := id P
  replace F := fr_named (fr_named F "chosen" _ m1) "most" _ ((if_neg (by decide)).trans m2)
  replace hlt := (fun (a b : Nat) (h : a < b) => h) _ _ hlt
  replace hLc := (fun (a b : Nat) (h : a < b) => h) _ _ hLc
  have hlen : (subsOf ys).length = vs.length := hP.length
  refine execs_box (for_stmt ?_)
  k_steps
  refine Box.mk (list_src (xs := (subsOf ys).zip vs) (items := vs.toArray) ⟨_, (N _ (.tail _ (.head _))).1, rfl, _, rfl⟩ fun sb it oi hit kb gb ob hin hio hic hne hR => ?_)
  have Fb := Fr.keepAll F kb
  have Nb := News.keepAll N kb
  have hoff := news_off N hin
  have hitL := fr_off F hin
  have hitb : base.get? it = none := KeepAll.none_of F.keep hin
  have hX : ∀ b, b ∈ [it] → base.get? b = none := fun b hb => by rw [List.mem_singleton.mp hb]; exact hitb
  have hmos := Heap.lt_size (N _ (.head _)).1
  have hmoit := (fun (a b c : Nat) (h : a < b) (e : c = b) => (e ▸ h : a < c)) _ _ _ hmos hit
  have hLit : (L : Nat) ∉ [it] := fun h => hitL (List.mem_singleton.mp h)
  refine ⟨Mo2J w base L ch mo it ys vs c s, vs.length, ?_, fun n s' hJ => ?_⟩
  · refine ⟨[], (subsOf ys).zip vs, [], _, wm, cm, oi, rfl, by rw [List.length_zip, hlen, Nat.min_self], hR, Fb, (if_neg (by decide)).trans (if_pos rfl), if_pos rfl, newsPick [_, _, _] [] [1, 2, 0] (allC ⟨hio, Ne.symm hitL, hitb⟩ Nb), ?_, .nil, hwm, by rw [gb, ob]; exact GExt.refl _ _ _⟩
    refine Mine.Paired.up (fun c v h => ?_) hP
    obtain ⟨T, D, t, l, e, ⟨h1, h2⟩, ⟨h3, h4⟩, h5⟩ := h
    have hTs := h5.tup
    obtain ⟨_, oD, _, _, _, hoD, _⟩ := id h5.set
    refine ⟨T, D, t, l, e, ⟨fun q => ?_, h2⟩, ⟨fun q => ?_, h4⟩, h5.keep (fun o => kb T o) (fun o => kb D o)⟩
    · have z : T = it ∨ T ∈ [L, ch, mo] := by
        simp only [List.mem_cons, List.not_mem_nil, or_false] at q ⊢
        rcases q with h | h | h | h <;> simp [h]
      rcases z with z | z
      · rw [z, hin] at hTs; cases hTs
      · exact h1 z
    · have z : D = it ∨ D ∈ [L, ch, mo] := by
        simp only [List.mem_cons, List.not_mem_nil, or_false] at q ⊢
        rcases q with h | h | h | h <;> simp [h]
      rcases z with z | z
      · rw [z, hin] at hoD; cases hoD
      · exact h3 z
  · obtain ⟨done, rest, nn, m, wm, cm, oi, hx, hn, hR, F, m1, m2, N, hP, hnn, hwm, hg⟩ := hJ
    cases rest with
    | nil =>
      refine (it_list rfl it ch hne (zip_paired hlen) (fun _ => True) []).nil s' _ _ trivial hR fun s2 hE => ?_
      have F2 := hE.fr F hLit (fun b hb => nomatch hb) hX
      have hmone : mo ≠ it := Nat.ne_of_lt hmoit
      have hchne : ch ≠ it := hne
      have hP2 : Paired (fun c v => ChX w base [L, ch, mo, it] c v s2.heap) (subsOf ys) vs := Mine.Paired.up (fun c v h => h.keep fun b o h1 _ e => hE.heap b o (by simp) (fun h => h1 (by simp [List.mem_singleton.mp h])) e) hP
      have hg2 : GExt NoG s.gens s2.gens s.os s2.os := hg.trans (Ext.g hE)
      rw [List.append_nil] at hx
      obtain ⟨init, hinit⟩ := subsOf_last ys
      rw [hinit] at hP2
      obtain ⟨vi, vl, rfl, T', D, t, l, rfl, ⟨hT1, hT2⟩, ⟨hD1, hD2⟩, hCh⟩ := Paired.last hP2
      have hTL : T' ≠ L := fun h => hT1 (by rw [h]; simp)
      have hDL : D ≠ L := fun h => hD1 (by rw [h]; simp)
      have N2 : News base L s2.heap ((mo, listObj wm cm) :: (ch, listObj (vi ++ [.ref T']) c) :: (T', tupObj #[.int (ys.length : Nat) t, .ref D]) :: restX base s2.heap L [L, ch, mo, it]) :=
        allC ⟨hE.heap _ _ (by simp) (fun h => hmone (List.mem_singleton.mp h)) (N _ (.head _)).1, (N _ (.head _)).2⟩ (allC ⟨hE.heap _ _ (by simp) (fun h => hchne (List.mem_singleton.mp h)) (N _ (.tail _ (.head _))).1, (N _ (.tail _ (.head _))).2⟩ (allC ⟨hCh.tup, hTL, hT2⟩ (restX_news _ _ _ _)))
      replace F2 := fr_named (fr_named F2 "chosen" _ m1) "most" _ ((if_neg (by decide)).trans m2)
      clear F N hP
      refine Box.mk ?_
      k_steps
      refine item_last ⟨_, (N2 _ (.tail _ (.head _))).1, rfl, _, rfl⟩ ?_
      k_steps
      rename Fr _ _ _ _ => F4
      rename News _ _ _ _ => N4
      have hz : ((subsOf ys).zip (vi ++ [.ref T'])).map (·.1) = subsOf ys := List.map_fst_zip (by rw [hlen]; exact Nat.le_refl _)
      rw [← hx, hz] at hwm
      rw [← hx] at hnn
      have hnn2 := zip_fst (f := id) (P := CardOf) hlen hnn
      rw [List.map_id] at hnn2
      refine hQ _ _ D wm cm nn l hg2 F4.keep (N4 _ (.head _)).1 (N4 _ (.tail _ (.head _))).1 hwm hnn2 ?_ hCh.mem (N4 _ (.head _)).2.2 hD2
      exact hCh.set.at_ fun o e => (N4 (D, o) (.tail _ (.tail _ (.tail _ (.tail _ (restX_mem e hDL hD1 hD2)))))).1
    | cons p ps =>
      refine (it_list rfl it ch hne (zip_paired hlen) (fun _ => True) []).cons p ps s' _ _ trivial hR fun v s2 hv hE hR2 => ?_
      subst hv
      have F2 := hE.fr F hLit (fun b hb => nomatch hb) hX
      have hmone : mo ≠ it := Nat.ne_of_lt hmoit
      have hchne : ch ≠ it := hne
      have hP2 : Paired (fun c v => ChX w base [L, ch, mo, it] c v s2.heap) (subsOf ys) vs := Mine.Paired.up (fun c v h => h.keep fun b o h1 _ e => hE.heap b o (by simp) (fun h => h1 (by simp [List.mem_singleton.mp h])) e) hP
      have hp : p ∈ (subsOf ys).zip vs := by rw [hx]; simp
      obtain ⟨T', D, t, l, hT, ⟨hT1, hT2⟩, ⟨hD1, hD2⟩, hCh⟩ := zip_mem hP2 p hp
      obtain ⟨o2, ho2⟩ : ∃ o, s2.heap.get? it = some o := by
        obtain ⟨i, _, ⟨hI, _⟩, _⟩ := hR2
        exact ⟨_, hI.choose_spec.1⟩
      have hTL : T' ≠ L := fun h => hT1 (by rw [h]; simp)
      have hDL : D ≠ L := fun h => hD1 (by rw [h]; simp)
      have N2 : News base L s2.heap ((mo, listObj wm cm) :: (ch, listObj vs c) :: (it, o2) :: (T', tupObj #[.int (p.1.length : Nat) t, .ref D]) :: restX base s2.heap L [L, ch, mo, it]) :=
        allC ⟨hE.heap _ _ (by simp) (fun h => hmone (List.mem_singleton.mp h)) (N _ (.head _)).1, (N _ (.head _)).2⟩ (allC ⟨hE.heap _ _ (by simp) (fun h => hchne (List.mem_singleton.mp h)) (N _ (.tail _ (.head _))).1, (N _ (.tail _ (.head _))).2⟩ (allC ⟨ho2, Ne.symm hitL, hitb⟩ (allC ⟨hCh.tup, hTL, hT2⟩ (restX_news _ _ _ _))))
      have hkl : p.1.length ≤ ys.length := subsOf_le ys p.1 (List.of_mem_zip hp).1
      have hwl : wm.length = ys.length + 1 := by
        have := hwm.length
        rw [List.length_map] at this
        rw [this]
        exact mostOf_len _ _
      have hk0 : (0 : Int) ≤ ((p.1.length : Nat) : Int) := Int.natCast_nonneg _
      have hk1 : ((p.1.length : Nat) : Int) < (wm.length : Int) := by omega
      replace F2 := fr_named (fr_named F2 "chosen" _ m1) "most" _ ((if_neg (by decide)).trans m2)
      clear F N
      rw [hT]
      obtain ⟨i5, hi5, ⟨hI5, hL5⟩, hd5⟩ := id hR2
      refine wpAny_letOwnedTupleGo_listiter hI5 ?_
      k_steps
      rename Fr _ _ _ _ => F3
      rename News _ _ _ _ => N3
      have S3 : SetD (strKind prog w) _ D l := hCh.set.at_ (h' := _) fun o e => (N3 (D, o) (.tail _ (.tail _ (.tail _ (.tail _ (restX_mem e hDL hD1 hD2)))))).1
      refine Box.mk (len_set S3 ?_)
      k_steps
      try clear F3
      try clear N3
      rename Fr _ _ _ _ => F4
      rename News _ _ _ _ => N4
      have hmo4 := N4 _ (.head _)
      refine setItem_obj hmo4.1 hk0 (by omega) hk1 fun h6 c6 hmo6 hs6 => ?_
      refine wpAny_execs_nil ⟨ps.length, by rw [hn]; exact Nat.lt_succ_self _, ?_⟩
      have hmoL := hmo4.2.1
      have F6 : Fr base L h6 _ := ⟨F4.ns.sameBut hs6 hmoL.symm, fun b ob e => (hs6.2 b (fun z => by rw [z, hmo4.2.2] at e; cases e)).trans (F4.keep b ob e), F4.above⟩
      have hc4 := N4 (ch, listObj vs c) (.tail _ (.head _))
      have hi4 := N4 (it, o2) (.tail _ (.tail _ (.head _)))
      have hchmo : ch ≠ mo := Nat.ne_of_lt hlt
      have N6 : News base L h6 [(mo, listObj _ c6), (ch, listObj vs c), (it, o2)] :=
        allC ⟨hmo6, hmo4.2⟩ (allC ⟨(hs6.2 _ hchmo).trans hc4.1, hc4.2⟩ (allC ⟨(hs6.2 _ hmone.symm).trans hi4.1, hi4.2⟩ allN))
      have hdl : done.length = nn.length := hnn.length
      refine ⟨done ++ [p], ps, nn ++ [l.length], _, _, c6, o2, by rw [hx]; simp, rfl, ?_, F6, (if_neg (by decide)).trans ((if_neg (by decide)).trans ((if_neg (by decide)).trans (if_pos rfl))), (if_neg (by decide)).trans ((if_neg (by decide)).trans (if_pos rfl)), N6, ?_, Paired.snoc hnn ⟨l, hCh.set.1, rfl, hCh.mem⟩, ?_, hg.trans ⟨hE.gens, hE.gsize, hE.bare, hE.os⟩⟩
      · obtain ⟨o, ho, r⟩ := hI5
        rw [ho2] at ho; cases ho
        exact ⟨i5, hi5, ⟨⟨o2, N6.get (by k_mem), r⟩, ⟨_, N6.get (by k_mem), rfl, _, rfl⟩⟩, hd5⟩
      · refine Mine.Paired.up (fun c v h => ?_) hP2
        exact (h.walk (.head _) N4 fun q hq => .tail _ (.tail _ (.tail _ (.tail _ hq)))).keep fun b o h1 _ e => (hs6.2 b (fun z => h1 (by rw [z]; simp))).trans e
      · have e1 : ((done ++ [p]).map (·.1)).zip (nn ++ [l.length]) = (done.map (·.1)).zip nn ++ [(p.1, l.length)] := by
          rw [List.map_append, List.zip_append (by simpa using hdl)]; rfl
        have e2 : mostOf ys.length ((done.map (·.1)).zip nn ++ [(p.1, l.length)]) = mostStep (mostOf ys.length ((done.map (·.1)).zip nn)) (p.1, l.length) := by
          unfold mostOf; rw [List.foldl_append]; rfl
        rw [e1, e2]
        unfold mostStep
        rw [List.map_set, max_cast, Int.toNat_natCast]
        exact ints_set _ _ _ hwm
end
end
end Mine2
end
end
section
open PySem PySem.W PyProof.Rows Mine
local macro_rules | `(tactic| walk_at "eval ListComp") => `(tactic| ((with_reducible show wpAny _ _ (eval (PySem.Expr.ListComp _ _ _ _) _) _ _ _); refine unbox ?_))
local macro_rules | `(tactic| walk_at "pyIter ref") => `(tactic| ((with_reducible show wpAny _ _ (pyIter (Value.ref _)) _ _ _); refine unbox ?_))
local macro_rules | `(tactic| walk_at "call ref") => `(tactic| ((with_reducible show wpAny _ _ (PySem.call (Value.ref _) _) _ _ _); refine unbox ?_))
local macro_rules | `(tactic| walk_at "binaryOp BitOr ref ref") => `(tactic| ((with_reducible show wpAny _ _ (binaryOp Operator.BitOr (Value.ref _) (Value.ref _)) _ _ _); refine unbox ?_))
local macro_rules | `(tactic| walk_at "inplaceOp Add ref ref") => `(tactic| ((with_reducible show wpAny _ _ (inplaceOp Operator.Add (Value.ref _) (Value.ref _)) _ _ _); refine unbox ?_))
local macro_rules | `(tactic| walk_at "eval Name") => `(tactic| ((with_reducible show wpAny _ _ (eval (PySem.Expr.Name _ _) (compEnvC _ _ _ _)) _ _ _); with_unfolding_all first
  | refine lcf_cell (by k_asm) (by rfl) (by k_mem) (by k_asm) ?_ (by rfl) (by rfl)
  | refine cn_local (by k_asm) (by first | exact if_pos rfl | rfl) ?_
  | refine cn_global (by k_asm) (by k_asm) (by k_asm) (by k_is) ?_
  | refine cn_built (by k_asm) (by k_asm) (by k_asm) (by k_is) (by boot_by_name) (by decide) ?_))
section
open PySem PySem.W PyProof.Rows PyProof.V Mine
set_option maxRecDepth 100000
set_option maxHeartbeats 8000000
namespace Mine2
section
variable {w : World} {mg mb : Str → Option Value} {dp un : Nat} {fr : Option (List Env)} {gd : Option (List Code)} {s : Shared} {Q : Value → Shared → Prop} {E : Value → Shared → Prop}
theorem far_off {L D C it r n : Nat} (hr : n + 1 < r) (h1 : D < C) (h2 : C ≤ n + 1) (h3 : it < n) (h4 : L < n) : r ≠ L ∧ r ≠ D ∧ r ≠ C ∧ r ≠ it := by omega
theorem off4b {T n L ch it : Nat} (h : n + 1 < T) (h1 : L < n) (h2 : L + 1 < n) (h3 : ch < n) (h4 : it < n) : T ∉ [L, L + 1, ch, it] := by
  simp only [List.mem_cons, List.not_mem_nil, or_false]; omega
theorem le3 {b L n T : Nat} (h1 : b ≤ L) (h2 : L < n) (h3 : n + 1 < T) : b ≤ T := by omega
theorem off4 {a L ch it : Nat} (h1 : L + 1 < a) (h2 : a < ch) (h3 : ch < it) : a ∉ [L, L + 1, ch, it] := by
  simp only [List.mem_cons, List.not_mem_nil, or_false]; omega
inductive MosJ (w : World) (base : Heap) (L tl ch it : Addr) (items : Array Value) (ys : List Str) (s : Shared) (n : Nat) (s' : Shared) : Prop
  | mk (done rest : List Str) (m : Str → Option Value) (vs : List Value) (c : Nat) (q oi : Obj) (st : Option Value) (hy : ys = done ++ rest) (hn : n = rest.length) (hR : LstV tl it items ys rest s')
    (F : Fr base L s'.heap m) (m1 : m "chosen" = some (.ref ch)) (m2 : m "texts" = some (.ref tl)) (N : News base L s'.heap [(ch, listObj vs c), (L + 1, q), (it, oi)]) (dq : q.data = .cell st)
    (hP : Paired (fun c v => ChX w base [L, L + 1, ch, it] c v s'.heap) (subsOf done) vs) (hg : GExt NoG s.gens s'.gens s.os s'.os) : MosJ w base L tl ch it items ys s n s'
theorem most_spec {tl : Addr} {items : Array Value} {ys : List Str} (P : PW w mg mb s.heap) (hdp : dp + 10 < 450) (hu : un + 40 ≤ 4500) (hl : s.heap.IsList tl items) (hi : StrsAre items.toList ys) (hys : ys.length ≤ 6) (hy8 : ∀ y ∈ ys, y.length ≤ 8)
    (hQ : ∀ T s' M H wm cm nn l, Ext [] NoA NoG s s' → s'.heap.get? T = some (tupObj #[.ref M, .ref H]) → s'.heap.get? M = some (listObj wm cm) → IntsAre wm ((mostOf ys.length ((subsOf ys).zip nn)).map Int.ofNat) → Paired CardOf (subsOf ys) nn →
      SetD (strKind prog w) s'.heap H l → (∀ z, z ∈ l ↔ ∃ y ∈ ys, z ∈ routeL y) → s.heap.get? T = none → s.heap.get? H = none → Q (.ref T) s') :
    wpAny (model prog w) (Ar dp un fr gd) (PySem.call (.ref 172) [.ref tl]) Q E s := by
  obtain ⟨KX, T⟩ := id P
  have ho : s.heap.get? 172 = some _ := KX 172 _ (by k_is)
  refine wpAny_call ?_
  refine' enterC (base := s.heap) (fun _ _ e => e) (Nat.le_refl _) Led.nil ?e1 ho ?e2 P.T.nolimit ?e3 ?e4 ?e5 ?e6 ?_ ?e7 ?e8 ?e9
  case e2 => exact rfl
  case e1 => show dp < 1000; omega
  case e3 => exact ⟨171, _, _, _, rfl, KX 171 _ (by k_is), rfl, rfl⟩
  case e4 => rfl
  case e5 => exact kindsX rfl
  case e6 => decide
  case e7 => rfl
  case e8 => rfl
  case e9 => rfl
  clear ho
  intro L h₁ tk cells F N l1 Y kh hL
  obtain ⟨q1, rfl, c1⟩ := CellsAre.one Y
  clear Y
  replace c1 := show _ = Data.cell none from c1
  simp only [List.cons_append, List.nil_append] at N
  refine execs_box ?_
  k_steps
  refine Box.mk (execs_box (for_stmt ?_))
  k_steps
  rename_i d0 h2 led hs0 hz0 ll1 D0 h3 ll2 ch h4 ll3 h5 F5 N5
  refine Box.mk ?_
  refine cut_state (h' := h5) (fun sa ea1 ea2 ea3 => ?_) rfl
  subst ea1
  replace ea2 : sa.gens = s.gens := ea2
  replace ea3 : sa.os = s.os := ea3
  refine list_src (xs := ys) (items := items) (F5.lst hl) fun sb it oi hit kb gb ob hin hio hic hne hR => ?_
  have Fb := Fr.keepAll F5 kb
  have Nb := News.keepAll N5 kb
  have hoff := news_off N5 hin
  have hitL := fr_off F5 hin
  have hitb : s.heap.get? it = none := KeepAll.none_of F5.keep hin
  have hLs := F5.ns.lt
  have hchs := Heap.lt_size (N5 _ (.head _)).1
  have hD0s := (fun (a b c : Nat) (h : a < b) (h' : b < c) => Nat.lt_trans h h') _ _ _ ll3.1 hchs
  refine ⟨MosJ w s.heap L tl ch it items ys s, ys.length, ?_, fun n s' hJ => ?_⟩
  · refine ⟨[], ys, _, _, _, q1, oi, none, rfl, rfl, hR, Fb, if_pos rfl, ?_, newsPick [_, _, _, _, _] [] [1, 4, 0] (allC ⟨hio, Ne.symm hitL, hitb⟩ Nb), c1, ?_, by rw [gb, ob, ea2, ea3]; exact GExt.refl _ _ _⟩
    · exact (if_neg (by decide)).trans rfl
    · refine .cons ⟨D0, d0, _, [], rfl, ⟨?_, (Nb (D0, _) (by k_mem)).2.2⟩, ⟨?_, (Nb (d0, _) (by k_mem)).2.2⟩, Nb.get (by k_mem), setD_fresh (Nb.get (by k_mem)), Nat.zero_le _, fun z => by simp⟩ .nil
      · exact off4 ll2.2 ll3.1 (by rw [hit]; exact hchs)
      · exact off4 ll1 ll3.2.1 (by rw [hit]; exact hchs)
  · obtain ⟨done, rest, m, vs, c, q, oi, st, hy, hn, hR, F, m1, m2, N, dq, hP, hg⟩ := hJ
    clear Fb Nb F5 N5
    have hLch := (fun (a b : Nat) (h : a < b) => h) _ _ ll3.2.2
    have hchit := (fun (a b c : Nat) (h : a < b) (e : c = b) => (e ▸ h : a < c)) _ _ _ hchs hit
    have hX : ∀ b, b ∈ [it] → s.heap.get? b = none := fun b hb => by rw [List.mem_singleton.mp hb]; exact hitb
    cases rest with
    | nil =>
      refine (it_list rfl it tl hne (strs_paired hi) (fun _ => True) []).nil s' _ _ trivial hR fun s2 hE => ?_
      have hLit : (L : Nat) ∉ [it] := fun h => hitL (List.mem_singleton.mp h)
      have F2 := hE.fr F hLit (fun b hb => nomatch hb) hX
      have hchne : ch ≠ it := Nat.ne_of_lt hchit
      have hP2 : Paired (fun c v => ChX w s.heap [L, L + 1, ch, it] c v s2.heap) (subsOf done) vs := Mine.Paired.up (fun c v h => h.keep fun b o h1 _ e => hE.heap b o (by simp) (fun h => h1 (by simp [List.mem_singleton.mp h])) e) hP
      have N2 : News s.heap L s2.heap ((ch, listObj vs c) :: restX s.heap s2.heap L [L, L + 1, ch, it]) :=
        allC ⟨hE.heap _ _ (by simp) (fun h => hchne (List.mem_singleton.mp h)) (N _ (.head _)).1, (N _ (.head _)).2⟩ (restX_news _ _ _ _)
      have hg2 : GExt NoG s.gens s2.gens s.os s2.os := hg.trans (Ext.g hE)
      rw [List.append_nil] at hy
      subst hy
      replace F2 := fr_named (fr_named F2 "chosen" _ m1) "texts" _ ((if_neg (by decide)).trans m2)
      clear F N hP
      refine Box.mk ?_
      refine execs_box ?_
      k_steps
      rename Fr _ _ _ _ => F4
      rename News _ _ _ _ => N4
      rename IntsAre _ (List.flatten _) => hI
      rw [rep_flat] at hI
      rename (_ ∧ _ ∧ AllLt _ _) => ll9
      have hmo := N4 _ (.head _)
      have hch4 := N4 (ch, listObj vs c) (.tail _ (.tail _ (.head _)))
      refine Box.mk (most_second (dp := dp) (un := un) (fr := fr) (gd := gd) (L := L) (ch := ch) (m := _) P hdp hu hys F4 ((if_neg (by decide)).trans ((if_neg (by decide)).trans (if_pos rfl))) (if_pos rfl) (allC hmo (allC hch4 allN)) ll9.2.1 (Nat.lt_trans (Nat.lt_succ_self _) hLch) ?_ hI fun T s5 H wm cm nn l g1 k1 t1 t2 t3 t4 t5 t6 t7 t8 => ?_)
      · refine Mine.Paired.up (fun c v h => ?_) hP2
        exact ((h.walk (.head _) N4 fun q hq => .tail _ (.tail _ (.tail _ hq))).notList hmo.1 rfl).less fun a ha => by
          simp only [List.mem_cons, List.not_mem_nil, or_false] at ha ⊢
          rcases ha with h | h | h <;> simp [h]
      · have g2 : GExt NoG s.gens s5.gens s.os s5.os := hg2.trans ⟨g1.gens, g1.gsize, g1.bare, g1.os⟩
        exact hQ T s5 _ H wm cm nn l ⟨fun b o _ _ e => k1 b o e, fun b o hb => absurd hb (by simp), g2.gens, g2.gsize, g2.bare, g2.os⟩ t1 t2 t3 t4 t5 t6 t7 t8
    | cons y ys' =>
      refine (it_list rfl it tl hne (strs_paired hi) (fun _ => True) []).cons y ys' s' _ _ trivial hR fun v s2 hv hE hR2 => ?_
      obtain ⟨ty, rfl⟩ := hv
      have hLit : (L : Nat) ∉ [it] := fun h => hitL (List.mem_singleton.mp h)
      have F2 := hE.fr F hLit (fun b hb => nomatch hb) hX
      have hchne : ch ≠ it := Nat.ne_of_lt hchit
      have hcne : L + 1 ≠ it := Nat.ne_of_lt (Nat.lt_trans hLch hchit)
      have hP2 : Paired (fun c v => ChX w s.heap [L, L + 1, ch, it] c v s2.heap) (subsOf done) vs := Mine.Paired.up (fun c v h => h.keep fun b o h1 _ e => hE.heap b o (by simp) (fun h => h1 (by simp [List.mem_singleton.mp h])) e) hP
      obtain ⟨o2, ho2⟩ : ∃ o, s2.heap.get? it = some o := by
        obtain ⟨i, _, ⟨hI, _⟩, _⟩ := hR2
        exact ⟨_, hI.choose_spec.1⟩
      have hsmall : ∀ b ∈ [it], b ≠ ch ∧ b ≠ L + 1 := fun b hb => by rw [List.mem_singleton.mp hb]; exact ⟨Ne.symm hchne, Ne.symm hcne⟩
      have N2 : News s.heap L s2.heap ((ch, listObj vs c) :: (L + 1, q) :: (it, o2) :: restX s.heap s2.heap L [L, L + 1, ch, it]) :=
        allC ⟨hE.heap _ _ (by simp) (fun h => hchne (List.mem_singleton.mp h)) (N _ (.head _)).1, (N _ (.head _)).2⟩ (allC ⟨hE.heap _ _ (by simp) (fun h => hcne (List.mem_singleton.mp h)) (N _ (.tail _ (.head _))).1, (N _ (.tail _ (.head _))).2⟩ (allC ⟨ho2, Ne.symm hitL, hitb⟩ (restX_news _ _ _ _)))
      have F20 : Box (Fr s.heap L s2.heap m) := ⟨F2⟩
      replace F2 := fr_named (fr_named F2 "chosen" _ m1) "texts" _ ((if_neg (by decide)).trans m2)
      clear F N
      refine wpAny_of_eq (a := ()) rfl ?_
      k_steps
      rename_i h3' F3 N3
      have hP3 : Paired (fun c v => ChX w s.heap [L, L + 1, ch, it] c v h3') (subsOf done) vs := Mine.Paired.up (fun c v h => h.walk (.head _) N3 fun q hq => .tail _ (.tail _ (.tail _ hq))) hP2
      clear hP2 hP
      refine Box.mk (route_spec (P.keepAll F3.keep) (by show dp + 1 + 5 < 450; omega) (by show un + 3 + 30 ≤ 4500; omega) (hy8 y (by rw [hy]; simp)) fun D1 s4 lR hE4 hD1n hS1 hl1 hm1 => ?_)
      have k4 := hE4.keepAll
      have F4 := Fr.keepAll F3 k4
      have N4 := News.keepAll N3 k4
      obtain ⟨_, o1, _, _, _, ho1, _⟩ := id hS1
      refine wpAny_storeName_cell (v₀ := st) rfl rfl rfl ⟨q, (N4 _ (.tail _ (.head _))).1, dq⟩ fun h5' hc5 hs5 => ?_
      obtain ⟨q5, hq5, dq5⟩ := hc5
      have hc1 := N4 (L + 1, q) (.tail _ (.head _))
      have hLc : L ≠ L + 1 := Nat.ne_of_lt (Nat.lt_succ_self _)
      have F6 : Fr s.heap L h5' _ := ⟨F4.ns.sameBut hs5 hLc, fun b ob e => (hs5.2 b (fun z => by rw [z, hc1.2.2] at e; cases e)).trans (F4.keep b ob e), F4.above⟩
      have hch0 := N4 (ch, listObj vs c) (.head _)
      have hit0 := N4 (it, o2) (.tail _ (.tail _ (.head _)))
      have hD1c : D1 ≠ L + 1 := fun z => by
        have := (N3 (L + 1, q) (.tail _ (.head _))).1
        rw [← z] at this
        dsimp only at hD1n
        rw [hD1n] at this; cases this
      have hD1L : D1 ≠ L := fun z => by
        obtain ⟨o, _, _, ho, _⟩ := F3.ns
        rw [← z] at ho
        dsimp only at hD1n
        rw [hD1n] at ho; cases ho
      have hD1b : s.heap.get? D1 = none := KeepAll.none_of F3.keep hD1n
      have N6 : News s.heap L h5' ((ch, listObj vs c) :: (L + 1, q5) :: (it, o2) :: (D1, o1) :: restX s.heap s2.heap L [L, L + 1, ch, it]) :=
        allC ⟨(hs5.2 _ (Nat.ne_of_gt hLch)).trans hch0.1, hch0.2⟩ (allC ⟨hq5, hc1.2⟩ (allC ⟨(hs5.2 _ (Ne.symm hcne)).trans hit0.1, hit0.2⟩ (allC ⟨(hs5.2 _ hD1c).trans ho1, hD1L, hD1b⟩ fun p hp =>
          have z := N4 p (.tail _ (.tail _ (.tail _ hp)))
          ⟨(hs5.2 _ (fun e => restX_off p hp (by rw [e]; simp))).trans z.1, z.2⟩)))
      have hS6 : SetD (strKind prog w) h5' D1 lR := hS1.at_ fun o e => (hs5.2 _ hD1c).trans e
      have hP6 : Paired (fun c v => ChX w s.heap [D1, L, L + 1, ch, it] c v h5') (subsOf done) vs := Mine.Paired.up (fun c v h => (ChX.fresh h (a := D1) hD1n).keep fun b o h1 _ e => (hs5.2 b (fun z => h1 (by rw [z]; simp))).trans (k4 b o e)) hP3
      clear hP3 F3 N3 F4 N4
      refine cut_state (h' := h5') (fun sd ea4 ea5 ea6 => ?_) rfl
      subst ea4
      refine execs_box ?_
      k_steps
      refine Box.mk (comp_head (by with_unfolding_all exact rfl) rfl (by decide) ?_)
      k_steps
      have hlen : (subsOf done).length = vs.length := hP6.length
      refine Box.mk (list_src (xs := (subsOf done).zip vs) (items := vs.toArray) ⟨_, (N6 _ (.head _)).1, rfl, _, rfl⟩ fun se it2 oi2 hit2 ke ge oe hin2 hio2 hic2 hne2 hR3 => ?_)
      have Fe := Fr.keepAll F6 ke
      have Ne := News.keepAll N6 ke
      have hoff2 := news_off N6 hin2
      have hit2L := fr_off F6 hin2
      have hit2b : ∀ b, b ∈ [it2] → s.heap.get? b = none := fun b hb => by rw [List.mem_singleton.mp hb]; exact KeepAll.none_of F6.keep hin2
      have hSe : SetD (strKind prog w) se.heap D1 lR := hS6.keep ke
      have hdl : ∀ c ∈ subsOf done, c.length ≤ 5 := fun c hc => by
        have h1 := subsOf_le done c hc
        rw [hy, List.length_append, List.length_cons] at hys
        omega
      have hdn : (subsOf done).length ≤ 64 := by
        rw [subsOf_len]
        rw [hy, List.length_append, List.length_cons] at hys
        exact Nat.le_trans (Nat.pow_le_pow_right (by decide : 0 < 2) (show done.length ≤ 6 by omega)) (by decide)
      clear F6 N6
      refine comp_overT (l := [envOfC (Str.ofString "_law_most") mostDef.2 L 172 (.ref 171)]) (base := s.heap) (F := fun p v h => ChS w (se.heap.objs.size + 1) (p.1 ++ [y]) v h) (by decide) rfl (it_list rfl it2 ch hne2 (zip_paired hlen) _ _) hR3 (okl_of_fr Fe rfl ?_)
        (fun b hb => ?_) (fun b hb => ?_) hit2b (fun D C ND p v s5 s6 h X => ?_) ?_ (by rw [List.length_zip]; omega) ?_
      · show ScopeKind.function ≠ ScopeKind.module
        decide
      · rcases List.mem_cons.mp hb with rfl | hb
        · exact ⟨oi2, hio2⟩
        · rw [List.mem_singleton.mp hb]; exact ⟨_, (Ne _ (.head _)).1⟩
      · simp only [frs, List.filterMap]
        rcases List.mem_cons.mp hb with rfl | hb
        · exact fun h => hit2L (List.mem_singleton.mp h).symm
        · rw [List.mem_singleton.mp hb]; exact fun h => (Ne _ (.head _)).2.1 (List.mem_singleton.mp h)
      · obtain ⟨T, D', t, l, rfl, h1, h2, h3⟩ := h
        have lt1 := Heap.lt_size hio2
        have lt2 := Fe.ns.lt
        refine ⟨T, D', t, l, rfl, h1, h2, h3.keep (fun o e => X.heap T o ?_ ?_ e) (fun o e => X.heap D' o ?_ ?_ e)⟩
        · exact fun h => (far_off h1 ND.lt ND.hi lt1 lt2).1 (List.mem_singleton.mp h)
        · have := far_off h1 ND.lt ND.hi lt1 lt2
          rintro (h | h | h)
          · exact this.2.1 h
          · exact this.2.2.1 h
          · exact this.2.2.2 (List.mem_singleton.mp h)
        · exact fun h => (far_off h2 ND.lt ND.hi lt1 lt2).1 (List.mem_singleton.mp h)
        · have := far_off h2 ND.lt ND.hi lt1 lt2
          rintro (h | h | h)
          · exact this.2.1 h
          · exact this.2.2.1 h
          · exact this.2.2.2 (List.mem_singleton.mp h)
      · rintro D C ND p pys v s5 m5 hp hR5 ok5 X5 hn5 rfl
        obtain ⟨i5, _, ⟨hI5, _⟩, _⟩ := hR5
        obtain ⟨T, D', t, l, hT, ⟨hT1, hT2⟩, ⟨hD1, hD2⟩, hCh⟩ := zip_mem hP6 p hp
        rw [hT]
        refine wpAny_letOwnedTupleGo_listiter hI5 ?_
        obtain ⟨F5, N5⟩ := elt_ready Fe Ne rfl ND X5 hoff2 ok5.1 hn5
        have hset := hCh.set
        obtain ⟨_, oD', _, _, _, hoD', _⟩ := id hset
        have new : ∀ b o, b ≠ L → sd.heap.get? b = some o → s5.heap.get? b = some o := fun b o hbL e => by
          refine X5.heap b o (fun h => hbL (List.mem_singleton.mp h)) ?_ (ke b o e)
          rintro (h | h | h)
          · have := ND.d; rw [← h, ke b o e] at this; cases this
          · have := ND.c; rw [← h, ke b o e] at this; cases this
          · rw [List.mem_singleton.mp h, hin2] at e; cases e
        have notC : ∀ b o, sd.heap.get? b = some o → b ≠ C := fun b o e h => by
          have := ND.c; rw [← h, ke b o e] at this; cases this
        have hTL : T ≠ L := fun h => hT1 (by rw [h]; simp)
        have hDL : D' ≠ L := fun h => hD1 (by rw [h]; simp)
        have tT5 := new T _ hTL hCh.tup
        have S5 : SetD (strKind prog w) s5.heap D' l := hset.at_ fun o e => new D' o hDL e
        have SR : SetD (strKind prog w) s5.heap D1 lR := hS6.at_ fun o e => new D1 o hD1L e
        have hlp := hdl p.1 (List.of_mem_zip hp).1
        have hll := hCh.len
        have hDne : D' ≠ D1 := fun h => hD1 (by rw [h]; simp)
        have N5' : News s.heap C s5.heap ((T, tupObj #[.int (p.1.length : Nat) t, .ref D']) :: ((ch, listObj vs c) :: (L + 1, q5) :: (it, o2) :: (D1, o1) :: restX s.heap s2.heap L [L, L + 1, ch, it] ++ restOf s.heap s5.heap C)) :=
          allC ⟨tT5, notC T _ hCh.tup, hT2⟩ N5
        have F50 : Box (Fr s.heap C s5.heap m5) := ⟨F5⟩
        simp only [List.cons_append, List.nil_append] at N5'
        clear N5 Fe Ne
        k_steps
        rename_i h6 F6 N6
        refine store_comp F6 N6 fun h7 F7 N7 => ?_
        clear F6 N6
        k_steps
        rename Fr _ _ _ _ => F6
        rename News _ _ _ _ => N6
        refine store_comp F6 N6 fun h8 F8 N8 => ?_
        clear F6 N6
        k_steps
        have keep8 : ∀ b o, sd.heap.get? b = some o → s.heap.get? b = none → s5.heap.get? b = some o → h8.get? b = some o := fun b o e0 eb e => (N8 (b, o) (.tail _ (.tail _ (.tail _ (.tail _ (.tail _ (List.mem_append_right _ (restOf_mem e (notC b o e0) eb)))))))).1
        have SA : SetD (strKind prog w) h8 D' l := by
          obtain ⟨hnd, ox, es, ep, tt, hox, r⟩ := hset
          exact ⟨hnd, ox, es, ep, tt, keep8 D' ox hox hD2 (new D' ox hDL hox), r⟩
        have SB : SetD (strKind prog w) h8 D1 lR := by
          obtain ⟨hnd, ox, es, ep, tt, hox, r⟩ := hS6
          exact ⟨hnd, ox, es, ep, tt, keep8 D1 ox hox hD1b (new D1 ox hD1L hox), r⟩
        refine Box.mk (or_sets SA SB hDne (by omega) fun D9 h9 l9 hn9 hlt9 k9 hS9 hm9 => ?_)
        obtain ⟨_, o9, _, _, _, ho9, _⟩ := id hS9
        have F9 := Fr.keepAll F8 k9
        obtain ⟨oC, _, _, hoC, _⟩ := F8.ns
        have hC9 : C < D9 := hlt9 C oC hoC
        have N9 : News s.heap C h9 ((D9, o9) :: (T, tupObj #[.int (p.1.length : Nat) t, .ref D']) :: ((ch, listObj vs c) :: (L + 1, q5) :: (it, o2) :: (D1, o1) :: (restX s.heap s2.heap L [L, L + 1, ch, it] ++ restOf s.heap s5.heap C))) :=
          allC ⟨ho9, Nat.ne_of_gt hC9, KeepAll.none_of F8.keep hn9⟩ (News.keepAll N8 k9)
        clear N8 F8
        k_steps
        rename_i Tn hn' Fz Nz ltn
        have hz := Nz _ (.head _)
        have hsz : ∀ a b c d : Nat, a ≤ b → b < c → c < d → a + 1 < d := fun a b c d h1 h2 h3 => by omega
        have h9a := hsz _ _ _ _ ND.dsz ND.lt hC9
        have e1 : ((p.1.length : Nat) : Int) + 1 = (((p.1 ++ [y]).length : Nat) : Int) := by simp
        refine elt_end F50.out Fz Nz (fun q hq => by simp [hq]) rfl rfl ⟨_, D9, _, l9, rfl, Nat.lt_trans h9a ltn.1, h9a, ⟨by rw [← e1]; exact hz.1, hS9.at_ fun o e => ?_, ?_, fun z => ?_⟩⟩
        · rw [ho9] at e; cases e
          exact (Nz (D9, o9) (.tail _ (.head _))).1
        · have := nodup_le l9 (l ++ lR) hS9.1 fun z hz => List.mem_append.mpr ((hm9 z).mp hz)
          rw [List.length_append] at this
          rw [List.length_append, List.length_singleton]
          omega
        · rw [hm9 z, hCh.mem z, hm1 z]
          constructor
          · rintro (⟨a, ha, hz⟩ | hz)
            · exact ⟨a, List.mem_append_left _ ha, hz⟩
            · exact ⟨y, by simp, hz⟩
          · rintro ⟨a, ha, hz⟩
            rcases List.mem_append.mp ha with ha | ha
            · exact .inl ⟨a, ha, hz⟩
            · rw [List.mem_singleton.mp ha] at hz; exact .inr hz
      · intro D2 s7 vs2 c2 hDn hDs hX hDv hP7
        obtain ⟨Fc, Nc, lD⟩ := comp_after Fe Ne hX rfl (fun h => hit2L (List.mem_singleton.mp h)) hit2b hoff2 hDs hDv
        have hchc := Nc (ch, listObj vs c) (.tail _ (.head _))
        have hv2 : vs2.length = vs.length := by
          have := hP7.length
          rw [List.length_zip, hlen, Nat.min_self] at this
          exact this.symm
        refine iadd_lists hchc.1 (Nc _ (.head _)).1 (by omega) fun h8 c8 hch8 hs8 => ?_
        have F8 : Fr s.heap L h8 _ := ⟨Fc.ns.sameBut hs8 hchc.2.1.symm, fun b ob e => (hs8.2 b (fun z => by rw [z, hchc.2.2] at e; cases e)).trans (Fc.keep b ob e), Fc.above⟩
        refine wpAny_storeName_local rfl F8.ns (fun h9 hn9 hs9 => ?_) rfl
        refine Box.mk (wpAny_execs_nil ⟨ys'.length, by rw [hn]; exact Nat.lt_succ_self _, ?_⟩)
        have up : ∀ b o, b ≠ L → b ≠ ch → s7.heap.get? b = some o → h9.get? b = some o := fun b o n1 n2 e => (hs9.2 b n1).trans ((hs8.2 b n2).trans e)
        have F9 : Fr s.heap L h9 _ := F8.set hn9 hs9
        have hc9 := Nc (L + 1, q5) (.tail _ (.tail _ (.head _)))
        have hi9 := Nc (it, o2) (.tail _ (.tail _ (.tail _ (.head _))))
        have N9 : News s.heap L h9 [(ch, listObj (vs ++ vs2) c8), (L + 1, q5), (it, o2)] :=
          allC ⟨(hs9.2 ch hchc.2.1).trans hch8, hchc.2⟩ (allC ⟨up _ _ hc9.2.1 (Nat.ne_of_gt hLch).symm hc9.1, hc9.2⟩ (allC ⟨up _ _ hi9.2.1 hchne.symm hi9.1, hi9.2⟩ allN))
        have hbL : s.heap.objs.size ≤ L := F9.above
        refine ⟨done ++ [y], ys', _, vs ++ vs2, c8, q5, o2, _, by rw [hy]; simp, rfl, ?_, F9, if_pos rfl, (if_neg (by decide)).trans ((if_neg (by decide)).trans (if_pos rfl)), N9, dq5, ?_, ?_⟩
        · obtain ⟨i, h1, ⟨h2, _⟩, h3⟩ := hR2
          obtain ⟨o, ho, r⟩ := h2
          rw [ho2] at ho; cases ho
          exact ⟨i, h1, ⟨⟨o2, N9.get (by k_mem), r⟩, F9.lst hl⟩, h3⟩
        · rw [subsOf_snoc]
          refine Paired.app2 (Mine.Paired.up (fun c v h => ?_) hP6) (zip_fst (f := fun c => c ++ [y]) hlen (Mine.Paired.up (fun p v h => ?_) hP7))
          · refine (h.keep (h' := h9) fun b o h1 h2 e => ?_).less fun a ha => .tail _ ha
            refine up b o (fun z => h1 (by rw [z]; simp)) (fun z => h1 (by rw [z]; simp)) (hX.heap b o (fun z => h1 (by rw [List.mem_singleton.mp z]; simp)) (fun z => ?_) (ke b o e))
            rw [List.mem_singleton.mp z, hin2] at e; cases e
          · obtain ⟨T, D', t, l, rfl, g1, g2, g3⟩ := h
            have b1 := Heap.lt_size (Ne (ch, listObj vs c) (.head _)).1
            have b2 := Heap.lt_size (Ne (L + 1, q5) (.tail _ (.head _))).1
            have b3 := Heap.lt_size (Ne (it, o2) (.tail _ (.tail _ (.head _)))).1
            have b4 := Fe.ns.lt
            have f1 := off4b g1 b4 b2 b1 b3
            have f2 := off4b g2 b4 b2 b1 b3
            refine ⟨T, D', t, l, rfl, ⟨f1, get?_size_none _ (le3 hbL b4 g1)⟩, ⟨f2, get?_size_none _ (le3 hbL b4 g2)⟩, g3.keep (fun o e => up T o (fun z => f1 (by rw [z]; simp)) (fun z => f1 (by rw [z]; simp)) e) (fun o e => up D' o (fun z => f2 (by rw [z]; simp)) (fun z => f2 (by rw [z]; simp)) e)⟩
        · have g1 : GExt NoG s.gens s2.gens s.os s2.os := hg.trans (Ext.g hE)
          have g2 : GExt NoG s2.gens s4.gens s2.os s4.os := ⟨hE4.gens, hE4.gsize, hE4.bare, hE4.os⟩
          have g3 : GExt NoG se.gens s7.gens se.os s7.os := Ext.g hX
          rw [ge, oe, ea5, ea6] at g3
          exact (g1.trans g2).trans g3
end
end Mine2
end
end
section
open PySem PySem.W PyProof.Rows Mine
local macro_rules | `(tactic| walk_at "pyIter ref") => `(tactic| ((with_reducible show wpAny _ _ (pyIter (Value.ref _)) _ _ _); refine unbox ?_))
section
open PySem PySem.W PyProof.Rows Mine
set_option maxRecDepth 100000
set_option maxHeartbeats 8000000
namespace Mine2
section
variable {w : World} {mg mb : Str → Option Value} {dp un : Nat} {fr : Option (List Env)} {gd : Option (List Code)} {s : Shared} {Q : Value → Shared → Prop} {E : Value → Shared → Prop}
inductive TxtJ (base : Heap) (L it : Addr) (s : Shared) (n : Nat) (s' : Shared) : Prop
  | mk (ys : List Nat) (m : Str → Option Value) (z : Int) (t : Tok) (y : Str) (t' : Tok) (hn : n = ys.length) (hR : RngR 8 it ys s') (F : Fr base L s'.heap m) (m1 : m "number" = some (.int z t)) (m2 : m "text" = some (.str y t')) (hy : y.length + n ≤ 8)
      (hg : GExt NoG s.gens s'.gens s.os s'.os)
theorem text_spec {z : Int} {t : Tok} (P : PW w mg mb s.heap) (hdp : dp + 5 < 450) (hu : un + 30 ≤ 4500)
    (hQ : ∀ y t' s', Ext [] NoA NoG s s' → y.length ≤ 8 → Q (.str y t') s') :
    wpAny (model prog w) (Ar dp un fr gd) (PySem.call (.ref 162) [.int z t]) Q E s := by
  obtain ⟨KX, T⟩ := P
  have ho : s.heap.get? 162 = some _ := KX 162 _ (by k_is)
  refine wpAny_call ?_
  refine call_plain (by first | (show dp < recursionLimit; omega) | (show dp < 1000; omega)) ho rfl T.nolimit ?_ rfl ?_ ?_
  · exact ⟨161, _, _, _, rfl, KX 161 _ (by k_is), rfl, rfl⟩
  · exact locs rfl
  clear ho
  intro h₁ F
  have N : News s.heap s.heap.objs.size h₁ [] := News.nil
  refine execs_box ?_
  k_steps
  rename_i h2 F2 N2
  refine Box.mk (execs_box (for_stmt ?_))
  k_steps
  rename_i h3 tk3 t1 u1 v1 hr F3 N3 k3
  refine Box.mk ?_
  refine range_src (n := 8) hr (by decide) fun sb it oi hit kb gb ob hin hio hic hR => ?_
  dsimp only at hit kb hin gb ob
  have hitL := fr_off F3 hin
  have hitb : s.heap.get? it = none := KeepAll.none_of F3.keep hin
  have hW : ∀ b, b ∈ [it] → s.heap.get? b = none := fun b hb => by rw [List.mem_singleton.mp hb]; exact hitb
  have Fb := Fr.keepAll F3 kb
  refine ⟨TxtJ s.heap s.heap.objs.size it s, 8, ⟨List.range 8, _, z, t, Str.ofString "", _, rfl, hR, Fb, ?_, if_pos rfl, by decide, by rw [gb, ob]; exact GExt.refl _ _ _⟩, fun n s' hJ => ?_⟩
  · rfl
  obtain ⟨ys, m, z, t, y, t', hn, hR, F, m1, m2, hy, hg⟩ := hJ
  rename Fr _ _ h2 _ => F2
  rename News _ _ h2 _ => N2
  clear F3 N3 Fb F2 N2 k3 hr kb hio hic
  cases ys with
  | nil =>
    refine (it_range rfl it 8 (fun _ => True) []).nil s' _ _ trivial hR fun s2 hE => ?_
    refine Box.mk ?_
    have F4 := fr_named (hE.fr F (fun h => hitL (List.mem_singleton.mp h)) (fun b hb => nomatch hb) hW) "text" _ m2
    have N4 : News s.heap s.heap.objs.size s2.heap [] := News.nil
    have hg2 := hg.trans (Ext.g hE)
    have e1 : Ext [] NoA NoG s s2 := ⟨fun b o _ _ e => F4.keep b o e, fun b o hb => absurd hb (by simp), hg2.gens, hg2.gsize, hg2.bare, hg2.os⟩
    clear F
    k_steps
    exact hQ y t' _ (e1.trans (.of_keep fun _ _ e => e)) (by omega)
  | cons k ys =>
    refine (it_range rfl it 8 (fun _ => True) []).cons k ys s' _ _ trivial hR fun v s2 hv hE hR2 => ?_
    have F4 := fr_named (fr_named (hE.fr F (fun h => hitL (List.mem_singleton.mp h)) (fun b hb => nomatch hb) hW) "text" _ m2) "number" _ ((if_neg (by decide)).trans m1)
    obtain ⟨o2, ho2⟩ : ∃ o, s2.heap.get? it = some o := by
      obtain ⟨i, _, hI, _⟩ := hR2
      exact ⟨_, hI⟩
    have N4 : News s.heap s.heap.objs.size s2.heap [(it, o2)] := allC ⟨ho2, Ne.symm hitL, hitb⟩ allN
    clear F
    refine wpAny_of_eq (a := ()) rfl ?_
    k_steps
    rotate_left 2
    · exact ys.length
    · rw [hn]; exact Nat.lt_succ_self _
    · rename Fr _ _ _ _ => F5
      rename News _ _ _ _ => N5
      rename (_ ∧ _) => hz
      have h1 : (Txt.item (Str.ofString "//.a") (z.fmod 4)).length = 1 := by assumption
      have h5 := N5.get (a := it) (by k_mem)
      refine ⟨ys, _, _, _, _, _, rfl, ?_, F5, if_pos rfl, (if_neg (by decide)).trans (if_pos rfl), ?_, ?_⟩
      · exact (it_range (prog := prog) (w := w) (A := Ar dp un fr gd) rfl it 8 (fun _ => True) []).keeps ys s2 _ hR2 (fun b hb o e => by
          rw [List.mem_singleton.mp hb] at e ⊢
          rw [ho2] at e; cases e
          exact h5) fun _ _ _ e => e
      · rw [hn] at hy
        simp only [List.length_cons] at hy
        omega
      · exact hg.trans (show GExt NoG s'.gens s2.gens s'.os s2.os from Ext.g hE)
end
end Mine2
end
local macro_rules | `(tactic| walk_at "eval ListComp") => `(tactic| ((with_reducible show wpAny _ _ (eval (PySem.Expr.ListComp _ _ _ _) _) _ _ _); refine unbox ?_))
local macro_rules | `(tactic| walk_at "call ref") => `(tactic| ((with_reducible show wpAny _ _ (PySem.call (Value.ref _) _) _ _ _); refine unbox ?_))
local macro_rules | `(tactic| walk_at "eval Name") => `(tactic| ((with_reducible show wpAny _ _ (eval (PySem.Expr.Name _ _) (compEnvC _ _ _ _)) _ _ _); with_unfolding_all first
  | refine lcf_cell (by k_asm) (by rfl) (by k_mem) (by k_asm) ?_ (by rfl) (by rfl)
  | refine cn_local (by k_asm) (by first | exact if_pos rfl | rfl) ?_
  | refine cn_global (by k_asm) (by k_asm) (by k_asm) (by k_is) ?_
  | refine cn_built (by k_asm) (by k_asm) (by k_asm) (by k_is) (by boot_by_name) (by decide) ?_))
section
open PySem PySem.W PyProof.Rows PyProof.V Mine
set_option maxRecDepth 100000
set_option maxHeartbeats 8000000
namespace Mine2
noncomputable def lawDef : List Stmt × Scope := ((defOf (Str.ofString "law") PySem.Challenge.pw_kl0057_02.main.body).getD ([], default))
theorem law_kind : lawDef.2.kind ≠ .module := by
  show ScopeKind.function ≠ ScopeKind.module
  decide
section
variable {w : World} {mg mb : Str → Option Value} {dp un : Nat} {gd : Option (List Code)} {s : Shared} {Q : Flow → Shared → Prop} {E : Value → Shared → Prop}
abbrev TxtV (_ : Nat) (v : Value) (_ : Heap) : Prop := ∃ y t, v = .str y t ∧ y.length ≤ 8
theorem txts {xs : List Nat} {vs : List Value} {h : Heap} (x : Paired (fun y v => TxtV y v h) xs vs) : ∃ ys, StrsAre vs ys ∧ ys.length = xs.length ∧ ∀ y ∈ ys, y.length ≤ 8 := by
  induction x with
  | nil => exact ⟨[], .nil, rfl, fun _ h => nomatch h⟩
  | cons h t ih =>
    obtain ⟨y, tk, rfl, hy⟩ := h
    obtain ⟨ys, h1, h2, h3⟩ := ih
    exact ⟨y :: ys, .cons y tk h1, congrArg Nat.succ h2, fun z hz => by
      rcases List.mem_cons.mp hz with rfl | hz
      · exact hy
      · exact h3 z hz⟩
theorem law_1 {base : Heap} {L fa ls : Addr} {cd : Value} {m : Str → Option Value} {vals : List Value} {ns : List Int} {q1 q2 q3 : Obj} (PB : PW w mg mb base)
    (hdp : dp ≤ 310) (hu : un ≤ 3000) (hl : base.IsList ls vals.toArray) (hi : IntsAre vals ns) (hns : ns.length ≤ 63)
    (F : Fr base L s.heap m) (N : News base L s.heap [(L + 1 + 1 + 1, q3), (L + 1 + 1, q2), (L + 1, q1)])
    (d1 : q1.data = .cell (some (.ref ls))) (d2 : q2.data = .cell none) (d3 : q3.data = .cell none)
    (hQ : ∀ s' tx ws ys, ys.length ≤ 6 → 1 ≤ ys.length → (∀ y ∈ ys, y.length ≤ 8) → StrsAre ws ys → GExt NoG s.gens s'.gens s.os s'.os → Fr base L s'.heap (fun y => if y = Str.ofString "texts" then some (.ref tx) else m y) →
      News base L s'.heap [(tx, W.listOf ws.toArray 0), (L + 1 + 1 + 1, q3)] → (L + 1 + 1 + 1 : Nat) < (tx : Nat) →
      wpAny (model prog w) ((Ar dp un (some []) gd).deeper (envOfC (Str.ofString "law") lawDef.2 L fa cd)) (execs (lawDef.1.drop 2) (envOfC (Str.ofString "law") lawDef.2 L fa cd)) Q E s') :
    wpAny (model prog w) ((Ar dp un (some []) gd).deeper (envOfC (Str.ofString "law") lawDef.2 L fa cd)) (execs (lawDef.1.drop 0) (envOfC (Str.ofString "law") lawDef.2 L fa cd)) Q E s := by
  conv in (List.drop 0 _) => whnf
  conv => enter [2, 2, 2]; whnf
  conv => enter [3, 2, 2]; whnf
  obtain ⟨KX, T⟩ := id PB
  refine execs_box ?_
  k_steps
  rename Fr _ _ _ _ => F1
  rename News _ _ _ _ => N1
  rename_i h1 o2 dc2
  refine Box.mk ?_
  have ecnt : (if 5 < (ns.length : Int) then (5 : Int) else (ns.length : Int)) = ((min ns.length 5 : Nat) : Int) := by
    split <;> omega
  rw [ecnt] at dc2
  obtain ⟨tc, dc2⟩ : ∃ t, o2.data = Data.cell (some (.int ((min ns.length 5 : Nat) : Int) t)) := ⟨_, dc2⟩
  generalize hcnt : min ns.length 5 = cnt at dc2
  have hc5 : cnt ≤ 5 := by omega
  clear ecnt
  refine cut_state (h' := h1) (fun sa ea1 ea2 ea3 => ?_) rfl
  subst ea1
  replace ea2 : sa.gens = s.gens := ea2
  replace ea3 : sa.os = s.os := ea3
  refine execs_box ?_
  k_steps
  refine Box.mk (comp_head (by with_unfolding_all exact rfl) rfl (by decide) ?_)
  k_steps
  rename_i h2 tk2 t1 u1 v1 hr F2 N2 k2
  refine Box.mk (range_src hr (by omega) fun sb it oi hit kb gb ob hin hio hic hR => ?_)
  dsimp only at hit kb hin
  replace gb : sb.gens = sa.gens := gb
  replace ob : sb.os = sa.os := ob
  have Fb := Fr.keepAll F2 kb
  have Nb := News.keepAll N2 kb
  have hWn := news_off N2 hin
  have hLit := fr_off F2 hin
  refine comp_over (l := [envOfC (Str.ofString "law") lawDef.2 L fa cd]) (base := base) (F := TxtV) (by decide) rfl rfl (it_range rfl it cnt _ _) hR (okl_of_fr Fb rfl law_kind) (fun b hb => ⟨oi, by rw [List.mem_singleton.mp hb]; exact hio⟩)
    (fun b hb => by rw [List.mem_singleton.mp hb]; simp only [frs, List.filterMap]; exact fun h => hLit (List.mem_singleton.mp h).symm) (fun b hb => by rw [List.mem_singleton.mp hb]; exact KeepAll.none_of F2.keep hin) (fun _ _ _ _ _ _ _ h _ => h) ?_ (by simp; omega) ?_
  · rintro D C ND y v s₃ m₃ hy ok3 X3 hn3 hx ⟨tv, rfl⟩
    obtain ⟨F3, N3⟩ := elt_ready Fb Nb rfl ND X3 hWn ok3.1 hn3
    simp only [List.cons_append, List.nil_append] at N3
    have F30 : Box (Fr base C s₃.heap m₃) := ⟨F3⟩
    replace F3 := fr_named F3 "start" _ hx
    clear F2 N2 Fb Nb
    k_steps
    have hyc : y < cnt := List.mem_range.mp hy
    have hvl : vals.length ≤ 63 := by rw [hi.length]; exact hns
    refine slice_tail ((F3.lst hl).push _) (Heap.IsSliceOf.new ..) (.int _ _) .none (.int _ _) (by simp; omega) (by simp; omega) ?_ (by with_unfolding_all rfl)
    obtain ⟨ms, hms⟩ := ints_pick hi (some (y : Int)) none (some (cnt : Int))
    k_steps
    refine sum_any (vs := (slicePick vals.toArray (some (y : Int)) none (some (cnt : Int))).toList) rfl ⟨_, Heap.get?_push_size _ rfl, rfl, _, rfl⟩ hms fun h' tk t' kh => ?_
    have k34 : KeepAll s₃.heap h' := fun b o e => kh _ _ (Heap.get?_push_of_some _ (Heap.get?_push_of_some _ e))
    have F4 := Fr.keepAll F3 k34
    have N4 := News.keepAll N3 k34
    clear F3 N3
    k_steps
    rename Fr _ _ _ _ => F5
    rename News _ _ _ _ => N5
    refine Box.mk (text_spec (PB.keepAll F5.keep) (by show dp + 1 + 5 < 450; omega) (by show un + 3 + 30 ≤ 4500; omega) fun y t' s6 hE6 hy8 => ?_)
    show EltEnd TxtV _ C s₃ _ (.str y t') s6
    exact ⟨⟨y, t', rfl, hy8⟩, (Ext.of_keep (s := s₃) k34).trans (hE6.mono (fun _ h => nomatch h) (fun _ h => h.elim) fun _ h => h), ⟨m₃, hn3.keeps (k34.trans hE6.keepAll)⟩⟩
  · intro D sc vs c hDn hDs hX hDv hP
    obtain ⟨Fc, Nc, lD⟩ := comp_after Fb Nb hX rfl (fun h => hLit (List.mem_singleton.mp h)) (fun b hb => by rw [List.mem_singleton.mp hb]; exact KeepAll.none_of F2.keep hin) hWn hDs hDv
    k_lt lD
    have hgs : GExt NoG sb.gens sc.gens sb.os sc.os := Ext.g hX
    clear F2 N2 Fb Nb hX
    k_steps
    rename Fr _ _ _ _ => F5
    rename News _ _ _ _ => N5
    refine Box.mk (text_spec (PB.keepAll F5.keep) (by show dp + 1 + 5 < 450; omega) (by show un + 3 + 30 ≤ 4500; omega) fun y t' s6 hE6 hy8 => ?_)
    have F6 := Fr.keepAll F5 hE6.keepAll
    have N6 := News.keepAll N5 hE6.keepAll
    clear F5 N5
    k_steps
    rename Fr _ _ _ _ => F7
    rename News _ _ _ _ => N7
    obtain ⟨ys, hys, hyl, hy8s⟩ := txts hP
    rw [List.length_range] at hyl
    have hvl : vs.length = cnt := by rw [← hP.length, List.length_range]
    refine add_lists F7 N7 ⟨_, N7.get (a := D) (by k_mem), rfl, _, rfl⟩ ⟨_, (N7 _ (.head _)).1, rfl, _, rfl⟩ (fun h8 F8 N8 => ?_) (by rw [hvl]; exact Nat.le_trans (show cnt + 1 ≤ 6 by omega) (by decide))
    have hlt8 := Heap.lt_size (N7 (L + 1 + 1 + 1, q3) (by k_mem)).1
    clear F7 N7
    k_steps
    rename Fr _ _ _ _ => F9
    rename News _ _ _ _ => N9
    have hG : GExt NoG s.gens s6.gens s.os s6.os := by
      have g1 : GExt NoG sc.gens s6.gens sc.os s6.os := ⟨hE6.gens, hE6.gsize, hE6.bare, hE6.os⟩
      rw [gb, ob, ea2, ea3] at hgs
      exact hgs.trans g1
    refine Box.mk (hQ _ _ (vs ++ [.str y t']) (ys ++ [y]) (by simp; omega) (by simp) (fun z hz => ?_) (Mine.StrsAre.snoc hys y t') hG F9 (allC (N9 _ (.head _)) (allC (N9 _ (by k_mem)) allN)) hlt8)
    rcases List.mem_append.mp hz with hz | hz
    · exact hy8s z hz
    · rw [List.mem_singleton.mp hz]; exact hy8
end
end Mine2
end
local macro_rules | `(tactic| walk_at "call type:list") => `(tactic| ((with_reducible show wpAny _ _ (PySem.call (Value.type "list") _) _ _ _); refine unbox ?_))
section
open PySem PySem.W PyProof.Rows PyProof.V Mine
set_option maxRecDepth 100000
set_option maxHeartbeats 8000000
namespace Mine2
noncomputable def loopBody : List Stmt := match lawDef.1.drop 4 with
  | .For _ _ b _ _ :: _ => b
  | _ => []
section
variable {w : World} {mg mb : Str → Option Value} {dp un : Nat} {gd : Option (List Code)} {s : Shared} {Q : Flow → Shared → Prop} {E : Value → Shared → Prop}
def AncOk (anc : Str → List Str) (ys : List Str) : Prop := ∀ y ∈ ys, y.length ≤ 8 ∧ AncComes (bare y) (anc y) ∧ (anc y).length ≤ 8
theorem law_news {base : Heap} {L fa tx tk c3 : Addr} {cd : Value} {m : Str → Option Value} {wt vt : List Value} {ct c1 : Nat} {ys T : List Str} {q3 : Obj} {R : List (Addr × Obj)} {anc : Str → List Str} (PB : PW w mg mb base)
    (hdp : dp ≤ 310) (hu : un ≤ 3000) (hwt : StrsAre wt ys) (hys : ys.length ≤ 6) (hanc : AncOk anc ys) (hvt : StrsAre vt T) (hT : T.length ≤ 1000) (hc3 : c3 = L + 1 + 1 + 1) (d3 : q3.data = .cell (some (.ref tk)))
    (F : Fr base L s.heap m) (N : News base L s.heap ((tx, listObj wt ct) :: (c3, q3) :: (tk, listObj vt c1) :: R)) (m1 : m "texts" = some (.ref tx))
    (hQ : ∀ s' D vs c, GExt NoG s.gens s'.gens s.os s'.os → Fr base L s'.heap (fun z => if z = Str.ofString "news" then some (.ref D) else m z) → News base L s'.heap ((D, listObj vs c) :: (tx, listObj wt ct) :: (c3, q3) :: (tk, listObj vt c1) :: R) →
      IntsAre vs (ys.map fun y => ((freshOf T (anc y)).length : Int)) → (∀ p ∈ (tx, listObj wt ct) :: (c3, q3) :: (tk, listObj vt c1) :: R, p.1 < D) →
      wpAny (model prog w) ((Ar dp un (some []) gd).deeper (envOfC (Str.ofString "law") lawDef.2 L fa cd)) (execs (loopBody.drop 1) (envOfC (Str.ofString "law") lawDef.2 L fa cd)) Q E s') :
    wpAny (model prog w) ((Ar dp un (some []) gd).deeper (envOfC (Str.ofString "law") lawDef.2 L fa cd)) (execs (loopBody.drop 0) (envOfC (Str.ofString "law") lawDef.2 L fa cd)) Q E s := by
  conv in (List.drop 0 _) => whnf
  conv => enter [2, 2, 2]; whnf
  conv => enter [3, 2, 2]; whnf
  obtain ⟨KX, T0⟩ := id PB
  subst hc3
  refine execs_box ?_
  have F0 : Box (Fr base L s.heap m) := ⟨F⟩
  replace F := fr_named F "texts" _ m1
  refine assign_head (by with_unfolding_all rfl) (by with_unfolding_all exact rfl) rfl (by decide) ?_
  k_steps
  have hwl : wt.length = ys.length := StrsAre.len hwt
  refine Box.mk (list_src (xs := ys) (items := wt.toArray) ⟨_, (N _ (.head _)).1, rfl, _, rfl⟩ fun sb it oi hit kb gb ob hin hio hic hne hR => ?_)
  have Fb := Fr.keepAll F0.out kb
  have Nb := News.keepAll N kb
  have hWn := news_off N hin
  have hLit := fr_off F hin
  have hitb : ∀ b, b ∈ [it] → base.get? b = none := fun b hb => by rw [List.mem_singleton.mp hb]; exact KeepAll.none_of F.keep hin
  have htxL : tx ≠ L := (N _ (.head _)).2.1
  have hPt : Paired (fun (y : Str) v => ∃ t, v = Value.str y t) ys wt.toArray.toList := by simpa using strs_paired hwt
  clear F N
  refine comp_set (l := [envOfC (Str.ofString "law") lawDef.2 L fa cd]) (base := base) (L := L) (mL := m) (F := fun y v _ => ∃ t, v = .int ((freshOf T (anc y)).length : Int) t) (by decide) rfl rfl rfl rfl rfl Fb.ns (fun h => hLit (List.mem_singleton.mp h)) (it_list rfl it tx hne hPt _ _) hR (okl_of_fr Fb rfl law_kind) (fun b hb => ?_)
    (fun b hb => ?_) hitb (fun _ _ _ _ _ _ _ h _ => h) (fun _ _ _ _ h _ => h) ?_ (by omega) ?_
  · exact allC (P := fun b => ∃ o, sb.heap.get? b = some o) ⟨oi, hio⟩ (allC ⟨_, (Nb _ (.head _)).1⟩ allN) b hb
  · exact allC (P := fun b => ¬ b ∈ [L]) (fun h => hLit (List.mem_singleton.mp h).symm) (allC (fun h => htxL (List.mem_singleton.mp h)) allN) b hb
  · rintro D' C ND y v s₃ m₃ hy ok3 X3 hn3 hx ⟨tv, rfl⟩
    obtain ⟨F5, N5⟩ := elt_ready Fb Nb rfl ND X3 hWn ok3.1 hn3
    simp only [List.cons_append, List.nil_append] at N5
    have F50 : Box (Fr base C s₃.heap m₃) := ⟨F5⟩
    replace F5 := fr_named F5 "text" _ hx
    obtain ⟨hy8, hcr, hcl⟩ := hanc y hy
    have hCs : base.objs.size ≤ s₃.heap.objs.size := Nat.le_trans F5.above (Nat.le_of_lt F5.ns.lt)
    have hbL : base.get? L = none := get?_size_none _ Fb.above
    clear Fb Nb hQ
    k_steps
    refine Box.mk (ancestry_new (base := base) PB ok3.1 hCs (by show dp + 1 < 1000; omega) (by omega) hcr fun a Lg s4 hE ha hLg hG => ?_)
    have F6 := Fr.keepAll F5 hE.keepAll
    have N6 := News.keepAll N5 hE.keepAll
    clear F5 N5
    k_steps
    have hL3 : ∃ o, s₃.heap.get? L = some o := let ⟨_, o, e, _⟩ := ok3.2.mem (b := L) (.head _); ⟨o, e⟩
    have fr1 : ∀ b, b ∈ frs [envOfC (Str.ofString "law") lawDef.2 L fa cd] → b = L := fun b hb => List.mem_singleton.mp (show b ∈ [L] from hb)
    refine Box.mk (difference_gen (base := base) (h0 := s₃.heap) (g0 := s₃.gens.size) PB F6.keep hE.keepAll hG (KeepAll.none_of ok3.1 ha) (KeepAll.none_of ok3.1 hLg) ha hLg (Nat.le_refl _) (setFrom_list (items := vt.toArray) (xs := T) ⟨_, N6.get (a := tk) (by k_mem), rfl, _, rfl⟩ (by simpa using hvt) (by unfold scanBound; omega)) (by show dp + 1 + 5 < 450; omega) (by show un + 3 + 30 ≤ 4500; omega) fun x s6 hE6 hS6 => ?_)
    obtain ⟨W2, V2, own2, R2, I2, hR2, hV2, hown⟩ := hS6
    have F7 := Fr.keepAll F6 hE6.keepAll
    have N7 := News.keepAll N6 hE6.keepAll
    have hE36 : Ext [] NoA NoG s₃ s6 := hE.trans hE6
    have ok6 : OkL base [envOfC (Str.ofString "law") lawDef.2 L fa cd] s6.heap := ok3.ext (hE36.mono (fun _ h => nomatch h) (fun _ h => h) fun _ h => h) fun b h => h.elim
    clear F6 N6
    k_steps
    refine Box.mk (call_list_own (l := [envOfC (Str.ofString "law") lawDef.2 L fa cd]) I2 (by show dp + 1 ≤ 400; omega) (by show un + 3 + 4 ≤ 4000; omega) (fun f hf h => ?_) T0.nolimit ok6.1 ok6.2 hR2 (Nat.le_trans (List.length_filter_le _ _) (by omega)) fun D2 s7 v2 c2 hE7 hD2 hD2l hDv2 hv2 => ?_)
    · obtain ⟨o, ho⟩ := hL3
      have := hown f h
      rw [fr1 f hf, ho] at this; cases this
    have hX7 : Ext (frs [envOfC (Str.ofString "law") lawDef.2 L fa cd]) NoA NoG s₃ s7 := ((hE36.mono (fun _ h => nomatch h) (W' := W2) (fun _ h => h.elim) (V' := V2) fun _ h => h.elim).trans hE7).shrink (fun b h => .inl (hown b (I2.sub b h))) fun g h => .inr (hV2 g h)
    have F8 : Fr base C s7.heap m₃ := Ext.fr hX7 F50.out (fun h => h) (fun b hb => by rw [fr1 b hb]; exact hbL) fun b h => h.elim
    obtain ⟨oC, _, _, hoC, _⟩ := F7.ns
    have hlC : C < D2 := hD2l _ _ hoC
    have hDb : base.get? D2 = none := KeepAll.none_of F7.keep hD2
    walk1
    refine PySem.Calls.call_len_list (items := v2.toArray) ⟨_, hDv2, rfl, _, rfl⟩ ?_ ?_
    · have h1 := (StrsAre.len hv2)
      have h2 := List.length_filter_le (fun y => !T.any fun x => x == y) (anc y)
      simp only [List.size_toArray]
      omega
    have hlen : v2.toArray.size = (freshOf T (anc y)).length := by simp [(StrsAre.len hv2), freshOf]
    rw [hlen]
    show EltEnd _ _ C s₃ _ _ _
    exact ⟨⟨_, rfl⟩, ⟨fun b o h1 _ e => hX7.heap b o h1 (fun h => h) e, fun b o h1 _ e => hX7.slots b o h1 (fun h => h) e, hX7.gens, hX7.gsize, hX7.bare, hX7.os⟩, ⟨m₃, F8.ns⟩⟩
  · intro D1 sc v1 c1 hDn hDs hX hnL hDv hP
    obtain ⟨Fc, Nc, lD⟩ := comp_after_set Fb Nb hX rfl hnL hitb hWn hDs hDv
    have hG : GExt NoG s.gens sc.gens s.os sc.os := by rw [← gb, ← ob]; exact Ext.g hX
    exact Box.mk (hQ sc D1 v1 c1 hG Fc Nc (paired_intsF hP) lD)
end
end Mine2
end
section
open PySem PySem.W PyProof.Rows PyProof.V Mine
set_option maxRecDepth 100000
set_option maxHeartbeats 8000000
namespace Mine2
theorem lay_depth : ∀ ns : List Int, PyData.depthAll (ns.map .int) = 0
  | [] => by simp [PyData.depthAll]
  | n :: ns => by simp [PyData.depthAll, PyData.depth, lay_depth ns]
theorem lay_can : ∀ ns : List Int, PyData.canLayAll0 (ns.map .int) = true
  | [] => by simp [PyData.canLayAll0]
  | n :: ns => by simp [PyData.canLayAll0, PyData.canLay0, lay_can ns]
theorem lay_weight : ∀ ns : List Int, (∀ n ∈ ns, n.natAbs ≤ 1000) → PyData.weightAll (ns.map .int) ≤ 12 * ns.length
  | [], _ => by simp [PyData.weightAll]
  | n :: ns, h => by
    have ih := lay_weight ns fun z hz => h z (.tail _ hz)
    have hn := h n (.head _)
    simp only [List.map_cons, PyData.weightAll, PyData.weight, List.length_cons]
    split
    · omega
    · rename_i h0
      have : n.natAbs.log2 < 10 := (Nat.log2_lt (by simp only [beq_iff_eq] at h0; omega)).mpr (by omega)
      omega
theorem lay_ints {ns : List Int} (h : ∀ n ∈ ns, n.natAbs ≤ 1000) (hl : ns.length ≤ 1000) : PyData.layable0 (.list (ns.map .int)) = true := by
  have hw := lay_weight ns h
  simp only [PyData.layable0, Bool.and_eq_true, decide_eq_true_eq, PyData.canLay0, PyData.depth, PyData.weight, lay_can, lay_depth]
  refine ⟨⟨trivial, by omega⟩, decide_eq_true (Nat.le_trans hw (Nat.le_trans (Nat.mul_le_mul_left 12 hl) (by decide)))⟩
section
variable {w : World} {mg mb : Str → Option Value} {dp un : Nat} {gd : Option (List Code)} {s : Shared} {Q : Flow → Shared → Prop} {E : Value → Shared → Prop}
theorem law_best {base : Heap} {L fa tx D : Addr} {cd : Value} {m : Str → Option Value} {wt vn : List Value} {ct cn : Nat} {ys : List Str} {R : List (Addr × Obj)} {f : Str → Nat} (PB : PW w mg mb base)
    (hdp : dp ≤ 310) (hu : un ≤ 3000) (hwt : StrsAre wt ys) (hys : ys.length ≤ 6) (hne : 0 < ys.length) (hf8 : ∀ y ∈ ys, f y ≤ 8) (hvn : IntsAre vn (ys.map fun y => (f y : Int)))
    (F : Fr base L s.heap m) (N : News base L s.heap ((D, listObj vn cn) :: (tx, listObj wt ct) :: R)) (m1 : m "texts" = some (.ref tx)) (m2 : m "news" = some (.ref D))
    (hQ : ∀ s' y t, y ∈ ys → (∀ z ∈ ys, f z ≤ f y) → GExt NoG s.gens s'.gens s.os s'.os → Fr base L s'.heap (fun z => if z = Str.ofString "best" then some (.str y t) else m z) → News base L s'.heap ((D, listObj vn cn) :: (tx, listObj wt ct) :: R) →
      wpAny (model prog w) ((Ar dp un (some []) gd).deeper (envOfC (Str.ofString "law") lawDef.2 L fa cd)) (execs (loopBody.drop 2) (envOfC (Str.ofString "law") lawDef.2 L fa cd)) Q E s') :
    wpAny (model prog w) ((Ar dp un (some []) gd).deeper (envOfC (Str.ofString "law") lawDef.2 L fa cd)) (execs (loopBody.drop 1) (envOfC (Str.ofString "law") lawDef.2 L fa cd)) Q E s := by
  conv in (List.drop 1 _) => whnf
  conv => enter [2, 2, 2]; whnf
  conv => enter [3, 2, 2]; whnf
  obtain ⟨KX, T0⟩ := id PB
  refine execs_box ?_
  replace F := fr_named F "texts" _ m1
  replace F := fr_named F "news" _ (show (if _ then _ else _) = _ from (if_neg (by decide)).trans m2)
  k_steps
  rename_i h1 M tM k1 F1 N1 hM1 hM2
  obtain ⟨y0, hy0, rfl⟩ := List.mem_map.mp hM1
  have hDl := (N1 (D, listObj vn cn) (.head _)).1
  refine index_list_ints (vs := vn) ?_ hvn (lay_ints (fun n hn => ?_) (by simp; omega)) hM1 ?_
  · exact ⟨_, hDl, rfl, _, rfl⟩
  · obtain ⟨z, hz, rfl⟩ := List.mem_map.mp hn
    have := hf8 z hz
    omega
  obtain ⟨i, hii, hi, hiv⟩ : ∃ i, List.idxOf (f y0 : Int) (ys.map fun y => (f y : Int)) = i ∧ ∃ hi : i < ys.length, f ys[i] = f y0 := by
    have h1 := List.idxOf_lt_length_iff.mpr hM1
    have h2 := List.getElem_idxOf h1
    rw [List.getElem_map] at h2
    exact ⟨_, rfl, by simpa using h1, by exact_mod_cast h2⟩
  rw [hii]
  clear hii
  k_steps
  rename_i tM' h2 F2 N2
  have eg : ys.getD (i : Int).toNat Str.empty = ys[i] := by simp [hi]
  have em : (fun y => if y = Str.ofString "best" then some (Value.str (ys.getD (i : Int).toNat Str.empty) tM') else if y = Str.ofString "news" then some (Value.ref D) else if y = Str.ofString "texts" then some (Value.ref tx) else m y) = fun z => if z = Str.ofString "best" then some (.str ys[i] tM') else m z := by
    funext z
    rw [eg]
    by_cases h1 : z = Str.ofString "best"
    · rw [if_pos h1, if_pos h1]
    · rw [if_neg h1, if_neg h1]
      by_cases h2 : z = Str.ofString "news"
      · rw [if_pos h2, h2, m2]
      · rw [if_neg h2]
        by_cases h3 : z = Str.ofString "texts"
        · rw [if_pos h3, h3, m1]
        · rw [if_neg h3]
  rw [em] at F2
  exact Box.mk (hQ _ ys[i] tM' (List.getElem_mem hi) (fun z hz => by have := hM2 _ (List.mem_map.mpr ⟨z, hz, rfl⟩); omega) (GExt.refl _ _ _) F2 N2)
end
end Mine2
end
section
open PySem PySem.W PyProof.Rows PyProof.V Mine
set_option maxRecDepth 100000
set_option maxHeartbeats 8000000
namespace Mine2
section
variable {w : World} {mg mb : Str → Option Value} {dp un : Nat} {gd : Option (List Code)} {s : Shared} {Q : Flow → Shared → Prop} {E : Value → Shared → Prop}
theorem law_take {base : Heap} {L fa tk c3 : Addr} {cd : Value} {m : Str → Option Value} {vt : List Value} {c1 : Nat} {T : List Str} {q3 : Obj} {R : List (Addr × Obj)} {anc : List Str} {y : Str} {ty : Tok} (PB : PW w mg mb base)
    (hdp : dp ≤ 310) (hu : un ≤ 3000) (hy8 : y.length ≤ 8) (hcr : AncComes (bare y) anc) (hcl : anc.length ≤ 8) (hvt : StrsAre vt T) (hT : T.length ≤ 1000) (hc3 : c3 = L + 1 + 1 + 1) (d3 : q3.data = .cell (some (.ref tk)))
    (htk : tk ≠ c3) (hR : ∀ p ∈ R, p.1 ≠ tk ∧ p.1 ≠ c3)
    (F : Fr base L s.heap m) (N : News base L s.heap ((c3, q3) :: (tk, listObj vt c1) :: R)) (m1 : m "best" = some (.str y ty))
    (hQ : ∀ s' vs c q, GExt NoG s.gens s'.gens s.os s'.os → Fr base L s'.heap m → q.data = .cell (some (.ref tk)) → News base L s'.heap ((c3, q) :: (tk, listObj vs c) :: R) →
      StrsAre vs (T ++ freshOf T anc) →
      wpAny (model prog w) ((Ar dp un (some []) gd).deeper (envOfC (Str.ofString "law") lawDef.2 L fa cd)) (execs (loopBody.drop 3) (envOfC (Str.ofString "law") lawDef.2 L fa cd)) Q E s') :
    wpAny (model prog w) ((Ar dp un (some []) gd).deeper (envOfC (Str.ofString "law") lawDef.2 L fa cd)) (execs (loopBody.drop 2) (envOfC (Str.ofString "law") lawDef.2 L fa cd)) Q E s := by
  conv in (List.drop 2 _) => whnf
  conv => enter [2, 2, 2]; whnf
  conv => enter [3, 2, 2]; whnf
  obtain ⟨KX, T0⟩ := id PB
  subst hc3
  refine execs_box ?_
  have F0 : Box (Fr base L s.heap m) := ⟨F⟩
  replace F := fr_named F "best" _ m1
  have hbL : base.get? L = none := get?_size_none _ F.above
  have hCs : base.objs.size ≤ s.heap.objs.size := Nat.le_trans F.above (Nat.le_of_lt F.ns.lt)
  k_steps
  rename News _ _ _ _ => N5
  refine Box.mk (ancestry_new (base := base) PB F.keep hCs (by show dp + 1 < 1000; omega) (by omega) hcr fun a Lg s4 hE ha hLg hG => ?_)
  have F6 := Fr.keepAll F hE.keepAll
  have N6 := News.keepAll N5 hE.keepAll
  clear F
  k_steps
  have hL3 : ∃ o, s.heap.get? L = some o := let ⟨o, _, _, e, _⟩ := F0.out.ns; ⟨o, e⟩
  have fr1 : ∀ b, b ∈ frs [envOfC (Str.ofString "law") lawDef.2 L fa cd] → b = L := fun b hb => List.mem_singleton.mp (show b ∈ [L] from hb)
  refine Box.mk (difference_gen (base := base) (h0 := s.heap) (g0 := s.gens.size) PB F6.keep hE.keepAll hG (KeepAll.none_of F0.out.keep ha) (KeepAll.none_of F0.out.keep hLg) ha hLg (Nat.le_refl _) (setFrom_list (items := vt.toArray) (xs := T) ⟨_, N6.get (a := tk) (by k_mem), rfl, _, rfl⟩ (by simpa using hvt) (by unfold scanBound; omega)) (by show dp + 1 + 5 < 450; omega) (by show un + 3 + 30 ≤ 4500; omega) fun x s6 hE6 hS6 => ?_)
  obtain ⟨W2, V2, own2, R2, I2, hR2, hV2, hown⟩ := hS6
  have F7 := Fr.keepAll F6 hE6.keepAll
  have N7 := News.keepAll N6 hE6.keepAll
  have hE36 : Ext [] NoA NoG s s6 := hE.trans hE6
  have okS : OkL base [envOfC (Str.ofString "law") lawDef.2 L fa cd] s.heap := okl_of_fr F0.out rfl law_kind
  have ok6 : OkL base [envOfC (Str.ofString "law") lawDef.2 L fa cd] s6.heap := okS.ext (hE36.mono (fun _ h => nomatch h) (fun _ h => h) fun _ h => h) fun b h => h.elim
  clear F6 N6
  k_steps
  refine Box.mk (call_list_own (l := [envOfC (Str.ofString "law") lawDef.2 L fa cd]) I2 (by show dp + 1 ≤ 400; omega) (by show un + 3 + 4 ≤ 4000; omega) (fun f hf h => ?_) T0.nolimit ok6.1 ok6.2 hR2 (Nat.le_trans (List.length_filter_le _ _) (by omega)) fun D2 s7 v2 c2 hE7 hD2 hD2l hDv2 hv2 => ?_)
  · obtain ⟨o, ho⟩ := hL3
    have := hown f h
    rw [fr1 f hf, ho] at this; cases this
  have hX7 : Ext (frs [envOfC (Str.ofString "law") lawDef.2 L fa cd]) NoA NoG s s7 := ((hE36.mono (fun _ h => nomatch h) (W' := W2) (fun _ h => h.elim) (V' := V2) fun _ h => h.elim).trans hE7).shrink (fun b h => .inl (hown b (I2.sub b h))) fun g h => .inr (hV2 g h)
  have F8 : Fr base L s7.heap m := Ext.fr hX7 F0.out (fun h => h) (fun b hb => by rw [fr1 b hb]; exact hbL) fun b h => h.elim
  have N8 : News base L s7.heap ((L + 1 + 1 + 1, q3) :: (tk, listObj vt c1) :: R) := Ext.news hX7 N5 (fun q hq h => (N5 q hq).2.1 (fr1 _ h)) fun _ _ h => h
  have hGE : GExt NoG s.gens s7.gens s.os s7.os := Ext.g hX7
  clear F7 N7
  have htk8 := N8 (tk, listObj vt c1) (.tail _ (.head _))
  have hvl := StrsAre.len hvt
  have hv2l := StrsAre.len hv2
  have hfl := List.length_filter_le (fun y => !T.any fun x => x == y) anc
  refine iadd_lists (vs := vt) (c := c1) (ws := v2) (d := c2) htk8.1 hDv2 (by omega) fun h8 c8 hch8 hs8 => ?_
  have F9 := F8.change hs8 htk8.2.1 htk8.2.2
  have N9 : News base L h8 ((L + 1 + 1 + 1, q3) :: (tk, listObj (vt ++ v2) c8) :: R) := by
    have up : ∀ p : Addr × Obj, p.1 ≠ tk → p ∈ (L + 1 + 1 + 1, q3) :: (tk, listObj vt c1) :: R → h8.get? p.1 = some p.2 ∧ p.1 ≠ L ∧ base.get? p.1 = none := fun p hp hm => ⟨(hs8.2 _ hp).trans (N8 p hm).1, (N8 p hm).2⟩
    exact List.forall_mem_cons.mpr ⟨up _ (Ne.symm htk) (.head _), List.forall_mem_cons.mpr ⟨⟨hch8, htk8.2⟩, fun p hp => up p (hR p hp).1 (.tail _ (.tail _ hp))⟩⟩
  clear F8 N8
  have hc0 := N9 (L + 1 + 1 + 1, q3) (.head _)
  refine wpAny_storeName_cell (v₀ := some (.ref tk)) rfl rfl rfl ⟨q3, hc0.1, d3⟩ fun h9 hc9 hs9 => ?_
  obtain ⟨q9, hq9, dq9⟩ := hc9
  have FA := F9.change hs9 hc0.2.1 hc0.2.2
  have htk9 := N9 (tk, listObj (vt ++ v2) c8) (.tail _ (.head _))
  have NA : News base L h9 ((L + 1 + 1 + 1, q9) :: (tk, listObj (vt ++ v2) c8) :: R) :=
    List.forall_mem_cons.mpr ⟨⟨hq9, hc0.2⟩, List.forall_mem_cons.mpr ⟨⟨(hs9.2 _ htk).trans htk9.1, htk9.2⟩, fun p hp => ⟨(hs9.2 _ (hR p hp).2).trans (N9 p (.tail _ (.tail _ hp))).1, (N9 p (.tail _ (.tail _ hp))).2⟩⟩⟩
  exact Box.mk (hQ _ _ c8 q9 hGE FA dq9 NA (hvt.append' hv2))
end
end Mine2
end
local macro_rules | `(tactic| walk_at "call builtin:list.append") => `(tactic| ((with_reducible show wpAny _ _ (PySem.call (Value.builtin "list.append") _) _ _ _); refine unbox ?_))
section
open PySem PySem.W PyProof.Rows PyProof.V Mine
set_option maxRecDepth 100000
set_option maxHeartbeats 8000000
namespace Mine2
section
variable {w : World} {mg mb : Str → Option Value} {dp un : Nat} {gd : Option (List Code)} {s : Shared} {Q : Flow → Shared → Prop} {E : Value → Shared → Prop}
theorem law_met {base : Heap} {L fa tk mt c3 : Addr} {cd : Value} {m : Str → Option Value} {vt vm : List Value} {c1 cm : Nat} {T : List Str} {ms : List Int} {q3 : Obj} {R : List (Addr × Obj)} (PB : PW w mg mb base)
    (hdp : dp ≤ 310) (hu : un ≤ 3000) (hvt : StrsAre vt T) (hT : T.length ≤ 1000) (hvm : IntsAre vm ms) (hms : ms.length ≤ 1000) (hc3 : c3 = L + 1 + 1 + 1) (d3 : q3.data = .cell (some (.ref tk)))
    (htk : tk ≠ c3) (hR : ∀ p ∈ R, p.1 ≠ mt) (hmt : mt ≠ c3 ∧ mt ≠ tk)
    (F : Fr base L s.heap m) (N : News base L s.heap ((mt, listObj vm cm) :: (c3, q3) :: (tk, listObj vt c1) :: R)) (m1 : m "met" = some (.ref mt))
    (hQ : ∀ s' vs c, GExt NoG s.gens s'.gens s.os s'.os → Fr base L s'.heap m → News base L s'.heap ((mt, listObj vs c) :: (c3, q3) :: (tk, listObj vt c1) :: R) →
      IntsAre vs (ms ++ [(T.length : Int)]) →
      wpAny (model prog w) ((Ar dp un (some []) gd).deeper (envOfC (Str.ofString "law") lawDef.2 L fa cd)) (execs [] (envOfC (Str.ofString "law") lawDef.2 L fa cd)) Q E s') :
    wpAny (model prog w) ((Ar dp un (some []) gd).deeper (envOfC (Str.ofString "law") lawDef.2 L fa cd)) (execs (loopBody.drop 3) (envOfC (Str.ofString "law") lawDef.2 L fa cd)) Q E s := by
  conv in (List.drop 3 _) => whnf
  conv => enter [2, 2, 2]; whnf
  conv => enter [3, 2, 2]; whnf
  obtain ⟨KX, T0⟩ := id PB
  subst hc3
  refine execs_box ?_
  have F0 : Box (Fr base L s.heap m) := ⟨F⟩
  replace F := fr_named F "met" _ m1
  k_steps
  refine Box.mk ?_
  have hm0 := N (mt, listObj vm cm) (.head _)
  have hvml := hvm.length
  refine append_obj (vs := vm) (c := cm) ?_ ?_ fun h5 hS5 hs5 => ?_
  · exact hm0.1
  · omega
  have hc0 := N (L + 1 + 1 + 1, q3) (.tail _ (.head _))
  have ht0 := N (tk, listObj vt c1) (.tail _ (.tail _ (.head _)))
  refine Box.mk (hQ _ (vm ++ [.int (T.length : Int) (s.toks + 1)]) (cm + 1) (GExt.refl _ _ _) (F0.out.change hs5 hm0.2.1 hm0.2.2) ?_ (hvm.append (.cons _ _ .nil)))
  refine List.forall_mem_cons.mpr ⟨⟨hS5, hm0.2⟩, List.forall_mem_cons.mpr ⟨⟨(hs5.2 _ (Ne.symm hmt.1)).trans hc0.1, hc0.2⟩, List.forall_mem_cons.mpr ⟨⟨(hs5.2 _ (Ne.symm hmt.2)).trans ht0.1, ht0.2⟩, fun p hp => ?_⟩⟩⟩
  have h6 := N p (.tail _ (.tail _ (.tail _ hp)))
  exact ⟨(hs5.2 _ (hR p hp)).trans h6.1, h6.2⟩
end
end Mine2
end
section
open PySem PySem.W PyProof.Rows PyProof.V Mine
set_option maxRecDepth 100000
set_option maxHeartbeats 8000000
namespace Mine2
inductive GRun (anc : Str → List Str) (ys : List Str) : List Str → List Str → List Int → Prop
  | nil : GRun anc ys [] [] [0]
  | snoc {P T : List Str} {ms : List Int} (y : Str) (h : GRun anc ys P T ms) (hy : y ∈ ys) (hm : ∀ z ∈ ys, (freshOf T (anc z)).length ≤ (freshOf T (anc y)).length) :
      GRun anc ys (P ++ [y]) (T ++ freshOf T (anc y)) (ms ++ [((T ++ freshOf T (anc y)).length : Int)])
theorem GRun.len {anc : Str → List Str} {ys P T : List Str} {ms : List Int} (h : GRun anc ys P T ms) (ha : ∀ y ∈ ys, (anc y).length ≤ 8) : T.length ≤ 8 * P.length ∧ ms.length = P.length + 1 := by
  induction h with
  | nil => simp
  | snoc y h hy hm ih =>
    have h1 := ha y hy
    simp only [List.length_append, List.length_cons, List.length_nil]
    rename_i P T ms
    have h3 : (freshOf T (anc y)).length ≤ (anc y).length := List.length_filter_le _ _
    omega
inductive TurnJ (w : World) (base : Heap) (L it tx tk mt : Addr) (wt : List Value) (ct : Nat) (ys : List Str) (anc : Str → List Str) (s₀ : Shared) (n : Nat) (s' : Shared) : Prop
  | mk (P rest T : List Str) (ms : List Int) (m : Str → Option Value) (vt vm : List Value) (c1 cm : Nat) (q3 oi : Obj) (hn : n = rest.length) (hp : P.length + rest.length = ys.length) (G : GRun anc ys P T ms)
    (F : Fr base L s'.heap m) (m1 : m "texts" = some (.ref tx)) (m2 : m "met" = some (.ref mt)) (d3 : q3.data = .cell (some (.ref tk))) (hvt : StrsAre vt T) (hvm : IntsAre vm ms)
    (N : News base L s'.heap [(mt, listObj vm cm), (L + 1 + 1 + 1, q3), (tk, listObj vt c1), (tx, listObj wt ct), (it, oi)]) (hR : LstV tx it wt.toArray ys rest s') (ge : GExt NoG s₀.gens s'.gens s₀.os s'.os) : TurnJ w base L it tx tk mt wt ct ys anc s₀ n s'
section
variable {w : World} {mg mb : Str → Option Value} {dp un : Nat} {gd : Option (List Code)}
theorem law_turn {base : Heap} {L fa it tx tk mt : Addr} {cd : Value} {wt : List Value} {ct : Nat} {ys : List Str} {anc : Str → List Str} {s₀ : Shared} {Qf : Flow → Shared → Prop} {px : Pos} (PB : PW w mg mb base)
    (hdp : dp ≤ 310) (hu : un ≤ 3000) (hwt : StrsAre wt ys) (hys : ys.length ≤ 6) (hanc : AncOk anc ys)
    (e1 : tx ≠ it) (e2 : mt ≠ L + 1 + 1 + 1) (e3 : mt ≠ tk) (e4 : mt ≠ tx) (e5 : mt ≠ it) (e6 : tk ≠ L + 1 + 1 + 1) (e7 : tx ≠ L + 1 + 1 + 1) (e8 : it ≠ L + 1 + 1 + 1) (e9 : tk ≠ tx) (eA : tk ≠ it)
    (hEnd : ∀ s' P T ms m vt vm c1 cm q3, P.length = ys.length → GRun anc ys P T ms → Fr base L s'.heap m → m "texts" = some (.ref tx) → m "met" = some (.ref mt) → q3.data = .cell (some (.ref tk)) → StrsAre vt T → IntsAre vm ms →
      News base L s'.heap [(mt, listObj vm cm), (L + 1 + 1 + 1, q3), (tk, listObj vt c1), (tx, listObj wt ct)] → GExt NoG s₀.gens s'.gens s₀.os s'.os → Qf .next s') :
    ∀ n s', TurnJ w base L it tx tk mt wt ct ys anc s₀ n s' → wpAny (model prog w) ((Ar dp un (some []) gd).deeper (envOfC (Str.ofString "law") lawDef.2 L fa cd)) (pyNext (.ref it))
      (ForTurn prog w ((Ar dp un (some []) gd).deeper (envOfC (Str.ofString "law") lawDef.2 L fa cd)) (envOfC (Str.ofString "law") lawDef.2 L fa cd) (.Name (Str.ofString "turn") px) (.ref it) loopBody (TurnJ w base L it tx tk mt wt ct ys anc s₀) Qf n) (fun _ _ => False) s' := by
  rintro n s' ⟨P, rest, T, ms, m, vt, vm, c1, cm, q3, oi, rfl, hp, G, F, m1, m2, d3, hvt, hvm, N, hR, hge⟩
  have hPt : Paired (fun (y : Str) v => ∃ t, v = Value.str y t) ys wt.toArray.toList := by simpa using strs_paired hwt
  have I := it_list (prog := prog) (w := w) (A := (Ar dp un (some []) gd).deeper (envOfC (Str.ofString "law") lawDef.2 L fa cd)) rfl it tx e1 hPt (OkL base [envOfC (Str.ofString "law") lawDef.2 L fa cd]) (frs [envOfC (Str.ofString "law") lawDef.2 L fa cd])
  have okS : OkL base [envOfC (Str.ofString "law") lawDef.2 L fa cd] s'.heap := okl_of_fr F rfl law_kind
  have hitL : it ≠ L := (N (it, oi) (by k_mem)).2.1
  have hitb : ∀ b, b ∈ [it] → base.get? b = none := fun b hb => by rw [List.mem_singleton.mp hb]; exact (N (it, oi) (by k_mem)).2.2
  have fr1 : ∀ b, b ∈ frs [envOfC (Str.ofString "law") lawDef.2 L fa cd] → b = L := fun b hb => List.mem_singleton.mp (show b ∈ [L] from hb)
  have hbL : base.get? L = none := get?_size_none _ F.above
  have N0 : News base L s'.heap [(mt, listObj vm cm), (L + 1 + 1 + 1, q3), (tk, listObj vt c1), (tx, listObj wt ct)] := newsPick [_, _, _, _, _] _ [0, 1, 2, 3] (by simpa using N)
  have hoff : ∀ p ∈ [(mt, listObj vm cm), (L + 1 + 1 + 1, q3), (tk, listObj vt c1), (tx, listObj wt ct)], ¬ p.1 ∈ [it] := allC (fun h => e5 (List.mem_singleton.mp h)) (allC (fun h => e8 (List.mem_singleton.mp h).symm) (allC (fun h => eA (List.mem_singleton.mp h)) (allC (fun h => e1 (List.mem_singleton.mp h)) allN)))
  have hGl := G.len fun y hy => (hanc y hy).2.2
  cases rest with
  | nil =>
    refine I.nil s' _ _ okS hR fun s1 hE => ?_
    have F1 : Fr base L s1.heap m := Ext.fr hE F (fun h => hitL (List.mem_singleton.mp h).symm) (fun b hb => by rw [fr1 b hb]; exact hbL) hitb
    have N1 := Ext.news hE N0 (fun q hq h => (N0 q hq).2.1 (fr1 _ h)) hoff
    exact hEnd s1 P T ms m vt vm c1 cm q3 (by simpa using hp) G F1 m1 m2 d3 hvt hvm N1 (hge.trans (Ext.g hE))
  | cons u rest =>
    refine I.cons u rest s' _ _ okS hR fun v s1 hv hE hR1 => ?_
    obtain ⟨tv, rfl⟩ := hv
    have F1 : Fr base L s1.heap m := Ext.fr hE F (fun h => hitL (List.mem_singleton.mp h).symm) (fun b hb => absurd hb (by simp)) hitb
    have N10 := Ext.news hE N0 (fun q hq h => absurd h (by simp)) hoff
    obtain ⟨oi1, hoi1⟩ : ∃ o, s1.heap.get? it = some o := by
      obtain ⟨_, _, ⟨⟨o, ho, _⟩, _⟩, _⟩ := hR1
      exact ⟨o, ho⟩
    have N1 : News base L s1.heap [(tx, listObj wt ct), (L + 1 + 1 + 1, q3), (tk, listObj vt c1), (mt, listObj vm cm), (it, oi1)] := newsPick [_, _, _, _, _] _ [4, 2, 3, 1, 0] (allC ⟨hoi1, (N (it, oi) (by k_mem)).2⟩ N10)
    have hge1 := hge.trans (Ext.g hE)
    have htx1 : s1.heap.get? tx = some (listObj wt ct) := (N1 (tx, listObj wt ct) (by k_mem)).1
    clear N0 N10 hoff N F okS hE
    show wpAny _ _ (letOwnedTupleGo _ _ _) _ _ _
    refine wpAny_of_eq (a := ()) rfl ?_
    obtain ⟨KX, T0⟩ := id PB
    walk1
    walk1
    rename Fr _ _ _ _ => F2
    rename News _ _ _ _ => N2
    rename_i h2
    refine cut_state (h' := h2) (fun s2 ea1 ea2 ea3 => ?_) rfl
    subst ea1
    replace ea2 : s2.gens = s1.gens := ea2
    replace ea3 : s2.os = s1.os := ea3
    have hT : T.length ≤ 1000 := by omega
    have hms : ms.length ≤ 1000 := by omega
    refine law_news (T := T) PB hdp hu hwt hys hanc hvt hT rfl d3 F2 N2 ((if_neg (by decide)).trans m1) fun s3 D vs c hG3 F3 N3 hvs hlt3 => ?_
    have hDlt := hlt3
    clear N2 F2
    refine law_best (f := fun y => (freshOf T (anc y)).length) PB hdp hu hwt hys (by simp only [List.length_cons] at hp; omega) (fun y hy => Nat.le_trans (List.length_filter_le _ _) (hanc y hy).2.2) hvs F3 N3 ((if_neg (by decide)).trans ((if_neg (by decide)).trans m1)) (if_pos rfl) fun s4 y t hy hmax hG4 F4 N4 => ?_
    clear N3 F3
    have N4' : News base L s4.heap [(L + 1 + 1 + 1, q3), (tk, listObj vt c1), (mt, listObj vm cm), (tx, listObj wt ct), (it, oi1)] := newsPick [_, _, _, _, _, _] _ [2, 3, 4, 1, 5] N4
    obtain ⟨hy8, hcr, hcl⟩ := hanc y hy
    refine law_take PB hdp hu hy8 hcr hcl hvt hT rfl d3 e6 (allC ⟨e3, e2⟩ (allC ⟨e9.symm, e7⟩ (allC ⟨eA.symm, e8⟩ allN))) F4 N4' (if_pos rfl) fun s5 vt5 c5 q5 hG5 F5 dq5 N5 hvt5 => ?_
    clear N4 N4' F4
    have N5' : News base L s5.heap [(mt, listObj vm cm), (L + 1 + 1 + 1, q5), (tk, listObj vt5 c5), (tx, listObj wt ct), (it, oi1)] := newsPick [_, _, _, _, _] _ [2, 0, 1, 3, 4] N5
    have hT5 : (T ++ freshOf T (anc y)).length ≤ 1000 := by
      have : (freshOf T (anc y)).length ≤ (anc y).length := List.length_filter_le _ _
      rw [List.length_append]; omega
    refine law_met PB hdp hu hvt5 hT5 hvm hms rfl dq5 e6 (allC e4.symm (allC e5.symm allN)) ⟨e2, e3⟩ F5 N5' ((if_neg (by decide)).trans ((if_neg (by decide)).trans ((if_neg (by decide)).trans m2))) fun s6 vm6 c6 hG6 F6 N6 hvm6 => ?_
    clear N5 N5' F5
    obtain ⟨m7, F8, n1, n2⟩ : ∃ m7, Fr base L s6.heap m7 ∧ m7 "texts" = some (.ref tx) ∧ m7 "met" = some (.ref mt) :=
      ⟨_, F6, (if_neg (by decide)).trans ((if_neg (by decide)).trans ((if_neg (by decide)).trans m1)), (if_neg (by decide)).trans ((if_neg (by decide)).trans ((if_neg (by decide)).trans m2))⟩
    refine wpAny_execs_nil ⟨rest.length, Nat.lt_succ_self _, ?_⟩
    refine ⟨P ++ [y], rest, T ++ freshOf T (anc y), ms ++ [_], m7, vt5, vm6, c5, c6, q5, oi1, rfl, ?_, .snoc y G hy hmax, F8, n1, n2, dq5, hvt5, hvm6, N6, ?_, ?_⟩
    · simp only [List.length_append, List.length_cons, List.length_nil] at hp ⊢; omega
    · refine I.keeps rest s1 s6 hR1 (fun b hb o e => ?_) fun g _ z e => ?_
      · exact allC (P := fun b => ∀ o, s1.heap.get? b = some o → s6.heap.get? b = some o) (fun o e => some_at hoi1 e (N6 (it, oi1) (by k_mem)).1) (allC (fun o e => some_at htx1 e (N6 (tx, listObj wt ct) (by k_mem)).1) allN) b hb o e
      · rename_i hgf
        exact hgf.elim
    · have := hge1.trans (by rw [← ea2, ← ea3]; exact hG3)
      exact ((this.trans hG4).trans hG5).trans hG6
end
end Mine2
end
end
section
open PySem PySem.W PyProof.Rows PyProof.V Mine PySem.Builtin PySem.Builtin.Str
set_option maxRecDepth 100000
set_option maxHeartbeats 4000000
namespace Mine2
theorem slice_mid (l : List Nat) {a b : Nat} (hab : a ≤ b) (hb : b ≤ l.length) : Txt.slice (S l) (some (a : Int)) (some (b : Int)) = S ((l.drop a).take (b - a)) := by
  have hb' : b ≤ (S l).length := by rw [S_len]; exact hb
  have h2 := StrLaws.sliced_plain (S l) hab hb'
  unfold Txt.slice
  split
  · rename_i h
    have h3 := StrLaws.strSliceIndices_plain hab hb'
    rw [h3] at h
    simp only [List.length_map, List.length_range, Bool.and_eq_true, beq_iff_eq] at h
    rw [S_len] at h
    have ha : a = 0 := by omega
    have hb2 : b = l.length := by omega
    rw [ha, hb2]; simp
  · rw [h2]
theorem slice_next (l : List Nat) {k : Nat} (hk : k ≤ l.length) : Txt.slice (S l) (some (k : Int)) (some ((k : Int) + 1)) = S ((l.drop k).take 1) := by
  rcases Nat.lt_or_ge k l.length with h | h
  · have := slice_mid l (Nat.le_succ k) h
    rw [show k + 1 - k = 1 by omega] at this
    exact this
  · have e : k = l.length := Nat.le_antisymm hk h
    have e1 : Txt.slice (S l) (some (k : Int)) (some ((k : Int) + 1)) = Txt.slice (S l) (some (k : Int)) (some (k : Int)) := by
      unfold Txt.slice
      have : strSliceIndices (some (k : Int)) (some ((k : Int) + 1)) 1 (S l).length = strSliceIndices (some (k : Int)) (some (k : Int)) 1 (S l).length := by
        rw [S_len, ← e]
        have e1 : max (0 : Int) (min ((k : Int) + 1) (k : Int)) = k := by omega
        have e2 : max (0 : Int) (min (k : Int) (k : Int)) = k := by omega
        have h1 : ¬ ((k : Int) < 0) := by omega
        have h2 : ¬ ((k : Int) + 1 < 0) := by omega
        simp only [strSliceIndices, h1, h2, if_false, e1, e2, show ((1 : Int) > 0) = True from by simp, if_true]
      rw [this]
    rw [e1, slice_mid l (Nat.le_refl _) hk]
    have : l.drop k = [] := List.drop_eq_nil_of_le h
    rw [this]; simp
theorem item_S (l : List Nat) {k : Nat} (hk : k < l.length) : Txt.item (S l) (((1 + k : Nat) : Int) - 1) = S [l[k]] := by
  have e : (((1 + k : Nat) : Int) - 1) = (k : Int) := by omega
  unfold Txt.item Txt.charAt
  rw [e, S_len]
  have : seqIndex? (k : Int) l.length = some k := by
    unfold seqIndex?
    have h1 : ¬ ((k : Int) < 0) := by omega
    dsimp only
    rw [if_neg h1, if_pos (by simp; omega)]
    simp
  rw [this]
  simp [S, hk]
theorem route_anc (y z : Str) : z ∈ routeL y ↔ z ∈ anc y := by
  rw [anc_mem]
  obtain ⟨l, rfl⟩ : ∃ l, y = S l := ⟨_, S_of y⟩
  have el : (S l).cps.toList = l := by simp [S]
  rw [el]
  unfold routeL
  simp only [List.mem_map, List.mem_filter, List.mem_range]
  rw [S_len]
  constructor
  · rintro ⟨k', ⟨⟨k, hk, rfl⟩, hp⟩, rfl⟩
    unfold routeP at hp
    rw [item_S l hk, slice_next l (by omega)] at hp
    simp only [Bool.and_eq_true, bne_iff_ne, ne_eq, List.any_cons, List.any_nil, Bool.or_false, Bool.or_eq_true, beq_iff_eq] at hp
    obtain ⟨h1, h2⟩ := hp
    refine ⟨l.take k, l[k], l.drop (1 + k), ?_, fun e => h1 (by rw [e, of_slash]), ?_, ?_⟩
    · rw [Nat.add_comm, ← List.drop_eq_getElem_cons hk, List.take_append_drop]
    · rw [slice_to l (by omega), Nat.add_comm, List.take_succ_eq_append_getElem hk]
    · cases e : l.drop (1 + k) with
      | nil => exact .inl rfl
      | cons c q =>
        rw [e] at h2
        rcases h2 with h2 | h2
        · have := S_inj (a := []) (b := [c]) (by rw [show S [] = Str.ofString "" by decide]; simpa using h2)
          cases this
        · have := S_inj (a := [47]) (b := [c]) (by rw [← of_slash]; simpa using h2)
          injection this with h _
          exact .inr ⟨q, by rw [h]⟩
  · rintro ⟨p, c, q, e, hc, rfl, h⟩
    have hk : p.length < l.length := by rw [e]; simp
    refine ⟨1 + p.length, ⟨⟨p.length, hk, rfl⟩, ?_⟩, ?_⟩
    · unfold routeP
      rw [item_S l hk, slice_next l (by omega)]
      have hd : l.drop (1 + p.length) = q := by rw [e, Nat.add_comm, show p ++ c :: q = (p ++ [c]) ++ q by simp, List.drop_left' (by simp)]
      have hg : l[p.length] = c := by simp [e]
      rw [hd, hg]
      simp only [Bool.and_eq_true, bne_iff_ne, ne_eq, List.any_cons, List.any_nil, Bool.or_false, Bool.or_eq_true, beq_iff_eq]
      refine ⟨fun h => ?_, ?_⟩
      · rw [of_slash] at h
        have := S_inj h
        injection this with h _
        exact hc h
      · rcases h with rfl | ⟨q', rfl⟩
        · exact .inl rfl
        · exact .inr rfl
    · rw [slice_to l (by omega), e, Nat.add_comm, show p ++ c :: q = (p ++ [c]) ++ q by simp, List.take_left' (by simp)]
theorem gains_congr {α : Type} [DecidableEq α] {T T' g g' : Nat → List α} : ∀ n, (∀ k < n, T k = T' k ∧ g k = g' k) → gains T g n = gains T' g' n
  | 0, _ => rfl
  | n + 1, h => by
    have h1 := h n (Nat.lt_succ_self _)
    show gains T g n + _ = gains T' g' n + _
    rw [gains_congr n fun k hk => h k (Nat.lt_succ_of_lt hk), h1.1, h1.2]
theorem keyed_snoc {K : Type} [DecidableEq K] (xs : List K) (x : K) : (keyed (xs ++ [x])).length = (keyed xs).length + if x ∈ xs then 0 else 1 := by
  have e : keyed (xs ++ [x]) = stored (keyed xs) x .none := by unfold keyed; rw [List.foldl_append]; rfl
  have h := congrArg List.length (stored_keys (keyed xs) x Value.none)
  rw [List.length_map] at h
  rw [e, h]
  by_cases q : x ∈ xs
  · rw [if_pos q, if_pos ((keyed_mem xs x).mpr q), List.length_map]; rfl
  · rw [if_neg q, if_neg fun h => q ((keyed_mem xs x).mp h), List.length_append, List.length_map]; rfl
theorem GRun.run {an : Str → List Str} {ys P T : List Str} {ms : List Int} (G : GRun an ys P T ms) :
    ∃ Tf g : Nat → List Str, Run (ys.map an) Tf g P.length ∧ Tf P.length = T ∧ ms = (List.range (P.length + 1)).map (fun k => ((Tf k).length : Int)) ∧ (keyed ms).length = gains Tf g P.length + 1 ∧ (∀ x ∈ ms, x ≤ (T.length : Int)) ∧ (T.length : Int) ∈ ms := by
  induction G with
  | nil => exact ⟨fun _ => [], fun _ => [], ⟨rfl, fun _ h => (nomatch h), fun _ h => (nomatch h), fun _ h => (nomatch h)⟩, rfl, rfl, rfl, by simp, by simp⟩
  | snoc y h hy hm ih =>
    rename_i P T ms
    obtain ⟨Tf, g, R, hT, hms, hk, hle, hin⟩ := ih
    let n := P.length
    let Tf' : Nat → List Str := fun k => if k ≤ n then Tf k else T ++ freshOf T (an y)
    let g' : Nat → List Str := fun k => if k < n then g k else an y
    have t1 : ∀ k, k ≤ n → Tf' k = Tf k := fun k hk => if_pos hk
    have t2 : Tf' (n + 1) = T ++ freshOf T (an y) := if_neg (Nat.not_succ_le_self n)
    have g1 : ∀ k, k < n → g' k = g k := fun k hk => if_pos hk
    have g2 : g' n = an y := if_neg (Nat.lt_irrefl n)
    have eL : (P ++ [y]).length = n + 1 := by simp [n]
    have tn : Tf' n = T := (t1 n (Nat.le_refl _)).trans hT
    rw [eL]
    refine ⟨Tf', g', ⟨(t1 0 (Nat.zero_le _)).trans R.zero, fun k hk => ?_, fun k hk a ha => ?_, fun k hk => ?_⟩, t2, ?_, ?_, ?_, ?_⟩
    · rcases Nat.lt_succ_iff_lt_or_eq.mp hk with h | rfl
      · rw [g1 k h]; exact R.mem k h
      · rw [g2]; exact List.mem_map.mpr ⟨y, hy, rfl⟩
    · rcases Nat.lt_succ_iff_lt_or_eq.mp hk with h | rfl
      · rw [g1 k h, t1 k (Nat.le_of_lt h)]; exact R.most k h a ha
      · rw [g2, tn]
        obtain ⟨z, hz, rfl⟩ := List.mem_map.mp ha
        exact hm z hz
    · rcases Nat.lt_succ_iff_lt_or_eq.mp hk with h | rfl
      · rw [g1 k h, t1 k (Nat.le_of_lt h), t1 (k + 1) h]; exact R.succ k h
      · rw [g2, tn, t2]
    · rw [List.range_succ, List.map_append, hms]
      congr 1
      · refine List.map_congr_left fun k hk => ?_
        rw [t1 k (Nat.le_of_lt_succ (List.mem_range.mp hk))]
      · rw [List.map_singleton, t2]
    · rw [keyed_snoc, hk]
      show _ = gains Tf' g' n + _ + 1
      rw [gains_congr (T := Tf') (g := g') (T' := Tf) (g' := g) n fun k hk => ⟨t1 k (Nat.le_of_lt hk), g1 k hk⟩, tn, g2]
      by_cases q : freshOf T (an y) = []
      · rw [if_pos q, if_pos (by rw [q, List.append_nil]; exact hin)]
      · rw [if_neg q, if_neg]
        intro hx
        have := hle _ hx
        rw [List.length_append] at this
        exact q (List.length_eq_zero_iff.mp (by omega))
    · intro x hx
      rcases List.mem_append.mp hx with hx | hx
      · have := hle x hx
        rw [List.length_append]; omega
      · rw [List.mem_singleton.mp hx]; exact Int.le_refl _
    · exact List.mem_append_right _ (List.mem_singleton.mpr rfl)
theorem most_ge {k : Nat} : ∀ (cs : List (List Str × Nat)) (ns : List Nat), k < ns.length → ns.getD k 0 ≤ (cs.foldl mostStep ns).getD k 0 ∧ ∀ p ∈ cs, p.1.length = k → p.2 ≤ (cs.foldl mostStep ns).getD k 0
  | [], ns, _ => ⟨Nat.le_refl _, fun _ h => nomatch h⟩
  | c :: cs, ns, hk => by
    have hl : (mostStep ns c).length = ns.length := by simp [mostStep]
    obtain ⟨h1, h2⟩ := most_ge cs (mostStep ns c) (by rw [hl]; exact hk)
    have e : (mostStep ns c).getD k 0 = if c.1.length = k then max (ns.getD k 0) c.2 else ns.getD k 0 := by
      unfold mostStep
      by_cases q : c.1.length = k
      · rw [if_pos q, q]
        simp [List.getD_eq_getElem?_getD, hk]
      · rw [if_neg q]
        simp [List.getD_eq_getElem?_getD, q]
    rw [List.foldl_cons]
    rw [e] at h1
    refine ⟨?_, fun p hp hpk => ?_⟩
    · split at h1 <;> omega
    · rcases List.mem_cons.mp hp with rfl | hp
      · rw [if_pos hpk] at h1; omega
      · exact h2 p hp hpk
theorem most_le {k v : Nat} : ∀ (cs : List (List Str × Nat)) (ns : List Nat), ns.getD k 0 ≤ v → (∀ p ∈ cs, p.1.length = k → p.2 ≤ v) → (cs.foldl mostStep ns).getD k 0 ≤ v
  | [], ns, h, _ => h
  | c :: cs, ns, h, hc => by
    rw [List.foldl_cons]
    refine most_le cs _ ?_ fun p hp => hc p (.tail _ hp)
    unfold mostStep
    by_cases q : c.1.length = k
    · have := hc c (.head _) q
      rw [q]
      rcases Nat.lt_or_ge k ns.length with hk | hk
      · have h' := h
        simp [List.getD_eq_getElem?_getD, hk] at h' ⊢
        omega
      · rw [List.set_eq_of_length_le hk]; exact h
    · simp [List.getD_eq_getElem?_getD, q] at h ⊢
      exact h
theorem subs_sub : ∀ (ys c : List Str), c ∈ subsOf ys → c.Sublist ys := by
  refine rev_ind ?_ fun ys y ih c hc => ?_
  · intro c hc
    have : c = [] := List.mem_singleton.mp hc
    rw [this]
    exact List.Sublist.slnil
  · rw [subsOf_snoc] at hc
    rcases List.mem_append.mp hc with hc | hc
    · exact (ih c hc).trans (List.sublist_append_left _ _)
    · obtain ⟨c', hc', rfl⟩ := List.mem_map.mp hc
      exact (ih c' hc').append (List.Sublist.refl _)
theorem sub_snoc {c ys : List Str} {y : Str} (h : c.Sublist (ys ++ [y])) : c.Sublist ys ∨ ∃ c', c = c' ++ [y] ∧ c'.Sublist ys := by
  obtain ⟨c1, c2, rfl, h1, h2⟩ := List.sublist_append_iff.mp h
  rcases c2 with _ | ⟨x, c2⟩
  · rw [List.append_nil]; exact .inl h1
  · cases h2 with
    | cons _ h => cases h
    | cons_cons _ h => cases h; exact .inr ⟨c1, rfl, h1⟩
theorem subs_of : ∀ (ys c : List Str), c.Sublist ys → c ∈ subsOf ys := by
  refine rev_ind ?_ fun ys y ih c hc => ?_
  · intro c hc
    cases hc
    exact List.mem_singleton.mpr rfl
  · rw [subsOf_snoc]
    rcases sub_snoc hc with h | ⟨c', rfl, h⟩
    · exact List.mem_append_left _ (ih c h)
    · exact List.mem_append_right _ (List.mem_map.mpr ⟨c', ih c' h, rfl⟩)
theorem paired_zip {α β : Type} {P : α → β → Prop} {xs : List α} {vs : List β} (x : Paired P xs vs) : ∀ p ∈ xs.zip vs, P p.1 p.2 := by
  induction x with
  | nil => intro p h; cases h
  | cons h t ih =>
    intro p hp
    rcases List.mem_cons.mp hp with rfl | hp
    · exact h
    · exact ih p hp
theorem paired_some {α β : Type} {P : α → β → Prop} {xs : List α} {vs : List β} (x : Paired P xs vs) {a : α} (ha : a ∈ xs) : ∃ b, (a, b) ∈ xs.zip vs := by
  induction x with
  | nil => cases ha
  | cons h t ih =>
    rcases List.mem_cons.mp ha with rfl | ha
    · exact ⟨_, .head _⟩
    · obtain ⟨b, hb⟩ := ih ha
      exact ⟨b, .tail _ hb⟩
theorem law2_most {ys P T : List Str} {ms : List Int} (G : GRun anc ys P T ms) (hP : P.length = ys.length) (nn : List Nat) (hnn : Paired CardOf (subsOf ys) nn) : (mostOf ys.length ((subsOf ys).zip nn)).map Int.ofNat = ms := by
  obtain ⟨Tf, g, R, hT, hms, _⟩ := G.run
  have t := anc_tree ys
  rw [hP] at R hms
  have hl := mostOf_len ys.length ((subsOf ys).zip nn)
  have hA : ys.length = (ys.map anc).length := by rw [List.length_map]
  refine List.ext_getElem (by rw [List.length_map, hl, hms, List.length_map, List.length_range]) fun k h1 h2 => ?_
  rw [List.length_map, hl] at h1
  have hk : k ≤ ys.length := Nat.le_of_lt_succ h1
  have e2 : ms[k] = ((Tf k).length : Int) := by
    subst hms
    simp
  rw [e2, List.getElem_map]
  show ((mostOf ys.length ((subsOf ys).zip nn))[k] : Int) = _
  congr 1
  have e3 : (mostOf ys.length ((subsOf ys).zip nn))[k] = (mostOf ys.length ((subsOf ys).zip nn)).getD k 0 := by
    rw [List.getD_eq_getElem?_getD, List.getElem?_eq_getElem (by rw [hl]; exact h1)]; rfl
  rw [e3]
  unfold mostOf
  have hnd := R.nodup t k hk
  refine Nat.le_antisymm (most_le _ _ ?_ fun p hp hpk => ?_) ?_
  · rw [List.getD_eq_getElem?_getD, List.getElem?_replicate]
    split <;> exact Nat.zero_le _
  · obtain ⟨l, h3, h4, h5⟩ := paired_zip hnn p hp
    have hs := subs_sub ys p.1 (List.of_mem_zip hp).1
    rw [← h4]
    refine R.best t k hk (p.1.map anc) (fun a ha => ?_) (by rw [List.length_map]; exact hpk) l h3 fun x hx => ?_
    · obtain ⟨y, hy, rfl⟩ := List.mem_map.mp ha
      exact List.mem_map.mpr ⟨y, hs.subset hy, rfl⟩
    · obtain ⟨y, hy, hz⟩ := (h5 x).mp hx
      exact ⟨anc y, List.mem_map.mpr ⟨y, hy, rfl⟩, (route_anc y x).mp hz⟩
  · obtain ⟨c, h3, h4, h5⟩ := R.some_ hA k hk
    obtain ⟨c', h6, rfl⟩ := List.sublist_map_iff.mp h3
    rw [List.length_map] at h4
    obtain ⟨n, hn⟩ := paired_some hnn (subs_of ys c' h6)
    obtain ⟨l, h7, h8, h9⟩ := paired_zip hnn _ hn
    have h10 := (most_ge (k := k) ((subsOf ys).zip nn) (List.replicate (ys.length + 1) 0) (by rw [List.length_replicate]; exact h1)).2 _ hn h4
    refine Nat.le_trans ?_ h10
    show _ ≤ n
    rw [← show l.length = n from h8]
    refine nodup_le _ _ hnd fun x hx => (h9 x).mpr ?_
    obtain ⟨a, ha, hxa⟩ := h5 x hx
    obtain ⟨y, hy, rfl⟩ := List.mem_map.mp ha
    exact ⟨y, hy, (route_anc y x).mpr hxa⟩
theorem law2_all {ys P T : List Str} {ms : List Int} (G : GRun anc ys P T ms) (hP : P.length = ys.length) : T.Nodup ∧ ∀ z, z ∈ T ↔ ∃ y ∈ ys, z ∈ routeL y := by
  obtain ⟨Tf, g, R, hT, _⟩ := G.run
  have t := anc_tree ys
  rw [hP] at R hT
  have hA : ys.length = (ys.map anc).length := by rw [List.length_map]
  refine ⟨hT ▸ R.nodup t _ (Nat.le_refl _), fun z => ⟨fun hz => ?_, ?_⟩⟩
  · rw [← hT] at hz
    obtain ⟨j, hj, hm⟩ := (R.iff_mem _ (Nat.le_refl _) z).mp hz
    obtain ⟨y, hy, e⟩ := List.mem_map.mp (R.mem j hj)
    exact ⟨y, hy, (route_anc y z).mpr (e ▸ hm)⟩
  · rintro ⟨y, hy, hz⟩
    rw [← hT]
    exact R.all t hA (List.mem_map.mpr ⟨y, hy, rfl⟩) ((route_anc y z).mp hz)
theorem law2_ends {ys P T : List Str} {ms : List Int} (G : GRun anc ys P T ms) (hP : P.length = ys.length) :
    (keyed ms).length = (((keyed (ys.flatMap fun y => (anc y).take 1)).map (·.1)).filter fun z => !(ys.flatMap fun y => (anc y).tail).any (· == z)).length + 1 := by
  obtain ⟨Tf, g, R, hT, _, hk, _⟩ := G.run
  have t := anc_tree ys
  rw [hP] at R hk
  have hA : ys.length = (ys.map anc).length := by rw [List.length_map]
  rw [hk]
  congr 1
  have := R.ends t hA (H := (keyed (ys.flatMap fun y => (anc y).take 1)).map (·.1)) (keyed_nodup _) fun x => by
    rw [keyed_mem, List.mem_flatMap]
    constructor
    · rintro ⟨y, hy, hx⟩
      refine ⟨anc y, List.mem_map.mpr ⟨y, hy, rfl⟩, ?_⟩
      cases e : anc y with
      | nil => rw [e] at hx; cases hx
      | cons a r => rw [e] at hx; rw [List.mem_singleton.mp hx]; rfl
    · rintro ⟨a, ha, hx⟩
      obtain ⟨y, hy, rfl⟩ := List.mem_map.mp ha
      refine ⟨y, hy, ?_⟩
      cases e : anc y with
      | nil => rw [e] at hx; cases hx
      | cons a r => rw [e] at hx; injection hx with hx; rw [hx]; exact .head _
  rw [← this]
  congr 1
  refine List.filter_congr fun z _ => ?_
  unfold Mine.leafOf
  congr 1
  rw [List.any_flatMap, List.any_map]
  refine List.any_congr rfl fun y => ?_
  rw [Bool.eq_iff_iff]
  simp
theorem ancOk {ys : List Str} (h : ∀ y ∈ ys, y.length ≤ 8) : AncOk anc ys := fun y hy => ⟨h y hy, anc_comes y, Nat.le_trans (anc_len y) (h y hy)⟩
theorem flat_len {ys : List Str} {f : Str → List Str} (hf : ∀ y ∈ ys, (f y).length ≤ 8) (hys : ys.length ≤ 6) : (ys.flatMap f).length ≤ 48 := by
  have : ∀ l : List Str, (∀ y ∈ l, (f y).length ≤ 8) → (l.flatMap f).length ≤ 8 * l.length := by
    intro l
    induction l with
    | nil => intro _; simp
    | cons a l ih =>
      intro h
      have h1 := h a (.head _)
      have h2 := ih fun y hy => h y (.tail _ hy)
      rw [List.flatMap_cons, List.length_append, List.length_cons]; omega
  have := this ys hf
  omega
end Mine2
end
section
open PySem PySem.W PyProof.Rows Mine
local macro_rules | `(tactic| walk_at "call builtin:list.append") => `(tactic| ((with_reducible show wpAny _ _ (PySem.call (Value.builtin "list.append") _) _ _ _); refine unbox ?_))
local macro_rules | `(tactic| walk_at "call type:list") => `(tactic| ((with_reducible show wpAny _ _ (PySem.call (Value.type "list") _) _ _ _); refine unbox ?_))
local macro_rules | `(tactic| walk_at "eval ListComp") => `(tactic| ((with_reducible show wpAny _ _ (eval (PySem.Expr.ListComp _ _ _ _) _) _ _ _); refine unbox ?_))
local macro_rules | `(tactic| walk_at "pyIter ref") => `(tactic| ((with_reducible show wpAny _ _ (pyIter (Value.ref _)) _ _ _); refine unbox ?_))
local macro_rules | `(tactic| walk_at "call ref") => `(tactic| ((with_reducible show wpAny _ _ (PySem.call (Value.ref _) _) _ _ _); refine unbox ?_))
local macro_rules | `(tactic| walk_at "eval Name") => `(tactic| ((with_reducible show wpAny _ _ (eval (PySem.Expr.Name _ _) (compEnvC _ _ _ _)) _ _ _); with_unfolding_all first
  | refine lcf_cell (by k_asm) (by rfl) (by k_mem) (by k_asm) ?_ (by rfl) (by rfl)
  | refine cn_local (by k_asm) (by first | exact if_pos rfl | rfl) ?_
  | refine cn_global (by k_asm) (by k_asm) (by k_asm) (by k_is) ?_
  | refine cn_built (by k_asm) (by k_asm) (by k_asm) (by k_is) (by boot_by_name) (by decide) ?_))
section
open PySem PySem.W PyProof.Rows PyProof.V Mine
set_option maxRecDepth 100000
set_option maxHeartbeats 8000000
namespace Mine2
section
variable {w : World} {mg mb : Str → Option Value} {dp un : Nat} {gd : Option (List Code)} {s : Shared} {Q : Flow → Shared → Prop} {E : Value → Shared → Prop}
theorem law_loop {base : Heap} {L fa tx : Addr} {cd : Value} {m : Str → Option Value} {wt : List Value} {ys : List Str} {anc : Str → List Str} {q3 : Obj} (PB : PW w mg mb base)
    (hdp : dp ≤ 310) (hu : un ≤ 3000) (hwt : StrsAre wt ys) (hys : ys.length ≤ 6) (hanc : AncOk anc ys) (d3 : q3.data = .cell none) (hlt : (L + 1 + 1 + 1 : Nat) < (tx : Nat))
    (F : Fr base L s.heap m) (N : News base L s.heap [(tx, W.listOf wt.toArray 0), (L + 1 + 1 + 1, q3)]) (m1 : m "texts" = some (.ref tx))
    (hQ : ∀ s' P T ms m tk mt vt vm c1 cm q3, P.length = ys.length → GRun anc ys P T ms → Fr base L s'.heap m → m "texts" = some (.ref tx) → m "met" = some (.ref mt) → q3.data = .cell (some (.ref tk)) → StrsAre vt T → IntsAre vm ms →
      mt ≠ L + 1 + 1 + 1 ∧ mt ≠ tk ∧ mt ≠ tx ∧ tk ≠ L + 1 + 1 + 1 ∧ tk ≠ tx →
      News base L s'.heap [(mt, listObj vm cm), (L + 1 + 1 + 1, q3), (tk, listObj vt c1), (tx, listObj wt 0)] → GExt NoG s.gens s'.gens s.os s'.os →
      wpAny (model prog w) ((Ar dp un (some []) gd).deeper (envOfC (Str.ofString "law") lawDef.2 L fa cd)) (execs (lawDef.1.drop 5) (envOfC (Str.ofString "law") lawDef.2 L fa cd)) Q E s') :
    wpAny (model prog w) ((Ar dp un (some []) gd).deeper (envOfC (Str.ofString "law") lawDef.2 L fa cd)) (execs (lawDef.1.drop 2) (envOfC (Str.ofString "law") lawDef.2 L fa cd)) Q E s := by
  conv in (List.drop 2 _) => whnf
  conv => enter [2, 2, 2]; whnf
  conv => enter [3, 2, 2]; whnf
  obtain ⟨KX, T⟩ := id PB
  refine execs_box ?_
  k_steps
  rename_i tk h1 F1 N1 l1 h2 q5 F2 N2 dq5
  simp only [List.cons_append, List.nil_append] at N2
  obtain ⟨l1a, l1b⟩ := l1
  refine Box.mk ?_
  refine cut_state (h' := h2) (fun sa ea1 ea2 ea3 => ?_) rfl
  subst ea1
  replace ea2 : sa.gens = s.gens := ea2
  replace ea3 : sa.os = s.os := ea3
  clear F1 N1
  refine execs_box ?_
  k_steps
  refine Box.mk (execs_box ?_)
  refine for_stmt ?_
  replace m1 : _ = _ := m1
  rename Fr _ _ _ _ => F3
  replace F3 := fr_named F3 "texts" _ (show (if _ then _ else _) = _ from (if_neg (by decide)).trans m1)
  k_steps
  rename_i mt h4 l2 h5 N4
  obtain ⟨l2a, l2b, l2c⟩ := l2
  refine Box.mk ?_
  refine cut_state (h' := h5) (fun sb eb1 eb2 eb3 => ?_) rfl
  subst eb1
  replace eb2 : sb.gens = sa.gens := eb2
  replace eb3 : sb.os = sa.os := eb3
  refine list_src (xs := ys) (items := wt.toArray) ⟨_, N4.get (a := tx) (by k_mem), rfl, _, rfl⟩ fun sc it oi hit kb gb ob hin hio hic hne hR => ?_
  have Fb := Fr.keepAll F3 kb
  have Nb := News.keepAll N4 kb
  have hoff := news_off N4 hin
  have e5 : mt ≠ it := fun h => hoff (mt, W.listOf #[.int 0 sa.toks] 0) (by k_mem) (List.mem_singleton.mpr h)
  have e8 : it ≠ L + 1 + 1 + 1 := fun h => hoff (L + 1 + 1 + 1, q5) (by k_mem) (List.mem_singleton.mpr h.symm)
  have eA : tk ≠ it := fun h => hoff (tk, W.listOf #[] 0) (by k_mem) (List.mem_singleton.mpr h)
  have hitL := fr_off F3 hin
  have hitb : base.get? it = none := KeepAll.none_of F3.keep hin
  refine ⟨TurnJ w base L it tx tk mt wt 0 ys anc s, ys.length, ?_, law_turn PB hdp hu hwt hys hanc hne (Nat.ne_of_gt l2c) (Nat.ne_of_gt l2a) (Nat.ne_of_gt l2b) e5 (Nat.ne_of_gt l1b) (Nat.ne_of_gt hlt) e8 (Nat.ne_of_gt l1a) eA fun s' P T ms m' vt vm c1 cm q3' hPl G F' n1 n2 dq hvt hvm N' hG => Box.mk (hQ s' P T ms m' tk mt vt vm c1 cm q3' hPl G F' n1 n2 dq hvt hvm ⟨Nat.ne_of_gt l2c, Nat.ne_of_gt l2a, Nat.ne_of_gt l2b, Nat.ne_of_gt l1b, Nat.ne_of_gt l1a⟩ N' hG)⟩
  refine ⟨[], ys, [], [0], _, [], [.int 0 sa.toks], 0, 0, q5, oi, rfl, by simp, .nil, Fb, if_pos rfl, (if_neg (by decide)).trans (if_pos rfl), dq5, .nil, .cons _ _ .nil, ?_, hR, ?_⟩
  · exact newsPick [_, _, _, _, _] _ [1, 4, 2, 3, 0] (allC ⟨hio, Ne.symm hitL, hitb⟩ Nb)
  · rw [← ea2, ← ea3, ← eb2, ← eb3, ← gb, ← ob]; exact GExt.refl _ _ _
end
end Mine2
end
section
open PySem PySem.W PyProof.Rows PyProof.V Mine
set_option maxRecDepth 100000
set_option maxHeartbeats 8000000
namespace Mine2
section
variable {w : World} {mg mb : Str → Option Value} {dp un : Nat} {gd : Option (List Code)} {s : Shared} {Q : Flow → Shared → Prop} {E : Value → Shared → Prop}
theorem law_low {base : Heap} {L fa tx : Addr} {cd : Value} {m : Str → Option Value} {wt : List Value} {ct : Nat} {ys : List Str} {anc : Str → List Str} {R : List (Addr × Obj)} (PB : PW w mg mb base)
    (hdp : dp ≤ 310) (hu : un ≤ 3000) (hwt : StrsAre wt ys) (hys : ys.length ≤ 6) (hanc : AncOk anc ys) (hfl : (ys.flatMap fun y => (anc y).take 1).length ≤ 1000)
    (F : Fr base L s.heap m) (N : News base L s.heap ((tx, listObj wt ct) :: R)) (m1 : m "texts" = some (.ref tx))
    (hQ : ∀ s' D o, GExt NoG s.gens s'.gens s.os s'.os → Fr base L s'.heap (fun z => if z = Str.ofString "lowest" then some (.ref D) else m z) →
      News base L s'.heap ((D, o) :: (tx, listObj wt ct) :: R) → o.IsDictOf (strKind prog w) (keyed (ys.flatMap fun y => (anc y).take 1)) → (D == sysModules) = false → (∀ p ∈ (tx, listObj wt ct) :: R, p.1 < D) →
      wpAny (model prog w) ((Ar dp un (some []) gd).deeper (envOfC (Str.ofString "law") lawDef.2 L fa cd)) (execs (lawDef.1.drop 6) (envOfC (Str.ofString "law") lawDef.2 L fa cd)) Q E s') :
    wpAny (model prog w) ((Ar dp un (some []) gd).deeper (envOfC (Str.ofString "law") lawDef.2 L fa cd)) (execs (lawDef.1.drop 5) (envOfC (Str.ofString "law") lawDef.2 L fa cd)) Q E s := by
  conv in (List.drop 5 _) => whnf
  conv => enter [2, 2, 2]; whnf
  conv => enter [3, 2, 2]; whnf
  obtain ⟨KX, T⟩ := id PB
  refine execs_box ?_
  have F0 : Box (Fr base L s.heap m) := ⟨F⟩
  replace F := fr_named F "texts" _ m1
  k_steps
  refine callWith_boundB (vs := #[.builtin "dict.fromkeys", .type "dict"]) ?_
  k_steps
  refine Box.mk (comp_head (by with_unfolding_all exact rfl) rfl (by decide) ?_)
  k_steps
  have hwl : wt.length = ys.length := StrsAre.len hwt
  refine Box.mk (list_src (xs := ys) (items := wt.toArray) ⟨_, N.get (.head _), rfl, _, rfl⟩ fun sb it oi hit kb gb ob hin hio hic hne hR => ?_)
  have Fb := Fr.keepAll F0.out kb
  have Nb := News.keepAll N kb
  have hWn := news_off N hin
  have hLit := fr_off F hin
  have hitb : ∀ b, b ∈ [it] → base.get? b = none := fun b hb => by rw [List.mem_singleton.mp hb]; exact KeepAll.none_of F.keep hin
  have hlfL : tx ≠ L := (N _ (.head _)).2.1
  have hPt : Paired (fun (y : Str) v => ∃ t, v = Value.str y t) ys wt.toArray.toList := by simpa using strs_paired hwt
  clear F N
  refine comp_over2 (l := [envOfC (Str.ofString "law") lawDef.2 L fa cd]) (base := base) (Val := fun (y : Str) v => ∃ t, v = Value.str y t) (F := fun (y : Str) v => ∃ t, v = .str y t) (g := fun y => (anc y).take 1) rfl (by decide) rfl rfl rfl (fun _ _ => rfl) (it_list rfl it tx hne hPt _ _) hR (okl_of_fr Fb rfl law_kind) (fun b hb => ?_)
    (fun b hb => ?_) hitb ?_ (by omega) ?_
  · simp only [List.mem_cons, List.not_mem_nil, or_false] at hb
    rcases hb with rfl | rfl
    · exact ⟨oi, hio⟩
    · exact ⟨_, (Nb _ (.head _)).1⟩
  · simp only [List.mem_cons, List.not_mem_nil, or_false] at hb
    simp only [frs, List.filterMap]
    rcases hb with rfl | rfl
    · exact fun h => hLit (List.mem_singleton.mp h).symm
    · exact fun h => hlfL (List.mem_singleton.mp h)
  · rintro D C ND y v s₃ m₃ vs3 c3 hy ok3 X3 hn3 hx ⟨tv, rfl⟩ hD3
    obtain ⟨hy8, hcr, hcl⟩ := hanc y hy
    have hL3 : ∃ o, s₃.heap.get? L = some o := let ⟨_, o, e, _⟩ := ok3.2.mem (b := L) (.head _); ⟨o, e⟩
    have hbL : base.get? L = none := (ok3.2.mem (b := L) (.head _)).1
    have hbC : base.get? C = none := KeepAll.none_of Fb.keep ND.c
    have hbD : base.get? D = none := KeepAll.none_of Fb.keep ND.d
    obtain ⟨F5, N5⟩ := elt_ready Fb Nb rfl ND X3 hWn ok3.1 hn3
    have F50 : Box (Fr base C s₃.heap m₃) := ⟨F5⟩
    replace F5 := fr_named F5 "text" _ hx
    have hCs : base.objs.size ≤ s₃.heap.objs.size := Nat.le_trans F5.above (Nat.le_of_lt F5.ns.lt)
    clear Nb hQ
    k_steps
    refine Box.mk (ancestry_new (base := base) PB ok3.1 hCs (by show dp + 1 < 1000; omega) (by omega) hcr fun a Lg s4 hE ha hLg hG => ?_)
    have F6 := Fr.keepAll F5 hE.keepAll
    have fr1 : ∀ b, b ∈ frs [envOfC (Str.ofString "law") lawDef.2 L fa cd] → b = L := fun b hb => List.mem_singleton.mp (show b ∈ [L] from hb)
    have ok4 : OkL base [envOfC (Str.ofString "law") lawDef.2 L fa cd] s4.heap := ok3.ext (hE.mono (fun _ h => nomatch h) (fun _ h => h) fun _ h => h) fun b h => h.elim
    have I2 := ownIt_gen (prog := prog) (w := w) (base := base) (g := s₃.gens.size) (xs0 := anc y) (St := KeepAll base) (fun _ k => k) (KeepAll.none_of ok3.1 ha) (KeepAll.none_of ok3.1 hLg)
    have hLa : L ≠ a := fun h => by obtain ⟨o, ho⟩ := hL3; rw [h, ha] at ho; cases ho
    have hLl : L ≠ Lg := fun h => by obtain ⟨o, ho⟩ := hL3; rw [h, hLg] at ho; cases ho
    clear F5 N5
    walk1
    refine call_list_own (l := [envOfC (Str.ofString "law") lawDef.2 L fa cd]) I2 (by show dp + 1 ≤ 400; omega) (by show un + 3 + 4 ≤ 4000; omega) (fun f hf h => ?_) T.nolimit ok4.1 ok4.2 hG (by omega) fun D2 s7 v2 c2 hE7 hD2 hD2l hDv2 hv2 => ?_
    · rw [fr1 f hf] at h
      rcases List.mem_cons.mp h with h | h
      · exact hLa h
      · exact hLl (List.mem_singleton.mp h)
    have hX7 : Ext (frs [envOfC (Str.ofString "law") lawDef.2 L fa cd]) NoA NoG s₃ s7 := ((hE.mono (fun _ h => nomatch h) (W' := fun b => b = Lg) (fun _ h => h.elim) (V' := fun g => g = s₃.gens.size) fun _ h => h.elim).trans hE7).shrink (fun b h => .inl (by rw [h]; exact hLg)) fun g h => .inr (Nat.le_of_eq h.symm)
    have F7 : Fr base C s7.heap m₃ := Ext.fr hX7 F50.out (fun h => h) (fun b hb => by rw [fr1 b hb]; exact hbL) fun b h => h.elim
    have hn7 := F7.ns
    have k7 : KeepAll base s7.heap := F7.keep
    obtain ⟨oC, _, _, hoC, _⟩ := F6.ns
    have hlC : C < D2 := hD2l _ _ hoC
    have hDb : base.get? D2 = none := KeepAll.none_of F6.keep hD2
    have ok7 : OkL base [envOfC (Str.ofString "law") lawDef.2 L fa cd] s7.heap := ok3.ext hX7 fun b h => h.elim
    obtain ⟨F8, N8⟩ := elt_start (base := base) (news := [(D2, listObj v2 c2)]) hn7 k7 F6.above (allC ⟨hDv2, Nat.ne_of_gt hlC, hDb⟩ allN)
    have F80 : Box (Fr base C s7.heap m₃) := ⟨F8⟩
    simp only [List.cons_append, List.nil_append] at N8
    clear F6 F7
    k_steps
    rename_i h9 F9 N9
    have et : slicePick v2.toArray none (some 1) none = (v2.take 1).toArray := slicePick_upto' _ 1
    rw [et] at N9
    dsimp only at N9
    have hP1 : Paired (fun (y : Str) v => ∃ t, v = Value.str y t) ((anc y).take 1) (v2.take 1) := Paired.take_ 1 (strs_paired hv2)
    have hX9 : Ext (frs [envOfC (Str.ofString "law") lawDef.2 L fa cd]) (fun b => b = C) NoG s7 { heap := h9, gens := s7.gens, drawn := s7.drawn, toks := s7.toks + 1, os := s7.os } := (elt_end (F := fun (_ : Unit) _ _ => True) (y := ()) (r := .none) (s₃ := s7) (s₄ := { heap := h9, gens := s7.gens, drawn := s7.drawn, toks := s7.toks + 1, os := s7.os }) F80.out F9 N9 (fun q hq => .tail _ (.tail _ hq)) rfl rfl trivial).ext
    have hl3 : s7.heap.get? (s7.heap.objs.size + 1) = none := get?_size_none _ (Nat.le_succ _)
    generalize s7.heap.objs.size + 1 = l3 at N9 hl3 ⊢
    refine Box.mk (list_src (xs := (anc y).take 1) (items := (v2.take 1).toArray) ⟨_, N9.get (.head _), rfl, _, rfl⟩ fun s8 itv oiv hitv kv gv ov hinv hiov hicv hnev hRv => ?_)
    have none37 : ∀ b, s7.heap.get? b = none → s₃.heap.get? b = none := fun b hb => by
      cases e : s₃.heap.get? b with
      | none => rfl
      | some o =>
        exfalso
        by_cases hL : b ∈ frs [envOfC (Str.ofString "law") lawDef.2 L fa cd]
        · obtain ⟨sl, h⟩ := hX7.slots _ _ hL (fun h => h) e
          rw [hb] at h; cases h
        · have h := hX7.heap _ _ hL (fun h => h) e
          rw [hb] at h; cases h
    have none79 : ∀ b, h9.get? b = none → s7.heap.get? b = none := fun b hb => by
      cases e : s7.heap.get? b with
      | none => rfl
      | some o =>
        exfalso
        by_cases hC : b = C
        · obtain ⟨oc, _, _, hoc, _⟩ := F9.ns
          rw [← hC, hb] at hoc; cases hoc
        by_cases hL : b ∈ frs [envOfC (Str.ofString "law") lawDef.2 L fa cd]
        · obtain ⟨sl, h⟩ := hX9.slots _ _ hL hC e
          dsimp only at h
          rw [hb] at h; cases h
        · have h := hX9.heap _ _ hL hC e
          dsimp only at h
          rw [hb] at h; cases h
    have hi3 : s₃.heap.get? itv = none := none37 _ (none79 _ hinv)
    have hl33 : s₃.heap.get? l3 = none := none37 _ hl3
    have off3 : ∀ b, s₃.heap.get? b = none → b ≠ D ∧ b ≠ C ∧ b ∉ frs [envOfC (Str.ofString "law") lawDef.2 L fa cd] := by
      intro b hb
      refine ⟨fun h => ?_, fun h => ?_, fun h => ?_⟩
      · rw [h, hD3] at hb; cases hb
      · obtain ⟨oc, _, _, hoc, _⟩ := F50.out.ns
        rw [h, hoc] at hb; cases hb
      · obtain ⟨o, ho⟩ := hL3
        rw [fr1 b h, ho] at hb; cases hb
    have hLn : ∀ b, sb.heap.get? b = none → b ∉ frs [envOfC (Str.ofString "law") lawDef.2 L fa cd] := fun b hb h => by
      obtain ⟨o, _, _, ho, _⟩ := Fb.ns
      rw [fr1 b h, ho] at hb; cases hb
    have hW8 : ∀ b, (b = D ∨ b = C ∨ b ∈ [itv]) → base.get? b = none ∧ b ∉ frs [envOfC (Str.ofString "law") lawDef.2 L fa cd] := fun b hb => by
      rcases hb with rfl | rfl | hb
      · exact ⟨hbD, hLn _ ND.d⟩
      · exact ⟨hbC, hLn _ ND.c⟩
      · rw [List.mem_singleton.mp hb]
        exact ⟨KeepAll.none_of F9.keep hinv, (off3 _ hi3).2.2⟩
    have ok9 := ok7.ext hX9 fun b hb => by rw [show b = C from hb]; exact ⟨hbC, hLn _ ND.c⟩
    have hX8 : Ext (frs [envOfC (Str.ofString "law") lawDef.2 L fa cd]) (fun b => b = C) NoG s₃ s8 :=
      ((hX7.mono (fun _ h => h) (fun _ h => h.elim) fun _ h => h).trans hX9).trans ⟨fun b o _ _ e => kv b o e, fun b o _ _ e => ⟨o.slots, kv b o e⟩, fun g _ x e => by rw [gv]; exact e, by rw [gv]; exact Nat.le_refl _, fun h => by rw [gv]; exact h, ov⟩
    refine ⟨⟨fun (y : Str) v => ∃ t, v = Value.str y t, itv, OkL base [envOfC (Str.ofString "law") lawDef.2 L fa cd], fun b => b ∈ [itv], NoG, [itv, l3], _, rfl, it_list rfl itv l3 hnev (by simpa using hP1) _ _, hRv, ok9.up kv,
      allC (off3 _ hi3) (allC (off3 _ hl33) allN), fun b hb => by rw [List.mem_singleton.mp hb]; exact hi3, fun g h => h.elim, fun s s' o X => o.ext X hW8, ?_⟩, hX8, ⟨m₃, F9.ns.keeps kv⟩⟩
    rintro z v2' s₆ m6 _ ok6 X6 hn6 hx6 ⟨tz, rfl⟩
    have F10 : Fr base C s₆.heap m6 := ⟨hn6, ok6.1, F9.above⟩
    replace F10 := fr_named F10 "bare" _ hx6
    clear F9 F8 Fb N8 N9
    k_steps
    exact elt_keep hn6 (fun _ _ e => e) rfl rfl ⟨_, rfl⟩
  · intro D1 sc v1 c1 hDn hDs hX hDv hP
    obtain ⟨Fc, Nc, lD⟩ := comp_after Fb Nb hX rfl (fun h => hLit (List.mem_singleton.mp h)) hitb hWn hDs hDv
    k_steps
    have h148 : sc.heap.get? 148 = some _ := Fc.keep _ _ (KX 148 _ (by k_is))
    have hvl := hP.length
    refine ⟨h148, call_dedupe (knd := strKind prog w) (xs := ys.flatMap fun y => (anc y).take 1) (items := v1.toArray) h148 rfl ⟨_, hDv, rfl, _, rfl⟩ (by rw [List.size_toArray, hvl]) (fun i v hv => ?_) hfl fun D h' tk hd hDn2 kh hDlt => ?_⟩
    · have hi : i < v1.length := by
        have := (Array.getElem?_eq_some_iff.mp hv).1
        simpa using this
      have hi' : i < (ys.flatMap fun y => (anc y).take 1).length := by rw [hvl]; exact hi
      obtain ⟨t, rfl⟩ := Paired.at_ hP i _ v (List.getElem?_eq_getElem hi') (by simpa using hv)
      exact ⟨hi', strKind_is _ _ _ _⟩
    obtain ⟨o, ho, hdd⟩ := Heap.dictOf_iff.mp hd
    have F7 := Fr.keepAll Fc kh
    have hDLt : L < D := by
      obtain ⟨oL, _, _, hoL, _⟩ := Fc.ns
      exact hDlt _ _ hoL
    have hDbase : base.get? D = none := KeepAll.none_of Fc.keep hDn2
    have N7 : News base L h' ((D, o) :: (tx, listObj wt ct) :: R) := List.forall_mem_cons.mpr ⟨⟨ho, Nat.ne_of_gt hDLt, hDbase⟩, fun p hp => News.keepAll Nc kh p (.tail _ hp)⟩
    have hlt7 : ∀ p ∈ (tx, listObj wt ct) :: R, p.1 < D := fun p hp => hDlt _ _ (Nc p (.tail _ hp)).1
    have hsys : (D == sysModules) = false := by
      have h1 := modules_low T.nolimit
      have h2 : sysModules < D := Nat.lt_trans (Nat.lt_of_lt_of_le h1 F7.above) hDLt
      exact beq_eq_false_iff_ne.mpr (Nat.ne_of_gt h2)
    have hG : GExt NoG s.gens sc.gens s.os sc.os := by rw [← gb, ← ob]; exact Ext.g hX
    clear Fc Nc Fb Nb hX hP
    walk1
    rename Fr _ _ _ _ => F8
    rename News _ _ _ _ => N8
    exact Box.mk (hQ _ D o hG F8 N8 hdd hsys hlt7)
end
end Mine2
end
section
open PySem PySem.W PyProof.Rows PyProof.V Mine
set_option maxRecDepth 100000
set_option maxHeartbeats 8000000
namespace Mine2
section
variable {w : World} {mg mb : Str → Option Value} {dp un : Nat} {gd : Option (List Code)} {s : Shared} {Q : Flow → Shared → Prop} {E : Value → Shared → Prop}
theorem law_ends {base : Heap} {L fa tx dl : Addr} {cd : Value} {m : Str → Option Value} {wt : List Value} {ct : Nat} {ys : List Str} {anc : Str → List Str} {kvs : List (Str × Value)} {od : Obj} {R : List (Addr × Obj)} (PB : PW w mg mb base)
    (hdp : dp ≤ 310) (hu : un ≤ 3000) (hwt : StrsAre wt ys) (hys : ys.length ≤ 6) (hanc : AncOk anc ys) (hfl : (ys.flatMap fun y => (anc y).tail).length ≤ 1000) (hU : od.IsDictOf (PySem.strKind prog w) kvs) (hlo : (dl == sysModules) = false) (hk9 : kvs.length ≤ 100)
    (F : Fr base L s.heap m) (N : News base L s.heap ((dl, od) :: (tx, listObj wt ct) :: R)) (m1 : m "texts" = some (.ref tx)) (m2 : m "lowest" = some (.ref dl))
    (hQ : ∀ s' D vs c, GExt NoG s.gens s'.gens s.os s'.os → Fr base L s'.heap (fun z => if z = Str.ofString "ends" then some (.ref D) else m z) →
      News base L s'.heap ((D, listObj vs c) :: (dl, od) :: (tx, listObj wt ct) :: R) → StrsAre vs ((kvs.map (·.1)).filter fun z => !(ys.flatMap fun y => (anc y).tail).any (· == z)) → (∀ p ∈ (dl, od) :: (tx, listObj wt ct) :: R, p.1 < D) →
      wpAny (model prog w) ((Ar dp un (some []) gd).deeper (envOfC (Str.ofString "law") lawDef.2 L fa cd)) (execs (lawDef.1.drop 7) (envOfC (Str.ofString "law") lawDef.2 L fa cd)) Q E s') :
    wpAny (model prog w) ((Ar dp un (some []) gd).deeper (envOfC (Str.ofString "law") lawDef.2 L fa cd)) (execs (lawDef.1.drop 6) (envOfC (Str.ofString "law") lawDef.2 L fa cd)) Q E s := by
  conv in (List.drop 6 _) => whnf
  conv => enter [2, 2, 2]; whnf
  conv => enter [3, 2, 2]; whnf
  obtain ⟨KX, T⟩ := id PB
  refine execs_box ?_
  have F0 : Box (Fr base L s.heap m) := ⟨F⟩
  replace F := fr_named F "texts" _ m1
  replace F := fr_named F "lowest" _ (show (if _ then _ else _) = _ from (if_neg (by decide)).trans m2)
  k_steps
  refine Box.mk (comp_head (by with_unfolding_all exact rfl) rfl (by decide) ?_)
  k_steps
  have hwl : wt.length = ys.length := StrsAre.len hwt
  refine Box.mk (list_src (xs := ys) (items := wt.toArray) ⟨_, N.get (a := tx) (by k_mem), rfl, _, rfl⟩ fun sb it oi hit kb gb ob hin hio hic hne hR => ?_)
  have Fb := Fr.keepAll F0.out kb
  have Nb := News.keepAll N kb
  have hWn := news_off N hin
  have hLit := fr_off F hin
  have hitb : ∀ b, b ∈ [it] → base.get? b = none := fun b hb => by rw [List.mem_singleton.mp hb]; exact KeepAll.none_of F.keep hin
  have hlfL : tx ≠ L := (N (tx, listObj wt ct) (by k_mem)).2.1
  have hPt : Paired (fun (y : Str) v => ∃ t, v = Value.str y t) ys wt.toArray.toList := by simpa using strs_paired hwt
  clear F N
  refine comp_over2 (l := [envOfC (Str.ofString "law") lawDef.2 L fa cd]) (base := base) (Val := fun (y : Str) v => ∃ t, v = Value.str y t) (F := fun (y : Str) v => ∃ t, v = .str y t) (g := fun y => (anc y).tail) rfl (by decide) rfl rfl rfl (fun _ _ => rfl) (it_list rfl it tx hne hPt _ _) hR (okl_of_fr Fb rfl law_kind) (fun b hb => ?_)
    (fun b hb => ?_) hitb ?_ (by omega) ?_
  · simp only [List.mem_cons, List.not_mem_nil, or_false] at hb
    rcases hb with rfl | rfl
    · exact ⟨oi, hio⟩
    · exact ⟨_, (Nb (_, listObj wt ct) (by k_mem)).1⟩
  · simp only [List.mem_cons, List.not_mem_nil, or_false] at hb
    simp only [frs, List.filterMap]
    rcases hb with rfl | rfl
    · exact fun h => hLit (List.mem_singleton.mp h).symm
    · exact fun h => hlfL (List.mem_singleton.mp h)
  · rintro D C ND y v s₃ m₃ vs3 c3 hy ok3 X3 hn3 hx ⟨tv, rfl⟩ hD3
    obtain ⟨hy8, hcr, hcl⟩ := hanc y hy
    have hL3 : ∃ o, s₃.heap.get? L = some o := let ⟨_, o, e, _⟩ := ok3.2.mem (b := L) (.head _); ⟨o, e⟩
    have hC3 : ∃ o, s₃.heap.get? C = some o := let ⟨o, _, _, e, _⟩ := hn3; ⟨o, e⟩
    have hbL : base.get? L = none := (ok3.2.mem (b := L) (.head _)).1
    have hbC : base.get? C = none := KeepAll.none_of Fb.keep ND.c
    have hbD : base.get? D = none := KeepAll.none_of Fb.keep ND.d
    have kB : KeepAll base (hide [L, C, D] s₃.heap) := keep_hide ok3.1 fun a ha => by
      simp only [List.mem_cons, List.not_mem_nil, or_false] at ha
      rcases ha with rfl | rfl | rfl <;> assumption
    have PB2 := PB.keepAll kB
    obtain ⟨F5, N5⟩ := elt_ready Fb Nb rfl ND X3 hWn ok3.1 hn3
    replace F5 := fr_named F5 "text" _ hx
    clear Nb hQ N5
    k_steps
    have kI := hide_keep [L, C, D] s₃.heap
    refine Box.mk (parents_spec (base := hide [L, C, D] s₃.heap) PB2 kI (by rw [hide_size]; exact Nat.le_refl _) (by show dp + 1 + 5 < 450; omega) (by show un + 3 + 30 ≤ 4500; omega) (by omega) hcr (by omega) fun x s4 hE4 hS4 => ?_)
    obtain ⟨W2, V2, own2, R2, I2, hR4, hV2, hown⟩ := hS4
    have k4 : KeepAll (hide [L, C, D] s₃.heap) s4.heap := kI.trans hE4.keepAll
    show wpAny _ _ (pyIter (.ref x)) _ _ s4
    refine I2.iter _ _ [envOfC (Str.ofString "law") lawDef.2 L fa cd] _ _ s4 _ _ (by show dp + 1 ≤ 400; omega) (by show un + 3 ≤ 4000; omega) k4 (PB2.T.nolimit.keeps k4) hR4 fun s5 hE5 hR5 => ?_
    have ne3 : ∀ b ∈ own2, ∀ c, (∃ o, s₃.heap.get? c = some o) → b ≠ c := fun b hb c ⟨o, ho⟩ h => by
      have := hown b hb
      rw [h, ho] at this; cases this
    have hX5 : Ext (frs [envOfC (Str.ofString "law") lawDef.2 L fa cd]) (fun b => b = C) NoG s₃ s5 := (hE4.trans hE5).mono (fun _ h => nomatch h) (fun _ h => h.elim) fun _ h => h
    have fr1 : ∀ b, b ∈ frs [envOfC (Str.ofString "law") lawDef.2 L fa cd] → b = L := fun b hb => List.mem_singleton.mp (show b ∈ [L] from hb)
    have ok5 : OkL (hide [L, C, D] s₃.heap) [envOfC (Str.ofString "law") lawDef.2 L fa cd] s5.heap := (okl_hide ok3 fun b hb => by rw [fr1 b hb]; exact .head _).up (hE4.trans hE5).keepAll
    have hD3' : ∃ o, s₃.heap.get? D = some o := ⟨_, hD3⟩
    have hW2 : ∀ b, (b = D ∨ b = C ∨ W2 b) → (hide [L, C, D] s₃.heap).get? b = none ∧ b ∉ frs [envOfC (Str.ofString "law") lawDef.2 L fa cd] := fun b hb => by
      have hDL : D ≠ L := fun h => by
        obtain ⟨o, _, _, ho, _⟩ := Fb.ns
        rw [← h, ND.d] at ho; cases ho
      have hCL : C ≠ L := fun h => by
        obtain ⟨o, _, _, ho, _⟩ := Fb.ns
        rw [← h, ND.c] at ho; cases ho
      rcases hb with rfl | rfl | hb
      · exact ⟨hide_none (by simp), fun h => hDL (fr1 _ h)⟩
      · exact ⟨hide_none (by simp), fun h => hCL (fr1 _ h)⟩
      · exact ⟨I2.off b (I2.sub b hb), fun h => ne3 b (I2.sub b hb) L hL3 (fr1 _ h)⟩
    refine ⟨⟨_, x, OkL (hide [L, C, D] s₃.heap) [envOfC (Str.ofString "law") lawDef.2 L fa cd], W2, V2, own2, R2, rfl, It.of_own I2 (by show dp + 1 ≤ 400; omega) (by show un + 3 ≤ 4000; omega) PB2.T.nolimit (fun f hf h => ne3 f h L hL3 (fr1 f hf)), hR5, ok5,
      fun b hb => ⟨ne3 b hb D hD3', ne3 b hb C hC3, fun h => ne3 b hb L hL3 (fr1 b h)⟩, fun b hb => hown b (I2.sub b hb), hV2, fun s s' o X => o.ext X hW2, ?_⟩, hX5, ⟨m₃, hn3.keeps (hE4.trans hE5).keepAll⟩⟩
    rintro z v2 s₆ m6 _ ok6 X6 hn6 hx6 ⟨tz, rfl⟩
    have F6 : Fr base C s₆.heap m6 := ⟨hn6, kB.trans ok6.1, F5.above⟩
    replace F6 := fr_named F6 "upper" _ hx6
    clear F5 Fb
    k_steps
    exact elt_keep hn6 (fun _ _ e => e) rfl rfl ⟨_, rfl⟩
  · intro D1 sc v1 c1 hDn hDs hX hDv hP
    obtain ⟨Fc, Nc, lD⟩ := comp_after Fb Nb hX rfl (fun h => hLit (List.mem_singleton.mp h)) hitb hWn hDs hDv
    have hGc : GExt NoG s.gens sc.gens s.os sc.os := by rw [← gb, ← ob]; exact Ext.g hX
    have hv1 : StrsAre v1 (ys.flatMap fun y => (anc y).tail) := by simpa using strs_pairedF (f := fun y => y) hP
    have Fc0 : Box (Fr base L sc.heap m) := ⟨Fc⟩
    clear Fb Nb hX hP
    k_steps
    have hbL : base.get? L = none := get?_size_none _ Fc0.out.above
    have kB : KeepAll base (hide [L] sc.heap) := keep_hide Fc0.out.keep fun a ha => by rw [List.mem_singleton.mp ha]; exact hbL
    have PB2 := PB.keepAll kB
    have kI := hide_keep [L] sc.heap
    have hLs : ∃ o, sc.heap.get? L = some o := let ⟨o, _, _, e, _⟩ := Fc0.out.ns; ⟨o, e⟩
    have fr1 : ∀ b, b ∈ frs [envOfC (Str.ofString "law") lawDef.2 L fa cd] → b = L := fun b hb => List.mem_singleton.mp (show b ∈ [L] from hb)
    have okS : OkL base [envOfC (Str.ofString "law") lawDef.2 L fa cd] sc.heap := okl_of_fr Fc0.out rfl law_kind
    have hdl := Nc (dl, od) (.tail _ (.head _))
    have hflt := List.length_filter_le (fun z => !(ys.flatMap fun y => (anc y).tail).any (· == z)) (kvs.map (·.1))
    rw [List.length_map] at hflt
    refine Box.mk (difference_dict (base := hide [L] sc.heap) (kvs := kvs) PB2 kI (Heap.dictOf_iff.mpr ⟨_, hide_some (by simp only [List.mem_singleton]; exact hdl.2.1) hdl.1, hU⟩) hlo (setFrom_list (items := v1.toArray) (xs := ys.flatMap fun y => (anc y).tail) ⟨_, hDv, rfl, _, rfl⟩ (by simpa using hv1) (by unfold scanBound; omega)) (by show dp + 1 + 5 < 450; omega) (by show un + 3 + 30 ≤ 4500; omega) fun x s1 hE1 hS1 => ?_)
    have F1 : Fr base L s1.heap m := Fr.keepAll Fc0.out hE1.keepAll
    have N1 := News.keepAll Nc hE1.keepAll
    clear Fc
    k_steps
    obtain ⟨W2, V2, own2, R2, I2, hR1, hV2, hown⟩ := hS1
    have ok1 : OkL (hide [L] sc.heap) [envOfC (Str.ofString "law") lawDef.2 L fa cd] s1.heap := (okl_hide okS fun b hb => by rw [fr1 b hb]; exact .head _).up hE1.keepAll
    refine Box.mk (call_list_own (l := [envOfC (Str.ofString "law") lawDef.2 L fa cd]) I2 (by show dp + 1 ≤ 400; omega) (by show un + 3 + 4 ≤ 4000; omega) (fun f hf h => ?_) PB2.T.nolimit ok1.1 ok1.2 hR1 (by omega) fun D2 s2 v2 c2 hE2 hD2 hD2l hDv2 hv2 => ?_)
    · obtain ⟨o, ho⟩ := hLs
      have := hown f h
      rw [fr1 f hf, ho] at this; cases this
    have hX2 : Ext (frs [envOfC (Str.ofString "law") lawDef.2 L fa cd]) NoA NoG sc s2 := ((hE1.mono (fun _ h => nomatch h) (W' := W2) (fun _ h => h.elim) (V' := V2) fun _ h => h.elim).trans hE2).shrink (fun b h => .inl (hown b (I2.sub b h))) fun g h => .inr (hV2 g h)
    have F2 : Fr base L s2.heap m := Ext.fr hX2 Fc0.out (fun h => h) (fun b hb => by rw [fr1 b hb]; exact hbL) fun b h => h.elim
    have Nc0 : News base L sc.heap ((dl, od) :: (tx, listObj wt ct) :: R) := fun p hp => Nc p (.tail _ hp)
    have N20 : News base L s2.heap ((dl, od) :: (tx, listObj wt ct) :: R) := Ext.news hX2 Nc0 (fun q hq h => (Nc0 q hq).2.1 (fr1 _ h)) fun _ _ h => h
    have hk1 := hE1.keepAll
    have hD2n : sc.heap.get? D2 = none := hk1.none_of hD2
    have hDL2 : L < D2 := by
      obtain ⟨o, ho⟩ := hLs
      exact hD2l _ _ (hk1 _ _ ho)
    have N2 : News base L s2.heap ((D2, listObj v2 c2) :: (dl, od) :: (tx, listObj wt ct) :: R) := List.forall_mem_cons.mpr ⟨⟨hDv2, Nat.ne_of_gt hDL2, KeepAll.none_of Fc0.out.keep hD2n⟩, N20⟩
    have hl2 : ∀ p ∈ (dl, od) :: (tx, listObj wt ct) :: R, p.1 < D2 := fun p hp => hD2l _ _ (hk1 _ _ (Nc0 p hp).1)
    have hG : GExt NoG s.gens s2.gens s.os s2.os := hGc.trans (Ext.g hX2)
    clear F1 N1 N20 Nc Nc0
    walk1
    rename Fr _ _ _ _ => F3
    rename News _ _ _ _ => N3
    exact Box.mk (hQ _ D2 v2 c2 hG F3 N3 hv2 hl2)
end
end Mine2
end
local macro_rules | `(tactic| walk_at "compareOp Eq ref ref") => `(tactic| ((with_reducible show wpAny _ _ (compareOp _ (Value.ref _) (Value.ref _)) _ _ _); refine unbox ?_))
section
open PySem PySem.W PyProof.Rows PyProof.V Mine PySem.SeqAt
set_option maxRecDepth 100000
set_option maxHeartbeats 8000000
namespace Mine2
section
variable {w : World} {mg mb : Str → Option Value} {dp un : Nat} {gd : Option (List Code)} {s : Shared} {Q : Flow → Shared → Prop} {E : Value → Shared → Prop}
theorem law_end {base : Heap} {L fa tx tk mt en c3 : Addr} {cd : Value} {m : Str → Option Value} {wt vt vm ve : List Value} {ct c1 cm ce : Nat} {ys T ends : List Str} {ms : List Int} {q3 : Obj} {R : List (Addr × Obj)} (PB : PW w mg mb base)
    (hdp : dp ≤ 310) (hu : un ≤ 3000) (hwt : StrsAre wt ys) (hys : ys.length ≤ 6) (hvt : StrsAre vt T) (hT : T.length ≤ 48) (hvm : IntsAre vm ms) (hms : ms.length ≤ 7) (hy8 : ∀ y ∈ ys, y.length ≤ 8) (hve : StrsAre ve ends) (hen : ends.length ≤ 100) (hc3 : c3 = L + 1 + 1 + 1) (d3 : q3.data = .cell (some (.ref tk)))
    (hTd : T.Nodup) (hTm : ∀ z, z ∈ T ↔ ∃ y ∈ ys, z ∈ routeL y) (hmost : ∀ nn, Paired CardOf (subsOf ys) nn → (mostOf ys.length ((subsOf ys).zip nn)).map Int.ofNat = ms) (hends : (keyed ms).length = ends.length + 1)
    (F : Fr base L s.heap m) (N : News base L s.heap [(en, listObj ve ce), (mt, listObj vm cm), (c3, q3), (tk, listObj vt c1), (tx, listObj wt ct)]) (m1 : m "texts" = some (.ref tx)) (m2 : m "met" = some (.ref mt)) (m3 : m "ends" = some (.ref en))
    (hQ : ∀ s', KeepAll base s'.heap → GExt NoG s.gens s'.gens s.os s'.os → Q (.ret (.bool true)) s') :
    wpAny (model prog w) ((Ar dp un (some []) gd).deeper (envOfC (Str.ofString "law") lawDef.2 L fa cd)) (execs (lawDef.1.drop 7) (envOfC (Str.ofString "law") lawDef.2 L fa cd)) Q E s := by
  conv in (List.drop 7 _) => whnf
  conv => enter [2, 2, 2]; whnf
  conv => enter [3, 2, 2]; whnf
  obtain ⟨KX, T0⟩ := id PB
  subst hc3
  refine execs_box ?_
  have F0 : Box (Fr base L s.heap m) := ⟨F⟩
  replace F := fr_named F "texts" _ m1
  replace F := fr_named F "met" _ (show (if _ then _ else _) = _ from (if_neg (by decide)).trans m2)
  replace F := fr_named F "ends" _ (show (if _ then _ else _) = _ from (if_neg (by decide)).trans ((if_neg (by decide)).trans m3))
  k_steps
  have htkl := N (tk, listObj vt c1) (by k_mem)
  refine call_set_D (xs := T) (items := vt.toArray) (by rfl) ⟨_, htkl.1, rfl, _, rfl⟩ (by simpa using hvt) (by unfold scanBound; omega) fun h1 tk1 lT hS1 hmT k1 => ?_
  have F1 := Fr.keepAll F k1
  have N1 := News.keepAll N k1
  obtain ⟨_, o1, _, _, _, ho1, _⟩ := id hS1
  have hLs : (L : Nat) < s.heap.objs.size := F0.out.ns.lt
  have hbs : base.objs.size ≤ s.heap.objs.size := Nat.le_trans F0.out.above (Nat.le_of_lt hLs)
  have hD1L : (s.heap.objs.size : Nat) ≠ (L : Nat) := Nat.ne_of_gt hLs
  have hD1b : base.get? s.heap.objs.size = none := get?_size_none _ hbs
  generalize s.heap.objs.size = D1 at hS1 ho1 hD1L hD1b ⊢
  have N2 : News base L h1 [(D1, o1), (en, listObj ve ce), (mt, listObj vm cm), (L + 1 + 1 + 1, q3), (tk, listObj vt c1), (tx, listObj wt ct)] := allC ⟨ho1, hD1L, hD1b⟩ N1
  clear F N N1
  k_steps
  rename_i D2 h2 F3 N3 l3
  have hmD2 := N3.get (a := D2) (.head _)
  have hS2 : SetD (strKind prog w) h2 D1 lT := by
    have e2 := N3.get (a := D1) (by k_mem)
    obtain ⟨hn, o, es, ep, tt, ho, r⟩ := hS1
    have : o = o1 := Option.some.inj (ho.symm.trans ho1)
    subst this
    exact ⟨hn, o, es, ep, tt, e2, r⟩
  refine Box.mk (most_spec (items := wt.toArray) (ys := ys) (PB.keepAll F3.keep) (by show dp + 1 + 10 < 450; omega) (by show un + 3 + 40 ≤ 4500; omega) ⟨_, N3.get (a := tx) (by k_mem), rfl, _, rfl⟩ (by simpa using hwt) hys hy8 fun TT s2 M H wm2 cm2 nn lH hE2 hTT hM hwm2 hnn hSH hmH hTn hHn => ?_)
  have F4 := Fr.keepAll F3 hE2.keepAll
  have N4 := News.keepAll N3 hE2.keepAll
  have hS4 := hS2.keep hE2.keepAll
  have hG4 := hE2.g
  have hHD : D1 ≠ H := fun e => by
    have e2 := N3.get (a := D1) (by k_mem)
    rw [e] at e2; dsimp only at hHn; rw [hHn] at e2; cases e2
  have hTD : D2 ≠ TT := fun e => by
    have e2 := hmD2
    rw [e] at e2; dsimp only at hTn; rw [hTn] at e2; cases e2
  clear F3 N3
  have hlen : lT.length = lH.length := Nat.le_antisymm
    (nodup_le _ _ hS4.1 fun z hz => (hmH z).mpr ((hTm z).mp ((hmT z).mp hz)))
    (nodup_le _ _ hSH.1 fun z hz => (hmT z).mpr ((hTm z).mpr ((hmH z).mp hz)))
  rw [hmost nn hnn] at hwm2
  have hun : ((Ar dp un (some []) gd).deeper (envOfC (Str.ofString "law") lawDef.2 L fa cd)).units + 20 < cLine := by
    show un + 3 + 20 < 9900
    omega
  walk1
  refine Box.mk (eq_pair (x := vm.toArray) (y := wm2.toArray) (ns := ms) ⟨_, N4.get (a := D2) (by k_mem), rfl, _, rfl⟩ ⟨_, hTT, rfl, _, rfl⟩ ⟨_, N4.get (a := mt) (by k_mem), rfl, _, rfl⟩ ⟨_, hM, rfl, _, rfl⟩ (by simpa using hvm) (by simpa using hwm2) hS4 hSH hHD hlen (fun z hz => (hmH z).mpr ((hTm z).mp ((hmT z).mp hz))) (by show un + 3 + 9 < 9900; omega) ?_)
  clear hS4 hSH hTT hM hwm2 hnn hmH hmT hS1 hS2 hE2
  k_steps
  refine callWith_boundB (vs := #[.builtin "dict.fromkeys", .type "dict"]) ?_
  k_steps
  have h148 : s2.heap.get? 148 = some _ := F4.keep _ _ (KX 148 _ (by k_is))
  have hml := hvm.length
  refine ⟨h148, call_dedupe (knd := intKind prog w) (xs := ms) (items := vm.toArray) h148 rfl ⟨_, N4.get (a := mt) (by k_mem), rfl, _, rfl⟩ (by rw [List.size_toArray, hml]) (fun i v hv => ?_) (by omega) fun D h' tk5 hd hDn2 kh hDlt => ?_⟩
  · have hi : i < vm.length := by
      have := (Array.getElem?_eq_some_iff.mp hv).1
      simpa using this
    obtain ⟨t, rfl⟩ := hvm.int_at i v (by simpa using hv)
    have hi' : i < ms.length := by omega
    refine ⟨hi', ?_⟩
    rw [List.getD_eq_getElem?_getD, List.getElem?_eq_getElem hi']
    exact intKind_is _ _ _ _
  have F5 := Fr.keepAll F4 kh
  have N5 := News.keepAll N4 kh
  have hDLt : L < D := by
    obtain ⟨oL, _, _, hoL, _⟩ := F4.ns
    exact hDlt _ _ hoL
  have hsys : (D == sysModules) = false := by
    have h1 := modules_low T0.nolimit
    have h2 : sysModules < D := Nat.lt_trans (Nat.lt_of_lt_of_le h1 F5.above) hDLt
    exact beq_eq_false_iff_ne.mpr (Nat.ne_of_gt h2)
  have hkl := keyed_len ms
  clear F4 N4
  walk1
  refine PySem.call_len_dict (knd := intKind prog w) hsys hd (by omega) ?_
  k_steps
  have hb : (((keyed ms).length : Int) == (ends.length : Int) + 1) = true := by
    rw [beq_iff_eq, hends]; omega
  rw [hb]
  exact hQ _ F5.keep hG4
end
end Mine2
end
end
section
open PySem PySem.W PyProof.Rows PyProof.V Mine
set_option maxRecDepth 100000
set_option maxHeartbeats 8000000
namespace Mine2
section
variable {w : World} {mg mb : Str → Option Value} {dp un : Nat} {gd : Option (List Code)} {s : Shared} {Q : Flow → Shared → Prop} {E : Value → Shared → Prop}
theorem law_body {base : Heap} {L fa ls : Addr} {cd : Value} {m : Str → Option Value} {vals : List Value} {ns : List Int} {q1 q2 q3 : Obj} (PB : PW w mg mb base)
    (hdp : dp ≤ 310) (hu : un ≤ 3000) (hl : base.IsList ls vals.toArray) (hi : IntsAre vals ns) (hns : ns.length ≤ 63)
    (F : Fr base L s.heap m) (N : News base L s.heap [(L + 1 + 1 + 1, q3), (L + 1 + 1, q2), (L + 1, q1)])
    (d1 : q1.data = .cell (some (.ref ls))) (d2 : q2.data = .cell none) (d3 : q3.data = .cell none)
    (hQ : ∀ s', GExt NoG s.gens s'.gens s.os s'.os → KeepAll base s'.heap → Q (.ret (.bool true)) s') :
    wpAny (model prog w) ((Ar dp un (some []) gd).deeper (envOfC (Str.ofString "law") lawDef.2 L fa cd)) (execs (lawDef.1.drop 0) (envOfC (Str.ofString "law") lawDef.2 L fa cd)) Q E s := by
  refine law_1 PB hdp hu hl hi hns F N d1 d2 d3 fun s1 tx ws ys hy6 hy1 hy8 hws g1 F1 N1 hlt => ?_
  have hA : AncOk anc ys := ancOk hy8
  have hanc8 : ∀ y ∈ ys, (anc y).length ≤ 8 := fun y hy => (hA y hy).2.2
  refine law_loop (anc := anc) PB hdp hu hws hy6 hA d3 hlt F1 N1 (if_pos rfl) fun s2 P T ms m2 tk mt vt vm c1 cm q3' hP G F2 e1 e2 d3' hvt hvm hne N2 g2 => ?_
  have hlen := G.len hanc8
  have hTl : T.length ≤ 48 := by omega
  have hml : ms.length ≤ 7 := by omega
  have f1 : (ys.flatMap fun y => (anc y).take 1).length ≤ 48 := flat_len (fun y hy => Nat.le_trans (by rw [List.length_take]; exact Nat.min_le_right _ _) (hanc8 y hy)) hy6
  have f2 : (ys.flatMap fun y => (anc y).tail).length ≤ 48 := flat_len (fun y hy => Nat.le_trans (by rw [List.length_tail]; exact Nat.sub_le _ _) (hanc8 y hy)) hy6
  refine law_low (anc := anc) (R := [(mt, listObj vm cm), (L + 1 + 1 + 1, q3'), (tk, listObj vt c1)]) PB hdp hu hws hy6 hA (by omega) F2 (allC (N2 _ (by k_mem)) (allC (N2 _ (by k_mem)) (allC (N2 _ (by k_mem)) (allC (N2 _ (by k_mem)) allN)))) e1 fun s3 D o g3 F3 N3 hdd hsys hlt3 => ?_
  have hkl := keyed_len (ys.flatMap fun y => (anc y).take 1)
  refine law_ends (anc := anc) PB hdp hu hws hy6 hA (by omega) hdd hsys (by omega) F3 N3 ((if_neg (by decide)).trans e1) (if_pos rfl) fun s4 en ve ce g4 F4 N4 hve hlt4 => ?_
  obtain ⟨h1, h2⟩ := law2_all G hP
  refine law_end (R := []) PB hdp hu hws hy6 hvt hTl hvm hml hy8 hve (Nat.le_trans (List.length_filter_le _ _) (by rw [List.length_map]; omega)) rfl d3' h1 h2 (law2_most G hP) (law2_ends G hP) F4
    (allC (N4 _ (by k_mem)) (allC (N4 _ (by k_mem)) (allC (N4 _ (by k_mem)) (allC (N4 _ (by k_mem)) (allC (N4 _ (by k_mem)) allN)))))
    ((if_neg (by decide)).trans ((if_neg (by decide)).trans e1)) ((if_neg (by decide)).trans ((if_neg (by decide)).trans e2)) (if_pos rfl) fun s5 k5 g5 => ?_
  exact hQ _ ((((g1.trans g2).trans g3).trans g4).trans g5) k5
end
end Mine2
end
section
open PySem PySem.W PyProof.Rows Mine
set_option maxRecDepth 100000
set_option maxHeartbeats 8000000
namespace Mine2
theorem top_ : PySem.Challenge.rw_kl0057_02.Holds := by
  refine hd ?_
  k_fill
  intro w s₀ s₁ mg mb G Y fa o pm cd doc dV kV ho hd hcd hD hmg hg args vals as hpre hlay hrd hwl hlo
  have KX := kIn_of Y
  have X := (Ground.X G).1
  have V := (Ground.X G).2
  refine Ground.open G ?_
  intro T B D TE TW
  x_fa T KX hmg
  clear ho hd hcd hD B D TE TW X V Y
  wrow_args hpre hlay hrd hwl hlo
  rename_i ns as0 as1 ls vs as2 hL ra w1 r0 hI hr hc1 hc2
  clear hmg
  have PB : PW w mg mb s₁.heap := ⟨KX, topRead_of T⟩
  have ho : s₁.heap.get? 177 = some _ := KX 177 _ (by k_is)
  show wpAny _ (Ar (1 + claimMargin) 4 (some []) (some [])) (PySem.call (Value.ref 177) [Value.ref ls]) _ _ _
  refine wpAny_call ?_
  refine' enterC (base := s₁.heap) (fun _ _ e => e) (Nat.le_refl _) Led.nil ?e1 ho ?e2 T.nolimit ?e3 ?e4 ?e5 ?e6 ?_ ?e7 ?e8 ?e9
  case e2 => exact rfl
  case e1 => decide
  case e3 => exact ⟨176, _, _, _, rfl, KX 176 _ (by k_is), rfl, rfl⟩
  case e4 => rfl
  case e5 => exact kindsX rfl
  case e6 => decide
  case e7 => rfl
  case e8 => rfl
  case e9 => rfl
  clear ho
  intro L h₁ tk cells F N l1 Y kh hL'
  obtain ⟨q3, q2, q1, rfl, c3, c2, c1⟩ := Y.three
  clear Y
  replace c1 := show _ = Data.cell (some (.ref ls)) from c1
  replace c2 := show _ = Data.cell none from c2
  replace c3 := show _ = Data.cell none from c3
  simp only [List.cons_append, List.nil_append] at N
  change wpAny (model prog w) ((Ar (1 + claimMargin) 4 (some []) (some [])).deeper (envOfC (Str.ofString "law") lawDef.2 L 177 (.ref 176))) (execs (lawDef.1.drop 0) (envOfC (Str.ofString "law") lawDef.2 L 177 (.ref 176))) _ _ _
  refine law_body PB (by decide) (by decide) hL hI (by omega) F N c1 c2 c3 fun s' hg' hK => ?_
  show GoodWG _ _ _ _ s₁ (.ok (.ret (.bool true))) s'
  refine ⟨.inl ⟨_, .bool true, [], rfl, fun cls => ?_, .bool true, ?_, fun _ => ⟨.nil, fun _ ha => nomatch ha⟩⟩, ⟨fun b o e => ?_, fun b o e => ?_⟩, hg'.os, ?_⟩
  · first | rfl | kernel_rfl
  · first | rfl | kernel_rfl
  · exact .inl (hK b o e)
  · exact ⟨_, hK b o e⟩
  · exact hg'.bare (by rw [hg]; exact AllBare.empty)
end Mine2
end
open PySem PySem.W PyProof.Rows
theorem PySem.Challenge.cw_kl0057_02_holds : PySem.Challenge.rw_kl0057_02.Holds := by
  exact Mine2.top_
